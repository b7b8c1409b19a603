import JvmDerived
import JvmDerived.Pilot.@@N@@Statement
import JvmDerived.Pilot.@@N@@Code
set_option linter.unusedVariables false
set_option linter.unusedSimpArgs false
namespace Jvm.RoadKit
open Sem ClassFile Op Lib Jvm.Stand Jvm.Free Jvm.LawKit
section New
variable {p : Program} {l : Launch} {e : Env} {R : Room} {s : State} {m : MethodId} {args : Array Value} {below : List Frame} {meth : Method} {c : Code} {T : State} {locs : List Loc} {cells slots : Nat}
theorem retI (X : Stand p l e R s m args below meth c T locs cells slots) (hx : p.tables.exec = Jvm.exec) {pc : Nat} {Ls : Array Slot} {z : Int32} {rest : List Value} (hret : meth.sig.returnType = some .int) (hd : decode c.code pc = .ok (.ireturn, 1)) {fs : List Frame}
    (hl : ∀ (f : JFrame) (acts : List Action), f.method = m → f.locked = none → f.entered = [] → (doReturn e (T.setTop f) acts (some (.int z))).1 = T.setFrames fs) : Steps p.tables e below (T.setTop (mkF m pc Ls (.int z :: rest))) (T.setFrames fs) := by
  have hm' : T.vm.method? m = some meth := X.method'
  have hn : narrow .int (.int z) = .int z := rfl
  show Steps p.tables e below (T.setTop { method := m, pc := pc, locals := Ls, stack := _ :: rest, locked := none }) _
  jvm_step X.here [X.here.top, hx, hd, hm', hret, hn]
  first | (intro acts; rw [hl _ acts rfl rfl rfl]) | rw [hl _ _ rfl rfl rfl]
  exact Steps.refl _
end New
end Jvm.RoadKit
namespace Jvm.Pilot.@@N@@
open Jvm Jvm.ClassFile Sem Op Lib Jvm.Free Jvm.Stand Jvm.LawKit Jvm.RoadKit Bundle Jvm.Pilot.@@N@@.Jvm.D
/-- from the state A the run comes to the frame f over T -/
abbrev Go (tb : Tables) (e : Env) (below : List Frame) (A T : State) (f : JFrame) : Prop := ∀ t, Steps tb e below (T.setTop f) t → Steps tb e below A t

def own_sh (z : Int64) (k : Int32) : Int64 := (z.toUInt64 >>> (k &&& 0x3f).toInt64.toUInt64).toInt64
def own_b8 (x : Int64) : Int32 := x.toInt32.toInt8.toInt32.toInt8.toInt32
def own_put (v : Int64) (g s : Int32) : Int64 := v ||| ((g &&& (127 : Int32)).toInt64 <<< (s &&& 0x3f).toInt64)
def own_dec : Nat → Int64 → Int64 → Int32 → Int64
  | 0, r, v, s => own_put v (own_b8 r) s
  | k + 1, r, v, s => if r < 128 then own_put v (own_b8 r) s else own_dec k (own_sh r 7) (own_put v (own_b8 (r ||| 128)) s) (s + 7)
theorem own_m7 (j : Nat) : (127#32).getLsbD j = decide (j < 7) := by
  by_cases h : j < 32
  · have : ∀ k : Fin 32, (127#32).getLsbD k.val = decide (k.val < 7) := by decide
    exact this ⟨j, h⟩
  · rw [BitVec.getLsbD_of_ge _ _ (by omega)]; exact (decide_eq_false (by omega)).symm
theorem own_m7L (j : Nat) : (127#64).getLsbD j = decide (j < 7) := by
  by_cases h : j < 64
  · have : ∀ k : Fin 64, (127#64).getLsbD k.val = decide (k.val < 7) := by decide
    exact this ⟨j, h⟩
  · rw [BitVec.getLsbD_of_ge _ _ (by omega)]; exact (decide_eq_false (by omega)).symm
theorem own_b8_low (x : Int64) (i : Nat) (h : i < 8) : (own_b8 x).toBitVec.getLsbD i = x.toBitVec.getLsbD i := by
  unfold own_b8
  simp only [Int8.toInt8_toInt32, Int8.toBitVec_toInt32, Int32.toBitVec_toInt8, Int64.toBitVec_toInt32]
  rw [BitVec.getLsbD_signExtend, decide_eq_true (by omega), Bool.true_and, if_pos h, BitVec.getLsbD_signExtend, decide_eq_true (by omega), Bool.true_and, if_pos (by omega), BitVec.getLsbD_signExtend, decide_eq_true (by omega), Bool.true_and, if_pos (by omega)]
theorem own_b8_127 (x : Int64) : ((own_b8 x &&& (127 : Int32)).toInt64).toBitVec = x.toBitVec &&& 127#64 := by
  rw [Int32.toBitVec_toInt64, Int32.toBitVec_and]
  show ((own_b8 x).toBitVec &&& 127#32).signExtend 64 = _
  apply BitVec.eq_of_getLsbD_eq
  intro i hi
  rw [BitVec.getLsbD_signExtend, decide_eq_true hi, Bool.true_and, BitVec.getLsbD_and, BitVec.getLsbD_and, own_m7, own_m7L]
  by_cases h : i < 32
  · rw [if_pos h]
    by_cases h7 : i < 7
    · rw [own_b8_low x i (by omega)]
    · rw [decide_eq_false h7, Bool.and_false, Bool.and_false]
  · rw [if_neg h, decide_eq_false (p := i < 7) (by omega), Bool.and_false]
    rw [BitVec.msb_eq_getLsbD_last, BitVec.getLsbD_and, own_m7]
    simp
theorem own_put_bits (v : Int64) (x : Int64) (i : Nat) (hi : i < 9) : (own_put v (own_b8 x) (Int32.ofNat (7 * i))).toBitVec = v.toBitVec ||| ((x.toBitVec &&& 127#64) <<< (7 * i)) := by
  unfold own_put
  rw [Int64.toBitVec_or, Int64.toBitVec_shiftLeft, BitVec.shiftLeft_eq', own_b8_127]
  have : ∀ i : Fin 9, ((Int32.ofNat (7 * i.val) &&& 0x3f).toInt64.toBitVec.smod 64).toNat = 7 * i.val := by decide
  rw [this ⟨i, hi⟩]
theorem own_sh7 (r : Int64) : (own_sh r 7).toBitVec = r.toBitVec >>> 7 := by simp [own_sh]
theorem own_join (x : BitVec 64) (n : Nat) : ((x &&& 127#64) <<< n) ||| ((x >>> 7) <<< (n + 7)) = x <<< n := by
  apply BitVec.eq_of_getLsbD_eq
  intro i hi
  simp only [BitVec.getLsbD_or, BitVec.getLsbD_shiftLeft, BitVec.getLsbD_and, BitVec.getLsbD_ushiftRight, own_m7L, hi, decide_true, Bool.true_and]
  by_cases h1 : i < n
  · rw [decide_eq_true h1, decide_eq_true (p := i < n + 7) (by omega)]; rfl
  · rw [decide_eq_false h1]
    by_cases h2 : i < n + 7
    · rw [decide_eq_true h2, decide_eq_true (p := i - n < 7) (by omega)]; cases x.getLsbD (i - n) <;> rfl
    · rw [decide_eq_false h2, decide_eq_false (p := i - n < 7) (by omega), show 7 + (i - (n + 7)) = i - n by omega]; cases x.getLsbD (i - n) <;> rfl
theorem own_or128 (x : BitVec 64) : (x ||| 128#64) &&& 127#64 = x &&& 127#64 := by
  apply BitVec.eq_of_getLsbD_eq
  intro i hi
  have h128 : ∀ j : Fin 64, (128#64).getLsbD j.val = decide (j.val = 7) := by decide
  rw [BitVec.getLsbD_and, BitVec.getLsbD_or, BitVec.getLsbD_and, own_m7L, h128 ⟨i, hi⟩]
  by_cases h : i < 7
  · rw [decide_eq_false (p := i = 7) (by omega), Bool.or_false]
  · rw [decide_eq_false h, Bool.and_false, Bool.and_false]
theorem own_small (r : Int64) (h0 : 0 ≤ r.toInt) (h1 : r.toInt < 128) : r.toBitVec &&& 127#64 = r.toBitVec := by
  have e : r.toBitVec.toNat < 128 := by
    change 0 ≤ r.toBitVec.toInt at h0; change r.toBitVec.toInt < 128 at h1
    have hl := r.toBitVec.isLt
    rw [BitVec.toInt_eq_toNat_cond] at h0 h1
    split at h0 <;> split at h1 <;> omega
  apply BitVec.eq_of_toNat_eq
  rw [BitVec.toNat_and]
  show r.toBitVec.toNat &&& (2 ^ 7 - 1) = _
  rw [Nat.and_two_pow_sub_one_eq_mod]; exact Nat.mod_eq_of_lt e
theorem own_sh7_int (r : Int64) (h0 : 0 ≤ r.toInt) : (own_sh r 7).toInt = r.toInt / 128 := by
  have hl := r.toBitVec.isLt
  change 0 ≤ r.toBitVec.toInt at h0
  show (own_sh r 7).toBitVec.toInt = r.toBitVec.toInt / 128
  rw [own_sh7]
  have e : (r.toBitVec >>> 7).toNat = r.toBitVec.toNat / 128 := by rw [BitVec.toNat_ushiftRight, Nat.shiftRight_eq_div_pow]
  rw [BitVec.toInt_eq_toNat_cond] at h0 ⊢
  rw [BitVec.toInt_eq_toNat_cond, e]
  split at h0 <;> split <;> omega
theorem own_lt128 (r : Int64) : r < 128 ↔ r.toInt < 128 := by rw [Int64.lt_iff_toInt_lt]; exact Iff.rfl
theorem own_dec_bits : ∀ (k i : Nat), k + i = 8 → ∀ (r v : Int64), 0 ≤ r.toInt → r.toInt < 128 ^ (k + 1) → (own_dec k r v (Int32.ofNat (7 * i))).toBitVec = v.toBitVec ||| (r.toBitVec <<< (7 * i))
  | 0, i, hk, r, v, h0, h1 => by
    show (own_put v (own_b8 r) _).toBitVec = _
    rw [own_put_bits v r i (by omega), own_small r h0 (by simpa using h1)]
  | k + 1, i, hk, r, v, h0, h1 => by
    unfold own_dec
    by_cases h : r < 128
    · rw [if_pos h, own_put_bits v r i (by omega), own_small r h0 ((own_lt128 r).mp h)]
    · rw [if_neg h]
      have e7 : Int32.ofNat (7 * i) + 7 = Int32.ofNat (7 * (i + 1)) := by
        have : ∀ i : Fin 9, Int32.ofNat (7 * i.val) + 7 = Int32.ofNat (7 * (i.val + 1)) := by decide
        exact this ⟨i, by omega⟩
      have hs := own_sh7_int r h0
      rw [e7, own_dec_bits k (i + 1) (by omega) _ _ (by omega) (by rw [hs]; rw [Int.pow_succ] at h1; omega), own_put_bits v _ i (by omega), Int64.toBitVec_or]
      show v.toBitVec ||| ((r.toBitVec ||| 128#64) &&& 127#64) <<< (7 * i) ||| _ = _
      rw [own_or128, own_sh7, show 7 * (i + 1) = 7 * i + 7 by omega, BitVec.or_assoc, own_join]
theorem own_dec_eq (r : Int64) (h0 : 0 ≤ r.toInt) : own_dec 8 r 0 0 = r := by
  apply Int64.toBitVec_inj.mp
  have := own_dec_bits 8 0 rfl r 0 h0 (by have := r.toInt_lt; omega)
  rw [show Int32.ofNat (7 * 0) = 0 from rfl] at this
  rw [this]
  simp
theorem own_b8_int (x : Int64) : ((own_b8 x).toInt - x.toInt) % 256 = 0 ∧ -128 ≤ (own_b8 x).toInt ∧ (own_b8 x).toInt < 128 := by
  unfold own_b8
  simp only [Int8.toInt8_toInt32, Int8.toInt_toInt32, Int32.toInt_toInt8, Int64.toInt_toInt32]
  have a := Int.bmod_emod (x := x.toInt) (m := 2 ^ 32)
  have b := Int.bmod_emod (x := x.toInt.bmod (2 ^ 32)) (m := 2 ^ 8)
  have c := Int.le_bmod (x := x.toInt.bmod (2 ^ 32)) (m := 2 ^ 8) (by decide)
  have d := Int.bmod_lt (x := x.toInt.bmod (2 ^ 32)) (m := 2 ^ 8) (by decide)
  omega
theorem own_b8_pos (r : Int64) (h0 : 0 ≤ r.toInt) (h1 : r.toInt < 128) : ¬ own_b8 r < 0 := by
  have := own_b8_int r
  rw [Int32.lt_iff_toInt_lt, show (0 : Int32).toInt = 0 from rfl]; omega
theorem own_b8_neg (r : Int64) : own_b8 (r ||| 128) < 0 := by
  have h := own_b8_int (r ||| 128)
  have hb : (r ||| 128).toInt % 256 ≥ 128 := by
    have e : (r ||| 128).toBitVec = r.toBitVec ||| 128#64 := by rw [Int64.toBitVec_or]; rfl
    have hb7 : (r.toBitVec ||| 128#64).toNat.testBit 7 = true := by
      rw [BitVec.toNat_or, Nat.testBit_or]
      rw [show (128#64).toNat.testBit 7 = true from by decide, Bool.or_true]
    show (r ||| 128).toBitVec.toInt % 256 ≥ 128
    rw [e]
    generalize r.toBitVec ||| 128#64 = y at hb7
    have hl := y.isLt
    rw [Nat.testBit_eq_decide_div_mod_eq, decide_eq_true_eq] at hb7
    rw [BitVec.toInt_eq_toNat_cond]
    split <;> omega
  rw [Int32.lt_iff_toInt_lt, show (0 : Int32).toInt = 0 from rfl]; omega
def own_enc : Nat → Int64 → List Value
  | 0, r => [.int (own_b8 r)]
  | k + 1, r => if r < 128 then [.int (own_b8 r)] else .int (own_b8 (r ||| 128)) :: own_enc k (own_sh r 7)
theorem own_enc_len : ∀ (k : Nat) (r : Int64), (own_enc k r).length ≤ k + 1
  | 0, r => Nat.le_refl _
  | k + 1, r => by
    unfold own_enc; split
    · show 1 ≤ _; omega
    · have := own_enc_len k (own_sh r 7)
      show (own_enc k (own_sh r 7)).length + 1 ≤ _; omega
def own_n (vs : List Value) : Int32 := Int32.ofNat vs.length
theorem own_nz (n : Nat) (h : n < 65536) : (Int32.ofNat n).toInt = n ∧ (Int32.ofNat n).toNatClampNeg = n := by
  have e : (Int32.ofNat n).toInt = n := Int32.toInt_ofNat_small (by omega)
  exact ⟨e, by simp only [Int32.toNatClampNeg, e]; omega⟩
theorem own_nin (vs : List Value) (h : vs.length < 65536) : ¬ own_n vs < 0 ∧ own_n vs < (65536 : Int32) := by
  have e := (own_nz vs.length h).1
  rw [Int32.lt_iff_toInt_lt, Int32.lt_iff_toInt_lt, own_n, e, show (0 : Int32).toInt = 0 from rfl, show (65536 : Int32).toInt = 65536 from rfl]; omega
theorem own_nsucc (vs : List Value) (v : Value) : own_n vs + (1 : Int32) = own_n (vs ++ [v]) := by
  rw [own_n, own_n, List.length_append]; exact (inc_ofNat vs.length).symm
theorem own_nroom (vs : List Value) (h : vs.length ≤ 65526) : ¬ ((65536 : Int32) - own_n vs) < (10 : Int32) := by
  have e := (own_nz vs.length (by omega)).1
  have a := c_isub 65536 (own_n vs); have r := rng32 ((65536 : Int32) - own_n vs)
  rw [own_n] at a r ⊢
  rw [e, show (65536 : Int32).toInt = 65536 from rfl] at a
  rw [Int32.lt_iff_toInt_lt, show (10 : Int32).toInt = 10 from rfl]; omega
theorem own_push {Z : State} {h h' : Heap} {a : Addr} {k : ClassId} {ty : FieldType} {z : Int32} {vs : List Value} {dv v : Value} (A : Arv Z h a k ty z vs dv) (hv : fits ty v = true) (W : Wr h h' a (own_n vs).toNatClampNeg v) (hl : vs.length < 65536) : Arv Z h' a k ty z (vs ++ [v]) dv := by
  obtain ⟨c, Ar, q, S, M, H, G⟩ := A.pad (pad_rep vs dv 1)
  have e := (own_nz vs.length hl).2
  have B := Arv.set Ar q S M H G hv W vs.length e (by simp)
  have : (vs ++ List.replicate 1 dv).set vs.length v = vs ++ [v] := by simp
  rw [this] at B; exact B
theorem own_getD (pre suf : List Value) (v dv : Value) (h : pre.length < 65536) : (pre ++ v :: suf).getD (own_n pre).toNatClampNeg dv = v := by
  rw [own_n, (own_nz pre.length h).2]; simp
def own_max (p q : Int32) : Int32 := if p < q then q else p
def own_pos (z p : Int32) : Int64 := (z - (1 : Int32)).toInt64 * (65536 : Int64) + p.toInt64
theorem own_pos1 (vs : List Value) (h : vs.length < 65536) : own_pos (1 : Int32) (own_n vs) = (own_n vs).toInt64 := by
  unfold own_pos
  rw [show ((1 : Int32) - (1 : Int32)).toInt64 * (65536 : Int64) = 0 from by decide, Int64.zero_add]
theorem own_div (vs : List Value) (h : vs.length < 65536) : ((own_n vs).toInt64 / (65536 : Int64)).toInt32 = (0 : Int32) ∧ ((own_n vs).toInt64 - (own_n vs).toInt64 / (65536 : Int64) * (65536 : Int64)).toInt32 = own_n vs := by
  have e := (own_nz vs.length h).1
  have i : (own_n vs).toInt64.toInt = vs.length := by rw [c_i2l, own_n, e]
  have d := (c_ldiv (own_n vs).toInt64 65536 65536 rfl (by decide)).1 (by omega)
  have m := (c_lrem (own_n vs).toInt64 65536 65536 rfl).1 (by omega)
  have d0 : ((own_n vs).toInt64 / (65536 : Int64)) = 0 := Int64.toInt_inj.mp (by rw [d, i]; show (vs.length : Int) / 65536 = 0; omega)
  have m0 : ((own_n vs).toInt64 - (own_n vs).toInt64 / (65536 : Int64) * (65536 : Int64)) = (own_n vs).toInt64 := Int64.toInt_inj.mp (by rw [m, i]; omega)
  constructor
  · rw [d0]; decide
  · rw [m0]; exact Int32.toInt32_toInt64 _
theorem own_pos63 (x : Int64) : 0 ≤ (x &&& (9223372036854775807 : Int64)).toInt := by
  have := c_maskL x 9223372036854775807 63 (by decide) (by decide)
  rw [this]; omega
def own_pk (k : Int32) (a b c : Int64) : Int64 := if k = 0 then a else if k = 1 then b else c
theorem own_mod3 (x : Int32) : ((x &&& (2147483647 : Int32)) % (3 : Int32)) = 0 ∨ ((x &&& (2147483647 : Int32)) % (3 : Int32)) = 1 ∨ ((x &&& (2147483647 : Int32)) % (3 : Int32)) = 2 := by
  have h := (c_and x 2147483647 (by decide)).1
  have e := (c_irem (x &&& (2147483647 : Int32)) 3 3 rfl).1 h
  simp only [← Int32.toInt_inj, e, show (0 : Int32).toInt = 0 from rfl, show (1 : Int32).toInt = 1 from rfl, show (2 : Int32).toInt = 2 from rfl]
  omega

theorem own_l0 (a b c : List Value) : ((([] : List Value) ++ a) ++ b) ++ c = ([] : List Value) ++ (a ++ (b ++ c)) := by simp
theorem own_l1 (a b c : List Value) : ((([] : List Value) ++ a) ++ b) ++ c = (([] : List Value) ++ a) ++ (b ++ c) := by simp
theorem own_l2 (a b c : List Value) : ((([] : List Value) ++ a) ++ b) ++ c = ((([] : List Value) ++ a) ++ b) ++ (c ++ ([] : List Value)) := by simp
theorem own_nonneg {q : Int64} (h : 0 ≤ q.toInt) : ¬ q < (0 : Int64) := by rw [Int64.lt_iff_toInt_lt, show (0 : Int64).toInt = 0 from rfl]; omega
theorem own_lt9 {q : Int64} (h : 0 ≤ q.toInt) : q.toInt < 128 ^ (8 + 1) := by have := q.toInt_lt; omega
theorem own_p0 : own_pos (0 : Int32) (65536 : Int32) = (own_n []).toInt64 := by decide
theorem own_pos1' (vs : List Value) : own_pos ((0 : Int32) + (1 : Int32)) (own_n vs) = (own_n vs).toInt64 := by
  unfold own_pos
  rw [show ((0 : Int32) + (1 : Int32) - (1 : Int32)).toInt64 * (65536 : Int64) = 0 from by decide, Int64.zero_add]

theorem own_len {args : Array Value} {s : State} {t : Term} {a : Addr} {c : Cell} {ty : FieldType} {z : Int32} (et : t.eval args s none [] s = some (.ref a)) (A : Arr s s.heap a c ty) (h : (Term.length t).eval args s none [] s = some (.int z)) : c.slots.size < 2 ^ 31 ∧ c.slots.size.toInt32 = z := by
  have ha := A.fin (Vm.Alike.refl _)
  by_cases q : c.slots.size < 2 ^ 31
  · have e := len_f et ha q
    exact ⟨q, Value.int.inj (Option.some.inj (e.symm.trans h))⟩
  · simp [Term.eval, et, ha, q] at h

theorem pd_0 : parseMethodDescriptor "()V" = some ⟨[], none⟩ := by decide +kernel
theorem pd_1 : parseMethodDescriptor "()I" = some ⟨[], some .int⟩ := by decide +kernel
theorem pd_2 : parseMethodDescriptor "(II)I" = some ⟨[.int, .int], some .int⟩ := by decide +kernel
theorem pd_3 : parseMethodDescriptor "(I)[Ljava/lang/Object;" = some ⟨[.int], some (.array (.object "java/lang/Object"))⟩ := by decide +kernel
theorem pd_4 : parseMethodDescriptor "()[Ljava/lang/Object;" = some ⟨[], some (.array (.object "java/lang/Object"))⟩ := by decide +kernel
theorem pd_5 : parseMethodDescriptor "(Ljava/lang/Object;[Ljava/lang/Object;I)V" = some ⟨[(.object "java/lang/Object"), (.array (.object "java/lang/Object")), .int], none⟩ := by decide +kernel
theorem pd_6 : parseMethodDescriptor "(Ljava/lang/Object;)Z" = some ⟨[(.object "java/lang/Object")], some .boolean⟩ := by decide +kernel
theorem pd_7 : parseMethodDescriptor "(IILjava/util/function/BiFunction;)I" = some ⟨[.int, .int, (.object "java/util/function/BiFunction")], some .int⟩ := by decide +kernel
theorem pd_8 : parseMethodDescriptor "(I)Ljava/lang/Object;" = some ⟨[.int], some (.object "java/lang/Object")⟩ := by decide +kernel
theorem pd_9 : parseMethodDescriptor "()J" = some ⟨[], some .long⟩ := by decide +kernel
theorem pd_10 : parseMethodDescriptor "(J)V" = some ⟨[.long], none⟩ := by decide +kernel
theorem pd_11 : parseMethodDescriptor "(Ljava/lang/Object;)Ljava/lang/Object;" = some ⟨[(.object "java/lang/Object")], some (.object "java/lang/Object")⟩ := by decide +kernel
theorem pd_12 : parseMethodDescriptor "(Lcom/example/zhangtiao/zhangtiao/input/VarLongs;)V" = some ⟨[(.object "com/example/zhangtiao/zhangtiao/input/VarLongs")], none⟩ := by decide +kernel
theorem pd_13 : parseMethodDescriptor "(IJJJ)J" = some ⟨[.int, .long, .long, .long], some .long⟩ := by decide +kernel
theorem d5_0 : decode jdk_22_method_1_code 0 = .ok (.aload_n 0, 1) := by decide +kernel
theorem d5_1 : decode jdk_22_method_1_code 1 = .ok (.invokespecial 1, 3) := by decide +kernel
theorem d5_4 : decode jdk_22_method_1_code 4 = .ok (.return_, 1) := by decide +kernel
theorem pn_aci : plainName "java/util/AbstractCollection" = true := by first | (simp [plainName, overriddenIn]; done) | decide +kernel
theorem ef_aci (m : MethodId) (a0 : Addr) : entryFrame m #[(.ref a0)] 1 = mkF m 0 #[.val (.ref a0)] [] := by first | (simp [entryFrame, mkF, argsToLocals, Value.category]; done) | rfl
def Q_aci (Z : State) (a0 : Addr) (h0 : Heap) (n0 : Nat) (v : Option Value) (h : Heap) (L : List Loc) : Prop := v = none ∧ Fr n0 L ∧ h = h0
set_option maxRecDepth 65536 in
set_option maxHeartbeats 40000000 in
theorem rm_aci (l : Launch) (Z : State) (av0 : Array Value) (hw : ∀ d ∈ tables_1, d.before av0 Z = true) (ws : List Jvm.Cond) (a0 : Addr) (h0 : Heap) (n0 : Nat) :
    MetFree l (⟨"java/util/AbstractCollection", "<init>", "()V"⟩ : MethodName) (head1 (Jvm.Cond.code (⟨"java/util/AbstractCollection", "<init>", "()V"⟩ : MethodName) jdk_22_method_1_code 1 none :: ws) ({ frames := 1, cells := 0, slots := 0, locals := 12 } : Room)) (fun a U => a = #[(.ref a0)] ∧ Z.Warmed39 U.vm ∧ U.heap = h0) (fun _ _ _ _ _ => True) (fun _ U o U' => ∃ v L, o = .returned v ∧ Q_aci Z a0 h0 n0 v U'.heap L ∧ FrameEnd U o U' L ({ frames := 1, cells := 0, slots := 0, locals := 12 } : Room).cells ({ frames := 1, cells := 0, slots := 0, locals := 12 } : Room).slots) := by
  refine MetFree.of_bodySF (plainFor_of_name pn_aci) hisR ?_
  intro p e s m args below meth c s₁ Bd hml0 hP hK
  obtain ⟨rfl, hZ, hh⟩ := hP
  have hx := Bd.exec
  have hby := Bd.bytes
  have hml : c.maxLocals = 1 := hml0
  have hown : s.vm.findClass "java/util/AbstractCollection" = some m.cls := findClass_of_methodNamed Bd.named
  have hnm := (name_of_methodNamed Bd.named Bd.method).1
  have X0 : Stand p l e ({ frames := 1, cells := 0, slots := 0, locals := 12 } : Room) s m #[(.ref a0)] below meth c s₁ [] 0 0 := Stand.of_body Bd
  have e0 : s₁.heap = h0 := by rw [← hh, Bd.state]; rfl
  have N0 := Fr.nil n0
  have pre0 : Go p.tables e below (s₁.setTop (entryFrame m #[(.ref a0)] 1)) s₁ (mkF m 0 #[.val (.ref a0)] []) := fun t k => castTop (ef_aci m a0) k
  have pre1 : Go p.tables e below (s₁.setTop (entryFrame m #[(.ref a0)] 1)) s₁ (mkF m 1 #[.val (.ref a0)] [(.ref a0)]) := fun t k => pre0 t (by
      refine XS.aloadN X0.here hx rfl (hb hby d5_0) rfl rfl ?_
      exact k)
  obtain ⟨T2, X2, e2, st2⟩ := initO X0 hx hZ hown (hw _ (List.mem_of_getElem? (i := 28) rfl)) (hw _ (List.mem_of_getElem? (i := 8) rfl)) (hw _ (List.mem_of_getElem? (i := 9) rfl)) e0 (g := (mkF m 1 #[.val (.ref a0)] [(.ref a0)])) rfl (by rw [hml]; rfl) rfl (hb hby d5_1) (by decide) (W := 0) (by show 2 * 0 + _ ≤ _; exact Nat.le_of_eq rfl) (by decide)
  have pre2 : Go p.tables e below (s₁.setTop (entryFrame m #[(.ref a0)] 1)) T2 (mkF m 4 #[.val (.ref a0)] []) := fun t k => pre1 t (st2 _ k)
  obtain ⟨fs, hr, hrun, hended, hW, hsame⟩ := X2.leave (v := none) (fun _ => rfl) (BodyLoose.notSynchronized Bd)
  refine ⟨_, _, pre2 _ ?_, hrun, hended, _, _, rfl, ?_, ⟨_, rfl⟩, hW, hsame.mono (Nat.le_of_ble_eq_true rfl) (Nat.le_of_ble_eq_true rfl)⟩
  · exact X2.returnOut hx Bd.returns (hb hby d5_4) hr
  · show Q_aci Z a0 h0 n0 _ T2.heap _
    rw [e2]
    exact ⟨rfl, N0, rfl⟩
theorem d4_0 : decode jdk_39_method_1_code 0 = .ok (.aload_n 0, 1) := by decide +kernel
theorem d4_1 : decode jdk_39_method_1_code 1 = .ok (.invokespecial 1, 3) := by decide +kernel
theorem d4_4 : decode jdk_39_method_1_code 4 = .ok (.aload_n 0, 1) := by decide +kernel
theorem d4_5 : decode jdk_39_method_1_code 5 = .ok (.iconst 0, 1) := by decide +kernel
theorem d4_6 : decode jdk_39_method_1_code 6 = .ok (.putfield 7, 3) := by decide +kernel
theorem d4_9 : decode jdk_39_method_1_code 9 = .ok (.return_, 1) := by decide +kernel
theorem pn_ali : plainName "java/util/AbstractList" = true := by first | (simp [plainName, overriddenIn]; done) | decide +kernel
theorem ef_ali (m : MethodId) (a0 : Addr) : entryFrame m #[(.ref a0)] 1 = mkF m 0 #[.val (.ref a0)] [] := by first | (simp [entryFrame, mkF, argsToLocals, Value.category]; done) | rfl
def Q_ali (Z : State) (a0 : Addr) (h0 : Heap) (n0 : Nat) (v : Option Value) (h : Heap) (L : List Loc) : Prop := v = none ∧ Fr n0 L ∧ Keep h0 h [a0] ∧ Fld Z h a0 "java/util/AbstractList" "modCount" "I" (.int (0 : Int32)) ∧ Fld Z h a0 "java/util/ArrayList" "elementData" "[Ljava/lang/Object;" .null ∧ Fld Z h a0 "java/util/ArrayList" "size" "I" (.int (0 : Int32)) ∧ Exa Z h a0 "java/util/ArrayList"
set_option maxRecDepth 65536 in
set_option maxHeartbeats 40000000 in
theorem rm_ali (l : Launch) (Z : State) (av0 : Array Value) (hw : ∀ d ∈ tables_1, d.before av0 Z = true) (ws : List Jvm.Cond) (a0 : Addr) (h0 : Heap) (n0 : Nat) (Z0 : n0 ≤ h0.size) (fi0 : Fld Z h0 a0 "java/util/AbstractList" "modCount" "I" (.int (0 : Int32))) (fi1 : Fld Z h0 a0 "java/util/ArrayList" "elementData" "[Ljava/lang/Object;" .null) (fi2 : Fld Z h0 a0 "java/util/ArrayList" "size" "I" (.int (0 : Int32))) (fi3 : Exa Z h0 a0 "java/util/ArrayList") (g_a0 : n0 ≤ a0) :
    MetFree l (⟨"java/util/AbstractList", "<init>", "()V"⟩ : MethodName) (head1 (Jvm.Cond.code (⟨"java/util/AbstractList", "<init>", "()V"⟩ : MethodName) jdk_39_method_1_code 1 none :: ws) ({ frames := 2, cells := 0, slots := 0, locals := 24 } : Room)) (fun a U => a = #[(.ref a0)] ∧ Z.Warmed39 U.vm ∧ U.heap = h0) (fun _ _ _ _ _ => True) (fun _ U o U' => ∃ v L, o = .returned v ∧ Q_ali Z a0 h0 n0 v U'.heap L ∧ FrameEnd U o U' L ({ frames := 2, cells := 0, slots := 0, locals := 24 } : Room).cells ({ frames := 2, cells := 0, slots := 0, locals := 24 } : Room).slots) := by
  refine MetFree.of_bodySF (plainFor_of_name pn_ali) hisR ?_
  intro p e s m args below meth c s₁ Bd hml0 hP hK
  obtain ⟨rfl, hZ, hh⟩ := hP
  have hx := Bd.exec
  have hby := Bd.bytes
  have hml : c.maxLocals = 1 := hml0
  have hown : s.vm.findClass "java/util/AbstractList" = some m.cls := findClass_of_methodNamed Bd.named
  have hnm := (name_of_methodNamed Bd.named Bd.method).1
  have X0 : Stand p l e ({ frames := 2, cells := 0, slots := 0, locals := 24 } : Room) s m #[(.ref a0)] below meth c s₁ [] 0 0 := Stand.of_body Bd
  have e0 : s₁.heap = h0 := by rw [← hh, Bd.state]; rfl
  have N0 := Fr.nil n0
  have pre0 : Go p.tables e below (s₁.setTop (entryFrame m #[(.ref a0)] 1)) s₁ (mkF m 0 #[.val (.ref a0)] []) := fun t k => castTop (ef_ali m a0) k
  have K0 : Keep h0 h0 [a0] := Keep.refl _ _
  have pre1 : Go p.tables e below (s₁.setTop (entryFrame m #[(.ref a0)] 1)) s₁ (mkF m 1 #[.val (.ref a0)] [(.ref a0)]) := fun t k => pre0 t (by
      refine XS.aloadN X0.here hx rfl (hb hby d4_0) rfl rfl ?_
      exact k)
  obtain ⟨_, _, ⟨T2, L2, k2, n2⟩, -, X2, ⟨Lc2, hQ2, l2, y2, z2⟩, st2⟩ := X0.specialBack hx (y := (⟨"java/util/AbstractCollection", "<init>", "()V"⟩ : MethodName)) rfl hown (mvT hZ (hw _ (List.mem_of_getElem? (i := 22) rfl))) (mvT hZ (hw _ (List.mem_of_getElem? (i := 23) rfl))) (mvT hZ (hw _ (List.mem_of_getElem? (i := 27) rfl))) (by decide) (backOf (W := 0) (rm_aci l Z av0 hw [] a0 h0 n0) hZ (hw _ (List.mem_of_getElem? (i := 27) rfl)) (hw _ (List.mem_of_getElem? (i := 26) rfl)) (by decide) (by decide)) (g := (mkF m 1 #[.val (.ref a0)] [(.ref a0)])) rfl (by rw [hml]; rfl) (Steps.refl _) (a := a0) (argsL := []) (rest := []) (lenOf pd_0 rfl) rfl (by show 2 * 0 + _ ≤ _; exact Nat.le_of_eq rfl) (hb hby d4_1) (fun _ _ => ⟨rfl, e0, (by decide : 0 + 0 ≤ _), (by decide : 0 + 0 ≤ _)⟩)
  dsimp only [Pt.U, Pt.locs, Pt.cells, Pt.slots] at X2 l2 y2 z2 st2 hQ2
  subst l2 y2 z2
  obtain ⟨rfl, N2q, e2⟩ := hQ2
  have N2 := Fr.app N0 N2q
  have pre2 : Go p.tables e below (s₁.setTop (entryFrame m #[(.ref a0)] 1)) T2 (mkF m 4 #[.val (.ref a0)] []) := fun t k => pre1 t (st2.trans k)
  have pre3 : Go p.tables e below (s₁.setTop (entryFrame m #[(.ref a0)] 1)) T2 (mkF m 6 #[.val (.ref a0)] [(.int (0 : Int32)), (.ref a0)]) := fun t k => pre2 t (by
      refine XS.aloadN X2.here hx rfl (hb hby d4_4) rfl rfl ?_
      show Steps p.tables e below (T2.setTop (mkF m 5 #[.val (.ref a0)] [(.ref a0)])) _
      refine XS.iconst X2.here hx rfl (hb hby d4_5) ?_
      exact k)
  obtain ⟨T4, h4, X4, e4, W4, st4⟩ := putF X2 hx hZ hown (host := "") (Or.inl (hw _ (List.mem_of_getElem? (i := 29) rfl))) Via.refl e2 fi0 fi3 (Or.inl (hw _ (List.mem_of_getElem? (i := 30) rfl))) (hw _ (List.mem_of_getElem? (i := 11) rfl)) (ty := .int) (by decide) rfl rfl (g := (mkF m 6 #[.val (.ref a0)] [(.int (0 : Int32)), (.ref a0)])) rfl rfl (hb hby d4_6)
  have N4 := Fr.snoc X4 N2 g_a0
  have f5 : n0 ≤ h4.size := Nat.le_trans Z0 (Keep.of_wr W4).1
  have f6 : Fld Z h4 a0 "java/util/AbstractList" "modCount" "I" (.int (0 : Int32)) := fi0.same W4
  have f7 : Fld Z h4 a0 "java/util/ArrayList" "elementData" "[Ljava/lang/Object;" .null := fi1.other W4 (Or.inr (slot_ne (Or.inl (hw _ (List.mem_of_getElem? (i := 33) rfl))) (Or.inl (hw _ (List.mem_of_getElem? (i := 30) rfl))) (by decide) (t := (.array (.object "java/lang/Object"))) (t' := .int) (by decide) (by decide)))
  have f8 : Fld Z h4 a0 "java/util/ArrayList" "size" "I" (.int (0 : Int32)) := fi2.other W4 (Or.inr (slot_ne (Or.inl (hw _ (List.mem_of_getElem? (i := 54) rfl))) (Or.inl (hw _ (List.mem_of_getElem? (i := 30) rfl))) (by decide) (t := .int) (t' := .int) (by decide) (by decide)))
  have f9 : Exa Z h4 a0 "java/util/ArrayList" := fi3.wr W4
  have f10 : Keep h0 h4 [a0] := K0.wr W4 (Or.inl (List.mem_of_getElem? (i := 0) rfl))
  have pre4 : Go p.tables e below (s₁.setTop (entryFrame m #[(.ref a0)] 1)) T4 (mkF m 9 #[.val (.ref a0)] []) := fun t k => pre3 t (st4 _ k)
  obtain ⟨fs, hr, hrun, hended, hW, hsame⟩ := X4.leave (v := none) (fun _ => rfl) (BodyLoose.notSynchronized Bd)
  refine ⟨_, _, pre4 _ ?_, hrun, hended, _, _, rfl, ?_, ⟨_, rfl⟩, hW, hsame.mono (Nat.le_of_ble_eq_true rfl) (Nat.le_of_ble_eq_true rfl)⟩
  · exact X4.returnOut hx Bd.returns (hb hby d4_9) hr
  · show Q_ali Z a0 h0 n0 _ T4.heap _
    rw [e4]
    exact ⟨rfl, N4, f10, f6, f7, f8, f9⟩
theorem d3_0 : decode jdk_38_method_2_code 0 = .ok (.aload_n 0, 1) := by decide +kernel
theorem d3_1 : decode jdk_38_method_2_code 1 = .ok (.invokespecial 1, 3) := by decide +kernel
theorem d3_4 : decode jdk_38_method_2_code 4 = .ok (.aload_n 0, 1) := by decide +kernel
theorem d3_5 : decode jdk_38_method_2_code 5 = .ok (.getstatic 39, 3) := by decide +kernel
theorem d3_8 : decode jdk_38_method_2_code 8 = .ok (.putfield 9, 3) := by decide +kernel
theorem d3_11 : decode jdk_38_method_2_code 11 = .ok (.return_, 1) := by decide +kernel
theorem pn_ini_al : plainName "java/util/ArrayList" = true := by first | (simp [plainName, overriddenIn]; done) | decide +kernel
theorem ef_ini_al (m : MethodId) (a0 : Addr) : entryFrame m #[(.ref a0)] 1 = mkF m 0 #[.val (.ref a0)] [] := by first | (simp [entryFrame, mkF, argsToLocals, Value.category]; done) | rfl
def Q_ini_al (Z : State) (a0 : Addr) (ad : Addr) (h0 : Heap) (n0 : Nat) (v : Option Value) (h : Heap) (L : List Loc) : Prop := v = none ∧ Fr n0 L ∧ Keep h0 h [a0] ∧ Fld Z h a0 "java/util/AbstractList" "modCount" "I" (.int (0 : Int32)) ∧ Fld Z h a0 "java/util/ArrayList" "elementData" "[Ljava/lang/Object;" (.ref ad) ∧ Fld Z h a0 "java/util/ArrayList" "size" "I" (.int (0 : Int32)) ∧ Exa Z h a0 "java/util/ArrayList"
set_option maxRecDepth 65536 in
set_option maxHeartbeats 40000000 in
theorem rm_ini_al (l : Launch) (Z : State) (av0 : Array Value) (hw : ∀ d ∈ tables_1, d.before av0 Z = true) (ws : List Jvm.Cond) (a0 : Addr) (ad : Addr) (h0 : Heap) (n0 : Nat) (Z0 : n0 ≤ h0.size) (fi0 : Old Z n0 h0) (fi1 : Fld Z h0 a0 "java/util/AbstractList" "modCount" "I" (.int (0 : Int32))) (fi2 : Fld Z h0 a0 "java/util/ArrayList" "elementData" "[Ljava/lang/Object;" .null) (fi3 : Fld Z h0 a0 "java/util/ArrayList" "size" "I" (.int (0 : Int32))) (fi4 : Exa Z h0 a0 "java/util/ArrayList") (g_a0 : n0 ≤ a0) (S_D : Sta Z Z.heap "java/util/ArrayList" "DEFAULTCAPACITY_EMPTY_ELEMENTDATA" "[Ljava/lang/Object;" (.ref ad)) :
    MetFree l (⟨"java/util/ArrayList", "<init>", "()V"⟩ : MethodName) (head1 (Jvm.Cond.code (⟨"java/util/ArrayList", "<init>", "()V"⟩ : MethodName) jdk_38_method_2_code 1 none :: ws) ({ frames := 3, cells := 0, slots := 0, locals := 36 } : Room)) (fun a U => a = #[(.ref a0)] ∧ Z.Warmed39 U.vm ∧ U.heap = h0) (fun _ _ _ _ _ => True) (fun _ U o U' => ∃ v L, o = .returned v ∧ Q_ini_al Z a0 ad h0 n0 v U'.heap L ∧ FrameEnd U o U' L ({ frames := 3, cells := 0, slots := 0, locals := 36 } : Room).cells ({ frames := 3, cells := 0, slots := 0, locals := 36 } : Room).slots) := by
  refine MetFree.of_bodySF (plainFor_of_name pn_ini_al) hisR ?_
  intro p e s m args below meth c s₁ Bd hml0 hP hK
  obtain ⟨rfl, hZ, hh⟩ := hP
  have hx := Bd.exec
  have hby := Bd.bytes
  have hml : c.maxLocals = 1 := hml0
  have hown : s.vm.findClass "java/util/ArrayList" = some m.cls := findClass_of_methodNamed Bd.named
  have hnm := (name_of_methodNamed Bd.named Bd.method).1
  have X0 : Stand p l e ({ frames := 3, cells := 0, slots := 0, locals := 36 } : Room) s m #[(.ref a0)] below meth c s₁ [] 0 0 := Stand.of_body Bd
  have e0 : s₁.heap = h0 := by rw [← hh, Bd.state]; rfl
  have N0 := Fr.nil n0
  have pre0 : Go p.tables e below (s₁.setTop (entryFrame m #[(.ref a0)] 1)) s₁ (mkF m 0 #[.val (.ref a0)] []) := fun t k => castTop (ef_ini_al m a0) k
  have K0 : Keep h0 h0 [a0] := Keep.refl _ _
  have pre1 : Go p.tables e below (s₁.setTop (entryFrame m #[(.ref a0)] 1)) s₁ (mkF m 1 #[.val (.ref a0)] [(.ref a0)]) := fun t k => pre0 t (by
      refine XS.aloadN X0.here hx rfl (hb hby d3_0) rfl rfl ?_
      exact k)
  obtain ⟨_, _, ⟨T2, L2, k2, n2⟩, -, X2, ⟨Lc2, hQ2, l2, y2, z2⟩, st2⟩ := X0.specialBack hx (y := (⟨"java/util/AbstractList", "<init>", "()V"⟩ : MethodName)) rfl hown (mvT hZ (hw _ (List.mem_of_getElem? (i := 16) rfl))) (mvT hZ (hw _ (List.mem_of_getElem? (i := 17) rfl))) (mvT hZ (hw _ (List.mem_of_getElem? (i := 21) rfl))) (by decide) (backOf (W := 0) (rm_ali l Z av0 hw [] a0 h0 n0 Z0 fi1 fi2 fi3 fi4 g_a0) hZ (hw _ (List.mem_of_getElem? (i := 21) rfl)) (hw _ (List.mem_of_getElem? (i := 20) rfl)) (by decide) (by decide)) (g := (mkF m 1 #[.val (.ref a0)] [(.ref a0)])) rfl (by rw [hml]; rfl) (Steps.refl _) (a := a0) (argsL := []) (rest := []) (lenOf pd_0 rfl) rfl (by show 2 * 0 + _ ≤ _; exact Nat.le_of_eq rfl) (hb hby d3_1) (fun _ _ => ⟨rfl, e0, (by decide : 0 + 0 ≤ _), (by decide : 0 + 0 ≤ _)⟩)
  dsimp only [Pt.U, Pt.locs, Pt.cells, Pt.slots] at X2 l2 y2 z2 st2 hQ2
  subst l2 y2 z2
  obtain ⟨hv2, N2q, K2, fo2_0, fo2_1, fo2_2, fo2_3⟩ := hQ2
  have f3 : n0 ≤ T2.heap.size := Nat.le_trans Z0 K2.1
  have f4 : Old Z n0 T2.heap := fi0.keep K2 (allS g_a0 all0)
  have f5 : Exa Z T2.heap a0 "java/util/ArrayList" := fi4.keep K2
  have f6 : Keep h0 T2.heap [a0] := K0.trans K2 (allS (Or.inl (List.mem_of_getElem? (i := 0) rfl)) all0)
  subst hv2
  have N2 := Fr.app N0 N2q
  have pre2 : Go p.tables e below (s₁.setTop (entryFrame m #[(.ref a0)] 1)) T2 (mkF m 4 #[.val (.ref a0)] []) := fun t k => pre1 t (st2.trans k)
  have pre7 : Go p.tables e below (s₁.setTop (entryFrame m #[(.ref a0)] 1)) T2 (mkF m 5 #[.val (.ref a0)] [(.ref a0)]) := fun t k => pre2 t (by
      refine XS.aloadN X2.here hx rfl (hb hby d3_4) rfl rfl ?_
      exact k)
  obtain ⟨T8, X8, e8, st8⟩ := getS2 X2 hx hZ hown (host := "") (Or.inl (hw _ (List.mem_of_getElem? (i := 31) rfl))) Via.refl rfl (S_D.ext f4.2) (g := (mkF m 5 #[.val (.ref a0)] [(.ref a0)])) rfl (hb hby d3_5)
  have pre8 : Go p.tables e below (s₁.setTop (entryFrame m #[(.ref a0)] 1)) T8 (mkF m 8 #[.val (.ref a0)] [(.ref ad), (.ref a0)]) := fun t k => pre7 t (st8 _ k)
  obtain ⟨T9, h9, X9, e9, W9, st9⟩ := putF X8 hx hZ hown (host := "") (Or.inl (hw _ (List.mem_of_getElem? (i := 32) rfl))) Via.refl e8 fo2_1 fo2_3 (Or.inl (hw _ (List.mem_of_getElem? (i := 33) rfl))) (hw _ (List.mem_of_getElem? (i := 11) rfl)) (ty := (.array (.object "java/lang/Object"))) (by decide) rfl rfl (g := (mkF m 8 #[.val (.ref a0)] [(.ref ad), (.ref a0)])) rfl rfl (hb hby d3_8)
  have N9 := Fr.snoc X9 N2 g_a0
  have f10 : n0 ≤ h9.size := Nat.le_trans f3 (Keep.of_wr W9).1
  have f11 : Old Z n0 h9 := f4.wr W9 g_a0
  have f12 : Keep h0 h9 [a0] := f6.wr W9 (Or.inl (List.mem_of_getElem? (i := 0) rfl))
  have f13 : Fld Z h9 a0 "java/util/AbstractList" "modCount" "I" (.int (0 : Int32)) := fo2_0.other W9 (Or.inr (slot_ne (Or.inl (hw _ (List.mem_of_getElem? (i := 30) rfl))) (Or.inl (hw _ (List.mem_of_getElem? (i := 33) rfl))) (by decide) (t := .int) (t' := (.array (.object "java/lang/Object"))) (by decide) (by decide)))
  have f14 : Fld Z h9 a0 "java/util/ArrayList" "elementData" "[Ljava/lang/Object;" (.ref ad) := fo2_1.same W9
  have f15 : Fld Z h9 a0 "java/util/ArrayList" "size" "I" (.int (0 : Int32)) := fo2_2.other W9 (Or.inr (slot_ne (Or.inl (hw _ (List.mem_of_getElem? (i := 54) rfl))) (Or.inl (hw _ (List.mem_of_getElem? (i := 33) rfl))) (by decide) (t := .int) (t' := (.array (.object "java/lang/Object"))) (by decide) (by decide)))
  have f16 : Exa Z h9 a0 "java/util/ArrayList" := fo2_3.wr W9
  have pre9 : Go p.tables e below (s₁.setTop (entryFrame m #[(.ref a0)] 1)) T9 (mkF m 11 #[.val (.ref a0)] []) := fun t k => pre8 t (st9 _ k)
  obtain ⟨fs, hr, hrun, hended, hW, hsame⟩ := X9.leave (v := none) (fun _ => rfl) (BodyLoose.notSynchronized Bd)
  refine ⟨_, _, pre9 _ ?_, hrun, hended, _, _, rfl, ?_, ⟨_, rfl⟩, hW, hsame.mono (Nat.le_of_ble_eq_true rfl) (Nat.le_of_ble_eq_true rfl)⟩
  · exact X9.returnOut hx Bd.returns (hb hby d3_11) hr
  · show Q_ini_al Z a0 ad h0 n0 _ T9.heap _
    rw [e9]
    exact ⟨rfl, N9, f12, f13, f14, f15, f16⟩
theorem d1_0 : decode prog_34_method_1_code 0 = .ok (.aload_n 0, 1) := by decide +kernel
theorem d1_1 : decode prog_34_method_1_code 1 = .ok (.invokespecial 1, 3) := by decide +kernel
theorem d1_4 : decode prog_34_method_1_code 4 = .ok (.aload_n 0, 1) := by decide +kernel
theorem d1_5 : decode prog_34_method_1_code 5 = .ok (.new 7, 3) := by decide +kernel
theorem d1_8 : decode prog_34_method_1_code 8 = .ok (.dup, 1) := by decide +kernel
theorem d1_9 : decode prog_34_method_1_code 9 = .ok (.invokespecial 9, 3) := by decide +kernel
theorem d1_12 : decode prog_34_method_1_code 12 = .ok (.putfield 10, 3) := by decide +kernel
theorem d1_15 : decode prog_34_method_1_code 15 = .ok (.aload_n 0, 1) := by decide +kernel
theorem d1_16 : decode prog_34_method_1_code 16 = .ok (.ldc 16, 2) := by decide +kernel
theorem d1_18 : decode prog_34_method_1_code 18 = .ok (.putfield 17, 3) := by decide +kernel
theorem d1_21 : decode prog_34_method_1_code 21 = .ok (.return_, 1) := by decide +kernel
theorem pn_ini_vl : plainName "com/example/zhangtiao/zhangtiao/input/VarLongs" = true := by first | (simp [plainName, overriddenIn]; done) | decide +kernel
theorem ef_ini_vl (m : MethodId) (a0 : Addr) : entryFrame m #[(.ref a0)] 1 = mkF m 0 #[.val (.ref a0)] [] := by first | (simp [entryFrame, mkF, argsToLocals, Value.category]; done) | rfl
def Q_ini_vl (Z : State) (a0 : Addr) (ad : Addr) (h0 : Heap) (n0 : Nat) (v : Option Value) (h : Heap) (L : List Loc) : Prop := ∃ (al : Addr), v = none ∧ Fr n0 L ∧ Keep h0 h [a0] ∧ h0.size ≤ al ∧ n0 ≤ al ∧ Fld Z h a0 "com/example/zhangtiao/zhangtiao/input/VarLongs" "chunks" "Ljava/util/List;" (.ref al) ∧ Fld Z h a0 "com/example/zhangtiao/zhangtiao/input/VarLongs" "last" "[B" .null ∧ Fld Z h a0 "com/example/zhangtiao/zhangtiao/input/VarLongs" "position" "I" (.int (65536 : Int32)) ∧ Exa Z h a0 "com/example/zhangtiao/zhangtiao/input/VarLongs" ∧ Fld Z h al "java/util/AbstractList" "modCount" "I" (.int (0 : Int32)) ∧ Fld Z h al "java/util/ArrayList" "elementData" "[Ljava/lang/Object;" (.ref ad) ∧ Fld Z h al "java/util/ArrayList" "size" "I" (.int (0 : Int32)) ∧ Exa Z h al "java/util/ArrayList"
set_option maxRecDepth 65536 in
set_option maxHeartbeats 40000000 in
theorem rm_ini_vl (l : Launch) (Z : State) (av0 : Array Value) (hw : ∀ d ∈ tables_1, d.before av0 Z = true) (ws : List Jvm.Cond) (a0 : Addr) (ad : Addr) (h0 : Heap) (n0 : Nat) (Z0 : n0 ≤ h0.size) (fi0 : Old Z n0 h0) (fi1 : Fld Z h0 a0 "com/example/zhangtiao/zhangtiao/input/VarLongs" "chunks" "Ljava/util/List;" .null) (fi2 : Fld Z h0 a0 "com/example/zhangtiao/zhangtiao/input/VarLongs" "last" "[B" .null) (fi3 : Fld Z h0 a0 "com/example/zhangtiao/zhangtiao/input/VarLongs" "position" "I" (.int (0 : Int32))) (fi4 : Exa Z h0 a0 "com/example/zhangtiao/zhangtiao/input/VarLongs") (g_a0 : n0 ≤ a0) (S_D : Sta Z Z.heap "java/util/ArrayList" "DEFAULTCAPACITY_EMPTY_ELEMENTDATA" "[Ljava/lang/Object;" (.ref ad)) :
    MetFree l (⟨"com/example/zhangtiao/zhangtiao/input/VarLongs", "<init>", "()V"⟩ : MethodName) (head1 (Jvm.Cond.code (⟨"com/example/zhangtiao/zhangtiao/input/VarLongs", "<init>", "()V"⟩ : MethodName) prog_34_method_1_code 1 none :: ws) ({ frames := 4, cells := 1, slots := 3, locals := 50 } : Room)) (fun a U => a = #[(.ref a0)] ∧ Z.Warmed39 U.vm ∧ U.heap = h0) (fun _ _ _ _ _ => True) (fun _ U o U' => ∃ v L, o = .returned v ∧ Q_ini_vl Z a0 ad h0 n0 v U'.heap L ∧ FrameEnd U o U' L ({ frames := 4, cells := 1, slots := 3, locals := 50 } : Room).cells ({ frames := 4, cells := 1, slots := 3, locals := 50 } : Room).slots) := by
  refine MetFree.of_bodySF (plainFor_of_name pn_ini_vl) hisR ?_
  intro p e s m args below meth c s₁ Bd hml0 hP hK
  obtain ⟨rfl, hZ, hh⟩ := hP
  have hx := Bd.exec
  have hby := Bd.bytes
  have hml : c.maxLocals = 1 := hml0
  have hown : s.vm.findClass "com/example/zhangtiao/zhangtiao/input/VarLongs" = some m.cls := findClass_of_methodNamed Bd.named
  have hnm := (name_of_methodNamed Bd.named Bd.method).1
  have X0 : Stand p l e ({ frames := 4, cells := 1, slots := 3, locals := 50 } : Room) s m #[(.ref a0)] below meth c s₁ [] 0 0 := Stand.of_body Bd
  have e0 : s₁.heap = h0 := by rw [← hh, Bd.state]; rfl
  have N0 := Fr.nil n0
  have pre0 : Go p.tables e below (s₁.setTop (entryFrame m #[(.ref a0)] 1)) s₁ (mkF m 0 #[.val (.ref a0)] []) := fun t k => castTop (ef_ini_vl m a0) k
  have K0 : Keep h0 h0 [a0] := Keep.refl _ _
  have pre1 : Go p.tables e below (s₁.setTop (entryFrame m #[(.ref a0)] 1)) s₁ (mkF m 1 #[.val (.ref a0)] [(.ref a0)]) := fun t k => pre0 t (by
      refine XS.aloadN X0.here hx rfl (hb hby d1_0) rfl rfl ?_
      exact k)
  obtain ⟨T2, X2, e2, st2⟩ := initO X0 hx hZ hown (hw _ (List.mem_of_getElem? (i := 7) rfl)) (hw _ (List.mem_of_getElem? (i := 8) rfl)) (hw _ (List.mem_of_getElem? (i := 9) rfl)) e0 (g := (mkF m 1 #[.val (.ref a0)] [(.ref a0)])) rfl (by rw [hml]; rfl) rfl (hb hby d1_1) (by decide) (W := 0) (by show 2 * 0 + _ ≤ _; exact Nat.le_of_eq rfl) (by decide)
  have pre2 : Go p.tables e below (s₁.setTop (entryFrame m #[(.ref a0)] 1)) T2 (mkF m 4 #[.val (.ref a0)] []) := fun t k => pre1 t (st2 _ k)
  have pre3 : Go p.tables e below (s₁.setTop (entryFrame m #[(.ref a0)] 1)) T2 (mkF m 5 #[.val (.ref a0)] [(.ref a0)]) := fun t k => pre2 t (by
      refine XS.aloadN X2.here hx rfl (hb hby d1_4) rfl rfl ?_
      exact k)
  obtain ⟨T4, h4, X4, e4, E4, A4, D4, -, st4⟩ := newO X2 hx hZ hown (hw _ (List.mem_of_getElem? (i := 10) rfl)) (hw _ (List.mem_of_getElem? (i := 11) rfl)) (hw _ (List.mem_of_getElem? (i := 12) rfl)) e2 (g := (mkF m 5 #[.val (.ref a0)] [(.ref a0)])) rfl (hb hby d1_5) (by decide) (by decide)
  obtain ⟨b4, ga4⟩ : ∃ z, z = h0.size := ⟨_, rfl⟩
  rw [← ga4] at A4 D4 st4
  have ne5 : a0 ≠ b4 := Nat.ne_of_lt (Nat.lt_of_lt_of_le fi1.lt (Nat.le_of_eq ga4.symm))
  have g6 : n0 ≤ b4 := Nat.le_trans Z0 (Nat.le_of_eq ga4.symm)
  have sz7 : h0.size ≤ b4 := Nat.le_trans K0.1 (Nat.le_of_eq ga4.symm)
  have f8 : n0 ≤ h4.size := Nat.le_trans Z0 E4.1
  have f9 : Old Z n0 h4 := fi0.ext E4
  have f10 : Fld Z h4 a0 "com/example/zhangtiao/zhangtiao/input/VarLongs" "chunks" "Ljava/util/List;" .null := fi1.ext E4
  have f11 : Fld Z h4 a0 "com/example/zhangtiao/zhangtiao/input/VarLongs" "last" "[B" .null := fi2.ext E4
  have f12 : Fld Z h4 a0 "com/example/zhangtiao/zhangtiao/input/VarLongs" "position" "I" (.int (0 : Int32)) := fi3.ext E4
  have f13 : Exa Z h4 a0 "com/example/zhangtiao/zhangtiao/input/VarLongs" := fi4.ext E4
  have f14 : Keep h0 h4 [a0] := K0.ext E4
  have f15 : Fld Z h4 b4 "java/util/AbstractList" "modCount" "I" (.int (0 : Int32)) := D4 (Or.inl (hw _ (List.mem_of_getElem? (i := 30) rfl))) (ty := .int) (by decide)
  have f16 : Fld Z h4 b4 "java/util/ArrayList" "elementData" "[Ljava/lang/Object;" .null := D4 (Or.inl (hw _ (List.mem_of_getElem? (i := 33) rfl))) (ty := (.array (.object "java/lang/Object"))) (by decide)
  have f17 : Fld Z h4 b4 "java/util/ArrayList" "size" "I" (.int (0 : Int32)) := D4 (Or.inl (hw _ (List.mem_of_getElem? (i := 54) rfl))) (ty := .int) (by decide)
  have pre4 : Go p.tables e below (s₁.setTop (entryFrame m #[(.ref a0)] 1)) T4 (mkF m 8 #[.val (.ref a0)] [(.ref b4), (.ref a0)]) := fun t k => pre3 t (st4 _ k)
  have pre18 : Go p.tables e below (s₁.setTop (entryFrame m #[(.ref a0)] 1)) T4 (mkF m 9 #[.val (.ref a0)] [(.ref b4), (.ref b4), (.ref a0)]) := fun t k => pre4 t (by
      refine XS.dup X4.here hx rfl (hb hby d1_8) rfl rfl ?_
      exact k)
  obtain ⟨_, _, ⟨T19, L19, k19, n19⟩, -, X19, ⟨Lc19, hQ19, l19, y19, z19⟩, st19⟩ := X4.specialBack hx (y := (⟨"java/util/ArrayList", "<init>", "()V"⟩ : MethodName)) rfl hown (mvT hZ (hw _ (List.mem_of_getElem? (i := 13) rfl))) (mvT hZ (hw _ (List.mem_of_getElem? (i := 14) rfl))) (mvT hZ (hw _ (List.mem_of_getElem? (i := 15) rfl))) (by decide) (backOf (W := 2) (rm_ini_al l Z av0 hw [] b4 ad h4 n0 f8 f9 f15 f16 f17 A4 g6 S_D) hZ (hw _ (List.mem_of_getElem? (i := 15) rfl)) (hw _ (List.mem_of_getElem? (i := 12) rfl)) (by decide) (by decide)) (g := (mkF m 9 #[.val (.ref a0)] [(.ref b4), (.ref b4), (.ref a0)])) rfl (by rw [hml]; rfl) (Steps.refl _) (a := b4) (argsL := []) (rest := [(.ref b4), (.ref a0)]) (lenOf pd_0 rfl) rfl (by show 2 * 0 + _ ≤ _; exact Nat.le_of_eq rfl) (hb hby d1_9) (fun _ _ => ⟨rfl, e4, (by decide : 1 + 0 ≤ _), (by decide : 3 + 0 ≤ _)⟩)
  dsimp only [Pt.U, Pt.locs, Pt.cells, Pt.slots] at X19 l19 y19 z19 st19 hQ19
  subst l19 y19 z19
  obtain ⟨hv19, N19q, K19, fo19_0, fo19_1, fo19_2, fo19_3⟩ := hQ19
  have f20 : n0 ≤ T19.heap.size := Nat.le_trans f8 K19.1
  have f21 : Old Z n0 T19.heap := f9.keep K19 (allS g6 all0)
  have f22 : Fld Z T19.heap a0 "com/example/zhangtiao/zhangtiao/input/VarLongs" "chunks" "Ljava/util/List;" .null := f10.keep K19 (ninS ne5 nin0)
  have f23 : Fld Z T19.heap a0 "com/example/zhangtiao/zhangtiao/input/VarLongs" "last" "[B" .null := f11.keep K19 (ninS ne5 nin0)
  have f24 : Fld Z T19.heap a0 "com/example/zhangtiao/zhangtiao/input/VarLongs" "position" "I" (.int (0 : Int32)) := f12.keep K19 (ninS ne5 nin0)
  have f25 : Exa Z T19.heap a0 "com/example/zhangtiao/zhangtiao/input/VarLongs" := f13.keep K19
  have f26 : Keep h0 T19.heap [a0] := f14.trans K19 (allS (Or.inr sz7) all0)
  have f27 : Exa Z T19.heap b4 "java/util/ArrayList" := A4.keep K19
  subst hv19
  have N19 := Fr.app N0 N19q
  have pre19 : Go p.tables e below (s₁.setTop (entryFrame m #[(.ref a0)] 1)) T19 (mkF m 12 #[.val (.ref a0)] [(.ref b4), (.ref a0)]) := fun t k => pre18 t (st19.trans k)
  obtain ⟨T28, h28, X28, e28, W28, st28⟩ := putF X19 hx hZ hown (host := "") (Or.inl (hw _ (List.mem_of_getElem? (i := 34) rfl))) Via.refl rfl f22 f25 (Or.inr ⟨(hw _ (List.mem_of_getElem? (i := 35) rfl)), rfl, hnm⟩) (hw _ (List.mem_of_getElem? (i := 2) rfl)) (ty := (.object "java/util/List")) (by decide) rfl rfl (g := (mkF m 12 #[.val (.ref a0)] [(.ref b4), (.ref a0)])) rfl rfl (hb hby d1_12)
  have N28 := Fr.snoc X28 N19 g_a0
  have f29 : n0 ≤ h28.size := Nat.le_trans f20 (Keep.of_wr W28).1
  have f30 : Old Z n0 h28 := f21.wr W28 g_a0
  have f31 : Fld Z h28 a0 "com/example/zhangtiao/zhangtiao/input/VarLongs" "chunks" "Ljava/util/List;" (.ref b4) := f22.same W28
  have f32 : Fld Z h28 a0 "com/example/zhangtiao/zhangtiao/input/VarLongs" "last" "[B" .null := f23.other W28 (Or.inr (slot_ne (Or.inl (hw _ (List.mem_of_getElem? (i := 63) rfl))) (Or.inr (hw _ (List.mem_of_getElem? (i := 35) rfl))) (by decide) (t := (.array .byte)) (t' := (.object "java/util/List")) (by decide) (by decide)))
  have f33 : Fld Z h28 a0 "com/example/zhangtiao/zhangtiao/input/VarLongs" "position" "I" (.int (0 : Int32)) := f24.other W28 (Or.inr (slot_ne (Or.inl (hw _ (List.mem_of_getElem? (i := 38) rfl))) (Or.inr (hw _ (List.mem_of_getElem? (i := 35) rfl))) (by decide) (t := .int) (t' := (.object "java/util/List")) (by decide) (by decide)))
  have f34 : Exa Z h28 a0 "com/example/zhangtiao/zhangtiao/input/VarLongs" := f25.wr W28
  have f35 : Keep h0 h28 [a0] := f26.wr W28 (Or.inl (List.mem_of_getElem? (i := 0) rfl))
  have f36 : Fld Z h28 b4 "java/util/AbstractList" "modCount" "I" (.int (0 : Int32)) := fo19_0.other W28 (Or.inl ne5.symm)
  have f37 : Fld Z h28 b4 "java/util/ArrayList" "elementData" "[Ljava/lang/Object;" (.ref ad) := fo19_1.other W28 (Or.inl ne5.symm)
  have f38 : Fld Z h28 b4 "java/util/ArrayList" "size" "I" (.int (0 : Int32)) := fo19_2.other W28 (Or.inl ne5.symm)
  have f39 : Exa Z h28 b4 "java/util/ArrayList" := fo19_3.wr W28
  have pre28 : Go p.tables e below (s₁.setTop (entryFrame m #[(.ref a0)] 1)) T28 (mkF m 15 #[.val (.ref a0)] []) := fun t k => pre19 t (st28 _ k)
  have pre40 : Go p.tables e below (s₁.setTop (entryFrame m #[(.ref a0)] 1)) T28 (mkF m 18 #[.val (.ref a0)] [(.int (65536 : Int32)), (.ref a0)]) := fun t k => pre28 t (by
      refine XS.aloadN X28.here hx rfl (hb hby d1_15) rfl rfl ?_
      show Steps p.tables e below (T28.setTop (mkF m 16 #[.val (.ref a0)] [(.ref a0)])) _
      refine X28.ldcInt hx hown (mvT hZ (hw _ (List.mem_of_getElem? (i := 36) rfl))) (g := (mkF m 16 #[.val (.ref a0)] [(.ref a0)])) rfl (hb hby d1_16) _ ?_
      exact k)
  obtain ⟨T41, h41, X41, e41, W41, st41⟩ := putF X28 hx hZ hown (host := "") (Or.inl (hw _ (List.mem_of_getElem? (i := 37) rfl))) Via.refl e28 f33 f34 (Or.inl (hw _ (List.mem_of_getElem? (i := 38) rfl))) (hw _ (List.mem_of_getElem? (i := 2) rfl)) (ty := .int) (by decide) rfl rfl (g := (mkF m 18 #[.val (.ref a0)] [(.int (65536 : Int32)), (.ref a0)])) rfl rfl (hb hby d1_18)
  have N41 := Fr.snoc X41 N28 g_a0
  have f42 : n0 ≤ h41.size := Nat.le_trans f29 (Keep.of_wr W41).1
  have f43 : Old Z n0 h41 := f30.wr W41 g_a0
  have f44 : Fld Z h41 a0 "com/example/zhangtiao/zhangtiao/input/VarLongs" "chunks" "Ljava/util/List;" (.ref b4) := f31.other W41 (Or.inr (slot_ne (Or.inr (hw _ (List.mem_of_getElem? (i := 35) rfl))) (Or.inl (hw _ (List.mem_of_getElem? (i := 38) rfl))) (by decide) (t := (.object "java/util/List")) (t' := .int) (by decide) (by decide)))
  have f45 : Fld Z h41 a0 "com/example/zhangtiao/zhangtiao/input/VarLongs" "last" "[B" .null := f32.other W41 (Or.inr (slot_ne (Or.inl (hw _ (List.mem_of_getElem? (i := 63) rfl))) (Or.inl (hw _ (List.mem_of_getElem? (i := 38) rfl))) (by decide) (t := (.array .byte)) (t' := .int) (by decide) (by decide)))
  have f46 : Fld Z h41 a0 "com/example/zhangtiao/zhangtiao/input/VarLongs" "position" "I" (.int (65536 : Int32)) := f33.same W41
  have f47 : Exa Z h41 a0 "com/example/zhangtiao/zhangtiao/input/VarLongs" := f34.wr W41
  have f48 : Keep h0 h41 [a0] := f35.wr W41 (Or.inl (List.mem_of_getElem? (i := 0) rfl))
  have f49 : Fld Z h41 b4 "java/util/AbstractList" "modCount" "I" (.int (0 : Int32)) := f36.other W41 (Or.inl ne5.symm)
  have f50 : Fld Z h41 b4 "java/util/ArrayList" "elementData" "[Ljava/lang/Object;" (.ref ad) := f37.other W41 (Or.inl ne5.symm)
  have f51 : Fld Z h41 b4 "java/util/ArrayList" "size" "I" (.int (0 : Int32)) := f38.other W41 (Or.inl ne5.symm)
  have f52 : Exa Z h41 b4 "java/util/ArrayList" := f39.wr W41
  have pre41 : Go p.tables e below (s₁.setTop (entryFrame m #[(.ref a0)] 1)) T41 (mkF m 21 #[.val (.ref a0)] []) := fun t k => pre40 t (st41 _ k)
  obtain ⟨fs, hr, hrun, hended, hW, hsame⟩ := X41.leave (v := none) (fun _ => rfl) (BodyLoose.notSynchronized Bd)
  refine ⟨_, _, pre41 _ ?_, hrun, hended, _, _, rfl, ?_, ⟨_, rfl⟩, hW, hsame.mono (Nat.le_of_ble_eq_true rfl) (Nat.le_of_ble_eq_true rfl)⟩
  · exact X41.returnOut hx Bd.returns (hb hby d1_21) hr
  · show Q_ini_vl Z a0 ad h0 n0 _ T41.heap _
    rw [e41]
    exact ⟨b4, rfl, N41, f48, sz7, g6, f44, f45, f46, f47, f49, f50, f51, f52⟩
theorem d7_0 : decode jdk_38_method_8_code 0 = .ok (.aload_n 0, 1) := by decide +kernel
theorem d7_1 : decode jdk_38_method_8_code 1 = .ok (.getfield 48, 3) := by decide +kernel
theorem d7_4 : decode jdk_38_method_8_code 4 = .ok (.ireturn, 1) := by decide +kernel
theorem pn_siz : plainName "java/util/ArrayList" = true := by first | (simp [plainName, overriddenIn]; done) | decide +kernel
theorem ef_siz (m : MethodId) (a0 : Addr) : entryFrame m #[(.ref a0)] 1 = mkF m 0 #[.val (.ref a0)] [] := by first | (simp [entryFrame, mkF, argsToLocals, Value.category]; done) | rfl
def Q_siz (Z : State) (a0 : Addr) (z0 : Int32) (h0 : Heap) (n0 : Nat) (v : Option Value) (h : Heap) (L : List Loc) : Prop := v = some (.int z0) ∧ Fr n0 L ∧ h = h0
set_option maxRecDepth 65536 in
set_option maxHeartbeats 40000000 in
theorem rm_siz (l : Launch) (Z : State) (av0 : Array Value) (hw : ∀ d ∈ tables_1, d.before av0 Z = true) (ws : List Jvm.Cond) (a0 : Addr) (z0 : Int32) (h0 : Heap) (n0 : Nat) (fi0 : Fld Z h0 a0 "java/util/ArrayList" "size" "I" (.int z0)) :
    MetFree l (⟨"java/util/ArrayList", "size", "()I"⟩ : MethodName) (head1 (Jvm.Cond.code (⟨"java/util/ArrayList", "size", "()I"⟩ : MethodName) jdk_38_method_8_code 1 (some .int) :: ws) ({ frames := 0, cells := 0, slots := 0, locals := 0 } : Room)) (fun a U => a = #[(.ref a0)] ∧ Z.Warmed39 U.vm ∧ U.heap = h0) (fun _ _ _ _ _ => True) (fun _ U o U' => ∃ v L, o = .returned v ∧ Q_siz Z a0 z0 h0 n0 v U'.heap L ∧ FrameEnd U o U' L ({ frames := 0, cells := 0, slots := 0, locals := 0 } : Room).cells ({ frames := 0, cells := 0, slots := 0, locals := 0 } : Room).slots) := by
  refine MetFree.of_bodySF (plainFor_of_name pn_siz) hisR ?_
  intro p e s m args below meth c s₁ Bd hml0 hP hK
  obtain ⟨rfl, hZ, hh⟩ := hP
  have hx := Bd.exec
  have hby := Bd.bytes
  have hml : c.maxLocals = 1 := hml0
  have hown : s.vm.findClass "java/util/ArrayList" = some m.cls := findClass_of_methodNamed Bd.named
  have hnm := (name_of_methodNamed Bd.named Bd.method).1
  have X0 : Stand p l e ({ frames := 0, cells := 0, slots := 0, locals := 0 } : Room) s m #[(.ref a0)] below meth c s₁ [] 0 0 := Stand.of_body Bd
  have e0 : s₁.heap = h0 := by rw [← hh, Bd.state]; rfl
  have N0 := Fr.nil n0
  have pre0 : Go p.tables e below (s₁.setTop (entryFrame m #[(.ref a0)] 1)) s₁ (mkF m 0 #[.val (.ref a0)] []) := fun t k => castTop (ef_siz m a0) k
  have pre1 : Go p.tables e below (s₁.setTop (entryFrame m #[(.ref a0)] 1)) s₁ (mkF m 1 #[.val (.ref a0)] [(.ref a0)]) := fun t k => pre0 t (by
      refine XS.aloadN X0.here hx rfl (hb hby d7_0) rfl rfl ?_
      exact k)
  obtain ⟨T2, X2, e2, st2⟩ := getF X0 hx hZ hown (host := "") (Or.inl (hw _ (List.mem_of_getElem? (i := 53) rfl))) Via.refl e0 fi0 (g := (mkF m 1 #[.val (.ref a0)] [(.ref a0)])) rfl rfl (hb hby d7_1)
  have pre2 : Go p.tables e below (s₁.setTop (entryFrame m #[(.ref a0)] 1)) T2 (mkF m 4 #[.val (.ref a0)] [(.int z0)]) := fun t k => pre1 t (st2 _ k)
  obtain ⟨fs, hr, hrun, hended, hW, hsame⟩ := X2.leave (v := some (.int z0)) (fun h => by rw [Bd.returns] at h; cases h) (BodyLoose.notSynchronized Bd)
  refine ⟨_, _, pre2 _ ?_, hrun, hended, _, _, rfl, ?_, ⟨_, rfl⟩, hW, hsame.mono (Nat.le_of_ble_eq_true rfl) (Nat.le_of_ble_eq_true rfl)⟩
  · exact retI X2 hx Bd.returns (hb hby d7_4) hr
  · show Q_siz Z a0 z0 h0 n0 _ T2.heap _
    rw [e2]
    exact ⟨rfl, N0, rfl⟩
theorem d6_0 : decode prog_34_method_3_code 0 = .ok (.aload_n 0, 1) := by decide +kernel
theorem d6_1 : decode prog_34_method_3_code 1 = .ok (.getfield 10, 3) := by decide +kernel
theorem d6_4 : decode prog_34_method_3_code 4 = .ok (.invokeinterface 42 1, 5) := by decide +kernel
theorem d6_9 : decode prog_34_method_3_code 9 = .ok (.iconst 1, 1) := by decide +kernel
theorem d6_10 : decode prog_34_method_3_code 10 = .ok (.isub, 1) := by decide +kernel
theorem d6_11 : decode prog_34_method_3_code 11 = .ok (.i2l, 1) := by decide +kernel
theorem d6_12 : decode prog_34_method_3_code 12 = .ok (.ldc2_w 46, 3) := by decide +kernel
theorem d6_15 : decode prog_34_method_3_code 15 = .ok (.lmul, 1) := by decide +kernel
theorem d6_16 : decode prog_34_method_3_code 16 = .ok (.aload_n 0, 1) := by decide +kernel
theorem d6_17 : decode prog_34_method_3_code 17 = .ok (.getfield 17, 3) := by decide +kernel
theorem d6_20 : decode prog_34_method_3_code 20 = .ok (.i2l, 1) := by decide +kernel
theorem d6_21 : decode prog_34_method_3_code 21 = .ok (.ladd, 1) := by decide +kernel
theorem d6_22 : decode prog_34_method_3_code 22 = .ok (.lreturn, 1) := by decide +kernel
theorem pn_pos : plainName "com/example/zhangtiao/zhangtiao/input/VarLongs" = true := by first | (simp [plainName, overriddenIn]; done) | decide +kernel
theorem ef_pos (m : MethodId) (a0 : Addr) : entryFrame m #[(.ref a0)] 1 = mkF m 0 #[.val (.ref a0)] [] := by first | (simp [entryFrame, mkF, argsToLocals, Value.category]; done) | rfl
def Q_pos (Z : State) (a0 : Addr) (al : Addr) (z0 : Int32) (p0 : Int32) (h0 : Heap) (n0 : Nat) (v : Option Value) (h : Heap) (L : List Loc) : Prop := v = some (.long (own_pos z0 p0)) ∧ Fr n0 L ∧ h = h0
set_option maxRecDepth 65536 in
set_option maxHeartbeats 40000000 in
theorem rm_pos (l : Launch) (Z : State) (av0 : Array Value) (hw : ∀ d ∈ tables_1, d.before av0 Z = true) (ws : List Jvm.Cond) (a0 : Addr) (al : Addr) (z0 : Int32) (p0 : Int32) (h0 : Heap) (n0 : Nat) (fi0 : Fld Z h0 a0 "com/example/zhangtiao/zhangtiao/input/VarLongs" "chunks" "Ljava/util/List;" (.ref al)) (fi1 : Fld Z h0 a0 "com/example/zhangtiao/zhangtiao/input/VarLongs" "position" "I" (.int p0)) (fi2 : Exa Z h0 al "java/util/ArrayList") (fi3 : Fld Z h0 al "java/util/ArrayList" "size" "I" (.int z0)) :
    MetFree l (⟨"com/example/zhangtiao/zhangtiao/input/VarLongs", "position", "()J"⟩ : MethodName) (head1 (Jvm.Cond.code (⟨"com/example/zhangtiao/zhangtiao/input/VarLongs", "position", "()J"⟩ : MethodName) prog_34_method_3_code 1 (some .long) :: ws) ({ frames := 1, cells := 0, slots := 0, locals := 12 } : Room)) (fun a U => a = #[(.ref a0)] ∧ Z.Warmed39 U.vm ∧ U.heap = h0) (fun _ _ _ _ _ => True) (fun _ U o U' => ∃ v L, o = .returned v ∧ Q_pos Z a0 al z0 p0 h0 n0 v U'.heap L ∧ FrameEnd U o U' L ({ frames := 1, cells := 0, slots := 0, locals := 12 } : Room).cells ({ frames := 1, cells := 0, slots := 0, locals := 12 } : Room).slots) := by
  refine MetFree.of_bodySF (plainFor_of_name pn_pos) hisR ?_
  intro p e s m args below meth c s₁ Bd hml0 hP hK
  obtain ⟨rfl, hZ, hh⟩ := hP
  have hx := Bd.exec
  have hby := Bd.bytes
  have hml : c.maxLocals = 1 := hml0
  have hown : s.vm.findClass "com/example/zhangtiao/zhangtiao/input/VarLongs" = some m.cls := findClass_of_methodNamed Bd.named
  have hnm := (name_of_methodNamed Bd.named Bd.method).1
  have X0 : Stand p l e ({ frames := 1, cells := 0, slots := 0, locals := 12 } : Room) s m #[(.ref a0)] below meth c s₁ [] 0 0 := Stand.of_body Bd
  have e0 : s₁.heap = h0 := by rw [← hh, Bd.state]; rfl
  have N0 := Fr.nil n0
  have pre0 : Go p.tables e below (s₁.setTop (entryFrame m #[(.ref a0)] 1)) s₁ (mkF m 0 #[.val (.ref a0)] []) := fun t k => castTop (ef_pos m a0) k
  have pre1 : Go p.tables e below (s₁.setTop (entryFrame m #[(.ref a0)] 1)) s₁ (mkF m 1 #[.val (.ref a0)] [(.ref a0)]) := fun t k => pre0 t (by
      refine XS.aloadN X0.here hx rfl (hb hby d6_0) rfl rfl ?_
      exact k)
  obtain ⟨T2, X2, e2, st2⟩ := getF X0 hx hZ hown (host := "") (Or.inl (hw _ (List.mem_of_getElem? (i := 34) rfl))) Via.refl e0 fi0 (g := (mkF m 1 #[.val (.ref a0)] [(.ref a0)])) rfl rfl (hb hby d6_1)
  have pre2 : Go p.tables e below (s₁.setTop (entryFrame m #[(.ref a0)] 1)) T2 (mkF m 4 #[.val (.ref a0)] [(.ref al)]) := fun t k => pre1 t (st2 _ k)
  obtain ⟨cq3, kq3, q3a, q3b, q3c⟩ := isOf hZ e2 fi2
  obtain ⟨_, _, ⟨T3, L3, k3, n3⟩, -, X3, ⟨Lc3, hQ3, l3, y3, z3⟩, st3⟩ := X2.interfaceBack hx (xi := (⟨"java/util/List", "size", "()I"⟩ : MethodName)) (y := (⟨"java/util/ArrayList", "size", "()I"⟩ : MethodName)) hown (mvT hZ (hw _ (List.mem_of_getElem? (i := 44) rfl))) (mvT hZ (hw _ (List.mem_of_getElem? (i := 45) rfl))) (mvT hZ (hw _ (List.mem_of_getElem? (i := 46) rfl))) (mvT hZ (hw _ (List.mem_of_getElem? (i := 47) rfl))) (mvT hZ (hw _ (List.mem_of_getElem? (i := 48) rfl))) (mvT hZ (hw _ (List.mem_of_getElem? (i := 49) rfl))) (mvT hZ (hw _ (List.mem_of_getElem? (i := 50) rfl))) (mvT hZ (hw _ (List.mem_of_getElem? (i := 51) rfl))) (by decide) (backOf (W := 0) (rm_siz l Z av0 hw [] al z0 h0 n0  fi3) hZ (hw _ (List.mem_of_getElem? (i := 52) rfl)) (hw _ (List.mem_of_getElem? (i := 12) rfl)) (by decide) (by decide)) q3a q3b q3c (g := (mkF m 4 #[.val (.ref a0)] [(.ref al)])) rfl (by rw [hml]; rfl) (Steps.refl _) (argsL := []) (rest := []) (lenOf pd_1 rfl) rfl (by show 2 * 0 + _ ≤ _; exact Nat.le_of_eq rfl) (hb hby d6_4) (fun _ _ => ⟨rfl, e2, (by decide : 0 + 0 ≤ _), (by decide : 0 + 0 ≤ _)⟩)
  dsimp only [Pt.U, Pt.locs, Pt.cells, Pt.slots] at X3 l3 y3 z3 st3 hQ3
  subst l3 y3 z3
  obtain ⟨hv3, N3q, e3⟩ := hQ3
  subst hv3
  have N3 := Fr.app N0 N3q
  have pre3 : Go p.tables e below (s₁.setTop (entryFrame m #[(.ref a0)] 1)) T3 (mkF m 9 #[.val (.ref a0)] [(.int z0)]) := fun t k => pre2 t (st3.trans k)
  have pre4 : Go p.tables e below (s₁.setTop (entryFrame m #[(.ref a0)] 1)) T3 (mkF m 17 #[.val (.ref a0)] [(.ref a0), (.long (((z0 - (1 : Int32)).toInt64) * (65536 : Int64)))]) := fun t k => pre3 t (by
      refine XS.iconst X3.here hx rfl (hb hby d6_9) ?_
      show Steps p.tables e below (T3.setTop (mkF m 10 #[.val (.ref a0)] [(.int (1 : Int32)), (.int z0)])) _
      refine XS.isub X3.here hx rfl (hb hby d6_10) rfl ?_
      show Steps p.tables e below (T3.setTop (mkF m 11 #[.val (.ref a0)] [(.int (z0 - (1 : Int32)))])) _
      refine XS.i2l X3.here hx rfl (hb hby d6_11) rfl ?_
      show Steps p.tables e below (T3.setTop (mkF m 12 #[.val (.ref a0)] [(.long ((z0 - (1 : Int32)).toInt64))])) _
      refine X3.ldc2Long hx hown (mvT hZ (hw _ (List.mem_of_getElem? (i := 55) rfl))) (g := (mkF m 12 #[.val (.ref a0)] [(.long ((z0 - (1 : Int32)).toInt64))])) rfl (hb hby d6_12) _ ?_
      show Steps p.tables e below (T3.setTop (mkF m 15 #[.val (.ref a0)] [(.long (65536 : Int64)), (.long ((z0 - (1 : Int32)).toInt64))])) _
      refine XS.lmul X3.here hx rfl (hb hby d6_15) rfl ?_
      show Steps p.tables e below (T3.setTop (mkF m 16 #[.val (.ref a0)] [(.long (((z0 - (1 : Int32)).toInt64) * (65536 : Int64)))])) _
      refine XS.aloadN X3.here hx rfl (hb hby d6_16) rfl rfl ?_
      exact k)
  obtain ⟨T5, X5, e5, st5⟩ := getF X3 hx hZ hown (host := "") (Or.inl (hw _ (List.mem_of_getElem? (i := 37) rfl))) Via.refl e3 fi1 (g := (mkF m 17 #[.val (.ref a0)] [(.ref a0), (.long (((z0 - (1 : Int32)).toInt64) * (65536 : Int64)))])) rfl rfl (hb hby d6_17)
  have pre5 : Go p.tables e below (s₁.setTop (entryFrame m #[(.ref a0)] 1)) T5 (mkF m 20 #[.val (.ref a0)] [(.int p0), (.long (((z0 - (1 : Int32)).toInt64) * (65536 : Int64)))]) := fun t k => pre4 t (st5 _ k)
  have pre6 : Go p.tables e below (s₁.setTop (entryFrame m #[(.ref a0)] 1)) T5 (mkF m 22 #[.val (.ref a0)] [(.long ((((z0 - (1 : Int32)).toInt64) * (65536 : Int64)) + (p0.toInt64)))]) := fun t k => pre5 t (by
      refine XS.i2l X5.here hx rfl (hb hby d6_20) rfl ?_
      show Steps p.tables e below (T5.setTop (mkF m 21 #[.val (.ref a0)] [(.long (p0.toInt64)), (.long (((z0 - (1 : Int32)).toInt64) * (65536 : Int64)))])) _
      refine XS.ladd X5.here hx rfl (hb hby d6_21) rfl ?_
      exact k)
  obtain ⟨fs, hr, hrun, hended, hW, hsame⟩ := X5.leave (v := some (.long ((((z0 - (1 : Int32)).toInt64) * (65536 : Int64)) + (p0.toInt64)))) (fun h => by rw [Bd.returns] at h; cases h) (BodyLoose.notSynchronized Bd)
  refine ⟨_, _, pre6 _ ?_, hrun, hended, _, _, rfl, ?_, ⟨_, rfl⟩, hW, hsame.mono (Nat.le_of_ble_eq_true rfl) (Nat.le_of_ble_eq_true rfl)⟩
  · exact retOut X5 hx Bd.returns rfl (Or.inr (Or.inl ⟨rfl, rfl, _, rfl⟩)) (hb hby d6_22) hr
  · show Q_pos Z a0 al z0 p0 h0 n0 _ T5.heap _
    rw [e5]
    exact ⟨rfl, N3, rfl⟩
theorem d13_0 : decode jdk_29_method_65_code 0 = .ok (.iload_n 0, 1) := by decide +kernel
theorem d13_1 : decode jdk_29_method_65_code 1 = .ok (.iload_n 1, 1) := by decide +kernel
theorem d13_2 : decode jdk_29_method_65_code 2 = .ok (.if_icmp .lt 7, 3) := by decide +kernel
theorem d13_5 : decode jdk_29_method_65_code 5 = .ok (.iload_n 0, 1) := by decide +kernel
theorem d13_6 : decode jdk_29_method_65_code 6 = .ok (.goto 4, 3) := by decide +kernel
theorem d13_9 : decode jdk_29_method_65_code 9 = .ok (.iload_n 1, 1) := by decide +kernel
theorem d13_10 : decode jdk_29_method_65_code 10 = .ok (.ireturn, 1) := by decide +kernel
theorem ef_max (m : MethodId) (p0 : Int32) (p1 : Int32) : entryFrame m #[(.int p0), (.int p1)] 2 = mkF m 0 #[.val (.int p0), .val (.int p1)] [] := by first | (simp [entryFrame, mkF, argsToLocals, Value.category]; done) | rfl
def Q_max (Z : State) (p0 : Int32) (p1 : Int32) (h0 : Heap) (n0 : Nat) (v : Option Value) (h : Heap) (L : List Loc) : Prop := v = some (.int (own_max p0 p1)) ∧ Fr n0 L ∧ h = h0
set_option maxRecDepth 65536 in
set_option maxHeartbeats 40000000 in
theorem rm_max (l : Launch) (Z : State) (av0 : Array Value) (hw : ∀ d ∈ tables_1, d.before av0 Z = true) (ws : List Jvm.Cond) (p0 : Int32) (p1 : Int32) (h0 : Heap) (n0 : Nat) :
    MetFree l (⟨"java/lang/Math", "max", "(II)I"⟩ : MethodName) (head1 (Jvm.Cond.code (⟨"java/lang/Math", "max", "(II)I"⟩ : MethodName) jdk_29_method_65_code 2 (some .int) :: ws) ({ frames := 0, cells := 0, slots := 0, locals := 0 } : Room)) (fun a U => a = #[(.int p0), (.int p1)] ∧ Z.Warmed39 U.vm ∧ U.heap = h0) (fun _ _ _ _ _ => True) (fun _ U o U' => ∃ v L, o = .returned v ∧ Q_max Z p0 p1 h0 n0 v U'.heap L ∧ FrameEnd U o U' L ({ frames := 0, cells := 0, slots := 0, locals := 0 } : Room).cells ({ frames := 0, cells := 0, slots := 0, locals := 0 } : Room).slots) := by
  refine MetFree.of_bodySF (Jvm.Free.JP.mathPlain rfl (by decide +kernel)) hisR ?_
  intro p e s m args below meth c s₁ Bd hml0 hP hK
  obtain ⟨rfl, hZ, hh⟩ := hP
  have hx := Bd.exec
  have hby := Bd.bytes
  have hml : c.maxLocals = 2 := hml0
  have hown : s.vm.findClass "java/lang/Math" = some m.cls := findClass_of_methodNamed Bd.named
  have hnm := (name_of_methodNamed Bd.named Bd.method).1
  have X0 : Stand p l e ({ frames := 0, cells := 0, slots := 0, locals := 0 } : Room) s m #[(.int p0), (.int p1)] below meth c s₁ [] 0 0 := Stand.of_body Bd
  have e0 : s₁.heap = h0 := by rw [← hh, Bd.state]; rfl
  have N0 := Fr.nil n0
  have pre0 : Go p.tables e below (s₁.setTop (entryFrame m #[(.int p0), (.int p1)] 2)) s₁ (mkF m 0 #[.val (.int p0), .val (.int p1)] []) := fun t k => castTop (ef_max m p0 p1) k
  have pre1 : Go p.tables e below (s₁.setTop (entryFrame m #[(.int p0), (.int p1)] 2)) s₁ (mkF m 2 #[.val (.int p0), .val (.int p1)] [(.int p1), (.int p0)]) := fun t k => pre0 t (by
      refine XS.iloadN X0.here hx rfl (hb hby d13_0) rfl ?_
      show Steps p.tables e below (s₁.setTop (mkF m 1 #[.val (.int p0), .val (.int p1)] [(.int p0)])) _
      refine XS.iloadN X0.here hx rfl (hb hby d13_1) rfl ?_
      exact k)
  by_cases hc2 : p0 < p1
  · -- hc2: True
    have pre3 : Go p.tables e below (s₁.setTop (entryFrame m #[(.int p0), (.int p1)] 2)) s₁ (mkF m 10 #[.val (.int p0), .val (.int p1)] [(.int p1)]) := fun t k => pre1 t (by
        refine XS.icmpYes X0.here hx rfl (pc0 := 2) (pc' := 9) rfl (hb hby d13_2) rfl (tlt hc2).1 (by decide) (by decide) ?_
        show Steps p.tables e below (s₁.setTop (mkF m 9 #[.val (.int p0), .val (.int p1)] [])) _
        refine XS.iloadN X0.here hx rfl (hb hby d13_9) rfl ?_
        exact k)
    obtain ⟨fs, hr, hrun, hended, hW, hsame⟩ := X0.leave (v := some (.int p1)) (fun h => by rw [Bd.returns] at h; cases h) (BodyLoose.notSynchronized Bd)
    refine ⟨_, _, pre3 _ ?_, hrun, hended, _, _, rfl, ?_, ⟨_, rfl⟩, hW, hsame.mono (Nat.le_of_ble_eq_true rfl) (Nat.le_of_ble_eq_true rfl)⟩
    · exact retI X0 hx Bd.returns (hb hby d13_10) hr
    · show Q_max Z p0 p1 h0 n0 _ s₁.heap _
      rw [e0]
      exact ⟨by simp [own_max, hc2], N0, rfl⟩
  · -- hc2: False
    have pre4 : Go p.tables e below (s₁.setTop (entryFrame m #[(.int p0), (.int p1)] 2)) s₁ (mkF m 10 #[.val (.int p0), .val (.int p1)] [(.int p0)]) := fun t k => pre1 t (by
        refine XS.icmpNo X0.here hx rfl (hb hby d13_2) rfl (flt hc2).1 ?_
        show Steps p.tables e below (s₁.setTop (mkF m 5 #[.val (.int p0), .val (.int p1)] [])) _
        refine XS.iloadN X0.here hx rfl (hb hby d13_5) rfl ?_
        show Steps p.tables e below (s₁.setTop (mkF m 6 #[.val (.int p0), .val (.int p1)] [(.int p0)])) _
        refine XS.goto X0.here hx rfl (pc0 := 6) (pc' := 10) rfl (hb hby d13_6) (by decide) (by decide) ?_
        exact k)
    obtain ⟨fs, hr, hrun, hended, hW, hsame⟩ := X0.leave (v := some (.int p0)) (fun h => by rw [Bd.returns] at h; cases h) (BodyLoose.notSynchronized Bd)
    refine ⟨_, _, pre4 _ ?_, hrun, hended, _, _, rfl, ?_, ⟨_, rfl⟩, hW, hsame.mono (Nat.le_of_ble_eq_true rfl) (Nat.le_of_ble_eq_true rfl)⟩
    · exact retI X0 hx Bd.returns (hb hby d13_10) hr
    · show Q_max Z p0 p1 h0 n0 _ s₁.heap _
      rw [e0]
      exact ⟨by simp [own_max, hc2], N0, rfl⟩
theorem d12_0 : decode jdk_38_method_6_code 0 = .ok (.aload_n 0, 1) := by decide +kernel
theorem d12_1 : decode jdk_38_method_6_code 1 = .ok (.getfield 9, 3) := by decide +kernel
theorem d12_4 : decode jdk_38_method_6_code 4 = .ok (.arraylength, 1) := by decide +kernel
theorem d12_5 : decode jdk_38_method_6_code 5 = .ok (.istore_n 2, 1) := by decide +kernel
theorem d12_6 : decode jdk_38_method_6_code 6 = .ok (.iload_n 2, 1) := by decide +kernel
theorem d12_7 : decode jdk_38_method_6_code 7 = .ok (.ifCond .gt 13, 3) := by decide +kernel
theorem d12_10 : decode jdk_38_method_6_code 10 = .ok (.aload_n 0, 1) := by decide +kernel
theorem d12_11 : decode jdk_38_method_6_code 11 = .ok (.getfield 9, 3) := by decide +kernel
theorem d12_14 : decode jdk_38_method_6_code 14 = .ok (.getstatic 39, 3) := by decide +kernel
theorem d12_17 : decode jdk_38_method_6_code 17 = .ok (.if_acmp .eq 28, 3) := by decide +kernel
theorem d12_20 : decode jdk_38_method_6_code 20 = .ok (.iload_n 2, 1) := by decide +kernel
theorem d12_21 : decode jdk_38_method_6_code 21 = .ok (.iload_n 1, 1) := by decide +kernel
theorem d12_22 : decode jdk_38_method_6_code 22 = .ok (.iload_n 2, 1) := by decide +kernel
theorem d12_23 : decode jdk_38_method_6_code 23 = .ok (.isub, 1) := by decide +kernel
theorem d12_24 : decode jdk_38_method_6_code 24 = .ok (.iload_n 2, 1) := by decide +kernel
theorem d12_25 : decode jdk_38_method_6_code 25 = .ok (.iconst 1, 1) := by decide +kernel
theorem d12_26 : decode jdk_38_method_6_code 26 = .ok (.ishr, 1) := by decide +kernel
theorem d12_27 : decode jdk_38_method_6_code 27 = .ok (.invokestatic 73, 3) := by decide +kernel
theorem d12_30 : decode jdk_38_method_6_code 30 = .ok (.istore_n 3, 1) := by decide +kernel
theorem d12_31 : decode jdk_38_method_6_code 31 = .ok (.aload_n 0, 1) := by decide +kernel
theorem d12_32 : decode jdk_38_method_6_code 32 = .ok (.aload_n 0, 1) := by decide +kernel
theorem d12_33 : decode jdk_38_method_6_code 33 = .ok (.getfield 9, 3) := by decide +kernel
theorem d12_36 : decode jdk_38_method_6_code 36 = .ok (.iload_n 3, 1) := by decide +kernel
theorem d12_37 : decode jdk_38_method_6_code 37 = .ok (.invokestatic 66, 3) := by decide +kernel
theorem d12_40 : decode jdk_38_method_6_code 40 = .ok (.dup_x1, 1) := by decide +kernel
theorem d12_41 : decode jdk_38_method_6_code 41 = .ok (.putfield 9, 3) := by decide +kernel
theorem d12_44 : decode jdk_38_method_6_code 44 = .ok (.areturn, 1) := by decide +kernel
theorem d12_45 : decode jdk_38_method_6_code 45 = .ok (.aload_n 0, 1) := by decide +kernel
theorem d12_46 : decode jdk_38_method_6_code 46 = .ok (.bipush 10, 2) := by decide +kernel
theorem d12_48 : decode jdk_38_method_6_code 48 = .ok (.iload_n 1, 1) := by decide +kernel
theorem d12_49 : decode jdk_38_method_6_code 49 = .ok (.invokestatic 79, 3) := by decide +kernel
theorem d12_52 : decode jdk_38_method_6_code 52 = .ok (.anewarray 7, 3) := by decide +kernel
theorem d12_55 : decode jdk_38_method_6_code 55 = .ok (.dup_x1, 1) := by decide +kernel
theorem d12_56 : decode jdk_38_method_6_code 56 = .ok (.putfield 9, 3) := by decide +kernel
theorem d12_59 : decode jdk_38_method_6_code 59 = .ok (.areturn, 1) := by decide +kernel
theorem pn_gr1 : plainName "java/util/ArrayList" = true := by first | (simp [plainName, overriddenIn]; done) | decide +kernel
theorem ef_gr1 (m : MethodId) (a0 : Addr) : entryFrame m #[(.ref a0), (.int ((0 : Int32) + (1 : Int32)))] 4 = mkF m 0 #[.val (.ref a0), .val (.int ((0 : Int32) + (1 : Int32))), .unset, .unset] [] := by first | (simp [entryFrame, mkF, argsToLocals, Value.category]; done) | rfl
def Q_gr1 (Z : State) (a0 : Addr) (ad : Addr) (kd : ClassId) (m0 : Int32) (h0 : Heap) (n0 : Nat) (v : Option Value) (h : Heap) (L : List Loc) : Prop := ∃ (b : Addr) (kb : ClassId), v = some (.ref b) ∧ Fr n0 L ∧ Keep h0 h [a0] ∧ h0.size ≤ b ∧ n0 ≤ b ∧ Fld Z h a0 "java/util/AbstractList" "modCount" "I" (.int m0) ∧ Fld Z h a0 "java/util/ArrayList" "elementData" "[Ljava/lang/Object;" (.ref b) ∧ Fld Z h a0 "java/util/ArrayList" "size" "I" (.int (0 : Int32)) ∧ Exa Z h a0 "java/util/ArrayList" ∧ Arv Z h b kb (.object "java/lang/Object") (10 : Int32) [.null, .null, .null, .null, .null, .null, .null, .null, .null, .null] .null ∧ Ovr Z kb "java/lang/Object"
set_option maxRecDepth 65536 in
set_option maxHeartbeats 40000000 in
theorem rm_gr1 (l : Launch) (Z : State) (av0 : Array Value) (hw : ∀ d ∈ tables_1, d.before av0 Z = true) (ws : List Jvm.Cond) (a0 : Addr) (ad : Addr) (kd : ClassId) (m0 : Int32) (h0 : Heap) (n0 : Nat) (Z0 : n0 ≤ h0.size) (fi0 : Old Z n0 h0) (fi1 : Fld Z h0 a0 "java/util/AbstractList" "modCount" "I" (.int m0)) (fi2 : Fld Z h0 a0 "java/util/ArrayList" "elementData" "[Ljava/lang/Object;" (.ref ad)) (fi3 : Fld Z h0 a0 "java/util/ArrayList" "size" "I" (.int (0 : Int32))) (fi4 : Exa Z h0 a0 "java/util/ArrayList") (fi5 : Arv Z h0 ad kd (.object "java/lang/Object") (0 : Int32) [] .null) (g_a0 : n0 ≤ a0) (ne_a0_ad : a0 ≠ ad) (S_D : Sta Z Z.heap "java/util/ArrayList" "DEFAULTCAPACITY_EMPTY_ELEMENTDATA" "[Ljava/lang/Object;" (.ref ad)) :
    MetFree l (⟨"java/util/ArrayList", "grow", "(I)[Ljava/lang/Object;"⟩ : MethodName) (head1 (Jvm.Cond.code (⟨"java/util/ArrayList", "grow", "(I)[Ljava/lang/Object;"⟩ : MethodName) jdk_38_method_6_code 4 (some (.array (.object "java/lang/Object"))) :: ws) ({ frames := 1, cells := 1, slots := 10, locals := 14 } : Room)) (fun a U => a = #[(.ref a0), (.int ((0 : Int32) + (1 : Int32)))] ∧ Z.Warmed39 U.vm ∧ U.heap = h0) (fun _ _ _ _ _ => True) (fun _ U o U' => ∃ v L, o = .returned v ∧ Q_gr1 Z a0 ad kd m0 h0 n0 v U'.heap L ∧ FrameEnd U o U' L ({ frames := 1, cells := 1, slots := 10, locals := 14 } : Room).cells ({ frames := 1, cells := 1, slots := 10, locals := 14 } : Room).slots) := by
  refine MetFree.of_bodySF (plainFor_of_name pn_gr1) hisR ?_
  intro p e s m args below meth c s₁ Bd hml0 hP hK
  obtain ⟨rfl, hZ, hh⟩ := hP
  have hx := Bd.exec
  have hby := Bd.bytes
  have hml : c.maxLocals = 4 := hml0
  have hown : s.vm.findClass "java/util/ArrayList" = some m.cls := findClass_of_methodNamed Bd.named
  have hnm := (name_of_methodNamed Bd.named Bd.method).1
  have X0 : Stand p l e ({ frames := 1, cells := 1, slots := 10, locals := 14 } : Room) s m #[(.ref a0), (.int ((0 : Int32) + (1 : Int32)))] below meth c s₁ [] 0 0 := Stand.of_body Bd
  have e0 : s₁.heap = h0 := by rw [← hh, Bd.state]; rfl
  have N0 := Fr.nil n0
  have pre0 : Go p.tables e below (s₁.setTop (entryFrame m #[(.ref a0), (.int ((0 : Int32) + (1 : Int32)))] 4)) s₁ (mkF m 0 #[.val (.ref a0), .val (.int ((0 : Int32) + (1 : Int32))), .unset, .unset] []) := fun t k => castTop (ef_gr1 m a0) k
  have K0 : Keep h0 h0 [a0] := Keep.refl _ _
  have pre1 : Go p.tables e below (s₁.setTop (entryFrame m #[(.ref a0), (.int ((0 : Int32) + (1 : Int32)))] 4)) s₁ (mkF m 1 #[.val (.ref a0), .val (.int ((0 : Int32) + (1 : Int32))), .unset, .unset] [(.ref a0)]) := fun t k => pre0 t (by
      refine XS.aloadN X0.here hx rfl (hb hby d12_0) rfl rfl ?_
      exact k)
  obtain ⟨T2, X2, e2, st2⟩ := getF X0 hx hZ hown (host := "") (Or.inl (hw _ (List.mem_of_getElem? (i := 32) rfl))) Via.refl e0 fi2 (g := (mkF m 1 #[.val (.ref a0), .val (.int ((0 : Int32) + (1 : Int32))), .unset, .unset] [(.ref a0)])) rfl rfl (hb hby d12_1)
  have pre2 : Go p.tables e below (s₁.setTop (entryFrame m #[(.ref a0), (.int ((0 : Int32) + (1 : Int32)))] 4)) T2 (mkF m 4 #[.val (.ref a0), .val (.int ((0 : Int32) + (1 : Int32))), .unset, .unset] [(.ref ad)]) := fun t k => pre1 t (st2 _ k)
  obtain ⟨c3, Ar3, q3, S3, M3, H3, G3⟩ := (id fi5)
  have pre3 : Go p.tables e below (s₁.setTop (entryFrame m #[(.ref a0), (.int ((0 : Int32) + (1 : Int32)))] 4)) T2 (mkF m 5 #[.val (.ref a0), .val (.int ((0 : Int32) + (1 : Int32))), .unset, .unset] [(.int (0 : Int32))]) := fun t k => pre2 t (X2.arraylength hx (by rw [e2]; exact Ar3.1) (State.isArrayOf_alike hZ.alike Ar3.2.1) (g := (mkF m 4 #[.val (.ref a0), .val (.int ((0 : Int32) + (1 : Int32))), .unset, .unset] [(.ref ad)])) rfl rfl (hb hby d12_4) _ (by rw [len_of S3 M3]; exact k))
  have pre4 : Go p.tables e below (s₁.setTop (entryFrame m #[(.ref a0), (.int ((0 : Int32) + (1 : Int32)))] 4)) T2 (mkF m 11 #[.val (.ref a0), .val (.int ((0 : Int32) + (1 : Int32))), .val (.int (0 : Int32)), .unset] [(.ref a0)]) := fun t k => pre3 t (by
      refine XS.istoreN X2.here hx rfl (hb hby d12_5) rfl (l' := #[.val (.ref a0), .val (.int ((0 : Int32) + (1 : Int32))), .val (.int (0 : Int32)), .unset]) rfl ?_
      show Steps p.tables e below (T2.setTop (mkF m 6 #[.val (.ref a0), .val (.int ((0 : Int32) + (1 : Int32))), .val (.int (0 : Int32)), .unset] [])) _
      refine XS.iloadN X2.here hx rfl (hb hby d12_6) rfl ?_
      show Steps p.tables e below (T2.setTop (mkF m 7 #[.val (.ref a0), .val (.int ((0 : Int32) + (1 : Int32))), .val (.int (0 : Int32)), .unset] [(.int (0 : Int32))])) _
      refine XS.ifNo X2.here hx rfl (hb hby d12_7) rfl ((if0 _ _).trans (flt (by decide)).2.2.1) ?_
      show Steps p.tables e below (T2.setTop (mkF m 10 #[.val (.ref a0), .val (.int ((0 : Int32) + (1 : Int32))), .val (.int (0 : Int32)), .unset] [])) _
      refine XS.aloadN X2.here hx rfl (hb hby d12_10) rfl rfl ?_
      exact k)
  obtain ⟨T5, X5, e5, st5⟩ := getF X2 hx hZ hown (host := "") (Or.inl (hw _ (List.mem_of_getElem? (i := 32) rfl))) Via.refl e2 fi2 (g := (mkF m 11 #[.val (.ref a0), .val (.int ((0 : Int32) + (1 : Int32))), .val (.int (0 : Int32)), .unset] [(.ref a0)])) rfl rfl (hb hby d12_11)
  have pre5 : Go p.tables e below (s₁.setTop (entryFrame m #[(.ref a0), (.int ((0 : Int32) + (1 : Int32)))] 4)) T5 (mkF m 14 #[.val (.ref a0), .val (.int ((0 : Int32) + (1 : Int32))), .val (.int (0 : Int32)), .unset] [(.ref ad)]) := fun t k => pre4 t (st5 _ k)
  obtain ⟨T6, X6, e6, st6⟩ := getS2 X5 hx hZ hown (host := "") (Or.inl (hw _ (List.mem_of_getElem? (i := 31) rfl))) Via.refl e5 (S_D.ext fi0.2) (g := (mkF m 14 #[.val (.ref a0), .val (.int ((0 : Int32) + (1 : Int32))), .val (.int (0 : Int32)), .unset] [(.ref ad)])) rfl (hb hby d12_14)
  have pre6 : Go p.tables e below (s₁.setTop (entryFrame m #[(.ref a0), (.int ((0 : Int32) + (1 : Int32)))] 4)) T6 (mkF m 17 #[.val (.ref a0), .val (.int ((0 : Int32) + (1 : Int32))), .val (.int (0 : Int32)), .unset] [(.ref ad), (.ref ad)]) := fun t k => pre5 t (st6 _ k)
  have pre7 : Go p.tables e below (s₁.setTop (entryFrame m #[(.ref a0), (.int ((0 : Int32) + (1 : Int32)))] 4)) T6 (mkF m 49 #[.val (.ref a0), .val (.int ((0 : Int32) + (1 : Int32))), .val (.int (0 : Int32)), .unset] [(.int ((0 : Int32) + (1 : Int32))), (.int (10 : Int32)), (.ref a0)]) := fun t k => pre6 t (by
      refine Jvm.RoadKit.acmp (g := (mkF m 17 #[.val (.ref a0), .val (.int ((0 : Int32) + (1 : Int32))), .val (.int (0 : Int32)), .unset] [(.ref ad), (.ref ad)])) X6 hx rfl rfl rfl (pc0 := 17) (pc' := 45) (same := true) rfl (hb hby d12_17) rfl (decide_eq_true rfl) (by decide) (by decide) ?_
      show Steps p.tables e below (T6.setTop (mkF m 45 #[.val (.ref a0), .val (.int ((0 : Int32) + (1 : Int32))), .val (.int (0 : Int32)), .unset] [])) _
      refine XS.aloadN X6.here hx rfl (hb hby d12_45) rfl rfl ?_
      show Steps p.tables e below (T6.setTop (mkF m 46 #[.val (.ref a0), .val (.int ((0 : Int32) + (1 : Int32))), .val (.int (0 : Int32)), .unset] [(.ref a0)])) _
      refine XS.bipush X6.here hx rfl (hb hby d12_46) ?_
      show Steps p.tables e below (T6.setTop (mkF m 48 #[.val (.ref a0), .val (.int ((0 : Int32) + (1 : Int32))), .val (.int (0 : Int32)), .unset] [(.int (10 : Int32)), (.ref a0)])) _
      refine XS.iloadN X6.here hx rfl (hb hby d12_48) rfl ?_
      exact k)
  obtain ⟨_, _, ⟨T8, L8, k8, n8⟩, -, X8, ⟨Lc8, hQ8, l8, y8, z8⟩, st8⟩ := Jvm.LawKit.callS X6 hx (y := (⟨"java/lang/Math", "max", "(II)I"⟩ : MethodName)) hown (mvT hZ (hw _ (List.mem_of_getElem? (i := 89) rfl))) (mvT hZ (hw _ (List.mem_of_getElem? (i := 90) rfl))) (mvT hZ (hw _ (List.mem_of_getElem? (i := 91) rfl))) (mvT hZ (hw _ (List.mem_of_getElem? (i := 92) rfl))) (by decide) (backOf (W := 1) (rm_max l Z av0 hw [] (10 : Int32) ((0 : Int32) + (1 : Int32)) h0 n0) hZ (hw _ (List.mem_of_getElem? (i := 92) rfl)) (hw _ (List.mem_of_getElem? (i := 91) rfl)) (by decide) (by decide)) (g := (mkF m 49 #[.val (.ref a0), .val (.int ((0 : Int32) + (1 : Int32))), .val (.int (0 : Int32)), .unset] [(.int ((0 : Int32) + (1 : Int32))), (.int (10 : Int32)), (.ref a0)])) rfl (by rw [hml]; rfl) (argsL := [(.int (10 : Int32)), (.int ((0 : Int32) + (1 : Int32)))]) (rest := [(.ref a0)]) (lenOf pd_2 rfl) rfl (by show 2 * 0 + _ ≤ _; exact Nat.le_of_eq rfl) (hb hby d12_49) (fun _ _ => ⟨rfl, e6, (by decide : 0 + 0 ≤ _), (by decide : 0 + 0 ≤ _)⟩)
  dsimp only [Pt.U, Pt.locs, Pt.cells, Pt.slots] at X8 l8 y8 z8 st8 hQ8
  subst l8 y8 z8
  obtain ⟨hv8, N8q, e8⟩ := hQ8
  rw [show own_max (10 : Int32) ((0 : Int32) + (1 : Int32)) = (10 : Int32) from by decide] at hv8
  subst hv8
  have N8 := Fr.app N0 N8q
  have pre8 : Go p.tables e below (s₁.setTop (entryFrame m #[(.ref a0), (.int ((0 : Int32) + (1 : Int32)))] 4)) T8 (mkF m 52 #[.val (.ref a0), .val (.int ((0 : Int32) + (1 : Int32))), .val (.int (0 : Int32)), .unset] [(.int (10 : Int32)), (.ref a0)]) := fun t k => pre7 t (st8 _ k)
  obtain ⟨T9, h9, k9, X9, e9, E9, A9, O9, st9⟩ := newR X8 hx hZ hown (hw _ (List.mem_of_getElem? (i := 93) rfl)) (hw _ (List.mem_of_getElem? (i := 94) rfl)) e8 (g := (mkF m 52 #[.val (.ref a0), .val (.int ((0 : Int32) + (1 : Int32))), .val (.int (0 : Int32)), .unset] [(.int (10 : Int32)), (.ref a0)])) rfl (hb hby d12_52) rfl (by decide) (cap := 10) (by decide) (by decide) (by decide) (by decide)
  obtain ⟨b9, ga9⟩ : ∃ z, z = h0.size := ⟨_, rfl⟩
  rw [← ga9] at A9 st9
  have ne10 : a0 ≠ b9 := Nat.ne_of_lt (Nat.lt_of_lt_of_le fi1.lt (Nat.le_of_eq ga9.symm))
  have ne11 : ad ≠ b9 := Nat.ne_of_lt (Nat.lt_of_lt_of_le fi5.lt (Nat.le_of_eq ga9.symm))
  have g12 : n0 ≤ b9 := Nat.le_trans Z0 (Nat.le_of_eq ga9.symm)
  have sz13 : h0.size ≤ b9 := Nat.le_trans K0.1 (Nat.le_of_eq ga9.symm)
  have f14 : n0 ≤ h9.size := Nat.le_trans Z0 E9.1
  have f15 : Old Z n0 h9 := fi0.ext E9
  have f16 : Fld Z h9 a0 "java/util/AbstractList" "modCount" "I" (.int m0) := fi1.ext E9
  have f17 : Fld Z h9 a0 "java/util/ArrayList" "elementData" "[Ljava/lang/Object;" (.ref ad) := fi2.ext E9
  have f18 : Fld Z h9 a0 "java/util/ArrayList" "size" "I" (.int (0 : Int32)) := fi3.ext E9
  have f19 : Exa Z h9 a0 "java/util/ArrayList" := fi4.ext E9
  have f20 : Arv Z h9 ad kd (.object "java/lang/Object") (0 : Int32) [] .null := fi5.ext E9
  have f21 : Keep h0 h9 [a0] := K0.ext E9
  have f22 : Arv Z h9 b9 k9 (.object "java/lang/Object") (10 : Int32) [.null, .null, .null, .null, .null, .null, .null, .null, .null, .null] .null := (Arv.new A9 (by decide)).pad (pad_rep [] .null 10)
  have pre9 : Go p.tables e below (s₁.setTop (entryFrame m #[(.ref a0), (.int ((0 : Int32) + (1 : Int32)))] 4)) T9 (mkF m 55 #[.val (.ref a0), .val (.int ((0 : Int32) + (1 : Int32))), .val (.int (0 : Int32)), .unset] [(.ref b9), (.ref a0)]) := fun t k => pre8 t (st9 _ k)
  have pre23 : Go p.tables e below (s₁.setTop (entryFrame m #[(.ref a0), (.int ((0 : Int32) + (1 : Int32)))] 4)) T9 (mkF m 56 #[.val (.ref a0), .val (.int ((0 : Int32) + (1 : Int32))), .val (.int (0 : Int32)), .unset] [(.ref b9), (.ref a0), (.ref b9)]) := fun t k => pre9 t (by
      refine XS.dupX1 X9.here hx rfl (hb hby d12_55) rfl rfl rfl ?_
      exact k)
  obtain ⟨T24, h24, X24, e24, W24, st24⟩ := putF X9 hx hZ hown (host := "") (Or.inl (hw _ (List.mem_of_getElem? (i := 32) rfl))) Via.refl e9 f17 f19 (Or.inl (hw _ (List.mem_of_getElem? (i := 33) rfl))) (hw _ (List.mem_of_getElem? (i := 11) rfl)) (ty := (.array (.object "java/lang/Object"))) (by decide) rfl rfl (g := (mkF m 56 #[.val (.ref a0), .val (.int ((0 : Int32) + (1 : Int32))), .val (.int (0 : Int32)), .unset] [(.ref b9), (.ref a0), (.ref b9)])) rfl rfl (hb hby d12_56)
  have N24 := Fr.snoc X24 N8 g_a0
  have f25 : n0 ≤ h24.size := Nat.le_trans f14 (Keep.of_wr W24).1
  have f26 : Old Z n0 h24 := f15.wr W24 g_a0
  have f27 : Fld Z h24 a0 "java/util/AbstractList" "modCount" "I" (.int m0) := f16.other W24 (Or.inr (slot_ne (Or.inl (hw _ (List.mem_of_getElem? (i := 30) rfl))) (Or.inl (hw _ (List.mem_of_getElem? (i := 33) rfl))) (by decide) (t := .int) (t' := (.array (.object "java/lang/Object"))) (by decide) (by decide)))
  have f28 : Fld Z h24 a0 "java/util/ArrayList" "elementData" "[Ljava/lang/Object;" (.ref b9) := f17.same W24
  have f29 : Fld Z h24 a0 "java/util/ArrayList" "size" "I" (.int (0 : Int32)) := f18.other W24 (Or.inr (slot_ne (Or.inl (hw _ (List.mem_of_getElem? (i := 54) rfl))) (Or.inl (hw _ (List.mem_of_getElem? (i := 33) rfl))) (by decide) (t := .int) (t' := (.array (.object "java/lang/Object"))) (by decide) (by decide)))
  have f30 : Exa Z h24 a0 "java/util/ArrayList" := f19.wr W24
  have f31 : Arv Z h24 ad kd (.object "java/lang/Object") (0 : Int32) [] .null := f20.other W24 ne_a0_ad.symm
  have f32 : Keep h0 h24 [a0] := f21.wr W24 (Or.inl (List.mem_of_getElem? (i := 0) rfl))
  have f33 : Arv Z h24 b9 k9 (.object "java/lang/Object") (10 : Int32) [.null, .null, .null, .null, .null, .null, .null, .null, .null, .null] .null := f22.other W24 ne10.symm
  have pre24 : Go p.tables e below (s₁.setTop (entryFrame m #[(.ref a0), (.int ((0 : Int32) + (1 : Int32)))] 4)) T24 (mkF m 59 #[.val (.ref a0), .val (.int ((0 : Int32) + (1 : Int32))), .val (.int (0 : Int32)), .unset] [(.ref b9)]) := fun t k => pre23 t (st24 _ k)
  obtain ⟨fs, hr, hrun, hended, hW, hsame⟩ := X24.leave (v := some (.ref b9)) (fun h => by rw [Bd.returns] at h; cases h) (BodyLoose.notSynchronized Bd)
  refine ⟨_, _, pre24 _ ?_, hrun, hended, _, _, rfl, ?_, ⟨_, rfl⟩, hW, hsame.mono (Nat.le_of_ble_eq_true rfl) (Nat.le_of_ble_eq_true rfl)⟩
  · exact retOut X24 hx Bd.returns rfl (Or.inr (Or.inr (Or.inr (Or.inr ⟨rfl, rfl, rfl⟩)))) (hb hby d12_59) hr
  · show Q_gr1 Z a0 ad kd m0 h0 n0 _ T24.heap _
    rw [e24]
    exact ⟨b9, k9, rfl, N24, f32, sz13, g12, f27, f28, f29, f30, f33, O9⟩
theorem d11_0 : decode jdk_38_method_7_code 0 = .ok (.aload_n 0, 1) := by decide +kernel
theorem d11_1 : decode jdk_38_method_7_code 1 = .ok (.aload_n 0, 1) := by decide +kernel
theorem d11_2 : decode jdk_38_method_7_code 2 = .ok (.getfield 48, 3) := by decide +kernel
theorem d11_5 : decode jdk_38_method_7_code 5 = .ok (.iconst 1, 1) := by decide +kernel
theorem d11_6 : decode jdk_38_method_7_code 6 = .ok (.iadd, 1) := by decide +kernel
theorem d11_7 : decode jdk_38_method_7_code 7 = .ok (.invokevirtual 69, 3) := by decide +kernel
theorem d11_10 : decode jdk_38_method_7_code 10 = .ok (.areturn, 1) := by decide +kernel
theorem pn_gr0 : plainName "java/util/ArrayList" = true := by first | (simp [plainName, overriddenIn]; done) | decide +kernel
theorem ef_gr0 (m : MethodId) (a0 : Addr) : entryFrame m #[(.ref a0)] 1 = mkF m 0 #[.val (.ref a0)] [] := by first | (simp [entryFrame, mkF, argsToLocals, Value.category]; done) | rfl
def Q_gr0 (Z : State) (a0 : Addr) (ad : Addr) (kd : ClassId) (m0 : Int32) (h0 : Heap) (n0 : Nat) (v : Option Value) (h : Heap) (L : List Loc) : Prop := ∃ (b : Addr) (kb : ClassId), v = some (.ref b) ∧ Fr n0 L ∧ Keep h0 h [a0] ∧ h0.size ≤ b ∧ n0 ≤ b ∧ Fld Z h a0 "java/util/AbstractList" "modCount" "I" (.int m0) ∧ Fld Z h a0 "java/util/ArrayList" "elementData" "[Ljava/lang/Object;" (.ref b) ∧ Fld Z h a0 "java/util/ArrayList" "size" "I" (.int (0 : Int32)) ∧ Exa Z h a0 "java/util/ArrayList" ∧ Arv Z h b kb (.object "java/lang/Object") (10 : Int32) [.null, .null, .null, .null, .null, .null, .null, .null, .null, .null] .null ∧ Ovr Z kb "java/lang/Object"
set_option maxRecDepth 65536 in
set_option maxHeartbeats 40000000 in
theorem rm_gr0 (l : Launch) (Z : State) (av0 : Array Value) (hw : ∀ d ∈ tables_1, d.before av0 Z = true) (ws : List Jvm.Cond) (a0 : Addr) (ad : Addr) (kd : ClassId) (m0 : Int32) (h0 : Heap) (n0 : Nat) (Z0 : n0 ≤ h0.size) (fi0 : Old Z n0 h0) (fi1 : Fld Z h0 a0 "java/util/AbstractList" "modCount" "I" (.int m0)) (fi2 : Fld Z h0 a0 "java/util/ArrayList" "elementData" "[Ljava/lang/Object;" (.ref ad)) (fi3 : Fld Z h0 a0 "java/util/ArrayList" "size" "I" (.int (0 : Int32))) (fi4 : Exa Z h0 a0 "java/util/ArrayList") (fi5 : Arv Z h0 ad kd (.object "java/lang/Object") (0 : Int32) [] .null) (g_a0 : n0 ≤ a0) (ne_a0_ad : a0 ≠ ad) (S_D : Sta Z Z.heap "java/util/ArrayList" "DEFAULTCAPACITY_EMPTY_ELEMENTDATA" "[Ljava/lang/Object;" (.ref ad)) :
    MetFree l (⟨"java/util/ArrayList", "grow", "()[Ljava/lang/Object;"⟩ : MethodName) (head1 (Jvm.Cond.code (⟨"java/util/ArrayList", "grow", "()[Ljava/lang/Object;"⟩ : MethodName) jdk_38_method_7_code 1 (some (.array (.object "java/lang/Object"))) :: ws) ({ frames := 2, cells := 1, slots := 10, locals := 29 } : Room)) (fun a U => a = #[(.ref a0)] ∧ Z.Warmed39 U.vm ∧ U.heap = h0) (fun _ _ _ _ _ => True) (fun _ U o U' => ∃ v L, o = .returned v ∧ Q_gr0 Z a0 ad kd m0 h0 n0 v U'.heap L ∧ FrameEnd U o U' L ({ frames := 2, cells := 1, slots := 10, locals := 29 } : Room).cells ({ frames := 2, cells := 1, slots := 10, locals := 29 } : Room).slots) := by
  refine MetFree.of_bodySF (plainFor_of_name pn_gr0) hisR ?_
  intro p e s m args below meth c s₁ Bd hml0 hP hK
  obtain ⟨rfl, hZ, hh⟩ := hP
  have hx := Bd.exec
  have hby := Bd.bytes
  have hml : c.maxLocals = 1 := hml0
  have hown : s.vm.findClass "java/util/ArrayList" = some m.cls := findClass_of_methodNamed Bd.named
  have hnm := (name_of_methodNamed Bd.named Bd.method).1
  have X0 : Stand p l e ({ frames := 2, cells := 1, slots := 10, locals := 29 } : Room) s m #[(.ref a0)] below meth c s₁ [] 0 0 := Stand.of_body Bd
  have e0 : s₁.heap = h0 := by rw [← hh, Bd.state]; rfl
  have N0 := Fr.nil n0
  have pre0 : Go p.tables e below (s₁.setTop (entryFrame m #[(.ref a0)] 1)) s₁ (mkF m 0 #[.val (.ref a0)] []) := fun t k => castTop (ef_gr0 m a0) k
  have K0 : Keep h0 h0 [a0] := Keep.refl _ _
  have pre1 : Go p.tables e below (s₁.setTop (entryFrame m #[(.ref a0)] 1)) s₁ (mkF m 2 #[.val (.ref a0)] [(.ref a0), (.ref a0)]) := fun t k => pre0 t (by
      refine XS.aloadN X0.here hx rfl (hb hby d11_0) rfl rfl ?_
      show Steps p.tables e below (s₁.setTop (mkF m 1 #[.val (.ref a0)] [(.ref a0)])) _
      refine XS.aloadN X0.here hx rfl (hb hby d11_1) rfl rfl ?_
      exact k)
  obtain ⟨T2, X2, e2, st2⟩ := getF X0 hx hZ hown (host := "") (Or.inl (hw _ (List.mem_of_getElem? (i := 53) rfl))) Via.refl e0 fi3 (g := (mkF m 2 #[.val (.ref a0)] [(.ref a0), (.ref a0)])) rfl rfl (hb hby d11_2)
  have pre2 : Go p.tables e below (s₁.setTop (entryFrame m #[(.ref a0)] 1)) T2 (mkF m 5 #[.val (.ref a0)] [(.int (0 : Int32)), (.ref a0)]) := fun t k => pre1 t (st2 _ k)
  have pre3 : Go p.tables e below (s₁.setTop (entryFrame m #[(.ref a0)] 1)) T2 (mkF m 7 #[.val (.ref a0)] [(.int ((0 : Int32) + (1 : Int32))), (.ref a0)]) := fun t k => pre2 t (by
      refine XS.iconst X2.here hx rfl (hb hby d11_5) ?_
      show Steps p.tables e below (T2.setTop (mkF m 6 #[.val (.ref a0)] [(.int (1 : Int32)), (.int (0 : Int32)), (.ref a0)])) _
      refine XS.iadd X2.here hx rfl (hb hby d11_6) rfl ?_
      exact k)
  obtain ⟨cq4, q4, q4'⟩ := fi4.cell
  obtain ⟨_, _, ⟨T4, L4, k4, n4⟩, -, X4, ⟨Lc4, hQ4, l4, y4, z4⟩, st4⟩ := X2.privateBack hx (y := (⟨"java/util/ArrayList", "grow", "(I)[Ljava/lang/Object;"⟩ : MethodName)) hown (mvT hZ (hw _ (List.mem_of_getElem? (i := 84) rfl))) (mvT hZ (hw _ (List.mem_of_getElem? (i := 85) rfl))) (mvT hZ (hw _ (List.mem_of_getElem? (i := 87) rfl))) (Cond.privateMethod_at (mvP hZ (hw _ (List.mem_of_getElem? (i := 86) rfl)) (args := #[]))) (mvT hZ (hw _ (List.mem_of_getElem? (i := 88) rfl))) (by decide) (backOf (W := 0) (rm_gr1 l Z av0 hw [] a0 ad kd m0 h0 n0 Z0 fi0 fi1 fi2 fi3 fi4 fi5 g_a0 ne_a0_ad S_D) hZ (hw _ (List.mem_of_getElem? (i := 88) rfl)) (hw _ (List.mem_of_getElem? (i := 12) rfl)) (by decide) (by decide)) (g := (mkF m 7 #[.val (.ref a0)] [(.int ((0 : Int32) + (1 : Int32))), (.ref a0)])) rfl (by rw [hml]; rfl) (Steps.refl _) (a := a0) (by rw [e2]; exact q4) q4' (argsL := [(.int ((0 : Int32) + (1 : Int32)))]) (rest := []) (lenOf pd_3 rfl) rfl (by show 2 * 0 + _ ≤ _; exact Nat.le_of_eq rfl) (hb hby d11_7) (fun _ _ => ⟨rfl, e2, (by decide : 0 + 1 ≤ _), (by decide : 0 + 10 ≤ _)⟩)
  dsimp only [Pt.U, Pt.locs, Pt.cells, Pt.slots] at X4 l4 y4 z4 st4 hQ4
  subst l4 y4 z4
  obtain ⟨b4, kb4, hv4, N4q, K4, sb4, gb4, fo4_0, fo4_1, fo4_2, fo4_3, fo4_4, po4_0⟩ := hQ4
  have ne5 : a0 ≠ b4 := Nat.ne_of_lt (Nat.lt_of_lt_of_le fi1.lt sb4)
  have ne6 : ad ≠ b4 := Nat.ne_of_lt (Nat.lt_of_lt_of_le fi5.lt sb4)
  have g7 : n0 ≤ b4 := Nat.le_trans Z0 sb4
  have sz8 : h0.size ≤ b4 := Nat.le_trans K0.1 sb4
  have f9 : n0 ≤ T4.heap.size := Nat.le_trans Z0 K4.1
  have f10 : Old Z n0 T4.heap := fi0.keep K4 (allS g_a0 all0)
  have f11 : Exa Z T4.heap a0 "java/util/ArrayList" := fi4.keep K4
  have f12 : Arv Z T4.heap ad kd (.object "java/lang/Object") (0 : Int32) [] .null := fi5.keep K4 (ninS ne_a0_ad.symm nin0)
  have f13 : Keep h0 T4.heap [a0] := K0.trans K4 (allS (Or.inl (List.mem_of_getElem? (i := 0) rfl)) all0)
  subst hv4
  have N4 := Fr.app N0 N4q
  have pre4 : Go p.tables e below (s₁.setTop (entryFrame m #[(.ref a0)] 1)) T4 (mkF m 10 #[.val (.ref a0)] [(.ref b4)]) := fun t k => pre3 t (st4.trans k)
  obtain ⟨fs, hr, hrun, hended, hW, hsame⟩ := X4.leave (v := some (.ref b4)) (fun h => by rw [Bd.returns] at h; cases h) (BodyLoose.notSynchronized Bd)
  refine ⟨_, _, pre4 _ ?_, hrun, hended, _, _, rfl, ?_, ⟨_, rfl⟩, hW, hsame.mono (Nat.le_of_ble_eq_true rfl) (Nat.le_of_ble_eq_true rfl)⟩
  · exact retOut X4 hx Bd.returns rfl (Or.inr (Or.inr (Or.inr (Or.inr ⟨rfl, rfl, rfl⟩)))) (hb hby d11_10) hr
  · show Q_gr0 Z a0 ad kd m0 h0 n0 _ T4.heap _
    exact ⟨b4, kb4, rfl, N4, f13, sz8, gb4, fo4_0, fo4_1, fo4_2, fo4_3, fo4_4, po4_0⟩
theorem d10_0 : decode jdk_38_method_24_code 0 = .ok (.iload_n 3, 1) := by decide +kernel
theorem d10_1 : decode jdk_38_method_24_code 1 = .ok (.aload_n 2, 1) := by decide +kernel
theorem d10_2 : decode jdk_38_method_24_code 2 = .ok (.arraylength, 1) := by decide +kernel
theorem d10_3 : decode jdk_38_method_24_code 3 = .ok (.if_icmp .ne 8, 3) := by decide +kernel
theorem d10_6 : decode jdk_38_method_24_code 6 = .ok (.aload_n 0, 1) := by decide +kernel
theorem d10_7 : decode jdk_38_method_24_code 7 = .ok (.invokevirtual 129, 3) := by decide +kernel
theorem d10_10 : decode jdk_38_method_24_code 10 = .ok (.astore_n 2, 1) := by decide +kernel
theorem d10_11 : decode jdk_38_method_24_code 11 = .ok (.aload_n 2, 1) := by decide +kernel
theorem d10_12 : decode jdk_38_method_24_code 12 = .ok (.iload_n 3, 1) := by decide +kernel
theorem d10_13 : decode jdk_38_method_24_code 13 = .ok (.aload_n 1, 1) := by decide +kernel
theorem d10_14 : decode jdk_38_method_24_code 14 = .ok (.aastore, 1) := by decide +kernel
theorem d10_15 : decode jdk_38_method_24_code 15 = .ok (.aload_n 0, 1) := by decide +kernel
theorem d10_16 : decode jdk_38_method_24_code 16 = .ok (.iload_n 3, 1) := by decide +kernel
theorem d10_17 : decode jdk_38_method_24_code 17 = .ok (.iconst 1, 1) := by decide +kernel
theorem d10_18 : decode jdk_38_method_24_code 18 = .ok (.iadd, 1) := by decide +kernel
theorem d10_19 : decode jdk_38_method_24_code 19 = .ok (.putfield 48, 3) := by decide +kernel
theorem d10_22 : decode jdk_38_method_24_code 22 = .ok (.return_, 1) := by decide +kernel
theorem pn_ad3 : plainName "java/util/ArrayList" = true := by first | (simp [plainName, overriddenIn]; done) | decide +kernel
theorem ef_ad3 (m : MethodId) (a0 : Addr) (a1 : Addr) (ad : Addr) : entryFrame m #[(.ref a0), (.ref a1), (.ref ad), (.int (0 : Int32))] 4 = mkF m 0 #[.val (.ref a0), .val (.ref a1), .val (.ref ad), .val (.int (0 : Int32))] [] := by first | (simp [entryFrame, mkF, argsToLocals, Value.category]; done) | rfl
def Q_ad3 (Z : State) (a0 : Addr) (a1 : Addr) (ad : Addr) (kd : ClassId) (m0 : Int32) (h0 : Heap) (n0 : Nat) (v : Option Value) (h : Heap) (L : List Loc) : Prop := ∃ (b : Addr) (kb : ClassId), v = none ∧ Fr n0 L ∧ Keep h0 h [a0] ∧ h0.size ≤ b ∧ n0 ≤ b ∧ Fld Z h a0 "java/util/AbstractList" "modCount" "I" (.int m0) ∧ Fld Z h a0 "java/util/ArrayList" "elementData" "[Ljava/lang/Object;" (.ref b) ∧ Fld Z h a0 "java/util/ArrayList" "size" "I" (.int ((0 : Int32) + (1 : Int32))) ∧ Exa Z h a0 "java/util/ArrayList" ∧ Arv Z h b kb (.object "java/lang/Object") (10 : Int32) [(.ref a1), .null, .null, .null, .null, .null, .null, .null, .null, .null] .null
set_option maxRecDepth 65536 in
set_option maxHeartbeats 40000000 in
theorem rm_ad3 (l : Launch) (Z : State) (av0 : Array Value) (hw : ∀ d ∈ tables_1, d.before av0 Z = true) (ws : List Jvm.Cond) (a0 : Addr) (a1 : Addr) (ad : Addr) (kd : ClassId) (m0 : Int32) (h0 : Heap) (n0 : Nat) (Z0 : n0 ≤ h0.size) (fi0 : Old Z n0 h0) (fi1 : Fld Z h0 a0 "java/util/AbstractList" "modCount" "I" (.int m0)) (fi2 : Fld Z h0 a0 "java/util/ArrayList" "elementData" "[Ljava/lang/Object;" (.ref ad)) (fi3 : Fld Z h0 a0 "java/util/ArrayList" "size" "I" (.int (0 : Int32))) (fi4 : Exa Z h0 a0 "java/util/ArrayList") (fi5 : Arv Z h0 ad kd (.object "java/lang/Object") (0 : Int32) [] .null) (fi6 : Exa Z h0 a1 "[B") (g_a0 : n0 ≤ a0) (ne_a0_ad : a0 ≠ ad) (ne_a0_a1 : a0 ≠ a1) (S_D : Sta Z Z.heap "java/util/ArrayList" "DEFAULTCAPACITY_EMPTY_ELEMENTDATA" "[Ljava/lang/Object;" (.ref ad)) :
    MetFree l (⟨"java/util/ArrayList", "add", "(Ljava/lang/Object;[Ljava/lang/Object;I)V"⟩ : MethodName) (head1 (Jvm.Cond.code (⟨"java/util/ArrayList", "add", "(Ljava/lang/Object;[Ljava/lang/Object;I)V"⟩ : MethodName) jdk_38_method_24_code 4 none :: ws) ({ frames := 3, cells := 1, slots := 10, locals := 41 } : Room)) (fun a U => a = #[(.ref a0), (.ref a1), (.ref ad), (.int (0 : Int32))] ∧ Z.Warmed39 U.vm ∧ U.heap = h0) (fun _ _ _ _ _ => True) (fun _ U o U' => ∃ v L, o = .returned v ∧ Q_ad3 Z a0 a1 ad kd m0 h0 n0 v U'.heap L ∧ FrameEnd U o U' L ({ frames := 3, cells := 1, slots := 10, locals := 41 } : Room).cells ({ frames := 3, cells := 1, slots := 10, locals := 41 } : Room).slots) := by
  refine MetFree.of_bodySF (plainFor_of_name pn_ad3) hisR ?_
  intro p e s m args below meth c s₁ Bd hml0 hP hK
  obtain ⟨rfl, hZ, hh⟩ := hP
  have hx := Bd.exec
  have hby := Bd.bytes
  have hml : c.maxLocals = 4 := hml0
  have hown : s.vm.findClass "java/util/ArrayList" = some m.cls := findClass_of_methodNamed Bd.named
  have hnm := (name_of_methodNamed Bd.named Bd.method).1
  have X0 : Stand p l e ({ frames := 3, cells := 1, slots := 10, locals := 41 } : Room) s m #[(.ref a0), (.ref a1), (.ref ad), (.int (0 : Int32))] below meth c s₁ [] 0 0 := Stand.of_body Bd
  have e0 : s₁.heap = h0 := by rw [← hh, Bd.state]; rfl
  have N0 := Fr.nil n0
  have pre0 : Go p.tables e below (s₁.setTop (entryFrame m #[(.ref a0), (.ref a1), (.ref ad), (.int (0 : Int32))] 4)) s₁ (mkF m 0 #[.val (.ref a0), .val (.ref a1), .val (.ref ad), .val (.int (0 : Int32))] []) := fun t k => castTop (ef_ad3 m a0 a1 ad) k
  have K0 : Keep h0 h0 [a0] := Keep.refl _ _
  have pre1 : Go p.tables e below (s₁.setTop (entryFrame m #[(.ref a0), (.ref a1), (.ref ad), (.int (0 : Int32))] 4)) s₁ (mkF m 2 #[.val (.ref a0), .val (.ref a1), .val (.ref ad), .val (.int (0 : Int32))] [(.ref ad), (.int (0 : Int32))]) := fun t k => pre0 t (by
      refine XS.iloadN X0.here hx rfl (hb hby d10_0) rfl ?_
      show Steps p.tables e below (s₁.setTop (mkF m 1 #[.val (.ref a0), .val (.ref a1), .val (.ref ad), .val (.int (0 : Int32))] [(.int (0 : Int32))])) _
      refine XS.aloadN X0.here hx rfl (hb hby d10_1) rfl rfl ?_
      exact k)
  obtain ⟨c2, Ar2, q2, S2, M2, H2, G2⟩ := (id fi5)
  have pre2 : Go p.tables e below (s₁.setTop (entryFrame m #[(.ref a0), (.ref a1), (.ref ad), (.int (0 : Int32))] 4)) s₁ (mkF m 3 #[.val (.ref a0), .val (.ref a1), .val (.ref ad), .val (.int (0 : Int32))] [(.int (0 : Int32)), (.int (0 : Int32))]) := fun t k => pre1 t (X0.arraylength hx (by rw [e0]; exact Ar2.1) (State.isArrayOf_alike hZ.alike Ar2.2.1) (g := (mkF m 2 #[.val (.ref a0), .val (.ref a1), .val (.ref ad), .val (.int (0 : Int32))] [(.ref ad), (.int (0 : Int32))])) rfl rfl (hb hby d10_2) _ (by rw [len_of S2 M2]; exact k))
  have pre3 : Go p.tables e below (s₁.setTop (entryFrame m #[(.ref a0), (.ref a1), (.ref ad), (.int (0 : Int32))] 4)) s₁ (mkF m 7 #[.val (.ref a0), .val (.ref a1), .val (.ref ad), .val (.int (0 : Int32))] [(.ref a0)]) := fun t k => pre2 t (by
      refine XS.icmpNo X0.here hx rfl (hb hby d10_3) rfl (teq (by decide)).2 ?_
      show Steps p.tables e below (s₁.setTop (mkF m 6 #[.val (.ref a0), .val (.ref a1), .val (.ref ad), .val (.int (0 : Int32))] [])) _
      refine XS.aloadN X0.here hx rfl (hb hby d10_6) rfl rfl ?_
      exact k)
  obtain ⟨cq4, q4, q4'⟩ := fi4.cell
  obtain ⟨_, _, ⟨T4, L4, k4, n4⟩, -, X4, ⟨Lc4, hQ4, l4, y4, z4⟩, st4⟩ := X0.privateBack hx (y := (⟨"java/util/ArrayList", "grow", "()[Ljava/lang/Object;"⟩ : MethodName)) hown (mvT hZ (hw _ (List.mem_of_getElem? (i := 79) rfl))) (mvT hZ (hw _ (List.mem_of_getElem? (i := 80) rfl))) (mvT hZ (hw _ (List.mem_of_getElem? (i := 82) rfl))) (Cond.privateMethod_at (mvP hZ (hw _ (List.mem_of_getElem? (i := 81) rfl)) (args := #[]))) (mvT hZ (hw _ (List.mem_of_getElem? (i := 83) rfl))) (by decide) (backOf (W := 0) (rm_gr0 l Z av0 hw [] a0 ad kd m0 h0 n0 Z0 fi0 fi1 fi2 fi3 fi4 fi5 g_a0 ne_a0_ad S_D) hZ (hw _ (List.mem_of_getElem? (i := 83) rfl)) (hw _ (List.mem_of_getElem? (i := 12) rfl)) (by decide) (by decide)) (g := (mkF m 7 #[.val (.ref a0), .val (.ref a1), .val (.ref ad), .val (.int (0 : Int32))] [(.ref a0)])) rfl (by rw [hml]; rfl) (Steps.refl _) (a := a0) (by rw [e0]; exact q4) q4' (argsL := []) (rest := []) (lenOf pd_4 rfl) rfl (by show 2 * 0 + _ ≤ _; exact Nat.le_of_eq rfl) (hb hby d10_7) (fun _ _ => ⟨rfl, e0, (by decide : 0 + 1 ≤ _), (by decide : 0 + 10 ≤ _)⟩)
  dsimp only [Pt.U, Pt.locs, Pt.cells, Pt.slots] at X4 l4 y4 z4 st4 hQ4
  subst l4 y4 z4
  obtain ⟨b4, kb4, hv4, N4q, K4, sb4, gb4, fo4_0, fo4_1, fo4_2, fo4_3, fo4_4, po4_0⟩ := hQ4
  have ne5 : a0 ≠ b4 := Nat.ne_of_lt (Nat.lt_of_lt_of_le fi1.lt sb4)
  have ne6 : ad ≠ b4 := Nat.ne_of_lt (Nat.lt_of_lt_of_le fi5.lt sb4)
  have ne7 : a1 ≠ b4 := Nat.ne_of_lt (Nat.lt_of_lt_of_le fi6.lt sb4)
  have g8 : n0 ≤ b4 := Nat.le_trans Z0 sb4
  have sz9 : h0.size ≤ b4 := Nat.le_trans K0.1 sb4
  have f10 : n0 ≤ T4.heap.size := Nat.le_trans Z0 K4.1
  have f11 : Old Z n0 T4.heap := fi0.keep K4 (allS g_a0 all0)
  have f12 : Exa Z T4.heap a0 "java/util/ArrayList" := fi4.keep K4
  have f13 : Arv Z T4.heap ad kd (.object "java/lang/Object") (0 : Int32) [] .null := fi5.keep K4 (ninS ne_a0_ad.symm nin0)
  have f14 : Exa Z T4.heap a1 "[B" := fi6.keep K4
  have f15 : Keep h0 T4.heap [a0] := K0.trans K4 (allS (Or.inl (List.mem_of_getElem? (i := 0) rfl)) all0)
  subst hv4
  have N4 := Fr.app N0 N4q
  have pre4 : Go p.tables e below (s₁.setTop (entryFrame m #[(.ref a0), (.ref a1), (.ref ad), (.int (0 : Int32))] 4)) T4 (mkF m 10 #[.val (.ref a0), .val (.ref a1), .val (.ref ad), .val (.int (0 : Int32))] [(.ref b4)]) := fun t k => pre3 t (st4.trans k)
  have pre16 : Go p.tables e below (s₁.setTop (entryFrame m #[(.ref a0), (.ref a1), (.ref ad), (.int (0 : Int32))] 4)) T4 (mkF m 14 #[.val (.ref a0), .val (.ref a1), .val (.ref b4), .val (.int (0 : Int32))] [(.ref a1), (.int (0 : Int32)), (.ref b4)]) := fun t k => pre4 t (by
      refine XS.astoreN X4.here hx rfl (hb hby d10_10) rfl rfl (l' := #[.val (.ref a0), .val (.ref a1), .val (.ref b4), .val (.int (0 : Int32))]) rfl ?_
      show Steps p.tables e below (T4.setTop (mkF m 11 #[.val (.ref a0), .val (.ref a1), .val (.ref b4), .val (.int (0 : Int32))] [])) _
      refine XS.aloadN X4.here hx rfl (hb hby d10_11) rfl rfl ?_
      show Steps p.tables e below (T4.setTop (mkF m 12 #[.val (.ref a0), .val (.ref a1), .val (.ref b4), .val (.int (0 : Int32))] [(.ref b4)])) _
      refine XS.iloadN X4.here hx rfl (hb hby d10_12) rfl ?_
      show Steps p.tables e below (T4.setTop (mkF m 13 #[.val (.ref a0), .val (.ref a1), .val (.ref b4), .val (.int (0 : Int32))] [(.int (0 : Int32)), (.ref b4)])) _
      refine XS.aloadN X4.here hx rfl (hb hby d10_13) rfl rfl ?_
      exact k)
  obtain ⟨c17, Ar17, q17, S17, M17, H17, G17⟩ := (id fo4_4)
  have hin17 : ¬ ((0 : Int32) < 0 ∨ c17.slots.size ≤ ((0 : Int32)).toNatClampNeg) := inb_of S17 ⟨by decide, by decide⟩
  obtain ⟨T17, h17, X17, e17, W17, st17⟩ := stR X4 hx hZ rfl Ar17 (j := (0 : Int32)) hin17 rfl (Sto.ofV Ar17 q17 po4_0 (Ins.of_exa f14 (hw _ (List.mem_of_getElem? (i := 95) rfl)))) (g := (mkF m 14 #[.val (.ref a0), .val (.ref a1), .val (.ref b4), .val (.int (0 : Int32))] [(.ref a1), (.int (0 : Int32)), (.ref b4)])) rfl rfl (hb hby d10_14)
  have fa17 : Arv Z h17 b4 kb4 (.object "java/lang/Object") (10 : Int32) [(.ref a1), .null, .null, .null, .null, .null, .null, .null, .null, .null] .null := Arv.set Ar17 q17 S17 M17 H17 G17 rfl W17 0 rfl (Nat.le_of_ble_eq_true rfl)
  have N17 := Fr.snoc X17 N4 gb4
  have f18 : n0 ≤ h17.size := Nat.le_trans f10 (Keep.of_wr W17).1
  have f19 : Old Z n0 h17 := f11.wr W17 gb4
  have f20 : Arv Z h17 ad kd (.object "java/lang/Object") (0 : Int32) [] .null := f13.other W17 ne6
  have f21 : Exa Z h17 a1 "[B" := f14.wr W17
  have f22 : Keep h0 h17 [a0] := f15.wr W17 (Or.inr sz9)
  have f23 : Fld Z h17 a0 "java/util/AbstractList" "modCount" "I" (.int m0) := fo4_0.other W17 (Or.inl ne5)
  have f24 : Fld Z h17 a0 "java/util/ArrayList" "elementData" "[Ljava/lang/Object;" (.ref b4) := fo4_1.other W17 (Or.inl ne5)
  have f25 : Fld Z h17 a0 "java/util/ArrayList" "size" "I" (.int (0 : Int32)) := fo4_2.other W17 (Or.inl ne5)
  have f26 : Exa Z h17 a0 "java/util/ArrayList" := fo4_3.wr W17
  have pre17 : Go p.tables e below (s₁.setTop (entryFrame m #[(.ref a0), (.ref a1), (.ref ad), (.int (0 : Int32))] 4)) T17 (mkF m 15 #[.val (.ref a0), .val (.ref a1), .val (.ref b4), .val (.int (0 : Int32))] []) := fun t k => pre16 t (st17 _ k)
  have pre27 : Go p.tables e below (s₁.setTop (entryFrame m #[(.ref a0), (.ref a1), (.ref ad), (.int (0 : Int32))] 4)) T17 (mkF m 19 #[.val (.ref a0), .val (.ref a1), .val (.ref b4), .val (.int (0 : Int32))] [(.int ((0 : Int32) + (1 : Int32))), (.ref a0)]) := fun t k => pre17 t (by
      refine XS.aloadN X17.here hx rfl (hb hby d10_15) rfl rfl ?_
      show Steps p.tables e below (T17.setTop (mkF m 16 #[.val (.ref a0), .val (.ref a1), .val (.ref b4), .val (.int (0 : Int32))] [(.ref a0)])) _
      refine XS.iloadN X17.here hx rfl (hb hby d10_16) rfl ?_
      show Steps p.tables e below (T17.setTop (mkF m 17 #[.val (.ref a0), .val (.ref a1), .val (.ref b4), .val (.int (0 : Int32))] [(.int (0 : Int32)), (.ref a0)])) _
      refine XS.iconst X17.here hx rfl (hb hby d10_17) ?_
      show Steps p.tables e below (T17.setTop (mkF m 18 #[.val (.ref a0), .val (.ref a1), .val (.ref b4), .val (.int (0 : Int32))] [(.int (1 : Int32)), (.int (0 : Int32)), (.ref a0)])) _
      refine XS.iadd X17.here hx rfl (hb hby d10_18) rfl ?_
      exact k)
  obtain ⟨T28, h28, X28, e28, W28, st28⟩ := putF X17 hx hZ hown (host := "") (Or.inl (hw _ (List.mem_of_getElem? (i := 53) rfl))) Via.refl e17 f25 f26 (Or.inl (hw _ (List.mem_of_getElem? (i := 54) rfl))) (hw _ (List.mem_of_getElem? (i := 11) rfl)) (ty := .int) (by decide) rfl rfl (g := (mkF m 19 #[.val (.ref a0), .val (.ref a1), .val (.ref b4), .val (.int (0 : Int32))] [(.int ((0 : Int32) + (1 : Int32))), (.ref a0)])) rfl rfl (hb hby d10_19)
  have N28 := Fr.snoc X28 N17 g_a0
  have f29 : n0 ≤ h28.size := Nat.le_trans f18 (Keep.of_wr W28).1
  have f30 : Old Z n0 h28 := f19.wr W28 g_a0
  have f31 : Arv Z h28 ad kd (.object "java/lang/Object") (0 : Int32) [] .null := f20.other W28 ne_a0_ad.symm
  have f32 : Exa Z h28 a1 "[B" := f21.wr W28
  have f33 : Keep h0 h28 [a0] := f22.wr W28 (Or.inl (List.mem_of_getElem? (i := 0) rfl))
  have f34 : Fld Z h28 a0 "java/util/AbstractList" "modCount" "I" (.int m0) := f23.other W28 (Or.inr (slot_ne (Or.inl (hw _ (List.mem_of_getElem? (i := 30) rfl))) (Or.inl (hw _ (List.mem_of_getElem? (i := 54) rfl))) (by decide) (t := .int) (t' := .int) (by decide) (by decide)))
  have f35 : Fld Z h28 a0 "java/util/ArrayList" "elementData" "[Ljava/lang/Object;" (.ref b4) := f24.other W28 (Or.inr (slot_ne (Or.inl (hw _ (List.mem_of_getElem? (i := 33) rfl))) (Or.inl (hw _ (List.mem_of_getElem? (i := 54) rfl))) (by decide) (t := (.array (.object "java/lang/Object"))) (t' := .int) (by decide) (by decide)))
  have f36 : Fld Z h28 a0 "java/util/ArrayList" "size" "I" (.int ((0 : Int32) + (1 : Int32))) := f25.same W28
  have f37 : Exa Z h28 a0 "java/util/ArrayList" := f26.wr W28
  have f38 : Arv Z h28 b4 kb4 (.object "java/lang/Object") (10 : Int32) [(.ref a1), .null, .null, .null, .null, .null, .null, .null, .null, .null] .null := fa17.other W28 ne5.symm
  have pre28 : Go p.tables e below (s₁.setTop (entryFrame m #[(.ref a0), (.ref a1), (.ref ad), (.int (0 : Int32))] 4)) T28 (mkF m 22 #[.val (.ref a0), .val (.ref a1), .val (.ref b4), .val (.int (0 : Int32))] []) := fun t k => pre27 t (st28 _ k)
  obtain ⟨fs, hr, hrun, hended, hW, hsame⟩ := X28.leave (v := none) (fun _ => rfl) (BodyLoose.notSynchronized Bd)
  refine ⟨_, _, pre28 _ ?_, hrun, hended, _, _, rfl, ?_, ⟨_, rfl⟩, hW, hsame.mono (Nat.le_of_ble_eq_true rfl) (Nat.le_of_ble_eq_true rfl)⟩
  · exact X28.returnOut hx Bd.returns (hb hby d10_22) hr
  · show Q_ad3 Z a0 a1 ad kd m0 h0 n0 _ T28.heap _
    rw [e28]
    exact ⟨b4, kb4, rfl, N28, f33, sz9, gb4, f34, f35, f36, f37, f38⟩
theorem d9_0 : decode jdk_38_method_25_code 0 = .ok (.aload_n 0, 1) := by decide +kernel
theorem d9_1 : decode jdk_38_method_25_code 1 = .ok (.dup, 1) := by decide +kernel
theorem d9_2 : decode jdk_38_method_25_code 2 = .ok (.getfield 63, 3) := by decide +kernel
theorem d9_5 : decode jdk_38_method_25_code 5 = .ok (.iconst 1, 1) := by decide +kernel
theorem d9_6 : decode jdk_38_method_25_code 6 = .ok (.iadd, 1) := by decide +kernel
theorem d9_7 : decode jdk_38_method_25_code 7 = .ok (.putfield 63, 3) := by decide +kernel
theorem d9_10 : decode jdk_38_method_25_code 10 = .ok (.aload_n 0, 1) := by decide +kernel
theorem d9_11 : decode jdk_38_method_25_code 11 = .ok (.aload_n 1, 1) := by decide +kernel
theorem d9_12 : decode jdk_38_method_25_code 12 = .ok (.aload_n 0, 1) := by decide +kernel
theorem d9_13 : decode jdk_38_method_25_code 13 = .ok (.getfield 9, 3) := by decide +kernel
theorem d9_16 : decode jdk_38_method_25_code 16 = .ok (.aload_n 0, 1) := by decide +kernel
theorem d9_17 : decode jdk_38_method_25_code 17 = .ok (.getfield 48, 3) := by decide +kernel
theorem d9_20 : decode jdk_38_method_25_code 20 = .ok (.invokevirtual 131, 3) := by decide +kernel
theorem d9_23 : decode jdk_38_method_25_code 23 = .ok (.iconst 1, 1) := by decide +kernel
theorem d9_24 : decode jdk_38_method_25_code 24 = .ok (.ireturn, 1) := by decide +kernel
theorem pn_ad1 : plainName "java/util/ArrayList" = true := by first | (simp [plainName, overriddenIn]; done) | decide +kernel
theorem ef_ad1 (m : MethodId) (a0 : Addr) (a1 : Addr) : entryFrame m #[(.ref a0), (.ref a1)] 2 = mkF m 0 #[.val (.ref a0), .val (.ref a1)] [] := by first | (simp [entryFrame, mkF, argsToLocals, Value.category]; done) | rfl
def Q_ad1 (Z : State) (a0 : Addr) (a1 : Addr) (ad : Addr) (kd : ClassId) (m0 : Int32) (h0 : Heap) (n0 : Nat) (v : Option Value) (h : Heap) (L : List Loc) : Prop := ∃ (b : Addr) (kb : ClassId), v = some (.int (1 : Int32)) ∧ Fr n0 L ∧ Keep h0 h [a0] ∧ h0.size ≤ b ∧ n0 ≤ b ∧ Fld Z h a0 "java/util/AbstractList" "modCount" "I" (.int (m0 + (1 : Int32))) ∧ Fld Z h a0 "java/util/ArrayList" "elementData" "[Ljava/lang/Object;" (.ref b) ∧ Fld Z h a0 "java/util/ArrayList" "size" "I" (.int ((0 : Int32) + (1 : Int32))) ∧ Exa Z h a0 "java/util/ArrayList" ∧ Arv Z h b kb (.object "java/lang/Object") (10 : Int32) [(.ref a1), .null, .null, .null, .null, .null, .null, .null, .null, .null] .null
set_option maxRecDepth 65536 in
set_option maxHeartbeats 40000000 in
theorem rm_ad1 (l : Launch) (Z : State) (av0 : Array Value) (hw : ∀ d ∈ tables_1, d.before av0 Z = true) (ws : List Jvm.Cond) (a0 : Addr) (a1 : Addr) (ad : Addr) (kd : ClassId) (m0 : Int32) (h0 : Heap) (n0 : Nat) (Z0 : n0 ≤ h0.size) (fi0 : Old Z n0 h0) (fi1 : Fld Z h0 a0 "java/util/AbstractList" "modCount" "I" (.int m0)) (fi2 : Fld Z h0 a0 "java/util/ArrayList" "elementData" "[Ljava/lang/Object;" (.ref ad)) (fi3 : Fld Z h0 a0 "java/util/ArrayList" "size" "I" (.int (0 : Int32))) (fi4 : Exa Z h0 a0 "java/util/ArrayList") (fi5 : Arv Z h0 ad kd (.object "java/lang/Object") (0 : Int32) [] .null) (fi6 : Exa Z h0 a1 "[B") (g_a0 : n0 ≤ a0) (ne_a0_ad : a0 ≠ ad) (ne_a0_a1 : a0 ≠ a1) (S_D : Sta Z Z.heap "java/util/ArrayList" "DEFAULTCAPACITY_EMPTY_ELEMENTDATA" "[Ljava/lang/Object;" (.ref ad)) :
    MetFree l (⟨"java/util/ArrayList", "add", "(Ljava/lang/Object;)Z"⟩ : MethodName) (head1 (Jvm.Cond.code (⟨"java/util/ArrayList", "add", "(Ljava/lang/Object;)Z"⟩ : MethodName) jdk_38_method_25_code 2 (some .boolean) :: ws) ({ frames := 4, cells := 1, slots := 10, locals := 56 } : Room)) (fun a U => a = #[(.ref a0), (.ref a1)] ∧ Z.Warmed39 U.vm ∧ U.heap = h0) (fun _ _ _ _ _ => True) (fun _ U o U' => ∃ v L, o = .returned v ∧ Q_ad1 Z a0 a1 ad kd m0 h0 n0 v U'.heap L ∧ FrameEnd U o U' L ({ frames := 4, cells := 1, slots := 10, locals := 56 } : Room).cells ({ frames := 4, cells := 1, slots := 10, locals := 56 } : Room).slots) := by
  refine MetFree.of_bodySF (plainFor_of_name pn_ad1) hisR ?_
  intro p e s m args below meth c s₁ Bd hml0 hP hK
  obtain ⟨rfl, hZ, hh⟩ := hP
  have hx := Bd.exec
  have hby := Bd.bytes
  have hml : c.maxLocals = 2 := hml0
  have hown : s.vm.findClass "java/util/ArrayList" = some m.cls := findClass_of_methodNamed Bd.named
  have hnm := (name_of_methodNamed Bd.named Bd.method).1
  have X0 : Stand p l e ({ frames := 4, cells := 1, slots := 10, locals := 56 } : Room) s m #[(.ref a0), (.ref a1)] below meth c s₁ [] 0 0 := Stand.of_body Bd
  have e0 : s₁.heap = h0 := by rw [← hh, Bd.state]; rfl
  have N0 := Fr.nil n0
  have pre0 : Go p.tables e below (s₁.setTop (entryFrame m #[(.ref a0), (.ref a1)] 2)) s₁ (mkF m 0 #[.val (.ref a0), .val (.ref a1)] []) := fun t k => castTop (ef_ad1 m a0 a1) k
  have K0 : Keep h0 h0 [a0] := Keep.refl _ _
  have pre1 : Go p.tables e below (s₁.setTop (entryFrame m #[(.ref a0), (.ref a1)] 2)) s₁ (mkF m 2 #[.val (.ref a0), .val (.ref a1)] [(.ref a0), (.ref a0)]) := fun t k => pre0 t (by
      refine XS.aloadN X0.here hx rfl (hb hby d9_0) rfl rfl ?_
      show Steps p.tables e below (s₁.setTop (mkF m 1 #[.val (.ref a0), .val (.ref a1)] [(.ref a0)])) _
      refine XS.dup X0.here hx rfl (hb hby d9_1) rfl rfl ?_
      exact k)
  obtain ⟨T2, X2, e2, st2⟩ := getF X0 hx hZ hown (host := "") (Or.inl (hw _ (List.mem_of_getElem? (i := 72) rfl))) (Via.of (hw _ (List.mem_of_getElem? (i := 73) rfl))) e0 fi1 (g := (mkF m 2 #[.val (.ref a0), .val (.ref a1)] [(.ref a0), (.ref a0)])) rfl rfl (hb hby d9_2)
  have pre2 : Go p.tables e below (s₁.setTop (entryFrame m #[(.ref a0), (.ref a1)] 2)) T2 (mkF m 5 #[.val (.ref a0), .val (.ref a1)] [(.int m0), (.ref a0)]) := fun t k => pre1 t (st2 _ k)
  have pre3 : Go p.tables e below (s₁.setTop (entryFrame m #[(.ref a0), (.ref a1)] 2)) T2 (mkF m 7 #[.val (.ref a0), .val (.ref a1)] [(.int (m0 + (1 : Int32))), (.ref a0)]) := fun t k => pre2 t (by
      refine XS.iconst X2.here hx rfl (hb hby d9_5) ?_
      show Steps p.tables e below (T2.setTop (mkF m 6 #[.val (.ref a0), .val (.ref a1)] [(.int (1 : Int32)), (.int m0), (.ref a0)])) _
      refine XS.iadd X2.here hx rfl (hb hby d9_6) rfl ?_
      exact k)
  obtain ⟨T4, h4, X4, e4, W4, st4⟩ := putF X2 hx hZ hown (host := "") (Or.inl (hw _ (List.mem_of_getElem? (i := 72) rfl))) (Via.of (hw _ (List.mem_of_getElem? (i := 73) rfl))) e2 fi1 fi4 (Or.inl (hw _ (List.mem_of_getElem? (i := 30) rfl))) (hw _ (List.mem_of_getElem? (i := 11) rfl)) (ty := .int) (by decide) rfl rfl (g := (mkF m 7 #[.val (.ref a0), .val (.ref a1)] [(.int (m0 + (1 : Int32))), (.ref a0)])) rfl rfl (hb hby d9_7)
  have N4 := Fr.snoc X4 N0 g_a0
  have f5 : n0 ≤ h4.size := Nat.le_trans Z0 (Keep.of_wr W4).1
  have f6 : Old Z n0 h4 := fi0.wr W4 g_a0
  have f7 : Fld Z h4 a0 "java/util/AbstractList" "modCount" "I" (.int (m0 + (1 : Int32))) := fi1.same W4
  have f8 : Fld Z h4 a0 "java/util/ArrayList" "elementData" "[Ljava/lang/Object;" (.ref ad) := fi2.other W4 (Or.inr (slot_ne (Or.inl (hw _ (List.mem_of_getElem? (i := 33) rfl))) (Or.inl (hw _ (List.mem_of_getElem? (i := 30) rfl))) (by decide) (t := (.array (.object "java/lang/Object"))) (t' := .int) (by decide) (by decide)))
  have f9 : Fld Z h4 a0 "java/util/ArrayList" "size" "I" (.int (0 : Int32)) := fi3.other W4 (Or.inr (slot_ne (Or.inl (hw _ (List.mem_of_getElem? (i := 54) rfl))) (Or.inl (hw _ (List.mem_of_getElem? (i := 30) rfl))) (by decide) (t := .int) (t' := .int) (by decide) (by decide)))
  have f10 : Exa Z h4 a0 "java/util/ArrayList" := fi4.wr W4
  have f11 : Arv Z h4 ad kd (.object "java/lang/Object") (0 : Int32) [] .null := fi5.other W4 ne_a0_ad.symm
  have f12 : Exa Z h4 a1 "[B" := fi6.wr W4
  have f13 : Keep h0 h4 [a0] := K0.wr W4 (Or.inl (List.mem_of_getElem? (i := 0) rfl))
  have pre4 : Go p.tables e below (s₁.setTop (entryFrame m #[(.ref a0), (.ref a1)] 2)) T4 (mkF m 10 #[.val (.ref a0), .val (.ref a1)] []) := fun t k => pre3 t (st4 _ k)
  have pre14 : Go p.tables e below (s₁.setTop (entryFrame m #[(.ref a0), (.ref a1)] 2)) T4 (mkF m 13 #[.val (.ref a0), .val (.ref a1)] [(.ref a0), (.ref a1), (.ref a0)]) := fun t k => pre4 t (by
      refine XS.aloadN X4.here hx rfl (hb hby d9_10) rfl rfl ?_
      show Steps p.tables e below (T4.setTop (mkF m 11 #[.val (.ref a0), .val (.ref a1)] [(.ref a0)])) _
      refine XS.aloadN X4.here hx rfl (hb hby d9_11) rfl rfl ?_
      show Steps p.tables e below (T4.setTop (mkF m 12 #[.val (.ref a0), .val (.ref a1)] [(.ref a1), (.ref a0)])) _
      refine XS.aloadN X4.here hx rfl (hb hby d9_12) rfl rfl ?_
      exact k)
  obtain ⟨T15, X15, e15, st15⟩ := getF X4 hx hZ hown (host := "") (Or.inl (hw _ (List.mem_of_getElem? (i := 32) rfl))) Via.refl e4 f8 (g := (mkF m 13 #[.val (.ref a0), .val (.ref a1)] [(.ref a0), (.ref a1), (.ref a0)])) rfl rfl (hb hby d9_13)
  have pre15 : Go p.tables e below (s₁.setTop (entryFrame m #[(.ref a0), (.ref a1)] 2)) T15 (mkF m 16 #[.val (.ref a0), .val (.ref a1)] [(.ref ad), (.ref a1), (.ref a0)]) := fun t k => pre14 t (st15 _ k)
  have pre16 : Go p.tables e below (s₁.setTop (entryFrame m #[(.ref a0), (.ref a1)] 2)) T15 (mkF m 17 #[.val (.ref a0), .val (.ref a1)] [(.ref a0), (.ref ad), (.ref a1), (.ref a0)]) := fun t k => pre15 t (by
      refine XS.aloadN X15.here hx rfl (hb hby d9_16) rfl rfl ?_
      exact k)
  obtain ⟨T17, X17, e17, st17⟩ := getF X15 hx hZ hown (host := "") (Or.inl (hw _ (List.mem_of_getElem? (i := 53) rfl))) Via.refl e15 f9 (g := (mkF m 17 #[.val (.ref a0), .val (.ref a1)] [(.ref a0), (.ref ad), (.ref a1), (.ref a0)])) rfl rfl (hb hby d9_17)
  have pre17 : Go p.tables e below (s₁.setTop (entryFrame m #[(.ref a0), (.ref a1)] 2)) T17 (mkF m 20 #[.val (.ref a0), .val (.ref a1)] [(.int (0 : Int32)), (.ref ad), (.ref a1), (.ref a0)]) := fun t k => pre16 t (st17 _ k)
  obtain ⟨cq18, q18, q18'⟩ := f10.cell
  obtain ⟨_, _, ⟨T18, L18, k18, n18⟩, -, X18, ⟨Lc18, hQ18, l18, y18, z18⟩, st18⟩ := X17.privateBack hx (y := (⟨"java/util/ArrayList", "add", "(Ljava/lang/Object;[Ljava/lang/Object;I)V"⟩ : MethodName)) hown (mvT hZ (hw _ (List.mem_of_getElem? (i := 74) rfl))) (mvT hZ (hw _ (List.mem_of_getElem? (i := 75) rfl))) (mvT hZ (hw _ (List.mem_of_getElem? (i := 77) rfl))) (Cond.privateMethod_at (mvP hZ (hw _ (List.mem_of_getElem? (i := 76) rfl)) (args := #[]))) (mvT hZ (hw _ (List.mem_of_getElem? (i := 78) rfl))) (by decide) (backOf (W := 0) (rm_ad3 l Z av0 hw [] a0 a1 ad kd (m0 + (1 : Int32)) h4 n0 f5 f6 f7 f8 f9 f10 f11 f12 g_a0 ne_a0_ad ne_a0_a1 S_D) hZ (hw _ (List.mem_of_getElem? (i := 78) rfl)) (hw _ (List.mem_of_getElem? (i := 12) rfl)) (by decide) (by decide)) (g := (mkF m 20 #[.val (.ref a0), .val (.ref a1)] [(.int (0 : Int32)), (.ref ad), (.ref a1), (.ref a0)])) rfl (by rw [hml]; rfl) (Steps.refl _) (a := a0) (by rw [e17]; exact q18) q18' (argsL := [(.ref a1), (.ref ad), (.int (0 : Int32))]) (rest := []) (lenOf pd_5 rfl) rfl (by show 2 * 0 + _ ≤ _; exact Nat.le_of_eq rfl) (hb hby d9_20) (fun _ _ => ⟨rfl, e17, (by decide : 0 + 1 ≤ _), (by decide : 0 + 10 ≤ _)⟩)
  dsimp only [Pt.U, Pt.locs, Pt.cells, Pt.slots] at X18 l18 y18 z18 st18 hQ18
  subst l18 y18 z18
  obtain ⟨b18, kb18, hv18, N18q, K18, sb18, gb18, fo18_0, fo18_1, fo18_2, fo18_3, fo18_4⟩ := hQ18
  have ne19 : a0 ≠ b18 := Nat.ne_of_lt (Nat.lt_of_lt_of_le f7.lt sb18)
  have ne20 : ad ≠ b18 := Nat.ne_of_lt (Nat.lt_of_lt_of_le f11.lt sb18)
  have ne21 : a1 ≠ b18 := Nat.ne_of_lt (Nat.lt_of_lt_of_le f12.lt sb18)
  have g22 : n0 ≤ b18 := Nat.le_trans f5 sb18
  have sz23 : h0.size ≤ b18 := Nat.le_trans f13.1 sb18
  have f24 : n0 ≤ T18.heap.size := Nat.le_trans f5 K18.1
  have f25 : Old Z n0 T18.heap := f6.keep K18 (allS g_a0 all0)
  have f26 : Exa Z T18.heap a0 "java/util/ArrayList" := f10.keep K18
  have f27 : Arv Z T18.heap ad kd (.object "java/lang/Object") (0 : Int32) [] .null := f11.keep K18 (ninS ne_a0_ad.symm nin0)
  have f28 : Exa Z T18.heap a1 "[B" := f12.keep K18
  have f29 : Keep h0 T18.heap [a0] := f13.trans K18 (allS (Or.inl (List.mem_of_getElem? (i := 0) rfl)) all0)
  subst hv18
  have N18 := Fr.app N4 N18q
  have pre18 : Go p.tables e below (s₁.setTop (entryFrame m #[(.ref a0), (.ref a1)] 2)) T18 (mkF m 23 #[.val (.ref a0), .val (.ref a1)] []) := fun t k => pre17 t (st18.trans k)
  have pre30 : Go p.tables e below (s₁.setTop (entryFrame m #[(.ref a0), (.ref a1)] 2)) T18 (mkF m 24 #[.val (.ref a0), .val (.ref a1)] [(.int (1 : Int32))]) := fun t k => pre18 t (by
      refine XS.iconst X18.here hx rfl (hb hby d9_23) ?_
      exact k)
  obtain ⟨fs, hr, hrun, hended, hW, hsame⟩ := X18.leave (v := some (.int (1 : Int32))) (fun h => by rw [Bd.returns] at h; cases h) (BodyLoose.notSynchronized Bd)
  refine ⟨_, _, pre30 _ ?_, hrun, hended, _, _, rfl, ?_, ⟨_, rfl⟩, hW, hsame.mono (Nat.le_of_ble_eq_true rfl) (Nat.le_of_ble_eq_true rfl)⟩
  · exact retN X18 hx (t := .boolean) Bd.returns (by simp) (hb hby d9_24) hr
  · show Q_ad1 Z a0 a1 ad kd m0 h0 n0 _ T18.heap _
    exact ⟨b18, kb18, rfl, N18, f29, sz23, gb18, fo18_0, fo18_1, fo18_2, fo18_3, fo18_4⟩
theorem d8_0 : decode prog_34_method_2_code 0 = .ok (.lload_n 1, 1) := by decide +kernel
theorem d8_1 : decode prog_34_method_2_code 1 = .ok (.lconst 0, 1) := by decide +kernel
theorem d8_2 : decode prog_34_method_2_code 2 = .ok (.lcmp, 1) := by decide +kernel
theorem d8_3 : decode prog_34_method_2_code 3 = .ok (.ifCond .ge 17, 3) := by decide +kernel
theorem d8_6 : decode prog_34_method_2_code 6 = .ok (.new 21, 3) := by decide +kernel
theorem d8_9 : decode prog_34_method_2_code 9 = .ok (.dup, 1) := by decide +kernel
theorem d8_10 : decode prog_34_method_2_code 10 = .ok (.lload_n 1, 1) := by decide +kernel
theorem d8_11 : decode prog_34_method_2_code 11 = .ok (.invokedynamic 23, 5) := by decide +kernel
theorem d8_16 : decode prog_34_method_2_code 16 = .ok (.invokespecial 27, 3) := by decide +kernel
theorem d8_19 : decode prog_34_method_2_code 19 = .ok (.athrow, 1) := by decide +kernel
theorem d8_20 : decode prog_34_method_2_code 20 = .ok (.ldc 16, 2) := by decide +kernel
theorem d8_22 : decode prog_34_method_2_code 22 = .ok (.aload_n 0, 1) := by decide +kernel
theorem d8_23 : decode prog_34_method_2_code 23 = .ok (.getfield 17, 3) := by decide +kernel
theorem d8_26 : decode prog_34_method_2_code 26 = .ok (.isub, 1) := by decide +kernel
theorem d8_27 : decode prog_34_method_2_code 27 = .ok (.bipush 10, 2) := by decide +kernel
theorem d8_29 : decode prog_34_method_2_code 29 = .ok (.if_icmp .ge 30, 3) := by decide +kernel
theorem d8_32 : decode prog_34_method_2_code 32 = .ok (.aload_n 0, 1) := by decide +kernel
theorem d8_33 : decode prog_34_method_2_code 33 = .ok (.ldc 16, 2) := by decide +kernel
theorem d8_35 : decode prog_34_method_2_code 35 = .ok (.newarray .byte, 2) := by decide +kernel
theorem d8_37 : decode prog_34_method_2_code 37 = .ok (.putfield 30, 3) := by decide +kernel
theorem d8_40 : decode prog_34_method_2_code 40 = .ok (.aload_n 0, 1) := by decide +kernel
theorem d8_41 : decode prog_34_method_2_code 41 = .ok (.getfield 10, 3) := by decide +kernel
theorem d8_44 : decode prog_34_method_2_code 44 = .ok (.aload_n 0, 1) := by decide +kernel
theorem d8_45 : decode prog_34_method_2_code 45 = .ok (.getfield 30, 3) := by decide +kernel
theorem d8_48 : decode prog_34_method_2_code 48 = .ok (.invokeinterface 34 2, 5) := by decide +kernel
theorem d8_53 : decode prog_34_method_2_code 53 = .ok (.pop, 1) := by decide +kernel
theorem d8_54 : decode prog_34_method_2_code 54 = .ok (.aload_n 0, 1) := by decide +kernel
theorem d8_55 : decode prog_34_method_2_code 55 = .ok (.iconst 0, 1) := by decide +kernel
theorem d8_56 : decode prog_34_method_2_code 56 = .ok (.putfield 17, 3) := by decide +kernel
theorem d8_59 : decode prog_34_method_2_code 59 = .ok (.lload_n 1, 1) := by decide +kernel
theorem d8_60 : decode prog_34_method_2_code 60 = .ok (.lstore_n 3, 1) := by decide +kernel
theorem d8_61 : decode prog_34_method_2_code 61 = .ok (.lload_n 3, 1) := by decide +kernel
theorem d8_62 : decode prog_34_method_2_code 62 = .ok (.ldc2_w 40, 3) := by decide +kernel
theorem d8_65 : decode prog_34_method_2_code 65 = .ok (.lcmp, 1) := by decide +kernel
theorem d8_66 : decode prog_34_method_2_code 66 = .ok (.ifCond .lt 34, 3) := by decide +kernel
theorem d8_69 : decode prog_34_method_2_code 69 = .ok (.aload_n 0, 1) := by decide +kernel
theorem d8_70 : decode prog_34_method_2_code 70 = .ok (.getfield 30, 3) := by decide +kernel
theorem d8_73 : decode prog_34_method_2_code 73 = .ok (.aload_n 0, 1) := by decide +kernel
theorem d8_74 : decode prog_34_method_2_code 74 = .ok (.dup, 1) := by decide +kernel
theorem d8_75 : decode prog_34_method_2_code 75 = .ok (.getfield 17, 3) := by decide +kernel
theorem d8_78 : decode prog_34_method_2_code 78 = .ok (.dup_x1, 1) := by decide +kernel
theorem d8_79 : decode prog_34_method_2_code 79 = .ok (.iconst 1, 1) := by decide +kernel
theorem d8_80 : decode prog_34_method_2_code 80 = .ok (.iadd, 1) := by decide +kernel
theorem d8_81 : decode prog_34_method_2_code 81 = .ok (.putfield 17, 3) := by decide +kernel
theorem d8_84 : decode prog_34_method_2_code 84 = .ok (.lload_n 3, 1) := by decide +kernel
theorem d8_85 : decode prog_34_method_2_code 85 = .ok (.ldc2_w 40, 3) := by decide +kernel
theorem d8_88 : decode prog_34_method_2_code 88 = .ok (.lor, 1) := by decide +kernel
theorem d8_89 : decode prog_34_method_2_code 89 = .ok (.l2i, 1) := by decide +kernel
theorem d8_90 : decode prog_34_method_2_code 90 = .ok (.i2b, 1) := by decide +kernel
theorem d8_91 : decode prog_34_method_2_code 91 = .ok (.bastore, 1) := by decide +kernel
theorem d8_92 : decode prog_34_method_2_code 92 = .ok (.lload_n 3, 1) := by decide +kernel
theorem d8_93 : decode prog_34_method_2_code 93 = .ok (.bipush 7, 2) := by decide +kernel
theorem d8_95 : decode prog_34_method_2_code 95 = .ok (.lushr, 1) := by decide +kernel
theorem d8_96 : decode prog_34_method_2_code 96 = .ok (.lstore_n 3, 1) := by decide +kernel
theorem d8_97 : decode prog_34_method_2_code 97 = .ok (.goto (-36), 3) := by decide +kernel
theorem d8_100 : decode prog_34_method_2_code 100 = .ok (.aload_n 0, 1) := by decide +kernel
theorem d8_101 : decode prog_34_method_2_code 101 = .ok (.getfield 30, 3) := by decide +kernel
theorem d8_104 : decode prog_34_method_2_code 104 = .ok (.aload_n 0, 1) := by decide +kernel
theorem d8_105 : decode prog_34_method_2_code 105 = .ok (.dup, 1) := by decide +kernel
theorem d8_106 : decode prog_34_method_2_code 106 = .ok (.getfield 17, 3) := by decide +kernel
theorem d8_109 : decode prog_34_method_2_code 109 = .ok (.dup_x1, 1) := by decide +kernel
theorem d8_110 : decode prog_34_method_2_code 110 = .ok (.iconst 1, 1) := by decide +kernel
theorem d8_111 : decode prog_34_method_2_code 111 = .ok (.iadd, 1) := by decide +kernel
theorem d8_112 : decode prog_34_method_2_code 112 = .ok (.putfield 17, 3) := by decide +kernel
theorem d8_115 : decode prog_34_method_2_code 115 = .ok (.lload_n 3, 1) := by decide +kernel
theorem d8_116 : decode prog_34_method_2_code 116 = .ok (.l2i, 1) := by decide +kernel
theorem d8_117 : decode prog_34_method_2_code 117 = .ok (.i2b, 1) := by decide +kernel
theorem d8_118 : decode prog_34_method_2_code 118 = .ok (.bastore, 1) := by decide +kernel
theorem d8_119 : decode prog_34_method_2_code 119 = .ok (.return_, 1) := by decide +kernel
set_option maxRecDepth 65536 in
set_option maxHeartbeats 40000000 in
theorem lp_add {p : Program} {l : Launch} {e : Env} {R : Room} {s : State} {m : MethodId} {args : Array Value} {below : List Frame} {meth : Method} {c : Code} {Z : State} {av0 : Array Value} {A : State} {cells slots : Nat} (hx : p.tables.exec = Jvm.exec) (hZ : Z.Warmed39 s.vm) (hw : ∀ d ∈ tables_1, d.before av0 Z = true) (hby : c.code = prog_34_method_2_code) (hml : c.maxLocals = 5) (hown : s.vm.findClass "com/example/zhangtiao/zhangtiao/input/VarLongs" = some m.cls) (a0 b : Addr) (q1 : Int64) (kc : ClassId) (cv : Value) (h0 : Heap) (n0 : Nat) (g_a0 : n0 ≤ a0) (g_b : n0 ≤ b) (ne_a0_b : a0 ≠ b) : ∀ (k : Nat) (T : State) (L : List Loc) (h1 : Heap) (r : Int64) (vs : List Value), (Stand p l e R s m args below meth c T L cells slots) → (T.heap = h1) → (Fr n0 L) → (Keep h0 h1 [a0, b]) → (Exa Z h1 a0 "com/example/zhangtiao/zhangtiao/input/VarLongs") → (Fld Z h1 a0 "com/example/zhangtiao/zhangtiao/input/VarLongs" "last" "[B" (.ref b)) → (Fld Z h1 a0 "com/example/zhangtiao/zhangtiao/input/VarLongs" "position" "I" (.int (own_n vs))) → (Fld Z h1 a0 "com/example/zhangtiao/zhangtiao/input/VarLongs" "chunks" "Ljava/util/List;" cv) → (Arv Z h1 b kc .byte (65536 : Int32) vs (.int (0 : Int32))) → (0 ≤ r.toInt) → (r.toInt < 128 ^ (k + 1)) → (vs.length + k < 65536) → (Go p.tables e below A T (mkF m 61 #[.val (.ref a0), .val (.long q1), .second, .val (.long r), .second] [])) → ∃ (T' : State) (L' : List Loc) (h' : Heap) (r' : Int64), Stand p l e R s m args below meth c T' L' cells slots ∧ T'.heap = h' ∧ Fr n0 L' ∧ Keep h0 h' [a0, b] ∧ Exa Z h' a0 "com/example/zhangtiao/zhangtiao/input/VarLongs" ∧ Fld Z h' a0 "com/example/zhangtiao/zhangtiao/input/VarLongs" "last" "[B" (.ref b) ∧ Fld Z h' a0 "com/example/zhangtiao/zhangtiao/input/VarLongs" "position" "I" (.int (own_n (vs ++ own_enc k r))) ∧ Fld Z h' a0 "com/example/zhangtiao/zhangtiao/input/VarLongs" "chunks" "Ljava/util/List;" cv ∧ Arv Z h' b kc .byte (65536 : Int32) (vs ++ own_enc k r) (.int (0 : Int32)) ∧ Go p.tables e below A T' (mkF m 119 #[.val (.ref a0), .val (.long q1), .second, .val (.long r'), .second] []) := by
  intro k
  induction k with
  | zero =>
    intro T L h1 r vs X eT N K fE fL fP fC fV hr0 hr1 hlk pre
    have hl : vs.length < 65536 := by omega
    have hz : r < (128 : Int64) := (own_lt128 r).mpr (by simpa using hr1)
    have pre1 : Go p.tables e below A T (mkF m 101 #[.val (.ref a0), .val (.long q1), .second, .val (.long r), .second] [(.ref a0)]) := fun t k => pre t (by
        refine XS.lloadN X.here hx rfl (hb hby d8_61) rfl ?_
        show Steps p.tables e below (T.setTop (mkF m 62 #[.val (.ref a0), .val (.long q1), .second, .val (.long r), .second] [(.long r)])) _
        refine X.ldc2Long hx hown (mvT hZ (hw _ (List.mem_of_getElem? (i := 96) rfl))) (g := (mkF m 62 #[.val (.ref a0), .val (.long q1), .second, .val (.long r), .second] [(.long r)])) rfl (hb hby d8_62) _ ?_
        show Steps p.tables e below (T.setTop (mkF m 65 #[.val (.ref a0), .val (.long q1), .second, .val (.long r), .second] [(.long (128 : Int64)), (.long r)])) _
        refine XS.lcmp X.here hx rfl (hb hby d8_65) rfl ?_
        show Steps p.tables e below (T.setTop (mkF m 66 #[.val (.ref a0), .val (.long q1), .second, .val (.long r), .second] [(.int (lcmpW r (128 : Int64)))])) _
        refine XS.ifYes X.here hx rfl (pc0 := 66) (pc' := 100) rfl (hb hby d8_66) rfl ((if0 _ _).trans (tlt ((lw_lt _ _).mpr hz)).1) (by decide) (by decide) ?_
        show Steps p.tables e below (T.setTop (mkF m 100 #[.val (.ref a0), .val (.long q1), .second, .val (.long r), .second] [])) _
        refine XS.aloadN X.here hx rfl (hb hby d8_100) rfl rfl ?_
        exact k)
    obtain ⟨T2, X2, e2, st2⟩ := getF X hx hZ hown (host := "") (Or.inl (hw _ (List.mem_of_getElem? (i := 62) rfl))) Via.refl eT fL (g := (mkF m 101 #[.val (.ref a0), .val (.long q1), .second, .val (.long r), .second] [(.ref a0)])) rfl rfl (hb hby d8_101)
    have pre2 : Go p.tables e below A T2 (mkF m 104 #[.val (.ref a0), .val (.long q1), .second, .val (.long r), .second] [(.ref b)]) := fun t k => pre1 t (st2 _ k)
    have pre3 : Go p.tables e below A T2 (mkF m 106 #[.val (.ref a0), .val (.long q1), .second, .val (.long r), .second] [(.ref a0), (.ref a0), (.ref b)]) := fun t k => pre2 t (by
        refine XS.aloadN X2.here hx rfl (hb hby d8_104) rfl rfl ?_
        show Steps p.tables e below (T2.setTop (mkF m 105 #[.val (.ref a0), .val (.long q1), .second, .val (.long r), .second] [(.ref a0), (.ref b)])) _
        refine XS.dup X2.here hx rfl (hb hby d8_105) rfl rfl ?_
        exact k)
    obtain ⟨T4, X4, e4, st4⟩ := getF X2 hx hZ hown (host := "") (Or.inl (hw _ (List.mem_of_getElem? (i := 37) rfl))) Via.refl e2 fP (g := (mkF m 106 #[.val (.ref a0), .val (.long q1), .second, .val (.long r), .second] [(.ref a0), (.ref a0), (.ref b)])) rfl rfl (hb hby d8_106)
    have pre4 : Go p.tables e below A T4 (mkF m 109 #[.val (.ref a0), .val (.long q1), .second, .val (.long r), .second] [(.int (own_n vs)), (.ref a0), (.ref b)]) := fun t k => pre3 t (st4 _ k)
    have pre5 : Go p.tables e below A T4 (mkF m 112 #[.val (.ref a0), .val (.long q1), .second, .val (.long r), .second] [(.int ((own_n vs) + (1 : Int32))), (.ref a0), (.int (own_n vs)), (.ref b)]) := fun t k => pre4 t (by
        refine XS.dupX1 X4.here hx rfl (hb hby d8_109) rfl rfl rfl ?_
        show Steps p.tables e below (T4.setTop (mkF m 110 #[.val (.ref a0), .val (.long q1), .second, .val (.long r), .second] [(.int (own_n vs)), (.ref a0), (.int (own_n vs)), (.ref b)])) _
        refine XS.iconst X4.here hx rfl (hb hby d8_110) ?_
        show Steps p.tables e below (T4.setTop (mkF m 111 #[.val (.ref a0), .val (.long q1), .second, .val (.long r), .second] [(.int (1 : Int32)), (.int (own_n vs)), (.ref a0), (.int (own_n vs)), (.ref b)])) _
        refine XS.iadd X4.here hx rfl (hb hby d8_111) rfl ?_
        exact k)
    obtain ⟨T6, h6, X6, e6, W6, st6⟩ := putF X4 hx hZ hown (host := "") (Or.inl (hw _ (List.mem_of_getElem? (i := 37) rfl))) Via.refl e4 fP fE (Or.inl (hw _ (List.mem_of_getElem? (i := 38) rfl))) (hw _ (List.mem_of_getElem? (i := 2) rfl)) (ty := .int) (by decide) rfl rfl (g := (mkF m 112 #[.val (.ref a0), .val (.long q1), .second, .val (.long r), .second] [(.int ((own_n vs) + (1 : Int32))), (.ref a0), (.int (own_n vs)), (.ref b)])) rfl rfl (hb hby d8_112)
    have N6 := Fr.snoc X6 N g_a0
    have f7 : Keep h0 h6 [a0, b] := K.wr W6 (Or.inl (List.mem_of_getElem? (i := 0) rfl))
    have f8 : Exa Z h6 a0 "com/example/zhangtiao/zhangtiao/input/VarLongs" := fE.wr W6
    have f9 : Fld Z h6 a0 "com/example/zhangtiao/zhangtiao/input/VarLongs" "last" "[B" (.ref b) := fL.other W6 (Or.inr (slot_ne (Or.inl (hw _ (List.mem_of_getElem? (i := 63) rfl))) (Or.inl (hw _ (List.mem_of_getElem? (i := 38) rfl))) (by decide) (t := (.array .byte)) (t' := .int) (by decide) (by decide)))
    have f10 : Fld Z h6 a0 "com/example/zhangtiao/zhangtiao/input/VarLongs" "position" "I" (.int ((own_n vs) + (1 : Int32))) := fP.same W6
    have f11 : Fld Z h6 a0 "com/example/zhangtiao/zhangtiao/input/VarLongs" "chunks" "Ljava/util/List;" cv := fC.other W6 (Or.inr (slot_ne (Or.inr (hw _ (List.mem_of_getElem? (i := 35) rfl))) (Or.inl (hw _ (List.mem_of_getElem? (i := 38) rfl))) (by decide) (t := (.object "java/util/List")) (t' := .int) (by decide) (by decide)))
    have f12 : Arv Z h6 b kc .byte (65536 : Int32) vs (.int (0 : Int32)) := fV.other W6 ne_a0_b.symm
    have pre6 : Go p.tables e below A T6 (mkF m 115 #[.val (.ref a0), .val (.long q1), .second, .val (.long r), .second] [(.int (own_n vs)), (.ref b)]) := fun t k => pre5 t (st6 _ k)
    have pre13 : Go p.tables e below A T6 (mkF m 118 #[.val (.ref a0), .val (.long q1), .second, .val (.long r), .second] [(.int ((r.toInt32).toInt8.toInt32)), (.int (own_n vs)), (.ref b)]) := fun t k => pre6 t (by
        refine XS.lloadN X6.here hx rfl (hb hby d8_115) rfl ?_
        show Steps p.tables e below (T6.setTop (mkF m 116 #[.val (.ref a0), .val (.long q1), .second, .val (.long r), .second] [(.long r), (.int (own_n vs)), (.ref b)])) _
        refine XS.l2i X6.here hx rfl (hb hby d8_116) rfl ?_
        show Steps p.tables e below (T6.setTop (mkF m 117 #[.val (.ref a0), .val (.long q1), .second, .val (.long r), .second] [(.int (r.toInt32)), (.int (own_n vs)), (.ref b)])) _
        refine XS.i2b X6.here hx rfl (hb hby d8_117) rfl ?_
        exact k)
    obtain ⟨c14, Ar14, q14, S14, M14, H14, G14⟩ := (id f12)
    have hin14 : ¬ ((own_n vs) < 0 ∨ c14.slots.size ≤ ((own_n vs)).toNatClampNeg) := inb_of S14 (own_nin vs hl)
    obtain ⟨T14, h14, X14, e14, W14, st14⟩ := stB X6 hx hZ e6 Ar14 (j := (own_n vs)) hin14 (g := (mkF m 118 #[.val (.ref a0), .val (.long q1), .second, .val (.long r), .second] [(.int ((r.toInt32).toInt8.toInt32)), (.int (own_n vs)), (.ref b)])) rfl rfl (hb hby d8_118)
    have fa14 : Arv Z h14 b kc .byte (65536 : Int32) (vs ++ [(.int (nar .byte ((r.toInt32).toInt8.toInt32)))]) (.int (0 : Int32)) := own_push f12 (fits_nar_byte _) W14 hl
    have N14 := Fr.snoc X14 N6 g_b
    have f15 : Keep h0 h14 [a0, b] := f7.wr W14 (Or.inl (List.mem_of_getElem? (i := 1) rfl))
    have f16 : Exa Z h14 a0 "com/example/zhangtiao/zhangtiao/input/VarLongs" := f8.wr W14
    have f17 : Fld Z h14 a0 "com/example/zhangtiao/zhangtiao/input/VarLongs" "last" "[B" (.ref b) := f9.other W14 (Or.inl ne_a0_b)
    have f18 : Fld Z h14 a0 "com/example/zhangtiao/zhangtiao/input/VarLongs" "position" "I" (.int ((own_n vs) + (1 : Int32))) := f10.other W14 (Or.inl ne_a0_b)
    have f19 : Fld Z h14 a0 "com/example/zhangtiao/zhangtiao/input/VarLongs" "chunks" "Ljava/util/List;" cv := f11.other W14 (Or.inl ne_a0_b)
    have pre14 : Go p.tables e below A T14 (mkF m 119 #[.val (.ref a0), .val (.long q1), .second, .val (.long r), .second] []) := fun t k => pre13 t (st14 _ k)
    have hE : own_enc 0 r = [(.int (nar .byte ((r.toInt32).toInt8.toInt32)))] := rfl
    refine ⟨_, _, _, _, X14, e14, N14, f15, f16, f17, ?_, f19, ?_, pre14⟩
    · rw [hE, ← own_nsucc]; exact f18
    · rw [hE]; exact fa14
  | succ k ih =>
    intro T L h1 r vs X eT N K fE fL fP fC fV hr0 hr1 hlk pre
    have hl : vs.length < 65536 := by omega
    have pre20 : Go p.tables e below A T (mkF m 66 #[.val (.ref a0), .val (.long q1), .second, .val (.long r), .second] [(.int (lcmpW r (128 : Int64)))]) := fun t k => pre t (by
        refine XS.lloadN X.here hx rfl (hb hby d8_61) rfl ?_
        show Steps p.tables e below (T.setTop (mkF m 62 #[.val (.ref a0), .val (.long q1), .second, .val (.long r), .second] [(.long r)])) _
        refine X.ldc2Long hx hown (mvT hZ (hw _ (List.mem_of_getElem? (i := 96) rfl))) (g := (mkF m 62 #[.val (.ref a0), .val (.long q1), .second, .val (.long r), .second] [(.long r)])) rfl (hb hby d8_62) _ ?_
        show Steps p.tables e below (T.setTop (mkF m 65 #[.val (.ref a0), .val (.long q1), .second, .val (.long r), .second] [(.long (128 : Int64)), (.long r)])) _
        refine XS.lcmp X.here hx rfl (hb hby d8_65) rfl ?_
        exact k)
    by_cases hc21 : r < (128 : Int64)
    · -- hc21: True
      have pre22 : Go p.tables e below A T (mkF m 101 #[.val (.ref a0), .val (.long q1), .second, .val (.long r), .second] [(.ref a0)]) := fun t k => pre20 t (by
          refine XS.ifYes X.here hx rfl (pc0 := 66) (pc' := 100) rfl (hb hby d8_66) rfl ((if0 _ _).trans (tlt ((lw_lt _ _).mpr hc21)).1) (by decide) (by decide) ?_
          show Steps p.tables e below (T.setTop (mkF m 100 #[.val (.ref a0), .val (.long q1), .second, .val (.long r), .second] [])) _
          refine XS.aloadN X.here hx rfl (hb hby d8_100) rfl rfl ?_
          exact k)
      obtain ⟨T23, X23, e23, st23⟩ := getF X hx hZ hown (host := "") (Or.inl (hw _ (List.mem_of_getElem? (i := 62) rfl))) Via.refl eT fL (g := (mkF m 101 #[.val (.ref a0), .val (.long q1), .second, .val (.long r), .second] [(.ref a0)])) rfl rfl (hb hby d8_101)
      have pre23 : Go p.tables e below A T23 (mkF m 104 #[.val (.ref a0), .val (.long q1), .second, .val (.long r), .second] [(.ref b)]) := fun t k => pre22 t (st23 _ k)
      have pre24 : Go p.tables e below A T23 (mkF m 106 #[.val (.ref a0), .val (.long q1), .second, .val (.long r), .second] [(.ref a0), (.ref a0), (.ref b)]) := fun t k => pre23 t (by
          refine XS.aloadN X23.here hx rfl (hb hby d8_104) rfl rfl ?_
          show Steps p.tables e below (T23.setTop (mkF m 105 #[.val (.ref a0), .val (.long q1), .second, .val (.long r), .second] [(.ref a0), (.ref b)])) _
          refine XS.dup X23.here hx rfl (hb hby d8_105) rfl rfl ?_
          exact k)
      obtain ⟨T25, X25, e25, st25⟩ := getF X23 hx hZ hown (host := "") (Or.inl (hw _ (List.mem_of_getElem? (i := 37) rfl))) Via.refl e23 fP (g := (mkF m 106 #[.val (.ref a0), .val (.long q1), .second, .val (.long r), .second] [(.ref a0), (.ref a0), (.ref b)])) rfl rfl (hb hby d8_106)
      have pre25 : Go p.tables e below A T25 (mkF m 109 #[.val (.ref a0), .val (.long q1), .second, .val (.long r), .second] [(.int (own_n vs)), (.ref a0), (.ref b)]) := fun t k => pre24 t (st25 _ k)
      have pre26 : Go p.tables e below A T25 (mkF m 112 #[.val (.ref a0), .val (.long q1), .second, .val (.long r), .second] [(.int ((own_n vs) + (1 : Int32))), (.ref a0), (.int (own_n vs)), (.ref b)]) := fun t k => pre25 t (by
          refine XS.dupX1 X25.here hx rfl (hb hby d8_109) rfl rfl rfl ?_
          show Steps p.tables e below (T25.setTop (mkF m 110 #[.val (.ref a0), .val (.long q1), .second, .val (.long r), .second] [(.int (own_n vs)), (.ref a0), (.int (own_n vs)), (.ref b)])) _
          refine XS.iconst X25.here hx rfl (hb hby d8_110) ?_
          show Steps p.tables e below (T25.setTop (mkF m 111 #[.val (.ref a0), .val (.long q1), .second, .val (.long r), .second] [(.int (1 : Int32)), (.int (own_n vs)), (.ref a0), (.int (own_n vs)), (.ref b)])) _
          refine XS.iadd X25.here hx rfl (hb hby d8_111) rfl ?_
          exact k)
      obtain ⟨T27, h27, X27, e27, W27, st27⟩ := putF X25 hx hZ hown (host := "") (Or.inl (hw _ (List.mem_of_getElem? (i := 37) rfl))) Via.refl e25 fP fE (Or.inl (hw _ (List.mem_of_getElem? (i := 38) rfl))) (hw _ (List.mem_of_getElem? (i := 2) rfl)) (ty := .int) (by decide) rfl rfl (g := (mkF m 112 #[.val (.ref a0), .val (.long q1), .second, .val (.long r), .second] [(.int ((own_n vs) + (1 : Int32))), (.ref a0), (.int (own_n vs)), (.ref b)])) rfl rfl (hb hby d8_112)
      have N27 := Fr.snoc X27 N g_a0
      have f28 : Keep h0 h27 [a0, b] := K.wr W27 (Or.inl (List.mem_of_getElem? (i := 0) rfl))
      have f29 : Exa Z h27 a0 "com/example/zhangtiao/zhangtiao/input/VarLongs" := fE.wr W27
      have f30 : Fld Z h27 a0 "com/example/zhangtiao/zhangtiao/input/VarLongs" "last" "[B" (.ref b) := fL.other W27 (Or.inr (slot_ne (Or.inl (hw _ (List.mem_of_getElem? (i := 63) rfl))) (Or.inl (hw _ (List.mem_of_getElem? (i := 38) rfl))) (by decide) (t := (.array .byte)) (t' := .int) (by decide) (by decide)))
      have f31 : Fld Z h27 a0 "com/example/zhangtiao/zhangtiao/input/VarLongs" "position" "I" (.int ((own_n vs) + (1 : Int32))) := fP.same W27
      have f32 : Fld Z h27 a0 "com/example/zhangtiao/zhangtiao/input/VarLongs" "chunks" "Ljava/util/List;" cv := fC.other W27 (Or.inr (slot_ne (Or.inr (hw _ (List.mem_of_getElem? (i := 35) rfl))) (Or.inl (hw _ (List.mem_of_getElem? (i := 38) rfl))) (by decide) (t := (.object "java/util/List")) (t' := .int) (by decide) (by decide)))
      have f33 : Arv Z h27 b kc .byte (65536 : Int32) vs (.int (0 : Int32)) := fV.other W27 ne_a0_b.symm
      have pre27 : Go p.tables e below A T27 (mkF m 115 #[.val (.ref a0), .val (.long q1), .second, .val (.long r), .second] [(.int (own_n vs)), (.ref b)]) := fun t k => pre26 t (st27 _ k)
      have pre34 : Go p.tables e below A T27 (mkF m 118 #[.val (.ref a0), .val (.long q1), .second, .val (.long r), .second] [(.int ((r.toInt32).toInt8.toInt32)), (.int (own_n vs)), (.ref b)]) := fun t k => pre27 t (by
          refine XS.lloadN X27.here hx rfl (hb hby d8_115) rfl ?_
          show Steps p.tables e below (T27.setTop (mkF m 116 #[.val (.ref a0), .val (.long q1), .second, .val (.long r), .second] [(.long r), (.int (own_n vs)), (.ref b)])) _
          refine XS.l2i X27.here hx rfl (hb hby d8_116) rfl ?_
          show Steps p.tables e below (T27.setTop (mkF m 117 #[.val (.ref a0), .val (.long q1), .second, .val (.long r), .second] [(.int (r.toInt32)), (.int (own_n vs)), (.ref b)])) _
          refine XS.i2b X27.here hx rfl (hb hby d8_117) rfl ?_
          exact k)
      obtain ⟨c35, Ar35, q35, S35, M35, H35, G35⟩ := (id f33)
      have hin35 : ¬ ((own_n vs) < 0 ∨ c35.slots.size ≤ ((own_n vs)).toNatClampNeg) := inb_of S35 (own_nin vs hl)
      obtain ⟨T35, h35, X35, e35, W35, st35⟩ := stB X27 hx hZ e27 Ar35 (j := (own_n vs)) hin35 (g := (mkF m 118 #[.val (.ref a0), .val (.long q1), .second, .val (.long r), .second] [(.int ((r.toInt32).toInt8.toInt32)), (.int (own_n vs)), (.ref b)])) rfl rfl (hb hby d8_118)
      have fa35 : Arv Z h35 b kc .byte (65536 : Int32) (vs ++ [(.int (nar .byte ((r.toInt32).toInt8.toInt32)))]) (.int (0 : Int32)) := own_push f33 (fits_nar_byte _) W35 hl
      have N35 := Fr.snoc X35 N27 g_b
      have f36 : Keep h0 h35 [a0, b] := f28.wr W35 (Or.inl (List.mem_of_getElem? (i := 1) rfl))
      have f37 : Exa Z h35 a0 "com/example/zhangtiao/zhangtiao/input/VarLongs" := f29.wr W35
      have f38 : Fld Z h35 a0 "com/example/zhangtiao/zhangtiao/input/VarLongs" "last" "[B" (.ref b) := f30.other W35 (Or.inl ne_a0_b)
      have f39 : Fld Z h35 a0 "com/example/zhangtiao/zhangtiao/input/VarLongs" "position" "I" (.int ((own_n vs) + (1 : Int32))) := f31.other W35 (Or.inl ne_a0_b)
      have f40 : Fld Z h35 a0 "com/example/zhangtiao/zhangtiao/input/VarLongs" "chunks" "Ljava/util/List;" cv := f32.other W35 (Or.inl ne_a0_b)
      have pre35 : Go p.tables e below A T35 (mkF m 119 #[.val (.ref a0), .val (.long q1), .second, .val (.long r), .second] []) := fun t k => pre34 t (st35 _ k)
      have hE : own_enc (k + 1) r = [(.int (nar .byte ((r.toInt32).toInt8.toInt32)))] := by rw [own_enc, if_pos hc21]; rfl
      refine ⟨_, _, _, _, X35, e35, N35, f36, f37, f38, ?_, f40, ?_, pre35⟩
      · rw [hE, ← own_nsucc]; exact f39
      · rw [hE]; exact fa35
    · -- hc21: False
      have pre41 : Go p.tables e below A T (mkF m 70 #[.val (.ref a0), .val (.long q1), .second, .val (.long r), .second] [(.ref a0)]) := fun t k => pre20 t (by
          refine XS.ifNo X.here hx rfl (hb hby d8_66) rfl ((if0 _ _).trans (flt (mt (lw_lt _ _).mp hc21)).1) ?_
          show Steps p.tables e below (T.setTop (mkF m 69 #[.val (.ref a0), .val (.long q1), .second, .val (.long r), .second] [])) _
          refine XS.aloadN X.here hx rfl (hb hby d8_69) rfl rfl ?_
          exact k)
      obtain ⟨T42, X42, e42, st42⟩ := getF X hx hZ hown (host := "") (Or.inl (hw _ (List.mem_of_getElem? (i := 62) rfl))) Via.refl eT fL (g := (mkF m 70 #[.val (.ref a0), .val (.long q1), .second, .val (.long r), .second] [(.ref a0)])) rfl rfl (hb hby d8_70)
      have pre42 : Go p.tables e below A T42 (mkF m 73 #[.val (.ref a0), .val (.long q1), .second, .val (.long r), .second] [(.ref b)]) := fun t k => pre41 t (st42 _ k)
      have pre43 : Go p.tables e below A T42 (mkF m 75 #[.val (.ref a0), .val (.long q1), .second, .val (.long r), .second] [(.ref a0), (.ref a0), (.ref b)]) := fun t k => pre42 t (by
          refine XS.aloadN X42.here hx rfl (hb hby d8_73) rfl rfl ?_
          show Steps p.tables e below (T42.setTop (mkF m 74 #[.val (.ref a0), .val (.long q1), .second, .val (.long r), .second] [(.ref a0), (.ref b)])) _
          refine XS.dup X42.here hx rfl (hb hby d8_74) rfl rfl ?_
          exact k)
      obtain ⟨T44, X44, e44, st44⟩ := getF X42 hx hZ hown (host := "") (Or.inl (hw _ (List.mem_of_getElem? (i := 37) rfl))) Via.refl e42 fP (g := (mkF m 75 #[.val (.ref a0), .val (.long q1), .second, .val (.long r), .second] [(.ref a0), (.ref a0), (.ref b)])) rfl rfl (hb hby d8_75)
      have pre44 : Go p.tables e below A T44 (mkF m 78 #[.val (.ref a0), .val (.long q1), .second, .val (.long r), .second] [(.int (own_n vs)), (.ref a0), (.ref b)]) := fun t k => pre43 t (st44 _ k)
      have pre45 : Go p.tables e below A T44 (mkF m 81 #[.val (.ref a0), .val (.long q1), .second, .val (.long r), .second] [(.int ((own_n vs) + (1 : Int32))), (.ref a0), (.int (own_n vs)), (.ref b)]) := fun t k => pre44 t (by
          refine XS.dupX1 X44.here hx rfl (hb hby d8_78) rfl rfl rfl ?_
          show Steps p.tables e below (T44.setTop (mkF m 79 #[.val (.ref a0), .val (.long q1), .second, .val (.long r), .second] [(.int (own_n vs)), (.ref a0), (.int (own_n vs)), (.ref b)])) _
          refine XS.iconst X44.here hx rfl (hb hby d8_79) ?_
          show Steps p.tables e below (T44.setTop (mkF m 80 #[.val (.ref a0), .val (.long q1), .second, .val (.long r), .second] [(.int (1 : Int32)), (.int (own_n vs)), (.ref a0), (.int (own_n vs)), (.ref b)])) _
          refine XS.iadd X44.here hx rfl (hb hby d8_80) rfl ?_
          exact k)
      obtain ⟨T46, h46, X46, e46, W46, st46⟩ := putF X44 hx hZ hown (host := "") (Or.inl (hw _ (List.mem_of_getElem? (i := 37) rfl))) Via.refl e44 fP fE (Or.inl (hw _ (List.mem_of_getElem? (i := 38) rfl))) (hw _ (List.mem_of_getElem? (i := 2) rfl)) (ty := .int) (by decide) rfl rfl (g := (mkF m 81 #[.val (.ref a0), .val (.long q1), .second, .val (.long r), .second] [(.int ((own_n vs) + (1 : Int32))), (.ref a0), (.int (own_n vs)), (.ref b)])) rfl rfl (hb hby d8_81)
      have N46 := Fr.snoc X46 N g_a0
      have f47 : Keep h0 h46 [a0, b] := K.wr W46 (Or.inl (List.mem_of_getElem? (i := 0) rfl))
      have f48 : Exa Z h46 a0 "com/example/zhangtiao/zhangtiao/input/VarLongs" := fE.wr W46
      have f49 : Fld Z h46 a0 "com/example/zhangtiao/zhangtiao/input/VarLongs" "last" "[B" (.ref b) := fL.other W46 (Or.inr (slot_ne (Or.inl (hw _ (List.mem_of_getElem? (i := 63) rfl))) (Or.inl (hw _ (List.mem_of_getElem? (i := 38) rfl))) (by decide) (t := (.array .byte)) (t' := .int) (by decide) (by decide)))
      have f50 : Fld Z h46 a0 "com/example/zhangtiao/zhangtiao/input/VarLongs" "position" "I" (.int ((own_n vs) + (1 : Int32))) := fP.same W46
      have f51 : Fld Z h46 a0 "com/example/zhangtiao/zhangtiao/input/VarLongs" "chunks" "Ljava/util/List;" cv := fC.other W46 (Or.inr (slot_ne (Or.inr (hw _ (List.mem_of_getElem? (i := 35) rfl))) (Or.inl (hw _ (List.mem_of_getElem? (i := 38) rfl))) (by decide) (t := (.object "java/util/List")) (t' := .int) (by decide) (by decide)))
      have f52 : Arv Z h46 b kc .byte (65536 : Int32) vs (.int (0 : Int32)) := fV.other W46 ne_a0_b.symm
      have pre46 : Go p.tables e below A T46 (mkF m 84 #[.val (.ref a0), .val (.long q1), .second, .val (.long r), .second] [(.int (own_n vs)), (.ref b)]) := fun t k => pre45 t (st46 _ k)
      have pre53 : Go p.tables e below A T46 (mkF m 91 #[.val (.ref a0), .val (.long q1), .second, .val (.long r), .second] [(.int (((r ||| (128 : Int64)).toInt32).toInt8.toInt32)), (.int (own_n vs)), (.ref b)]) := fun t k => pre46 t (by
          refine XS.lloadN X46.here hx rfl (hb hby d8_84) rfl ?_
          show Steps p.tables e below (T46.setTop (mkF m 85 #[.val (.ref a0), .val (.long q1), .second, .val (.long r), .second] [(.long r), (.int (own_n vs)), (.ref b)])) _
          refine X46.ldc2Long hx hown (mvT hZ (hw _ (List.mem_of_getElem? (i := 96) rfl))) (g := (mkF m 85 #[.val (.ref a0), .val (.long q1), .second, .val (.long r), .second] [(.long r), (.int (own_n vs)), (.ref b)])) rfl (hb hby d8_85) _ ?_
          show Steps p.tables e below (T46.setTop (mkF m 88 #[.val (.ref a0), .val (.long q1), .second, .val (.long r), .second] [(.long (128 : Int64)), (.long r), (.int (own_n vs)), (.ref b)])) _
          refine XS.lor X46.here hx rfl (hb hby d8_88) rfl ?_
          show Steps p.tables e below (T46.setTop (mkF m 89 #[.val (.ref a0), .val (.long q1), .second, .val (.long r), .second] [(.long (r ||| (128 : Int64))), (.int (own_n vs)), (.ref b)])) _
          refine XS.l2i X46.here hx rfl (hb hby d8_89) rfl ?_
          show Steps p.tables e below (T46.setTop (mkF m 90 #[.val (.ref a0), .val (.long q1), .second, .val (.long r), .second] [(.int ((r ||| (128 : Int64)).toInt32)), (.int (own_n vs)), (.ref b)])) _
          refine XS.i2b X46.here hx rfl (hb hby d8_90) rfl ?_
          exact k)
      obtain ⟨c54, Ar54, q54, S54, M54, H54, G54⟩ := (id f52)
      have hin54 : ¬ ((own_n vs) < 0 ∨ c54.slots.size ≤ ((own_n vs)).toNatClampNeg) := inb_of S54 (own_nin vs hl)
      obtain ⟨T54, h54, X54, e54, W54, st54⟩ := stB X46 hx hZ e46 Ar54 (j := (own_n vs)) hin54 (g := (mkF m 91 #[.val (.ref a0), .val (.long q1), .second, .val (.long r), .second] [(.int (((r ||| (128 : Int64)).toInt32).toInt8.toInt32)), (.int (own_n vs)), (.ref b)])) rfl rfl (hb hby d8_91)
      have fa54 : Arv Z h54 b kc .byte (65536 : Int32) (vs ++ [(.int (nar .byte (((r ||| (128 : Int64)).toInt32).toInt8.toInt32)))]) (.int (0 : Int32)) := own_push f52 (fits_nar_byte _) W54 hl
      have N54 := Fr.snoc X54 N46 g_b
      have f55 : Keep h0 h54 [a0, b] := f47.wr W54 (Or.inl (List.mem_of_getElem? (i := 1) rfl))
      have f56 : Exa Z h54 a0 "com/example/zhangtiao/zhangtiao/input/VarLongs" := f48.wr W54
      have f57 : Fld Z h54 a0 "com/example/zhangtiao/zhangtiao/input/VarLongs" "last" "[B" (.ref b) := f49.other W54 (Or.inl ne_a0_b)
      have f58 : Fld Z h54 a0 "com/example/zhangtiao/zhangtiao/input/VarLongs" "position" "I" (.int ((own_n vs) + (1 : Int32))) := f50.other W54 (Or.inl ne_a0_b)
      have f59 : Fld Z h54 a0 "com/example/zhangtiao/zhangtiao/input/VarLongs" "chunks" "Ljava/util/List;" cv := f51.other W54 (Or.inl ne_a0_b)
      have pre54 : Go p.tables e below A T54 (mkF m 92 #[.val (.ref a0), .val (.long q1), .second, .val (.long r), .second] []) := fun t k => pre53 t (st54 _ k)
      obtain ⟨w60, hw60⟩ : ∃ z : Int64, z = ((r.toUInt64 >>> ((7 : Int32) &&& 0x3f).toInt64.toUInt64).toInt64) := ⟨_, rfl⟩
      have pre61 : Go p.tables e below A T54 (mkF m 61 #[.val (.ref a0), .val (.long q1), .second, .val (.long w60), .second] []) := fun t k => pre54 t (by
          refine XS.lloadN X54.here hx rfl (hb hby d8_92) rfl ?_
          show Steps p.tables e below (T54.setTop (mkF m 93 #[.val (.ref a0), .val (.long q1), .second, .val (.long r), .second] [(.long r)])) _
          refine XS.bipush X54.here hx rfl (hb hby d8_93) ?_
          show Steps p.tables e below (T54.setTop (mkF m 95 #[.val (.ref a0), .val (.long q1), .second, .val (.long r), .second] [(.int (7 : Int32)), (.long r)])) _
          refine XS.lushr X54.here hx rfl (hb hby d8_95) rfl ?_
          show Steps p.tables e below (T54.setTop (mkF m 96 #[.val (.ref a0), .val (.long q1), .second, .val (.long r), .second] [(.long ((r.toUInt64 >>> ((7 : Int32) &&& 0x3f).toInt64.toUInt64).toInt64))])) _
          refine XS.lstoreN X54.here hx rfl (x := w60) (rest := []) (hb hby d8_96) (by subst hw60; rfl) (l' := #[.val (.ref a0), .val (.long q1), .second, .val (.long w60), .second]) rfl ?_
          show Steps p.tables e below (T54.setTop (mkF m 97 #[.val (.ref a0), .val (.long q1), .second, .val (.long w60), .second] [])) _
          refine XS.goto X54.here hx rfl (pc0 := 97) (pc' := 61) rfl (hb hby d8_97) (by decide) (by decide) ?_
          exact k)
      have hE : vs ++ own_enc (k + 1) r = (vs ++ [(.int (nar .byte (((r ||| (128 : Int64)).toInt32).toInt8.toInt32)))]) ++ own_enc k w60 := by rw [own_enc, if_neg hc21, List.append_assoc]; subst hw60; rfl
      have hp := f58
      rw [own_nsucc vs (.int (nar .byte (((r ||| (128 : Int64)).toInt32).toInt8.toInt32)))] at hp
      have hs7 := own_sh7_int r hr0
      have hsq : w60.toInt = r.toInt / 128 := by subst hw60; exact hs7
      have hl2 : (vs ++ [((.int (nar .byte (((r ||| (128 : Int64)).toInt32).toInt8.toInt32))) : Value)]).length + k < 65536 := by rw [List.length_append]; show vs.length + 1 + k < 65536; omega
      rw [hE]
      exact ih _ _ _ _ _ X54 e54 N54 f55 f56 f57 hp f59 fa54 (by omega) (by rw [hsq]; rw [Int.pow_succ] at hr1; omega) hl2 pre61
theorem pn_ad2 : plainName "com/example/zhangtiao/zhangtiao/input/VarLongs" = true := by first | (simp [plainName, overriddenIn]; done) | decide +kernel
theorem ef_ad2 (m : MethodId) (a0 : Addr) (q1 : Int64) : entryFrame m #[(.ref a0), (.long q1)] 5 = mkF m 0 #[.val (.ref a0), .val (.long q1), .second, .unset, .unset] [] := by first | (simp [entryFrame, mkF, argsToLocals, Value.category]; done) | rfl
def Q_ad2 (Z : State) (a0 : Addr) (q1 : Int64) (b : Addr) (kc : ClassId) (cv : Value) (vs : List Value) (h0 : Heap) (n0 : Nat) (v : Option Value) (h : Heap) (L : List Loc) : Prop := v = none ∧ Fr n0 L ∧ Keep h0 h [a0, b] ∧ Exa Z h a0 "com/example/zhangtiao/zhangtiao/input/VarLongs" ∧ Fld Z h a0 "com/example/zhangtiao/zhangtiao/input/VarLongs" "last" "[B" (.ref b) ∧ Fld Z h a0 "com/example/zhangtiao/zhangtiao/input/VarLongs" "position" "I" (.int (own_n (vs ++ own_enc 8 q1))) ∧ Fld Z h a0 "com/example/zhangtiao/zhangtiao/input/VarLongs" "chunks" "Ljava/util/List;" cv ∧ Arv Z h b kc .byte (65536 : Int32) (vs ++ own_enc 8 q1) (.int (0 : Int32))
set_option maxRecDepth 65536 in
set_option maxHeartbeats 40000000 in
theorem rm_ad2 (l : Launch) (Z : State) (av0 : Array Value) (hw : ∀ d ∈ tables_1, d.before av0 Z = true) (ws : List Jvm.Cond) (a0 : Addr) (q1 : Int64) (b : Addr) (kc : ClassId) (cv : Value) (vs : List Value) (h0 : Heap) (n0 : Nat) (Z0 : n0 ≤ h0.size) (fi0 : Exa Z h0 a0 "com/example/zhangtiao/zhangtiao/input/VarLongs") (fi1 : Fld Z h0 a0 "com/example/zhangtiao/zhangtiao/input/VarLongs" "last" "[B" (.ref b)) (fi2 : Fld Z h0 a0 "com/example/zhangtiao/zhangtiao/input/VarLongs" "position" "I" (.int (own_n vs))) (fi3 : Fld Z h0 a0 "com/example/zhangtiao/zhangtiao/input/VarLongs" "chunks" "Ljava/util/List;" cv) (fi4 : Arv Z h0 b kc .byte (65536 : Int32) vs (.int (0 : Int32))) (g_a0 : n0 ≤ a0) (g_b : n0 ≤ b) (ne_a0_b : a0 ≠ b) (hq : 0 ≤ q1.toInt) (hvl : vs.length ≤ 60000) :
    MetFree l (⟨"com/example/zhangtiao/zhangtiao/input/VarLongs", "add", "(J)V"⟩ : MethodName) (head1 (Jvm.Cond.code (⟨"com/example/zhangtiao/zhangtiao/input/VarLongs", "add", "(J)V"⟩ : MethodName) prog_34_method_2_code 5 none :: ws) ({ frames := 0, cells := 0, slots := 0, locals := 0 } : Room)) (fun a U => a = #[(.ref a0), (.long q1)] ∧ Z.Warmed39 U.vm ∧ U.heap = h0) (fun _ _ _ _ _ => True) (fun _ U o U' => ∃ v L, o = .returned v ∧ Q_ad2 Z a0 q1 b kc cv vs h0 n0 v U'.heap L ∧ FrameEnd U o U' L ({ frames := 0, cells := 0, slots := 0, locals := 0 } : Room).cells ({ frames := 0, cells := 0, slots := 0, locals := 0 } : Room).slots) := by
  refine MetFree.of_bodySF (plainFor_of_name pn_ad2) hisR ?_
  intro p e s m args below meth c s₁ Bd hml0 hP hK
  obtain ⟨rfl, hZ, hh⟩ := hP
  have hx := Bd.exec
  have hby := Bd.bytes
  have hml : c.maxLocals = 5 := hml0
  have hown : s.vm.findClass "com/example/zhangtiao/zhangtiao/input/VarLongs" = some m.cls := findClass_of_methodNamed Bd.named
  have hnm := (name_of_methodNamed Bd.named Bd.method).1
  have X0 : Stand p l e ({ frames := 0, cells := 0, slots := 0, locals := 0 } : Room) s m #[(.ref a0), (.long q1)] below meth c s₁ [] 0 0 := Stand.of_body Bd
  have e0 : s₁.heap = h0 := by rw [← hh, Bd.state]; rfl
  have N0 := Fr.nil n0
  have pre0 : Go p.tables e below (s₁.setTop (entryFrame m #[(.ref a0), (.long q1)] 5)) s₁ (mkF m 0 #[.val (.ref a0), .val (.long q1), .second, .unset, .unset] []) := fun t k => castTop (ef_ad2 m a0 q1) k
  have K0 : Keep h0 h0 [a0, b] := Keep.refl _ _
  have pre1 : Go p.tables e below (s₁.setTop (entryFrame m #[(.ref a0), (.long q1)] 5)) s₁ (mkF m 23 #[.val (.ref a0), .val (.long q1), .second, .unset, .unset] [(.ref a0), (.int (65536 : Int32))]) := fun t k => pre0 t (by
      refine XS.lloadN X0.here hx rfl (hb hby d8_0) rfl ?_
      show Steps p.tables e below (s₁.setTop (mkF m 1 #[.val (.ref a0), .val (.long q1), .second, .unset, .unset] [(.long q1)])) _
      refine XS.lconst X0.here hx rfl (hb hby d8_1) ?_
      show Steps p.tables e below (s₁.setTop (mkF m 2 #[.val (.ref a0), .val (.long q1), .second, .unset, .unset] [(.long (0 : Int64)), (.long q1)])) _
      refine XS.lcmp X0.here hx rfl (hb hby d8_2) rfl ?_
      show Steps p.tables e below (s₁.setTop (mkF m 3 #[.val (.ref a0), .val (.long q1), .second, .unset, .unset] [(.int (lcmpW q1 (0 : Int64)))])) _
      refine XS.ifYes X0.here hx rfl (pc0 := 3) (pc' := 20) rfl (hb hby d8_3) rfl ((if0 _ _).trans (flt (mt (lw_lt _ _).mp (own_nonneg hq))).2.1) (by decide) (by decide) ?_
      show Steps p.tables e below (s₁.setTop (mkF m 20 #[.val (.ref a0), .val (.long q1), .second, .unset, .unset] [])) _
      refine X0.ldcInt hx hown (mvT hZ (hw _ (List.mem_of_getElem? (i := 36) rfl))) (g := (mkF m 20 #[.val (.ref a0), .val (.long q1), .second, .unset, .unset] [])) rfl (hb hby d8_20) _ ?_
      show Steps p.tables e below (s₁.setTop (mkF m 22 #[.val (.ref a0), .val (.long q1), .second, .unset, .unset] [(.int (65536 : Int32))])) _
      refine XS.aloadN X0.here hx rfl (hb hby d8_22) rfl rfl ?_
      exact k)
  obtain ⟨T2, X2, e2, st2⟩ := getF X0 hx hZ hown (host := "") (Or.inl (hw _ (List.mem_of_getElem? (i := 37) rfl))) Via.refl e0 fi2 (g := (mkF m 23 #[.val (.ref a0), .val (.long q1), .second, .unset, .unset] [(.ref a0), (.int (65536 : Int32))])) rfl rfl (hb hby d8_23)
  have pre2 : Go p.tables e below (s₁.setTop (entryFrame m #[(.ref a0), (.long q1)] 5)) T2 (mkF m 26 #[.val (.ref a0), .val (.long q1), .second, .unset, .unset] [(.int (own_n vs)), (.int (65536 : Int32))]) := fun t k => pre1 t (st2 _ k)
  have pre3 : Go p.tables e below (s₁.setTop (entryFrame m #[(.ref a0), (.long q1)] 5)) T2 (mkF m 61 #[.val (.ref a0), .val (.long q1), .second, .val (.long q1), .second] []) := fun t k => pre2 t (by
      refine XS.isub X2.here hx rfl (hb hby d8_26) rfl ?_
      show Steps p.tables e below (T2.setTop (mkF m 27 #[.val (.ref a0), .val (.long q1), .second, .unset, .unset] [(.int ((65536 : Int32) - (own_n vs)))])) _
      refine XS.bipush X2.here hx rfl (hb hby d8_27) ?_
      show Steps p.tables e below (T2.setTop (mkF m 29 #[.val (.ref a0), .val (.long q1), .second, .unset, .unset] [(.int (10 : Int32)), (.int ((65536 : Int32) - (own_n vs)))])) _
      refine XS.icmpYes X2.here hx rfl (pc0 := 29) (pc' := 59) rfl (hb hby d8_29) rfl (flt (own_nroom vs (by omega))).2.1 (by decide) (by decide) ?_
      show Steps p.tables e below (T2.setTop (mkF m 59 #[.val (.ref a0), .val (.long q1), .second, .unset, .unset] [])) _
      refine XS.lloadN X2.here hx rfl (hb hby d8_59) rfl ?_
      show Steps p.tables e below (T2.setTop (mkF m 60 #[.val (.ref a0), .val (.long q1), .second, .unset, .unset] [(.long q1)])) _
      refine XS.lstoreN X2.here hx rfl (hb hby d8_60) rfl (l' := #[.val (.ref a0), .val (.long q1), .second, .val (.long q1), .second]) rfl ?_
      exact k)
  obtain ⟨T4, L4, h4, r4, X4, e4, N4, K4, fE4, fL4, fP4, fC4, fV4, pre4⟩ := lp_add hx hZ hw hby hml hown a0 b q1 kc cv h0 n0 g_a0 g_b ne_a0_b 8 T2 _ h0 q1 vs X2 e2 N0 (Keep.refl _ _) fi0 fi1 fi2 fi3 fi4 hq (own_lt9 hq) (by omega) pre3
  have f5 : n0 ≤ h4.size := Nat.le_trans Z0 K4.1
  have f6 : Exa Z h4 a0 "com/example/zhangtiao/zhangtiao/input/VarLongs" := fi0.keep K4
  have f7 : Keep h0 h4 [a0, b] := K0.trans K4 (allS (Or.inl (List.mem_of_getElem? (i := 0) rfl)) (allS (Or.inl (List.mem_of_getElem? (i := 1) rfl)) all0))
  obtain ⟨fs, hr, hrun, hended, hW, hsame⟩ := X4.leave (v := none) (fun _ => rfl) (BodyLoose.notSynchronized Bd)
  refine ⟨_, _, pre4 _ ?_, hrun, hended, _, _, rfl, ?_, ⟨_, rfl⟩, hW, hsame.mono (Nat.le_of_ble_eq_true rfl) (Nat.le_of_ble_eq_true rfl)⟩
  · exact X4.returnOut hx Bd.returns (hb hby d8_119) hr
  · show Q_ad2 Z a0 q1 b kc cv vs h0 n0 _ T4.heap _
    rw [e4]
    exact ⟨rfl, N4, f7, fE4, fL4, fP4, fC4, fV4⟩
theorem pn_ad0 : plainName "com/example/zhangtiao/zhangtiao/input/VarLongs" = true := by first | (simp [plainName, overriddenIn]; done) | decide +kernel
theorem ef_ad0 (m : MethodId) (a0 : Addr) (q1 : Int64) : entryFrame m #[(.ref a0), (.long q1)] 5 = mkF m 0 #[.val (.ref a0), .val (.long q1), .second, .unset, .unset] [] := by first | (simp [entryFrame, mkF, argsToLocals, Value.category]; done) | rfl
def Q_ad0 (Z : State) (a0 : Addr) (q1 : Int64) (al : Addr) (ad : Addr) (kd : ClassId) (h0 : Heap) (n0 : Nat) (v : Option Value) (h : Heap) (L : List Loc) : Prop := ∃ (b : Addr) (kc : ClassId) (ea : Addr) (ke : ClassId), v = none ∧ Fr n0 L ∧ Keep h0 h [a0, al] ∧ h0.size ≤ b ∧ n0 ≤ b ∧ h0.size ≤ ea ∧ n0 ≤ ea ∧ Exa Z h a0 "com/example/zhangtiao/zhangtiao/input/VarLongs" ∧ Fld Z h a0 "com/example/zhangtiao/zhangtiao/input/VarLongs" "last" "[B" (.ref b) ∧ Fld Z h a0 "com/example/zhangtiao/zhangtiao/input/VarLongs" "position" "I" (.int (own_n ([] ++ own_enc 8 q1))) ∧ Fld Z h a0 "com/example/zhangtiao/zhangtiao/input/VarLongs" "chunks" "Ljava/util/List;" (.ref al) ∧ Arv Z h b kc .byte (65536 : Int32) ([] ++ own_enc 8 q1) (.int (0 : Int32)) ∧ Exa Z h b "[B" ∧ Exa Z h al "java/util/ArrayList" ∧ Fld Z h al "java/util/ArrayList" "elementData" "[Ljava/lang/Object;" (.ref ea) ∧ Fld Z h al "java/util/ArrayList" "size" "I" (.int ((0 : Int32) + (1 : Int32))) ∧ Arv Z h ea ke (.object "java/lang/Object") (10 : Int32) [(.ref b), .null, .null, .null, .null, .null, .null, .null, .null, .null] .null ∧ b ≠ ea
set_option maxRecDepth 65536 in
set_option maxHeartbeats 40000000 in
theorem rm_ad0 (l : Launch) (Z : State) (av0 : Array Value) (hw : ∀ d ∈ tables_1, d.before av0 Z = true) (ws : List Jvm.Cond) (a0 : Addr) (q1 : Int64) (al : Addr) (ad : Addr) (kd : ClassId) (h0 : Heap) (n0 : Nat) (Z0 : n0 ≤ h0.size) (fi0 : Old Z n0 h0) (fi1 : Exa Z h0 a0 "com/example/zhangtiao/zhangtiao/input/VarLongs") (fi2 : Fld Z h0 a0 "com/example/zhangtiao/zhangtiao/input/VarLongs" "chunks" "Ljava/util/List;" (.ref al)) (fi3 : Fld Z h0 a0 "com/example/zhangtiao/zhangtiao/input/VarLongs" "last" "[B" .null) (fi4 : Fld Z h0 a0 "com/example/zhangtiao/zhangtiao/input/VarLongs" "position" "I" (.int (65536 : Int32))) (fi5 : Fld Z h0 al "java/util/AbstractList" "modCount" "I" (.int (0 : Int32))) (fi6 : Fld Z h0 al "java/util/ArrayList" "elementData" "[Ljava/lang/Object;" (.ref ad)) (fi7 : Fld Z h0 al "java/util/ArrayList" "size" "I" (.int (0 : Int32))) (fi8 : Exa Z h0 al "java/util/ArrayList") (fi9 : Arv Z h0 ad kd (.object "java/lang/Object") (0 : Int32) [] .null) (g_a0 : n0 ≤ a0) (g_al : n0 ≤ al) (ne_a0_al : a0 ≠ al) (ne_a0_ad : a0 ≠ ad) (ne_al_ad : al ≠ ad) (S_D : Sta Z Z.heap "java/util/ArrayList" "DEFAULTCAPACITY_EMPTY_ELEMENTDATA" "[Ljava/lang/Object;" (.ref ad)) (hq : 0 ≤ q1.toInt) :
    MetFree l (⟨"com/example/zhangtiao/zhangtiao/input/VarLongs", "add", "(J)V"⟩ : MethodName) (head1 (Jvm.Cond.code (⟨"com/example/zhangtiao/zhangtiao/input/VarLongs", "add", "(J)V"⟩ : MethodName) prog_34_method_2_code 5 none :: ws) ({ frames := 5, cells := 2, slots := 65546, locals := 69 } : Room)) (fun a U => a = #[(.ref a0), (.long q1)] ∧ Z.Warmed39 U.vm ∧ U.heap = h0) (fun _ _ _ _ _ => True) (fun _ U o U' => ∃ v L, o = .returned v ∧ Q_ad0 Z a0 q1 al ad kd h0 n0 v U'.heap L ∧ FrameEnd U o U' L ({ frames := 5, cells := 2, slots := 65546, locals := 69 } : Room).cells ({ frames := 5, cells := 2, slots := 65546, locals := 69 } : Room).slots) := by
  refine MetFree.of_bodySF (plainFor_of_name pn_ad0) hisR ?_
  intro p e s m args below meth c s₁ Bd hml0 hP hK
  obtain ⟨rfl, hZ, hh⟩ := hP
  have hx := Bd.exec
  have hby := Bd.bytes
  have hml : c.maxLocals = 5 := hml0
  have hown : s.vm.findClass "com/example/zhangtiao/zhangtiao/input/VarLongs" = some m.cls := findClass_of_methodNamed Bd.named
  have hnm := (name_of_methodNamed Bd.named Bd.method).1
  have X0 : Stand p l e ({ frames := 5, cells := 2, slots := 65546, locals := 69 } : Room) s m #[(.ref a0), (.long q1)] below meth c s₁ [] 0 0 := Stand.of_body Bd
  have e0 : s₁.heap = h0 := by rw [← hh, Bd.state]; rfl
  have N0 := Fr.nil n0
  have pre0 : Go p.tables e below (s₁.setTop (entryFrame m #[(.ref a0), (.long q1)] 5)) s₁ (mkF m 0 #[.val (.ref a0), .val (.long q1), .second, .unset, .unset] []) := fun t k => castTop (ef_ad0 m a0 q1) k
  have K0 : Keep h0 h0 [a0, al] := Keep.refl _ _
  have pre1 : Go p.tables e below (s₁.setTop (entryFrame m #[(.ref a0), (.long q1)] 5)) s₁ (mkF m 23 #[.val (.ref a0), .val (.long q1), .second, .unset, .unset] [(.ref a0), (.int (65536 : Int32))]) := fun t k => pre0 t (by
      refine XS.lloadN X0.here hx rfl (hb hby d8_0) rfl ?_
      show Steps p.tables e below (s₁.setTop (mkF m 1 #[.val (.ref a0), .val (.long q1), .second, .unset, .unset] [(.long q1)])) _
      refine XS.lconst X0.here hx rfl (hb hby d8_1) ?_
      show Steps p.tables e below (s₁.setTop (mkF m 2 #[.val (.ref a0), .val (.long q1), .second, .unset, .unset] [(.long (0 : Int64)), (.long q1)])) _
      refine XS.lcmp X0.here hx rfl (hb hby d8_2) rfl ?_
      show Steps p.tables e below (s₁.setTop (mkF m 3 #[.val (.ref a0), .val (.long q1), .second, .unset, .unset] [(.int (lcmpW q1 (0 : Int64)))])) _
      refine XS.ifYes X0.here hx rfl (pc0 := 3) (pc' := 20) rfl (hb hby d8_3) rfl ((if0 _ _).trans (flt (mt (lw_lt _ _).mp (own_nonneg hq))).2.1) (by decide) (by decide) ?_
      show Steps p.tables e below (s₁.setTop (mkF m 20 #[.val (.ref a0), .val (.long q1), .second, .unset, .unset] [])) _
      refine X0.ldcInt hx hown (mvT hZ (hw _ (List.mem_of_getElem? (i := 36) rfl))) (g := (mkF m 20 #[.val (.ref a0), .val (.long q1), .second, .unset, .unset] [])) rfl (hb hby d8_20) _ ?_
      show Steps p.tables e below (s₁.setTop (mkF m 22 #[.val (.ref a0), .val (.long q1), .second, .unset, .unset] [(.int (65536 : Int32))])) _
      refine XS.aloadN X0.here hx rfl (hb hby d8_22) rfl rfl ?_
      exact k)
  obtain ⟨T2, X2, e2, st2⟩ := getF X0 hx hZ hown (host := "") (Or.inl (hw _ (List.mem_of_getElem? (i := 37) rfl))) Via.refl e0 fi4 (g := (mkF m 23 #[.val (.ref a0), .val (.long q1), .second, .unset, .unset] [(.ref a0), (.int (65536 : Int32))])) rfl rfl (hb hby d8_23)
  have pre2 : Go p.tables e below (s₁.setTop (entryFrame m #[(.ref a0), (.long q1)] 5)) T2 (mkF m 26 #[.val (.ref a0), .val (.long q1), .second, .unset, .unset] [(.int (65536 : Int32)), (.int (65536 : Int32))]) := fun t k => pre1 t (st2 _ k)
  have pre3 : Go p.tables e below (s₁.setTop (entryFrame m #[(.ref a0), (.long q1)] 5)) T2 (mkF m 35 #[.val (.ref a0), .val (.long q1), .second, .unset, .unset] [(.int (65536 : Int32)), (.ref a0)]) := fun t k => pre2 t (by
      refine XS.isub X2.here hx rfl (hb hby d8_26) rfl ?_
      show Steps p.tables e below (T2.setTop (mkF m 27 #[.val (.ref a0), .val (.long q1), .second, .unset, .unset] [(.int ((65536 : Int32) - (65536 : Int32)))])) _
      refine XS.bipush X2.here hx rfl (hb hby d8_27) ?_
      show Steps p.tables e below (T2.setTop (mkF m 29 #[.val (.ref a0), .val (.long q1), .second, .unset, .unset] [(.int (10 : Int32)), (.int ((65536 : Int32) - (65536 : Int32)))])) _
      refine XS.icmpNo X2.here hx rfl (hb hby d8_29) rfl (tlt (by decide)).2.1 ?_
      show Steps p.tables e below (T2.setTop (mkF m 32 #[.val (.ref a0), .val (.long q1), .second, .unset, .unset] [])) _
      refine XS.aloadN X2.here hx rfl (hb hby d8_32) rfl rfl ?_
      show Steps p.tables e below (T2.setTop (mkF m 33 #[.val (.ref a0), .val (.long q1), .second, .unset, .unset] [(.ref a0)])) _
      refine X2.ldcInt hx hown (mvT hZ (hw _ (List.mem_of_getElem? (i := 36) rfl))) (g := (mkF m 33 #[.val (.ref a0), .val (.long q1), .second, .unset, .unset] [(.ref a0)])) rfl (hb hby d8_33) _ ?_
      exact k)
  obtain ⟨T4, h4, k4, X4, e4, E4, A4, B4, st4⟩ := newPE X2 hx hZ (hw _ (List.mem_of_getElem? (i := 61) rfl)) e2 (g := (mkF m 35 #[.val (.ref a0), .val (.long q1), .second, .unset, .unset] [(.int (65536 : Int32)), (.ref a0)])) rfl (hb hby d8_35) rfl (by decide) (cap := 65536) (by decide) (by decide) (by decide) (by decide) (ad := "[B") (by decide)
  obtain ⟨b4, ga4⟩ : ∃ z, z = h0.size := ⟨_, rfl⟩
  rw [← ga4] at A4 B4 st4
  have ne5 : a0 ≠ b4 := Nat.ne_of_lt (Nat.lt_of_lt_of_le fi1.lt (Nat.le_of_eq ga4.symm))
  have ne6 : al ≠ b4 := Nat.ne_of_lt (Nat.lt_of_lt_of_le fi5.lt (Nat.le_of_eq ga4.symm))
  have ne7 : ad ≠ b4 := Nat.ne_of_lt (Nat.lt_of_lt_of_le fi9.lt (Nat.le_of_eq ga4.symm))
  have g8 : n0 ≤ b4 := Nat.le_trans Z0 (Nat.le_of_eq ga4.symm)
  have sz9 : h0.size ≤ b4 := Nat.le_trans K0.1 (Nat.le_of_eq ga4.symm)
  have f10 : n0 ≤ h4.size := Nat.le_trans Z0 E4.1
  have f11 : Old Z n0 h4 := fi0.ext E4
  have f12 : Exa Z h4 a0 "com/example/zhangtiao/zhangtiao/input/VarLongs" := fi1.ext E4
  have f13 : Fld Z h4 a0 "com/example/zhangtiao/zhangtiao/input/VarLongs" "chunks" "Ljava/util/List;" (.ref al) := fi2.ext E4
  have f14 : Fld Z h4 a0 "com/example/zhangtiao/zhangtiao/input/VarLongs" "last" "[B" .null := fi3.ext E4
  have f15 : Fld Z h4 a0 "com/example/zhangtiao/zhangtiao/input/VarLongs" "position" "I" (.int (65536 : Int32)) := fi4.ext E4
  have f16 : Fld Z h4 al "java/util/AbstractList" "modCount" "I" (.int (0 : Int32)) := fi5.ext E4
  have f17 : Fld Z h4 al "java/util/ArrayList" "elementData" "[Ljava/lang/Object;" (.ref ad) := fi6.ext E4
  have f18 : Fld Z h4 al "java/util/ArrayList" "size" "I" (.int (0 : Int32)) := fi7.ext E4
  have f19 : Exa Z h4 al "java/util/ArrayList" := fi8.ext E4
  have f20 : Arv Z h4 ad kd (.object "java/lang/Object") (0 : Int32) [] .null := fi9.ext E4
  have f21 : Keep h0 h4 [a0, al] := K0.ext E4
  have f22 : Arv Z h4 b4 k4 .byte (65536 : Int32) [] (.int (0 : Int32)) := Arv.new A4 (by decide)
  have pre4 : Go p.tables e below (s₁.setTop (entryFrame m #[(.ref a0), (.long q1)] 5)) T4 (mkF m 37 #[.val (.ref a0), .val (.long q1), .second, .unset, .unset] [(.ref b4), (.ref a0)]) := fun t k => pre3 t (st4 _ k)
  obtain ⟨T23, h23, X23, e23, W23, st23⟩ := putF X4 hx hZ hown (host := "") (Or.inl (hw _ (List.mem_of_getElem? (i := 62) rfl))) Via.refl e4 f14 f12 (Or.inl (hw _ (List.mem_of_getElem? (i := 63) rfl))) (hw _ (List.mem_of_getElem? (i := 2) rfl)) (ty := (.array .byte)) (by decide) rfl rfl (g := (mkF m 37 #[.val (.ref a0), .val (.long q1), .second, .unset, .unset] [(.ref b4), (.ref a0)])) rfl rfl (hb hby d8_37)
  have N23 := Fr.snoc X23 N0 g_a0
  have f24 : n0 ≤ h23.size := Nat.le_trans f10 (Keep.of_wr W23).1
  have f25 : Old Z n0 h23 := f11.wr W23 g_a0
  have f26 : Exa Z h23 a0 "com/example/zhangtiao/zhangtiao/input/VarLongs" := f12.wr W23
  have f27 : Fld Z h23 a0 "com/example/zhangtiao/zhangtiao/input/VarLongs" "chunks" "Ljava/util/List;" (.ref al) := f13.other W23 (Or.inr (slot_ne (Or.inr (hw _ (List.mem_of_getElem? (i := 35) rfl))) (Or.inl (hw _ (List.mem_of_getElem? (i := 63) rfl))) (by decide) (t := (.object "java/util/List")) (t' := (.array .byte)) (by decide) (by decide)))
  have f28 : Fld Z h23 a0 "com/example/zhangtiao/zhangtiao/input/VarLongs" "last" "[B" (.ref b4) := f14.same W23
  have f29 : Fld Z h23 a0 "com/example/zhangtiao/zhangtiao/input/VarLongs" "position" "I" (.int (65536 : Int32)) := f15.other W23 (Or.inr (slot_ne (Or.inl (hw _ (List.mem_of_getElem? (i := 38) rfl))) (Or.inl (hw _ (List.mem_of_getElem? (i := 63) rfl))) (by decide) (t := .int) (t' := (.array .byte)) (by decide) (by decide)))
  have f30 : Fld Z h23 al "java/util/AbstractList" "modCount" "I" (.int (0 : Int32)) := f16.other W23 (Or.inl ne_a0_al.symm)
  have f31 : Fld Z h23 al "java/util/ArrayList" "elementData" "[Ljava/lang/Object;" (.ref ad) := f17.other W23 (Or.inl ne_a0_al.symm)
  have f32 : Fld Z h23 al "java/util/ArrayList" "size" "I" (.int (0 : Int32)) := f18.other W23 (Or.inl ne_a0_al.symm)
  have f33 : Exa Z h23 al "java/util/ArrayList" := f19.wr W23
  have f34 : Arv Z h23 ad kd (.object "java/lang/Object") (0 : Int32) [] .null := f20.other W23 ne_a0_ad.symm
  have f35 : Keep h0 h23 [a0, al] := f21.wr W23 (Or.inl (List.mem_of_getElem? (i := 0) rfl))
  have f36 : Arv Z h23 b4 k4 .byte (65536 : Int32) [] (.int (0 : Int32)) := f22.other W23 ne5.symm
  have f37 : Exa Z h23 b4 "[B" := B4.wr W23
  have pre23 : Go p.tables e below (s₁.setTop (entryFrame m #[(.ref a0), (.long q1)] 5)) T23 (mkF m 40 #[.val (.ref a0), .val (.long q1), .second, .unset, .unset] []) := fun t k => pre4 t (st23 _ k)
  have pre38 : Go p.tables e below (s₁.setTop (entryFrame m #[(.ref a0), (.long q1)] 5)) T23 (mkF m 41 #[.val (.ref a0), .val (.long q1), .second, .unset, .unset] [(.ref a0)]) := fun t k => pre23 t (by
      refine XS.aloadN X23.here hx rfl (hb hby d8_40) rfl rfl ?_
      exact k)
  obtain ⟨T39, X39, e39, st39⟩ := getF X23 hx hZ hown (host := "") (Or.inl (hw _ (List.mem_of_getElem? (i := 34) rfl))) Via.refl e23 f27 (g := (mkF m 41 #[.val (.ref a0), .val (.long q1), .second, .unset, .unset] [(.ref a0)])) rfl rfl (hb hby d8_41)
  have pre39 : Go p.tables e below (s₁.setTop (entryFrame m #[(.ref a0), (.long q1)] 5)) T39 (mkF m 44 #[.val (.ref a0), .val (.long q1), .second, .unset, .unset] [(.ref al)]) := fun t k => pre38 t (st39 _ k)
  have pre40 : Go p.tables e below (s₁.setTop (entryFrame m #[(.ref a0), (.long q1)] 5)) T39 (mkF m 45 #[.val (.ref a0), .val (.long q1), .second, .unset, .unset] [(.ref a0), (.ref al)]) := fun t k => pre39 t (by
      refine XS.aloadN X39.here hx rfl (hb hby d8_44) rfl rfl ?_
      exact k)
  obtain ⟨T41, X41, e41, st41⟩ := getF X39 hx hZ hown (host := "") (Or.inl (hw _ (List.mem_of_getElem? (i := 62) rfl))) Via.refl e39 f28 (g := (mkF m 45 #[.val (.ref a0), .val (.long q1), .second, .unset, .unset] [(.ref a0), (.ref al)])) rfl rfl (hb hby d8_45)
  have pre41 : Go p.tables e below (s₁.setTop (entryFrame m #[(.ref a0), (.long q1)] 5)) T41 (mkF m 48 #[.val (.ref a0), .val (.long q1), .second, .unset, .unset] [(.ref b4), (.ref al)]) := fun t k => pre40 t (st41 _ k)
  obtain ⟨cq42, kq42, q42a, q42b, q42c⟩ := isOf hZ e41 f33
  obtain ⟨_, _, ⟨T42, L42, k42, n42⟩, -, X42, ⟨Lc42, hQ42, l42, y42, z42⟩, st42⟩ := X41.interfaceBack hx (xi := (⟨"java/util/List", "add", "(Ljava/lang/Object;)Z"⟩ : MethodName)) (y := (⟨"java/util/ArrayList", "add", "(Ljava/lang/Object;)Z"⟩ : MethodName)) hown (mvT hZ (hw _ (List.mem_of_getElem? (i := 64) rfl))) (mvT hZ (hw _ (List.mem_of_getElem? (i := 65) rfl))) (mvT hZ (hw _ (List.mem_of_getElem? (i := 66) rfl))) (mvT hZ (hw _ (List.mem_of_getElem? (i := 67) rfl))) (mvT hZ (hw _ (List.mem_of_getElem? (i := 68) rfl))) (mvT hZ (hw _ (List.mem_of_getElem? (i := 69) rfl))) (mvT hZ (hw _ (List.mem_of_getElem? (i := 70) rfl))) (mvT hZ (hw _ (List.mem_of_getElem? (i := 51) rfl))) (by decide) (backOf (W := 0) (rm_ad1 l Z av0 hw [] al b4 ad kd (0 : Int32) h23 n0 f24 f25 f30 f31 f32 f33 f34 f37 g_al ne_al_ad ne6 S_D) hZ (hw _ (List.mem_of_getElem? (i := 71) rfl)) (hw _ (List.mem_of_getElem? (i := 12) rfl)) (by decide) (by decide)) q42a q42b q42c (g := (mkF m 48 #[.val (.ref a0), .val (.long q1), .second, .unset, .unset] [(.ref b4), (.ref al)])) rfl (by rw [hml]; rfl) (Steps.refl _) (argsL := [(.ref b4)]) (rest := []) (lenOf pd_6 rfl) rfl (by show 2 * 0 + _ ≤ _; exact Nat.le_of_eq rfl) (hb hby d8_48) (fun _ _ => ⟨rfl, e41, (by decide : 1 + 1 ≤ _), (by decide : 65536 + 10 ≤ _)⟩)
  dsimp only [Pt.U, Pt.locs, Pt.cells, Pt.slots] at X42 l42 y42 z42 st42 hQ42
  subst l42 y42 z42
  obtain ⟨b42, kb42, hv42, N42q, K42, sb42, gb42, fo42_0, fo42_1, fo42_2, fo42_3, fo42_4⟩ := hQ42
  have ne43 : a0 ≠ b42 := Nat.ne_of_lt (Nat.lt_of_lt_of_le f26.lt sb42)
  have ne44 : al ≠ b42 := Nat.ne_of_lt (Nat.lt_of_lt_of_le f30.lt sb42)
  have ne45 : ad ≠ b42 := Nat.ne_of_lt (Nat.lt_of_lt_of_le f34.lt sb42)
  have ne46 : b4 ≠ b42 := Nat.ne_of_lt (Nat.lt_of_lt_of_le f36.lt sb42)
  have g47 : n0 ≤ b42 := Nat.le_trans f24 sb42
  have sz48 : h0.size ≤ b42 := Nat.le_trans f35.1 sb42
  have f49 : n0 ≤ T42.heap.size := Nat.le_trans f24 K42.1
  have f50 : Old Z n0 T42.heap := f25.keep K42 (allS g_al all0)
  have f51 : Exa Z T42.heap a0 "com/example/zhangtiao/zhangtiao/input/VarLongs" := f26.keep K42
  have f52 : Fld Z T42.heap a0 "com/example/zhangtiao/zhangtiao/input/VarLongs" "chunks" "Ljava/util/List;" (.ref al) := f27.keep K42 (ninS ne_a0_al nin0)
  have f53 : Fld Z T42.heap a0 "com/example/zhangtiao/zhangtiao/input/VarLongs" "last" "[B" (.ref b4) := f28.keep K42 (ninS ne_a0_al nin0)
  have f54 : Fld Z T42.heap a0 "com/example/zhangtiao/zhangtiao/input/VarLongs" "position" "I" (.int (65536 : Int32)) := f29.keep K42 (ninS ne_a0_al nin0)
  have f55 : Exa Z T42.heap al "java/util/ArrayList" := f33.keep K42
  have f56 : Arv Z T42.heap ad kd (.object "java/lang/Object") (0 : Int32) [] .null := f34.keep K42 (ninS ne_al_ad.symm nin0)
  have f57 : Keep h0 T42.heap [a0, al] := f35.trans K42 (allS (Or.inl (List.mem_of_getElem? (i := 1) rfl)) all0)
  have f58 : Arv Z T42.heap b4 k4 .byte (65536 : Int32) [] (.int (0 : Int32)) := f36.keep K42 (ninS ne6.symm nin0)
  have f59 : Exa Z T42.heap b4 "[B" := f37.keep K42
  subst hv42
  have N42 := Fr.app N23 N42q
  have pre42 : Go p.tables e below (s₁.setTop (entryFrame m #[(.ref a0), (.long q1)] 5)) T42 (mkF m 53 #[.val (.ref a0), .val (.long q1), .second, .unset, .unset] [(.int (1 : Int32))]) := fun t k => pre41 t (st42.trans k)
  have pre60 : Go p.tables e below (s₁.setTop (entryFrame m #[(.ref a0), (.long q1)] 5)) T42 (mkF m 56 #[.val (.ref a0), .val (.long q1), .second, .unset, .unset] [(.int (0 : Int32)), (.ref a0)]) := fun t k => pre42 t (by
      refine XS.pop X42.here hx rfl (hb hby d8_53) rfl rfl ?_
      show Steps p.tables e below (T42.setTop (mkF m 54 #[.val (.ref a0), .val (.long q1), .second, .unset, .unset] [])) _
      refine XS.aloadN X42.here hx rfl (hb hby d8_54) rfl rfl ?_
      show Steps p.tables e below (T42.setTop (mkF m 55 #[.val (.ref a0), .val (.long q1), .second, .unset, .unset] [(.ref a0)])) _
      refine XS.iconst X42.here hx rfl (hb hby d8_55) ?_
      exact k)
  obtain ⟨T61, h61, X61, e61, W61, st61⟩ := putF X42 hx hZ hown (host := "") (Or.inl (hw _ (List.mem_of_getElem? (i := 37) rfl))) Via.refl rfl f54 f51 (Or.inl (hw _ (List.mem_of_getElem? (i := 38) rfl))) (hw _ (List.mem_of_getElem? (i := 2) rfl)) (ty := .int) (by decide) rfl rfl (g := (mkF m 56 #[.val (.ref a0), .val (.long q1), .second, .unset, .unset] [(.int (0 : Int32)), (.ref a0)])) rfl rfl (hb hby d8_56)
  have N61 := Fr.snoc X61 N42 g_a0
  have f62 : n0 ≤ h61.size := Nat.le_trans f49 (Keep.of_wr W61).1
  have f63 : Old Z n0 h61 := f50.wr W61 g_a0
  have f64 : Exa Z h61 a0 "com/example/zhangtiao/zhangtiao/input/VarLongs" := f51.wr W61
  have f65 : Fld Z h61 a0 "com/example/zhangtiao/zhangtiao/input/VarLongs" "chunks" "Ljava/util/List;" (.ref al) := f52.other W61 (Or.inr (slot_ne (Or.inr (hw _ (List.mem_of_getElem? (i := 35) rfl))) (Or.inl (hw _ (List.mem_of_getElem? (i := 38) rfl))) (by decide) (t := (.object "java/util/List")) (t' := .int) (by decide) (by decide)))
  have f66 : Fld Z h61 a0 "com/example/zhangtiao/zhangtiao/input/VarLongs" "last" "[B" (.ref b4) := f53.other W61 (Or.inr (slot_ne (Or.inl (hw _ (List.mem_of_getElem? (i := 63) rfl))) (Or.inl (hw _ (List.mem_of_getElem? (i := 38) rfl))) (by decide) (t := (.array .byte)) (t' := .int) (by decide) (by decide)))
  have f67 : Fld Z h61 a0 "com/example/zhangtiao/zhangtiao/input/VarLongs" "position" "I" (.int (0 : Int32)) := f54.same W61
  have f68 : Arv Z h61 ad kd (.object "java/lang/Object") (0 : Int32) [] .null := f56.other W61 ne_a0_ad.symm
  have f69 : Keep h0 h61 [a0, al] := f57.wr W61 (Or.inl (List.mem_of_getElem? (i := 0) rfl))
  have f70 : Arv Z h61 b4 k4 .byte (65536 : Int32) [] (.int (0 : Int32)) := f58.other W61 ne5.symm
  have f71 : Exa Z h61 b4 "[B" := f59.wr W61
  have f72 : Fld Z h61 al "java/util/AbstractList" "modCount" "I" (.int ((0 : Int32) + (1 : Int32))) := fo42_0.other W61 (Or.inl ne_a0_al.symm)
  have f73 : Fld Z h61 al "java/util/ArrayList" "elementData" "[Ljava/lang/Object;" (.ref b42) := fo42_1.other W61 (Or.inl ne_a0_al.symm)
  have f74 : Fld Z h61 al "java/util/ArrayList" "size" "I" (.int ((0 : Int32) + (1 : Int32))) := fo42_2.other W61 (Or.inl ne_a0_al.symm)
  have f75 : Exa Z h61 al "java/util/ArrayList" := fo42_3.wr W61
  have f76 : Arv Z h61 b42 kb42 (.object "java/lang/Object") (10 : Int32) [(.ref b4), .null, .null, .null, .null, .null, .null, .null, .null, .null] .null := fo42_4.other W61 ne43.symm
  have pre61 : Go p.tables e below (s₁.setTop (entryFrame m #[(.ref a0), (.long q1)] 5)) T61 (mkF m 59 #[.val (.ref a0), .val (.long q1), .second, .unset, .unset] []) := fun t k => pre60 t (st61 _ k)
  have pre77 : Go p.tables e below (s₁.setTop (entryFrame m #[(.ref a0), (.long q1)] 5)) T61 (mkF m 61 #[.val (.ref a0), .val (.long q1), .second, .val (.long q1), .second] []) := fun t k => pre61 t (by
      refine XS.lloadN X61.here hx rfl (hb hby d8_59) rfl ?_
      show Steps p.tables e below (T61.setTop (mkF m 60 #[.val (.ref a0), .val (.long q1), .second, .unset, .unset] [(.long q1)])) _
      refine XS.lstoreN X61.here hx rfl (hb hby d8_60) rfl (l' := #[.val (.ref a0), .val (.long q1), .second, .val (.long q1), .second]) rfl ?_
      exact k)
  obtain ⟨T78, L78, h78, r78, X78, e78, N78, K78, fE78, fL78, fP78, fC78, fV78, pre78⟩ := lp_add hx hZ hw hby hml hown a0 b4 q1 k4 (.ref al) h61 n0 g_a0 g8 ne5 8 T61 _ h61 q1 [] X61 e61 N61 (Keep.refl _ _) f64 f66 f67 f65 f70 hq (own_lt9 hq) (by decide) pre77
  have f79 : n0 ≤ h78.size := Nat.le_trans f62 K78.1
  have f80 : Old Z n0 h78 := f63.keep K78 (allS g_a0 (allS g8 all0))
  have f81 : Exa Z h78 a0 "com/example/zhangtiao/zhangtiao/input/VarLongs" := f64.keep K78
  have f82 : Arv Z h78 ad kd (.object "java/lang/Object") (0 : Int32) [] .null := f68.keep K78 (ninS ne_a0_ad.symm (ninS ne7 nin0))
  have f83 : Keep h0 h78 [a0, al] := f69.trans K78 (allS (Or.inl (List.mem_of_getElem? (i := 0) rfl)) (allS (Or.inr sz9) all0))
  have f84 : Exa Z h78 b4 "[B" := f71.keep K78
  have f85 : Fld Z h78 al "java/util/AbstractList" "modCount" "I" (.int ((0 : Int32) + (1 : Int32))) := f72.keep K78 (ninS ne_a0_al.symm (ninS ne6 nin0))
  have f86 : Fld Z h78 al "java/util/ArrayList" "elementData" "[Ljava/lang/Object;" (.ref b42) := f73.keep K78 (ninS ne_a0_al.symm (ninS ne6 nin0))
  have f87 : Fld Z h78 al "java/util/ArrayList" "size" "I" (.int ((0 : Int32) + (1 : Int32))) := f74.keep K78 (ninS ne_a0_al.symm (ninS ne6 nin0))
  have f88 : Exa Z h78 al "java/util/ArrayList" := f75.keep K78
  have f89 : Arv Z h78 b42 kb42 (.object "java/lang/Object") (10 : Int32) [(.ref b4), .null, .null, .null, .null, .null, .null, .null, .null, .null] .null := f76.keep K78 (ninS ne43.symm (ninS ne46.symm nin0))
  obtain ⟨fs, hr, hrun, hended, hW, hsame⟩ := X78.leave (v := none) (fun _ => rfl) (BodyLoose.notSynchronized Bd)
  refine ⟨_, _, pre78 _ ?_, hrun, hended, _, _, rfl, ?_, ⟨_, rfl⟩, hW, hsame.mono (Nat.le_of_ble_eq_true rfl) (Nat.le_of_ble_eq_true rfl)⟩
  · exact X78.returnOut hx Bd.returns (hb hby d8_119) hr
  · show Q_ad0 Z a0 q1 al ad kd h0 n0 _ T78.heap _
    rw [e78]
    exact ⟨b4, k4, b42, kb42, rfl, N78, f83, sz9, g8, sz48, gb42, fE78, fL78, fP78, fC78, fV78, f84, f88, f86, f87, f89, ne46⟩
theorem d14_0 : decode jdk_31_method_10_code 0 = .ok (.aload_n 0, 1) := by decide +kernel
theorem d14_1 : decode jdk_31_method_10_code 1 = .ok (.ifnonnull 11, 3) := by decide +kernel
theorem d14_4 : decode jdk_31_method_10_code 4 = .ok (.new 84, 3) := by decide +kernel
theorem d14_7 : decode jdk_31_method_10_code 7 = .ok (.dup, 1) := by decide +kernel
theorem d14_8 : decode jdk_31_method_10_code 8 = .ok (.invokespecial 86, 3) := by decide +kernel
theorem d14_11 : decode jdk_31_method_10_code 11 = .ok (.athrow, 1) := by decide +kernel
theorem d14_12 : decode jdk_31_method_10_code 12 = .ok (.aload_n 0, 1) := by decide +kernel
theorem d14_13 : decode jdk_31_method_10_code 13 = .ok (.areturn, 1) := by decide +kernel
theorem pn_rnn : plainName "java/util/Objects" = true := by first | (simp [plainName, overriddenIn]; done) | decide +kernel
theorem ef_rnn (m : MethodId) (a0 : Addr) : entryFrame m #[(.ref a0)] 1 = mkF m 0 #[.val (.ref a0)] [] := by first | (simp [entryFrame, mkF, argsToLocals, Value.category]; done) | rfl
def Q_rnn (Z : State) (a0 : Addr) (h0 : Heap) (n0 : Nat) (v : Option Value) (h : Heap) (L : List Loc) : Prop := v = some (.ref a0) ∧ Fr n0 L ∧ h = h0
set_option maxRecDepth 65536 in
set_option maxHeartbeats 40000000 in
theorem rm_rnn (l : Launch) (Z : State) (av0 : Array Value) (hw : ∀ d ∈ tables_1, d.before av0 Z = true) (ws : List Jvm.Cond) (a0 : Addr) (h0 : Heap) (n0 : Nat) :
    MetFree l (⟨"java/util/Objects", "requireNonNull", "(Ljava/lang/Object;)Ljava/lang/Object;"⟩ : MethodName) (head1 (Jvm.Cond.code (⟨"java/util/Objects", "requireNonNull", "(Ljava/lang/Object;)Ljava/lang/Object;"⟩ : MethodName) jdk_31_method_10_code 1 (some (.object "java/lang/Object")) :: ws) ({ frames := 0, cells := 0, slots := 0, locals := 0 } : Room)) (fun a U => a = #[(.ref a0)] ∧ Z.Warmed39 U.vm ∧ U.heap = h0) (fun _ _ _ _ _ => True) (fun _ U o U' => ∃ v L, o = .returned v ∧ Q_rnn Z a0 h0 n0 v U'.heap L ∧ FrameEnd U o U' L ({ frames := 0, cells := 0, slots := 0, locals := 0 } : Room).cells ({ frames := 0, cells := 0, slots := 0, locals := 0 } : Room).slots) := by
  refine MetFree.of_bodySF (plainFor_of_name pn_rnn) hisR ?_
  intro p e s m args below meth c s₁ Bd hml0 hP hK
  obtain ⟨rfl, hZ, hh⟩ := hP
  have hx := Bd.exec
  have hby := Bd.bytes
  have hml : c.maxLocals = 1 := hml0
  have hown : s.vm.findClass "java/util/Objects" = some m.cls := findClass_of_methodNamed Bd.named
  have hnm := (name_of_methodNamed Bd.named Bd.method).1
  have X0 : Stand p l e ({ frames := 0, cells := 0, slots := 0, locals := 0 } : Room) s m #[(.ref a0)] below meth c s₁ [] 0 0 := Stand.of_body Bd
  have e0 : s₁.heap = h0 := by rw [← hh, Bd.state]; rfl
  have N0 := Fr.nil n0
  have pre0 : Go p.tables e below (s₁.setTop (entryFrame m #[(.ref a0)] 1)) s₁ (mkF m 0 #[.val (.ref a0)] []) := fun t k => castTop (ef_rnn m a0) k
  have pre1 : Go p.tables e below (s₁.setTop (entryFrame m #[(.ref a0)] 1)) s₁ (mkF m 13 #[.val (.ref a0)] [(.ref a0)]) := fun t k => pre0 t (by
      refine XS.aloadN X0.here hx rfl (hb hby d14_0) rfl rfl ?_
      show Steps p.tables e below (s₁.setTop (mkF m 1 #[.val (.ref a0)] [(.ref a0)])) _
      refine XS.ifnonnullYes X0.here hx rfl (pc0 := 1) (pc' := 12) rfl (hb hby d14_1) rfl (by decide) (by decide) ?_
      show Steps p.tables e below (s₁.setTop (mkF m 12 #[.val (.ref a0)] [])) _
      refine XS.aloadN X0.here hx rfl (hb hby d14_12) rfl rfl ?_
      exact k)
  obtain ⟨fs, hr, hrun, hended, hW, hsame⟩ := X0.leave (v := some (.ref a0)) (fun h => by rw [Bd.returns] at h; cases h) (BodyLoose.notSynchronized Bd)
  refine ⟨_, _, pre1 _ ?_, hrun, hended, _, _, rfl, ?_, ⟨_, rfl⟩, hW, hsame.mono (Nat.le_of_ble_eq_true rfl) (Nat.le_of_ble_eq_true rfl)⟩
  · exact retOut X0 hx Bd.returns rfl (Or.inr (Or.inr (Or.inr (Or.inr ⟨rfl, rfl, rfl⟩)))) (hb hby d14_13) hr
  · show Q_rnn Z a0 h0 n0 _ s₁.heap _
    rw [e0]
    exact ⟨rfl, N0, rfl⟩
theorem d15_0 : decode prog_35_method_1_code 0 = .ok (.aload_n 0, 1) := by decide +kernel
theorem d15_1 : decode prog_35_method_1_code 1 = .ok (.aload_n 1, 1) := by decide +kernel
theorem d15_2 : decode prog_35_method_1_code 2 = .ok (.putfield 3, 3) := by decide +kernel
theorem d15_5 : decode prog_35_method_1_code 5 = .ok (.aload_n 0, 1) := by decide +kernel
theorem d15_6 : decode prog_35_method_1_code 6 = .ok (.invokespecial 9, 3) := by decide +kernel
theorem d15_9 : decode prog_35_method_1_code 9 = .ok (.return_, 1) := by decide +kernel
theorem pn_ini_cu : plainName "com/example/zhangtiao/zhangtiao/input/VarLongs$Cursor" = true := by first | (simp [plainName, overriddenIn]; done) | decide +kernel
theorem ef_ini_cu (m : MethodId) (a0 : Addr) (a1 : Addr) : entryFrame m #[(.ref a0), (.ref a1)] 2 = mkF m 0 #[.val (.ref a0), .val (.ref a1)] [] := by first | (simp [entryFrame, mkF, argsToLocals, Value.category]; done) | rfl
def Q_ini_cu (Z : State) (a0 : Addr) (a1 : Addr) (h0 : Heap) (n0 : Nat) (v : Option Value) (h : Heap) (L : List Loc) : Prop := v = none ∧ Fr n0 L ∧ Keep h0 h [a0] ∧ Fld Z h a0 "com/example/zhangtiao/zhangtiao/input/VarLongs$Cursor" "this$0" "Lcom/example/zhangtiao/zhangtiao/input/VarLongs;" (.ref a1) ∧ Fld Z h a0 "com/example/zhangtiao/zhangtiao/input/VarLongs$Cursor" "chunk" "I" (.int (0 : Int32)) ∧ Fld Z h a0 "com/example/zhangtiao/zhangtiao/input/VarLongs$Cursor" "at" "I" (.int (0 : Int32)) ∧ Exa Z h a0 "com/example/zhangtiao/zhangtiao/input/VarLongs$Cursor"
set_option maxRecDepth 65536 in
set_option maxHeartbeats 40000000 in
theorem rm_ini_cu (l : Launch) (Z : State) (av0 : Array Value) (hw : ∀ d ∈ tables_1, d.before av0 Z = true) (ws : List Jvm.Cond) (a0 : Addr) (a1 : Addr) (h0 : Heap) (n0 : Nat) (Z0 : n0 ≤ h0.size) (fi0 : Fld Z h0 a0 "com/example/zhangtiao/zhangtiao/input/VarLongs$Cursor" "this$0" "Lcom/example/zhangtiao/zhangtiao/input/VarLongs;" .null) (fi1 : Fld Z h0 a0 "com/example/zhangtiao/zhangtiao/input/VarLongs$Cursor" "chunk" "I" (.int (0 : Int32))) (fi2 : Fld Z h0 a0 "com/example/zhangtiao/zhangtiao/input/VarLongs$Cursor" "at" "I" (.int (0 : Int32))) (fi3 : Exa Z h0 a0 "com/example/zhangtiao/zhangtiao/input/VarLongs$Cursor") (g_a0 : n0 ≤ a0) :
    MetFree l (⟨"com/example/zhangtiao/zhangtiao/input/VarLongs$Cursor", "<init>", "(Lcom/example/zhangtiao/zhangtiao/input/VarLongs;)V"⟩ : MethodName) (head1 (Jvm.Cond.code (⟨"com/example/zhangtiao/zhangtiao/input/VarLongs$Cursor", "<init>", "(Lcom/example/zhangtiao/zhangtiao/input/VarLongs;)V"⟩ : MethodName) prog_35_method_1_code 2 none :: ws) ({ frames := 1, cells := 0, slots := 0, locals := 12 } : Room)) (fun a U => a = #[(.ref a0), (.ref a1)] ∧ Z.Warmed39 U.vm ∧ U.heap = h0) (fun _ _ _ _ _ => True) (fun _ U o U' => ∃ v L, o = .returned v ∧ Q_ini_cu Z a0 a1 h0 n0 v U'.heap L ∧ FrameEnd U o U' L ({ frames := 1, cells := 0, slots := 0, locals := 12 } : Room).cells ({ frames := 1, cells := 0, slots := 0, locals := 12 } : Room).slots) := by
  refine MetFree.of_bodySF (plainFor_of_name pn_ini_cu) hisR ?_
  intro p e s m args below meth c s₁ Bd hml0 hP hK
  obtain ⟨rfl, hZ, hh⟩ := hP
  have hx := Bd.exec
  have hby := Bd.bytes
  have hml : c.maxLocals = 2 := hml0
  have hown : s.vm.findClass "com/example/zhangtiao/zhangtiao/input/VarLongs$Cursor" = some m.cls := findClass_of_methodNamed Bd.named
  have hnm := (name_of_methodNamed Bd.named Bd.method).1
  have X0 : Stand p l e ({ frames := 1, cells := 0, slots := 0, locals := 12 } : Room) s m #[(.ref a0), (.ref a1)] below meth c s₁ [] 0 0 := Stand.of_body Bd
  have e0 : s₁.heap = h0 := by rw [← hh, Bd.state]; rfl
  have N0 := Fr.nil n0
  have pre0 : Go p.tables e below (s₁.setTop (entryFrame m #[(.ref a0), (.ref a1)] 2)) s₁ (mkF m 0 #[.val (.ref a0), .val (.ref a1)] []) := fun t k => castTop (ef_ini_cu m a0 a1) k
  have K0 : Keep h0 h0 [a0] := Keep.refl _ _
  have pre1 : Go p.tables e below (s₁.setTop (entryFrame m #[(.ref a0), (.ref a1)] 2)) s₁ (mkF m 2 #[.val (.ref a0), .val (.ref a1)] [(.ref a1), (.ref a0)]) := fun t k => pre0 t (by
      refine XS.aloadN X0.here hx rfl (hb hby d15_0) rfl rfl ?_
      show Steps p.tables e below (s₁.setTop (mkF m 1 #[.val (.ref a0), .val (.ref a1)] [(.ref a0)])) _
      refine XS.aloadN X0.here hx rfl (hb hby d15_1) rfl rfl ?_
      exact k)
  obtain ⟨T2, h2, X2, e2, W2, st2⟩ := putF X0 hx hZ hown (host := "") (Or.inl (hw _ (List.mem_of_getElem? (i := 107) rfl))) Via.refl e0 fi0 fi3 (Or.inr ⟨(hw _ (List.mem_of_getElem? (i := 108) rfl)), rfl, hnm⟩) (hw _ (List.mem_of_getElem? (i := 98) rfl)) (ty := (.object "com/example/zhangtiao/zhangtiao/input/VarLongs")) (by decide) rfl rfl (g := (mkF m 2 #[.val (.ref a0), .val (.ref a1)] [(.ref a1), (.ref a0)])) rfl rfl (hb hby d15_2)
  have N2 := Fr.snoc X2 N0 g_a0
  have f3 : n0 ≤ h2.size := Nat.le_trans Z0 (Keep.of_wr W2).1
  have f4 : Fld Z h2 a0 "com/example/zhangtiao/zhangtiao/input/VarLongs$Cursor" "this$0" "Lcom/example/zhangtiao/zhangtiao/input/VarLongs;" (.ref a1) := fi0.same W2
  have f5 : Fld Z h2 a0 "com/example/zhangtiao/zhangtiao/input/VarLongs$Cursor" "chunk" "I" (.int (0 : Int32)) := fi1.other W2 (Or.inr (slot_ne (Or.inl (hw _ (List.mem_of_getElem? (i := 122) rfl))) (Or.inr (hw _ (List.mem_of_getElem? (i := 108) rfl))) (by decide) (t := .int) (t' := (.object "com/example/zhangtiao/zhangtiao/input/VarLongs")) (by decide) (by decide)))
  have f6 : Fld Z h2 a0 "com/example/zhangtiao/zhangtiao/input/VarLongs$Cursor" "at" "I" (.int (0 : Int32)) := fi2.other W2 (Or.inr (slot_ne (Or.inl (hw _ (List.mem_of_getElem? (i := 124) rfl))) (Or.inr (hw _ (List.mem_of_getElem? (i := 108) rfl))) (by decide) (t := .int) (t' := (.object "com/example/zhangtiao/zhangtiao/input/VarLongs")) (by decide) (by decide)))
  have f7 : Exa Z h2 a0 "com/example/zhangtiao/zhangtiao/input/VarLongs$Cursor" := fi3.wr W2
  have f8 : Keep h0 h2 [a0] := K0.wr W2 (Or.inl (List.mem_of_getElem? (i := 0) rfl))
  have pre2 : Go p.tables e below (s₁.setTop (entryFrame m #[(.ref a0), (.ref a1)] 2)) T2 (mkF m 5 #[.val (.ref a0), .val (.ref a1)] []) := fun t k => pre1 t (st2 _ k)
  have pre9 : Go p.tables e below (s₁.setTop (entryFrame m #[(.ref a0), (.ref a1)] 2)) T2 (mkF m 6 #[.val (.ref a0), .val (.ref a1)] [(.ref a0)]) := fun t k => pre2 t (by
      refine XS.aloadN X2.here hx rfl (hb hby d15_5) rfl rfl ?_
      exact k)
  obtain ⟨T10, X10, e10, st10⟩ := initO X2 hx hZ hown (hw _ (List.mem_of_getElem? (i := 109) rfl)) (hw _ (List.mem_of_getElem? (i := 8) rfl)) (hw _ (List.mem_of_getElem? (i := 9) rfl)) e2 (g := (mkF m 6 #[.val (.ref a0), .val (.ref a1)] [(.ref a0)])) rfl (by rw [hml]; rfl) rfl (hb hby d15_6) (by decide) (W := 0) (by show 2 * 0 + _ ≤ _; exact Nat.le_of_eq rfl) (by decide)
  have pre10 : Go p.tables e below (s₁.setTop (entryFrame m #[(.ref a0), (.ref a1)] 2)) T10 (mkF m 9 #[.val (.ref a0), .val (.ref a1)] []) := fun t k => pre9 t (st10 _ k)
  obtain ⟨fs, hr, hrun, hended, hW, hsame⟩ := X10.leave (v := none) (fun _ => rfl) (BodyLoose.notSynchronized Bd)
  refine ⟨_, _, pre10 _ ?_, hrun, hended, _, _, rfl, ?_, ⟨_, rfl⟩, hW, hsame.mono (Nat.le_of_ble_eq_true rfl) (Nat.le_of_ble_eq_true rfl)⟩
  · exact X10.returnOut hx Bd.returns (hb hby d15_9) hr
  · show Q_ini_cu Z a0 a1 h0 n0 _ T10.heap _
    rw [e10]
    exact ⟨rfl, N2, f8, f4, f5, f6, f7⟩
theorem d16_0 : decode method_2_code 0 = .ok (.iload_n 0, 1) := by decide +kernel
theorem d16_1 : decode method_2_code 1 = .ok (.ifCond .ne 5, 3) := by decide +kernel
theorem d16_4 : decode method_2_code 4 = .ok (.lload_n 1, 1) := by decide +kernel
theorem d16_5 : decode method_2_code 5 = .ok (.lreturn, 1) := by decide +kernel
theorem d16_6 : decode method_2_code 6 = .ok (.iload_n 0, 1) := by decide +kernel
theorem d16_7 : decode method_2_code 7 = .ok (.iconst 1, 1) := by decide +kernel
theorem d16_8 : decode method_2_code 8 = .ok (.if_icmp .ne 5, 3) := by decide +kernel
theorem d16_11 : decode method_2_code 11 = .ok (.lload_n 3, 1) := by decide +kernel
theorem d16_12 : decode method_2_code 12 = .ok (.lreturn, 1) := by decide +kernel
theorem d16_13 : decode method_2_code 13 = .ok (.lload 5, 2) := by decide +kernel
theorem d16_15 : decode method_2_code 15 = .ok (.lreturn, 1) := by decide +kernel
theorem pn_pk : plainName "com/example/zhangtiao/zhangtiao/input/VarLongsMoveToPinLaw" = true := by first | (simp [plainName, overriddenIn]; done) | decide +kernel
theorem ef_pk (m : MethodId) (p0 : Int32) (q1 : Int64) (q2 : Int64) (q3 : Int64) : entryFrame m #[(.int p0), (.long q1), (.long q2), (.long q3)] 7 = mkF m 0 #[.val (.int p0), .val (.long q1), .second, .val (.long q2), .second, .val (.long q3), .second] [] := by first | (simp [entryFrame, mkF, argsToLocals, Value.category]; done) | rfl
def Q_pk (Z : State) (p0 : Int32) (q1 : Int64) (q2 : Int64) (q3 : Int64) (h0 : Heap) (n0 : Nat) (v : Option Value) (h : Heap) (L : List Loc) : Prop := v = some (.long (own_pk p0 q1 q2 q3)) ∧ Fr n0 L ∧ h = h0
set_option maxRecDepth 65536 in
set_option maxHeartbeats 40000000 in
theorem rm_pk (l : Launch) (Z : State) (av0 : Array Value) (hw : ∀ d ∈ tables_1, d.before av0 Z = true) (ws : List Jvm.Cond) (p0 : Int32) (q1 : Int64) (q2 : Int64) (q3 : Int64) (h0 : Heap) (n0 : Nat) :
    MetFree l (⟨"com/example/zhangtiao/zhangtiao/input/VarLongsMoveToPinLaw", "pick", "(IJJJ)J"⟩ : MethodName) (head1 (Jvm.Cond.code (⟨"com/example/zhangtiao/zhangtiao/input/VarLongsMoveToPinLaw", "pick", "(IJJJ)J"⟩ : MethodName) method_2_code 7 (some .long) :: ws) ({ frames := 0, cells := 0, slots := 0, locals := 0 } : Room)) (fun a U => a = #[(.int p0), (.long q1), (.long q2), (.long q3)] ∧ Z.Warmed39 U.vm ∧ U.heap = h0) (fun _ _ _ _ _ => True) (fun _ U o U' => ∃ v L, o = .returned v ∧ Q_pk Z p0 q1 q2 q3 h0 n0 v U'.heap L ∧ FrameEnd U o U' L ({ frames := 0, cells := 0, slots := 0, locals := 0 } : Room).cells ({ frames := 0, cells := 0, slots := 0, locals := 0 } : Room).slots) := by
  refine MetFree.of_bodySF (plainFor_of_name pn_pk) hisR ?_
  intro p e s m args below meth c s₁ Bd hml0 hP hK
  obtain ⟨rfl, hZ, hh⟩ := hP
  have hx := Bd.exec
  have hby := Bd.bytes
  have hml : c.maxLocals = 7 := hml0
  have hown : s.vm.findClass "com/example/zhangtiao/zhangtiao/input/VarLongsMoveToPinLaw" = some m.cls := findClass_of_methodNamed Bd.named
  have hnm := (name_of_methodNamed Bd.named Bd.method).1
  have X0 : Stand p l e ({ frames := 0, cells := 0, slots := 0, locals := 0 } : Room) s m #[(.int p0), (.long q1), (.long q2), (.long q3)] below meth c s₁ [] 0 0 := Stand.of_body Bd
  have e0 : s₁.heap = h0 := by rw [← hh, Bd.state]; rfl
  have N0 := Fr.nil n0
  have pre0 : Go p.tables e below (s₁.setTop (entryFrame m #[(.int p0), (.long q1), (.long q2), (.long q3)] 7)) s₁ (mkF m 0 #[.val (.int p0), .val (.long q1), .second, .val (.long q2), .second, .val (.long q3), .second] []) := fun t k => castTop (ef_pk m p0 q1 q2 q3) k
  have pre1 : Go p.tables e below (s₁.setTop (entryFrame m #[(.int p0), (.long q1), (.long q2), (.long q3)] 7)) s₁ (mkF m 1 #[.val (.int p0), .val (.long q1), .second, .val (.long q2), .second, .val (.long q3), .second] [(.int p0)]) := fun t k => pre0 t (by
      refine XS.iloadN X0.here hx rfl (hb hby d16_0) rfl ?_
      exact k)
  by_cases hc2 : p0 = (0 : Int32)
  · -- hc2: True
    have pre3 : Go p.tables e below (s₁.setTop (entryFrame m #[(.int p0), (.long q1), (.long q2), (.long q3)] 7)) s₁ (mkF m 5 #[.val (.int p0), .val (.long q1), .second, .val (.long q2), .second, .val (.long q3), .second] [(.long q1)]) := fun t k => pre1 t (by
        refine XS.ifNo X0.here hx rfl (hb hby d16_1) rfl ((if0 _ _).trans (teq hc2).2) ?_
        show Steps p.tables e below (s₁.setTop (mkF m 4 #[.val (.int p0), .val (.long q1), .second, .val (.long q2), .second, .val (.long q3), .second] [])) _
        refine XS.lloadN X0.here hx rfl (hb hby d16_4) rfl ?_
        exact k)
    obtain ⟨fs, hr, hrun, hended, hW, hsame⟩ := X0.leave (v := some (.long q1)) (fun h => by rw [Bd.returns] at h; cases h) (BodyLoose.notSynchronized Bd)
    refine ⟨_, _, pre3 _ ?_, hrun, hended, _, _, rfl, ?_, ⟨_, rfl⟩, hW, hsame.mono (Nat.le_of_ble_eq_true rfl) (Nat.le_of_ble_eq_true rfl)⟩
    · exact retOut X0 hx Bd.returns rfl (Or.inr (Or.inl ⟨rfl, rfl, _, rfl⟩)) (hb hby d16_5) hr
    · show Q_pk Z p0 q1 q2 q3 h0 n0 _ s₁.heap _
      rw [e0]
      exact ⟨by simp [own_pk, hc2], N0, rfl⟩
  · -- hc2: False
    have pre4 : Go p.tables e below (s₁.setTop (entryFrame m #[(.int p0), (.long q1), (.long q2), (.long q3)] 7)) s₁ (mkF m 8 #[.val (.int p0), .val (.long q1), .second, .val (.long q2), .second, .val (.long q3), .second] [(.int (1 : Int32)), (.int p0)]) := fun t k => pre1 t (by
        refine XS.ifYes X0.here hx rfl (pc0 := 1) (pc' := 6) rfl (hb hby d16_1) rfl ((if0 _ _).trans (feq hc2).2) (by decide) (by decide) ?_
        show Steps p.tables e below (s₁.setTop (mkF m 6 #[.val (.int p0), .val (.long q1), .second, .val (.long q2), .second, .val (.long q3), .second] [])) _
        refine XS.iloadN X0.here hx rfl (hb hby d16_6) rfl ?_
        show Steps p.tables e below (s₁.setTop (mkF m 7 #[.val (.int p0), .val (.long q1), .second, .val (.long q2), .second, .val (.long q3), .second] [(.int p0)])) _
        refine XS.iconst X0.here hx rfl (hb hby d16_7) ?_
        exact k)
    by_cases hc5 : p0 = (1 : Int32)
    · -- hc5: True
      have pre6 : Go p.tables e below (s₁.setTop (entryFrame m #[(.int p0), (.long q1), (.long q2), (.long q3)] 7)) s₁ (mkF m 12 #[.val (.int p0), .val (.long q1), .second, .val (.long q2), .second, .val (.long q3), .second] [(.long q2)]) := fun t k => pre4 t (by
          refine XS.icmpNo X0.here hx rfl (hb hby d16_8) rfl (teq hc5).2 ?_
          show Steps p.tables e below (s₁.setTop (mkF m 11 #[.val (.int p0), .val (.long q1), .second, .val (.long q2), .second, .val (.long q3), .second] [])) _
          refine XS.lloadN X0.here hx rfl (hb hby d16_11) rfl ?_
          exact k)
      obtain ⟨fs, hr, hrun, hended, hW, hsame⟩ := X0.leave (v := some (.long q2)) (fun h => by rw [Bd.returns] at h; cases h) (BodyLoose.notSynchronized Bd)
      refine ⟨_, _, pre6 _ ?_, hrun, hended, _, _, rfl, ?_, ⟨_, rfl⟩, hW, hsame.mono (Nat.le_of_ble_eq_true rfl) (Nat.le_of_ble_eq_true rfl)⟩
      · exact retOut X0 hx Bd.returns rfl (Or.inr (Or.inl ⟨rfl, rfl, _, rfl⟩)) (hb hby d16_12) hr
      · show Q_pk Z p0 q1 q2 q3 h0 n0 _ s₁.heap _
        rw [e0]
        exact ⟨by simp [own_pk, hc2, hc5], N0, rfl⟩
    · -- hc5: False
      have pre7 : Go p.tables e below (s₁.setTop (entryFrame m #[(.int p0), (.long q1), (.long q2), (.long q3)] 7)) s₁ (mkF m 15 #[.val (.int p0), .val (.long q1), .second, .val (.long q2), .second, .val (.long q3), .second] [(.long q3)]) := fun t k => pre4 t (by
          refine XS.icmpYes X0.here hx rfl (pc0 := 8) (pc' := 13) rfl (hb hby d16_8) rfl (feq hc5).2 (by decide) (by decide) ?_
          show Steps p.tables e below (s₁.setTop (mkF m 13 #[.val (.int p0), .val (.long q1), .second, .val (.long q2), .second, .val (.long q3), .second] [])) _
          refine XS.lload X0.here hx rfl (hb hby d16_13) rfl ?_
          exact k)
      obtain ⟨fs, hr, hrun, hended, hW, hsame⟩ := X0.leave (v := some (.long q3)) (fun h => by rw [Bd.returns] at h; cases h) (BodyLoose.notSynchronized Bd)
      refine ⟨_, _, pre7 _ ?_, hrun, hended, _, _, rfl, ?_, ⟨_, rfl⟩, hW, hsame.mono (Nat.le_of_ble_eq_true rfl) (Nat.le_of_ble_eq_true rfl)⟩
      · exact retOut X0 hx Bd.returns rfl (Or.inr (Or.inl ⟨rfl, rfl, _, rfl⟩)) (hb hby d16_15) hr
      · show Q_pk Z p0 q1 q2 q3 h0 n0 _ s₁.heap _
        rw [e0]
        exact ⟨by simp [own_pk, hc2, hc5], N0, rfl⟩
theorem d17_0 : decode prog_35_method_2_code 0 = .ok (.aload_n 0, 1) := by decide +kernel
theorem d17_1 : decode prog_35_method_2_code 1 = .ok (.lload_n 1, 1) := by decide +kernel
theorem d17_2 : decode prog_35_method_2_code 2 = .ok (.ldc2_w 15, 3) := by decide +kernel
theorem d17_5 : decode prog_35_method_2_code 5 = .ok (.ldiv, 1) := by decide +kernel
theorem d17_6 : decode prog_35_method_2_code 6 = .ok (.l2i, 1) := by decide +kernel
theorem d17_7 : decode prog_35_method_2_code 7 = .ok (.putfield 17, 3) := by decide +kernel
theorem d17_10 : decode prog_35_method_2_code 10 = .ok (.aload_n 0, 1) := by decide +kernel
theorem d17_11 : decode prog_35_method_2_code 11 = .ok (.lload_n 1, 1) := by decide +kernel
theorem d17_12 : decode prog_35_method_2_code 12 = .ok (.ldc2_w 15, 3) := by decide +kernel
theorem d17_15 : decode prog_35_method_2_code 15 = .ok (.lrem, 1) := by decide +kernel
theorem d17_16 : decode prog_35_method_2_code 16 = .ok (.l2i, 1) := by decide +kernel
theorem d17_17 : decode prog_35_method_2_code 17 = .ok (.putfield 21, 3) := by decide +kernel
theorem d17_20 : decode prog_35_method_2_code 20 = .ok (.return_, 1) := by decide +kernel
theorem pn_mvt : plainName "com/example/zhangtiao/zhangtiao/input/VarLongs$Cursor" = true := by first | (simp [plainName, overriddenIn]; done) | decide +kernel
theorem ef_mvt (m : MethodId) (a0 : Addr) (q1 : Int64) : entryFrame m #[(.ref a0), (.long q1)] 3 = mkF m 0 #[.val (.ref a0), .val (.long q1), .second] [] := by first | (simp [entryFrame, mkF, argsToLocals, Value.category]; done) | rfl
def Q_mvt (Z : State) (a0 : Addr) (q1 : Int64) (tv : Value) (c0 : Int32) (t0 : Int32) (pr : List Value) (h0 : Heap) (n0 : Nat) (v : Option Value) (h : Heap) (L : List Loc) : Prop := v = none ∧ Fr n0 L ∧ Keep h0 h [a0] ∧ Fld Z h a0 "com/example/zhangtiao/zhangtiao/input/VarLongs$Cursor" "this$0" "Lcom/example/zhangtiao/zhangtiao/input/VarLongs;" tv ∧ Fld Z h a0 "com/example/zhangtiao/zhangtiao/input/VarLongs$Cursor" "chunk" "I" (.int (0 : Int32)) ∧ Fld Z h a0 "com/example/zhangtiao/zhangtiao/input/VarLongs$Cursor" "at" "I" (.int (own_n pr)) ∧ Exa Z h a0 "com/example/zhangtiao/zhangtiao/input/VarLongs$Cursor"
set_option maxRecDepth 65536 in
set_option maxHeartbeats 40000000 in
theorem rm_mvt (l : Launch) (Z : State) (av0 : Array Value) (hw : ∀ d ∈ tables_1, d.before av0 Z = true) (ws : List Jvm.Cond) (a0 : Addr) (q1 : Int64) (tv : Value) (c0 : Int32) (t0 : Int32) (pr : List Value) (h0 : Heap) (n0 : Nat) (Z0 : n0 ≤ h0.size) (fi0 : Fld Z h0 a0 "com/example/zhangtiao/zhangtiao/input/VarLongs$Cursor" "this$0" "Lcom/example/zhangtiao/zhangtiao/input/VarLongs;" tv) (fi1 : Fld Z h0 a0 "com/example/zhangtiao/zhangtiao/input/VarLongs$Cursor" "chunk" "I" (.int c0)) (fi2 : Fld Z h0 a0 "com/example/zhangtiao/zhangtiao/input/VarLongs$Cursor" "at" "I" (.int t0)) (fi3 : Exa Z h0 a0 "com/example/zhangtiao/zhangtiao/input/VarLongs$Cursor") (g_a0 : n0 ≤ a0) (hq : q1 = (own_n pr).toInt64) (hpl : pr.length < 65536) :
    MetFree l (⟨"com/example/zhangtiao/zhangtiao/input/VarLongs$Cursor", "moveTo", "(J)V"⟩ : MethodName) (head1 (Jvm.Cond.code (⟨"com/example/zhangtiao/zhangtiao/input/VarLongs$Cursor", "moveTo", "(J)V"⟩ : MethodName) prog_35_method_2_code 3 none :: ws) ({ frames := 0, cells := 0, slots := 0, locals := 0 } : Room)) (fun a U => a = #[(.ref a0), (.long q1)] ∧ Z.Warmed39 U.vm ∧ U.heap = h0) (fun _ _ _ _ _ => True) (fun _ U o U' => ∃ v L, o = .returned v ∧ Q_mvt Z a0 q1 tv c0 t0 pr h0 n0 v U'.heap L ∧ FrameEnd U o U' L ({ frames := 0, cells := 0, slots := 0, locals := 0 } : Room).cells ({ frames := 0, cells := 0, slots := 0, locals := 0 } : Room).slots) := by
  refine MetFree.of_bodySF (plainFor_of_name pn_mvt) hisR ?_
  intro p e s m args below meth c s₁ Bd hml0 hP hK
  obtain ⟨rfl, hZ, hh⟩ := hP
  have hx := Bd.exec
  have hby := Bd.bytes
  have hml : c.maxLocals = 3 := hml0
  have hown : s.vm.findClass "com/example/zhangtiao/zhangtiao/input/VarLongs$Cursor" = some m.cls := findClass_of_methodNamed Bd.named
  have hnm := (name_of_methodNamed Bd.named Bd.method).1
  have X0 : Stand p l e ({ frames := 0, cells := 0, slots := 0, locals := 0 } : Room) s m #[(.ref a0), (.long q1)] below meth c s₁ [] 0 0 := Stand.of_body Bd
  have e0 : s₁.heap = h0 := by rw [← hh, Bd.state]; rfl
  have N0 := Fr.nil n0
  have pre0 : Go p.tables e below (s₁.setTop (entryFrame m #[(.ref a0), (.long q1)] 3)) s₁ (mkF m 0 #[.val (.ref a0), .val (.long q1), .second] []) := fun t k => castTop (ef_mvt m a0 q1) k
  have K0 : Keep h0 h0 [a0] := Keep.refl _ _
  have pre1 : Go p.tables e below (s₁.setTop (entryFrame m #[(.ref a0), (.long q1)] 3)) s₁ (mkF m 7 #[.val (.ref a0), .val (.long q1), .second] [(.int ((q1 / (65536 : Int64)).toInt32)), (.ref a0)]) := fun t k => pre0 t (by
      refine XS.aloadN X0.here hx rfl (hb hby d17_0) rfl rfl ?_
      show Steps p.tables e below (s₁.setTop (mkF m 1 #[.val (.ref a0), .val (.long q1), .second] [(.ref a0)])) _
      refine XS.lloadN X0.here hx rfl (hb hby d17_1) rfl ?_
      show Steps p.tables e below (s₁.setTop (mkF m 2 #[.val (.ref a0), .val (.long q1), .second] [(.long q1), (.ref a0)])) _
      refine X0.ldc2Long hx hown (mvT hZ (hw _ (List.mem_of_getElem? (i := 120) rfl))) (g := (mkF m 2 #[.val (.ref a0), .val (.long q1), .second] [(.long q1), (.ref a0)])) rfl (hb hby d17_2) _ ?_
      show Steps p.tables e below (s₁.setTop (mkF m 5 #[.val (.ref a0), .val (.long q1), .second] [(.long (65536 : Int64)), (.long q1), (.ref a0)])) _
      refine XS.ldiv X0.here hx rfl (hb hby d17_5) rfl (by decide) ?_
      show Steps p.tables e below (s₁.setTop (mkF m 6 #[.val (.ref a0), .val (.long q1), .second] [(.long (q1 / (65536 : Int64))), (.ref a0)])) _
      refine XS.l2i X0.here hx rfl (hb hby d17_6) rfl ?_
      exact k)
  obtain ⟨T2, h2, X2, e2, W2, st2⟩ := putF X0 hx hZ hown (host := "") (Or.inl (hw _ (List.mem_of_getElem? (i := 121) rfl))) Via.refl e0 fi1 fi3 (Or.inl (hw _ (List.mem_of_getElem? (i := 122) rfl))) (hw _ (List.mem_of_getElem? (i := 98) rfl)) (ty := .int) (by decide) rfl rfl (g := (mkF m 7 #[.val (.ref a0), .val (.long q1), .second] [(.int ((q1 / (65536 : Int64)).toInt32)), (.ref a0)])) rfl rfl (hb hby d17_7)
  have N2 := Fr.snoc X2 N0 g_a0
  have f3 : n0 ≤ h2.size := Nat.le_trans Z0 (Keep.of_wr W2).1
  have f4 : Fld Z h2 a0 "com/example/zhangtiao/zhangtiao/input/VarLongs$Cursor" "this$0" "Lcom/example/zhangtiao/zhangtiao/input/VarLongs;" tv := fi0.other W2 (Or.inr (slot_ne (Or.inr (hw _ (List.mem_of_getElem? (i := 108) rfl))) (Or.inl (hw _ (List.mem_of_getElem? (i := 122) rfl))) (by decide) (t := (.object "com/example/zhangtiao/zhangtiao/input/VarLongs")) (t' := .int) (by decide) (by decide)))
  have f5 : Fld Z h2 a0 "com/example/zhangtiao/zhangtiao/input/VarLongs$Cursor" "chunk" "I" (.int ((q1 / (65536 : Int64)).toInt32)) := fi1.same W2
  have f6 : Fld Z h2 a0 "com/example/zhangtiao/zhangtiao/input/VarLongs$Cursor" "at" "I" (.int t0) := fi2.other W2 (Or.inr (slot_ne (Or.inl (hw _ (List.mem_of_getElem? (i := 124) rfl))) (Or.inl (hw _ (List.mem_of_getElem? (i := 122) rfl))) (by decide) (t := .int) (t' := .int) (by decide) (by decide)))
  have f7 : Exa Z h2 a0 "com/example/zhangtiao/zhangtiao/input/VarLongs$Cursor" := fi3.wr W2
  have f8 : Keep h0 h2 [a0] := K0.wr W2 (Or.inl (List.mem_of_getElem? (i := 0) rfl))
  have pre2 : Go p.tables e below (s₁.setTop (entryFrame m #[(.ref a0), (.long q1)] 3)) T2 (mkF m 10 #[.val (.ref a0), .val (.long q1), .second] []) := fun t k => pre1 t (st2 _ k)
  have pre9 : Go p.tables e below (s₁.setTop (entryFrame m #[(.ref a0), (.long q1)] 3)) T2 (mkF m 17 #[.val (.ref a0), .val (.long q1), .second] [(.int ((q1 - q1 / (65536 : Int64) * (65536 : Int64)).toInt32)), (.ref a0)]) := fun t k => pre2 t (by
      refine XS.aloadN X2.here hx rfl (hb hby d17_10) rfl rfl ?_
      show Steps p.tables e below (T2.setTop (mkF m 11 #[.val (.ref a0), .val (.long q1), .second] [(.ref a0)])) _
      refine XS.lloadN X2.here hx rfl (hb hby d17_11) rfl ?_
      show Steps p.tables e below (T2.setTop (mkF m 12 #[.val (.ref a0), .val (.long q1), .second] [(.long q1), (.ref a0)])) _
      refine X2.ldc2Long hx hown (mvT hZ (hw _ (List.mem_of_getElem? (i := 120) rfl))) (g := (mkF m 12 #[.val (.ref a0), .val (.long q1), .second] [(.long q1), (.ref a0)])) rfl (hb hby d17_12) _ ?_
      show Steps p.tables e below (T2.setTop (mkF m 15 #[.val (.ref a0), .val (.long q1), .second] [(.long (65536 : Int64)), (.long q1), (.ref a0)])) _
      refine XS.lrem X2.here hx rfl (hb hby d17_15) rfl (by decide) ?_
      show Steps p.tables e below (T2.setTop (mkF m 16 #[.val (.ref a0), .val (.long q1), .second] [(.long (q1 - q1 / (65536 : Int64) * (65536 : Int64))), (.ref a0)])) _
      refine XS.l2i X2.here hx rfl (hb hby d17_16) rfl ?_
      exact k)
  obtain ⟨T10, h10, X10, e10, W10, st10⟩ := putF X2 hx hZ hown (host := "") (Or.inl (hw _ (List.mem_of_getElem? (i := 123) rfl))) Via.refl e2 f6 f7 (Or.inl (hw _ (List.mem_of_getElem? (i := 124) rfl))) (hw _ (List.mem_of_getElem? (i := 98) rfl)) (ty := .int) (by decide) rfl rfl (g := (mkF m 17 #[.val (.ref a0), .val (.long q1), .second] [(.int ((q1 - q1 / (65536 : Int64) * (65536 : Int64)).toInt32)), (.ref a0)])) rfl rfl (hb hby d17_17)
  have N10 := Fr.snoc X10 N2 g_a0
  have f11 : n0 ≤ h10.size := Nat.le_trans f3 (Keep.of_wr W10).1
  have f12 : Fld Z h10 a0 "com/example/zhangtiao/zhangtiao/input/VarLongs$Cursor" "this$0" "Lcom/example/zhangtiao/zhangtiao/input/VarLongs;" tv := f4.other W10 (Or.inr (slot_ne (Or.inr (hw _ (List.mem_of_getElem? (i := 108) rfl))) (Or.inl (hw _ (List.mem_of_getElem? (i := 124) rfl))) (by decide) (t := (.object "com/example/zhangtiao/zhangtiao/input/VarLongs")) (t' := .int) (by decide) (by decide)))
  have f13 : Fld Z h10 a0 "com/example/zhangtiao/zhangtiao/input/VarLongs$Cursor" "chunk" "I" (.int ((q1 / (65536 : Int64)).toInt32)) := f5.other W10 (Or.inr (slot_ne (Or.inl (hw _ (List.mem_of_getElem? (i := 122) rfl))) (Or.inl (hw _ (List.mem_of_getElem? (i := 124) rfl))) (by decide) (t := .int) (t' := .int) (by decide) (by decide)))
  have f14 : Fld Z h10 a0 "com/example/zhangtiao/zhangtiao/input/VarLongs$Cursor" "at" "I" (.int ((q1 - q1 / (65536 : Int64) * (65536 : Int64)).toInt32)) := f6.same W10
  have f15 : Exa Z h10 a0 "com/example/zhangtiao/zhangtiao/input/VarLongs$Cursor" := f7.wr W10
  have f16 : Keep h0 h10 [a0] := f8.wr W10 (Or.inl (List.mem_of_getElem? (i := 0) rfl))
  have pre10 : Go p.tables e below (s₁.setTop (entryFrame m #[(.ref a0), (.long q1)] 3)) T10 (mkF m 20 #[.val (.ref a0), .val (.long q1), .second] []) := fun t k => pre9 t (st10 _ k)
  obtain ⟨fs, hr, hrun, hended, hW, hsame⟩ := X10.leave (v := none) (fun _ => rfl) (BodyLoose.notSynchronized Bd)
  refine ⟨_, _, pre10 _ ?_, hrun, hended, _, _, rfl, ?_, ⟨_, rfl⟩, hW, hsame.mono (Nat.le_of_ble_eq_true rfl) (Nat.le_of_ble_eq_true rfl)⟩
  · exact X10.returnOut hx Bd.returns (hb hby d17_20) hr
  · show Q_mvt Z a0 q1 tv c0 t0 pr h0 n0 _ T10.heap _
    rw [e10]
    subst hq
    have hd := own_div pr hpl
    have fa1 := f13
    have fa2 := f14
    rw [hd.1] at fa1
    rw [hd.2] at fa2
    exact ⟨rfl, N10, f16, f12, fa1, fa2, f15⟩
theorem d21_0 : decode jdk_41_method_11_code 0 = .ok (.iload_n 0, 1) := by decide +kernel
theorem d21_1 : decode jdk_41_method_11_code 1 = .ok (.ifCond .lt 8, 3) := by decide +kernel
theorem d21_4 : decode jdk_41_method_11_code 4 = .ok (.iload_n 0, 1) := by decide +kernel
theorem d21_5 : decode jdk_41_method_11_code 5 = .ok (.iload_n 1, 1) := by decide +kernel
theorem d21_6 : decode jdk_41_method_11_code 6 = .ok (.if_icmp .lt 10, 3) := by decide +kernel
theorem d21_9 : decode jdk_41_method_11_code 9 = .ok (.aload_n 2, 1) := by decide +kernel
theorem d21_10 : decode jdk_41_method_11_code 10 = .ok (.iload_n 0, 1) := by decide +kernel
theorem d21_11 : decode jdk_41_method_11_code 11 = .ok (.iload_n 1, 1) := by decide +kernel
theorem d21_12 : decode jdk_41_method_11_code 12 = .ok (.invokestatic 95, 3) := by decide +kernel
theorem d21_15 : decode jdk_41_method_11_code 15 = .ok (.athrow, 1) := by decide +kernel
theorem d21_16 : decode jdk_41_method_11_code 16 = .ok (.iload_n 0, 1) := by decide +kernel
theorem d21_17 : decode jdk_41_method_11_code 17 = .ok (.ireturn, 1) := by decide +kernel
theorem pn_cki : plainName "jdk/internal/util/Preconditions" = true := by first | (simp [plainName, overriddenIn]; done) | decide +kernel
theorem ef_cki (m : MethodId)  : entryFrame m #[(.int (0 : Int32)), (.int ((0 : Int32) + (1 : Int32))), .null] 3 = mkF m 0 #[.val (.int (0 : Int32)), .val (.int ((0 : Int32) + (1 : Int32))), .val .null] [] := by first | (simp [entryFrame, mkF, argsToLocals, Value.category]; done) | rfl
def Q_cki (Z : State)  (h0 : Heap) (n0 : Nat) (v : Option Value) (h : Heap) (L : List Loc) : Prop := v = some (.int 0) ∧ Fr n0 L ∧ h = h0
set_option maxRecDepth 65536 in
set_option maxHeartbeats 40000000 in
theorem rm_cki (l : Launch) (Z : State) (av0 : Array Value) (hw : ∀ d ∈ tables_1, d.before av0 Z = true) (ws : List Jvm.Cond)  (h0 : Heap) (n0 : Nat) :
    MetFree l (⟨"jdk/internal/util/Preconditions", "checkIndex", "(IILjava/util/function/BiFunction;)I"⟩ : MethodName) (head1 (Jvm.Cond.code (⟨"jdk/internal/util/Preconditions", "checkIndex", "(IILjava/util/function/BiFunction;)I"⟩ : MethodName) jdk_41_method_11_code 3 (some .int) :: ws) ({ frames := 0, cells := 0, slots := 0, locals := 0 } : Room)) (fun a U => a = #[(.int (0 : Int32)), (.int ((0 : Int32) + (1 : Int32))), .null] ∧ Z.Warmed39 U.vm ∧ U.heap = h0) (fun _ _ _ _ _ => True) (fun _ U o U' => ∃ v L, o = .returned v ∧ Q_cki Z  h0 n0 v U'.heap L ∧ FrameEnd U o U' L ({ frames := 0, cells := 0, slots := 0, locals := 0 } : Room).cells ({ frames := 0, cells := 0, slots := 0, locals := 0 } : Room).slots) := by
  refine MetFree.of_bodySF (plainFor_of_name pn_cki) hisR ?_
  intro p e s m args below meth c s₁ Bd hml0 hP hK
  obtain ⟨rfl, hZ, hh⟩ := hP
  have hx := Bd.exec
  have hby := Bd.bytes
  have hml : c.maxLocals = 3 := hml0
  have hown : s.vm.findClass "jdk/internal/util/Preconditions" = some m.cls := findClass_of_methodNamed Bd.named
  have hnm := (name_of_methodNamed Bd.named Bd.method).1
  have X0 : Stand p l e ({ frames := 0, cells := 0, slots := 0, locals := 0 } : Room) s m #[(.int (0 : Int32)), (.int ((0 : Int32) + (1 : Int32))), .null] below meth c s₁ [] 0 0 := Stand.of_body Bd
  have e0 : s₁.heap = h0 := by rw [← hh, Bd.state]; rfl
  have N0 := Fr.nil n0
  have pre0 : Go p.tables e below (s₁.setTop (entryFrame m #[(.int (0 : Int32)), (.int ((0 : Int32) + (1 : Int32))), .null] 3)) s₁ (mkF m 0 #[.val (.int (0 : Int32)), .val (.int ((0 : Int32) + (1 : Int32))), .val .null] []) := fun t k => castTop (ef_cki m ) k
  have pre1 : Go p.tables e below (s₁.setTop (entryFrame m #[(.int (0 : Int32)), (.int ((0 : Int32) + (1 : Int32))), .null] 3)) s₁ (mkF m 17 #[.val (.int (0 : Int32)), .val (.int ((0 : Int32) + (1 : Int32))), .val .null] [(.int (0 : Int32))]) := fun t k => pre0 t (by
      refine XS.iloadN X0.here hx rfl (hb hby d21_0) rfl ?_
      show Steps p.tables e below (s₁.setTop (mkF m 1 #[.val (.int (0 : Int32)), .val (.int ((0 : Int32) + (1 : Int32))), .val .null] [(.int (0 : Int32))])) _
      refine XS.ifNo X0.here hx rfl (hb hby d21_1) rfl ((if0 _ _).trans (flt (by decide)).1) ?_
      show Steps p.tables e below (s₁.setTop (mkF m 4 #[.val (.int (0 : Int32)), .val (.int ((0 : Int32) + (1 : Int32))), .val .null] [])) _
      refine XS.iloadN X0.here hx rfl (hb hby d21_4) rfl ?_
      show Steps p.tables e below (s₁.setTop (mkF m 5 #[.val (.int (0 : Int32)), .val (.int ((0 : Int32) + (1 : Int32))), .val .null] [(.int (0 : Int32))])) _
      refine XS.iloadN X0.here hx rfl (hb hby d21_5) rfl ?_
      show Steps p.tables e below (s₁.setTop (mkF m 6 #[.val (.int (0 : Int32)), .val (.int ((0 : Int32) + (1 : Int32))), .val .null] [(.int ((0 : Int32) + (1 : Int32))), (.int (0 : Int32))])) _
      refine XS.icmpYes X0.here hx rfl (pc0 := 6) (pc' := 16) rfl (hb hby d21_6) rfl (tlt (by decide)).1 (by decide) (by decide) ?_
      show Steps p.tables e below (s₁.setTop (mkF m 16 #[.val (.int (0 : Int32)), .val (.int ((0 : Int32) + (1 : Int32))), .val .null] [])) _
      refine XS.iloadN X0.here hx rfl (hb hby d21_16) rfl ?_
      exact k)
  obtain ⟨fs, hr, hrun, hended, hW, hsame⟩ := X0.leave (v := some (.int (0 : Int32))) (fun h => by rw [Bd.returns] at h; cases h) (BodyLoose.notSynchronized Bd)
  refine ⟨_, _, pre1 _ ?_, hrun, hended, _, _, rfl, ?_, ⟨_, rfl⟩, hW, hsame.mono (Nat.le_of_ble_eq_true rfl) (Nat.le_of_ble_eq_true rfl)⟩
  · exact retI X0 hx Bd.returns (hb hby d21_17) hr
  · show Q_cki Z  h0 n0 _ s₁.heap _
    rw [e0]
    exact ⟨rfl, N0, rfl⟩
theorem d20_0 : decode jdk_31_method_17_code 0 = .ok (.iload_n 0, 1) := by decide +kernel
theorem d20_1 : decode jdk_31_method_17_code 1 = .ok (.iload_n 1, 1) := by decide +kernel
theorem d20_2 : decode jdk_31_method_17_code 2 = .ok (.aconst_null, 1) := by decide +kernel
theorem d20_3 : decode jdk_31_method_17_code 3 = .ok (.invokestatic 105, 3) := by decide +kernel
theorem d20_6 : decode jdk_31_method_17_code 6 = .ok (.ireturn, 1) := by decide +kernel
theorem pn_cko : plainName "java/util/Objects" = true := by first | (simp [plainName, overriddenIn]; done) | decide +kernel
theorem ef_cko (m : MethodId)  : entryFrame m #[(.int (0 : Int32)), (.int ((0 : Int32) + (1 : Int32)))] 2 = mkF m 0 #[.val (.int (0 : Int32)), .val (.int ((0 : Int32) + (1 : Int32)))] [] := by first | (simp [entryFrame, mkF, argsToLocals, Value.category]; done) | rfl
def Q_cko (Z : State)  (h0 : Heap) (n0 : Nat) (v : Option Value) (h : Heap) (L : List Loc) : Prop := v = some (.int 0) ∧ Fr n0 L ∧ h = h0
set_option maxRecDepth 65536 in
set_option maxHeartbeats 40000000 in
theorem rm_cko (l : Launch) (Z : State) (av0 : Array Value) (hw : ∀ d ∈ tables_1, d.before av0 Z = true) (ws : List Jvm.Cond)  (h0 : Heap) (n0 : Nat) :
    MetFree l (⟨"java/util/Objects", "checkIndex", "(II)I"⟩ : MethodName) (head1 (Jvm.Cond.code (⟨"java/util/Objects", "checkIndex", "(II)I"⟩ : MethodName) jdk_31_method_17_code 2 (some .int) :: ws) ({ frames := 1, cells := 0, slots := 0, locals := 14 } : Room)) (fun a U => a = #[(.int (0 : Int32)), (.int ((0 : Int32) + (1 : Int32)))] ∧ Z.Warmed39 U.vm ∧ U.heap = h0) (fun _ _ _ _ _ => True) (fun _ U o U' => ∃ v L, o = .returned v ∧ Q_cko Z  h0 n0 v U'.heap L ∧ FrameEnd U o U' L ({ frames := 1, cells := 0, slots := 0, locals := 14 } : Room).cells ({ frames := 1, cells := 0, slots := 0, locals := 14 } : Room).slots) := by
  refine MetFree.of_bodySF (plainFor_of_name pn_cko) hisR ?_
  intro p e s m args below meth c s₁ Bd hml0 hP hK
  obtain ⟨rfl, hZ, hh⟩ := hP
  have hx := Bd.exec
  have hby := Bd.bytes
  have hml : c.maxLocals = 2 := hml0
  have hown : s.vm.findClass "java/util/Objects" = some m.cls := findClass_of_methodNamed Bd.named
  have hnm := (name_of_methodNamed Bd.named Bd.method).1
  have X0 : Stand p l e ({ frames := 1, cells := 0, slots := 0, locals := 14 } : Room) s m #[(.int (0 : Int32)), (.int ((0 : Int32) + (1 : Int32)))] below meth c s₁ [] 0 0 := Stand.of_body Bd
  have e0 : s₁.heap = h0 := by rw [← hh, Bd.state]; rfl
  have N0 := Fr.nil n0
  have pre0 : Go p.tables e below (s₁.setTop (entryFrame m #[(.int (0 : Int32)), (.int ((0 : Int32) + (1 : Int32)))] 2)) s₁ (mkF m 0 #[.val (.int (0 : Int32)), .val (.int ((0 : Int32) + (1 : Int32)))] []) := fun t k => castTop (ef_cko m ) k
  have pre1 : Go p.tables e below (s₁.setTop (entryFrame m #[(.int (0 : Int32)), (.int ((0 : Int32) + (1 : Int32)))] 2)) s₁ (mkF m 3 #[.val (.int (0 : Int32)), .val (.int ((0 : Int32) + (1 : Int32)))] [.null, (.int ((0 : Int32) + (1 : Int32))), (.int (0 : Int32))]) := fun t k => pre0 t (by
      refine XS.iloadN X0.here hx rfl (hb hby d20_0) rfl ?_
      show Steps p.tables e below (s₁.setTop (mkF m 1 #[.val (.int (0 : Int32)), .val (.int ((0 : Int32) + (1 : Int32)))] [(.int (0 : Int32))])) _
      refine XS.iloadN X0.here hx rfl (hb hby d20_1) rfl ?_
      show Steps p.tables e below (s₁.setTop (mkF m 2 #[.val (.int (0 : Int32)), .val (.int ((0 : Int32) + (1 : Int32)))] [(.int ((0 : Int32) + (1 : Int32))), (.int (0 : Int32))])) _
      refine XS.aconstNull X0.here hx rfl (hb hby d20_2) ?_
      exact k)
  obtain ⟨_, _, ⟨T2, L2, k2, n2⟩, -, X2, ⟨Lc2, hQ2, l2, y2, z2⟩, st2⟩ := Jvm.LawKit.callS X0 hx (y := (⟨"jdk/internal/util/Preconditions", "checkIndex", "(IILjava/util/function/BiFunction;)I"⟩ : MethodName)) hown (mvT hZ (hw _ (List.mem_of_getElem? (i := 143) rfl))) (mvT hZ (hw _ (List.mem_of_getElem? (i := 144) rfl))) (mvT hZ (hw _ (List.mem_of_getElem? (i := 145) rfl))) (mvT hZ (hw _ (List.mem_of_getElem? (i := 146) rfl))) (by decide) (backOf (W := 0) (rm_cki l Z av0 hw [] h0 n0) hZ (hw _ (List.mem_of_getElem? (i := 146) rfl)) (hw _ (List.mem_of_getElem? (i := 145) rfl)) (by decide) (by decide)) (g := (mkF m 3 #[.val (.int (0 : Int32)), .val (.int ((0 : Int32) + (1 : Int32)))] [.null, (.int ((0 : Int32) + (1 : Int32))), (.int (0 : Int32))])) rfl (by rw [hml]; rfl) (argsL := [(.int (0 : Int32)), (.int ((0 : Int32) + (1 : Int32))), .null]) (rest := []) (lenOf pd_7 rfl) rfl (by show 2 * 0 + _ ≤ _; exact Nat.le_of_eq rfl) (hb hby d20_3) (fun _ _ => ⟨rfl, e0, (by decide : 0 + 0 ≤ _), (by decide : 0 + 0 ≤ _)⟩)
  dsimp only [Pt.U, Pt.locs, Pt.cells, Pt.slots] at X2 l2 y2 z2 st2 hQ2
  subst l2 y2 z2
  obtain ⟨rfl, N2q, e2⟩ := hQ2
  have N2 := Fr.app N0 N2q
  have pre2 : Go p.tables e below (s₁.setTop (entryFrame m #[(.int (0 : Int32)), (.int ((0 : Int32) + (1 : Int32)))] 2)) T2 (mkF m 6 #[.val (.int (0 : Int32)), .val (.int ((0 : Int32) + (1 : Int32)))] [(.int (0 : Int32))]) := fun t k => pre1 t (st2 _ k)
  obtain ⟨fs, hr, hrun, hended, hW, hsame⟩ := X2.leave (v := some (.int (0 : Int32))) (fun h => by rw [Bd.returns] at h; cases h) (BodyLoose.notSynchronized Bd)
  refine ⟨_, _, pre2 _ ?_, hrun, hended, _, _, rfl, ?_, ⟨_, rfl⟩, hW, hsame.mono (Nat.le_of_ble_eq_true rfl) (Nat.le_of_ble_eq_true rfl)⟩
  · exact retI X2 hx Bd.returns (hb hby d20_6) hr
  · show Q_cko Z  h0 n0 _ T2.heap _
    rw [e2]
    exact ⟨rfl, N2, rfl⟩
theorem d22_0 : decode jdk_38_method_18_code 0 = .ok (.aload_n 0, 1) := by decide +kernel
theorem d22_1 : decode jdk_38_method_18_code 1 = .ok (.getfield 9, 3) := by decide +kernel
theorem d22_4 : decode jdk_38_method_18_code 4 = .ok (.iload_n 1, 1) := by decide +kernel
theorem d22_5 : decode jdk_38_method_18_code 5 = .ok (.aaload, 1) := by decide +kernel
theorem d22_6 : decode jdk_38_method_18_code 6 = .ok (.areturn, 1) := by decide +kernel
theorem pn_eld : plainName "java/util/ArrayList" = true := by first | (simp [plainName, overriddenIn]; done) | decide +kernel
theorem ef_eld (m : MethodId) (a0 : Addr) : entryFrame m #[(.ref a0), (.int (0 : Int32))] 2 = mkF m 0 #[.val (.ref a0), .val (.int (0 : Int32))] [] := by first | (simp [entryFrame, mkF, argsToLocals, Value.category]; done) | rfl
def Q_eld (Z : State) (a0 : Addr) (ea : Addr) (ke : ClassId) (b : Addr) (h0 : Heap) (n0 : Nat) (v : Option Value) (h : Heap) (L : List Loc) : Prop := v = some (.ref b) ∧ Fr n0 L ∧ h = h0
set_option maxRecDepth 65536 in
set_option maxHeartbeats 40000000 in
theorem rm_eld (l : Launch) (Z : State) (av0 : Array Value) (hw : ∀ d ∈ tables_1, d.before av0 Z = true) (ws : List Jvm.Cond) (a0 : Addr) (ea : Addr) (ke : ClassId) (b : Addr) (h0 : Heap) (n0 : Nat) (fi0 : Fld Z h0 a0 "java/util/ArrayList" "elementData" "[Ljava/lang/Object;" (.ref ea)) (fi1 : Arv Z h0 ea ke (.object "java/lang/Object") (10 : Int32) [(.ref b), .null, .null, .null, .null, .null, .null, .null, .null, .null] .null) :
    MetFree l (⟨"java/util/ArrayList", "elementData", "(I)Ljava/lang/Object;"⟩ : MethodName) (head1 (Jvm.Cond.code (⟨"java/util/ArrayList", "elementData", "(I)Ljava/lang/Object;"⟩ : MethodName) jdk_38_method_18_code 2 (some (.object "java/lang/Object")) :: ws) ({ frames := 0, cells := 0, slots := 0, locals := 0 } : Room)) (fun a U => a = #[(.ref a0), (.int (0 : Int32))] ∧ Z.Warmed39 U.vm ∧ U.heap = h0) (fun _ _ _ _ _ => True) (fun _ U o U' => ∃ v L, o = .returned v ∧ Q_eld Z a0 ea ke b h0 n0 v U'.heap L ∧ FrameEnd U o U' L ({ frames := 0, cells := 0, slots := 0, locals := 0 } : Room).cells ({ frames := 0, cells := 0, slots := 0, locals := 0 } : Room).slots) := by
  refine MetFree.of_bodySF (plainFor_of_name pn_eld) hisR ?_
  intro p e s m args below meth c s₁ Bd hml0 hP hK
  obtain ⟨rfl, hZ, hh⟩ := hP
  have hx := Bd.exec
  have hby := Bd.bytes
  have hml : c.maxLocals = 2 := hml0
  have hown : s.vm.findClass "java/util/ArrayList" = some m.cls := findClass_of_methodNamed Bd.named
  have hnm := (name_of_methodNamed Bd.named Bd.method).1
  have X0 : Stand p l e ({ frames := 0, cells := 0, slots := 0, locals := 0 } : Room) s m #[(.ref a0), (.int (0 : Int32))] below meth c s₁ [] 0 0 := Stand.of_body Bd
  have e0 : s₁.heap = h0 := by rw [← hh, Bd.state]; rfl
  have N0 := Fr.nil n0
  have pre0 : Go p.tables e below (s₁.setTop (entryFrame m #[(.ref a0), (.int (0 : Int32))] 2)) s₁ (mkF m 0 #[.val (.ref a0), .val (.int (0 : Int32))] []) := fun t k => castTop (ef_eld m a0) k
  have pre1 : Go p.tables e below (s₁.setTop (entryFrame m #[(.ref a0), (.int (0 : Int32))] 2)) s₁ (mkF m 1 #[.val (.ref a0), .val (.int (0 : Int32))] [(.ref a0)]) := fun t k => pre0 t (by
      refine XS.aloadN X0.here hx rfl (hb hby d22_0) rfl rfl ?_
      exact k)
  obtain ⟨T2, X2, e2, st2⟩ := getF X0 hx hZ hown (host := "") (Or.inl (hw _ (List.mem_of_getElem? (i := 32) rfl))) Via.refl e0 fi0 (g := (mkF m 1 #[.val (.ref a0), .val (.int (0 : Int32))] [(.ref a0)])) rfl rfl (hb hby d22_1)
  have pre2 : Go p.tables e below (s₁.setTop (entryFrame m #[(.ref a0), (.int (0 : Int32))] 2)) T2 (mkF m 4 #[.val (.ref a0), .val (.int (0 : Int32))] [(.ref ea)]) := fun t k => pre1 t (st2 _ k)
  have pre3 : Go p.tables e below (s₁.setTop (entryFrame m #[(.ref a0), (.int (0 : Int32))] 2)) T2 (mkF m 5 #[.val (.ref a0), .val (.int (0 : Int32))] [(.int (0 : Int32)), (.ref ea)]) := fun t k => pre2 t (by
      refine XS.iloadN X2.here hx rfl (hb hby d22_4) rfl ?_
      exact k)
  obtain ⟨c4, Ar4, q4, S4, M4, H4, G4⟩ := (id fi1)
  have hin4 : ¬ ((0 : Int32) < 0 ∨ c4.slots.size ≤ ((0 : Int32)).toNatClampNeg) := inb_of S4 ⟨by decide, by decide⟩
  have pre4 : Go p.tables e below (s₁.setTop (entryFrame m #[(.ref a0), (.int (0 : Int32))] 2)) T2 (mkF m 6 #[.val (.ref a0), .val (.int (0 : Int32))] [(.ref b)]) := fun t k => pre3 t (X2.aaload hx (j := (0 : Int32)) (v := (.ref b)) (by rw [e2]; exact Ar4.1) (State.isArrayOf_alike hZ.alike Ar4.2.1) rfl Ar4.2.2 hin4 (H4.at hin4 rfl) (g := (mkF m 5 #[.val (.ref a0), .val (.int (0 : Int32))] [(.int (0 : Int32)), (.ref ea)])) rfl rfl (hb hby d22_5) _ k)
  obtain ⟨fs, hr, hrun, hended, hW, hsame⟩ := X2.leave (v := some (.ref b)) (fun h => by rw [Bd.returns] at h; cases h) (BodyLoose.notSynchronized Bd)
  refine ⟨_, _, pre4 _ ?_, hrun, hended, _, _, rfl, ?_, ⟨_, rfl⟩, hW, hsame.mono (Nat.le_of_ble_eq_true rfl) (Nat.le_of_ble_eq_true rfl)⟩
  · exact retOut X2 hx Bd.returns rfl (Or.inr (Or.inr (Or.inr (Or.inr ⟨rfl, rfl, rfl⟩)))) (hb hby d22_6) hr
  · show Q_eld Z a0 ea ke b h0 n0 _ T2.heap _
    rw [e2]
    exact ⟨rfl, N0, rfl⟩
theorem d19_0 : decode jdk_38_method_20_code 0 = .ok (.iload_n 1, 1) := by decide +kernel
theorem d19_1 : decode jdk_38_method_20_code 1 = .ok (.aload_n 0, 1) := by decide +kernel
theorem d19_2 : decode jdk_38_method_20_code 2 = .ok (.getfield 48, 3) := by decide +kernel
theorem d19_5 : decode jdk_38_method_20_code 5 = .ok (.invokestatic 118, 3) := by decide +kernel
theorem d19_8 : decode jdk_38_method_20_code 8 = .ok (.pop, 1) := by decide +kernel
theorem d19_9 : decode jdk_38_method_20_code 9 = .ok (.aload_n 0, 1) := by decide +kernel
theorem d19_10 : decode jdk_38_method_20_code 10 = .ok (.iload_n 1, 1) := by decide +kernel
theorem d19_11 : decode jdk_38_method_20_code 11 = .ok (.invokevirtual 123, 3) := by decide +kernel
theorem d19_14 : decode jdk_38_method_20_code 14 = .ok (.areturn, 1) := by decide +kernel
theorem pn_get : plainName "java/util/ArrayList" = true := by first | (simp [plainName, overriddenIn]; done) | decide +kernel
theorem ef_get (m : MethodId) (a0 : Addr) : entryFrame m #[(.ref a0), (.int (0 : Int32))] 2 = mkF m 0 #[.val (.ref a0), .val (.int (0 : Int32))] [] := by first | (simp [entryFrame, mkF, argsToLocals, Value.category]; done) | rfl
def Q_get (Z : State) (a0 : Addr) (ea : Addr) (ke : ClassId) (b : Addr) (h0 : Heap) (n0 : Nat) (v : Option Value) (h : Heap) (L : List Loc) : Prop := v = some (.ref b) ∧ Fr n0 L ∧ h = h0
set_option maxRecDepth 65536 in
set_option maxHeartbeats 40000000 in
theorem rm_get (l : Launch) (Z : State) (av0 : Array Value) (hw : ∀ d ∈ tables_1, d.before av0 Z = true) (ws : List Jvm.Cond) (a0 : Addr) (ea : Addr) (ke : ClassId) (b : Addr) (h0 : Heap) (n0 : Nat) (fi0 : Exa Z h0 a0 "java/util/ArrayList") (fi1 : Fld Z h0 a0 "java/util/ArrayList" "size" "I" (.int ((0 : Int32) + (1 : Int32)))) (fi2 : Fld Z h0 a0 "java/util/ArrayList" "elementData" "[Ljava/lang/Object;" (.ref ea)) (fi3 : Arv Z h0 ea ke (.object "java/lang/Object") (10 : Int32) [(.ref b), .null, .null, .null, .null, .null, .null, .null, .null, .null] .null) :
    MetFree l (⟨"java/util/ArrayList", "get", "(I)Ljava/lang/Object;"⟩ : MethodName) (head1 (Jvm.Cond.code (⟨"java/util/ArrayList", "get", "(I)Ljava/lang/Object;"⟩ : MethodName) jdk_38_method_20_code 2 (some (.object "java/lang/Object")) :: ws) ({ frames := 2, cells := 0, slots := 0, locals := 27 } : Room)) (fun a U => a = #[(.ref a0), (.int (0 : Int32))] ∧ Z.Warmed39 U.vm ∧ U.heap = h0) (fun _ _ _ _ _ => True) (fun _ U o U' => ∃ v L, o = .returned v ∧ Q_get Z a0 ea ke b h0 n0 v U'.heap L ∧ FrameEnd U o U' L ({ frames := 2, cells := 0, slots := 0, locals := 27 } : Room).cells ({ frames := 2, cells := 0, slots := 0, locals := 27 } : Room).slots) := by
  refine MetFree.of_bodySF (plainFor_of_name pn_get) hisR ?_
  intro p e s m args below meth c s₁ Bd hml0 hP hK
  obtain ⟨rfl, hZ, hh⟩ := hP
  have hx := Bd.exec
  have hby := Bd.bytes
  have hml : c.maxLocals = 2 := hml0
  have hown : s.vm.findClass "java/util/ArrayList" = some m.cls := findClass_of_methodNamed Bd.named
  have hnm := (name_of_methodNamed Bd.named Bd.method).1
  have X0 : Stand p l e ({ frames := 2, cells := 0, slots := 0, locals := 27 } : Room) s m #[(.ref a0), (.int (0 : Int32))] below meth c s₁ [] 0 0 := Stand.of_body Bd
  have e0 : s₁.heap = h0 := by rw [← hh, Bd.state]; rfl
  have N0 := Fr.nil n0
  have pre0 : Go p.tables e below (s₁.setTop (entryFrame m #[(.ref a0), (.int (0 : Int32))] 2)) s₁ (mkF m 0 #[.val (.ref a0), .val (.int (0 : Int32))] []) := fun t k => castTop (ef_get m a0) k
  have pre1 : Go p.tables e below (s₁.setTop (entryFrame m #[(.ref a0), (.int (0 : Int32))] 2)) s₁ (mkF m 2 #[.val (.ref a0), .val (.int (0 : Int32))] [(.ref a0), (.int (0 : Int32))]) := fun t k => pre0 t (by
      refine XS.iloadN X0.here hx rfl (hb hby d19_0) rfl ?_
      show Steps p.tables e below (s₁.setTop (mkF m 1 #[.val (.ref a0), .val (.int (0 : Int32))] [(.int (0 : Int32))])) _
      refine XS.aloadN X0.here hx rfl (hb hby d19_1) rfl rfl ?_
      exact k)
  obtain ⟨T2, X2, e2, st2⟩ := getF X0 hx hZ hown (host := "") (Or.inl (hw _ (List.mem_of_getElem? (i := 53) rfl))) Via.refl e0 fi1 (g := (mkF m 2 #[.val (.ref a0), .val (.int (0 : Int32))] [(.ref a0), (.int (0 : Int32))])) rfl rfl (hb hby d19_2)
  have pre2 : Go p.tables e below (s₁.setTop (entryFrame m #[(.ref a0), (.int (0 : Int32))] 2)) T2 (mkF m 5 #[.val (.ref a0), .val (.int (0 : Int32))] [(.int ((0 : Int32) + (1 : Int32))), (.int (0 : Int32))]) := fun t k => pre1 t (st2 _ k)
  obtain ⟨_, _, ⟨T3, L3, k3, n3⟩, -, X3, ⟨Lc3, hQ3, l3, y3, z3⟩, st3⟩ := Jvm.LawKit.callS X2 hx (y := (⟨"java/util/Objects", "checkIndex", "(II)I"⟩ : MethodName)) hown (mvT hZ (hw _ (List.mem_of_getElem? (i := 140) rfl))) (mvT hZ (hw _ (List.mem_of_getElem? (i := 141) rfl))) (mvT hZ (hw _ (List.mem_of_getElem? (i := 102) rfl))) (mvT hZ (hw _ (List.mem_of_getElem? (i := 142) rfl))) (by decide) (backOf (W := 0) (rm_cko l Z av0 hw [] h0 n0) hZ (hw _ (List.mem_of_getElem? (i := 142) rfl)) (hw _ (List.mem_of_getElem? (i := 102) rfl)) (by decide) (by decide)) (g := (mkF m 5 #[.val (.ref a0), .val (.int (0 : Int32))] [(.int ((0 : Int32) + (1 : Int32))), (.int (0 : Int32))])) rfl (by rw [hml]; rfl) (argsL := [(.int (0 : Int32)), (.int ((0 : Int32) + (1 : Int32)))]) (rest := []) (lenOf pd_2 rfl) rfl (by show 2 * 0 + _ ≤ _; exact Nat.le_of_eq rfl) (hb hby d19_5) (fun _ _ => ⟨rfl, e2, (by decide : 0 + 0 ≤ _), (by decide : 0 + 0 ≤ _)⟩)
  dsimp only [Pt.U, Pt.locs, Pt.cells, Pt.slots] at X3 l3 y3 z3 st3 hQ3
  subst l3 y3 z3
  obtain ⟨rfl, N3q, e3⟩ := hQ3
  have N3 := Fr.app N0 N3q
  have pre3 : Go p.tables e below (s₁.setTop (entryFrame m #[(.ref a0), (.int (0 : Int32))] 2)) T3 (mkF m 8 #[.val (.ref a0), .val (.int (0 : Int32))] [(.int (0 : Int32))]) := fun t k => pre2 t (st3 _ k)
  have pre4 : Go p.tables e below (s₁.setTop (entryFrame m #[(.ref a0), (.int (0 : Int32))] 2)) T3 (mkF m 11 #[.val (.ref a0), .val (.int (0 : Int32))] [(.int (0 : Int32)), (.ref a0)]) := fun t k => pre3 t (by
      refine XS.pop X3.here hx rfl (hb hby d19_8) rfl rfl ?_
      show Steps p.tables e below (T3.setTop (mkF m 9 #[.val (.ref a0), .val (.int (0 : Int32))] [])) _
      refine XS.aloadN X3.here hx rfl (hb hby d19_9) rfl rfl ?_
      show Steps p.tables e below (T3.setTop (mkF m 10 #[.val (.ref a0), .val (.int (0 : Int32))] [(.ref a0)])) _
      refine XS.iloadN X3.here hx rfl (hb hby d19_10) rfl ?_
      exact k)
  obtain ⟨cq5, kq5, q5a, q5b, q5c⟩ := isOf hZ e3 fi0
  obtain ⟨_, _, ⟨T5, L5, k5, n5⟩, -, X5, ⟨Lc5, hQ5, l5, y5, z5⟩, st5⟩ := X3.virtualBack hx (y := (⟨"java/util/ArrayList", "elementData", "(I)Ljava/lang/Object;"⟩ : MethodName)) (z := (⟨"java/util/ArrayList", "elementData", "(I)Ljava/lang/Object;"⟩ : MethodName)) hown (mvT hZ (hw _ (List.mem_of_getElem? (i := 147) rfl))) (mvT hZ (hw _ (List.mem_of_getElem? (i := 148) rfl))) (notFace_of_selects (args := #[]) (mvT hZ (hw _ (List.mem_of_getElem? (i := 150) rfl)))) (mvT hZ (hw _ (List.mem_of_getElem? (i := 150) rfl))) (mvT hZ (hw _ (List.mem_of_getElem? (i := 149) rfl))) (by decide) (backOf (W := 0) (rm_eld l Z av0 hw [] a0 ea ke b h0 n0  fi2 fi3) hZ (hw _ (List.mem_of_getElem? (i := 151) rfl)) (hw _ (List.mem_of_getElem? (i := 12) rfl)) (by decide) (by decide)) q5a q5c (g := (mkF m 11 #[.val (.ref a0), .val (.int (0 : Int32))] [(.int (0 : Int32)), (.ref a0)])) rfl (by rw [hml]; rfl) (Steps.refl _) (argsL := [(.int (0 : Int32))]) (rest := []) (lenOf pd_8 rfl) rfl (by show 2 * 0 + _ ≤ _; exact Nat.le_of_eq rfl) (hb hby d19_11) (fun _ _ => ⟨rfl, e3, (by decide : 0 + 0 ≤ _), (by decide : 0 + 0 ≤ _)⟩)
  dsimp only [Pt.U, Pt.locs, Pt.cells, Pt.slots] at X5 l5 y5 z5 st5 hQ5
  subst l5 y5 z5
  obtain ⟨hv5, N5q, e5⟩ := hQ5
  subst hv5
  have N5 := Fr.app N3 N5q
  have pre5 : Go p.tables e below (s₁.setTop (entryFrame m #[(.ref a0), (.int (0 : Int32))] 2)) T5 (mkF m 14 #[.val (.ref a0), .val (.int (0 : Int32))] [(.ref b)]) := fun t k => pre4 t (st5.trans k)
  obtain ⟨fs, hr, hrun, hended, hW, hsame⟩ := X5.leave (v := some (.ref b)) (fun h => by rw [Bd.returns] at h; cases h) (BodyLoose.notSynchronized Bd)
  refine ⟨_, _, pre5 _ ?_, hrun, hended, _, _, rfl, ?_, ⟨_, rfl⟩, hW, hsame.mono (Nat.le_of_ble_eq_true rfl) (Nat.le_of_ble_eq_true rfl)⟩
  · exact retOut X5 hx Bd.returns rfl (Or.inr (Or.inr (Or.inr (Or.inr ⟨rfl, rfl, rfl⟩)))) (hb hby d19_14) hr
  · show Q_get Z a0 ea ke b h0 n0 _ T5.heap _
    rw [e5]
    exact ⟨rfl, N5, rfl⟩
theorem d18_0 : decode prog_35_method_3_code 0 = .ok (.ldc 24, 2) := by decide +kernel
theorem d18_2 : decode prog_35_method_3_code 2 = .ok (.aload_n 0, 1) := by decide +kernel
theorem d18_3 : decode prog_35_method_3_code 3 = .ok (.getfield 21, 3) := by decide +kernel
theorem d18_6 : decode prog_35_method_3_code 6 = .ok (.isub, 1) := by decide +kernel
theorem d18_7 : decode prog_35_method_3_code 7 = .ok (.bipush 10, 2) := by decide +kernel
theorem d18_9 : decode prog_35_method_3_code 9 = .ok (.if_icmp .ge 18, 3) := by decide +kernel
theorem d18_12 : decode prog_35_method_3_code 12 = .ok (.aload_n 0, 1) := by decide +kernel
theorem d18_13 : decode prog_35_method_3_code 13 = .ok (.dup, 1) := by decide +kernel
theorem d18_14 : decode prog_35_method_3_code 14 = .ok (.getfield 17, 3) := by decide +kernel
theorem d18_17 : decode prog_35_method_3_code 17 = .ok (.iconst 1, 1) := by decide +kernel
theorem d18_18 : decode prog_35_method_3_code 18 = .ok (.iadd, 1) := by decide +kernel
theorem d18_19 : decode prog_35_method_3_code 19 = .ok (.putfield 17, 3) := by decide +kernel
theorem d18_22 : decode prog_35_method_3_code 22 = .ok (.aload_n 0, 1) := by decide +kernel
theorem d18_23 : decode prog_35_method_3_code 23 = .ok (.iconst 0, 1) := by decide +kernel
theorem d18_24 : decode prog_35_method_3_code 24 = .ok (.putfield 21, 3) := by decide +kernel
theorem d18_27 : decode prog_35_method_3_code 27 = .ok (.aload_n 0, 1) := by decide +kernel
theorem d18_28 : decode prog_35_method_3_code 28 = .ok (.getfield 3, 3) := by decide +kernel
theorem d18_31 : decode prog_35_method_3_code 31 = .ok (.getfield 25, 3) := by decide +kernel
theorem d18_34 : decode prog_35_method_3_code 34 = .ok (.aload_n 0, 1) := by decide +kernel
theorem d18_35 : decode prog_35_method_3_code 35 = .ok (.getfield 17, 3) := by decide +kernel
theorem d18_38 : decode prog_35_method_3_code 38 = .ok (.invokeinterface 29 2, 5) := by decide +kernel
theorem d18_43 : decode prog_35_method_3_code 43 = .ok (.checkcast 35, 3) := by decide +kernel
theorem d18_46 : decode prog_35_method_3_code 46 = .ok (.astore_n 1, 1) := by decide +kernel
theorem d18_47 : decode prog_35_method_3_code 47 = .ok (.lconst 0, 1) := by decide +kernel
theorem d18_48 : decode prog_35_method_3_code 48 = .ok (.lstore_n 2, 1) := by decide +kernel
theorem d18_49 : decode prog_35_method_3_code 49 = .ok (.iconst 0, 1) := by decide +kernel
theorem d18_50 : decode prog_35_method_3_code 50 = .ok (.istore 4, 2) := by decide +kernel
theorem d18_52 : decode prog_35_method_3_code 52 = .ok (.aload_n 1, 1) := by decide +kernel
theorem d18_53 : decode prog_35_method_3_code 53 = .ok (.aload_n 0, 1) := by decide +kernel
theorem d18_54 : decode prog_35_method_3_code 54 = .ok (.dup, 1) := by decide +kernel
theorem d18_55 : decode prog_35_method_3_code 55 = .ok (.getfield 21, 3) := by decide +kernel
theorem d18_58 : decode prog_35_method_3_code 58 = .ok (.dup_x1, 1) := by decide +kernel
theorem d18_59 : decode prog_35_method_3_code 59 = .ok (.iconst 1, 1) := by decide +kernel
theorem d18_60 : decode prog_35_method_3_code 60 = .ok (.iadd, 1) := by decide +kernel
theorem d18_61 : decode prog_35_method_3_code 61 = .ok (.putfield 21, 3) := by decide +kernel
theorem d18_64 : decode prog_35_method_3_code 64 = .ok (.baload, 1) := by decide +kernel
theorem d18_65 : decode prog_35_method_3_code 65 = .ok (.istore 5, 2) := by decide +kernel
theorem d18_67 : decode prog_35_method_3_code 67 = .ok (.lload_n 2, 1) := by decide +kernel
theorem d18_68 : decode prog_35_method_3_code 68 = .ok (.iload 5, 2) := by decide +kernel
theorem d18_70 : decode prog_35_method_3_code 70 = .ok (.bipush 127, 2) := by decide +kernel
theorem d18_72 : decode prog_35_method_3_code 72 = .ok (.iand, 1) := by decide +kernel
theorem d18_73 : decode prog_35_method_3_code 73 = .ok (.i2l, 1) := by decide +kernel
theorem d18_74 : decode prog_35_method_3_code 74 = .ok (.iload 4, 2) := by decide +kernel
theorem d18_76 : decode prog_35_method_3_code 76 = .ok (.lshl, 1) := by decide +kernel
theorem d18_77 : decode prog_35_method_3_code 77 = .ok (.lor, 1) := by decide +kernel
theorem d18_78 : decode prog_35_method_3_code 78 = .ok (.lstore_n 2, 1) := by decide +kernel
theorem d18_79 : decode prog_35_method_3_code 79 = .ok (.iinc 4 7, 3) := by decide +kernel
theorem d18_82 : decode prog_35_method_3_code 82 = .ok (.iload 5, 2) := by decide +kernel
theorem d18_84 : decode prog_35_method_3_code 84 = .ok (.ifCond .lt (-32), 3) := by decide +kernel
theorem d18_87 : decode prog_35_method_3_code 87 = .ok (.lload_n 2, 1) := by decide +kernel
theorem d18_88 : decode prog_35_method_3_code 88 = .ok (.lreturn, 1) := by decide +kernel
set_option maxRecDepth 65536 in
set_option maxHeartbeats 40000000 in
theorem lp_nx {p : Program} {l : Launch} {e : Env} {R : Room} {s : State} {m : MethodId} {args : Array Value} {below : List Frame} {meth : Method} {c : Code} {Z : State} {av0 : Array Value} {A : State} {cells slots : Nat} (hx : p.tables.exec = Jvm.exec) (hZ : Z.Warmed39 s.vm) (hw : ∀ d ∈ tables_1, d.before av0 Z = true) (hby : c.code = prog_35_method_3_code) (hml : c.maxLocals = 6) (hown : s.vm.findClass "com/example/zhangtiao/zhangtiao/input/VarLongs$Cursor" = some m.cls) (a0 b : Addr) (kc : ClassId) (tv : Value) (suf : List Value) (h0 : Heap) (n0 : Nat) (g_a0 : n0 ≤ a0) (ne_a0_b : a0 ≠ b) : ∀ (k : Nat) (T : State) (L : List Loc) (h1 : Heap) (r : Int64) (pr : List Value) (v0 : Int64) (sh : Int32) (o5 : Slot), (Stand p l e R s m args below meth c T L cells slots) → (T.heap = h1) → (Fr n0 L) → (Keep h0 h1 [a0]) → (Exa Z h1 a0 "com/example/zhangtiao/zhangtiao/input/VarLongs$Cursor") → (Fld Z h1 a0 "com/example/zhangtiao/zhangtiao/input/VarLongs$Cursor" "at" "I" (.int (own_n pr))) → (Fld Z h1 a0 "com/example/zhangtiao/zhangtiao/input/VarLongs$Cursor" "this$0" "Lcom/example/zhangtiao/zhangtiao/input/VarLongs;" tv) → (Fld Z h1 a0 "com/example/zhangtiao/zhangtiao/input/VarLongs$Cursor" "chunk" "I" (.int (0 : Int32))) → (Arv Z h1 b kc .byte (65536 : Int32) (pr ++ (own_enc k r ++ suf)) (.int (0 : Int32))) → (0 ≤ r.toInt) → (r.toInt < 128 ^ (k + 1)) → (pr.length + k < 65536) → (One o5) → (Go p.tables e below A T (mkF m 52 #[.val (.ref a0), .val (.ref b), .val (.long v0), .second, .val (.int sh), o5] [])) → Exists fun (T' : State) => ∃ (L' : List Loc) (h' : Heap) (v' : Int64) (s' : Int32) (t' : Int32) (g' : Int32), Stand p l e R s m args below meth c T' L' cells slots ∧ T'.heap = h' ∧ Fr n0 L' ∧ Keep h0 h' [a0] ∧ Exa Z h' a0 "com/example/zhangtiao/zhangtiao/input/VarLongs$Cursor" ∧ Fld Z h' a0 "com/example/zhangtiao/zhangtiao/input/VarLongs$Cursor" "at" "I" (.int t') ∧ Fld Z h' a0 "com/example/zhangtiao/zhangtiao/input/VarLongs$Cursor" "this$0" "Lcom/example/zhangtiao/zhangtiao/input/VarLongs;" tv ∧ Fld Z h' a0 "com/example/zhangtiao/zhangtiao/input/VarLongs$Cursor" "chunk" "I" (.int (0 : Int32)) ∧ v' = own_dec k r v0 sh ∧ Go p.tables e below A T' (mkF m 87 #[.val (.ref a0), .val (.ref b), .val (.long v'), .second, .val (.int s'), .val (.int g')] []) := by
  intro k
  induction k with
  | zero =>
    intro T L h1 r pr v0 sh o5 X eT N K fE fA fT fC fV hr0 hr1 hlk ho5 pre
    have hl : pr.length < 65536 := by omega
    have hrs : r.toInt < 128 := by simpa using hr1
    obtain ⟨gb, hgb⟩ : ∃ z : Int32, z = own_b8 r := ⟨_, rfl⟩
    have hgs : ¬ gb < 0 := by rw [hgb]; exact own_b8_pos r hr0 hrs
    have hE : pr ++ (own_enc 0 r ++ suf) = pr ++ (.int gb :: suf) := by rw [hgb]; rfl
    have pre1 : Go p.tables e below A T (mkF m 55 #[.val (.ref a0), .val (.ref b), .val (.long v0), .second, .val (.int sh), o5] [(.ref a0), (.ref a0), (.ref b)]) := fun t k => pre t (by
        refine XS.aloadN X.here hx rfl (hb hby d18_52) rfl rfl ?_
        show Steps p.tables e below (T.setTop (mkF m 53 #[.val (.ref a0), .val (.ref b), .val (.long v0), .second, .val (.int sh), o5] [(.ref b)])) _
        refine XS.aloadN X.here hx rfl (hb hby d18_53) rfl rfl ?_
        show Steps p.tables e below (T.setTop (mkF m 54 #[.val (.ref a0), .val (.ref b), .val (.long v0), .second, .val (.int sh), o5] [(.ref a0), (.ref b)])) _
        refine XS.dup X.here hx rfl (hb hby d18_54) rfl rfl ?_
        exact k)
    obtain ⟨T2, X2, e2, st2⟩ := getF X hx hZ hown (host := "") (Or.inl (hw _ (List.mem_of_getElem? (i := 123) rfl))) Via.refl eT fA (g := (mkF m 55 #[.val (.ref a0), .val (.ref b), .val (.long v0), .second, .val (.int sh), o5] [(.ref a0), (.ref a0), (.ref b)])) rfl rfl (hb hby d18_55)
    have pre2 : Go p.tables e below A T2 (mkF m 58 #[.val (.ref a0), .val (.ref b), .val (.long v0), .second, .val (.int sh), o5] [(.int (own_n pr)), (.ref a0), (.ref b)]) := fun t k => pre1 t (st2 _ k)
    have pre3 : Go p.tables e below A T2 (mkF m 61 #[.val (.ref a0), .val (.ref b), .val (.long v0), .second, .val (.int sh), o5] [(.int ((own_n pr) + (1 : Int32))), (.ref a0), (.int (own_n pr)), (.ref b)]) := fun t k => pre2 t (by
        refine XS.dupX1 X2.here hx rfl (hb hby d18_58) rfl rfl rfl ?_
        show Steps p.tables e below (T2.setTop (mkF m 59 #[.val (.ref a0), .val (.ref b), .val (.long v0), .second, .val (.int sh), o5] [(.int (own_n pr)), (.ref a0), (.int (own_n pr)), (.ref b)])) _
        refine XS.iconst X2.here hx rfl (hb hby d18_59) ?_
        show Steps p.tables e below (T2.setTop (mkF m 60 #[.val (.ref a0), .val (.ref b), .val (.long v0), .second, .val (.int sh), o5] [(.int (1 : Int32)), (.int (own_n pr)), (.ref a0), (.int (own_n pr)), (.ref b)])) _
        refine XS.iadd X2.here hx rfl (hb hby d18_60) rfl ?_
        exact k)
    obtain ⟨T4, h4, X4, e4, W4, st4⟩ := putF X2 hx hZ hown (host := "") (Or.inl (hw _ (List.mem_of_getElem? (i := 123) rfl))) Via.refl e2 fA fE (Or.inl (hw _ (List.mem_of_getElem? (i := 124) rfl))) (hw _ (List.mem_of_getElem? (i := 98) rfl)) (ty := .int) (by decide) rfl rfl (g := (mkF m 61 #[.val (.ref a0), .val (.ref b), .val (.long v0), .second, .val (.int sh), o5] [(.int ((own_n pr) + (1 : Int32))), (.ref a0), (.int (own_n pr)), (.ref b)])) rfl rfl (hb hby d18_61)
    have N4 := Fr.snoc X4 N g_a0
    have f5 : Keep h0 h4 [a0] := K.wr W4 (Or.inl (List.mem_of_getElem? (i := 0) rfl))
    have f6 : Exa Z h4 a0 "com/example/zhangtiao/zhangtiao/input/VarLongs$Cursor" := fE.wr W4
    have f7 : Fld Z h4 a0 "com/example/zhangtiao/zhangtiao/input/VarLongs$Cursor" "at" "I" (.int ((own_n pr) + (1 : Int32))) := fA.same W4
    have f8 : Fld Z h4 a0 "com/example/zhangtiao/zhangtiao/input/VarLongs$Cursor" "this$0" "Lcom/example/zhangtiao/zhangtiao/input/VarLongs;" tv := fT.other W4 (Or.inr (slot_ne (Or.inr (hw _ (List.mem_of_getElem? (i := 108) rfl))) (Or.inl (hw _ (List.mem_of_getElem? (i := 124) rfl))) (by decide) (t := (.object "com/example/zhangtiao/zhangtiao/input/VarLongs")) (t' := .int) (by decide) (by decide)))
    have f9 : Fld Z h4 a0 "com/example/zhangtiao/zhangtiao/input/VarLongs$Cursor" "chunk" "I" (.int (0 : Int32)) := fC.other W4 (Or.inr (slot_ne (Or.inl (hw _ (List.mem_of_getElem? (i := 122) rfl))) (Or.inl (hw _ (List.mem_of_getElem? (i := 124) rfl))) (by decide) (t := .int) (t' := .int) (by decide) (by decide)))
    have f10 : Arv Z h4 b kc .byte (65536 : Int32) (pr ++ (own_enc 0 r ++ suf)) (.int (0 : Int32)) := fV.other W4 ne_a0_b.symm
    have pre4 : Go p.tables e below A T4 (mkF m 64 #[.val (.ref a0), .val (.ref b), .val (.long v0), .second, .val (.int sh), o5] [(.int (own_n pr)), (.ref b)]) := fun t k => pre3 t (st4 _ k)
    obtain ⟨c11, Ar11, q11, S11, M11, H11, G11⟩ := (id f10)
    have hin11 : ¬ ((own_n pr) < 0 ∨ c11.slots.size ≤ ((own_n pr)).toNatClampNeg) := inb_of S11 (own_nin pr hl)
    have hu11 : (pr ++ (own_enc 0 r ++ suf)).getD ((own_n pr)).toNatClampNeg (.int (0 : Int32)) = .int gb := by rw [hE]; exact own_getD pr _ _ _ hl
    have pre11 : Go p.tables e below A T4 (mkF m 65 #[.val (.ref a0), .val (.ref b), .val (.long v0), .second, .val (.int sh), o5] [(.int gb)]) := fun t k => pre4 t (X4.baloadBytes hx (j := (own_n pr)) (v := (.int gb)) (by rw [e4]; exact Ar11.1) (State.isArrayOf_alike hZ.alike Ar11.2.1) Ar11.2.2 hin11 (H11.at hin11 hu11) (g := (mkF m 64 #[.val (.ref a0), .val (.ref b), .val (.long v0), .second, .val (.int sh), o5] [(.int (own_n pr)), (.ref b)])) rfl rfl (hb hby d18_64) _ k)
    obtain ⟨w12, hw12⟩ : ∃ z : Int64, z = (v0 ||| (((gb &&& (127 : Int32)).toInt64) <<< (sh &&& 0x3f).toInt64)) := ⟨_, rfl⟩
    have pre13 : Go p.tables e below A T4 (mkF m 87 #[.val (.ref a0), .val (.ref b), .val (.long w12), .second, .val (.int (sh + (7 : Int32))), .val (.int gb)] []) := fun t k => pre11 t (by
        refine XS.istoreS X4.here hx rfl (hb hby d18_65) rfl (o := o5) rfl ho5 ?_
        show Steps p.tables e below (T4.setTop (mkF m 67 #[.val (.ref a0), .val (.ref b), .val (.long v0), .second, .val (.int sh), .val (.int gb)] [])) _
        refine XS.lloadN X4.here hx rfl (hb hby d18_67) rfl ?_
        show Steps p.tables e below (T4.setTop (mkF m 68 #[.val (.ref a0), .val (.ref b), .val (.long v0), .second, .val (.int sh), .val (.int gb)] [(.long v0)])) _
        refine XS.iload X4.here hx rfl (hb hby d18_68) rfl ?_
        show Steps p.tables e below (T4.setTop (mkF m 70 #[.val (.ref a0), .val (.ref b), .val (.long v0), .second, .val (.int sh), .val (.int gb)] [(.int gb), (.long v0)])) _
        refine XS.bipush X4.here hx rfl (hb hby d18_70) ?_
        show Steps p.tables e below (T4.setTop (mkF m 72 #[.val (.ref a0), .val (.ref b), .val (.long v0), .second, .val (.int sh), .val (.int gb)] [(.int (127 : Int32)), (.int gb), (.long v0)])) _
        refine XS.iand X4.here hx rfl (hb hby d18_72) rfl ?_
        show Steps p.tables e below (T4.setTop (mkF m 73 #[.val (.ref a0), .val (.ref b), .val (.long v0), .second, .val (.int sh), .val (.int gb)] [(.int (gb &&& (127 : Int32))), (.long v0)])) _
        refine XS.i2l X4.here hx rfl (hb hby d18_73) rfl ?_
        show Steps p.tables e below (T4.setTop (mkF m 74 #[.val (.ref a0), .val (.ref b), .val (.long v0), .second, .val (.int sh), .val (.int gb)] [(.long ((gb &&& (127 : Int32)).toInt64)), (.long v0)])) _
        refine XS.iload X4.here hx rfl (hb hby d18_74) rfl ?_
        show Steps p.tables e below (T4.setTop (mkF m 76 #[.val (.ref a0), .val (.ref b), .val (.long v0), .second, .val (.int sh), .val (.int gb)] [(.int sh), (.long ((gb &&& (127 : Int32)).toInt64)), (.long v0)])) _
        refine XS.lshl X4.here hx rfl (hb hby d18_76) rfl ?_
        show Steps p.tables e below (T4.setTop (mkF m 77 #[.val (.ref a0), .val (.ref b), .val (.long v0), .second, .val (.int sh), .val (.int gb)] [(.long (((gb &&& (127 : Int32)).toInt64) <<< (sh &&& 0x3f).toInt64)), (.long v0)])) _
        refine XS.lor X4.here hx rfl (hb hby d18_77) rfl ?_
        show Steps p.tables e below (T4.setTop (mkF m 78 #[.val (.ref a0), .val (.ref b), .val (.long v0), .second, .val (.int sh), .val (.int gb)] [(.long (v0 ||| (((gb &&& (127 : Int32)).toInt64) <<< (sh &&& 0x3f).toInt64)))])) _
        refine XS.lstoreN X4.here hx rfl (x := w12) (rest := []) (hb hby d18_78) (by subst hw12; rfl) (l' := #[.val (.ref a0), .val (.ref b), .val (.long w12), .second, .val (.int sh), .val (.int gb)]) rfl ?_
        show Steps p.tables e below (T4.setTop (mkF m 79 #[.val (.ref a0), .val (.ref b), .val (.long w12), .second, .val (.int sh), .val (.int gb)] [])) _
        refine XS.iinc X4.here hx rfl (hb hby d18_79) rfl (l' := #[.val (.ref a0), .val (.ref b), .val (.long w12), .second, .val (.int (sh + (7 : Int32))), .val (.int gb)]) rfl ?_
        show Steps p.tables e below (T4.setTop (mkF m 82 #[.val (.ref a0), .val (.ref b), .val (.long w12), .second, .val (.int (sh + (7 : Int32))), .val (.int gb)] [])) _
        refine XS.iload X4.here hx rfl (hb hby d18_82) rfl ?_
        show Steps p.tables e below (T4.setTop (mkF m 84 #[.val (.ref a0), .val (.ref b), .val (.long w12), .second, .val (.int (sh + (7 : Int32))), .val (.int gb)] [(.int gb)])) _
        refine XS.ifNo X4.here hx rfl (hb hby d18_84) rfl ((if0 _ _).trans (flt hgs).1) ?_
        exact k)
    refine ⟨_, _, _, _, _, _, _, X4, e4, N4, f5, f6, f7, f8, f9, ?_, pre13⟩
    subst hw12; subst hgb; rfl
  | succ k ih =>
    intro T L h1 r pr v0 sh o5 X eT N K fE fA fT fC fV hr0 hr1 hlk ho5 pre
    have hl : pr.length < 65536 := by omega
    by_cases hz : r < (128 : Int64)
    · have hrs : r.toInt < 128 := (own_lt128 r).mp hz
      obtain ⟨gb, hgb⟩ : ∃ z : Int32, z = own_b8 r := ⟨_, rfl⟩
      have hgs : ¬ gb < 0 := by rw [hgb]; exact own_b8_pos r hr0 hrs
      have hE : pr ++ (own_enc (k + 1) r ++ suf) = pr ++ (.int gb :: suf) := by rw [hgb, own_enc, if_pos hz]; rfl
      have pre14 : Go p.tables e below A T (mkF m 55 #[.val (.ref a0), .val (.ref b), .val (.long v0), .second, .val (.int sh), o5] [(.ref a0), (.ref a0), (.ref b)]) := fun t k => pre t (by
          refine XS.aloadN X.here hx rfl (hb hby d18_52) rfl rfl ?_
          show Steps p.tables e below (T.setTop (mkF m 53 #[.val (.ref a0), .val (.ref b), .val (.long v0), .second, .val (.int sh), o5] [(.ref b)])) _
          refine XS.aloadN X.here hx rfl (hb hby d18_53) rfl rfl ?_
          show Steps p.tables e below (T.setTop (mkF m 54 #[.val (.ref a0), .val (.ref b), .val (.long v0), .second, .val (.int sh), o5] [(.ref a0), (.ref b)])) _
          refine XS.dup X.here hx rfl (hb hby d18_54) rfl rfl ?_
          exact k)
      obtain ⟨T15, X15, e15, st15⟩ := getF X hx hZ hown (host := "") (Or.inl (hw _ (List.mem_of_getElem? (i := 123) rfl))) Via.refl eT fA (g := (mkF m 55 #[.val (.ref a0), .val (.ref b), .val (.long v0), .second, .val (.int sh), o5] [(.ref a0), (.ref a0), (.ref b)])) rfl rfl (hb hby d18_55)
      have pre15 : Go p.tables e below A T15 (mkF m 58 #[.val (.ref a0), .val (.ref b), .val (.long v0), .second, .val (.int sh), o5] [(.int (own_n pr)), (.ref a0), (.ref b)]) := fun t k => pre14 t (st15 _ k)
      have pre16 : Go p.tables e below A T15 (mkF m 61 #[.val (.ref a0), .val (.ref b), .val (.long v0), .second, .val (.int sh), o5] [(.int ((own_n pr) + (1 : Int32))), (.ref a0), (.int (own_n pr)), (.ref b)]) := fun t k => pre15 t (by
          refine XS.dupX1 X15.here hx rfl (hb hby d18_58) rfl rfl rfl ?_
          show Steps p.tables e below (T15.setTop (mkF m 59 #[.val (.ref a0), .val (.ref b), .val (.long v0), .second, .val (.int sh), o5] [(.int (own_n pr)), (.ref a0), (.int (own_n pr)), (.ref b)])) _
          refine XS.iconst X15.here hx rfl (hb hby d18_59) ?_
          show Steps p.tables e below (T15.setTop (mkF m 60 #[.val (.ref a0), .val (.ref b), .val (.long v0), .second, .val (.int sh), o5] [(.int (1 : Int32)), (.int (own_n pr)), (.ref a0), (.int (own_n pr)), (.ref b)])) _
          refine XS.iadd X15.here hx rfl (hb hby d18_60) rfl ?_
          exact k)
      obtain ⟨T17, h17, X17, e17, W17, st17⟩ := putF X15 hx hZ hown (host := "") (Or.inl (hw _ (List.mem_of_getElem? (i := 123) rfl))) Via.refl e15 fA fE (Or.inl (hw _ (List.mem_of_getElem? (i := 124) rfl))) (hw _ (List.mem_of_getElem? (i := 98) rfl)) (ty := .int) (by decide) rfl rfl (g := (mkF m 61 #[.val (.ref a0), .val (.ref b), .val (.long v0), .second, .val (.int sh), o5] [(.int ((own_n pr) + (1 : Int32))), (.ref a0), (.int (own_n pr)), (.ref b)])) rfl rfl (hb hby d18_61)
      have N17 := Fr.snoc X17 N g_a0
      have f18 : Keep h0 h17 [a0] := K.wr W17 (Or.inl (List.mem_of_getElem? (i := 0) rfl))
      have f19 : Exa Z h17 a0 "com/example/zhangtiao/zhangtiao/input/VarLongs$Cursor" := fE.wr W17
      have f20 : Fld Z h17 a0 "com/example/zhangtiao/zhangtiao/input/VarLongs$Cursor" "at" "I" (.int ((own_n pr) + (1 : Int32))) := fA.same W17
      have f21 : Fld Z h17 a0 "com/example/zhangtiao/zhangtiao/input/VarLongs$Cursor" "this$0" "Lcom/example/zhangtiao/zhangtiao/input/VarLongs;" tv := fT.other W17 (Or.inr (slot_ne (Or.inr (hw _ (List.mem_of_getElem? (i := 108) rfl))) (Or.inl (hw _ (List.mem_of_getElem? (i := 124) rfl))) (by decide) (t := (.object "com/example/zhangtiao/zhangtiao/input/VarLongs")) (t' := .int) (by decide) (by decide)))
      have f22 : Fld Z h17 a0 "com/example/zhangtiao/zhangtiao/input/VarLongs$Cursor" "chunk" "I" (.int (0 : Int32)) := fC.other W17 (Or.inr (slot_ne (Or.inl (hw _ (List.mem_of_getElem? (i := 122) rfl))) (Or.inl (hw _ (List.mem_of_getElem? (i := 124) rfl))) (by decide) (t := .int) (t' := .int) (by decide) (by decide)))
      have f23 : Arv Z h17 b kc .byte (65536 : Int32) (pr ++ (own_enc (k + 1) r ++ suf)) (.int (0 : Int32)) := fV.other W17 ne_a0_b.symm
      have pre17 : Go p.tables e below A T17 (mkF m 64 #[.val (.ref a0), .val (.ref b), .val (.long v0), .second, .val (.int sh), o5] [(.int (own_n pr)), (.ref b)]) := fun t k => pre16 t (st17 _ k)
      obtain ⟨c24, Ar24, q24, S24, M24, H24, G24⟩ := (id f23)
      have hin24 : ¬ ((own_n pr) < 0 ∨ c24.slots.size ≤ ((own_n pr)).toNatClampNeg) := inb_of S24 (own_nin pr hl)
      have hu24 : (pr ++ (own_enc (k + 1) r ++ suf)).getD ((own_n pr)).toNatClampNeg (.int (0 : Int32)) = .int gb := by rw [hE]; exact own_getD pr _ _ _ hl
      have pre24 : Go p.tables e below A T17 (mkF m 65 #[.val (.ref a0), .val (.ref b), .val (.long v0), .second, .val (.int sh), o5] [(.int gb)]) := fun t k => pre17 t (X17.baloadBytes hx (j := (own_n pr)) (v := (.int gb)) (by rw [e17]; exact Ar24.1) (State.isArrayOf_alike hZ.alike Ar24.2.1) Ar24.2.2 hin24 (H24.at hin24 hu24) (g := (mkF m 64 #[.val (.ref a0), .val (.ref b), .val (.long v0), .second, .val (.int sh), o5] [(.int (own_n pr)), (.ref b)])) rfl rfl (hb hby d18_64) _ k)
      obtain ⟨w25, hw25⟩ : ∃ z : Int64, z = (v0 ||| (((gb &&& (127 : Int32)).toInt64) <<< (sh &&& 0x3f).toInt64)) := ⟨_, rfl⟩
      have pre26 : Go p.tables e below A T17 (mkF m 87 #[.val (.ref a0), .val (.ref b), .val (.long w25), .second, .val (.int (sh + (7 : Int32))), .val (.int gb)] []) := fun t k => pre24 t (by
          refine XS.istoreS X17.here hx rfl (hb hby d18_65) rfl (o := o5) rfl ho5 ?_
          show Steps p.tables e below (T17.setTop (mkF m 67 #[.val (.ref a0), .val (.ref b), .val (.long v0), .second, .val (.int sh), .val (.int gb)] [])) _
          refine XS.lloadN X17.here hx rfl (hb hby d18_67) rfl ?_
          show Steps p.tables e below (T17.setTop (mkF m 68 #[.val (.ref a0), .val (.ref b), .val (.long v0), .second, .val (.int sh), .val (.int gb)] [(.long v0)])) _
          refine XS.iload X17.here hx rfl (hb hby d18_68) rfl ?_
          show Steps p.tables e below (T17.setTop (mkF m 70 #[.val (.ref a0), .val (.ref b), .val (.long v0), .second, .val (.int sh), .val (.int gb)] [(.int gb), (.long v0)])) _
          refine XS.bipush X17.here hx rfl (hb hby d18_70) ?_
          show Steps p.tables e below (T17.setTop (mkF m 72 #[.val (.ref a0), .val (.ref b), .val (.long v0), .second, .val (.int sh), .val (.int gb)] [(.int (127 : Int32)), (.int gb), (.long v0)])) _
          refine XS.iand X17.here hx rfl (hb hby d18_72) rfl ?_
          show Steps p.tables e below (T17.setTop (mkF m 73 #[.val (.ref a0), .val (.ref b), .val (.long v0), .second, .val (.int sh), .val (.int gb)] [(.int (gb &&& (127 : Int32))), (.long v0)])) _
          refine XS.i2l X17.here hx rfl (hb hby d18_73) rfl ?_
          show Steps p.tables e below (T17.setTop (mkF m 74 #[.val (.ref a0), .val (.ref b), .val (.long v0), .second, .val (.int sh), .val (.int gb)] [(.long ((gb &&& (127 : Int32)).toInt64)), (.long v0)])) _
          refine XS.iload X17.here hx rfl (hb hby d18_74) rfl ?_
          show Steps p.tables e below (T17.setTop (mkF m 76 #[.val (.ref a0), .val (.ref b), .val (.long v0), .second, .val (.int sh), .val (.int gb)] [(.int sh), (.long ((gb &&& (127 : Int32)).toInt64)), (.long v0)])) _
          refine XS.lshl X17.here hx rfl (hb hby d18_76) rfl ?_
          show Steps p.tables e below (T17.setTop (mkF m 77 #[.val (.ref a0), .val (.ref b), .val (.long v0), .second, .val (.int sh), .val (.int gb)] [(.long (((gb &&& (127 : Int32)).toInt64) <<< (sh &&& 0x3f).toInt64)), (.long v0)])) _
          refine XS.lor X17.here hx rfl (hb hby d18_77) rfl ?_
          show Steps p.tables e below (T17.setTop (mkF m 78 #[.val (.ref a0), .val (.ref b), .val (.long v0), .second, .val (.int sh), .val (.int gb)] [(.long (v0 ||| (((gb &&& (127 : Int32)).toInt64) <<< (sh &&& 0x3f).toInt64)))])) _
          refine XS.lstoreN X17.here hx rfl (x := w25) (rest := []) (hb hby d18_78) (by subst hw25; rfl) (l' := #[.val (.ref a0), .val (.ref b), .val (.long w25), .second, .val (.int sh), .val (.int gb)]) rfl ?_
          show Steps p.tables e below (T17.setTop (mkF m 79 #[.val (.ref a0), .val (.ref b), .val (.long w25), .second, .val (.int sh), .val (.int gb)] [])) _
          refine XS.iinc X17.here hx rfl (hb hby d18_79) rfl (l' := #[.val (.ref a0), .val (.ref b), .val (.long w25), .second, .val (.int (sh + (7 : Int32))), .val (.int gb)]) rfl ?_
          show Steps p.tables e below (T17.setTop (mkF m 82 #[.val (.ref a0), .val (.ref b), .val (.long w25), .second, .val (.int (sh + (7 : Int32))), .val (.int gb)] [])) _
          refine XS.iload X17.here hx rfl (hb hby d18_82) rfl ?_
          show Steps p.tables e below (T17.setTop (mkF m 84 #[.val (.ref a0), .val (.ref b), .val (.long w25), .second, .val (.int (sh + (7 : Int32))), .val (.int gb)] [(.int gb)])) _
          refine XS.ifNo X17.here hx rfl (hb hby d18_84) rfl ((if0 _ _).trans (flt hgs).1) ?_
          exact k)
      refine ⟨_, _, _, _, _, _, _, X17, e17, N17, f18, f19, f20, f21, f22, ?_, pre26⟩
      subst hw25; subst hgb; rw [own_dec, if_pos hz]; rfl
    · obtain ⟨gb, hgb⟩ : ∃ z : Int32, z = own_b8 (r ||| 128) := ⟨_, rfl⟩
      have hgs : gb < 0 := by rw [hgb]; exact own_b8_neg r
      have hE : pr ++ (own_enc (k + 1) r ++ suf) = pr ++ (.int gb :: (own_enc k (own_sh r 7) ++ suf)) := by rw [hgb, own_enc, if_neg hz]; rfl
      have pre27 : Go p.tables e below A T (mkF m 55 #[.val (.ref a0), .val (.ref b), .val (.long v0), .second, .val (.int sh), o5] [(.ref a0), (.ref a0), (.ref b)]) := fun t k => pre t (by
          refine XS.aloadN X.here hx rfl (hb hby d18_52) rfl rfl ?_
          show Steps p.tables e below (T.setTop (mkF m 53 #[.val (.ref a0), .val (.ref b), .val (.long v0), .second, .val (.int sh), o5] [(.ref b)])) _
          refine XS.aloadN X.here hx rfl (hb hby d18_53) rfl rfl ?_
          show Steps p.tables e below (T.setTop (mkF m 54 #[.val (.ref a0), .val (.ref b), .val (.long v0), .second, .val (.int sh), o5] [(.ref a0), (.ref b)])) _
          refine XS.dup X.here hx rfl (hb hby d18_54) rfl rfl ?_
          exact k)
      obtain ⟨T28, X28, e28, st28⟩ := getF X hx hZ hown (host := "") (Or.inl (hw _ (List.mem_of_getElem? (i := 123) rfl))) Via.refl eT fA (g := (mkF m 55 #[.val (.ref a0), .val (.ref b), .val (.long v0), .second, .val (.int sh), o5] [(.ref a0), (.ref a0), (.ref b)])) rfl rfl (hb hby d18_55)
      have pre28 : Go p.tables e below A T28 (mkF m 58 #[.val (.ref a0), .val (.ref b), .val (.long v0), .second, .val (.int sh), o5] [(.int (own_n pr)), (.ref a0), (.ref b)]) := fun t k => pre27 t (st28 _ k)
      have pre29 : Go p.tables e below A T28 (mkF m 61 #[.val (.ref a0), .val (.ref b), .val (.long v0), .second, .val (.int sh), o5] [(.int ((own_n pr) + (1 : Int32))), (.ref a0), (.int (own_n pr)), (.ref b)]) := fun t k => pre28 t (by
          refine XS.dupX1 X28.here hx rfl (hb hby d18_58) rfl rfl rfl ?_
          show Steps p.tables e below (T28.setTop (mkF m 59 #[.val (.ref a0), .val (.ref b), .val (.long v0), .second, .val (.int sh), o5] [(.int (own_n pr)), (.ref a0), (.int (own_n pr)), (.ref b)])) _
          refine XS.iconst X28.here hx rfl (hb hby d18_59) ?_
          show Steps p.tables e below (T28.setTop (mkF m 60 #[.val (.ref a0), .val (.ref b), .val (.long v0), .second, .val (.int sh), o5] [(.int (1 : Int32)), (.int (own_n pr)), (.ref a0), (.int (own_n pr)), (.ref b)])) _
          refine XS.iadd X28.here hx rfl (hb hby d18_60) rfl ?_
          exact k)
      obtain ⟨T30, h30, X30, e30, W30, st30⟩ := putF X28 hx hZ hown (host := "") (Or.inl (hw _ (List.mem_of_getElem? (i := 123) rfl))) Via.refl e28 fA fE (Or.inl (hw _ (List.mem_of_getElem? (i := 124) rfl))) (hw _ (List.mem_of_getElem? (i := 98) rfl)) (ty := .int) (by decide) rfl rfl (g := (mkF m 61 #[.val (.ref a0), .val (.ref b), .val (.long v0), .second, .val (.int sh), o5] [(.int ((own_n pr) + (1 : Int32))), (.ref a0), (.int (own_n pr)), (.ref b)])) rfl rfl (hb hby d18_61)
      have N30 := Fr.snoc X30 N g_a0
      have f31 : Keep h0 h30 [a0] := K.wr W30 (Or.inl (List.mem_of_getElem? (i := 0) rfl))
      have f32 : Exa Z h30 a0 "com/example/zhangtiao/zhangtiao/input/VarLongs$Cursor" := fE.wr W30
      have f33 : Fld Z h30 a0 "com/example/zhangtiao/zhangtiao/input/VarLongs$Cursor" "at" "I" (.int ((own_n pr) + (1 : Int32))) := fA.same W30
      have f34 : Fld Z h30 a0 "com/example/zhangtiao/zhangtiao/input/VarLongs$Cursor" "this$0" "Lcom/example/zhangtiao/zhangtiao/input/VarLongs;" tv := fT.other W30 (Or.inr (slot_ne (Or.inr (hw _ (List.mem_of_getElem? (i := 108) rfl))) (Or.inl (hw _ (List.mem_of_getElem? (i := 124) rfl))) (by decide) (t := (.object "com/example/zhangtiao/zhangtiao/input/VarLongs")) (t' := .int) (by decide) (by decide)))
      have f35 : Fld Z h30 a0 "com/example/zhangtiao/zhangtiao/input/VarLongs$Cursor" "chunk" "I" (.int (0 : Int32)) := fC.other W30 (Or.inr (slot_ne (Or.inl (hw _ (List.mem_of_getElem? (i := 122) rfl))) (Or.inl (hw _ (List.mem_of_getElem? (i := 124) rfl))) (by decide) (t := .int) (t' := .int) (by decide) (by decide)))
      have f36 : Arv Z h30 b kc .byte (65536 : Int32) (pr ++ (own_enc (k + 1) r ++ suf)) (.int (0 : Int32)) := fV.other W30 ne_a0_b.symm
      have pre30 : Go p.tables e below A T30 (mkF m 64 #[.val (.ref a0), .val (.ref b), .val (.long v0), .second, .val (.int sh), o5] [(.int (own_n pr)), (.ref b)]) := fun t k => pre29 t (st30 _ k)
      obtain ⟨c37, Ar37, q37, S37, M37, H37, G37⟩ := (id f36)
      have hin37 : ¬ ((own_n pr) < 0 ∨ c37.slots.size ≤ ((own_n pr)).toNatClampNeg) := inb_of S37 (own_nin pr hl)
      have hu37 : (pr ++ (own_enc (k + 1) r ++ suf)).getD ((own_n pr)).toNatClampNeg (.int (0 : Int32)) = .int gb := by rw [hE]; exact own_getD pr _ _ _ hl
      have pre37 : Go p.tables e below A T30 (mkF m 65 #[.val (.ref a0), .val (.ref b), .val (.long v0), .second, .val (.int sh), o5] [(.int gb)]) := fun t k => pre30 t (X30.baloadBytes hx (j := (own_n pr)) (v := (.int gb)) (by rw [e30]; exact Ar37.1) (State.isArrayOf_alike hZ.alike Ar37.2.1) Ar37.2.2 hin37 (H37.at hin37 hu37) (g := (mkF m 64 #[.val (.ref a0), .val (.ref b), .val (.long v0), .second, .val (.int sh), o5] [(.int (own_n pr)), (.ref b)])) rfl rfl (hb hby d18_64) _ k)
      obtain ⟨w38, hw38⟩ : ∃ z : Int64, z = (v0 ||| (((gb &&& (127 : Int32)).toInt64) <<< (sh &&& 0x3f).toInt64)) := ⟨_, rfl⟩
      have pre39 : Go p.tables e below A T30 (mkF m 52 #[.val (.ref a0), .val (.ref b), .val (.long w38), .second, .val (.int (sh + (7 : Int32))), .val (.int gb)] []) := fun t k => pre37 t (by
          refine XS.istoreS X30.here hx rfl (hb hby d18_65) rfl (o := o5) rfl ho5 ?_
          show Steps p.tables e below (T30.setTop (mkF m 67 #[.val (.ref a0), .val (.ref b), .val (.long v0), .second, .val (.int sh), .val (.int gb)] [])) _
          refine XS.lloadN X30.here hx rfl (hb hby d18_67) rfl ?_
          show Steps p.tables e below (T30.setTop (mkF m 68 #[.val (.ref a0), .val (.ref b), .val (.long v0), .second, .val (.int sh), .val (.int gb)] [(.long v0)])) _
          refine XS.iload X30.here hx rfl (hb hby d18_68) rfl ?_
          show Steps p.tables e below (T30.setTop (mkF m 70 #[.val (.ref a0), .val (.ref b), .val (.long v0), .second, .val (.int sh), .val (.int gb)] [(.int gb), (.long v0)])) _
          refine XS.bipush X30.here hx rfl (hb hby d18_70) ?_
          show Steps p.tables e below (T30.setTop (mkF m 72 #[.val (.ref a0), .val (.ref b), .val (.long v0), .second, .val (.int sh), .val (.int gb)] [(.int (127 : Int32)), (.int gb), (.long v0)])) _
          refine XS.iand X30.here hx rfl (hb hby d18_72) rfl ?_
          show Steps p.tables e below (T30.setTop (mkF m 73 #[.val (.ref a0), .val (.ref b), .val (.long v0), .second, .val (.int sh), .val (.int gb)] [(.int (gb &&& (127 : Int32))), (.long v0)])) _
          refine XS.i2l X30.here hx rfl (hb hby d18_73) rfl ?_
          show Steps p.tables e below (T30.setTop (mkF m 74 #[.val (.ref a0), .val (.ref b), .val (.long v0), .second, .val (.int sh), .val (.int gb)] [(.long ((gb &&& (127 : Int32)).toInt64)), (.long v0)])) _
          refine XS.iload X30.here hx rfl (hb hby d18_74) rfl ?_
          show Steps p.tables e below (T30.setTop (mkF m 76 #[.val (.ref a0), .val (.ref b), .val (.long v0), .second, .val (.int sh), .val (.int gb)] [(.int sh), (.long ((gb &&& (127 : Int32)).toInt64)), (.long v0)])) _
          refine XS.lshl X30.here hx rfl (hb hby d18_76) rfl ?_
          show Steps p.tables e below (T30.setTop (mkF m 77 #[.val (.ref a0), .val (.ref b), .val (.long v0), .second, .val (.int sh), .val (.int gb)] [(.long (((gb &&& (127 : Int32)).toInt64) <<< (sh &&& 0x3f).toInt64)), (.long v0)])) _
          refine XS.lor X30.here hx rfl (hb hby d18_77) rfl ?_
          show Steps p.tables e below (T30.setTop (mkF m 78 #[.val (.ref a0), .val (.ref b), .val (.long v0), .second, .val (.int sh), .val (.int gb)] [(.long (v0 ||| (((gb &&& (127 : Int32)).toInt64) <<< (sh &&& 0x3f).toInt64)))])) _
          refine XS.lstoreN X30.here hx rfl (x := w38) (rest := []) (hb hby d18_78) (by subst hw38; rfl) (l' := #[.val (.ref a0), .val (.ref b), .val (.long w38), .second, .val (.int sh), .val (.int gb)]) rfl ?_
          show Steps p.tables e below (T30.setTop (mkF m 79 #[.val (.ref a0), .val (.ref b), .val (.long w38), .second, .val (.int sh), .val (.int gb)] [])) _
          refine XS.iinc X30.here hx rfl (hb hby d18_79) rfl (l' := #[.val (.ref a0), .val (.ref b), .val (.long w38), .second, .val (.int (sh + (7 : Int32))), .val (.int gb)]) rfl ?_
          show Steps p.tables e below (T30.setTop (mkF m 82 #[.val (.ref a0), .val (.ref b), .val (.long w38), .second, .val (.int (sh + (7 : Int32))), .val (.int gb)] [])) _
          refine XS.iload X30.here hx rfl (hb hby d18_82) rfl ?_
          show Steps p.tables e below (T30.setTop (mkF m 84 #[.val (.ref a0), .val (.ref b), .val (.long w38), .second, .val (.int (sh + (7 : Int32))), .val (.int gb)] [(.int gb)])) _
          refine XS.ifYes X30.here hx rfl (pc0 := 84) (pc' := 52) rfl (hb hby d18_84) rfl ((if0 _ _).trans (tlt hgs).1) (by decide) (by decide) ?_
          exact k)
      have hq2 : pr ++ (own_enc (k + 1) r ++ suf) = (pr ++ [.int gb]) ++ (own_enc k (own_sh r 7) ++ suf) := by rw [hE]; simp
      have fv2 := f36
      rw [hq2] at fv2
      have fa2 := f33
      rw [own_nsucc pr (.int gb)] at fa2
      have hs7 := own_sh7_int r hr0
      have hl2 : (pr ++ [(.int gb : Value)]).length + k < 65536 := by rw [List.length_append]; show pr.length + 1 + k < 65536; omega
      obtain ⟨T9, L9, h9, v9, s9, a9, b9, X9, e9, N9, K9, fE9, fA9, fT9, fC9, hv9, pre9⟩ := ih _ _ _ (own_sh r 7) (pr ++ [.int gb]) w38 (sh + (7 : Int32)) (.val (.int gb)) X30 e30 N30 f31 f32 fa2 f34 f35 fv2 (by omega) (by rw [hs7]; rw [Int.pow_succ] at hr1; omega) hl2 (One.val rfl) pre39
      refine ⟨T9, L9, h9, v9, s9, a9, b9, X9, e9, N9, K9, fE9, fA9, fT9, fC9, ?_, pre9⟩
      rw [hv9]
      subst hw38; subst hgb; rw [own_dec, if_neg hz]; rfl
theorem pn_nxt : plainName "com/example/zhangtiao/zhangtiao/input/VarLongs$Cursor" = true := by first | (simp [plainName, overriddenIn]; done) | decide +kernel
theorem ef_nxt (m : MethodId) (a0 : Addr) : entryFrame m #[(.ref a0)] 6 = mkF m 0 #[.val (.ref a0), .unset, .unset, .unset, .unset, .unset] [] := by first | (simp [entryFrame, mkF, argsToLocals, Value.category]; done) | rfl
def Q_nxt (Z : State) (a0 : Addr) (tv : Value) (vl : Addr) (al : Addr) (ea : Addr) (ke : ClassId) (b : Addr) (kc : ClassId) (pr : List Value) (r : Int64) (suf : List Value) (h0 : Heap) (n0 : Nat) (v : Option Value) (h : Heap) (L : List Loc) : Prop := ∃ (ta : Int32), v = some (.long r) ∧ Fr n0 L ∧ Keep h0 h [a0] ∧ Fld Z h a0 "com/example/zhangtiao/zhangtiao/input/VarLongs$Cursor" "this$0" "Lcom/example/zhangtiao/zhangtiao/input/VarLongs;" (.ref vl) ∧ Fld Z h a0 "com/example/zhangtiao/zhangtiao/input/VarLongs$Cursor" "chunk" "I" (.int (0 : Int32)) ∧ Fld Z h a0 "com/example/zhangtiao/zhangtiao/input/VarLongs$Cursor" "at" "I" (.int ta) ∧ Exa Z h a0 "com/example/zhangtiao/zhangtiao/input/VarLongs$Cursor"
set_option maxRecDepth 65536 in
set_option maxHeartbeats 40000000 in
theorem rm_nxt (l : Launch) (Z : State) (av0 : Array Value) (hw : ∀ d ∈ tables_1, d.before av0 Z = true) (ws : List Jvm.Cond) (a0 : Addr) (tv : Value) (vl : Addr) (al : Addr) (ea : Addr) (ke : ClassId) (b : Addr) (kc : ClassId) (pr : List Value) (r : Int64) (suf : List Value) (h0 : Heap) (n0 : Nat) (Z0 : n0 ≤ h0.size) (fi0 : Fld Z h0 a0 "com/example/zhangtiao/zhangtiao/input/VarLongs$Cursor" "this$0" "Lcom/example/zhangtiao/zhangtiao/input/VarLongs;" (.ref vl)) (fi1 : Fld Z h0 a0 "com/example/zhangtiao/zhangtiao/input/VarLongs$Cursor" "chunk" "I" (.int (0 : Int32))) (fi2 : Fld Z h0 a0 "com/example/zhangtiao/zhangtiao/input/VarLongs$Cursor" "at" "I" (.int (own_n pr))) (fi3 : Exa Z h0 a0 "com/example/zhangtiao/zhangtiao/input/VarLongs$Cursor") (fi4 : Fld Z h0 vl "com/example/zhangtiao/zhangtiao/input/VarLongs" "chunks" "Ljava/util/List;" (.ref al)) (fi5 : Exa Z h0 al "java/util/ArrayList") (fi6 : Fld Z h0 al "java/util/ArrayList" "size" "I" (.int ((0 : Int32) + (1 : Int32)))) (fi7 : Fld Z h0 al "java/util/ArrayList" "elementData" "[Ljava/lang/Object;" (.ref ea)) (fi8 : Arv Z h0 ea ke (.object "java/lang/Object") (10 : Int32) [(.ref b), .null, .null, .null, .null, .null, .null, .null, .null, .null] .null) (fi9 : Exa Z h0 b "[B") (fi10 : Arv Z h0 b kc .byte (65536 : Int32) (pr ++ (own_enc 8 r ++ suf)) (.int (0 : Int32))) (g_a0 : n0 ≤ a0) (ne_a0_b : a0 ≠ b) (ne_a0_vl : a0 ≠ vl) (ne_a0_al : a0 ≠ al) (ne_a0_ea : a0 ≠ ea) (htv : tv = (.ref vl)) (hr0 : 0 ≤ r.toInt) (hpl : pr.length + 8 < 60000) :
    MetFree l (⟨"com/example/zhangtiao/zhangtiao/input/VarLongs$Cursor", "next", "()J"⟩ : MethodName) (head1 (Jvm.Cond.code (⟨"com/example/zhangtiao/zhangtiao/input/VarLongs$Cursor", "next", "()J"⟩ : MethodName) prog_35_method_3_code 6 (some .long) :: ws) ({ frames := 3, cells := 0, slots := 0, locals := 40 } : Room)) (fun a U => a = #[(.ref a0)] ∧ Z.Warmed39 U.vm ∧ U.heap = h0) (fun _ _ _ _ _ => True) (fun _ U o U' => ∃ v L, o = .returned v ∧ Q_nxt Z a0 tv vl al ea ke b kc pr r suf h0 n0 v U'.heap L ∧ FrameEnd U o U' L ({ frames := 3, cells := 0, slots := 0, locals := 40 } : Room).cells ({ frames := 3, cells := 0, slots := 0, locals := 40 } : Room).slots) := by
  refine MetFree.of_bodySF (plainFor_of_name pn_nxt) hisR ?_
  intro p e s m args below meth c s₁ Bd hml0 hP hK
  obtain ⟨rfl, hZ, hh⟩ := hP
  have hx := Bd.exec
  have hby := Bd.bytes
  have hml : c.maxLocals = 6 := hml0
  have hown : s.vm.findClass "com/example/zhangtiao/zhangtiao/input/VarLongs$Cursor" = some m.cls := findClass_of_methodNamed Bd.named
  have hnm := (name_of_methodNamed Bd.named Bd.method).1
  have X0 : Stand p l e ({ frames := 3, cells := 0, slots := 0, locals := 40 } : Room) s m #[(.ref a0)] below meth c s₁ [] 0 0 := Stand.of_body Bd
  have e0 : s₁.heap = h0 := by rw [← hh, Bd.state]; rfl
  have N0 := Fr.nil n0
  have pre0 : Go p.tables e below (s₁.setTop (entryFrame m #[(.ref a0)] 6)) s₁ (mkF m 0 #[.val (.ref a0), .unset, .unset, .unset, .unset, .unset] []) := fun t k => castTop (ef_nxt m a0) k
  have K0 : Keep h0 h0 [a0] := Keep.refl _ _
  have pre1 : Go p.tables e below (s₁.setTop (entryFrame m #[(.ref a0)] 6)) s₁ (mkF m 3 #[.val (.ref a0), .unset, .unset, .unset, .unset, .unset] [(.ref a0), (.int (65536 : Int32))]) := fun t k => pre0 t (by
      refine X0.ldcInt hx hown (mvT hZ (hw _ (List.mem_of_getElem? (i := 130) rfl))) (g := (mkF m 0 #[.val (.ref a0), .unset, .unset, .unset, .unset, .unset] [])) rfl (hb hby d18_0) _ ?_
      show Steps p.tables e below (s₁.setTop (mkF m 2 #[.val (.ref a0), .unset, .unset, .unset, .unset, .unset] [(.int (65536 : Int32))])) _
      refine XS.aloadN X0.here hx rfl (hb hby d18_2) rfl rfl ?_
      exact k)
  obtain ⟨T2, X2, e2, st2⟩ := getF X0 hx hZ hown (host := "") (Or.inl (hw _ (List.mem_of_getElem? (i := 123) rfl))) Via.refl e0 fi2 (g := (mkF m 3 #[.val (.ref a0), .unset, .unset, .unset, .unset, .unset] [(.ref a0), (.int (65536 : Int32))])) rfl rfl (hb hby d18_3)
  have pre2 : Go p.tables e below (s₁.setTop (entryFrame m #[(.ref a0)] 6)) T2 (mkF m 6 #[.val (.ref a0), .unset, .unset, .unset, .unset, .unset] [(.int (own_n pr)), (.int (65536 : Int32))]) := fun t k => pre1 t (st2 _ k)
  have pre3 : Go p.tables e below (s₁.setTop (entryFrame m #[(.ref a0)] 6)) T2 (mkF m 28 #[.val (.ref a0), .unset, .unset, .unset, .unset, .unset] [(.ref a0)]) := fun t k => pre2 t (by
      refine XS.isub X2.here hx rfl (hb hby d18_6) rfl ?_
      show Steps p.tables e below (T2.setTop (mkF m 7 #[.val (.ref a0), .unset, .unset, .unset, .unset, .unset] [(.int ((65536 : Int32) - (own_n pr)))])) _
      refine XS.bipush X2.here hx rfl (hb hby d18_7) ?_
      show Steps p.tables e below (T2.setTop (mkF m 9 #[.val (.ref a0), .unset, .unset, .unset, .unset, .unset] [(.int (10 : Int32)), (.int ((65536 : Int32) - (own_n pr)))])) _
      refine XS.icmpYes X2.here hx rfl (pc0 := 9) (pc' := 27) rfl (hb hby d18_9) rfl (flt (own_nroom pr (by omega))).2.1 (by decide) (by decide) ?_
      show Steps p.tables e below (T2.setTop (mkF m 27 #[.val (.ref a0), .unset, .unset, .unset, .unset, .unset] [])) _
      refine XS.aloadN X2.here hx rfl (hb hby d18_27) rfl rfl ?_
      exact k)
  obtain ⟨T4, X4, e4, st4⟩ := getF X2 hx hZ hown (host := "") (Or.inl (hw _ (List.mem_of_getElem? (i := 107) rfl))) Via.refl e2 fi0 (g := (mkF m 28 #[.val (.ref a0), .unset, .unset, .unset, .unset, .unset] [(.ref a0)])) rfl rfl (hb hby d18_28)
  have pre4 : Go p.tables e below (s₁.setTop (entryFrame m #[(.ref a0)] 6)) T4 (mkF m 31 #[.val (.ref a0), .unset, .unset, .unset, .unset, .unset] [(.ref vl)]) := fun t k => pre3 t (st4 _ k)
  obtain ⟨T5, X5, e5, st5⟩ := getF X4 hx hZ hown (Or.inr (hw _ (List.mem_of_getElem? (i := 131) rfl))) Via.refl e4 fi4 (g := (mkF m 31 #[.val (.ref a0), .unset, .unset, .unset, .unset, .unset] [(.ref vl)])) rfl rfl (hb hby d18_31)
  have pre5 : Go p.tables e below (s₁.setTop (entryFrame m #[(.ref a0)] 6)) T5 (mkF m 34 #[.val (.ref a0), .unset, .unset, .unset, .unset, .unset] [(.ref al)]) := fun t k => pre4 t (st5 _ k)
  have pre6 : Go p.tables e below (s₁.setTop (entryFrame m #[(.ref a0)] 6)) T5 (mkF m 35 #[.val (.ref a0), .unset, .unset, .unset, .unset, .unset] [(.ref a0), (.ref al)]) := fun t k => pre5 t (by
      refine XS.aloadN X5.here hx rfl (hb hby d18_34) rfl rfl ?_
      exact k)
  obtain ⟨T7, X7, e7, st7⟩ := getF X5 hx hZ hown (host := "") (Or.inl (hw _ (List.mem_of_getElem? (i := 121) rfl))) Via.refl e5 fi1 (g := (mkF m 35 #[.val (.ref a0), .unset, .unset, .unset, .unset, .unset] [(.ref a0), (.ref al)])) rfl rfl (hb hby d18_35)
  have pre7 : Go p.tables e below (s₁.setTop (entryFrame m #[(.ref a0)] 6)) T7 (mkF m 38 #[.val (.ref a0), .unset, .unset, .unset, .unset, .unset] [(.int (0 : Int32)), (.ref al)]) := fun t k => pre6 t (st7 _ k)
  obtain ⟨cq8, kq8, q8a, q8b, q8c⟩ := isOf hZ e7 fi5
  obtain ⟨_, _, ⟨T8, L8, k8, n8⟩, -, X8, ⟨Lc8, hQ8, l8, y8, z8⟩, st8⟩ := X7.interfaceBack hx (xi := (⟨"java/util/List", "get", "(I)Ljava/lang/Object;"⟩ : MethodName)) (y := (⟨"java/util/ArrayList", "get", "(I)Ljava/lang/Object;"⟩ : MethodName)) hown (mvT hZ (hw _ (List.mem_of_getElem? (i := 132) rfl))) (mvT hZ (hw _ (List.mem_of_getElem? (i := 133) rfl))) (mvT hZ (hw _ (List.mem_of_getElem? (i := 134) rfl))) (mvT hZ (hw _ (List.mem_of_getElem? (i := 135) rfl))) (mvT hZ (hw _ (List.mem_of_getElem? (i := 136) rfl))) (mvT hZ (hw _ (List.mem_of_getElem? (i := 137) rfl))) (mvT hZ (hw _ (List.mem_of_getElem? (i := 138) rfl))) (mvT hZ (hw _ (List.mem_of_getElem? (i := 51) rfl))) (by decide) (backOf (W := 0) (rm_get l Z av0 hw [] al ea ke b h0 n0  fi5 fi6 fi7 fi8) hZ (hw _ (List.mem_of_getElem? (i := 139) rfl)) (hw _ (List.mem_of_getElem? (i := 12) rfl)) (by decide) (by decide)) q8a q8b q8c (g := (mkF m 38 #[.val (.ref a0), .unset, .unset, .unset, .unset, .unset] [(.int (0 : Int32)), (.ref al)])) rfl (by rw [hml]; rfl) (Steps.refl _) (argsL := [(.int (0 : Int32))]) (rest := []) (lenOf pd_8 rfl) rfl (by show 2 * 0 + _ ≤ _; exact Nat.le_of_eq rfl) (hb hby d18_38) (fun _ _ => ⟨rfl, e7, (by decide : 0 + 0 ≤ _), (by decide : 0 + 0 ≤ _)⟩)
  dsimp only [Pt.U, Pt.locs, Pt.cells, Pt.slots] at X8 l8 y8 z8 st8 hQ8
  subst l8 y8 z8
  obtain ⟨hv8, N8q, e8⟩ := hQ8
  subst hv8
  have N8 := Fr.app N0 N8q
  have pre8 : Go p.tables e below (s₁.setTop (entryFrame m #[(.ref a0)] 6)) T8 (mkF m 43 #[.val (.ref a0), .unset, .unset, .unset, .unset, .unset] [(.ref b)]) := fun t k => pre7 t (st8.trans k)
  obtain ⟨T9, X9, e9, st9⟩ := castY X8 hx hZ hown (hw _ (List.mem_of_getElem? (i := 152) rfl)) e8 (Ins.self fi9) (g := (mkF m 43 #[.val (.ref a0), .unset, .unset, .unset, .unset, .unset] [(.ref b)])) rfl rfl (hb hby d18_43)
  have pre9 : Go p.tables e below (s₁.setTop (entryFrame m #[(.ref a0)] 6)) T9 (mkF m 46 #[.val (.ref a0), .unset, .unset, .unset, .unset, .unset] [(.ref b)]) := fun t k => pre8 t (st9 _ k)
  have pre10 : Go p.tables e below (s₁.setTop (entryFrame m #[(.ref a0)] 6)) T9 (mkF m 52 #[.val (.ref a0), .val (.ref b), .val (.long (0 : Int64)), .second, .val (.int (0 : Int32)), .unset] []) := fun t k => pre9 t (by
      refine XS.astoreN X9.here hx rfl (hb hby d18_46) rfl rfl (l' := #[.val (.ref a0), .val (.ref b), .unset, .unset, .unset, .unset]) rfl ?_
      show Steps p.tables e below (T9.setTop (mkF m 47 #[.val (.ref a0), .val (.ref b), .unset, .unset, .unset, .unset] [])) _
      refine XS.lconst X9.here hx rfl (hb hby d18_47) ?_
      show Steps p.tables e below (T9.setTop (mkF m 48 #[.val (.ref a0), .val (.ref b), .unset, .unset, .unset, .unset] [(.long (0 : Int64))])) _
      refine XS.lstoreN X9.here hx rfl (hb hby d18_48) rfl (l' := #[.val (.ref a0), .val (.ref b), .val (.long (0 : Int64)), .second, .unset, .unset]) rfl ?_
      show Steps p.tables e below (T9.setTop (mkF m 49 #[.val (.ref a0), .val (.ref b), .val (.long (0 : Int64)), .second, .unset, .unset] [])) _
      refine XS.iconst X9.here hx rfl (hb hby d18_49) ?_
      show Steps p.tables e below (T9.setTop (mkF m 50 #[.val (.ref a0), .val (.ref b), .val (.long (0 : Int64)), .second, .unset, .unset] [(.int (0 : Int32))])) _
      refine XS.istore X9.here hx rfl (hb hby d18_50) rfl (l' := #[.val (.ref a0), .val (.ref b), .val (.long (0 : Int64)), .second, .val (.int (0 : Int32)), .unset]) rfl ?_
      exact k)
  obtain ⟨T11, L11, h11, v11, sq11, aq11, bq11, X11, e11, N11, K11, fE11, fA11, fT11, fC11, hv11, pre11⟩ := lp_nx hx hZ hw hby hml hown a0 b kc (.ref vl) suf h0 n0 g_a0 ne_a0_b 8 T9 _ h0 r pr (0 : Int64) (0 : Int32) .unset X9 e9 N8 (Keep.refl _ _) fi3 fi2 fi0 fi1 fi10 hr0 (own_lt9 hr0) (by omega) (One.u) pre10
  rw [own_dec_eq r hr0] at hv11
  rw [hv11] at pre11
  have f12 : n0 ≤ h11.size := Nat.le_trans Z0 K11.1
  have f13 : Exa Z h11 a0 "com/example/zhangtiao/zhangtiao/input/VarLongs$Cursor" := fi3.keep K11
  have f14 : Fld Z h11 vl "com/example/zhangtiao/zhangtiao/input/VarLongs" "chunks" "Ljava/util/List;" (.ref al) := fi4.keep K11 (ninS ne_a0_vl.symm nin0)
  have f15 : Exa Z h11 al "java/util/ArrayList" := fi5.keep K11
  have f16 : Fld Z h11 al "java/util/ArrayList" "size" "I" (.int ((0 : Int32) + (1 : Int32))) := fi6.keep K11 (ninS ne_a0_al.symm nin0)
  have f17 : Fld Z h11 al "java/util/ArrayList" "elementData" "[Ljava/lang/Object;" (.ref ea) := fi7.keep K11 (ninS ne_a0_al.symm nin0)
  have f18 : Arv Z h11 ea ke (.object "java/lang/Object") (10 : Int32) [(.ref b), .null, .null, .null, .null, .null, .null, .null, .null, .null] .null := fi8.keep K11 (ninS ne_a0_ea.symm nin0)
  have f19 : Exa Z h11 b "[B" := fi9.keep K11
  have f20 : Arv Z h11 b kc .byte (65536 : Int32) (pr ++ (own_enc 8 r ++ suf)) (.int (0 : Int32)) := fi10.keep K11 (ninS ne_a0_b.symm nin0)
  have f21 : Keep h0 h11 [a0] := K0.trans K11 (allS (Or.inl (List.mem_of_getElem? (i := 0) rfl)) all0)
  have pre22 : Go p.tables e below (s₁.setTop (entryFrame m #[(.ref a0)] 6)) T11 (mkF m 88 #[.val (.ref a0), .val (.ref b), .val (.long r), .second, .val (.int sq11), .val (.int bq11)] [(.long r)]) := fun t k => pre11 t (by
      refine XS.lloadN X11.here hx rfl (hb hby d18_87) rfl ?_
      exact k)
  obtain ⟨fs, hr, hrun, hended, hW, hsame⟩ := X11.leave (v := some (.long r)) (fun h => by rw [Bd.returns] at h; cases h) (BodyLoose.notSynchronized Bd)
  refine ⟨_, _, pre22 _ ?_, hrun, hended, _, _, rfl, ?_, ⟨_, rfl⟩, hW, hsame.mono (Nat.le_of_ble_eq_true rfl) (Nat.le_of_ble_eq_true rfl)⟩
  · exact retOut X11 hx Bd.returns rfl (Or.inr (Or.inl ⟨rfl, rfl, _, rfl⟩)) (hb hby d18_88) hr
  · show Q_nxt Z a0 tv vl al ea ke b kc pr r suf h0 n0 _ T11.heap _
    rw [e11]
    exact ⟨aq11, rfl, N11, f21, fT11, fC11, fA11, fE11⟩
theorem pn_law : plainName "com/example/zhangtiao/zhangtiao/input/VarLongsMoveToPinLaw" = true := by first | (simp [plainName, overriddenIn]; done) | decide +kernel
theorem ef_law (m : MethodId) (y0 : Int64) (y1 : Int64) (y2 : Int64) (y3 : Int32) : entryFrame m #[(.long y0), (.long y1), (.long y2), (.int y3)] maxLocals = mkF m 0 #[.val (.long y0), .second, .val (.long y1), .second, .val (.long y2), .second, .val (.int y3), .unset, .unset, .unset, .unset, .unset, .unset, .unset, .unset, .unset, .unset, .unset, .unset, .unset, .unset, .unset, .unset, .unset, .unset] [] := by first | (simp [entryFrame, mkF, argsToLocals, Value.category, maxLocals]; done) | rfl
def Q_law (Z : State) (y0 : Int64) (y1 : Int64) (y2 : Int64) (y3 : Int32) (ad : Addr) (kd : ClassId) (h0 : Heap) (n0 : Nat) (v : Option Value) (h : Heap) (L : List Loc) : Prop := v = some (.int 1) ∧ Fr n0 L
set_option maxRecDepth 65536 in
set_option maxHeartbeats 40000000 in
theorem rm_law (l : Launch) (Z : State) (av0 : Array Value) (hw : ∀ d ∈ tables_1, d.before av0 Z = true) (ws : List Jvm.Cond) (y0 : Int64) (y1 : Int64) (y2 : Int64) (y3 : Int32) (ad : Addr) (kd : ClassId) (h0 : Heap) (n0 : Nat) (Z0 : n0 ≤ h0.size) (O0 : Old Z n0 h0) (S_D : Sta Z Z.heap "java/util/ArrayList" "DEFAULTCAPACITY_EMPTY_ELEMENTDATA" "[Ljava/lang/Object;" (.ref ad)) (V_D : Arv Z Z.heap ad kd (.object "java/lang/Object") (0 : Int32) [] .null) :
    MetFree l x (head1 (Jvm.Cond.code x code maxLocals ret :: ws) room_1) (fun a U => a = #[(.long y0), (.long y1), (.long y2), (.int y3)] ∧ Z.Warmed39 U.vm ∧ U.heap = h0) (fun _ _ _ _ _ => True) (fun _ U o U' => ∃ v L, o = .returned v ∧ Q_law Z y0 y1 y2 y3 ad kd h0 n0 v U'.heap L ∧ FrameEnd U o U' L room_1.cells room_1.slots) := by
  refine MetFree.of_bodySF (plainFor_of_name pn_law) hisR ?_
  intro p e s m args below meth c s₁ Bd hml0 hP hK
  obtain ⟨rfl, hZ, hh⟩ := hP
  have hx := Bd.exec
  have hby := Bd.bytes
  have hml : c.maxLocals = 25 := hml0
  have hown : s.vm.findClass "com/example/zhangtiao/zhangtiao/input/VarLongsMoveToPinLaw" = some m.cls := findClass_of_methodNamed Bd.named
  have hnm := (name_of_methodNamed Bd.named Bd.method).1
  have X0 : Stand p l e room_1 s m #[(.long y0), (.long y1), (.long y2), (.int y3)] below meth c s₁ [] 0 0 := Stand.of_body Bd
  have e0 : s₁.heap = h0 := by rw [← hh, Bd.state]; rfl
  have N0 := Fr.nil n0
  have pre0 : Go p.tables e below (s₁.setTop (entryFrame m #[(.long y0), (.long y1), (.long y2), (.int y3)] maxLocals)) s₁ (mkF m 0 #[.val (.long y0), .second, .val (.long y1), .second, .val (.long y2), .second, .val (.int y3), .unset, .unset, .unset, .unset, .unset, .unset, .unset, .unset, .unset, .unset, .unset, .unset, .unset, .unset, .unset, .unset, .unset, .unset] []) := fun t k => castTop (ef_law m y0 y1 y2 y3) k
  obtain ⟨w1, hw1⟩ : ∃ z : Int64, z = (y0 &&& (9223372036854775807 : Int64)) := ⟨_, rfl⟩
  obtain ⟨w2, hw2⟩ : ∃ z : Int64, z = (y1 &&& (9223372036854775807 : Int64)) := ⟨_, rfl⟩
  obtain ⟨w3, hw3⟩ : ∃ z : Int64, z = (y2 &&& (9223372036854775807 : Int64)) := ⟨_, rfl⟩
  have pre4 : Go p.tables e below (s₁.setTop (entryFrame m #[(.long y0), (.long y1), (.long y2), (.int y3)] maxLocals)) s₁ (mkF m 22 #[.val (.long y0), .second, .val (.long y1), .second, .val (.long y2), .second, .val (.int y3), .val (.long w1), .second, .val (.long w2), .second, .val (.long w3), .second, .unset, .unset, .unset, .unset, .unset, .unset, .unset, .unset, .unset, .unset, .unset, .unset] []) := fun t k => pre0 t (by
      refine XS.lloadN X0.here hx rfl (hb hby at_0) rfl ?_
      show Steps p.tables e below (s₁.setTop (mkF m 1 #[.val (.long y0), .second, .val (.long y1), .second, .val (.long y2), .second, .val (.int y3), .unset, .unset, .unset, .unset, .unset, .unset, .unset, .unset, .unset, .unset, .unset, .unset, .unset, .unset, .unset, .unset, .unset, .unset] [(.long y0)])) _
      refine X0.ldc2Long hx hown (mvT hZ (hw _ (List.mem_of_getElem? (i := 0) rfl))) (g := (mkF m 1 #[.val (.long y0), .second, .val (.long y1), .second, .val (.long y2), .second, .val (.int y3), .unset, .unset, .unset, .unset, .unset, .unset, .unset, .unset, .unset, .unset, .unset, .unset, .unset, .unset, .unset, .unset, .unset, .unset] [(.long y0)])) rfl (hb hby at_1) _ ?_
      show Steps p.tables e below (s₁.setTop (mkF m 4 #[.val (.long y0), .second, .val (.long y1), .second, .val (.long y2), .second, .val (.int y3), .unset, .unset, .unset, .unset, .unset, .unset, .unset, .unset, .unset, .unset, .unset, .unset, .unset, .unset, .unset, .unset, .unset, .unset] [(.long (9223372036854775807 : Int64)), (.long y0)])) _
      refine XS.land X0.here hx rfl (hb hby at_4) rfl ?_
      show Steps p.tables e below (s₁.setTop (mkF m 5 #[.val (.long y0), .second, .val (.long y1), .second, .val (.long y2), .second, .val (.int y3), .unset, .unset, .unset, .unset, .unset, .unset, .unset, .unset, .unset, .unset, .unset, .unset, .unset, .unset, .unset, .unset, .unset, .unset] [(.long (y0 &&& (9223372036854775807 : Int64)))])) _
      refine XS.lstore X0.here hx rfl (x := w1) (rest := []) (hb hby at_5) (by subst hw1; rfl) (l' := #[.val (.long y0), .second, .val (.long y1), .second, .val (.long y2), .second, .val (.int y3), .val (.long w1), .second, .unset, .unset, .unset, .unset, .unset, .unset, .unset, .unset, .unset, .unset, .unset, .unset, .unset, .unset, .unset, .unset]) rfl ?_
      show Steps p.tables e below (s₁.setTop (mkF m 7 #[.val (.long y0), .second, .val (.long y1), .second, .val (.long y2), .second, .val (.int y3), .val (.long w1), .second, .unset, .unset, .unset, .unset, .unset, .unset, .unset, .unset, .unset, .unset, .unset, .unset, .unset, .unset, .unset, .unset] [])) _
      refine XS.lloadN X0.here hx rfl (hb hby at_7) rfl ?_
      show Steps p.tables e below (s₁.setTop (mkF m 8 #[.val (.long y0), .second, .val (.long y1), .second, .val (.long y2), .second, .val (.int y3), .val (.long w1), .second, .unset, .unset, .unset, .unset, .unset, .unset, .unset, .unset, .unset, .unset, .unset, .unset, .unset, .unset, .unset, .unset] [(.long y1)])) _
      refine X0.ldc2Long hx hown (mvT hZ (hw _ (List.mem_of_getElem? (i := 0) rfl))) (g := (mkF m 8 #[.val (.long y0), .second, .val (.long y1), .second, .val (.long y2), .second, .val (.int y3), .val (.long w1), .second, .unset, .unset, .unset, .unset, .unset, .unset, .unset, .unset, .unset, .unset, .unset, .unset, .unset, .unset, .unset, .unset] [(.long y1)])) rfl (hb hby at_8) _ ?_
      show Steps p.tables e below (s₁.setTop (mkF m 11 #[.val (.long y0), .second, .val (.long y1), .second, .val (.long y2), .second, .val (.int y3), .val (.long w1), .second, .unset, .unset, .unset, .unset, .unset, .unset, .unset, .unset, .unset, .unset, .unset, .unset, .unset, .unset, .unset, .unset] [(.long (9223372036854775807 : Int64)), (.long y1)])) _
      refine XS.land X0.here hx rfl (hb hby at_11) rfl ?_
      show Steps p.tables e below (s₁.setTop (mkF m 12 #[.val (.long y0), .second, .val (.long y1), .second, .val (.long y2), .second, .val (.int y3), .val (.long w1), .second, .unset, .unset, .unset, .unset, .unset, .unset, .unset, .unset, .unset, .unset, .unset, .unset, .unset, .unset, .unset, .unset] [(.long (y1 &&& (9223372036854775807 : Int64)))])) _
      refine XS.lstore X0.here hx rfl (x := w2) (rest := []) (hb hby at_12) (by subst hw2; rfl) (l' := #[.val (.long y0), .second, .val (.long y1), .second, .val (.long y2), .second, .val (.int y3), .val (.long w1), .second, .val (.long w2), .second, .unset, .unset, .unset, .unset, .unset, .unset, .unset, .unset, .unset, .unset, .unset, .unset, .unset, .unset]) rfl ?_
      show Steps p.tables e below (s₁.setTop (mkF m 14 #[.val (.long y0), .second, .val (.long y1), .second, .val (.long y2), .second, .val (.int y3), .val (.long w1), .second, .val (.long w2), .second, .unset, .unset, .unset, .unset, .unset, .unset, .unset, .unset, .unset, .unset, .unset, .unset, .unset, .unset] [])) _
      refine XS.lload X0.here hx rfl (hb hby at_14) rfl ?_
      show Steps p.tables e below (s₁.setTop (mkF m 16 #[.val (.long y0), .second, .val (.long y1), .second, .val (.long y2), .second, .val (.int y3), .val (.long w1), .second, .val (.long w2), .second, .unset, .unset, .unset, .unset, .unset, .unset, .unset, .unset, .unset, .unset, .unset, .unset, .unset, .unset] [(.long y2)])) _
      refine X0.ldc2Long hx hown (mvT hZ (hw _ (List.mem_of_getElem? (i := 0) rfl))) (g := (mkF m 16 #[.val (.long y0), .second, .val (.long y1), .second, .val (.long y2), .second, .val (.int y3), .val (.long w1), .second, .val (.long w2), .second, .unset, .unset, .unset, .unset, .unset, .unset, .unset, .unset, .unset, .unset, .unset, .unset, .unset, .unset] [(.long y2)])) rfl (hb hby at_16) _ ?_
      show Steps p.tables e below (s₁.setTop (mkF m 19 #[.val (.long y0), .second, .val (.long y1), .second, .val (.long y2), .second, .val (.int y3), .val (.long w1), .second, .val (.long w2), .second, .unset, .unset, .unset, .unset, .unset, .unset, .unset, .unset, .unset, .unset, .unset, .unset, .unset, .unset] [(.long (9223372036854775807 : Int64)), (.long y2)])) _
      refine XS.land X0.here hx rfl (hb hby at_19) rfl ?_
      show Steps p.tables e below (s₁.setTop (mkF m 20 #[.val (.long y0), .second, .val (.long y1), .second, .val (.long y2), .second, .val (.int y3), .val (.long w1), .second, .val (.long w2), .second, .unset, .unset, .unset, .unset, .unset, .unset, .unset, .unset, .unset, .unset, .unset, .unset, .unset, .unset] [(.long (y2 &&& (9223372036854775807 : Int64)))])) _
      refine XS.lstore X0.here hx rfl (x := w3) (rest := []) (hb hby at_20) (by subst hw3; rfl) (l' := #[.val (.long y0), .second, .val (.long y1), .second, .val (.long y2), .second, .val (.int y3), .val (.long w1), .second, .val (.long w2), .second, .val (.long w3), .second, .unset, .unset, .unset, .unset, .unset, .unset, .unset, .unset, .unset, .unset, .unset, .unset]) rfl ?_
      exact k)
  have hq_w1 : 0 ≤ w1.toInt := by rw [hw1]; exact own_pos63 _
  have hq_w2 : 0 ≤ w2.toInt := by rw [hw2]; exact own_pos63 _
  have hq_w3 : 0 ≤ w3.toInt := by rw [hw3]; exact own_pos63 _
  have hL1 : ([] ++ own_enc 8 w1).length ≤ 9 := own_enc_len 8 w1
  have hL2 : (([] ++ own_enc 8 w1) ++ own_enc 8 w2).length ≤ 18 := by rw [List.length_append]; have := own_enc_len 8 w2; omega
  obtain ⟨T5, L5, h5, b5, w21, w36, w49, b60, w98, w99, b23, al13, ea23, ke23, kc23, X5, e5, N5, hw21, hw36, hw49, hw98, hw99, fb5_0, fb5_1, fb5_2, fb5_3, fb5_4, fb5_5, fb5_6, fb5_7, fb5_8, fb5_9, fb5_10, fb5_11, fb5_12, fb5_13, fb5_14, fb5_15, nb5_0, nb5_1, nb5_2, nb5_3, nb5_4, nb5_5, nb5_6, nb5_7, nb5_8, nb5_9, gb5_0, gb5_1, gb5_2, gb5_3, gb5_4, pre5⟩ : ∃ (T5 : State) (L5 : List Loc) (h5 : Heap) (b5 : Addr) (w21 : Int64) (w36 : Int64) (w49 : Int64) (b60 : Addr) (w98 : Int32) (w99 : Int32) (b23 : Addr) (al13 : Addr) (ea23 : Addr) (ke23 : ClassId) (kc23 : ClassId), Stand p l e room_1 s m #[(.long y0), (.long y1), (.long y2), (.int y3)] below meth c T5 L5 5 65555 ∧ T5.heap = h5 ∧ Fr n0 L5 ∧ w21 = (own_pos (0 : Int32) (65536 : Int32)) ∧ w36 = (own_pos ((0 : Int32) + (1 : Int32)) (own_n ([] ++ own_enc 8 w1))) ∧ w49 = (own_pos ((0 : Int32) + (1 : Int32)) (own_n (([] ++ own_enc 8 w1) ++ own_enc 8 w2))) ∧ w98 = ((y3 &&& (2147483647 : Int32)) % (3 : Int32)) ∧ w99 = ((((y3.toUInt32 >>> ((8 : Int32) &&& 31).toUInt32).toInt32) &&& (2147483647 : Int32)) % (3 : Int32)) ∧ n0 ≤ h5.size ∧ Old Z n0 h5 ∧ Exa Z h5 b23 "[B" ∧ Exa Z h5 al13 "java/util/ArrayList" ∧ Fld Z h5 al13 "java/util/ArrayList" "elementData" "[Ljava/lang/Object;" (.ref ea23) ∧ Fld Z h5 al13 "java/util/ArrayList" "size" "I" (.int ((0 : Int32) + (1 : Int32))) ∧ Arv Z h5 ea23 ke23 (.object "java/lang/Object") (10 : Int32) [(.ref b23), .null, .null, .null, .null, .null, .null, .null, .null, .null] .null ∧ Exa Z h5 b5 "com/example/zhangtiao/zhangtiao/input/VarLongs" ∧ Fld Z h5 b5 "com/example/zhangtiao/zhangtiao/input/VarLongs" "last" "[B" (.ref b23) ∧ Fld Z h5 b5 "com/example/zhangtiao/zhangtiao/input/VarLongs" "position" "I" (.int (own_n ((([] ++ own_enc 8 w1) ++ own_enc 8 w2) ++ own_enc 8 w3))) ∧ Fld Z h5 b5 "com/example/zhangtiao/zhangtiao/input/VarLongs" "chunks" "Ljava/util/List;" (.ref al13) ∧ Arv Z h5 b23 kc23 .byte (65536 : Int32) ((([] ++ own_enc 8 w1) ++ own_enc 8 w2) ++ own_enc 8 w3) (.int (0 : Int32)) ∧ Fld Z h5 b60 "com/example/zhangtiao/zhangtiao/input/VarLongs$Cursor" "this$0" "Lcom/example/zhangtiao/zhangtiao/input/VarLongs;" (.ref b5) ∧ Fld Z h5 b60 "com/example/zhangtiao/zhangtiao/input/VarLongs$Cursor" "chunk" "I" (.int (0 : Int32)) ∧ Fld Z h5 b60 "com/example/zhangtiao/zhangtiao/input/VarLongs$Cursor" "at" "I" (.int (0 : Int32)) ∧ Exa Z h5 b60 "com/example/zhangtiao/zhangtiao/input/VarLongs$Cursor" ∧ al13 ≠ b23 ∧ al13 ≠ b5 ∧ al13 ≠ b60 ∧ al13 ≠ ea23 ∧ b23 ≠ b5 ∧ b23 ≠ b60 ∧ b23 ≠ ea23 ∧ b5 ≠ b60 ∧ b5 ≠ ea23 ∧ b60 ≠ ea23 ∧ n0 ≤ al13 ∧ n0 ≤ b23 ∧ n0 ≤ b5 ∧ n0 ≤ b60 ∧ n0 ≤ ea23 ∧ Go p.tables e below (s₁.setTop (entryFrame m #[(.long y0), (.long y1), (.long y2), (.int y3)] maxLocals)) T5 (mkF m 110 #[.val (.long y0), .second, .val (.long y1), .second, .val (.long y2), .second, .val (.int y3), .val (.long w1), .second, .val (.long w2), .second, .val (.long w3), .second, .val (.ref b5), .val (.long w21), .second, .val (.long w36), .second, .val (.long w49), .second, .val (.ref b60), .val (.int w98), .val (.int w99), .unset, .unset] []) := by
    obtain ⟨T5, h5, X5, e5, E5, A5, D5, -, st5⟩ := newO X0 hx hZ hown (hw _ (List.mem_of_getElem? (i := 1) rfl)) (hw _ (List.mem_of_getElem? (i := 2) rfl)) (hw _ (List.mem_of_getElem? (i := 3) rfl)) e0 (g := (mkF m 22 #[.val (.long y0), .second, .val (.long y1), .second, .val (.long y2), .second, .val (.int y3), .val (.long w1), .second, .val (.long w2), .second, .val (.long w3), .second, .unset, .unset, .unset, .unset, .unset, .unset, .unset, .unset, .unset, .unset, .unset, .unset] [])) rfl (hb hby at_22) (by decide) (by decide)
    obtain ⟨b5, ga5⟩ : ∃ z, z = h0.size := ⟨_, rfl⟩
    rw [← ga5] at A5 D5 st5
    have g6 : n0 ≤ b5 := Nat.le_trans Z0 (Nat.le_of_eq ga5.symm)
    have f7 : n0 ≤ h5.size := Nat.le_trans Z0 E5.1
    have f8 : Old Z n0 h5 := O0.ext E5
    have f9 : Fld Z h5 b5 "com/example/zhangtiao/zhangtiao/input/VarLongs" "chunks" "Ljava/util/List;" .null := D5 (Or.inr (hw _ (List.mem_of_getElem? (i := 35) rfl))) (ty := (.object "java/util/List")) (by decide)
    have f10 : Fld Z h5 b5 "com/example/zhangtiao/zhangtiao/input/VarLongs" "position" "I" (.int (0 : Int32)) := D5 (Or.inl (hw _ (List.mem_of_getElem? (i := 38) rfl))) (ty := .int) (by decide)
    have f11 : Fld Z h5 b5 "com/example/zhangtiao/zhangtiao/input/VarLongs" "last" "[B" .null := D5 (Or.inl (hw _ (List.mem_of_getElem? (i := 63) rfl))) (ty := (.array .byte)) (by decide)
    have pre5 : Go p.tables e below (s₁.setTop (entryFrame m #[(.long y0), (.long y1), (.long y2), (.int y3)] maxLocals)) T5 (mkF m 25 #[.val (.long y0), .second, .val (.long y1), .second, .val (.long y2), .second, .val (.int y3), .val (.long w1), .second, .val (.long w2), .second, .val (.long w3), .second, .unset, .unset, .unset, .unset, .unset, .unset, .unset, .unset, .unset, .unset, .unset, .unset] [(.ref b5)]) := fun t k => pre4 t (st5 _ k)
    have pre12 : Go p.tables e below (s₁.setTop (entryFrame m #[(.long y0), (.long y1), (.long y2), (.int y3)] maxLocals)) T5 (mkF m 26 #[.val (.long y0), .second, .val (.long y1), .second, .val (.long y2), .second, .val (.int y3), .val (.long w1), .second, .val (.long w2), .second, .val (.long w3), .second, .unset, .unset, .unset, .unset, .unset, .unset, .unset, .unset, .unset, .unset, .unset, .unset] [(.ref b5), (.ref b5)]) := fun t k => pre5 t (by
        refine XS.dup X5.here hx rfl (hb hby at_25) rfl rfl ?_
        exact k)
    obtain ⟨_, _, ⟨T13, L13, k13, n13⟩, -, X13, ⟨Lc13, hQ13, l13, y13, z13⟩, st13⟩ := X5.specialBack hx (y := (⟨"com/example/zhangtiao/zhangtiao/input/VarLongs", "<init>", "()V"⟩ : MethodName)) rfl hown (mvT hZ (hw _ (List.mem_of_getElem? (i := 4) rfl))) (mvT hZ (hw _ (List.mem_of_getElem? (i := 5) rfl))) (mvT hZ (hw _ (List.mem_of_getElem? (i := 6) rfl))) (by decide) (backOf (W := 1) (rm_ini_vl l Z av0 hw [] b5 ad h5 n0 f7 f8 f9 f11 f10 A5 g6 S_D) hZ (hw _ (List.mem_of_getElem? (i := 6) rfl)) (hw _ (List.mem_of_getElem? (i := 3) rfl)) (by decide) (by decide)) (g := (mkF m 26 #[.val (.long y0), .second, .val (.long y1), .second, .val (.long y2), .second, .val (.int y3), .val (.long w1), .second, .val (.long w2), .second, .val (.long w3), .second, .unset, .unset, .unset, .unset, .unset, .unset, .unset, .unset, .unset, .unset, .unset, .unset] [(.ref b5), (.ref b5)])) rfl (by rw [hml]; rfl) (Steps.refl _) (a := b5) (argsL := []) (rest := [(.ref b5)]) (lenOf pd_0 rfl) rfl (by show 2 * 0 + _ ≤ _; exact Nat.le_of_eq rfl) (hb hby at_26) (fun _ _ => ⟨rfl, e5, (by decide : 1 + 1 ≤ _), (by decide : 3 + 3 ≤ _)⟩)
    dsimp only [Pt.U, Pt.locs, Pt.cells, Pt.slots] at X13 l13 y13 z13 st13 hQ13
    subst l13 y13 z13
    obtain ⟨al13, hv13, N13q, K13, sal13, gal13, fo13_0, fo13_1, fo13_2, fo13_3, fo13_4, fo13_5, fo13_6, fo13_7⟩ := hQ13
    have ne14 : b5 ≠ al13 := Nat.ne_of_lt (Nat.lt_of_lt_of_le A5.lt sal13)
    have g15 : n0 ≤ al13 := Nat.le_trans f7 sal13
    have f16 : n0 ≤ T13.heap.size := Nat.le_trans f7 K13.1
    have f17 : Old Z n0 T13.heap := f8.keep K13 (allS g6 all0)
    have f18 : Exa Z T13.heap b5 "com/example/zhangtiao/zhangtiao/input/VarLongs" := A5.keep K13
    subst hv13
    have N13 := Fr.app N0 N13q
    have pre13 : Go p.tables e below (s₁.setTop (entryFrame m #[(.long y0), (.long y1), (.long y2), (.int y3)] maxLocals)) T13 (mkF m 29 #[.val (.long y0), .second, .val (.long y1), .second, .val (.long y2), .second, .val (.int y3), .val (.long w1), .second, .val (.long w2), .second, .val (.long w3), .second, .unset, .unset, .unset, .unset, .unset, .unset, .unset, .unset, .unset, .unset, .unset, .unset] [(.ref b5)]) := fun t k => pre12 t (st13.trans k)
    have pre19 : Go p.tables e below (s₁.setTop (entryFrame m #[(.long y0), (.long y1), (.long y2), (.int y3)] maxLocals)) T13 (mkF m 33 #[.val (.long y0), .second, .val (.long y1), .second, .val (.long y2), .second, .val (.int y3), .val (.long w1), .second, .val (.long w2), .second, .val (.long w3), .second, .val (.ref b5), .unset, .unset, .unset, .unset, .unset, .unset, .unset, .unset, .unset, .unset, .unset] [(.ref b5)]) := fun t k => pre13 t (by
        refine XS.astore X13.here hx rfl (hb hby at_29) rfl rfl (l' := #[.val (.long y0), .second, .val (.long y1), .second, .val (.long y2), .second, .val (.int y3), .val (.long w1), .second, .val (.long w2), .second, .val (.long w3), .second, .val (.ref b5), .unset, .unset, .unset, .unset, .unset, .unset, .unset, .unset, .unset, .unset, .unset]) rfl ?_
        show Steps p.tables e below (T13.setTop (mkF m 31 #[.val (.long y0), .second, .val (.long y1), .second, .val (.long y2), .second, .val (.int y3), .val (.long w1), .second, .val (.long w2), .second, .val (.long w3), .second, .val (.ref b5), .unset, .unset, .unset, .unset, .unset, .unset, .unset, .unset, .unset, .unset, .unset] [])) _
        refine XS.aload X13.here hx rfl (hb hby at_31) rfl rfl ?_
        exact k)
    obtain ⟨cq20, kq20, q20a, q20b, q20c⟩ := isOf hZ rfl fo13_3
    obtain ⟨_, _, ⟨T20, L20, k20, n20⟩, -, X20, ⟨Lc20, hQ20, l20, y20, z20⟩, st20⟩ := X13.virtualBack hx (y := (⟨"com/example/zhangtiao/zhangtiao/input/VarLongs", "position", "()J"⟩ : MethodName)) (z := (⟨"com/example/zhangtiao/zhangtiao/input/VarLongs", "position", "()J"⟩ : MethodName)) hown (mvT hZ (hw _ (List.mem_of_getElem? (i := 39) rfl))) (mvT hZ (hw _ (List.mem_of_getElem? (i := 40) rfl))) (notFace_of_selects (args := #[]) (mvT hZ (hw _ (List.mem_of_getElem? (i := 42) rfl)))) (mvT hZ (hw _ (List.mem_of_getElem? (i := 42) rfl))) (mvT hZ (hw _ (List.mem_of_getElem? (i := 41) rfl))) (by decide) (backOf (W := 0) (rm_pos l Z av0 hw [] b5 al13 (0 : Int32) (65536 : Int32) T13.heap n0  fo13_0 fo13_2 fo13_7 fo13_6) hZ (hw _ (List.mem_of_getElem? (i := 43) rfl)) (hw _ (List.mem_of_getElem? (i := 3) rfl)) (by decide) (by decide)) q20a q20c (g := (mkF m 33 #[.val (.long y0), .second, .val (.long y1), .second, .val (.long y2), .second, .val (.int y3), .val (.long w1), .second, .val (.long w2), .second, .val (.long w3), .second, .val (.ref b5), .unset, .unset, .unset, .unset, .unset, .unset, .unset, .unset, .unset, .unset, .unset] [(.ref b5)])) rfl (by rw [hml]; rfl) (Steps.refl _) (argsL := []) (rest := []) (lenOf pd_9 rfl) rfl (by show 2 * 0 + _ ≤ _; exact Nat.le_of_eq rfl) (hb hby at_33) (fun _ _ => ⟨rfl, rfl, (by decide : 2 + 0 ≤ _), (by decide : 6 + 0 ≤ _)⟩)
    dsimp only [Pt.U, Pt.locs, Pt.cells, Pt.slots] at X20 l20 y20 z20 st20 hQ20
    subst l20 y20 z20
    obtain ⟨hv20, N20q, e20⟩ := hQ20
    subst hv20
    have N20 := Fr.app N13 N20q
    have pre20 : Go p.tables e below (s₁.setTop (entryFrame m #[(.long y0), (.long y1), (.long y2), (.int y3)] maxLocals)) T20 (mkF m 36 #[.val (.long y0), .second, .val (.long y1), .second, .val (.long y2), .second, .val (.int y3), .val (.long w1), .second, .val (.long w2), .second, .val (.long w3), .second, .val (.ref b5), .unset, .unset, .unset, .unset, .unset, .unset, .unset, .unset, .unset, .unset, .unset] [(.long (own_pos (0 : Int32) (65536 : Int32)))]) := fun t k => pre19 t (st20.trans k)
    obtain ⟨w21, hw21⟩ : ∃ z : Int64, z = (own_pos (0 : Int32) (65536 : Int32)) := ⟨_, rfl⟩
    have pre22 : Go p.tables e below (s₁.setTop (entryFrame m #[(.long y0), (.long y1), (.long y2), (.int y3)] maxLocals)) T20 (mkF m 42 #[.val (.long y0), .second, .val (.long y1), .second, .val (.long y2), .second, .val (.int y3), .val (.long w1), .second, .val (.long w2), .second, .val (.long w3), .second, .val (.ref b5), .val (.long w21), .second, .unset, .unset, .unset, .unset, .unset, .unset, .unset, .unset, .unset] [(.long w1), (.ref b5)]) := fun t k => pre20 t (by
        refine XS.lstore X20.here hx rfl (x := w21) (rest := []) (hb hby at_36) (by subst hw21; rfl) (l' := #[.val (.long y0), .second, .val (.long y1), .second, .val (.long y2), .second, .val (.int y3), .val (.long w1), .second, .val (.long w2), .second, .val (.long w3), .second, .val (.ref b5), .val (.long w21), .second, .unset, .unset, .unset, .unset, .unset, .unset, .unset, .unset, .unset]) rfl ?_
        show Steps p.tables e below (T20.setTop (mkF m 38 #[.val (.long y0), .second, .val (.long y1), .second, .val (.long y2), .second, .val (.int y3), .val (.long w1), .second, .val (.long w2), .second, .val (.long w3), .second, .val (.ref b5), .val (.long w21), .second, .unset, .unset, .unset, .unset, .unset, .unset, .unset, .unset, .unset] [])) _
        refine XS.aload X20.here hx rfl (hb hby at_38) rfl rfl ?_
        show Steps p.tables e below (T20.setTop (mkF m 40 #[.val (.long y0), .second, .val (.long y1), .second, .val (.long y2), .second, .val (.int y3), .val (.long w1), .second, .val (.long w2), .second, .val (.long w3), .second, .val (.ref b5), .val (.long w21), .second, .unset, .unset, .unset, .unset, .unset, .unset, .unset, .unset, .unset] [(.ref b5)])) _
        refine XS.lload X20.here hx rfl (hb hby at_40) rfl ?_
        exact k)
    obtain ⟨cq23, kq23, q23a, q23b, q23c⟩ := isOf hZ e20 fo13_3
    obtain ⟨_, _, ⟨T23, L23, k23, n23⟩, -, X23, ⟨Lc23, hQ23, l23, y23, z23⟩, st23⟩ := X20.virtualBack hx (y := (⟨"com/example/zhangtiao/zhangtiao/input/VarLongs", "add", "(J)V"⟩ : MethodName)) (z := (⟨"com/example/zhangtiao/zhangtiao/input/VarLongs", "add", "(J)V"⟩ : MethodName)) hown (mvT hZ (hw _ (List.mem_of_getElem? (i := 56) rfl))) (mvT hZ (hw _ (List.mem_of_getElem? (i := 57) rfl))) (notFace_of_selects (args := #[]) (mvT hZ (hw _ (List.mem_of_getElem? (i := 59) rfl)))) (mvT hZ (hw _ (List.mem_of_getElem? (i := 59) rfl))) (mvT hZ (hw _ (List.mem_of_getElem? (i := 58) rfl))) (by decide) (backOf (W := 0) (rm_ad0 l Z av0 hw [] b5 w1 al13 ad kd T13.heap n0 f16 f17 fo13_3 fo13_0 fo13_1 fo13_2 fo13_4 fo13_5 fo13_6 fo13_7 (V_D.ext f17.2) g6 gal13 ne14 (Old.ne O0 V_D.lt g6).symm (Old.ne O0 V_D.lt gal13).symm S_D hq_w1) hZ (hw _ (List.mem_of_getElem? (i := 60) rfl)) (hw _ (List.mem_of_getElem? (i := 3) rfl)) (by decide) (by decide)) q23a q23c (g := (mkF m 42 #[.val (.long y0), .second, .val (.long y1), .second, .val (.long y2), .second, .val (.int y3), .val (.long w1), .second, .val (.long w2), .second, .val (.long w3), .second, .val (.ref b5), .val (.long w21), .second, .unset, .unset, .unset, .unset, .unset, .unset, .unset, .unset, .unset] [(.long w1), (.ref b5)])) rfl (by rw [hml]; rfl) (Steps.refl _) (argsL := [(.long w1)]) (rest := []) (lenOf pd_10 rfl) rfl (by show 2 * 0 + _ ≤ _; exact Nat.le_of_eq rfl) (hb hby at_42) (fun _ _ => ⟨rfl, e20, (by decide : 2 + 2 ≤ _), (by decide : 6 + 65546 ≤ _)⟩)
    dsimp only [Pt.U, Pt.locs, Pt.cells, Pt.slots] at X23 l23 y23 z23 st23 hQ23
    subst l23 y23 z23
    obtain ⟨b23, kc23, ea23, ke23, hv23, N23q, K23, sb23, gb23, sea23, gea23, fo23_0, fo23_1, fo23_2, fo23_3, fo23_4, fo23_5, fo23_6, fo23_7, fo23_8, fo23_9, po23_0⟩ := hQ23
    have ne24 : b5 ≠ b23 := Nat.ne_of_lt (Nat.lt_of_lt_of_le fo13_0.lt sb23)
    have ne25 : al13 ≠ b23 := Nat.ne_of_lt (Nat.lt_of_lt_of_le fo13_4.lt sb23)
    have g26 : n0 ≤ b23 := Nat.le_trans f16 sb23
    have ne27 : b5 ≠ ea23 := Nat.ne_of_lt (Nat.lt_of_lt_of_le fo13_0.lt sea23)
    have ne28 : al13 ≠ ea23 := Nat.ne_of_lt (Nat.lt_of_lt_of_le fo13_4.lt sea23)
    have g29 : n0 ≤ ea23 := Nat.le_trans f16 sea23
    have f30 : n0 ≤ T23.heap.size := Nat.le_trans f16 K23.1
    have f31 : Old Z n0 T23.heap := f17.keep K23 (allS g6 (allS gal13 all0))
    have f32 : Exa Z T23.heap b5 "com/example/zhangtiao/zhangtiao/input/VarLongs" := fo13_3.keep K23
    have f33 : Exa Z T23.heap al13 "java/util/ArrayList" := fo13_7.keep K23
    subst hv23
    have N23 := Fr.app N20 N23q
    have pre23 : Go p.tables e below (s₁.setTop (entryFrame m #[(.long y0), (.long y1), (.long y2), (.int y3)] maxLocals)) T23 (mkF m 45 #[.val (.long y0), .second, .val (.long y1), .second, .val (.long y2), .second, .val (.int y3), .val (.long w1), .second, .val (.long w2), .second, .val (.long w3), .second, .val (.ref b5), .val (.long w21), .second, .unset, .unset, .unset, .unset, .unset, .unset, .unset, .unset, .unset] []) := fun t k => pre22 t (st23.trans k)
    have pre34 : Go p.tables e below (s₁.setTop (entryFrame m #[(.long y0), (.long y1), (.long y2), (.int y3)] maxLocals)) T23 (mkF m 47 #[.val (.long y0), .second, .val (.long y1), .second, .val (.long y2), .second, .val (.int y3), .val (.long w1), .second, .val (.long w2), .second, .val (.long w3), .second, .val (.ref b5), .val (.long w21), .second, .unset, .unset, .unset, .unset, .unset, .unset, .unset, .unset, .unset] [(.ref b5)]) := fun t k => pre23 t (by
        refine XS.aload X23.here hx rfl (hb hby at_45) rfl rfl ?_
        exact k)
    obtain ⟨cq35, kq35, q35a, q35b, q35c⟩ := isOf hZ rfl fo23_0
    obtain ⟨_, _, ⟨T35, L35, k35, n35⟩, -, X35, ⟨Lc35, hQ35, l35, y35, z35⟩, st35⟩ := X23.virtualBack hx (y := (⟨"com/example/zhangtiao/zhangtiao/input/VarLongs", "position", "()J"⟩ : MethodName)) (z := (⟨"com/example/zhangtiao/zhangtiao/input/VarLongs", "position", "()J"⟩ : MethodName)) hown (mvT hZ (hw _ (List.mem_of_getElem? (i := 39) rfl))) (mvT hZ (hw _ (List.mem_of_getElem? (i := 40) rfl))) (notFace_of_selects (args := #[]) (mvT hZ (hw _ (List.mem_of_getElem? (i := 42) rfl)))) (mvT hZ (hw _ (List.mem_of_getElem? (i := 42) rfl))) (mvT hZ (hw _ (List.mem_of_getElem? (i := 41) rfl))) (by decide) (backOf (W := 0) (rm_pos l Z av0 hw [] b5 al13 ((0 : Int32) + (1 : Int32)) (own_n ([] ++ own_enc 8 w1)) T23.heap n0  fo23_3 fo23_2 fo23_6 fo23_8) hZ (hw _ (List.mem_of_getElem? (i := 43) rfl)) (hw _ (List.mem_of_getElem? (i := 3) rfl)) (by decide) (by decide)) q35a q35c (g := (mkF m 47 #[.val (.long y0), .second, .val (.long y1), .second, .val (.long y2), .second, .val (.int y3), .val (.long w1), .second, .val (.long w2), .second, .val (.long w3), .second, .val (.ref b5), .val (.long w21), .second, .unset, .unset, .unset, .unset, .unset, .unset, .unset, .unset, .unset] [(.ref b5)])) rfl (by rw [hml]; rfl) (Steps.refl _) (argsL := []) (rest := []) (lenOf pd_9 rfl) rfl (by show 2 * 0 + _ ≤ _; exact Nat.le_of_eq rfl) (hb hby at_47) (fun _ _ => ⟨rfl, rfl, (by decide : 4 + 0 ≤ _), (by decide : 65552 + 0 ≤ _)⟩)
    dsimp only [Pt.U, Pt.locs, Pt.cells, Pt.slots] at X35 l35 y35 z35 st35 hQ35
    subst l35 y35 z35
    obtain ⟨hv35, N35q, e35⟩ := hQ35
    subst hv35
    have N35 := Fr.app N23 N35q
    have pre35 : Go p.tables e below (s₁.setTop (entryFrame m #[(.long y0), (.long y1), (.long y2), (.int y3)] maxLocals)) T35 (mkF m 50 #[.val (.long y0), .second, .val (.long y1), .second, .val (.long y2), .second, .val (.int y3), .val (.long w1), .second, .val (.long w2), .second, .val (.long w3), .second, .val (.ref b5), .val (.long w21), .second, .unset, .unset, .unset, .unset, .unset, .unset, .unset, .unset, .unset] [(.long (own_pos ((0 : Int32) + (1 : Int32)) (own_n ([] ++ own_enc 8 w1))))]) := fun t k => pre34 t (st35.trans k)
    obtain ⟨w36, hw36⟩ : ∃ z : Int64, z = (own_pos ((0 : Int32) + (1 : Int32)) (own_n ([] ++ own_enc 8 w1))) := ⟨_, rfl⟩
    have pre37 : Go p.tables e below (s₁.setTop (entryFrame m #[(.long y0), (.long y1), (.long y2), (.int y3)] maxLocals)) T35 (mkF m 56 #[.val (.long y0), .second, .val (.long y1), .second, .val (.long y2), .second, .val (.int y3), .val (.long w1), .second, .val (.long w2), .second, .val (.long w3), .second, .val (.ref b5), .val (.long w21), .second, .val (.long w36), .second, .unset, .unset, .unset, .unset, .unset, .unset, .unset] [(.long w2), (.ref b5)]) := fun t k => pre35 t (by
        refine XS.lstore X35.here hx rfl (x := w36) (rest := []) (hb hby at_50) (by subst hw36; rfl) (l' := #[.val (.long y0), .second, .val (.long y1), .second, .val (.long y2), .second, .val (.int y3), .val (.long w1), .second, .val (.long w2), .second, .val (.long w3), .second, .val (.ref b5), .val (.long w21), .second, .val (.long w36), .second, .unset, .unset, .unset, .unset, .unset, .unset, .unset]) rfl ?_
        show Steps p.tables e below (T35.setTop (mkF m 52 #[.val (.long y0), .second, .val (.long y1), .second, .val (.long y2), .second, .val (.int y3), .val (.long w1), .second, .val (.long w2), .second, .val (.long w3), .second, .val (.ref b5), .val (.long w21), .second, .val (.long w36), .second, .unset, .unset, .unset, .unset, .unset, .unset, .unset] [])) _
        refine XS.aload X35.here hx rfl (hb hby at_52) rfl rfl ?_
        show Steps p.tables e below (T35.setTop (mkF m 54 #[.val (.long y0), .second, .val (.long y1), .second, .val (.long y2), .second, .val (.int y3), .val (.long w1), .second, .val (.long w2), .second, .val (.long w3), .second, .val (.ref b5), .val (.long w21), .second, .val (.long w36), .second, .unset, .unset, .unset, .unset, .unset, .unset, .unset] [(.ref b5)])) _
        refine XS.lload X35.here hx rfl (hb hby at_54) rfl ?_
        exact k)
    obtain ⟨cq38, kq38, q38a, q38b, q38c⟩ := isOf hZ e35 fo23_0
    obtain ⟨_, _, ⟨T38, L38, k38, n38⟩, -, X38, ⟨Lc38, hQ38, l38, y38, z38⟩, st38⟩ := X35.virtualBack hx (y := (⟨"com/example/zhangtiao/zhangtiao/input/VarLongs", "add", "(J)V"⟩ : MethodName)) (z := (⟨"com/example/zhangtiao/zhangtiao/input/VarLongs", "add", "(J)V"⟩ : MethodName)) hown (mvT hZ (hw _ (List.mem_of_getElem? (i := 56) rfl))) (mvT hZ (hw _ (List.mem_of_getElem? (i := 57) rfl))) (notFace_of_selects (args := #[]) (mvT hZ (hw _ (List.mem_of_getElem? (i := 59) rfl)))) (mvT hZ (hw _ (List.mem_of_getElem? (i := 59) rfl))) (mvT hZ (hw _ (List.mem_of_getElem? (i := 58) rfl))) (by decide) (backOf (W := 0) (rm_ad2 l Z av0 hw [] b5 w2 b23 kc23 (.ref al13) ([] ++ own_enc 8 w1) T23.heap n0 f30 fo23_0 fo23_1 fo23_2 fo23_3 fo23_4 g6 gb23 ne24 hq_w2 (Nat.le_trans hL1 (by decide))) hZ (hw _ (List.mem_of_getElem? (i := 60) rfl)) (hw _ (List.mem_of_getElem? (i := 3) rfl)) (by decide) (by decide)) q38a q38c (g := (mkF m 56 #[.val (.long y0), .second, .val (.long y1), .second, .val (.long y2), .second, .val (.int y3), .val (.long w1), .second, .val (.long w2), .second, .val (.long w3), .second, .val (.ref b5), .val (.long w21), .second, .val (.long w36), .second, .unset, .unset, .unset, .unset, .unset, .unset, .unset] [(.long w2), (.ref b5)])) rfl (by rw [hml]; rfl) (Steps.refl _) (argsL := [(.long w2)]) (rest := []) (lenOf pd_10 rfl) rfl (by show 2 * 0 + _ ≤ _; exact Nat.le_of_eq rfl) (hb hby at_56) (fun _ _ => ⟨rfl, e35, (by decide : 4 + 0 ≤ _), (by decide : 65552 + 0 ≤ _)⟩)
    dsimp only [Pt.U, Pt.locs, Pt.cells, Pt.slots] at X38 l38 y38 z38 st38 hQ38
    subst l38 y38 z38
    obtain ⟨hv38, N38q, K38, fo38_0, fo38_1, fo38_2, fo38_3, fo38_4⟩ := hQ38
    have f39 : n0 ≤ T38.heap.size := Nat.le_trans f30 K38.1
    have f40 : Old Z n0 T38.heap := f31.keep K38 (allS g6 (allS gb23 all0))
    have f41 : Exa Z T38.heap b5 "com/example/zhangtiao/zhangtiao/input/VarLongs" := fo23_0.keep K38
    have f42 : Exa Z T38.heap b23 "[B" := fo23_5.keep K38
    have f43 : Exa Z T38.heap al13 "java/util/ArrayList" := fo23_6.keep K38
    have f44 : Fld Z T38.heap al13 "java/util/ArrayList" "elementData" "[Ljava/lang/Object;" (.ref ea23) := fo23_7.keep K38 (ninS ne14.symm (ninS ne25 nin0))
    have f45 : Fld Z T38.heap al13 "java/util/ArrayList" "size" "I" (.int ((0 : Int32) + (1 : Int32))) := fo23_8.keep K38 (ninS ne14.symm (ninS ne25 nin0))
    have f46 : Arv Z T38.heap ea23 ke23 (.object "java/lang/Object") (10 : Int32) [(.ref b23), .null, .null, .null, .null, .null, .null, .null, .null, .null] .null := fo23_9.keep K38 (ninS ne27.symm (ninS po23_0.symm nin0))
    subst hv38
    have N38 := Fr.app N35 N38q
    have pre38 : Go p.tables e below (s₁.setTop (entryFrame m #[(.long y0), (.long y1), (.long y2), (.int y3)] maxLocals)) T38 (mkF m 59 #[.val (.long y0), .second, .val (.long y1), .second, .val (.long y2), .second, .val (.int y3), .val (.long w1), .second, .val (.long w2), .second, .val (.long w3), .second, .val (.ref b5), .val (.long w21), .second, .val (.long w36), .second, .unset, .unset, .unset, .unset, .unset, .unset, .unset] []) := fun t k => pre37 t (st38.trans k)
    have pre47 : Go p.tables e below (s₁.setTop (entryFrame m #[(.long y0), (.long y1), (.long y2), (.int y3)] maxLocals)) T38 (mkF m 61 #[.val (.long y0), .second, .val (.long y1), .second, .val (.long y2), .second, .val (.int y3), .val (.long w1), .second, .val (.long w2), .second, .val (.long w3), .second, .val (.ref b5), .val (.long w21), .second, .val (.long w36), .second, .unset, .unset, .unset, .unset, .unset, .unset, .unset] [(.ref b5)]) := fun t k => pre38 t (by
        refine XS.aload X38.here hx rfl (hb hby at_59) rfl rfl ?_
        exact k)
    obtain ⟨cq48, kq48, q48a, q48b, q48c⟩ := isOf hZ rfl fo38_0
    obtain ⟨_, _, ⟨T48, L48, k48, n48⟩, -, X48, ⟨Lc48, hQ48, l48, y48, z48⟩, st48⟩ := X38.virtualBack hx (y := (⟨"com/example/zhangtiao/zhangtiao/input/VarLongs", "position", "()J"⟩ : MethodName)) (z := (⟨"com/example/zhangtiao/zhangtiao/input/VarLongs", "position", "()J"⟩ : MethodName)) hown (mvT hZ (hw _ (List.mem_of_getElem? (i := 39) rfl))) (mvT hZ (hw _ (List.mem_of_getElem? (i := 40) rfl))) (notFace_of_selects (args := #[]) (mvT hZ (hw _ (List.mem_of_getElem? (i := 42) rfl)))) (mvT hZ (hw _ (List.mem_of_getElem? (i := 42) rfl))) (mvT hZ (hw _ (List.mem_of_getElem? (i := 41) rfl))) (by decide) (backOf (W := 0) (rm_pos l Z av0 hw [] b5 al13 ((0 : Int32) + (1 : Int32)) (own_n (([] ++ own_enc 8 w1) ++ own_enc 8 w2)) T38.heap n0  fo38_3 fo38_2 f43 f45) hZ (hw _ (List.mem_of_getElem? (i := 43) rfl)) (hw _ (List.mem_of_getElem? (i := 3) rfl)) (by decide) (by decide)) q48a q48c (g := (mkF m 61 #[.val (.long y0), .second, .val (.long y1), .second, .val (.long y2), .second, .val (.int y3), .val (.long w1), .second, .val (.long w2), .second, .val (.long w3), .second, .val (.ref b5), .val (.long w21), .second, .val (.long w36), .second, .unset, .unset, .unset, .unset, .unset, .unset, .unset] [(.ref b5)])) rfl (by rw [hml]; rfl) (Steps.refl _) (argsL := []) (rest := []) (lenOf pd_9 rfl) rfl (by show 2 * 0 + _ ≤ _; exact Nat.le_of_eq rfl) (hb hby at_61) (fun _ _ => ⟨rfl, rfl, (by decide : 4 + 0 ≤ _), (by decide : 65552 + 0 ≤ _)⟩)
    dsimp only [Pt.U, Pt.locs, Pt.cells, Pt.slots] at X48 l48 y48 z48 st48 hQ48
    subst l48 y48 z48
    obtain ⟨hv48, N48q, e48⟩ := hQ48
    subst hv48
    have N48 := Fr.app N38 N48q
    have pre48 : Go p.tables e below (s₁.setTop (entryFrame m #[(.long y0), (.long y1), (.long y2), (.int y3)] maxLocals)) T48 (mkF m 64 #[.val (.long y0), .second, .val (.long y1), .second, .val (.long y2), .second, .val (.int y3), .val (.long w1), .second, .val (.long w2), .second, .val (.long w3), .second, .val (.ref b5), .val (.long w21), .second, .val (.long w36), .second, .unset, .unset, .unset, .unset, .unset, .unset, .unset] [(.long (own_pos ((0 : Int32) + (1 : Int32)) (own_n (([] ++ own_enc 8 w1) ++ own_enc 8 w2))))]) := fun t k => pre47 t (st48.trans k)
    obtain ⟨w49, hw49⟩ : ∃ z : Int64, z = (own_pos ((0 : Int32) + (1 : Int32)) (own_n (([] ++ own_enc 8 w1) ++ own_enc 8 w2))) := ⟨_, rfl⟩
    have pre50 : Go p.tables e below (s₁.setTop (entryFrame m #[(.long y0), (.long y1), (.long y2), (.int y3)] maxLocals)) T48 (mkF m 70 #[.val (.long y0), .second, .val (.long y1), .second, .val (.long y2), .second, .val (.int y3), .val (.long w1), .second, .val (.long w2), .second, .val (.long w3), .second, .val (.ref b5), .val (.long w21), .second, .val (.long w36), .second, .val (.long w49), .second, .unset, .unset, .unset, .unset, .unset] [(.long w3), (.ref b5)]) := fun t k => pre48 t (by
        refine XS.lstore X48.here hx rfl (x := w49) (rest := []) (hb hby at_64) (by subst hw49; rfl) (l' := #[.val (.long y0), .second, .val (.long y1), .second, .val (.long y2), .second, .val (.int y3), .val (.long w1), .second, .val (.long w2), .second, .val (.long w3), .second, .val (.ref b5), .val (.long w21), .second, .val (.long w36), .second, .val (.long w49), .second, .unset, .unset, .unset, .unset, .unset]) rfl ?_
        show Steps p.tables e below (T48.setTop (mkF m 66 #[.val (.long y0), .second, .val (.long y1), .second, .val (.long y2), .second, .val (.int y3), .val (.long w1), .second, .val (.long w2), .second, .val (.long w3), .second, .val (.ref b5), .val (.long w21), .second, .val (.long w36), .second, .val (.long w49), .second, .unset, .unset, .unset, .unset, .unset] [])) _
        refine XS.aload X48.here hx rfl (hb hby at_66) rfl rfl ?_
        show Steps p.tables e below (T48.setTop (mkF m 68 #[.val (.long y0), .second, .val (.long y1), .second, .val (.long y2), .second, .val (.int y3), .val (.long w1), .second, .val (.long w2), .second, .val (.long w3), .second, .val (.ref b5), .val (.long w21), .second, .val (.long w36), .second, .val (.long w49), .second, .unset, .unset, .unset, .unset, .unset] [(.ref b5)])) _
        refine XS.lload X48.here hx rfl (hb hby at_68) rfl ?_
        exact k)
    obtain ⟨cq51, kq51, q51a, q51b, q51c⟩ := isOf hZ e48 fo38_0
    obtain ⟨_, _, ⟨T51, L51, k51, n51⟩, -, X51, ⟨Lc51, hQ51, l51, y51, z51⟩, st51⟩ := X48.virtualBack hx (y := (⟨"com/example/zhangtiao/zhangtiao/input/VarLongs", "add", "(J)V"⟩ : MethodName)) (z := (⟨"com/example/zhangtiao/zhangtiao/input/VarLongs", "add", "(J)V"⟩ : MethodName)) hown (mvT hZ (hw _ (List.mem_of_getElem? (i := 56) rfl))) (mvT hZ (hw _ (List.mem_of_getElem? (i := 57) rfl))) (notFace_of_selects (args := #[]) (mvT hZ (hw _ (List.mem_of_getElem? (i := 59) rfl)))) (mvT hZ (hw _ (List.mem_of_getElem? (i := 59) rfl))) (mvT hZ (hw _ (List.mem_of_getElem? (i := 58) rfl))) (by decide) (backOf (W := 0) (rm_ad2 l Z av0 hw [] b5 w3 b23 kc23 (.ref al13) (([] ++ own_enc 8 w1) ++ own_enc 8 w2) T38.heap n0 f39 fo38_0 fo38_1 fo38_2 fo38_3 fo38_4 g6 gb23 ne24 hq_w3 (Nat.le_trans hL2 (by decide))) hZ (hw _ (List.mem_of_getElem? (i := 60) rfl)) (hw _ (List.mem_of_getElem? (i := 3) rfl)) (by decide) (by decide)) q51a q51c (g := (mkF m 70 #[.val (.long y0), .second, .val (.long y1), .second, .val (.long y2), .second, .val (.int y3), .val (.long w1), .second, .val (.long w2), .second, .val (.long w3), .second, .val (.ref b5), .val (.long w21), .second, .val (.long w36), .second, .val (.long w49), .second, .unset, .unset, .unset, .unset, .unset] [(.long w3), (.ref b5)])) rfl (by rw [hml]; rfl) (Steps.refl _) (argsL := [(.long w3)]) (rest := []) (lenOf pd_10 rfl) rfl (by show 2 * 0 + _ ≤ _; exact Nat.le_of_eq rfl) (hb hby at_70) (fun _ _ => ⟨rfl, e48, (by decide : 4 + 0 ≤ _), (by decide : 65552 + 0 ≤ _)⟩)
    dsimp only [Pt.U, Pt.locs, Pt.cells, Pt.slots] at X51 l51 y51 z51 st51 hQ51
    subst l51 y51 z51
    obtain ⟨hv51, N51q, K51, fo51_0, fo51_1, fo51_2, fo51_3, fo51_4⟩ := hQ51
    have f52 : n0 ≤ T51.heap.size := Nat.le_trans f39 K51.1
    have f53 : Old Z n0 T51.heap := f40.keep K51 (allS g6 (allS gb23 all0))
    have f54 : Exa Z T51.heap b23 "[B" := f42.keep K51
    have f55 : Exa Z T51.heap al13 "java/util/ArrayList" := f43.keep K51
    have f56 : Fld Z T51.heap al13 "java/util/ArrayList" "elementData" "[Ljava/lang/Object;" (.ref ea23) := f44.keep K51 (ninS ne14.symm (ninS ne25 nin0))
    have f57 : Fld Z T51.heap al13 "java/util/ArrayList" "size" "I" (.int ((0 : Int32) + (1 : Int32))) := f45.keep K51 (ninS ne14.symm (ninS ne25 nin0))
    have f58 : Arv Z T51.heap ea23 ke23 (.object "java/lang/Object") (10 : Int32) [(.ref b23), .null, .null, .null, .null, .null, .null, .null, .null, .null] .null := f46.keep K51 (ninS ne27.symm (ninS po23_0.symm nin0))
    have f59 : Exa Z T51.heap b5 "com/example/zhangtiao/zhangtiao/input/VarLongs" := fo38_0.keep K51
    subst hv51
    have N51 := Fr.app N48 N51q
    have pre51 : Go p.tables e below (s₁.setTop (entryFrame m #[(.long y0), (.long y1), (.long y2), (.int y3)] maxLocals)) T51 (mkF m 73 #[.val (.long y0), .second, .val (.long y1), .second, .val (.long y2), .second, .val (.int y3), .val (.long w1), .second, .val (.long w2), .second, .val (.long w3), .second, .val (.ref b5), .val (.long w21), .second, .val (.long w36), .second, .val (.long w49), .second, .unset, .unset, .unset, .unset, .unset] []) := fun t k => pre50 t (st51.trans k)
    obtain ⟨T60, h60, X60, e60, E60, A60, D60, -, st60⟩ := newO X51 hx hZ hown (hw _ (List.mem_of_getElem? (i := 97) rfl)) (hw _ (List.mem_of_getElem? (i := 98) rfl)) (hw _ (List.mem_of_getElem? (i := 99) rfl)) rfl (g := (mkF m 73 #[.val (.long y0), .second, .val (.long y1), .second, .val (.long y2), .second, .val (.int y3), .val (.long w1), .second, .val (.long w2), .second, .val (.long w3), .second, .val (.ref b5), .val (.long w21), .second, .val (.long w36), .second, .val (.long w49), .second, .unset, .unset, .unset, .unset, .unset] [])) rfl (hb hby at_73) (by decide) (by decide)
    obtain ⟨b60, ga60⟩ : ∃ z, z = T51.heap.size := ⟨_, rfl⟩
    rw [← ga60] at A60 D60 st60
    have ne61 : b23 ≠ b60 := Nat.ne_of_lt (Nat.lt_of_lt_of_le f54.lt (Nat.le_of_eq ga60.symm))
    have ne62 : al13 ≠ b60 := Nat.ne_of_lt (Nat.lt_of_lt_of_le f55.lt (Nat.le_of_eq ga60.symm))
    have ne63 : ea23 ≠ b60 := Nat.ne_of_lt (Nat.lt_of_lt_of_le f58.lt (Nat.le_of_eq ga60.symm))
    have ne64 : b5 ≠ b60 := Nat.ne_of_lt (Nat.lt_of_lt_of_le fo51_0.lt (Nat.le_of_eq ga60.symm))
    have g65 : n0 ≤ b60 := Nat.le_trans f52 (Nat.le_of_eq ga60.symm)
    have f66 : n0 ≤ h60.size := Nat.le_trans f52 E60.1
    have f67 : Old Z n0 h60 := f53.ext E60
    have f68 : Exa Z h60 b23 "[B" := f54.ext E60
    have f69 : Exa Z h60 al13 "java/util/ArrayList" := f55.ext E60
    have f70 : Fld Z h60 al13 "java/util/ArrayList" "elementData" "[Ljava/lang/Object;" (.ref ea23) := f56.ext E60
    have f71 : Fld Z h60 al13 "java/util/ArrayList" "size" "I" (.int ((0 : Int32) + (1 : Int32))) := f57.ext E60
    have f72 : Arv Z h60 ea23 ke23 (.object "java/lang/Object") (10 : Int32) [(.ref b23), .null, .null, .null, .null, .null, .null, .null, .null, .null] .null := f58.ext E60
    have f73 : Exa Z h60 b5 "com/example/zhangtiao/zhangtiao/input/VarLongs" := fo51_0.ext E60
    have f74 : Fld Z h60 b5 "com/example/zhangtiao/zhangtiao/input/VarLongs" "last" "[B" (.ref b23) := fo51_1.ext E60
    have f75 : Fld Z h60 b5 "com/example/zhangtiao/zhangtiao/input/VarLongs" "position" "I" (.int (own_n ((([] ++ own_enc 8 w1) ++ own_enc 8 w2) ++ own_enc 8 w3))) := fo51_2.ext E60
    have f76 : Fld Z h60 b5 "com/example/zhangtiao/zhangtiao/input/VarLongs" "chunks" "Ljava/util/List;" (.ref al13) := fo51_3.ext E60
    have f77 : Arv Z h60 b23 kc23 .byte (65536 : Int32) ((([] ++ own_enc 8 w1) ++ own_enc 8 w2) ++ own_enc 8 w3) (.int (0 : Int32)) := fo51_4.ext E60
    have f78 : Fld Z h60 b60 "com/example/zhangtiao/zhangtiao/input/VarLongs$Cursor" "this$0" "Lcom/example/zhangtiao/zhangtiao/input/VarLongs;" .null := D60 (Or.inr (hw _ (List.mem_of_getElem? (i := 108) rfl))) (ty := (.object "com/example/zhangtiao/zhangtiao/input/VarLongs")) (by decide)
    have f79 : Fld Z h60 b60 "com/example/zhangtiao/zhangtiao/input/VarLongs$Cursor" "chunk" "I" (.int (0 : Int32)) := D60 (Or.inl (hw _ (List.mem_of_getElem? (i := 122) rfl))) (ty := .int) (by decide)
    have f80 : Fld Z h60 b60 "com/example/zhangtiao/zhangtiao/input/VarLongs$Cursor" "at" "I" (.int (0 : Int32)) := D60 (Or.inl (hw _ (List.mem_of_getElem? (i := 124) rfl))) (ty := .int) (by decide)
    have pre60 : Go p.tables e below (s₁.setTop (entryFrame m #[(.long y0), (.long y1), (.long y2), (.int y3)] maxLocals)) T60 (mkF m 76 #[.val (.long y0), .second, .val (.long y1), .second, .val (.long y2), .second, .val (.int y3), .val (.long w1), .second, .val (.long w2), .second, .val (.long w3), .second, .val (.ref b5), .val (.long w21), .second, .val (.long w36), .second, .val (.long w49), .second, .unset, .unset, .unset, .unset, .unset] [(.ref b60)]) := fun t k => pre51 t (st60 _ k)
    have pre81 : Go p.tables e below (s₁.setTop (entryFrame m #[(.long y0), (.long y1), (.long y2), (.int y3)] maxLocals)) T60 (mkF m 80 #[.val (.long y0), .second, .val (.long y1), .second, .val (.long y2), .second, .val (.int y3), .val (.long w1), .second, .val (.long w2), .second, .val (.long w3), .second, .val (.ref b5), .val (.long w21), .second, .val (.long w36), .second, .val (.long w49), .second, .unset, .unset, .unset, .unset, .unset] [(.ref b5), (.ref b5), (.ref b60), (.ref b60)]) := fun t k => pre60 t (by
        refine XS.dup X60.here hx rfl (hb hby at_76) rfl rfl ?_
        show Steps p.tables e below (T60.setTop (mkF m 77 #[.val (.long y0), .second, .val (.long y1), .second, .val (.long y2), .second, .val (.int y3), .val (.long w1), .second, .val (.long w2), .second, .val (.long w3), .second, .val (.ref b5), .val (.long w21), .second, .val (.long w36), .second, .val (.long w49), .second, .unset, .unset, .unset, .unset, .unset] [(.ref b60), (.ref b60)])) _
        refine XS.aload X60.here hx rfl (hb hby at_77) rfl rfl ?_
        show Steps p.tables e below (T60.setTop (mkF m 79 #[.val (.long y0), .second, .val (.long y1), .second, .val (.long y2), .second, .val (.int y3), .val (.long w1), .second, .val (.long w2), .second, .val (.long w3), .second, .val (.ref b5), .val (.long w21), .second, .val (.long w36), .second, .val (.long w49), .second, .unset, .unset, .unset, .unset, .unset] [(.ref b5), (.ref b60), (.ref b60)])) _
        refine XS.dup X60.here hx rfl (hb hby at_79) rfl rfl ?_
        exact k)
    obtain ⟨_, _, ⟨T82, L82, k82, n82⟩, -, X82, ⟨Lc82, hQ82, l82, y82, z82⟩, st82⟩ := Jvm.LawKit.callS X60 hx (y := (⟨"java/util/Objects", "requireNonNull", "(Ljava/lang/Object;)Ljava/lang/Object;"⟩ : MethodName)) hown (mvT hZ (hw _ (List.mem_of_getElem? (i := 100) rfl))) (mvT hZ (hw _ (List.mem_of_getElem? (i := 101) rfl))) (mvT hZ (hw _ (List.mem_of_getElem? (i := 102) rfl))) (mvT hZ (hw _ (List.mem_of_getElem? (i := 103) rfl))) (by decide) (backOf (W := 3) (rm_rnn l Z av0 hw [] b5 h60 n0) hZ (hw _ (List.mem_of_getElem? (i := 103) rfl)) (hw _ (List.mem_of_getElem? (i := 102) rfl)) (by decide) (by decide)) (g := (mkF m 80 #[.val (.long y0), .second, .val (.long y1), .second, .val (.long y2), .second, .val (.int y3), .val (.long w1), .second, .val (.long w2), .second, .val (.long w3), .second, .val (.ref b5), .val (.long w21), .second, .val (.long w36), .second, .val (.long w49), .second, .unset, .unset, .unset, .unset, .unset] [(.ref b5), (.ref b5), (.ref b60), (.ref b60)])) rfl (by rw [hml]; rfl) (argsL := [(.ref b5)]) (rest := [(.ref b5), (.ref b60), (.ref b60)]) (lenOf pd_11 rfl) rfl (by show 2 * 0 + _ ≤ _; exact Nat.le_of_eq rfl) (hb hby at_80) (fun _ _ => ⟨rfl, e60, (by decide : 5 + 0 ≤ _), (by decide : 65555 + 0 ≤ _)⟩)
    dsimp only [Pt.U, Pt.locs, Pt.cells, Pt.slots] at X82 l82 y82 z82 st82 hQ82
    subst l82 y82 z82
    obtain ⟨rfl, N82q, e82⟩ := hQ82
    have N82 := Fr.app N51 N82q
    have pre82 : Go p.tables e below (s₁.setTop (entryFrame m #[(.long y0), (.long y1), (.long y2), (.int y3)] maxLocals)) T82 (mkF m 83 #[.val (.long y0), .second, .val (.long y1), .second, .val (.long y2), .second, .val (.int y3), .val (.long w1), .second, .val (.long w2), .second, .val (.long w3), .second, .val (.ref b5), .val (.long w21), .second, .val (.long w36), .second, .val (.long w49), .second, .unset, .unset, .unset, .unset, .unset] [(.ref b5), (.ref b5), (.ref b60), (.ref b60)]) := fun t k => pre81 t (st82 _ k)
    have pre83 : Go p.tables e below (s₁.setTop (entryFrame m #[(.long y0), (.long y1), (.long y2), (.int y3)] maxLocals)) T82 (mkF m 84 #[.val (.long y0), .second, .val (.long y1), .second, .val (.long y2), .second, .val (.int y3), .val (.long w1), .second, .val (.long w2), .second, .val (.long w3), .second, .val (.ref b5), .val (.long w21), .second, .val (.long w36), .second, .val (.long w49), .second, .unset, .unset, .unset, .unset, .unset] [(.ref b5), (.ref b60), (.ref b60)]) := fun t k => pre82 t (by
        refine XS.pop X82.here hx rfl (hb hby at_83) rfl rfl ?_
        exact k)
    obtain ⟨_, _, ⟨T84, L84, k84, n84⟩, -, X84, ⟨Lc84, hQ84, l84, y84, z84⟩, st84⟩ := X82.specialBack hx (y := (⟨"com/example/zhangtiao/zhangtiao/input/VarLongs$Cursor", "<init>", "(Lcom/example/zhangtiao/zhangtiao/input/VarLongs;)V"⟩ : MethodName)) rfl hown (mvT hZ (hw _ (List.mem_of_getElem? (i := 104) rfl))) (mvT hZ (hw _ (List.mem_of_getElem? (i := 105) rfl))) (mvT hZ (hw _ (List.mem_of_getElem? (i := 106) rfl))) (by decide) (backOf (W := 1) (rm_ini_cu l Z av0 hw [] b60 b5 h60 n0 f66 f78 f79 f80 A60 g65) hZ (hw _ (List.mem_of_getElem? (i := 106) rfl)) (hw _ (List.mem_of_getElem? (i := 99) rfl)) (by decide) (by decide)) (g := (mkF m 84 #[.val (.long y0), .second, .val (.long y1), .second, .val (.long y2), .second, .val (.int y3), .val (.long w1), .second, .val (.long w2), .second, .val (.long w3), .second, .val (.ref b5), .val (.long w21), .second, .val (.long w36), .second, .val (.long w49), .second, .unset, .unset, .unset, .unset, .unset] [(.ref b5), (.ref b60), (.ref b60)])) rfl (by rw [hml]; rfl) (Steps.refl _) (a := b60) (argsL := [(.ref b5)]) (rest := [(.ref b60)]) (lenOf pd_12 rfl) rfl (by show 2 * 0 + _ ≤ _; exact Nat.le_of_eq rfl) (hb hby at_84) (fun _ _ => ⟨rfl, e82, (by decide : 5 + 0 ≤ _), (by decide : 65555 + 0 ≤ _)⟩)
    dsimp only [Pt.U, Pt.locs, Pt.cells, Pt.slots] at X84 l84 y84 z84 st84 hQ84
    subst l84 y84 z84
    obtain ⟨hv84, N84q, K84, fo84_0, fo84_1, fo84_2, fo84_3⟩ := hQ84
    have f85 : n0 ≤ T84.heap.size := Nat.le_trans f66 K84.1
    have f86 : Old Z n0 T84.heap := f67.keep K84 (allS g65 all0)
    have f87 : Exa Z T84.heap b23 "[B" := f68.keep K84
    have f88 : Exa Z T84.heap al13 "java/util/ArrayList" := f69.keep K84
    have f89 : Fld Z T84.heap al13 "java/util/ArrayList" "elementData" "[Ljava/lang/Object;" (.ref ea23) := f70.keep K84 (ninS ne62 nin0)
    have f90 : Fld Z T84.heap al13 "java/util/ArrayList" "size" "I" (.int ((0 : Int32) + (1 : Int32))) := f71.keep K84 (ninS ne62 nin0)
    have f91 : Arv Z T84.heap ea23 ke23 (.object "java/lang/Object") (10 : Int32) [(.ref b23), .null, .null, .null, .null, .null, .null, .null, .null, .null] .null := f72.keep K84 (ninS ne63 nin0)
    have f92 : Exa Z T84.heap b5 "com/example/zhangtiao/zhangtiao/input/VarLongs" := f73.keep K84
    have f93 : Fld Z T84.heap b5 "com/example/zhangtiao/zhangtiao/input/VarLongs" "last" "[B" (.ref b23) := f74.keep K84 (ninS ne64 nin0)
    have f94 : Fld Z T84.heap b5 "com/example/zhangtiao/zhangtiao/input/VarLongs" "position" "I" (.int (own_n ((([] ++ own_enc 8 w1) ++ own_enc 8 w2) ++ own_enc 8 w3))) := f75.keep K84 (ninS ne64 nin0)
    have f95 : Fld Z T84.heap b5 "com/example/zhangtiao/zhangtiao/input/VarLongs" "chunks" "Ljava/util/List;" (.ref al13) := f76.keep K84 (ninS ne64 nin0)
    have f96 : Arv Z T84.heap b23 kc23 .byte (65536 : Int32) ((([] ++ own_enc 8 w1) ++ own_enc 8 w2) ++ own_enc 8 w3) (.int (0 : Int32)) := f77.keep K84 (ninS ne61 nin0)
    have f97 : Exa Z T84.heap b60 "com/example/zhangtiao/zhangtiao/input/VarLongs$Cursor" := A60.keep K84
    subst hv84
    have N84 := Fr.app N82 N84q
    have pre84 : Go p.tables e below (s₁.setTop (entryFrame m #[(.long y0), (.long y1), (.long y2), (.int y3)] maxLocals)) T84 (mkF m 87 #[.val (.long y0), .second, .val (.long y1), .second, .val (.long y2), .second, .val (.int y3), .val (.long w1), .second, .val (.long w2), .second, .val (.long w3), .second, .val (.ref b5), .val (.long w21), .second, .val (.long w36), .second, .val (.long w49), .second, .unset, .unset, .unset, .unset, .unset] [(.ref b60)]) := fun t k => pre83 t (st84.trans k)
    obtain ⟨w98, hw98⟩ : ∃ z : Int32, z = ((y3 &&& (2147483647 : Int32)) % (3 : Int32)) := ⟨_, rfl⟩
    obtain ⟨w99, hw99⟩ : ∃ z : Int32, z = ((((y3.toUInt32 >>> ((8 : Int32) &&& 31).toUInt32).toInt32) &&& (2147483647 : Int32)) % (3 : Int32)) := ⟨_, rfl⟩
    have pre100 : Go p.tables e below (s₁.setTop (entryFrame m #[(.long y0), (.long y1), (.long y2), (.int y3)] maxLocals)) T84 (mkF m 110 #[.val (.long y0), .second, .val (.long y1), .second, .val (.long y2), .second, .val (.int y3), .val (.long w1), .second, .val (.long w2), .second, .val (.long w3), .second, .val (.ref b5), .val (.long w21), .second, .val (.long w36), .second, .val (.long w49), .second, .val (.ref b60), .val (.int w98), .val (.int w99), .unset, .unset] []) := fun t k => pre84 t (by
        refine XS.astore X84.here hx rfl (hb hby at_87) rfl rfl (l' := #[.val (.long y0), .second, .val (.long y1), .second, .val (.long y2), .second, .val (.int y3), .val (.long w1), .second, .val (.long w2), .second, .val (.long w3), .second, .val (.ref b5), .val (.long w21), .second, .val (.long w36), .second, .val (.long w49), .second, .val (.ref b60), .unset, .unset, .unset, .unset]) rfl ?_
        show Steps p.tables e below (T84.setTop (mkF m 89 #[.val (.long y0), .second, .val (.long y1), .second, .val (.long y2), .second, .val (.int y3), .val (.long w1), .second, .val (.long w2), .second, .val (.long w3), .second, .val (.ref b5), .val (.long w21), .second, .val (.long w36), .second, .val (.long w49), .second, .val (.ref b60), .unset, .unset, .unset, .unset] [])) _
        refine XS.iload X84.here hx rfl (hb hby at_89) rfl ?_
        show Steps p.tables e below (T84.setTop (mkF m 91 #[.val (.long y0), .second, .val (.long y1), .second, .val (.long y2), .second, .val (.int y3), .val (.long w1), .second, .val (.long w2), .second, .val (.long w3), .second, .val (.ref b5), .val (.long w21), .second, .val (.long w36), .second, .val (.long w49), .second, .val (.ref b60), .unset, .unset, .unset, .unset] [(.int y3)])) _
        refine X84.ldcInt hx hown (mvT hZ (hw _ (List.mem_of_getElem? (i := 110) rfl))) (g := (mkF m 91 #[.val (.long y0), .second, .val (.long y1), .second, .val (.long y2), .second, .val (.int y3), .val (.long w1), .second, .val (.long w2), .second, .val (.long w3), .second, .val (.ref b5), .val (.long w21), .second, .val (.long w36), .second, .val (.long w49), .second, .val (.ref b60), .unset, .unset, .unset, .unset] [(.int y3)])) rfl (hb hby at_91) _ ?_
        show Steps p.tables e below (T84.setTop (mkF m 93 #[.val (.long y0), .second, .val (.long y1), .second, .val (.long y2), .second, .val (.int y3), .val (.long w1), .second, .val (.long w2), .second, .val (.long w3), .second, .val (.ref b5), .val (.long w21), .second, .val (.long w36), .second, .val (.long w49), .second, .val (.ref b60), .unset, .unset, .unset, .unset] [(.int (2147483647 : Int32)), (.int y3)])) _
        refine XS.iand X84.here hx rfl (hb hby at_93) rfl ?_
        show Steps p.tables e below (T84.setTop (mkF m 94 #[.val (.long y0), .second, .val (.long y1), .second, .val (.long y2), .second, .val (.int y3), .val (.long w1), .second, .val (.long w2), .second, .val (.long w3), .second, .val (.ref b5), .val (.long w21), .second, .val (.long w36), .second, .val (.long w49), .second, .val (.ref b60), .unset, .unset, .unset, .unset] [(.int (y3 &&& (2147483647 : Int32)))])) _
        refine XS.iconst X84.here hx rfl (hb hby at_94) ?_
        show Steps p.tables e below (T84.setTop (mkF m 95 #[.val (.long y0), .second, .val (.long y1), .second, .val (.long y2), .second, .val (.int y3), .val (.long w1), .second, .val (.long w2), .second, .val (.long w3), .second, .val (.ref b5), .val (.long w21), .second, .val (.long w36), .second, .val (.long w49), .second, .val (.ref b60), .unset, .unset, .unset, .unset] [(.int (3 : Int32)), (.int (y3 &&& (2147483647 : Int32)))])) _
        refine iremM X84 hx (g := (mkF m 95 #[.val (.long y0), .second, .val (.long y1), .second, .val (.long y2), .second, .val (.int y3), .val (.long w1), .second, .val (.long w2), .second, .val (.long w3), .second, .val (.ref b5), .val (.long w21), .second, .val (.long w36), .second, .val (.long w49), .second, .val (.ref b60), .unset, .unset, .unset, .unset] [(.int (3 : Int32)), (.int (y3 &&& (2147483647 : Int32)))])) rfl (hb hby at_95) rfl (by decide) ?_
        show Steps p.tables e below (T84.setTop (mkF m 96 #[.val (.long y0), .second, .val (.long y1), .second, .val (.long y2), .second, .val (.int y3), .val (.long w1), .second, .val (.long w2), .second, .val (.long w3), .second, .val (.ref b5), .val (.long w21), .second, .val (.long w36), .second, .val (.long w49), .second, .val (.ref b60), .unset, .unset, .unset, .unset] [(.int ((y3 &&& (2147483647 : Int32)) % (3 : Int32)))])) _
        refine XS.istore X84.here hx rfl (x := w98) (rest := []) (hb hby at_96) (by subst hw98; rfl) (l' := #[.val (.long y0), .second, .val (.long y1), .second, .val (.long y2), .second, .val (.int y3), .val (.long w1), .second, .val (.long w2), .second, .val (.long w3), .second, .val (.ref b5), .val (.long w21), .second, .val (.long w36), .second, .val (.long w49), .second, .val (.ref b60), .val (.int w98), .unset, .unset, .unset]) rfl ?_
        show Steps p.tables e below (T84.setTop (mkF m 98 #[.val (.long y0), .second, .val (.long y1), .second, .val (.long y2), .second, .val (.int y3), .val (.long w1), .second, .val (.long w2), .second, .val (.long w3), .second, .val (.ref b5), .val (.long w21), .second, .val (.long w36), .second, .val (.long w49), .second, .val (.ref b60), .val (.int w98), .unset, .unset, .unset] [])) _
        refine XS.iload X84.here hx rfl (hb hby at_98) rfl ?_
        show Steps p.tables e below (T84.setTop (mkF m 100 #[.val (.long y0), .second, .val (.long y1), .second, .val (.long y2), .second, .val (.int y3), .val (.long w1), .second, .val (.long w2), .second, .val (.long w3), .second, .val (.ref b5), .val (.long w21), .second, .val (.long w36), .second, .val (.long w49), .second, .val (.ref b60), .val (.int w98), .unset, .unset, .unset] [(.int y3)])) _
        refine XS.bipush X84.here hx rfl (hb hby at_100) ?_
        show Steps p.tables e below (T84.setTop (mkF m 102 #[.val (.long y0), .second, .val (.long y1), .second, .val (.long y2), .second, .val (.int y3), .val (.long w1), .second, .val (.long w2), .second, .val (.long w3), .second, .val (.ref b5), .val (.long w21), .second, .val (.long w36), .second, .val (.long w49), .second, .val (.ref b60), .val (.int w98), .unset, .unset, .unset] [(.int (8 : Int32)), (.int y3)])) _
        refine XS.iushr X84.here hx rfl (hb hby at_102) rfl ?_
        show Steps p.tables e below (T84.setTop (mkF m 103 #[.val (.long y0), .second, .val (.long y1), .second, .val (.long y2), .second, .val (.int y3), .val (.long w1), .second, .val (.long w2), .second, .val (.long w3), .second, .val (.ref b5), .val (.long w21), .second, .val (.long w36), .second, .val (.long w49), .second, .val (.ref b60), .val (.int w98), .unset, .unset, .unset] [(.int ((y3.toUInt32 >>> ((8 : Int32) &&& 31).toUInt32).toInt32))])) _
        refine X84.ldcInt hx hown (mvT hZ (hw _ (List.mem_of_getElem? (i := 110) rfl))) (g := (mkF m 103 #[.val (.long y0), .second, .val (.long y1), .second, .val (.long y2), .second, .val (.int y3), .val (.long w1), .second, .val (.long w2), .second, .val (.long w3), .second, .val (.ref b5), .val (.long w21), .second, .val (.long w36), .second, .val (.long w49), .second, .val (.ref b60), .val (.int w98), .unset, .unset, .unset] [(.int ((y3.toUInt32 >>> ((8 : Int32) &&& 31).toUInt32).toInt32))])) rfl (hb hby at_103) _ ?_
        show Steps p.tables e below (T84.setTop (mkF m 105 #[.val (.long y0), .second, .val (.long y1), .second, .val (.long y2), .second, .val (.int y3), .val (.long w1), .second, .val (.long w2), .second, .val (.long w3), .second, .val (.ref b5), .val (.long w21), .second, .val (.long w36), .second, .val (.long w49), .second, .val (.ref b60), .val (.int w98), .unset, .unset, .unset] [(.int (2147483647 : Int32)), (.int ((y3.toUInt32 >>> ((8 : Int32) &&& 31).toUInt32).toInt32))])) _
        refine XS.iand X84.here hx rfl (hb hby at_105) rfl ?_
        show Steps p.tables e below (T84.setTop (mkF m 106 #[.val (.long y0), .second, .val (.long y1), .second, .val (.long y2), .second, .val (.int y3), .val (.long w1), .second, .val (.long w2), .second, .val (.long w3), .second, .val (.ref b5), .val (.long w21), .second, .val (.long w36), .second, .val (.long w49), .second, .val (.ref b60), .val (.int w98), .unset, .unset, .unset] [(.int (((y3.toUInt32 >>> ((8 : Int32) &&& 31).toUInt32).toInt32) &&& (2147483647 : Int32)))])) _
        refine XS.iconst X84.here hx rfl (hb hby at_106) ?_
        show Steps p.tables e below (T84.setTop (mkF m 107 #[.val (.long y0), .second, .val (.long y1), .second, .val (.long y2), .second, .val (.int y3), .val (.long w1), .second, .val (.long w2), .second, .val (.long w3), .second, .val (.ref b5), .val (.long w21), .second, .val (.long w36), .second, .val (.long w49), .second, .val (.ref b60), .val (.int w98), .unset, .unset, .unset] [(.int (3 : Int32)), (.int (((y3.toUInt32 >>> ((8 : Int32) &&& 31).toUInt32).toInt32) &&& (2147483647 : Int32)))])) _
        refine iremM X84 hx (g := (mkF m 107 #[.val (.long y0), .second, .val (.long y1), .second, .val (.long y2), .second, .val (.int y3), .val (.long w1), .second, .val (.long w2), .second, .val (.long w3), .second, .val (.ref b5), .val (.long w21), .second, .val (.long w36), .second, .val (.long w49), .second, .val (.ref b60), .val (.int w98), .unset, .unset, .unset] [(.int (3 : Int32)), (.int (((y3.toUInt32 >>> ((8 : Int32) &&& 31).toUInt32).toInt32) &&& (2147483647 : Int32)))])) rfl (hb hby at_107) rfl (by decide) ?_
        show Steps p.tables e below (T84.setTop (mkF m 108 #[.val (.long y0), .second, .val (.long y1), .second, .val (.long y2), .second, .val (.int y3), .val (.long w1), .second, .val (.long w2), .second, .val (.long w3), .second, .val (.ref b5), .val (.long w21), .second, .val (.long w36), .second, .val (.long w49), .second, .val (.ref b60), .val (.int w98), .unset, .unset, .unset] [(.int ((((y3.toUInt32 >>> ((8 : Int32) &&& 31).toUInt32).toInt32) &&& (2147483647 : Int32)) % (3 : Int32)))])) _
        refine XS.istore X84.here hx rfl (x := w99) (rest := []) (hb hby at_108) (by subst hw99; rfl) (l' := #[.val (.long y0), .second, .val (.long y1), .second, .val (.long y2), .second, .val (.int y3), .val (.long w1), .second, .val (.long w2), .second, .val (.long w3), .second, .val (.ref b5), .val (.long w21), .second, .val (.long w36), .second, .val (.long w49), .second, .val (.ref b60), .val (.int w98), .val (.int w99), .unset, .unset]) rfl ?_
        exact k)
    exact ⟨T84, _, T84.heap, b5, w21, w36, w49, b60, w98, w99, b23, al13, ea23, ke23, kc23, X84, rfl, N84, hw21, hw36, hw49, hw98, hw99, f85, f86, f87, f88, f89, f90, f91, f92, f93, f94, f95, f96, fo84_0, fo84_1, fo84_2, fo84_3, ne25, ne14.symm, ne62, ne28, ne24.symm, ne61, po23_0, ne64, ne27, ne63.symm, gal13, gb23, g6, g65, gea23, pre100⟩
  have hq_w98 := own_mod3 (y3)
  rw [← hw98] at hq_w98
  clear hw98
  rcases (hq_w98) with rfl | rfl | rfl
  · -- w98 = (0 : Int32)
    have pre102 : Go p.tables e below (s₁.setTop (entryFrame m #[(.long y0), (.long y1), (.long y2), (.int y3)] maxLocals)) T5 (mkF m 120 #[.val (.long y0), .second, .val (.long y1), .second, .val (.long y2), .second, .val (.int y3), .val (.long w1), .second, .val (.long w2), .second, .val (.long w3), .second, .val (.ref b5), .val (.long w21), .second, .val (.long w36), .second, .val (.long w49), .second, .val (.ref b60), .val (.int (0 : Int32)), .val (.int w99), .unset, .unset] [(.long w49), (.long w36), (.long w21), (.int (0 : Int32)), (.ref b60)]) := fun t k => pre5 t (by
        refine XS.aload X5.here hx rfl (hb hby at_110) rfl rfl ?_
        show Steps p.tables e below (T5.setTop (mkF m 112 #[.val (.long y0), .second, .val (.long y1), .second, .val (.long y2), .second, .val (.int y3), .val (.long w1), .second, .val (.long w2), .second, .val (.long w3), .second, .val (.ref b5), .val (.long w21), .second, .val (.long w36), .second, .val (.long w49), .second, .val (.ref b60), .val (.int (0 : Int32)), .val (.int w99), .unset, .unset] [(.ref b60)])) _
        refine XS.iload X5.here hx rfl (hb hby at_112) rfl ?_
        show Steps p.tables e below (T5.setTop (mkF m 114 #[.val (.long y0), .second, .val (.long y1), .second, .val (.long y2), .second, .val (.int y3), .val (.long w1), .second, .val (.long w2), .second, .val (.long w3), .second, .val (.ref b5), .val (.long w21), .second, .val (.long w36), .second, .val (.long w49), .second, .val (.ref b60), .val (.int (0 : Int32)), .val (.int w99), .unset, .unset] [(.int (0 : Int32)), (.ref b60)])) _
        refine XS.lload X5.here hx rfl (hb hby at_114) rfl ?_
        show Steps p.tables e below (T5.setTop (mkF m 116 #[.val (.long y0), .second, .val (.long y1), .second, .val (.long y2), .second, .val (.int y3), .val (.long w1), .second, .val (.long w2), .second, .val (.long w3), .second, .val (.ref b5), .val (.long w21), .second, .val (.long w36), .second, .val (.long w49), .second, .val (.ref b60), .val (.int (0 : Int32)), .val (.int w99), .unset, .unset] [(.long w21), (.int (0 : Int32)), (.ref b60)])) _
        refine XS.lload X5.here hx rfl (hb hby at_116) rfl ?_
        show Steps p.tables e below (T5.setTop (mkF m 118 #[.val (.long y0), .second, .val (.long y1), .second, .val (.long y2), .second, .val (.int y3), .val (.long w1), .second, .val (.long w2), .second, .val (.long w3), .second, .val (.ref b5), .val (.long w21), .second, .val (.long w36), .second, .val (.long w49), .second, .val (.ref b60), .val (.int (0 : Int32)), .val (.int w99), .unset, .unset] [(.long w36), (.long w21), (.int (0 : Int32)), (.ref b60)])) _
        refine XS.lload X5.here hx rfl (hb hby at_118) rfl ?_
        exact k)
    obtain ⟨_, _, ⟨T103, L103, k103, n103⟩, -, X103, ⟨Lc103, hQ103, l103, y103, z103⟩, st103⟩ := Jvm.LawKit.callS X5 hx (y := (⟨"com/example/zhangtiao/zhangtiao/input/VarLongsMoveToPinLaw", "pick", "(IJJJ)J"⟩ : MethodName)) hown (mvT hZ (hw _ (List.mem_of_getElem? (i := 111) rfl))) (mvT hZ (hw _ (List.mem_of_getElem? (i := 112) rfl))) (mvT hZ (hw _ (List.mem_of_getElem? (i := 113) rfl))) (mvT hZ (hw _ (List.mem_of_getElem? (i := 114) rfl))) (by decide) (backOf (W := 1) (rm_pk l Z av0 hw [] (0 : Int32) w21 w36 w49 h5 n0) hZ (hw _ (List.mem_of_getElem? (i := 114) rfl)) (hw _ (List.mem_of_getElem? (i := 113) rfl)) (by decide) (by decide)) (g := (mkF m 120 #[.val (.long y0), .second, .val (.long y1), .second, .val (.long y2), .second, .val (.int y3), .val (.long w1), .second, .val (.long w2), .second, .val (.long w3), .second, .val (.ref b5), .val (.long w21), .second, .val (.long w36), .second, .val (.long w49), .second, .val (.ref b60), .val (.int (0 : Int32)), .val (.int w99), .unset, .unset] [(.long w49), (.long w36), (.long w21), (.int (0 : Int32)), (.ref b60)])) rfl (by rw [hml]; rfl) (argsL := [(.int (0 : Int32)), (.long w21), (.long w36), (.long w49)]) (rest := [(.ref b60)]) (lenOf pd_13 rfl) rfl (by show 2 * 0 + _ ≤ _; exact Nat.le_of_eq rfl) (hb hby at_120) (fun _ _ => ⟨rfl, e5, (by decide : 5 + 0 ≤ _), (by decide : 65555 + 0 ≤ _)⟩)
    dsimp only [Pt.U, Pt.locs, Pt.cells, Pt.slots] at X103 l103 y103 z103 st103 hQ103
    subst l103 y103 z103
    obtain ⟨hv103, N103q, e103⟩ := hQ103
    rw [show own_pk (0 : Int32) w21 w36 w49 = w21 from rfl] at hv103
    subst hv103
    have N103 := Fr.app N5 N103q
    have pre103 : Go p.tables e below (s₁.setTop (entryFrame m #[(.long y0), (.long y1), (.long y2), (.int y3)] maxLocals)) T103 (mkF m 123 #[.val (.long y0), .second, .val (.long y1), .second, .val (.long y2), .second, .val (.int y3), .val (.long w1), .second, .val (.long w2), .second, .val (.long w3), .second, .val (.ref b5), .val (.long w21), .second, .val (.long w36), .second, .val (.long w49), .second, .val (.ref b60), .val (.int (0 : Int32)), .val (.int w99), .unset, .unset] [(.long w21), (.ref b60)]) := fun t k => pre102 t (st103 _ k)
    obtain ⟨cq104, kq104, q104a, q104b, q104c⟩ := isOf hZ e103 fb5_15
    obtain ⟨_, _, ⟨T104, L104, k104, n104⟩, -, X104, ⟨Lc104, hQ104, l104, y104, z104⟩, st104⟩ := X103.virtualBack hx (y := (⟨"com/example/zhangtiao/zhangtiao/input/VarLongs$Cursor", "moveTo", "(J)V"⟩ : MethodName)) (z := (⟨"com/example/zhangtiao/zhangtiao/input/VarLongs$Cursor", "moveTo", "(J)V"⟩ : MethodName)) hown (mvT hZ (hw _ (List.mem_of_getElem? (i := 115) rfl))) (mvT hZ (hw _ (List.mem_of_getElem? (i := 116) rfl))) (notFace_of_selects (args := #[]) (mvT hZ (hw _ (List.mem_of_getElem? (i := 118) rfl)))) (mvT hZ (hw _ (List.mem_of_getElem? (i := 118) rfl))) (mvT hZ (hw _ (List.mem_of_getElem? (i := 117) rfl))) (by decide) (backOf (W := 0) (rm_mvt l Z av0 hw [] b60 w21 (.ref b5) (0 : Int32) (0 : Int32) [] h5 n0 fb5_0 fb5_12 fb5_13 fb5_14 fb5_15 gb5_3 (hw21.trans own_p0) (by decide)) hZ (hw _ (List.mem_of_getElem? (i := 119) rfl)) (hw _ (List.mem_of_getElem? (i := 99) rfl)) (by decide) (by decide)) q104a q104c (g := (mkF m 123 #[.val (.long y0), .second, .val (.long y1), .second, .val (.long y2), .second, .val (.int y3), .val (.long w1), .second, .val (.long w2), .second, .val (.long w3), .second, .val (.ref b5), .val (.long w21), .second, .val (.long w36), .second, .val (.long w49), .second, .val (.ref b60), .val (.int (0 : Int32)), .val (.int w99), .unset, .unset] [(.long w21), (.ref b60)])) rfl (by rw [hml]; rfl) (Steps.refl _) (argsL := [(.long w21)]) (rest := []) (lenOf pd_10 rfl) rfl (by show 2 * 0 + _ ≤ _; exact Nat.le_of_eq rfl) (hb hby at_123) (fun _ _ => ⟨rfl, e103, (by decide : 5 + 0 ≤ _), (by decide : 65555 + 0 ≤ _)⟩)
    dsimp only [Pt.U, Pt.locs, Pt.cells, Pt.slots] at X104 l104 y104 z104 st104 hQ104
    subst l104 y104 z104
    obtain ⟨hv104, N104q, K104, fo104_0, fo104_1, fo104_2, fo104_3⟩ := hQ104
    have f105 : n0 ≤ T104.heap.size := Nat.le_trans fb5_0 K104.1
    have f106 : Old Z n0 T104.heap := fb5_1.keep K104 (allS gb5_3 all0)
    have f107 : Exa Z T104.heap b23 "[B" := fb5_2.keep K104
    have f108 : Exa Z T104.heap al13 "java/util/ArrayList" := fb5_3.keep K104
    have f109 : Fld Z T104.heap al13 "java/util/ArrayList" "elementData" "[Ljava/lang/Object;" (.ref ea23) := fb5_4.keep K104 (ninS nb5_2 nin0)
    have f110 : Fld Z T104.heap al13 "java/util/ArrayList" "size" "I" (.int ((0 : Int32) + (1 : Int32))) := fb5_5.keep K104 (ninS nb5_2 nin0)
    have f111 : Arv Z T104.heap ea23 ke23 (.object "java/lang/Object") (10 : Int32) [(.ref b23), .null, .null, .null, .null, .null, .null, .null, .null, .null] .null := fb5_6.keep K104 (ninS nb5_9.symm nin0)
    have f112 : Exa Z T104.heap b5 "com/example/zhangtiao/zhangtiao/input/VarLongs" := fb5_7.keep K104
    have f113 : Fld Z T104.heap b5 "com/example/zhangtiao/zhangtiao/input/VarLongs" "last" "[B" (.ref b23) := fb5_8.keep K104 (ninS nb5_7 nin0)
    have f114 : Fld Z T104.heap b5 "com/example/zhangtiao/zhangtiao/input/VarLongs" "position" "I" (.int (own_n ((([] ++ own_enc 8 w1) ++ own_enc 8 w2) ++ own_enc 8 w3))) := fb5_9.keep K104 (ninS nb5_7 nin0)
    have f115 : Fld Z T104.heap b5 "com/example/zhangtiao/zhangtiao/input/VarLongs" "chunks" "Ljava/util/List;" (.ref al13) := fb5_10.keep K104 (ninS nb5_7 nin0)
    have f116 : Arv Z T104.heap b23 kc23 .byte (65536 : Int32) ((([] ++ own_enc 8 w1) ++ own_enc 8 w2) ++ own_enc 8 w3) (.int (0 : Int32)) := fb5_11.keep K104 (ninS nb5_5 nin0)
    have f117 : Exa Z T104.heap b60 "com/example/zhangtiao/zhangtiao/input/VarLongs$Cursor" := fb5_15.keep K104
    subst hv104
    have N104 := Fr.app N103 N104q
    have pre104 : Go p.tables e below (s₁.setTop (entryFrame m #[(.long y0), (.long y1), (.long y2), (.int y3)] maxLocals)) T104 (mkF m 126 #[.val (.long y0), .second, .val (.long y1), .second, .val (.long y2), .second, .val (.int y3), .val (.long w1), .second, .val (.long w2), .second, .val (.long w3), .second, .val (.ref b5), .val (.long w21), .second, .val (.long w36), .second, .val (.long w49), .second, .val (.ref b60), .val (.int (0 : Int32)), .val (.int w99), .unset, .unset] []) := fun t k => pre103 t (st104.trans k)
    have pre118 : Go p.tables e below (s₁.setTop (entryFrame m #[(.long y0), (.long y1), (.long y2), (.int y3)] maxLocals)) T104 (mkF m 128 #[.val (.long y0), .second, .val (.long y1), .second, .val (.long y2), .second, .val (.int y3), .val (.long w1), .second, .val (.long w2), .second, .val (.long w3), .second, .val (.ref b5), .val (.long w21), .second, .val (.long w36), .second, .val (.long w49), .second, .val (.ref b60), .val (.int (0 : Int32)), .val (.int w99), .unset, .unset] [(.ref b60)]) := fun t k => pre104 t (by
        refine XS.aload X104.here hx rfl (hb hby at_126) rfl rfl ?_
        exact k)
    have fn119 := f116
    rw [own_l0 (own_enc 8 w1) (own_enc 8 w2) (own_enc 8 w3)] at fn119
    obtain ⟨cq120, kq120, q120a, q120b, q120c⟩ := isOf hZ rfl fo104_3
    obtain ⟨_, _, ⟨T120, L120, k120, n120⟩, -, X120, ⟨Lc120, hQ120, l120, y120, z120⟩, st120⟩ := X104.virtualBack hx (y := (⟨"com/example/zhangtiao/zhangtiao/input/VarLongs$Cursor", "next", "()J"⟩ : MethodName)) (z := (⟨"com/example/zhangtiao/zhangtiao/input/VarLongs$Cursor", "next", "()J"⟩ : MethodName)) hown (mvT hZ (hw _ (List.mem_of_getElem? (i := 125) rfl))) (mvT hZ (hw _ (List.mem_of_getElem? (i := 126) rfl))) (notFace_of_selects (args := #[]) (mvT hZ (hw _ (List.mem_of_getElem? (i := 128) rfl)))) (mvT hZ (hw _ (List.mem_of_getElem? (i := 128) rfl))) (mvT hZ (hw _ (List.mem_of_getElem? (i := 127) rfl))) (by decide) (backOf (W := 0) (rm_nxt l Z av0 hw [] b60 (.ref b5) b5 al13 ea23 ke23 b23 kc23 [] w1 (own_enc 8 w2 ++ own_enc 8 w3) T104.heap n0 f105 fo104_0 fo104_1 fo104_2 fo104_3 f115 f108 f110 f109 f111 f107 fn119 gb5_3 nb5_5.symm nb5_7.symm nb5_2.symm nb5_9 rfl hq_w1 (by decide)) hZ (hw _ (List.mem_of_getElem? (i := 129) rfl)) (hw _ (List.mem_of_getElem? (i := 99) rfl)) (by decide) (by decide)) q120a q120c (g := (mkF m 128 #[.val (.long y0), .second, .val (.long y1), .second, .val (.long y2), .second, .val (.int y3), .val (.long w1), .second, .val (.long w2), .second, .val (.long w3), .second, .val (.ref b5), .val (.long w21), .second, .val (.long w36), .second, .val (.long w49), .second, .val (.ref b60), .val (.int (0 : Int32)), .val (.int w99), .unset, .unset] [(.ref b60)])) rfl (by rw [hml]; rfl) (Steps.refl _) (argsL := []) (rest := []) (lenOf pd_9 rfl) rfl (by show 2 * 0 + _ ≤ _; exact Nat.le_of_eq rfl) (hb hby at_128) (fun _ _ => ⟨rfl, rfl, (by decide : 5 + 0 ≤ _), (by decide : 65555 + 0 ≤ _)⟩)
    dsimp only [Pt.U, Pt.locs, Pt.cells, Pt.slots] at X120 l120 y120 z120 st120 hQ120
    subst l120 y120 z120
    obtain ⟨ta120, hv120, N120q, K120, fo120_0, fo120_1, fo120_2, fo120_3⟩ := hQ120
    have f121 : n0 ≤ T120.heap.size := Nat.le_trans f105 K120.1
    have f122 : Old Z n0 T120.heap := f106.keep K120 (allS gb5_3 all0)
    have f123 : Exa Z T120.heap b23 "[B" := f107.keep K120
    have f124 : Exa Z T120.heap al13 "java/util/ArrayList" := f108.keep K120
    have f125 : Fld Z T120.heap al13 "java/util/ArrayList" "elementData" "[Ljava/lang/Object;" (.ref ea23) := f109.keep K120 (ninS nb5_2 nin0)
    have f126 : Fld Z T120.heap al13 "java/util/ArrayList" "size" "I" (.int ((0 : Int32) + (1 : Int32))) := f110.keep K120 (ninS nb5_2 nin0)
    have f127 : Arv Z T120.heap ea23 ke23 (.object "java/lang/Object") (10 : Int32) [(.ref b23), .null, .null, .null, .null, .null, .null, .null, .null, .null] .null := f111.keep K120 (ninS nb5_9.symm nin0)
    have f128 : Exa Z T120.heap b5 "com/example/zhangtiao/zhangtiao/input/VarLongs" := f112.keep K120
    have f129 : Fld Z T120.heap b5 "com/example/zhangtiao/zhangtiao/input/VarLongs" "last" "[B" (.ref b23) := f113.keep K120 (ninS nb5_7 nin0)
    have f130 : Fld Z T120.heap b5 "com/example/zhangtiao/zhangtiao/input/VarLongs" "position" "I" (.int (own_n ((([] ++ own_enc 8 w1) ++ own_enc 8 w2) ++ own_enc 8 w3))) := f114.keep K120 (ninS nb5_7 nin0)
    have f131 : Fld Z T120.heap b5 "com/example/zhangtiao/zhangtiao/input/VarLongs" "chunks" "Ljava/util/List;" (.ref al13) := f115.keep K120 (ninS nb5_7 nin0)
    have f132 : Exa Z T120.heap b60 "com/example/zhangtiao/zhangtiao/input/VarLongs$Cursor" := fo104_3.keep K120
    have f133 : Arv Z T120.heap b23 kc23 .byte (65536 : Int32) ([] ++ (own_enc 8 w1 ++ (own_enc 8 w2 ++ own_enc 8 w3))) (.int (0 : Int32)) := fn119.keep K120 (ninS nb5_5 nin0)
    subst hv120
    have N120 := Fr.app N104 N120q
    have pre120 : Go p.tables e below (s₁.setTop (entryFrame m #[(.long y0), (.long y1), (.long y2), (.int y3)] maxLocals)) T120 (mkF m 131 #[.val (.long y0), .second, .val (.long y1), .second, .val (.long y2), .second, .val (.int y3), .val (.long w1), .second, .val (.long w2), .second, .val (.long w3), .second, .val (.ref b5), .val (.long w21), .second, .val (.long w36), .second, .val (.long w49), .second, .val (.ref b60), .val (.int (0 : Int32)), .val (.int w99), .unset, .unset] [(.long w1)]) := fun t k => pre118 t (st120.trans k)
    have pre134 : Go p.tables e below (s₁.setTop (entryFrame m #[(.long y0), (.long y1), (.long y2), (.int y3)] maxLocals)) T120 (mkF m 139 #[.val (.long y0), .second, .val (.long y1), .second, .val (.long y2), .second, .val (.int y3), .val (.long w1), .second, .val (.long w2), .second, .val (.long w3), .second, .val (.ref b5), .val (.long w21), .second, .val (.long w36), .second, .val (.long w49), .second, .val (.ref b60), .val (.int (0 : Int32)), .val (.int w99), .unset, .unset] [(.long w3), (.long w2), (.long w1), (.int (0 : Int32)), (.long w1)]) := fun t k => pre120 t (by
        refine XS.iload X120.here hx rfl (hb hby at_131) rfl ?_
        show Steps p.tables e below (T120.setTop (mkF m 133 #[.val (.long y0), .second, .val (.long y1), .second, .val (.long y2), .second, .val (.int y3), .val (.long w1), .second, .val (.long w2), .second, .val (.long w3), .second, .val (.ref b5), .val (.long w21), .second, .val (.long w36), .second, .val (.long w49), .second, .val (.ref b60), .val (.int (0 : Int32)), .val (.int w99), .unset, .unset] [(.int (0 : Int32)), (.long w1)])) _
        refine XS.lload X120.here hx rfl (hb hby at_133) rfl ?_
        show Steps p.tables e below (T120.setTop (mkF m 135 #[.val (.long y0), .second, .val (.long y1), .second, .val (.long y2), .second, .val (.int y3), .val (.long w1), .second, .val (.long w2), .second, .val (.long w3), .second, .val (.ref b5), .val (.long w21), .second, .val (.long w36), .second, .val (.long w49), .second, .val (.ref b60), .val (.int (0 : Int32)), .val (.int w99), .unset, .unset] [(.long w1), (.int (0 : Int32)), (.long w1)])) _
        refine XS.lload X120.here hx rfl (hb hby at_135) rfl ?_
        show Steps p.tables e below (T120.setTop (mkF m 137 #[.val (.long y0), .second, .val (.long y1), .second, .val (.long y2), .second, .val (.int y3), .val (.long w1), .second, .val (.long w2), .second, .val (.long w3), .second, .val (.ref b5), .val (.long w21), .second, .val (.long w36), .second, .val (.long w49), .second, .val (.ref b60), .val (.int (0 : Int32)), .val (.int w99), .unset, .unset] [(.long w2), (.long w1), (.int (0 : Int32)), (.long w1)])) _
        refine XS.lload X120.here hx rfl (hb hby at_137) rfl ?_
        exact k)
    obtain ⟨_, _, ⟨T135, L135, k135, n135⟩, -, X135, ⟨Lc135, hQ135, l135, y135, z135⟩, st135⟩ := Jvm.LawKit.callS X120 hx (y := (⟨"com/example/zhangtiao/zhangtiao/input/VarLongsMoveToPinLaw", "pick", "(IJJJ)J"⟩ : MethodName)) hown (mvT hZ (hw _ (List.mem_of_getElem? (i := 111) rfl))) (mvT hZ (hw _ (List.mem_of_getElem? (i := 112) rfl))) (mvT hZ (hw _ (List.mem_of_getElem? (i := 113) rfl))) (mvT hZ (hw _ (List.mem_of_getElem? (i := 114) rfl))) (by decide) (backOf (W := 2) (rm_pk l Z av0 hw [] (0 : Int32) w1 w2 w3 T120.heap n0) hZ (hw _ (List.mem_of_getElem? (i := 114) rfl)) (hw _ (List.mem_of_getElem? (i := 113) rfl)) (by decide) (by decide)) (g := (mkF m 139 #[.val (.long y0), .second, .val (.long y1), .second, .val (.long y2), .second, .val (.int y3), .val (.long w1), .second, .val (.long w2), .second, .val (.long w3), .second, .val (.ref b5), .val (.long w21), .second, .val (.long w36), .second, .val (.long w49), .second, .val (.ref b60), .val (.int (0 : Int32)), .val (.int w99), .unset, .unset] [(.long w3), (.long w2), (.long w1), (.int (0 : Int32)), (.long w1)])) rfl (by rw [hml]; rfl) (argsL := [(.int (0 : Int32)), (.long w1), (.long w2), (.long w3)]) (rest := [(.long w1)]) (lenOf pd_13 rfl) rfl (by show 2 * 0 + _ ≤ _; exact Nat.le_of_eq rfl) (hb hby at_139) (fun _ _ => ⟨rfl, rfl, (by decide : 5 + 0 ≤ _), (by decide : 65555 + 0 ≤ _)⟩)
    dsimp only [Pt.U, Pt.locs, Pt.cells, Pt.slots] at X135 l135 y135 z135 st135 hQ135
    subst l135 y135 z135
    obtain ⟨hv135, N135q, e135⟩ := hQ135
    rw [show own_pk (0 : Int32) w1 w2 w3 = w1 from rfl] at hv135
    subst hv135
    have N135 := Fr.app N120 N135q
    have pre135 : Go p.tables e below (s₁.setTop (entryFrame m #[(.long y0), (.long y1), (.long y2), (.int y3)] maxLocals)) T135 (mkF m 142 #[.val (.long y0), .second, .val (.long y1), .second, .val (.long y2), .second, .val (.int y3), .val (.long w1), .second, .val (.long w2), .second, .val (.long w3), .second, .val (.ref b5), .val (.long w21), .second, .val (.long w36), .second, .val (.long w49), .second, .val (.ref b60), .val (.int (0 : Int32)), .val (.int w99), .unset, .unset] [(.long w1), (.long w1)]) := fun t k => pre134 t (st135 _ k)
    have pre136 : Go p.tables e below (s₁.setTop (entryFrame m #[(.long y0), (.long y1), (.long y2), (.int y3)] maxLocals)) T135 (mkF m 153 #[.val (.long y0), .second, .val (.long y1), .second, .val (.long y2), .second, .val (.int y3), .val (.long w1), .second, .val (.long w2), .second, .val (.long w3), .second, .val (.ref b5), .val (.long w21), .second, .val (.long w36), .second, .val (.long w49), .second, .val (.ref b60), .val (.int (0 : Int32)), .val (.int w99), .val (.int (1 : Int32)), .unset] []) := fun t k => pre135 t (by
        refine XS.lcmp X135.here hx rfl (hb hby at_142) rfl ?_
        show Steps p.tables e below (T135.setTop (mkF m 143 #[.val (.long y0), .second, .val (.long y1), .second, .val (.long y2), .second, .val (.int y3), .val (.long w1), .second, .val (.long w2), .second, .val (.long w3), .second, .val (.ref b5), .val (.long w21), .second, .val (.long w36), .second, .val (.long w49), .second, .val (.ref b60), .val (.int (0 : Int32)), .val (.int w99), .unset, .unset] [(.int (lcmpW w1 w1))])) _
        refine XS.ifNo X135.here hx rfl (hb hby at_143) rfl ((if0 _ _).trans (teq ((lw_eq _ _).mpr rfl)).2) ?_
        show Steps p.tables e below (T135.setTop (mkF m 146 #[.val (.long y0), .second, .val (.long y1), .second, .val (.long y2), .second, .val (.int y3), .val (.long w1), .second, .val (.long w2), .second, .val (.long w3), .second, .val (.ref b5), .val (.long w21), .second, .val (.long w36), .second, .val (.long w49), .second, .val (.ref b60), .val (.int (0 : Int32)), .val (.int w99), .unset, .unset] [])) _
        refine XS.iconst X135.here hx rfl (hb hby at_146) ?_
        show Steps p.tables e below (T135.setTop (mkF m 147 #[.val (.long y0), .second, .val (.long y1), .second, .val (.long y2), .second, .val (.int y3), .val (.long w1), .second, .val (.long w2), .second, .val (.long w3), .second, .val (.ref b5), .val (.long w21), .second, .val (.long w36), .second, .val (.long w49), .second, .val (.ref b60), .val (.int (0 : Int32)), .val (.int w99), .unset, .unset] [(.int (1 : Int32))])) _
        refine XS.goto X135.here hx rfl (pc0 := 147) (pc' := 151) rfl (hb hby at_147) (by decide) (by decide) ?_
        show Steps p.tables e below (T135.setTop (mkF m 151 #[.val (.long y0), .second, .val (.long y1), .second, .val (.long y2), .second, .val (.int y3), .val (.long w1), .second, .val (.long w2), .second, .val (.long w3), .second, .val (.ref b5), .val (.long w21), .second, .val (.long w36), .second, .val (.long w49), .second, .val (.ref b60), .val (.int (0 : Int32)), .val (.int w99), .unset, .unset] [(.int (1 : Int32))])) _
        refine XS.istore X135.here hx rfl (hb hby at_151) rfl (l' := #[.val (.long y0), .second, .val (.long y1), .second, .val (.long y2), .second, .val (.int y3), .val (.long w1), .second, .val (.long w2), .second, .val (.long w3), .second, .val (.ref b5), .val (.long w21), .second, .val (.long w36), .second, .val (.long w49), .second, .val (.ref b60), .val (.int (0 : Int32)), .val (.int w99), .val (.int (1 : Int32)), .unset]) rfl ?_
        exact k)
    have hq_w99 := own_mod3 ((y3.toUInt32 >>> ((8 : Int32) &&& 31).toUInt32).toInt32)
    rw [← hw99] at hq_w99
    clear hw99
    rcases (hq_w99) with rfl | rfl | rfl
    · -- w99 = (0 : Int32)
      have pre137 : Go p.tables e below (s₁.setTop (entryFrame m #[(.long y0), (.long y1), (.long y2), (.int y3)] maxLocals)) T135 (mkF m 163 #[.val (.long y0), .second, .val (.long y1), .second, .val (.long y2), .second, .val (.int y3), .val (.long w1), .second, .val (.long w2), .second, .val (.long w3), .second, .val (.ref b5), .val (.long w21), .second, .val (.long w36), .second, .val (.long w49), .second, .val (.ref b60), .val (.int (0 : Int32)), .val (.int (0 : Int32)), .val (.int (1 : Int32)), .unset] [(.long w49), (.long w36), (.long w21), (.int (0 : Int32)), (.ref b60)]) := fun t k => pre136 t (by
          refine XS.aload X135.here hx rfl (hb hby at_153) rfl rfl ?_
          show Steps p.tables e below (T135.setTop (mkF m 155 #[.val (.long y0), .second, .val (.long y1), .second, .val (.long y2), .second, .val (.int y3), .val (.long w1), .second, .val (.long w2), .second, .val (.long w3), .second, .val (.ref b5), .val (.long w21), .second, .val (.long w36), .second, .val (.long w49), .second, .val (.ref b60), .val (.int (0 : Int32)), .val (.int (0 : Int32)), .val (.int (1 : Int32)), .unset] [(.ref b60)])) _
          refine XS.iload X135.here hx rfl (hb hby at_155) rfl ?_
          show Steps p.tables e below (T135.setTop (mkF m 157 #[.val (.long y0), .second, .val (.long y1), .second, .val (.long y2), .second, .val (.int y3), .val (.long w1), .second, .val (.long w2), .second, .val (.long w3), .second, .val (.ref b5), .val (.long w21), .second, .val (.long w36), .second, .val (.long w49), .second, .val (.ref b60), .val (.int (0 : Int32)), .val (.int (0 : Int32)), .val (.int (1 : Int32)), .unset] [(.int (0 : Int32)), (.ref b60)])) _
          refine XS.lload X135.here hx rfl (hb hby at_157) rfl ?_
          show Steps p.tables e below (T135.setTop (mkF m 159 #[.val (.long y0), .second, .val (.long y1), .second, .val (.long y2), .second, .val (.int y3), .val (.long w1), .second, .val (.long w2), .second, .val (.long w3), .second, .val (.ref b5), .val (.long w21), .second, .val (.long w36), .second, .val (.long w49), .second, .val (.ref b60), .val (.int (0 : Int32)), .val (.int (0 : Int32)), .val (.int (1 : Int32)), .unset] [(.long w21), (.int (0 : Int32)), (.ref b60)])) _
          refine XS.lload X135.here hx rfl (hb hby at_159) rfl ?_
          show Steps p.tables e below (T135.setTop (mkF m 161 #[.val (.long y0), .second, .val (.long y1), .second, .val (.long y2), .second, .val (.int y3), .val (.long w1), .second, .val (.long w2), .second, .val (.long w3), .second, .val (.ref b5), .val (.long w21), .second, .val (.long w36), .second, .val (.long w49), .second, .val (.ref b60), .val (.int (0 : Int32)), .val (.int (0 : Int32)), .val (.int (1 : Int32)), .unset] [(.long w36), (.long w21), (.int (0 : Int32)), (.ref b60)])) _
          refine XS.lload X135.here hx rfl (hb hby at_161) rfl ?_
          exact k)
      obtain ⟨_, _, ⟨T138, L138, k138, n138⟩, -, X138, ⟨Lc138, hQ138, l138, y138, z138⟩, st138⟩ := Jvm.LawKit.callS X135 hx (y := (⟨"com/example/zhangtiao/zhangtiao/input/VarLongsMoveToPinLaw", "pick", "(IJJJ)J"⟩ : MethodName)) hown (mvT hZ (hw _ (List.mem_of_getElem? (i := 111) rfl))) (mvT hZ (hw _ (List.mem_of_getElem? (i := 112) rfl))) (mvT hZ (hw _ (List.mem_of_getElem? (i := 113) rfl))) (mvT hZ (hw _ (List.mem_of_getElem? (i := 114) rfl))) (by decide) (backOf (W := 1) (rm_pk l Z av0 hw [] (0 : Int32) w21 w36 w49 T120.heap n0) hZ (hw _ (List.mem_of_getElem? (i := 114) rfl)) (hw _ (List.mem_of_getElem? (i := 113) rfl)) (by decide) (by decide)) (g := (mkF m 163 #[.val (.long y0), .second, .val (.long y1), .second, .val (.long y2), .second, .val (.int y3), .val (.long w1), .second, .val (.long w2), .second, .val (.long w3), .second, .val (.ref b5), .val (.long w21), .second, .val (.long w36), .second, .val (.long w49), .second, .val (.ref b60), .val (.int (0 : Int32)), .val (.int (0 : Int32)), .val (.int (1 : Int32)), .unset] [(.long w49), (.long w36), (.long w21), (.int (0 : Int32)), (.ref b60)])) rfl (by rw [hml]; rfl) (argsL := [(.int (0 : Int32)), (.long w21), (.long w36), (.long w49)]) (rest := [(.ref b60)]) (lenOf pd_13 rfl) rfl (by show 2 * 0 + _ ≤ _; exact Nat.le_of_eq rfl) (hb hby at_163) (fun _ _ => ⟨rfl, e135, (by decide : 5 + 0 ≤ _), (by decide : 65555 + 0 ≤ _)⟩)
      dsimp only [Pt.U, Pt.locs, Pt.cells, Pt.slots] at X138 l138 y138 z138 st138 hQ138
      subst l138 y138 z138
      obtain ⟨hv138, N138q, e138⟩ := hQ138
      rw [show own_pk (0 : Int32) w21 w36 w49 = w21 from rfl] at hv138
      subst hv138
      have N138 := Fr.app N135 N138q
      have pre138 : Go p.tables e below (s₁.setTop (entryFrame m #[(.long y0), (.long y1), (.long y2), (.int y3)] maxLocals)) T138 (mkF m 166 #[.val (.long y0), .second, .val (.long y1), .second, .val (.long y2), .second, .val (.int y3), .val (.long w1), .second, .val (.long w2), .second, .val (.long w3), .second, .val (.ref b5), .val (.long w21), .second, .val (.long w36), .second, .val (.long w49), .second, .val (.ref b60), .val (.int (0 : Int32)), .val (.int (0 : Int32)), .val (.int (1 : Int32)), .unset] [(.long w21), (.ref b60)]) := fun t k => pre137 t (st138 _ k)
      obtain ⟨cq139, kq139, q139a, q139b, q139c⟩ := isOf hZ e138 fo120_3
      obtain ⟨_, _, ⟨T139, L139, k139, n139⟩, -, X139, ⟨Lc139, hQ139, l139, y139, z139⟩, st139⟩ := X138.virtualBack hx (y := (⟨"com/example/zhangtiao/zhangtiao/input/VarLongs$Cursor", "moveTo", "(J)V"⟩ : MethodName)) (z := (⟨"com/example/zhangtiao/zhangtiao/input/VarLongs$Cursor", "moveTo", "(J)V"⟩ : MethodName)) hown (mvT hZ (hw _ (List.mem_of_getElem? (i := 115) rfl))) (mvT hZ (hw _ (List.mem_of_getElem? (i := 116) rfl))) (notFace_of_selects (args := #[]) (mvT hZ (hw _ (List.mem_of_getElem? (i := 118) rfl)))) (mvT hZ (hw _ (List.mem_of_getElem? (i := 118) rfl))) (mvT hZ (hw _ (List.mem_of_getElem? (i := 117) rfl))) (by decide) (backOf (W := 0) (rm_mvt l Z av0 hw [] b60 w21 (.ref b5) (0 : Int32) ta120 [] T120.heap n0 f121 fo120_0 fo120_1 fo120_2 fo120_3 gb5_3 (hw21.trans own_p0) (by decide)) hZ (hw _ (List.mem_of_getElem? (i := 119) rfl)) (hw _ (List.mem_of_getElem? (i := 99) rfl)) (by decide) (by decide)) q139a q139c (g := (mkF m 166 #[.val (.long y0), .second, .val (.long y1), .second, .val (.long y2), .second, .val (.int y3), .val (.long w1), .second, .val (.long w2), .second, .val (.long w3), .second, .val (.ref b5), .val (.long w21), .second, .val (.long w36), .second, .val (.long w49), .second, .val (.ref b60), .val (.int (0 : Int32)), .val (.int (0 : Int32)), .val (.int (1 : Int32)), .unset] [(.long w21), (.ref b60)])) rfl (by rw [hml]; rfl) (Steps.refl _) (argsL := [(.long w21)]) (rest := []) (lenOf pd_10 rfl) rfl (by show 2 * 0 + _ ≤ _; exact Nat.le_of_eq rfl) (hb hby at_166) (fun _ _ => ⟨rfl, e138, (by decide : 5 + 0 ≤ _), (by decide : 65555 + 0 ≤ _)⟩)
      dsimp only [Pt.U, Pt.locs, Pt.cells, Pt.slots] at X139 l139 y139 z139 st139 hQ139
      subst l139 y139 z139
      obtain ⟨hv139, N139q, K139, fo139_0, fo139_1, fo139_2, fo139_3⟩ := hQ139
      have f140 : n0 ≤ T139.heap.size := Nat.le_trans f121 K139.1
      have f141 : Old Z n0 T139.heap := f122.keep K139 (allS gb5_3 all0)
      have f142 : Exa Z T139.heap b23 "[B" := f123.keep K139
      have f143 : Exa Z T139.heap al13 "java/util/ArrayList" := f124.keep K139
      have f144 : Fld Z T139.heap al13 "java/util/ArrayList" "elementData" "[Ljava/lang/Object;" (.ref ea23) := f125.keep K139 (ninS nb5_2 nin0)
      have f145 : Fld Z T139.heap al13 "java/util/ArrayList" "size" "I" (.int ((0 : Int32) + (1 : Int32))) := f126.keep K139 (ninS nb5_2 nin0)
      have f146 : Arv Z T139.heap ea23 ke23 (.object "java/lang/Object") (10 : Int32) [(.ref b23), .null, .null, .null, .null, .null, .null, .null, .null, .null] .null := f127.keep K139 (ninS nb5_9.symm nin0)
      have f147 : Exa Z T139.heap b5 "com/example/zhangtiao/zhangtiao/input/VarLongs" := f128.keep K139
      have f148 : Fld Z T139.heap b5 "com/example/zhangtiao/zhangtiao/input/VarLongs" "last" "[B" (.ref b23) := f129.keep K139 (ninS nb5_7 nin0)
      have f149 : Fld Z T139.heap b5 "com/example/zhangtiao/zhangtiao/input/VarLongs" "position" "I" (.int (own_n ((([] ++ own_enc 8 w1) ++ own_enc 8 w2) ++ own_enc 8 w3))) := f130.keep K139 (ninS nb5_7 nin0)
      have f150 : Fld Z T139.heap b5 "com/example/zhangtiao/zhangtiao/input/VarLongs" "chunks" "Ljava/util/List;" (.ref al13) := f131.keep K139 (ninS nb5_7 nin0)
      have f151 : Arv Z T139.heap b23 kc23 .byte (65536 : Int32) ([] ++ (own_enc 8 w1 ++ (own_enc 8 w2 ++ own_enc 8 w3))) (.int (0 : Int32)) := f133.keep K139 (ninS nb5_5 nin0)
      have f152 : Exa Z T139.heap b60 "com/example/zhangtiao/zhangtiao/input/VarLongs$Cursor" := fo120_3.keep K139
      subst hv139
      have N139 := Fr.app N138 N139q
      have pre139 : Go p.tables e below (s₁.setTop (entryFrame m #[(.long y0), (.long y1), (.long y2), (.int y3)] maxLocals)) T139 (mkF m 169 #[.val (.long y0), .second, .val (.long y1), .second, .val (.long y2), .second, .val (.int y3), .val (.long w1), .second, .val (.long w2), .second, .val (.long w3), .second, .val (.ref b5), .val (.long w21), .second, .val (.long w36), .second, .val (.long w49), .second, .val (.ref b60), .val (.int (0 : Int32)), .val (.int (0 : Int32)), .val (.int (1 : Int32)), .unset] []) := fun t k => pre138 t (st139.trans k)
      have pre153 : Go p.tables e below (s₁.setTop (entryFrame m #[(.long y0), (.long y1), (.long y2), (.int y3)] maxLocals)) T139 (mkF m 171 #[.val (.long y0), .second, .val (.long y1), .second, .val (.long y2), .second, .val (.int y3), .val (.long w1), .second, .val (.long w2), .second, .val (.long w3), .second, .val (.ref b5), .val (.long w21), .second, .val (.long w36), .second, .val (.long w49), .second, .val (.ref b60), .val (.int (0 : Int32)), .val (.int (0 : Int32)), .val (.int (1 : Int32)), .unset] [(.ref b60)]) := fun t k => pre139 t (by
          refine XS.aload X139.here hx rfl (hb hby at_169) rfl rfl ?_
          exact k)
      have fn155 := f151
      rw [← own_l0 (own_enc 8 w1) (own_enc 8 w2) (own_enc 8 w3)] at fn155
      have fn154 := fn155
      rw [own_l0 (own_enc 8 w1) (own_enc 8 w2) (own_enc 8 w3)] at fn154
      obtain ⟨cq156, kq156, q156a, q156b, q156c⟩ := isOf hZ rfl fo139_3
      obtain ⟨_, _, ⟨T156, L156, k156, n156⟩, -, X156, ⟨Lc156, hQ156, l156, y156, z156⟩, st156⟩ := X139.virtualBack hx (y := (⟨"com/example/zhangtiao/zhangtiao/input/VarLongs$Cursor", "next", "()J"⟩ : MethodName)) (z := (⟨"com/example/zhangtiao/zhangtiao/input/VarLongs$Cursor", "next", "()J"⟩ : MethodName)) hown (mvT hZ (hw _ (List.mem_of_getElem? (i := 125) rfl))) (mvT hZ (hw _ (List.mem_of_getElem? (i := 126) rfl))) (notFace_of_selects (args := #[]) (mvT hZ (hw _ (List.mem_of_getElem? (i := 128) rfl)))) (mvT hZ (hw _ (List.mem_of_getElem? (i := 128) rfl))) (mvT hZ (hw _ (List.mem_of_getElem? (i := 127) rfl))) (by decide) (backOf (W := 0) (rm_nxt l Z av0 hw [] b60 (.ref b5) b5 al13 ea23 ke23 b23 kc23 [] w1 (own_enc 8 w2 ++ own_enc 8 w3) T139.heap n0 f140 fo139_0 fo139_1 fo139_2 fo139_3 f150 f143 f145 f144 f146 f142 fn154 gb5_3 nb5_5.symm nb5_7.symm nb5_2.symm nb5_9 rfl hq_w1 (by decide)) hZ (hw _ (List.mem_of_getElem? (i := 129) rfl)) (hw _ (List.mem_of_getElem? (i := 99) rfl)) (by decide) (by decide)) q156a q156c (g := (mkF m 171 #[.val (.long y0), .second, .val (.long y1), .second, .val (.long y2), .second, .val (.int y3), .val (.long w1), .second, .val (.long w2), .second, .val (.long w3), .second, .val (.ref b5), .val (.long w21), .second, .val (.long w36), .second, .val (.long w49), .second, .val (.ref b60), .val (.int (0 : Int32)), .val (.int (0 : Int32)), .val (.int (1 : Int32)), .unset] [(.ref b60)])) rfl (by rw [hml]; rfl) (Steps.refl _) (argsL := []) (rest := []) (lenOf pd_9 rfl) rfl (by show 2 * 0 + _ ≤ _; exact Nat.le_of_eq rfl) (hb hby at_171) (fun _ _ => ⟨rfl, rfl, (by decide : 5 + 0 ≤ _), (by decide : 65555 + 0 ≤ _)⟩)
      dsimp only [Pt.U, Pt.locs, Pt.cells, Pt.slots] at X156 l156 y156 z156 st156 hQ156
      subst l156 y156 z156
      obtain ⟨ta156, hv156, N156q, K156, fo156_0, fo156_1, fo156_2, fo156_3⟩ := hQ156
      have f157 : n0 ≤ T156.heap.size := Nat.le_trans f140 K156.1
      have f158 : Old Z n0 T156.heap := f141.keep K156 (allS gb5_3 all0)
      have f159 : Exa Z T156.heap b23 "[B" := f142.keep K156
      have f160 : Exa Z T156.heap al13 "java/util/ArrayList" := f143.keep K156
      have f161 : Fld Z T156.heap al13 "java/util/ArrayList" "elementData" "[Ljava/lang/Object;" (.ref ea23) := f144.keep K156 (ninS nb5_2 nin0)
      have f162 : Fld Z T156.heap al13 "java/util/ArrayList" "size" "I" (.int ((0 : Int32) + (1 : Int32))) := f145.keep K156 (ninS nb5_2 nin0)
      have f163 : Arv Z T156.heap ea23 ke23 (.object "java/lang/Object") (10 : Int32) [(.ref b23), .null, .null, .null, .null, .null, .null, .null, .null, .null] .null := f146.keep K156 (ninS nb5_9.symm nin0)
      have f164 : Exa Z T156.heap b5 "com/example/zhangtiao/zhangtiao/input/VarLongs" := f147.keep K156
      have f165 : Fld Z T156.heap b5 "com/example/zhangtiao/zhangtiao/input/VarLongs" "last" "[B" (.ref b23) := f148.keep K156 (ninS nb5_7 nin0)
      have f166 : Fld Z T156.heap b5 "com/example/zhangtiao/zhangtiao/input/VarLongs" "position" "I" (.int (own_n ((([] ++ own_enc 8 w1) ++ own_enc 8 w2) ++ own_enc 8 w3))) := f149.keep K156 (ninS nb5_7 nin0)
      have f167 : Fld Z T156.heap b5 "com/example/zhangtiao/zhangtiao/input/VarLongs" "chunks" "Ljava/util/List;" (.ref al13) := f150.keep K156 (ninS nb5_7 nin0)
      have f168 : Exa Z T156.heap b60 "com/example/zhangtiao/zhangtiao/input/VarLongs$Cursor" := fo139_3.keep K156
      have f169 : Arv Z T156.heap b23 kc23 .byte (65536 : Int32) ([] ++ (own_enc 8 w1 ++ (own_enc 8 w2 ++ own_enc 8 w3))) (.int (0 : Int32)) := fn154.keep K156 (ninS nb5_5 nin0)
      subst hv156
      have N156 := Fr.app N139 N156q
      have pre156 : Go p.tables e below (s₁.setTop (entryFrame m #[(.long y0), (.long y1), (.long y2), (.int y3)] maxLocals)) T156 (mkF m 174 #[.val (.long y0), .second, .val (.long y1), .second, .val (.long y2), .second, .val (.int y3), .val (.long w1), .second, .val (.long w2), .second, .val (.long w3), .second, .val (.ref b5), .val (.long w21), .second, .val (.long w36), .second, .val (.long w49), .second, .val (.ref b60), .val (.int (0 : Int32)), .val (.int (0 : Int32)), .val (.int (1 : Int32)), .unset] [(.long w1)]) := fun t k => pre153 t (st156.trans k)
      have pre170 : Go p.tables e below (s₁.setTop (entryFrame m #[(.long y0), (.long y1), (.long y2), (.int y3)] maxLocals)) T156 (mkF m 182 #[.val (.long y0), .second, .val (.long y1), .second, .val (.long y2), .second, .val (.int y3), .val (.long w1), .second, .val (.long w2), .second, .val (.long w3), .second, .val (.ref b5), .val (.long w21), .second, .val (.long w36), .second, .val (.long w49), .second, .val (.ref b60), .val (.int (0 : Int32)), .val (.int (0 : Int32)), .val (.int (1 : Int32)), .unset] [(.long w3), (.long w2), (.long w1), (.int (0 : Int32)), (.long w1)]) := fun t k => pre156 t (by
          refine XS.iload X156.here hx rfl (hb hby at_174) rfl ?_
          show Steps p.tables e below (T156.setTop (mkF m 176 #[.val (.long y0), .second, .val (.long y1), .second, .val (.long y2), .second, .val (.int y3), .val (.long w1), .second, .val (.long w2), .second, .val (.long w3), .second, .val (.ref b5), .val (.long w21), .second, .val (.long w36), .second, .val (.long w49), .second, .val (.ref b60), .val (.int (0 : Int32)), .val (.int (0 : Int32)), .val (.int (1 : Int32)), .unset] [(.int (0 : Int32)), (.long w1)])) _
          refine XS.lload X156.here hx rfl (hb hby at_176) rfl ?_
          show Steps p.tables e below (T156.setTop (mkF m 178 #[.val (.long y0), .second, .val (.long y1), .second, .val (.long y2), .second, .val (.int y3), .val (.long w1), .second, .val (.long w2), .second, .val (.long w3), .second, .val (.ref b5), .val (.long w21), .second, .val (.long w36), .second, .val (.long w49), .second, .val (.ref b60), .val (.int (0 : Int32)), .val (.int (0 : Int32)), .val (.int (1 : Int32)), .unset] [(.long w1), (.int (0 : Int32)), (.long w1)])) _
          refine XS.lload X156.here hx rfl (hb hby at_178) rfl ?_
          show Steps p.tables e below (T156.setTop (mkF m 180 #[.val (.long y0), .second, .val (.long y1), .second, .val (.long y2), .second, .val (.int y3), .val (.long w1), .second, .val (.long w2), .second, .val (.long w3), .second, .val (.ref b5), .val (.long w21), .second, .val (.long w36), .second, .val (.long w49), .second, .val (.ref b60), .val (.int (0 : Int32)), .val (.int (0 : Int32)), .val (.int (1 : Int32)), .unset] [(.long w2), (.long w1), (.int (0 : Int32)), (.long w1)])) _
          refine XS.lload X156.here hx rfl (hb hby at_180) rfl ?_
          exact k)
      obtain ⟨_, _, ⟨T171, L171, k171, n171⟩, -, X171, ⟨Lc171, hQ171, l171, y171, z171⟩, st171⟩ := Jvm.LawKit.callS X156 hx (y := (⟨"com/example/zhangtiao/zhangtiao/input/VarLongsMoveToPinLaw", "pick", "(IJJJ)J"⟩ : MethodName)) hown (mvT hZ (hw _ (List.mem_of_getElem? (i := 111) rfl))) (mvT hZ (hw _ (List.mem_of_getElem? (i := 112) rfl))) (mvT hZ (hw _ (List.mem_of_getElem? (i := 113) rfl))) (mvT hZ (hw _ (List.mem_of_getElem? (i := 114) rfl))) (by decide) (backOf (W := 2) (rm_pk l Z av0 hw [] (0 : Int32) w1 w2 w3 T156.heap n0) hZ (hw _ (List.mem_of_getElem? (i := 114) rfl)) (hw _ (List.mem_of_getElem? (i := 113) rfl)) (by decide) (by decide)) (g := (mkF m 182 #[.val (.long y0), .second, .val (.long y1), .second, .val (.long y2), .second, .val (.int y3), .val (.long w1), .second, .val (.long w2), .second, .val (.long w3), .second, .val (.ref b5), .val (.long w21), .second, .val (.long w36), .second, .val (.long w49), .second, .val (.ref b60), .val (.int (0 : Int32)), .val (.int (0 : Int32)), .val (.int (1 : Int32)), .unset] [(.long w3), (.long w2), (.long w1), (.int (0 : Int32)), (.long w1)])) rfl (by rw [hml]; rfl) (argsL := [(.int (0 : Int32)), (.long w1), (.long w2), (.long w3)]) (rest := [(.long w1)]) (lenOf pd_13 rfl) rfl (by show 2 * 0 + _ ≤ _; exact Nat.le_of_eq rfl) (hb hby at_182) (fun _ _ => ⟨rfl, rfl, (by decide : 5 + 0 ≤ _), (by decide : 65555 + 0 ≤ _)⟩)
      dsimp only [Pt.U, Pt.locs, Pt.cells, Pt.slots] at X171 l171 y171 z171 st171 hQ171
      subst l171 y171 z171
      obtain ⟨hv171, N171q, e171⟩ := hQ171
      rw [show own_pk (0 : Int32) w1 w2 w3 = w1 from rfl] at hv171
      subst hv171
      have N171 := Fr.app N156 N171q
      have pre171 : Go p.tables e below (s₁.setTop (entryFrame m #[(.long y0), (.long y1), (.long y2), (.int y3)] maxLocals)) T171 (mkF m 185 #[.val (.long y0), .second, .val (.long y1), .second, .val (.long y2), .second, .val (.int y3), .val (.long w1), .second, .val (.long w2), .second, .val (.long w3), .second, .val (.ref b5), .val (.long w21), .second, .val (.long w36), .second, .val (.long w49), .second, .val (.ref b60), .val (.int (0 : Int32)), .val (.int (0 : Int32)), .val (.int (1 : Int32)), .unset] [(.long w1), (.long w1)]) := fun t k => pre170 t (st171 _ k)
      have pre172 : Go p.tables e below (s₁.setTop (entryFrame m #[(.long y0), (.long y1), (.long y2), (.int y3)] maxLocals)) T171 (mkF m 211 #[.val (.long y0), .second, .val (.long y1), .second, .val (.long y2), .second, .val (.int y3), .val (.long w1), .second, .val (.long w2), .second, .val (.long w3), .second, .val (.ref b5), .val (.long w21), .second, .val (.long w36), .second, .val (.long w49), .second, .val (.ref b60), .val (.int (0 : Int32)), .val (.int (0 : Int32)), .val (.int (1 : Int32)), .val (.int (1 : Int32))] [(.int (1 : Int32))]) := fun t k => pre171 t (by
          refine XS.lcmp X171.here hx rfl (hb hby at_185) rfl ?_
          show Steps p.tables e below (T171.setTop (mkF m 186 #[.val (.long y0), .second, .val (.long y1), .second, .val (.long y2), .second, .val (.int y3), .val (.long w1), .second, .val (.long w2), .second, .val (.long w3), .second, .val (.ref b5), .val (.long w21), .second, .val (.long w36), .second, .val (.long w49), .second, .val (.ref b60), .val (.int (0 : Int32)), .val (.int (0 : Int32)), .val (.int (1 : Int32)), .unset] [(.int (lcmpW w1 w1))])) _
          refine XS.ifNo X171.here hx rfl (hb hby at_186) rfl ((if0 _ _).trans (teq ((lw_eq _ _).mpr rfl)).2) ?_
          show Steps p.tables e below (T171.setTop (mkF m 189 #[.val (.long y0), .second, .val (.long y1), .second, .val (.long y2), .second, .val (.int y3), .val (.long w1), .second, .val (.long w2), .second, .val (.long w3), .second, .val (.ref b5), .val (.long w21), .second, .val (.long w36), .second, .val (.long w49), .second, .val (.ref b60), .val (.int (0 : Int32)), .val (.int (0 : Int32)), .val (.int (1 : Int32)), .unset] [])) _
          refine XS.iconst X171.here hx rfl (hb hby at_189) ?_
          show Steps p.tables e below (T171.setTop (mkF m 190 #[.val (.long y0), .second, .val (.long y1), .second, .val (.long y2), .second, .val (.int y3), .val (.long w1), .second, .val (.long w2), .second, .val (.long w3), .second, .val (.ref b5), .val (.long w21), .second, .val (.long w36), .second, .val (.long w49), .second, .val (.ref b60), .val (.int (0 : Int32)), .val (.int (0 : Int32)), .val (.int (1 : Int32)), .unset] [(.int (1 : Int32))])) _
          refine XS.goto X171.here hx rfl (pc0 := 190) (pc' := 194) rfl (hb hby at_190) (by decide) (by decide) ?_
          show Steps p.tables e below (T171.setTop (mkF m 194 #[.val (.long y0), .second, .val (.long y1), .second, .val (.long y2), .second, .val (.int y3), .val (.long w1), .second, .val (.long w2), .second, .val (.long w3), .second, .val (.ref b5), .val (.long w21), .second, .val (.long w36), .second, .val (.long w49), .second, .val (.ref b60), .val (.int (0 : Int32)), .val (.int (0 : Int32)), .val (.int (1 : Int32)), .unset] [(.int (1 : Int32))])) _
          refine XS.istore X171.here hx rfl (hb hby at_194) rfl (l' := #[.val (.long y0), .second, .val (.long y1), .second, .val (.long y2), .second, .val (.int y3), .val (.long w1), .second, .val (.long w2), .second, .val (.long w3), .second, .val (.ref b5), .val (.long w21), .second, .val (.long w36), .second, .val (.long w49), .second, .val (.ref b60), .val (.int (0 : Int32)), .val (.int (0 : Int32)), .val (.int (1 : Int32)), .val (.int (1 : Int32))]) rfl ?_
          show Steps p.tables e below (T171.setTop (mkF m 196 #[.val (.long y0), .second, .val (.long y1), .second, .val (.long y2), .second, .val (.int y3), .val (.long w1), .second, .val (.long w2), .second, .val (.long w3), .second, .val (.ref b5), .val (.long w21), .second, .val (.long w36), .second, .val (.long w49), .second, .val (.ref b60), .val (.int (0 : Int32)), .val (.int (0 : Int32)), .val (.int (1 : Int32)), .val (.int (1 : Int32))] [])) _
          refine XS.iload X171.here hx rfl (hb hby at_196) rfl ?_
          show Steps p.tables e below (T171.setTop (mkF m 198 #[.val (.long y0), .second, .val (.long y1), .second, .val (.long y2), .second, .val (.int y3), .val (.long w1), .second, .val (.long w2), .second, .val (.long w3), .second, .val (.ref b5), .val (.long w21), .second, .val (.long w36), .second, .val (.long w49), .second, .val (.ref b60), .val (.int (0 : Int32)), .val (.int (0 : Int32)), .val (.int (1 : Int32)), .val (.int (1 : Int32))] [(.int (1 : Int32))])) _
          refine XS.ifNo X171.here hx rfl (hb hby at_198) rfl ((if0 _ _).trans (feq (by decide)).1) ?_
          show Steps p.tables e below (T171.setTop (mkF m 201 #[.val (.long y0), .second, .val (.long y1), .second, .val (.long y2), .second, .val (.int y3), .val (.long w1), .second, .val (.long w2), .second, .val (.long w3), .second, .val (.ref b5), .val (.long w21), .second, .val (.long w36), .second, .val (.long w49), .second, .val (.ref b60), .val (.int (0 : Int32)), .val (.int (0 : Int32)), .val (.int (1 : Int32)), .val (.int (1 : Int32))] [])) _
          refine XS.iload X171.here hx rfl (hb hby at_201) rfl ?_
          show Steps p.tables e below (T171.setTop (mkF m 203 #[.val (.long y0), .second, .val (.long y1), .second, .val (.long y2), .second, .val (.int y3), .val (.long w1), .second, .val (.long w2), .second, .val (.long w3), .second, .val (.ref b5), .val (.long w21), .second, .val (.long w36), .second, .val (.long w49), .second, .val (.ref b60), .val (.int (0 : Int32)), .val (.int (0 : Int32)), .val (.int (1 : Int32)), .val (.int (1 : Int32))] [(.int (1 : Int32))])) _
          refine XS.ifNo X171.here hx rfl (hb hby at_203) rfl ((if0 _ _).trans (feq (by decide)).1) ?_
          show Steps p.tables e below (T171.setTop (mkF m 206 #[.val (.long y0), .second, .val (.long y1), .second, .val (.long y2), .second, .val (.int y3), .val (.long w1), .second, .val (.long w2), .second, .val (.long w3), .second, .val (.ref b5), .val (.long w21), .second, .val (.long w36), .second, .val (.long w49), .second, .val (.ref b60), .val (.int (0 : Int32)), .val (.int (0 : Int32)), .val (.int (1 : Int32)), .val (.int (1 : Int32))] [])) _
          refine XS.iconst X171.here hx rfl (hb hby at_206) ?_
          show Steps p.tables e below (T171.setTop (mkF m 207 #[.val (.long y0), .second, .val (.long y1), .second, .val (.long y2), .second, .val (.int y3), .val (.long w1), .second, .val (.long w2), .second, .val (.long w3), .second, .val (.ref b5), .val (.long w21), .second, .val (.long w36), .second, .val (.long w49), .second, .val (.ref b60), .val (.int (0 : Int32)), .val (.int (0 : Int32)), .val (.int (1 : Int32)), .val (.int (1 : Int32))] [(.int (1 : Int32))])) _
          refine XS.goto X171.here hx rfl (pc0 := 207) (pc' := 211) rfl (hb hby at_207) (by decide) (by decide) ?_
          exact k)
      obtain ⟨fs, hr, hrun, hended, hW, hsame⟩ := X171.leave (v := some (.int (1 : Int32))) (fun h => by rw [Bd.returns] at h; cases h) (BodyLoose.notSynchronized Bd)
      refine ⟨_, _, pre172 _ ?_, hrun, hended, _, _, rfl, ?_, ⟨_, rfl⟩, hW, hsame.mono (Nat.le_of_ble_eq_true rfl) (Nat.le_of_ble_eq_true rfl)⟩
      · exact retN X171 hx (t := .boolean) Bd.returns (by simp) (hb hby at_211) hr
      · show Q_law Z y0 y1 y2 y3 ad kd h0 n0 _ T171.heap _
        rw [e171]
        exact ⟨rfl, N171⟩
    · -- w99 = (1 : Int32)
      have pre173 : Go p.tables e below (s₁.setTop (entryFrame m #[(.long y0), (.long y1), (.long y2), (.int y3)] maxLocals)) T135 (mkF m 163 #[.val (.long y0), .second, .val (.long y1), .second, .val (.long y2), .second, .val (.int y3), .val (.long w1), .second, .val (.long w2), .second, .val (.long w3), .second, .val (.ref b5), .val (.long w21), .second, .val (.long w36), .second, .val (.long w49), .second, .val (.ref b60), .val (.int (0 : Int32)), .val (.int (1 : Int32)), .val (.int (1 : Int32)), .unset] [(.long w49), (.long w36), (.long w21), (.int (1 : Int32)), (.ref b60)]) := fun t k => pre136 t (by
          refine XS.aload X135.here hx rfl (hb hby at_153) rfl rfl ?_
          show Steps p.tables e below (T135.setTop (mkF m 155 #[.val (.long y0), .second, .val (.long y1), .second, .val (.long y2), .second, .val (.int y3), .val (.long w1), .second, .val (.long w2), .second, .val (.long w3), .second, .val (.ref b5), .val (.long w21), .second, .val (.long w36), .second, .val (.long w49), .second, .val (.ref b60), .val (.int (0 : Int32)), .val (.int (1 : Int32)), .val (.int (1 : Int32)), .unset] [(.ref b60)])) _
          refine XS.iload X135.here hx rfl (hb hby at_155) rfl ?_
          show Steps p.tables e below (T135.setTop (mkF m 157 #[.val (.long y0), .second, .val (.long y1), .second, .val (.long y2), .second, .val (.int y3), .val (.long w1), .second, .val (.long w2), .second, .val (.long w3), .second, .val (.ref b5), .val (.long w21), .second, .val (.long w36), .second, .val (.long w49), .second, .val (.ref b60), .val (.int (0 : Int32)), .val (.int (1 : Int32)), .val (.int (1 : Int32)), .unset] [(.int (1 : Int32)), (.ref b60)])) _
          refine XS.lload X135.here hx rfl (hb hby at_157) rfl ?_
          show Steps p.tables e below (T135.setTop (mkF m 159 #[.val (.long y0), .second, .val (.long y1), .second, .val (.long y2), .second, .val (.int y3), .val (.long w1), .second, .val (.long w2), .second, .val (.long w3), .second, .val (.ref b5), .val (.long w21), .second, .val (.long w36), .second, .val (.long w49), .second, .val (.ref b60), .val (.int (0 : Int32)), .val (.int (1 : Int32)), .val (.int (1 : Int32)), .unset] [(.long w21), (.int (1 : Int32)), (.ref b60)])) _
          refine XS.lload X135.here hx rfl (hb hby at_159) rfl ?_
          show Steps p.tables e below (T135.setTop (mkF m 161 #[.val (.long y0), .second, .val (.long y1), .second, .val (.long y2), .second, .val (.int y3), .val (.long w1), .second, .val (.long w2), .second, .val (.long w3), .second, .val (.ref b5), .val (.long w21), .second, .val (.long w36), .second, .val (.long w49), .second, .val (.ref b60), .val (.int (0 : Int32)), .val (.int (1 : Int32)), .val (.int (1 : Int32)), .unset] [(.long w36), (.long w21), (.int (1 : Int32)), (.ref b60)])) _
          refine XS.lload X135.here hx rfl (hb hby at_161) rfl ?_
          exact k)
      obtain ⟨_, _, ⟨T174, L174, k174, n174⟩, -, X174, ⟨Lc174, hQ174, l174, y174, z174⟩, st174⟩ := Jvm.LawKit.callS X135 hx (y := (⟨"com/example/zhangtiao/zhangtiao/input/VarLongsMoveToPinLaw", "pick", "(IJJJ)J"⟩ : MethodName)) hown (mvT hZ (hw _ (List.mem_of_getElem? (i := 111) rfl))) (mvT hZ (hw _ (List.mem_of_getElem? (i := 112) rfl))) (mvT hZ (hw _ (List.mem_of_getElem? (i := 113) rfl))) (mvT hZ (hw _ (List.mem_of_getElem? (i := 114) rfl))) (by decide) (backOf (W := 1) (rm_pk l Z av0 hw [] (1 : Int32) w21 w36 w49 T120.heap n0) hZ (hw _ (List.mem_of_getElem? (i := 114) rfl)) (hw _ (List.mem_of_getElem? (i := 113) rfl)) (by decide) (by decide)) (g := (mkF m 163 #[.val (.long y0), .second, .val (.long y1), .second, .val (.long y2), .second, .val (.int y3), .val (.long w1), .second, .val (.long w2), .second, .val (.long w3), .second, .val (.ref b5), .val (.long w21), .second, .val (.long w36), .second, .val (.long w49), .second, .val (.ref b60), .val (.int (0 : Int32)), .val (.int (1 : Int32)), .val (.int (1 : Int32)), .unset] [(.long w49), (.long w36), (.long w21), (.int (1 : Int32)), (.ref b60)])) rfl (by rw [hml]; rfl) (argsL := [(.int (1 : Int32)), (.long w21), (.long w36), (.long w49)]) (rest := [(.ref b60)]) (lenOf pd_13 rfl) rfl (by show 2 * 0 + _ ≤ _; exact Nat.le_of_eq rfl) (hb hby at_163) (fun _ _ => ⟨rfl, e135, (by decide : 5 + 0 ≤ _), (by decide : 65555 + 0 ≤ _)⟩)
      dsimp only [Pt.U, Pt.locs, Pt.cells, Pt.slots] at X174 l174 y174 z174 st174 hQ174
      subst l174 y174 z174
      obtain ⟨hv174, N174q, e174⟩ := hQ174
      rw [show own_pk (1 : Int32) w21 w36 w49 = w36 from rfl] at hv174
      subst hv174
      have N174 := Fr.app N135 N174q
      have pre174 : Go p.tables e below (s₁.setTop (entryFrame m #[(.long y0), (.long y1), (.long y2), (.int y3)] maxLocals)) T174 (mkF m 166 #[.val (.long y0), .second, .val (.long y1), .second, .val (.long y2), .second, .val (.int y3), .val (.long w1), .second, .val (.long w2), .second, .val (.long w3), .second, .val (.ref b5), .val (.long w21), .second, .val (.long w36), .second, .val (.long w49), .second, .val (.ref b60), .val (.int (0 : Int32)), .val (.int (1 : Int32)), .val (.int (1 : Int32)), .unset] [(.long w36), (.ref b60)]) := fun t k => pre173 t (st174 _ k)
      obtain ⟨cq175, kq175, q175a, q175b, q175c⟩ := isOf hZ e174 fo120_3
      obtain ⟨_, _, ⟨T175, L175, k175, n175⟩, -, X175, ⟨Lc175, hQ175, l175, y175, z175⟩, st175⟩ := X174.virtualBack hx (y := (⟨"com/example/zhangtiao/zhangtiao/input/VarLongs$Cursor", "moveTo", "(J)V"⟩ : MethodName)) (z := (⟨"com/example/zhangtiao/zhangtiao/input/VarLongs$Cursor", "moveTo", "(J)V"⟩ : MethodName)) hown (mvT hZ (hw _ (List.mem_of_getElem? (i := 115) rfl))) (mvT hZ (hw _ (List.mem_of_getElem? (i := 116) rfl))) (notFace_of_selects (args := #[]) (mvT hZ (hw _ (List.mem_of_getElem? (i := 118) rfl)))) (mvT hZ (hw _ (List.mem_of_getElem? (i := 118) rfl))) (mvT hZ (hw _ (List.mem_of_getElem? (i := 117) rfl))) (by decide) (backOf (W := 0) (rm_mvt l Z av0 hw [] b60 w36 (.ref b5) (0 : Int32) ta120 ([] ++ own_enc 8 w1) T120.heap n0 f121 fo120_0 fo120_1 fo120_2 fo120_3 gb5_3 (hw36.trans (own_pos1' _)) (Nat.lt_of_le_of_lt hL1 (by decide))) hZ (hw _ (List.mem_of_getElem? (i := 119) rfl)) (hw _ (List.mem_of_getElem? (i := 99) rfl)) (by decide) (by decide)) q175a q175c (g := (mkF m 166 #[.val (.long y0), .second, .val (.long y1), .second, .val (.long y2), .second, .val (.int y3), .val (.long w1), .second, .val (.long w2), .second, .val (.long w3), .second, .val (.ref b5), .val (.long w21), .second, .val (.long w36), .second, .val (.long w49), .second, .val (.ref b60), .val (.int (0 : Int32)), .val (.int (1 : Int32)), .val (.int (1 : Int32)), .unset] [(.long w36), (.ref b60)])) rfl (by rw [hml]; rfl) (Steps.refl _) (argsL := [(.long w36)]) (rest := []) (lenOf pd_10 rfl) rfl (by show 2 * 0 + _ ≤ _; exact Nat.le_of_eq rfl) (hb hby at_166) (fun _ _ => ⟨rfl, e174, (by decide : 5 + 0 ≤ _), (by decide : 65555 + 0 ≤ _)⟩)
      dsimp only [Pt.U, Pt.locs, Pt.cells, Pt.slots] at X175 l175 y175 z175 st175 hQ175
      subst l175 y175 z175
      obtain ⟨hv175, N175q, K175, fo175_0, fo175_1, fo175_2, fo175_3⟩ := hQ175
      have f176 : n0 ≤ T175.heap.size := Nat.le_trans f121 K175.1
      have f177 : Old Z n0 T175.heap := f122.keep K175 (allS gb5_3 all0)
      have f178 : Exa Z T175.heap b23 "[B" := f123.keep K175
      have f179 : Exa Z T175.heap al13 "java/util/ArrayList" := f124.keep K175
      have f180 : Fld Z T175.heap al13 "java/util/ArrayList" "elementData" "[Ljava/lang/Object;" (.ref ea23) := f125.keep K175 (ninS nb5_2 nin0)
      have f181 : Fld Z T175.heap al13 "java/util/ArrayList" "size" "I" (.int ((0 : Int32) + (1 : Int32))) := f126.keep K175 (ninS nb5_2 nin0)
      have f182 : Arv Z T175.heap ea23 ke23 (.object "java/lang/Object") (10 : Int32) [(.ref b23), .null, .null, .null, .null, .null, .null, .null, .null, .null] .null := f127.keep K175 (ninS nb5_9.symm nin0)
      have f183 : Exa Z T175.heap b5 "com/example/zhangtiao/zhangtiao/input/VarLongs" := f128.keep K175
      have f184 : Fld Z T175.heap b5 "com/example/zhangtiao/zhangtiao/input/VarLongs" "last" "[B" (.ref b23) := f129.keep K175 (ninS nb5_7 nin0)
      have f185 : Fld Z T175.heap b5 "com/example/zhangtiao/zhangtiao/input/VarLongs" "position" "I" (.int (own_n ((([] ++ own_enc 8 w1) ++ own_enc 8 w2) ++ own_enc 8 w3))) := f130.keep K175 (ninS nb5_7 nin0)
      have f186 : Fld Z T175.heap b5 "com/example/zhangtiao/zhangtiao/input/VarLongs" "chunks" "Ljava/util/List;" (.ref al13) := f131.keep K175 (ninS nb5_7 nin0)
      have f187 : Arv Z T175.heap b23 kc23 .byte (65536 : Int32) ([] ++ (own_enc 8 w1 ++ (own_enc 8 w2 ++ own_enc 8 w3))) (.int (0 : Int32)) := f133.keep K175 (ninS nb5_5 nin0)
      have f188 : Exa Z T175.heap b60 "com/example/zhangtiao/zhangtiao/input/VarLongs$Cursor" := fo120_3.keep K175
      subst hv175
      have N175 := Fr.app N174 N175q
      have pre175 : Go p.tables e below (s₁.setTop (entryFrame m #[(.long y0), (.long y1), (.long y2), (.int y3)] maxLocals)) T175 (mkF m 169 #[.val (.long y0), .second, .val (.long y1), .second, .val (.long y2), .second, .val (.int y3), .val (.long w1), .second, .val (.long w2), .second, .val (.long w3), .second, .val (.ref b5), .val (.long w21), .second, .val (.long w36), .second, .val (.long w49), .second, .val (.ref b60), .val (.int (0 : Int32)), .val (.int (1 : Int32)), .val (.int (1 : Int32)), .unset] []) := fun t k => pre174 t (st175.trans k)
      have pre189 : Go p.tables e below (s₁.setTop (entryFrame m #[(.long y0), (.long y1), (.long y2), (.int y3)] maxLocals)) T175 (mkF m 171 #[.val (.long y0), .second, .val (.long y1), .second, .val (.long y2), .second, .val (.int y3), .val (.long w1), .second, .val (.long w2), .second, .val (.long w3), .second, .val (.ref b5), .val (.long w21), .second, .val (.long w36), .second, .val (.long w49), .second, .val (.ref b60), .val (.int (0 : Int32)), .val (.int (1 : Int32)), .val (.int (1 : Int32)), .unset] [(.ref b60)]) := fun t k => pre175 t (by
          refine XS.aload X175.here hx rfl (hb hby at_169) rfl rfl ?_
          exact k)
      have fn191 := f187
      rw [← own_l0 (own_enc 8 w1) (own_enc 8 w2) (own_enc 8 w3)] at fn191
      have fn190 := fn191
      rw [own_l1 (own_enc 8 w1) (own_enc 8 w2) (own_enc 8 w3)] at fn190
      obtain ⟨cq192, kq192, q192a, q192b, q192c⟩ := isOf hZ rfl fo175_3
      obtain ⟨_, _, ⟨T192, L192, k192, n192⟩, -, X192, ⟨Lc192, hQ192, l192, y192, z192⟩, st192⟩ := X175.virtualBack hx (y := (⟨"com/example/zhangtiao/zhangtiao/input/VarLongs$Cursor", "next", "()J"⟩ : MethodName)) (z := (⟨"com/example/zhangtiao/zhangtiao/input/VarLongs$Cursor", "next", "()J"⟩ : MethodName)) hown (mvT hZ (hw _ (List.mem_of_getElem? (i := 125) rfl))) (mvT hZ (hw _ (List.mem_of_getElem? (i := 126) rfl))) (notFace_of_selects (args := #[]) (mvT hZ (hw _ (List.mem_of_getElem? (i := 128) rfl)))) (mvT hZ (hw _ (List.mem_of_getElem? (i := 128) rfl))) (mvT hZ (hw _ (List.mem_of_getElem? (i := 127) rfl))) (by decide) (backOf (W := 0) (rm_nxt l Z av0 hw [] b60 (.ref b5) b5 al13 ea23 ke23 b23 kc23 ([] ++ own_enc 8 w1) w2 (own_enc 8 w3) T175.heap n0 f176 fo175_0 fo175_1 fo175_2 fo175_3 f186 f179 f181 f180 f182 f178 fn190 gb5_3 nb5_5.symm nb5_7.symm nb5_2.symm nb5_9 rfl hq_w2 (Nat.lt_of_le_of_lt (Nat.add_le_add_right hL1 8) (by decide))) hZ (hw _ (List.mem_of_getElem? (i := 129) rfl)) (hw _ (List.mem_of_getElem? (i := 99) rfl)) (by decide) (by decide)) q192a q192c (g := (mkF m 171 #[.val (.long y0), .second, .val (.long y1), .second, .val (.long y2), .second, .val (.int y3), .val (.long w1), .second, .val (.long w2), .second, .val (.long w3), .second, .val (.ref b5), .val (.long w21), .second, .val (.long w36), .second, .val (.long w49), .second, .val (.ref b60), .val (.int (0 : Int32)), .val (.int (1 : Int32)), .val (.int (1 : Int32)), .unset] [(.ref b60)])) rfl (by rw [hml]; rfl) (Steps.refl _) (argsL := []) (rest := []) (lenOf pd_9 rfl) rfl (by show 2 * 0 + _ ≤ _; exact Nat.le_of_eq rfl) (hb hby at_171) (fun _ _ => ⟨rfl, rfl, (by decide : 5 + 0 ≤ _), (by decide : 65555 + 0 ≤ _)⟩)
      dsimp only [Pt.U, Pt.locs, Pt.cells, Pt.slots] at X192 l192 y192 z192 st192 hQ192
      subst l192 y192 z192
      obtain ⟨ta192, hv192, N192q, K192, fo192_0, fo192_1, fo192_2, fo192_3⟩ := hQ192
      have f193 : n0 ≤ T192.heap.size := Nat.le_trans f176 K192.1
      have f194 : Old Z n0 T192.heap := f177.keep K192 (allS gb5_3 all0)
      have f195 : Exa Z T192.heap b23 "[B" := f178.keep K192
      have f196 : Exa Z T192.heap al13 "java/util/ArrayList" := f179.keep K192
      have f197 : Fld Z T192.heap al13 "java/util/ArrayList" "elementData" "[Ljava/lang/Object;" (.ref ea23) := f180.keep K192 (ninS nb5_2 nin0)
      have f198 : Fld Z T192.heap al13 "java/util/ArrayList" "size" "I" (.int ((0 : Int32) + (1 : Int32))) := f181.keep K192 (ninS nb5_2 nin0)
      have f199 : Arv Z T192.heap ea23 ke23 (.object "java/lang/Object") (10 : Int32) [(.ref b23), .null, .null, .null, .null, .null, .null, .null, .null, .null] .null := f182.keep K192 (ninS nb5_9.symm nin0)
      have f200 : Exa Z T192.heap b5 "com/example/zhangtiao/zhangtiao/input/VarLongs" := f183.keep K192
      have f201 : Fld Z T192.heap b5 "com/example/zhangtiao/zhangtiao/input/VarLongs" "last" "[B" (.ref b23) := f184.keep K192 (ninS nb5_7 nin0)
      have f202 : Fld Z T192.heap b5 "com/example/zhangtiao/zhangtiao/input/VarLongs" "position" "I" (.int (own_n ((([] ++ own_enc 8 w1) ++ own_enc 8 w2) ++ own_enc 8 w3))) := f185.keep K192 (ninS nb5_7 nin0)
      have f203 : Fld Z T192.heap b5 "com/example/zhangtiao/zhangtiao/input/VarLongs" "chunks" "Ljava/util/List;" (.ref al13) := f186.keep K192 (ninS nb5_7 nin0)
      have f204 : Exa Z T192.heap b60 "com/example/zhangtiao/zhangtiao/input/VarLongs$Cursor" := fo175_3.keep K192
      have f205 : Arv Z T192.heap b23 kc23 .byte (65536 : Int32) (([] ++ own_enc 8 w1) ++ (own_enc 8 w2 ++ (own_enc 8 w3))) (.int (0 : Int32)) := fn190.keep K192 (ninS nb5_5 nin0)
      subst hv192
      have N192 := Fr.app N175 N192q
      have pre192 : Go p.tables e below (s₁.setTop (entryFrame m #[(.long y0), (.long y1), (.long y2), (.int y3)] maxLocals)) T192 (mkF m 174 #[.val (.long y0), .second, .val (.long y1), .second, .val (.long y2), .second, .val (.int y3), .val (.long w1), .second, .val (.long w2), .second, .val (.long w3), .second, .val (.ref b5), .val (.long w21), .second, .val (.long w36), .second, .val (.long w49), .second, .val (.ref b60), .val (.int (0 : Int32)), .val (.int (1 : Int32)), .val (.int (1 : Int32)), .unset] [(.long w2)]) := fun t k => pre189 t (st192.trans k)
      have pre206 : Go p.tables e below (s₁.setTop (entryFrame m #[(.long y0), (.long y1), (.long y2), (.int y3)] maxLocals)) T192 (mkF m 182 #[.val (.long y0), .second, .val (.long y1), .second, .val (.long y2), .second, .val (.int y3), .val (.long w1), .second, .val (.long w2), .second, .val (.long w3), .second, .val (.ref b5), .val (.long w21), .second, .val (.long w36), .second, .val (.long w49), .second, .val (.ref b60), .val (.int (0 : Int32)), .val (.int (1 : Int32)), .val (.int (1 : Int32)), .unset] [(.long w3), (.long w2), (.long w1), (.int (1 : Int32)), (.long w2)]) := fun t k => pre192 t (by
          refine XS.iload X192.here hx rfl (hb hby at_174) rfl ?_
          show Steps p.tables e below (T192.setTop (mkF m 176 #[.val (.long y0), .second, .val (.long y1), .second, .val (.long y2), .second, .val (.int y3), .val (.long w1), .second, .val (.long w2), .second, .val (.long w3), .second, .val (.ref b5), .val (.long w21), .second, .val (.long w36), .second, .val (.long w49), .second, .val (.ref b60), .val (.int (0 : Int32)), .val (.int (1 : Int32)), .val (.int (1 : Int32)), .unset] [(.int (1 : Int32)), (.long w2)])) _
          refine XS.lload X192.here hx rfl (hb hby at_176) rfl ?_
          show Steps p.tables e below (T192.setTop (mkF m 178 #[.val (.long y0), .second, .val (.long y1), .second, .val (.long y2), .second, .val (.int y3), .val (.long w1), .second, .val (.long w2), .second, .val (.long w3), .second, .val (.ref b5), .val (.long w21), .second, .val (.long w36), .second, .val (.long w49), .second, .val (.ref b60), .val (.int (0 : Int32)), .val (.int (1 : Int32)), .val (.int (1 : Int32)), .unset] [(.long w1), (.int (1 : Int32)), (.long w2)])) _
          refine XS.lload X192.here hx rfl (hb hby at_178) rfl ?_
          show Steps p.tables e below (T192.setTop (mkF m 180 #[.val (.long y0), .second, .val (.long y1), .second, .val (.long y2), .second, .val (.int y3), .val (.long w1), .second, .val (.long w2), .second, .val (.long w3), .second, .val (.ref b5), .val (.long w21), .second, .val (.long w36), .second, .val (.long w49), .second, .val (.ref b60), .val (.int (0 : Int32)), .val (.int (1 : Int32)), .val (.int (1 : Int32)), .unset] [(.long w2), (.long w1), (.int (1 : Int32)), (.long w2)])) _
          refine XS.lload X192.here hx rfl (hb hby at_180) rfl ?_
          exact k)
      obtain ⟨_, _, ⟨T207, L207, k207, n207⟩, -, X207, ⟨Lc207, hQ207, l207, y207, z207⟩, st207⟩ := Jvm.LawKit.callS X192 hx (y := (⟨"com/example/zhangtiao/zhangtiao/input/VarLongsMoveToPinLaw", "pick", "(IJJJ)J"⟩ : MethodName)) hown (mvT hZ (hw _ (List.mem_of_getElem? (i := 111) rfl))) (mvT hZ (hw _ (List.mem_of_getElem? (i := 112) rfl))) (mvT hZ (hw _ (List.mem_of_getElem? (i := 113) rfl))) (mvT hZ (hw _ (List.mem_of_getElem? (i := 114) rfl))) (by decide) (backOf (W := 2) (rm_pk l Z av0 hw [] (1 : Int32) w1 w2 w3 T192.heap n0) hZ (hw _ (List.mem_of_getElem? (i := 114) rfl)) (hw _ (List.mem_of_getElem? (i := 113) rfl)) (by decide) (by decide)) (g := (mkF m 182 #[.val (.long y0), .second, .val (.long y1), .second, .val (.long y2), .second, .val (.int y3), .val (.long w1), .second, .val (.long w2), .second, .val (.long w3), .second, .val (.ref b5), .val (.long w21), .second, .val (.long w36), .second, .val (.long w49), .second, .val (.ref b60), .val (.int (0 : Int32)), .val (.int (1 : Int32)), .val (.int (1 : Int32)), .unset] [(.long w3), (.long w2), (.long w1), (.int (1 : Int32)), (.long w2)])) rfl (by rw [hml]; rfl) (argsL := [(.int (1 : Int32)), (.long w1), (.long w2), (.long w3)]) (rest := [(.long w2)]) (lenOf pd_13 rfl) rfl (by show 2 * 0 + _ ≤ _; exact Nat.le_of_eq rfl) (hb hby at_182) (fun _ _ => ⟨rfl, rfl, (by decide : 5 + 0 ≤ _), (by decide : 65555 + 0 ≤ _)⟩)
      dsimp only [Pt.U, Pt.locs, Pt.cells, Pt.slots] at X207 l207 y207 z207 st207 hQ207
      subst l207 y207 z207
      obtain ⟨hv207, N207q, e207⟩ := hQ207
      rw [show own_pk (1 : Int32) w1 w2 w3 = w2 from rfl] at hv207
      subst hv207
      have N207 := Fr.app N192 N207q
      have pre207 : Go p.tables e below (s₁.setTop (entryFrame m #[(.long y0), (.long y1), (.long y2), (.int y3)] maxLocals)) T207 (mkF m 185 #[.val (.long y0), .second, .val (.long y1), .second, .val (.long y2), .second, .val (.int y3), .val (.long w1), .second, .val (.long w2), .second, .val (.long w3), .second, .val (.ref b5), .val (.long w21), .second, .val (.long w36), .second, .val (.long w49), .second, .val (.ref b60), .val (.int (0 : Int32)), .val (.int (1 : Int32)), .val (.int (1 : Int32)), .unset] [(.long w2), (.long w2)]) := fun t k => pre206 t (st207 _ k)
      have pre208 : Go p.tables e below (s₁.setTop (entryFrame m #[(.long y0), (.long y1), (.long y2), (.int y3)] maxLocals)) T207 (mkF m 211 #[.val (.long y0), .second, .val (.long y1), .second, .val (.long y2), .second, .val (.int y3), .val (.long w1), .second, .val (.long w2), .second, .val (.long w3), .second, .val (.ref b5), .val (.long w21), .second, .val (.long w36), .second, .val (.long w49), .second, .val (.ref b60), .val (.int (0 : Int32)), .val (.int (1 : Int32)), .val (.int (1 : Int32)), .val (.int (1 : Int32))] [(.int (1 : Int32))]) := fun t k => pre207 t (by
          refine XS.lcmp X207.here hx rfl (hb hby at_185) rfl ?_
          show Steps p.tables e below (T207.setTop (mkF m 186 #[.val (.long y0), .second, .val (.long y1), .second, .val (.long y2), .second, .val (.int y3), .val (.long w1), .second, .val (.long w2), .second, .val (.long w3), .second, .val (.ref b5), .val (.long w21), .second, .val (.long w36), .second, .val (.long w49), .second, .val (.ref b60), .val (.int (0 : Int32)), .val (.int (1 : Int32)), .val (.int (1 : Int32)), .unset] [(.int (lcmpW w2 w2))])) _
          refine XS.ifNo X207.here hx rfl (hb hby at_186) rfl ((if0 _ _).trans (teq ((lw_eq _ _).mpr rfl)).2) ?_
          show Steps p.tables e below (T207.setTop (mkF m 189 #[.val (.long y0), .second, .val (.long y1), .second, .val (.long y2), .second, .val (.int y3), .val (.long w1), .second, .val (.long w2), .second, .val (.long w3), .second, .val (.ref b5), .val (.long w21), .second, .val (.long w36), .second, .val (.long w49), .second, .val (.ref b60), .val (.int (0 : Int32)), .val (.int (1 : Int32)), .val (.int (1 : Int32)), .unset] [])) _
          refine XS.iconst X207.here hx rfl (hb hby at_189) ?_
          show Steps p.tables e below (T207.setTop (mkF m 190 #[.val (.long y0), .second, .val (.long y1), .second, .val (.long y2), .second, .val (.int y3), .val (.long w1), .second, .val (.long w2), .second, .val (.long w3), .second, .val (.ref b5), .val (.long w21), .second, .val (.long w36), .second, .val (.long w49), .second, .val (.ref b60), .val (.int (0 : Int32)), .val (.int (1 : Int32)), .val (.int (1 : Int32)), .unset] [(.int (1 : Int32))])) _
          refine XS.goto X207.here hx rfl (pc0 := 190) (pc' := 194) rfl (hb hby at_190) (by decide) (by decide) ?_
          show Steps p.tables e below (T207.setTop (mkF m 194 #[.val (.long y0), .second, .val (.long y1), .second, .val (.long y2), .second, .val (.int y3), .val (.long w1), .second, .val (.long w2), .second, .val (.long w3), .second, .val (.ref b5), .val (.long w21), .second, .val (.long w36), .second, .val (.long w49), .second, .val (.ref b60), .val (.int (0 : Int32)), .val (.int (1 : Int32)), .val (.int (1 : Int32)), .unset] [(.int (1 : Int32))])) _
          refine XS.istore X207.here hx rfl (hb hby at_194) rfl (l' := #[.val (.long y0), .second, .val (.long y1), .second, .val (.long y2), .second, .val (.int y3), .val (.long w1), .second, .val (.long w2), .second, .val (.long w3), .second, .val (.ref b5), .val (.long w21), .second, .val (.long w36), .second, .val (.long w49), .second, .val (.ref b60), .val (.int (0 : Int32)), .val (.int (1 : Int32)), .val (.int (1 : Int32)), .val (.int (1 : Int32))]) rfl ?_
          show Steps p.tables e below (T207.setTop (mkF m 196 #[.val (.long y0), .second, .val (.long y1), .second, .val (.long y2), .second, .val (.int y3), .val (.long w1), .second, .val (.long w2), .second, .val (.long w3), .second, .val (.ref b5), .val (.long w21), .second, .val (.long w36), .second, .val (.long w49), .second, .val (.ref b60), .val (.int (0 : Int32)), .val (.int (1 : Int32)), .val (.int (1 : Int32)), .val (.int (1 : Int32))] [])) _
          refine XS.iload X207.here hx rfl (hb hby at_196) rfl ?_
          show Steps p.tables e below (T207.setTop (mkF m 198 #[.val (.long y0), .second, .val (.long y1), .second, .val (.long y2), .second, .val (.int y3), .val (.long w1), .second, .val (.long w2), .second, .val (.long w3), .second, .val (.ref b5), .val (.long w21), .second, .val (.long w36), .second, .val (.long w49), .second, .val (.ref b60), .val (.int (0 : Int32)), .val (.int (1 : Int32)), .val (.int (1 : Int32)), .val (.int (1 : Int32))] [(.int (1 : Int32))])) _
          refine XS.ifNo X207.here hx rfl (hb hby at_198) rfl ((if0 _ _).trans (feq (by decide)).1) ?_
          show Steps p.tables e below (T207.setTop (mkF m 201 #[.val (.long y0), .second, .val (.long y1), .second, .val (.long y2), .second, .val (.int y3), .val (.long w1), .second, .val (.long w2), .second, .val (.long w3), .second, .val (.ref b5), .val (.long w21), .second, .val (.long w36), .second, .val (.long w49), .second, .val (.ref b60), .val (.int (0 : Int32)), .val (.int (1 : Int32)), .val (.int (1 : Int32)), .val (.int (1 : Int32))] [])) _
          refine XS.iload X207.here hx rfl (hb hby at_201) rfl ?_
          show Steps p.tables e below (T207.setTop (mkF m 203 #[.val (.long y0), .second, .val (.long y1), .second, .val (.long y2), .second, .val (.int y3), .val (.long w1), .second, .val (.long w2), .second, .val (.long w3), .second, .val (.ref b5), .val (.long w21), .second, .val (.long w36), .second, .val (.long w49), .second, .val (.ref b60), .val (.int (0 : Int32)), .val (.int (1 : Int32)), .val (.int (1 : Int32)), .val (.int (1 : Int32))] [(.int (1 : Int32))])) _
          refine XS.ifNo X207.here hx rfl (hb hby at_203) rfl ((if0 _ _).trans (feq (by decide)).1) ?_
          show Steps p.tables e below (T207.setTop (mkF m 206 #[.val (.long y0), .second, .val (.long y1), .second, .val (.long y2), .second, .val (.int y3), .val (.long w1), .second, .val (.long w2), .second, .val (.long w3), .second, .val (.ref b5), .val (.long w21), .second, .val (.long w36), .second, .val (.long w49), .second, .val (.ref b60), .val (.int (0 : Int32)), .val (.int (1 : Int32)), .val (.int (1 : Int32)), .val (.int (1 : Int32))] [])) _
          refine XS.iconst X207.here hx rfl (hb hby at_206) ?_
          show Steps p.tables e below (T207.setTop (mkF m 207 #[.val (.long y0), .second, .val (.long y1), .second, .val (.long y2), .second, .val (.int y3), .val (.long w1), .second, .val (.long w2), .second, .val (.long w3), .second, .val (.ref b5), .val (.long w21), .second, .val (.long w36), .second, .val (.long w49), .second, .val (.ref b60), .val (.int (0 : Int32)), .val (.int (1 : Int32)), .val (.int (1 : Int32)), .val (.int (1 : Int32))] [(.int (1 : Int32))])) _
          refine XS.goto X207.here hx rfl (pc0 := 207) (pc' := 211) rfl (hb hby at_207) (by decide) (by decide) ?_
          exact k)
      obtain ⟨fs, hr, hrun, hended, hW, hsame⟩ := X207.leave (v := some (.int (1 : Int32))) (fun h => by rw [Bd.returns] at h; cases h) (BodyLoose.notSynchronized Bd)
      refine ⟨_, _, pre208 _ ?_, hrun, hended, _, _, rfl, ?_, ⟨_, rfl⟩, hW, hsame.mono (Nat.le_of_ble_eq_true rfl) (Nat.le_of_ble_eq_true rfl)⟩
      · exact retN X207 hx (t := .boolean) Bd.returns (by simp) (hb hby at_211) hr
      · show Q_law Z y0 y1 y2 y3 ad kd h0 n0 _ T207.heap _
        rw [e207]
        exact ⟨rfl, N207⟩
    · -- w99 = (2 : Int32)
      have pre209 : Go p.tables e below (s₁.setTop (entryFrame m #[(.long y0), (.long y1), (.long y2), (.int y3)] maxLocals)) T135 (mkF m 163 #[.val (.long y0), .second, .val (.long y1), .second, .val (.long y2), .second, .val (.int y3), .val (.long w1), .second, .val (.long w2), .second, .val (.long w3), .second, .val (.ref b5), .val (.long w21), .second, .val (.long w36), .second, .val (.long w49), .second, .val (.ref b60), .val (.int (0 : Int32)), .val (.int (2 : Int32)), .val (.int (1 : Int32)), .unset] [(.long w49), (.long w36), (.long w21), (.int (2 : Int32)), (.ref b60)]) := fun t k => pre136 t (by
          refine XS.aload X135.here hx rfl (hb hby at_153) rfl rfl ?_
          show Steps p.tables e below (T135.setTop (mkF m 155 #[.val (.long y0), .second, .val (.long y1), .second, .val (.long y2), .second, .val (.int y3), .val (.long w1), .second, .val (.long w2), .second, .val (.long w3), .second, .val (.ref b5), .val (.long w21), .second, .val (.long w36), .second, .val (.long w49), .second, .val (.ref b60), .val (.int (0 : Int32)), .val (.int (2 : Int32)), .val (.int (1 : Int32)), .unset] [(.ref b60)])) _
          refine XS.iload X135.here hx rfl (hb hby at_155) rfl ?_
          show Steps p.tables e below (T135.setTop (mkF m 157 #[.val (.long y0), .second, .val (.long y1), .second, .val (.long y2), .second, .val (.int y3), .val (.long w1), .second, .val (.long w2), .second, .val (.long w3), .second, .val (.ref b5), .val (.long w21), .second, .val (.long w36), .second, .val (.long w49), .second, .val (.ref b60), .val (.int (0 : Int32)), .val (.int (2 : Int32)), .val (.int (1 : Int32)), .unset] [(.int (2 : Int32)), (.ref b60)])) _
          refine XS.lload X135.here hx rfl (hb hby at_157) rfl ?_
          show Steps p.tables e below (T135.setTop (mkF m 159 #[.val (.long y0), .second, .val (.long y1), .second, .val (.long y2), .second, .val (.int y3), .val (.long w1), .second, .val (.long w2), .second, .val (.long w3), .second, .val (.ref b5), .val (.long w21), .second, .val (.long w36), .second, .val (.long w49), .second, .val (.ref b60), .val (.int (0 : Int32)), .val (.int (2 : Int32)), .val (.int (1 : Int32)), .unset] [(.long w21), (.int (2 : Int32)), (.ref b60)])) _
          refine XS.lload X135.here hx rfl (hb hby at_159) rfl ?_
          show Steps p.tables e below (T135.setTop (mkF m 161 #[.val (.long y0), .second, .val (.long y1), .second, .val (.long y2), .second, .val (.int y3), .val (.long w1), .second, .val (.long w2), .second, .val (.long w3), .second, .val (.ref b5), .val (.long w21), .second, .val (.long w36), .second, .val (.long w49), .second, .val (.ref b60), .val (.int (0 : Int32)), .val (.int (2 : Int32)), .val (.int (1 : Int32)), .unset] [(.long w36), (.long w21), (.int (2 : Int32)), (.ref b60)])) _
          refine XS.lload X135.here hx rfl (hb hby at_161) rfl ?_
          exact k)
      obtain ⟨_, _, ⟨T210, L210, k210, n210⟩, -, X210, ⟨Lc210, hQ210, l210, y210, z210⟩, st210⟩ := Jvm.LawKit.callS X135 hx (y := (⟨"com/example/zhangtiao/zhangtiao/input/VarLongsMoveToPinLaw", "pick", "(IJJJ)J"⟩ : MethodName)) hown (mvT hZ (hw _ (List.mem_of_getElem? (i := 111) rfl))) (mvT hZ (hw _ (List.mem_of_getElem? (i := 112) rfl))) (mvT hZ (hw _ (List.mem_of_getElem? (i := 113) rfl))) (mvT hZ (hw _ (List.mem_of_getElem? (i := 114) rfl))) (by decide) (backOf (W := 1) (rm_pk l Z av0 hw [] (2 : Int32) w21 w36 w49 T120.heap n0) hZ (hw _ (List.mem_of_getElem? (i := 114) rfl)) (hw _ (List.mem_of_getElem? (i := 113) rfl)) (by decide) (by decide)) (g := (mkF m 163 #[.val (.long y0), .second, .val (.long y1), .second, .val (.long y2), .second, .val (.int y3), .val (.long w1), .second, .val (.long w2), .second, .val (.long w3), .second, .val (.ref b5), .val (.long w21), .second, .val (.long w36), .second, .val (.long w49), .second, .val (.ref b60), .val (.int (0 : Int32)), .val (.int (2 : Int32)), .val (.int (1 : Int32)), .unset] [(.long w49), (.long w36), (.long w21), (.int (2 : Int32)), (.ref b60)])) rfl (by rw [hml]; rfl) (argsL := [(.int (2 : Int32)), (.long w21), (.long w36), (.long w49)]) (rest := [(.ref b60)]) (lenOf pd_13 rfl) rfl (by show 2 * 0 + _ ≤ _; exact Nat.le_of_eq rfl) (hb hby at_163) (fun _ _ => ⟨rfl, e135, (by decide : 5 + 0 ≤ _), (by decide : 65555 + 0 ≤ _)⟩)
      dsimp only [Pt.U, Pt.locs, Pt.cells, Pt.slots] at X210 l210 y210 z210 st210 hQ210
      subst l210 y210 z210
      obtain ⟨hv210, N210q, e210⟩ := hQ210
      rw [show own_pk (2 : Int32) w21 w36 w49 = w49 from rfl] at hv210
      subst hv210
      have N210 := Fr.app N135 N210q
      have pre210 : Go p.tables e below (s₁.setTop (entryFrame m #[(.long y0), (.long y1), (.long y2), (.int y3)] maxLocals)) T210 (mkF m 166 #[.val (.long y0), .second, .val (.long y1), .second, .val (.long y2), .second, .val (.int y3), .val (.long w1), .second, .val (.long w2), .second, .val (.long w3), .second, .val (.ref b5), .val (.long w21), .second, .val (.long w36), .second, .val (.long w49), .second, .val (.ref b60), .val (.int (0 : Int32)), .val (.int (2 : Int32)), .val (.int (1 : Int32)), .unset] [(.long w49), (.ref b60)]) := fun t k => pre209 t (st210 _ k)
      obtain ⟨cq211, kq211, q211a, q211b, q211c⟩ := isOf hZ e210 fo120_3
      obtain ⟨_, _, ⟨T211, L211, k211, n211⟩, -, X211, ⟨Lc211, hQ211, l211, y211, z211⟩, st211⟩ := X210.virtualBack hx (y := (⟨"com/example/zhangtiao/zhangtiao/input/VarLongs$Cursor", "moveTo", "(J)V"⟩ : MethodName)) (z := (⟨"com/example/zhangtiao/zhangtiao/input/VarLongs$Cursor", "moveTo", "(J)V"⟩ : MethodName)) hown (mvT hZ (hw _ (List.mem_of_getElem? (i := 115) rfl))) (mvT hZ (hw _ (List.mem_of_getElem? (i := 116) rfl))) (notFace_of_selects (args := #[]) (mvT hZ (hw _ (List.mem_of_getElem? (i := 118) rfl)))) (mvT hZ (hw _ (List.mem_of_getElem? (i := 118) rfl))) (mvT hZ (hw _ (List.mem_of_getElem? (i := 117) rfl))) (by decide) (backOf (W := 0) (rm_mvt l Z av0 hw [] b60 w49 (.ref b5) (0 : Int32) ta120 (([] ++ own_enc 8 w1) ++ own_enc 8 w2) T120.heap n0 f121 fo120_0 fo120_1 fo120_2 fo120_3 gb5_3 (hw49.trans (own_pos1' _)) (Nat.lt_of_le_of_lt hL2 (by decide))) hZ (hw _ (List.mem_of_getElem? (i := 119) rfl)) (hw _ (List.mem_of_getElem? (i := 99) rfl)) (by decide) (by decide)) q211a q211c (g := (mkF m 166 #[.val (.long y0), .second, .val (.long y1), .second, .val (.long y2), .second, .val (.int y3), .val (.long w1), .second, .val (.long w2), .second, .val (.long w3), .second, .val (.ref b5), .val (.long w21), .second, .val (.long w36), .second, .val (.long w49), .second, .val (.ref b60), .val (.int (0 : Int32)), .val (.int (2 : Int32)), .val (.int (1 : Int32)), .unset] [(.long w49), (.ref b60)])) rfl (by rw [hml]; rfl) (Steps.refl _) (argsL := [(.long w49)]) (rest := []) (lenOf pd_10 rfl) rfl (by show 2 * 0 + _ ≤ _; exact Nat.le_of_eq rfl) (hb hby at_166) (fun _ _ => ⟨rfl, e210, (by decide : 5 + 0 ≤ _), (by decide : 65555 + 0 ≤ _)⟩)
      dsimp only [Pt.U, Pt.locs, Pt.cells, Pt.slots] at X211 l211 y211 z211 st211 hQ211
      subst l211 y211 z211
      obtain ⟨hv211, N211q, K211, fo211_0, fo211_1, fo211_2, fo211_3⟩ := hQ211
      have f212 : n0 ≤ T211.heap.size := Nat.le_trans f121 K211.1
      have f213 : Old Z n0 T211.heap := f122.keep K211 (allS gb5_3 all0)
      have f214 : Exa Z T211.heap b23 "[B" := f123.keep K211
      have f215 : Exa Z T211.heap al13 "java/util/ArrayList" := f124.keep K211
      have f216 : Fld Z T211.heap al13 "java/util/ArrayList" "elementData" "[Ljava/lang/Object;" (.ref ea23) := f125.keep K211 (ninS nb5_2 nin0)
      have f217 : Fld Z T211.heap al13 "java/util/ArrayList" "size" "I" (.int ((0 : Int32) + (1 : Int32))) := f126.keep K211 (ninS nb5_2 nin0)
      have f218 : Arv Z T211.heap ea23 ke23 (.object "java/lang/Object") (10 : Int32) [(.ref b23), .null, .null, .null, .null, .null, .null, .null, .null, .null] .null := f127.keep K211 (ninS nb5_9.symm nin0)
      have f219 : Exa Z T211.heap b5 "com/example/zhangtiao/zhangtiao/input/VarLongs" := f128.keep K211
      have f220 : Fld Z T211.heap b5 "com/example/zhangtiao/zhangtiao/input/VarLongs" "last" "[B" (.ref b23) := f129.keep K211 (ninS nb5_7 nin0)
      have f221 : Fld Z T211.heap b5 "com/example/zhangtiao/zhangtiao/input/VarLongs" "position" "I" (.int (own_n ((([] ++ own_enc 8 w1) ++ own_enc 8 w2) ++ own_enc 8 w3))) := f130.keep K211 (ninS nb5_7 nin0)
      have f222 : Fld Z T211.heap b5 "com/example/zhangtiao/zhangtiao/input/VarLongs" "chunks" "Ljava/util/List;" (.ref al13) := f131.keep K211 (ninS nb5_7 nin0)
      have f223 : Arv Z T211.heap b23 kc23 .byte (65536 : Int32) ([] ++ (own_enc 8 w1 ++ (own_enc 8 w2 ++ own_enc 8 w3))) (.int (0 : Int32)) := f133.keep K211 (ninS nb5_5 nin0)
      have f224 : Exa Z T211.heap b60 "com/example/zhangtiao/zhangtiao/input/VarLongs$Cursor" := fo120_3.keep K211
      subst hv211
      have N211 := Fr.app N210 N211q
      have pre211 : Go p.tables e below (s₁.setTop (entryFrame m #[(.long y0), (.long y1), (.long y2), (.int y3)] maxLocals)) T211 (mkF m 169 #[.val (.long y0), .second, .val (.long y1), .second, .val (.long y2), .second, .val (.int y3), .val (.long w1), .second, .val (.long w2), .second, .val (.long w3), .second, .val (.ref b5), .val (.long w21), .second, .val (.long w36), .second, .val (.long w49), .second, .val (.ref b60), .val (.int (0 : Int32)), .val (.int (2 : Int32)), .val (.int (1 : Int32)), .unset] []) := fun t k => pre210 t (st211.trans k)
      have pre225 : Go p.tables e below (s₁.setTop (entryFrame m #[(.long y0), (.long y1), (.long y2), (.int y3)] maxLocals)) T211 (mkF m 171 #[.val (.long y0), .second, .val (.long y1), .second, .val (.long y2), .second, .val (.int y3), .val (.long w1), .second, .val (.long w2), .second, .val (.long w3), .second, .val (.ref b5), .val (.long w21), .second, .val (.long w36), .second, .val (.long w49), .second, .val (.ref b60), .val (.int (0 : Int32)), .val (.int (2 : Int32)), .val (.int (1 : Int32)), .unset] [(.ref b60)]) := fun t k => pre211 t (by
          refine XS.aload X211.here hx rfl (hb hby at_169) rfl rfl ?_
          exact k)
      have fn227 := f223
      rw [← own_l0 (own_enc 8 w1) (own_enc 8 w2) (own_enc 8 w3)] at fn227
      have fn226 := fn227
      rw [own_l2 (own_enc 8 w1) (own_enc 8 w2) (own_enc 8 w3)] at fn226
      obtain ⟨cq228, kq228, q228a, q228b, q228c⟩ := isOf hZ rfl fo211_3
      obtain ⟨_, _, ⟨T228, L228, k228, n228⟩, -, X228, ⟨Lc228, hQ228, l228, y228, z228⟩, st228⟩ := X211.virtualBack hx (y := (⟨"com/example/zhangtiao/zhangtiao/input/VarLongs$Cursor", "next", "()J"⟩ : MethodName)) (z := (⟨"com/example/zhangtiao/zhangtiao/input/VarLongs$Cursor", "next", "()J"⟩ : MethodName)) hown (mvT hZ (hw _ (List.mem_of_getElem? (i := 125) rfl))) (mvT hZ (hw _ (List.mem_of_getElem? (i := 126) rfl))) (notFace_of_selects (args := #[]) (mvT hZ (hw _ (List.mem_of_getElem? (i := 128) rfl)))) (mvT hZ (hw _ (List.mem_of_getElem? (i := 128) rfl))) (mvT hZ (hw _ (List.mem_of_getElem? (i := 127) rfl))) (by decide) (backOf (W := 0) (rm_nxt l Z av0 hw [] b60 (.ref b5) b5 al13 ea23 ke23 b23 kc23 (([] ++ own_enc 8 w1) ++ own_enc 8 w2) w3 [] T211.heap n0 f212 fo211_0 fo211_1 fo211_2 fo211_3 f222 f215 f217 f216 f218 f214 fn226 gb5_3 nb5_5.symm nb5_7.symm nb5_2.symm nb5_9 rfl hq_w3 (Nat.lt_of_le_of_lt (Nat.add_le_add_right hL2 8) (by decide))) hZ (hw _ (List.mem_of_getElem? (i := 129) rfl)) (hw _ (List.mem_of_getElem? (i := 99) rfl)) (by decide) (by decide)) q228a q228c (g := (mkF m 171 #[.val (.long y0), .second, .val (.long y1), .second, .val (.long y2), .second, .val (.int y3), .val (.long w1), .second, .val (.long w2), .second, .val (.long w3), .second, .val (.ref b5), .val (.long w21), .second, .val (.long w36), .second, .val (.long w49), .second, .val (.ref b60), .val (.int (0 : Int32)), .val (.int (2 : Int32)), .val (.int (1 : Int32)), .unset] [(.ref b60)])) rfl (by rw [hml]; rfl) (Steps.refl _) (argsL := []) (rest := []) (lenOf pd_9 rfl) rfl (by show 2 * 0 + _ ≤ _; exact Nat.le_of_eq rfl) (hb hby at_171) (fun _ _ => ⟨rfl, rfl, (by decide : 5 + 0 ≤ _), (by decide : 65555 + 0 ≤ _)⟩)
      dsimp only [Pt.U, Pt.locs, Pt.cells, Pt.slots] at X228 l228 y228 z228 st228 hQ228
      subst l228 y228 z228
      obtain ⟨ta228, hv228, N228q, K228, fo228_0, fo228_1, fo228_2, fo228_3⟩ := hQ228
      have f229 : n0 ≤ T228.heap.size := Nat.le_trans f212 K228.1
      have f230 : Old Z n0 T228.heap := f213.keep K228 (allS gb5_3 all0)
      have f231 : Exa Z T228.heap b23 "[B" := f214.keep K228
      have f232 : Exa Z T228.heap al13 "java/util/ArrayList" := f215.keep K228
      have f233 : Fld Z T228.heap al13 "java/util/ArrayList" "elementData" "[Ljava/lang/Object;" (.ref ea23) := f216.keep K228 (ninS nb5_2 nin0)
      have f234 : Fld Z T228.heap al13 "java/util/ArrayList" "size" "I" (.int ((0 : Int32) + (1 : Int32))) := f217.keep K228 (ninS nb5_2 nin0)
      have f235 : Arv Z T228.heap ea23 ke23 (.object "java/lang/Object") (10 : Int32) [(.ref b23), .null, .null, .null, .null, .null, .null, .null, .null, .null] .null := f218.keep K228 (ninS nb5_9.symm nin0)
      have f236 : Exa Z T228.heap b5 "com/example/zhangtiao/zhangtiao/input/VarLongs" := f219.keep K228
      have f237 : Fld Z T228.heap b5 "com/example/zhangtiao/zhangtiao/input/VarLongs" "last" "[B" (.ref b23) := f220.keep K228 (ninS nb5_7 nin0)
      have f238 : Fld Z T228.heap b5 "com/example/zhangtiao/zhangtiao/input/VarLongs" "position" "I" (.int (own_n ((([] ++ own_enc 8 w1) ++ own_enc 8 w2) ++ own_enc 8 w3))) := f221.keep K228 (ninS nb5_7 nin0)
      have f239 : Fld Z T228.heap b5 "com/example/zhangtiao/zhangtiao/input/VarLongs" "chunks" "Ljava/util/List;" (.ref al13) := f222.keep K228 (ninS nb5_7 nin0)
      have f240 : Exa Z T228.heap b60 "com/example/zhangtiao/zhangtiao/input/VarLongs$Cursor" := fo211_3.keep K228
      have f241 : Arv Z T228.heap b23 kc23 .byte (65536 : Int32) ((([] ++ own_enc 8 w1) ++ own_enc 8 w2) ++ (own_enc 8 w3 ++ [])) (.int (0 : Int32)) := fn226.keep K228 (ninS nb5_5 nin0)
      subst hv228
      have N228 := Fr.app N211 N228q
      have pre228 : Go p.tables e below (s₁.setTop (entryFrame m #[(.long y0), (.long y1), (.long y2), (.int y3)] maxLocals)) T228 (mkF m 174 #[.val (.long y0), .second, .val (.long y1), .second, .val (.long y2), .second, .val (.int y3), .val (.long w1), .second, .val (.long w2), .second, .val (.long w3), .second, .val (.ref b5), .val (.long w21), .second, .val (.long w36), .second, .val (.long w49), .second, .val (.ref b60), .val (.int (0 : Int32)), .val (.int (2 : Int32)), .val (.int (1 : Int32)), .unset] [(.long w3)]) := fun t k => pre225 t (st228.trans k)
      have pre242 : Go p.tables e below (s₁.setTop (entryFrame m #[(.long y0), (.long y1), (.long y2), (.int y3)] maxLocals)) T228 (mkF m 182 #[.val (.long y0), .second, .val (.long y1), .second, .val (.long y2), .second, .val (.int y3), .val (.long w1), .second, .val (.long w2), .second, .val (.long w3), .second, .val (.ref b5), .val (.long w21), .second, .val (.long w36), .second, .val (.long w49), .second, .val (.ref b60), .val (.int (0 : Int32)), .val (.int (2 : Int32)), .val (.int (1 : Int32)), .unset] [(.long w3), (.long w2), (.long w1), (.int (2 : Int32)), (.long w3)]) := fun t k => pre228 t (by
          refine XS.iload X228.here hx rfl (hb hby at_174) rfl ?_
          show Steps p.tables e below (T228.setTop (mkF m 176 #[.val (.long y0), .second, .val (.long y1), .second, .val (.long y2), .second, .val (.int y3), .val (.long w1), .second, .val (.long w2), .second, .val (.long w3), .second, .val (.ref b5), .val (.long w21), .second, .val (.long w36), .second, .val (.long w49), .second, .val (.ref b60), .val (.int (0 : Int32)), .val (.int (2 : Int32)), .val (.int (1 : Int32)), .unset] [(.int (2 : Int32)), (.long w3)])) _
          refine XS.lload X228.here hx rfl (hb hby at_176) rfl ?_
          show Steps p.tables e below (T228.setTop (mkF m 178 #[.val (.long y0), .second, .val (.long y1), .second, .val (.long y2), .second, .val (.int y3), .val (.long w1), .second, .val (.long w2), .second, .val (.long w3), .second, .val (.ref b5), .val (.long w21), .second, .val (.long w36), .second, .val (.long w49), .second, .val (.ref b60), .val (.int (0 : Int32)), .val (.int (2 : Int32)), .val (.int (1 : Int32)), .unset] [(.long w1), (.int (2 : Int32)), (.long w3)])) _
          refine XS.lload X228.here hx rfl (hb hby at_178) rfl ?_
          show Steps p.tables e below (T228.setTop (mkF m 180 #[.val (.long y0), .second, .val (.long y1), .second, .val (.long y2), .second, .val (.int y3), .val (.long w1), .second, .val (.long w2), .second, .val (.long w3), .second, .val (.ref b5), .val (.long w21), .second, .val (.long w36), .second, .val (.long w49), .second, .val (.ref b60), .val (.int (0 : Int32)), .val (.int (2 : Int32)), .val (.int (1 : Int32)), .unset] [(.long w2), (.long w1), (.int (2 : Int32)), (.long w3)])) _
          refine XS.lload X228.here hx rfl (hb hby at_180) rfl ?_
          exact k)
      obtain ⟨_, _, ⟨T243, L243, k243, n243⟩, -, X243, ⟨Lc243, hQ243, l243, y243, z243⟩, st243⟩ := Jvm.LawKit.callS X228 hx (y := (⟨"com/example/zhangtiao/zhangtiao/input/VarLongsMoveToPinLaw", "pick", "(IJJJ)J"⟩ : MethodName)) hown (mvT hZ (hw _ (List.mem_of_getElem? (i := 111) rfl))) (mvT hZ (hw _ (List.mem_of_getElem? (i := 112) rfl))) (mvT hZ (hw _ (List.mem_of_getElem? (i := 113) rfl))) (mvT hZ (hw _ (List.mem_of_getElem? (i := 114) rfl))) (by decide) (backOf (W := 2) (rm_pk l Z av0 hw [] (2 : Int32) w1 w2 w3 T228.heap n0) hZ (hw _ (List.mem_of_getElem? (i := 114) rfl)) (hw _ (List.mem_of_getElem? (i := 113) rfl)) (by decide) (by decide)) (g := (mkF m 182 #[.val (.long y0), .second, .val (.long y1), .second, .val (.long y2), .second, .val (.int y3), .val (.long w1), .second, .val (.long w2), .second, .val (.long w3), .second, .val (.ref b5), .val (.long w21), .second, .val (.long w36), .second, .val (.long w49), .second, .val (.ref b60), .val (.int (0 : Int32)), .val (.int (2 : Int32)), .val (.int (1 : Int32)), .unset] [(.long w3), (.long w2), (.long w1), (.int (2 : Int32)), (.long w3)])) rfl (by rw [hml]; rfl) (argsL := [(.int (2 : Int32)), (.long w1), (.long w2), (.long w3)]) (rest := [(.long w3)]) (lenOf pd_13 rfl) rfl (by show 2 * 0 + _ ≤ _; exact Nat.le_of_eq rfl) (hb hby at_182) (fun _ _ => ⟨rfl, rfl, (by decide : 5 + 0 ≤ _), (by decide : 65555 + 0 ≤ _)⟩)
      dsimp only [Pt.U, Pt.locs, Pt.cells, Pt.slots] at X243 l243 y243 z243 st243 hQ243
      subst l243 y243 z243
      obtain ⟨hv243, N243q, e243⟩ := hQ243
      rw [show own_pk (2 : Int32) w1 w2 w3 = w3 from rfl] at hv243
      subst hv243
      have N243 := Fr.app N228 N243q
      have pre243 : Go p.tables e below (s₁.setTop (entryFrame m #[(.long y0), (.long y1), (.long y2), (.int y3)] maxLocals)) T243 (mkF m 185 #[.val (.long y0), .second, .val (.long y1), .second, .val (.long y2), .second, .val (.int y3), .val (.long w1), .second, .val (.long w2), .second, .val (.long w3), .second, .val (.ref b5), .val (.long w21), .second, .val (.long w36), .second, .val (.long w49), .second, .val (.ref b60), .val (.int (0 : Int32)), .val (.int (2 : Int32)), .val (.int (1 : Int32)), .unset] [(.long w3), (.long w3)]) := fun t k => pre242 t (st243 _ k)
      have pre244 : Go p.tables e below (s₁.setTop (entryFrame m #[(.long y0), (.long y1), (.long y2), (.int y3)] maxLocals)) T243 (mkF m 211 #[.val (.long y0), .second, .val (.long y1), .second, .val (.long y2), .second, .val (.int y3), .val (.long w1), .second, .val (.long w2), .second, .val (.long w3), .second, .val (.ref b5), .val (.long w21), .second, .val (.long w36), .second, .val (.long w49), .second, .val (.ref b60), .val (.int (0 : Int32)), .val (.int (2 : Int32)), .val (.int (1 : Int32)), .val (.int (1 : Int32))] [(.int (1 : Int32))]) := fun t k => pre243 t (by
          refine XS.lcmp X243.here hx rfl (hb hby at_185) rfl ?_
          show Steps p.tables e below (T243.setTop (mkF m 186 #[.val (.long y0), .second, .val (.long y1), .second, .val (.long y2), .second, .val (.int y3), .val (.long w1), .second, .val (.long w2), .second, .val (.long w3), .second, .val (.ref b5), .val (.long w21), .second, .val (.long w36), .second, .val (.long w49), .second, .val (.ref b60), .val (.int (0 : Int32)), .val (.int (2 : Int32)), .val (.int (1 : Int32)), .unset] [(.int (lcmpW w3 w3))])) _
          refine XS.ifNo X243.here hx rfl (hb hby at_186) rfl ((if0 _ _).trans (teq ((lw_eq _ _).mpr rfl)).2) ?_
          show Steps p.tables e below (T243.setTop (mkF m 189 #[.val (.long y0), .second, .val (.long y1), .second, .val (.long y2), .second, .val (.int y3), .val (.long w1), .second, .val (.long w2), .second, .val (.long w3), .second, .val (.ref b5), .val (.long w21), .second, .val (.long w36), .second, .val (.long w49), .second, .val (.ref b60), .val (.int (0 : Int32)), .val (.int (2 : Int32)), .val (.int (1 : Int32)), .unset] [])) _
          refine XS.iconst X243.here hx rfl (hb hby at_189) ?_
          show Steps p.tables e below (T243.setTop (mkF m 190 #[.val (.long y0), .second, .val (.long y1), .second, .val (.long y2), .second, .val (.int y3), .val (.long w1), .second, .val (.long w2), .second, .val (.long w3), .second, .val (.ref b5), .val (.long w21), .second, .val (.long w36), .second, .val (.long w49), .second, .val (.ref b60), .val (.int (0 : Int32)), .val (.int (2 : Int32)), .val (.int (1 : Int32)), .unset] [(.int (1 : Int32))])) _
          refine XS.goto X243.here hx rfl (pc0 := 190) (pc' := 194) rfl (hb hby at_190) (by decide) (by decide) ?_
          show Steps p.tables e below (T243.setTop (mkF m 194 #[.val (.long y0), .second, .val (.long y1), .second, .val (.long y2), .second, .val (.int y3), .val (.long w1), .second, .val (.long w2), .second, .val (.long w3), .second, .val (.ref b5), .val (.long w21), .second, .val (.long w36), .second, .val (.long w49), .second, .val (.ref b60), .val (.int (0 : Int32)), .val (.int (2 : Int32)), .val (.int (1 : Int32)), .unset] [(.int (1 : Int32))])) _
          refine XS.istore X243.here hx rfl (hb hby at_194) rfl (l' := #[.val (.long y0), .second, .val (.long y1), .second, .val (.long y2), .second, .val (.int y3), .val (.long w1), .second, .val (.long w2), .second, .val (.long w3), .second, .val (.ref b5), .val (.long w21), .second, .val (.long w36), .second, .val (.long w49), .second, .val (.ref b60), .val (.int (0 : Int32)), .val (.int (2 : Int32)), .val (.int (1 : Int32)), .val (.int (1 : Int32))]) rfl ?_
          show Steps p.tables e below (T243.setTop (mkF m 196 #[.val (.long y0), .second, .val (.long y1), .second, .val (.long y2), .second, .val (.int y3), .val (.long w1), .second, .val (.long w2), .second, .val (.long w3), .second, .val (.ref b5), .val (.long w21), .second, .val (.long w36), .second, .val (.long w49), .second, .val (.ref b60), .val (.int (0 : Int32)), .val (.int (2 : Int32)), .val (.int (1 : Int32)), .val (.int (1 : Int32))] [])) _
          refine XS.iload X243.here hx rfl (hb hby at_196) rfl ?_
          show Steps p.tables e below (T243.setTop (mkF m 198 #[.val (.long y0), .second, .val (.long y1), .second, .val (.long y2), .second, .val (.int y3), .val (.long w1), .second, .val (.long w2), .second, .val (.long w3), .second, .val (.ref b5), .val (.long w21), .second, .val (.long w36), .second, .val (.long w49), .second, .val (.ref b60), .val (.int (0 : Int32)), .val (.int (2 : Int32)), .val (.int (1 : Int32)), .val (.int (1 : Int32))] [(.int (1 : Int32))])) _
          refine XS.ifNo X243.here hx rfl (hb hby at_198) rfl ((if0 _ _).trans (feq (by decide)).1) ?_
          show Steps p.tables e below (T243.setTop (mkF m 201 #[.val (.long y0), .second, .val (.long y1), .second, .val (.long y2), .second, .val (.int y3), .val (.long w1), .second, .val (.long w2), .second, .val (.long w3), .second, .val (.ref b5), .val (.long w21), .second, .val (.long w36), .second, .val (.long w49), .second, .val (.ref b60), .val (.int (0 : Int32)), .val (.int (2 : Int32)), .val (.int (1 : Int32)), .val (.int (1 : Int32))] [])) _
          refine XS.iload X243.here hx rfl (hb hby at_201) rfl ?_
          show Steps p.tables e below (T243.setTop (mkF m 203 #[.val (.long y0), .second, .val (.long y1), .second, .val (.long y2), .second, .val (.int y3), .val (.long w1), .second, .val (.long w2), .second, .val (.long w3), .second, .val (.ref b5), .val (.long w21), .second, .val (.long w36), .second, .val (.long w49), .second, .val (.ref b60), .val (.int (0 : Int32)), .val (.int (2 : Int32)), .val (.int (1 : Int32)), .val (.int (1 : Int32))] [(.int (1 : Int32))])) _
          refine XS.ifNo X243.here hx rfl (hb hby at_203) rfl ((if0 _ _).trans (feq (by decide)).1) ?_
          show Steps p.tables e below (T243.setTop (mkF m 206 #[.val (.long y0), .second, .val (.long y1), .second, .val (.long y2), .second, .val (.int y3), .val (.long w1), .second, .val (.long w2), .second, .val (.long w3), .second, .val (.ref b5), .val (.long w21), .second, .val (.long w36), .second, .val (.long w49), .second, .val (.ref b60), .val (.int (0 : Int32)), .val (.int (2 : Int32)), .val (.int (1 : Int32)), .val (.int (1 : Int32))] [])) _
          refine XS.iconst X243.here hx rfl (hb hby at_206) ?_
          show Steps p.tables e below (T243.setTop (mkF m 207 #[.val (.long y0), .second, .val (.long y1), .second, .val (.long y2), .second, .val (.int y3), .val (.long w1), .second, .val (.long w2), .second, .val (.long w3), .second, .val (.ref b5), .val (.long w21), .second, .val (.long w36), .second, .val (.long w49), .second, .val (.ref b60), .val (.int (0 : Int32)), .val (.int (2 : Int32)), .val (.int (1 : Int32)), .val (.int (1 : Int32))] [(.int (1 : Int32))])) _
          refine XS.goto X243.here hx rfl (pc0 := 207) (pc' := 211) rfl (hb hby at_207) (by decide) (by decide) ?_
          exact k)
      obtain ⟨fs, hr, hrun, hended, hW, hsame⟩ := X243.leave (v := some (.int (1 : Int32))) (fun h => by rw [Bd.returns] at h; cases h) (BodyLoose.notSynchronized Bd)
      refine ⟨_, _, pre244 _ ?_, hrun, hended, _, _, rfl, ?_, ⟨_, rfl⟩, hW, hsame.mono (Nat.le_of_ble_eq_true rfl) (Nat.le_of_ble_eq_true rfl)⟩
      · exact retN X243 hx (t := .boolean) Bd.returns (by simp) (hb hby at_211) hr
      · show Q_law Z y0 y1 y2 y3 ad kd h0 n0 _ T243.heap _
        rw [e243]
        exact ⟨rfl, N243⟩
  · -- w98 = (1 : Int32)
    have pre245 : Go p.tables e below (s₁.setTop (entryFrame m #[(.long y0), (.long y1), (.long y2), (.int y3)] maxLocals)) T5 (mkF m 120 #[.val (.long y0), .second, .val (.long y1), .second, .val (.long y2), .second, .val (.int y3), .val (.long w1), .second, .val (.long w2), .second, .val (.long w3), .second, .val (.ref b5), .val (.long w21), .second, .val (.long w36), .second, .val (.long w49), .second, .val (.ref b60), .val (.int (1 : Int32)), .val (.int w99), .unset, .unset] [(.long w49), (.long w36), (.long w21), (.int (1 : Int32)), (.ref b60)]) := fun t k => pre5 t (by
        refine XS.aload X5.here hx rfl (hb hby at_110) rfl rfl ?_
        show Steps p.tables e below (T5.setTop (mkF m 112 #[.val (.long y0), .second, .val (.long y1), .second, .val (.long y2), .second, .val (.int y3), .val (.long w1), .second, .val (.long w2), .second, .val (.long w3), .second, .val (.ref b5), .val (.long w21), .second, .val (.long w36), .second, .val (.long w49), .second, .val (.ref b60), .val (.int (1 : Int32)), .val (.int w99), .unset, .unset] [(.ref b60)])) _
        refine XS.iload X5.here hx rfl (hb hby at_112) rfl ?_
        show Steps p.tables e below (T5.setTop (mkF m 114 #[.val (.long y0), .second, .val (.long y1), .second, .val (.long y2), .second, .val (.int y3), .val (.long w1), .second, .val (.long w2), .second, .val (.long w3), .second, .val (.ref b5), .val (.long w21), .second, .val (.long w36), .second, .val (.long w49), .second, .val (.ref b60), .val (.int (1 : Int32)), .val (.int w99), .unset, .unset] [(.int (1 : Int32)), (.ref b60)])) _
        refine XS.lload X5.here hx rfl (hb hby at_114) rfl ?_
        show Steps p.tables e below (T5.setTop (mkF m 116 #[.val (.long y0), .second, .val (.long y1), .second, .val (.long y2), .second, .val (.int y3), .val (.long w1), .second, .val (.long w2), .second, .val (.long w3), .second, .val (.ref b5), .val (.long w21), .second, .val (.long w36), .second, .val (.long w49), .second, .val (.ref b60), .val (.int (1 : Int32)), .val (.int w99), .unset, .unset] [(.long w21), (.int (1 : Int32)), (.ref b60)])) _
        refine XS.lload X5.here hx rfl (hb hby at_116) rfl ?_
        show Steps p.tables e below (T5.setTop (mkF m 118 #[.val (.long y0), .second, .val (.long y1), .second, .val (.long y2), .second, .val (.int y3), .val (.long w1), .second, .val (.long w2), .second, .val (.long w3), .second, .val (.ref b5), .val (.long w21), .second, .val (.long w36), .second, .val (.long w49), .second, .val (.ref b60), .val (.int (1 : Int32)), .val (.int w99), .unset, .unset] [(.long w36), (.long w21), (.int (1 : Int32)), (.ref b60)])) _
        refine XS.lload X5.here hx rfl (hb hby at_118) rfl ?_
        exact k)
    obtain ⟨_, _, ⟨T246, L246, k246, n246⟩, -, X246, ⟨Lc246, hQ246, l246, y246, z246⟩, st246⟩ := Jvm.LawKit.callS X5 hx (y := (⟨"com/example/zhangtiao/zhangtiao/input/VarLongsMoveToPinLaw", "pick", "(IJJJ)J"⟩ : MethodName)) hown (mvT hZ (hw _ (List.mem_of_getElem? (i := 111) rfl))) (mvT hZ (hw _ (List.mem_of_getElem? (i := 112) rfl))) (mvT hZ (hw _ (List.mem_of_getElem? (i := 113) rfl))) (mvT hZ (hw _ (List.mem_of_getElem? (i := 114) rfl))) (by decide) (backOf (W := 1) (rm_pk l Z av0 hw [] (1 : Int32) w21 w36 w49 h5 n0) hZ (hw _ (List.mem_of_getElem? (i := 114) rfl)) (hw _ (List.mem_of_getElem? (i := 113) rfl)) (by decide) (by decide)) (g := (mkF m 120 #[.val (.long y0), .second, .val (.long y1), .second, .val (.long y2), .second, .val (.int y3), .val (.long w1), .second, .val (.long w2), .second, .val (.long w3), .second, .val (.ref b5), .val (.long w21), .second, .val (.long w36), .second, .val (.long w49), .second, .val (.ref b60), .val (.int (1 : Int32)), .val (.int w99), .unset, .unset] [(.long w49), (.long w36), (.long w21), (.int (1 : Int32)), (.ref b60)])) rfl (by rw [hml]; rfl) (argsL := [(.int (1 : Int32)), (.long w21), (.long w36), (.long w49)]) (rest := [(.ref b60)]) (lenOf pd_13 rfl) rfl (by show 2 * 0 + _ ≤ _; exact Nat.le_of_eq rfl) (hb hby at_120) (fun _ _ => ⟨rfl, e5, (by decide : 5 + 0 ≤ _), (by decide : 65555 + 0 ≤ _)⟩)
    dsimp only [Pt.U, Pt.locs, Pt.cells, Pt.slots] at X246 l246 y246 z246 st246 hQ246
    subst l246 y246 z246
    obtain ⟨hv246, N246q, e246⟩ := hQ246
    rw [show own_pk (1 : Int32) w21 w36 w49 = w36 from rfl] at hv246
    subst hv246
    have N246 := Fr.app N5 N246q
    have pre246 : Go p.tables e below (s₁.setTop (entryFrame m #[(.long y0), (.long y1), (.long y2), (.int y3)] maxLocals)) T246 (mkF m 123 #[.val (.long y0), .second, .val (.long y1), .second, .val (.long y2), .second, .val (.int y3), .val (.long w1), .second, .val (.long w2), .second, .val (.long w3), .second, .val (.ref b5), .val (.long w21), .second, .val (.long w36), .second, .val (.long w49), .second, .val (.ref b60), .val (.int (1 : Int32)), .val (.int w99), .unset, .unset] [(.long w36), (.ref b60)]) := fun t k => pre245 t (st246 _ k)
    obtain ⟨cq247, kq247, q247a, q247b, q247c⟩ := isOf hZ e246 fb5_15
    obtain ⟨_, _, ⟨T247, L247, k247, n247⟩, -, X247, ⟨Lc247, hQ247, l247, y247, z247⟩, st247⟩ := X246.virtualBack hx (y := (⟨"com/example/zhangtiao/zhangtiao/input/VarLongs$Cursor", "moveTo", "(J)V"⟩ : MethodName)) (z := (⟨"com/example/zhangtiao/zhangtiao/input/VarLongs$Cursor", "moveTo", "(J)V"⟩ : MethodName)) hown (mvT hZ (hw _ (List.mem_of_getElem? (i := 115) rfl))) (mvT hZ (hw _ (List.mem_of_getElem? (i := 116) rfl))) (notFace_of_selects (args := #[]) (mvT hZ (hw _ (List.mem_of_getElem? (i := 118) rfl)))) (mvT hZ (hw _ (List.mem_of_getElem? (i := 118) rfl))) (mvT hZ (hw _ (List.mem_of_getElem? (i := 117) rfl))) (by decide) (backOf (W := 0) (rm_mvt l Z av0 hw [] b60 w36 (.ref b5) (0 : Int32) (0 : Int32) ([] ++ own_enc 8 w1) h5 n0 fb5_0 fb5_12 fb5_13 fb5_14 fb5_15 gb5_3 (hw36.trans (own_pos1' _)) (Nat.lt_of_le_of_lt hL1 (by decide))) hZ (hw _ (List.mem_of_getElem? (i := 119) rfl)) (hw _ (List.mem_of_getElem? (i := 99) rfl)) (by decide) (by decide)) q247a q247c (g := (mkF m 123 #[.val (.long y0), .second, .val (.long y1), .second, .val (.long y2), .second, .val (.int y3), .val (.long w1), .second, .val (.long w2), .second, .val (.long w3), .second, .val (.ref b5), .val (.long w21), .second, .val (.long w36), .second, .val (.long w49), .second, .val (.ref b60), .val (.int (1 : Int32)), .val (.int w99), .unset, .unset] [(.long w36), (.ref b60)])) rfl (by rw [hml]; rfl) (Steps.refl _) (argsL := [(.long w36)]) (rest := []) (lenOf pd_10 rfl) rfl (by show 2 * 0 + _ ≤ _; exact Nat.le_of_eq rfl) (hb hby at_123) (fun _ _ => ⟨rfl, e246, (by decide : 5 + 0 ≤ _), (by decide : 65555 + 0 ≤ _)⟩)
    dsimp only [Pt.U, Pt.locs, Pt.cells, Pt.slots] at X247 l247 y247 z247 st247 hQ247
    subst l247 y247 z247
    obtain ⟨hv247, N247q, K247, fo247_0, fo247_1, fo247_2, fo247_3⟩ := hQ247
    have f248 : n0 ≤ T247.heap.size := Nat.le_trans fb5_0 K247.1
    have f249 : Old Z n0 T247.heap := fb5_1.keep K247 (allS gb5_3 all0)
    have f250 : Exa Z T247.heap b23 "[B" := fb5_2.keep K247
    have f251 : Exa Z T247.heap al13 "java/util/ArrayList" := fb5_3.keep K247
    have f252 : Fld Z T247.heap al13 "java/util/ArrayList" "elementData" "[Ljava/lang/Object;" (.ref ea23) := fb5_4.keep K247 (ninS nb5_2 nin0)
    have f253 : Fld Z T247.heap al13 "java/util/ArrayList" "size" "I" (.int ((0 : Int32) + (1 : Int32))) := fb5_5.keep K247 (ninS nb5_2 nin0)
    have f254 : Arv Z T247.heap ea23 ke23 (.object "java/lang/Object") (10 : Int32) [(.ref b23), .null, .null, .null, .null, .null, .null, .null, .null, .null] .null := fb5_6.keep K247 (ninS nb5_9.symm nin0)
    have f255 : Exa Z T247.heap b5 "com/example/zhangtiao/zhangtiao/input/VarLongs" := fb5_7.keep K247
    have f256 : Fld Z T247.heap b5 "com/example/zhangtiao/zhangtiao/input/VarLongs" "last" "[B" (.ref b23) := fb5_8.keep K247 (ninS nb5_7 nin0)
    have f257 : Fld Z T247.heap b5 "com/example/zhangtiao/zhangtiao/input/VarLongs" "position" "I" (.int (own_n ((([] ++ own_enc 8 w1) ++ own_enc 8 w2) ++ own_enc 8 w3))) := fb5_9.keep K247 (ninS nb5_7 nin0)
    have f258 : Fld Z T247.heap b5 "com/example/zhangtiao/zhangtiao/input/VarLongs" "chunks" "Ljava/util/List;" (.ref al13) := fb5_10.keep K247 (ninS nb5_7 nin0)
    have f259 : Arv Z T247.heap b23 kc23 .byte (65536 : Int32) ((([] ++ own_enc 8 w1) ++ own_enc 8 w2) ++ own_enc 8 w3) (.int (0 : Int32)) := fb5_11.keep K247 (ninS nb5_5 nin0)
    have f260 : Exa Z T247.heap b60 "com/example/zhangtiao/zhangtiao/input/VarLongs$Cursor" := fb5_15.keep K247
    subst hv247
    have N247 := Fr.app N246 N247q
    have pre247 : Go p.tables e below (s₁.setTop (entryFrame m #[(.long y0), (.long y1), (.long y2), (.int y3)] maxLocals)) T247 (mkF m 126 #[.val (.long y0), .second, .val (.long y1), .second, .val (.long y2), .second, .val (.int y3), .val (.long w1), .second, .val (.long w2), .second, .val (.long w3), .second, .val (.ref b5), .val (.long w21), .second, .val (.long w36), .second, .val (.long w49), .second, .val (.ref b60), .val (.int (1 : Int32)), .val (.int w99), .unset, .unset] []) := fun t k => pre246 t (st247.trans k)
    have pre261 : Go p.tables e below (s₁.setTop (entryFrame m #[(.long y0), (.long y1), (.long y2), (.int y3)] maxLocals)) T247 (mkF m 128 #[.val (.long y0), .second, .val (.long y1), .second, .val (.long y2), .second, .val (.int y3), .val (.long w1), .second, .val (.long w2), .second, .val (.long w3), .second, .val (.ref b5), .val (.long w21), .second, .val (.long w36), .second, .val (.long w49), .second, .val (.ref b60), .val (.int (1 : Int32)), .val (.int w99), .unset, .unset] [(.ref b60)]) := fun t k => pre247 t (by
        refine XS.aload X247.here hx rfl (hb hby at_126) rfl rfl ?_
        exact k)
    have fn262 := f259
    rw [own_l1 (own_enc 8 w1) (own_enc 8 w2) (own_enc 8 w3)] at fn262
    obtain ⟨cq263, kq263, q263a, q263b, q263c⟩ := isOf hZ rfl fo247_3
    obtain ⟨_, _, ⟨T263, L263, k263, n263⟩, -, X263, ⟨Lc263, hQ263, l263, y263, z263⟩, st263⟩ := X247.virtualBack hx (y := (⟨"com/example/zhangtiao/zhangtiao/input/VarLongs$Cursor", "next", "()J"⟩ : MethodName)) (z := (⟨"com/example/zhangtiao/zhangtiao/input/VarLongs$Cursor", "next", "()J"⟩ : MethodName)) hown (mvT hZ (hw _ (List.mem_of_getElem? (i := 125) rfl))) (mvT hZ (hw _ (List.mem_of_getElem? (i := 126) rfl))) (notFace_of_selects (args := #[]) (mvT hZ (hw _ (List.mem_of_getElem? (i := 128) rfl)))) (mvT hZ (hw _ (List.mem_of_getElem? (i := 128) rfl))) (mvT hZ (hw _ (List.mem_of_getElem? (i := 127) rfl))) (by decide) (backOf (W := 0) (rm_nxt l Z av0 hw [] b60 (.ref b5) b5 al13 ea23 ke23 b23 kc23 ([] ++ own_enc 8 w1) w2 (own_enc 8 w3) T247.heap n0 f248 fo247_0 fo247_1 fo247_2 fo247_3 f258 f251 f253 f252 f254 f250 fn262 gb5_3 nb5_5.symm nb5_7.symm nb5_2.symm nb5_9 rfl hq_w2 (Nat.lt_of_le_of_lt (Nat.add_le_add_right hL1 8) (by decide))) hZ (hw _ (List.mem_of_getElem? (i := 129) rfl)) (hw _ (List.mem_of_getElem? (i := 99) rfl)) (by decide) (by decide)) q263a q263c (g := (mkF m 128 #[.val (.long y0), .second, .val (.long y1), .second, .val (.long y2), .second, .val (.int y3), .val (.long w1), .second, .val (.long w2), .second, .val (.long w3), .second, .val (.ref b5), .val (.long w21), .second, .val (.long w36), .second, .val (.long w49), .second, .val (.ref b60), .val (.int (1 : Int32)), .val (.int w99), .unset, .unset] [(.ref b60)])) rfl (by rw [hml]; rfl) (Steps.refl _) (argsL := []) (rest := []) (lenOf pd_9 rfl) rfl (by show 2 * 0 + _ ≤ _; exact Nat.le_of_eq rfl) (hb hby at_128) (fun _ _ => ⟨rfl, rfl, (by decide : 5 + 0 ≤ _), (by decide : 65555 + 0 ≤ _)⟩)
    dsimp only [Pt.U, Pt.locs, Pt.cells, Pt.slots] at X263 l263 y263 z263 st263 hQ263
    subst l263 y263 z263
    obtain ⟨ta263, hv263, N263q, K263, fo263_0, fo263_1, fo263_2, fo263_3⟩ := hQ263
    have f264 : n0 ≤ T263.heap.size := Nat.le_trans f248 K263.1
    have f265 : Old Z n0 T263.heap := f249.keep K263 (allS gb5_3 all0)
    have f266 : Exa Z T263.heap b23 "[B" := f250.keep K263
    have f267 : Exa Z T263.heap al13 "java/util/ArrayList" := f251.keep K263
    have f268 : Fld Z T263.heap al13 "java/util/ArrayList" "elementData" "[Ljava/lang/Object;" (.ref ea23) := f252.keep K263 (ninS nb5_2 nin0)
    have f269 : Fld Z T263.heap al13 "java/util/ArrayList" "size" "I" (.int ((0 : Int32) + (1 : Int32))) := f253.keep K263 (ninS nb5_2 nin0)
    have f270 : Arv Z T263.heap ea23 ke23 (.object "java/lang/Object") (10 : Int32) [(.ref b23), .null, .null, .null, .null, .null, .null, .null, .null, .null] .null := f254.keep K263 (ninS nb5_9.symm nin0)
    have f271 : Exa Z T263.heap b5 "com/example/zhangtiao/zhangtiao/input/VarLongs" := f255.keep K263
    have f272 : Fld Z T263.heap b5 "com/example/zhangtiao/zhangtiao/input/VarLongs" "last" "[B" (.ref b23) := f256.keep K263 (ninS nb5_7 nin0)
    have f273 : Fld Z T263.heap b5 "com/example/zhangtiao/zhangtiao/input/VarLongs" "position" "I" (.int (own_n ((([] ++ own_enc 8 w1) ++ own_enc 8 w2) ++ own_enc 8 w3))) := f257.keep K263 (ninS nb5_7 nin0)
    have f274 : Fld Z T263.heap b5 "com/example/zhangtiao/zhangtiao/input/VarLongs" "chunks" "Ljava/util/List;" (.ref al13) := f258.keep K263 (ninS nb5_7 nin0)
    have f275 : Exa Z T263.heap b60 "com/example/zhangtiao/zhangtiao/input/VarLongs$Cursor" := fo247_3.keep K263
    have f276 : Arv Z T263.heap b23 kc23 .byte (65536 : Int32) (([] ++ own_enc 8 w1) ++ (own_enc 8 w2 ++ (own_enc 8 w3))) (.int (0 : Int32)) := fn262.keep K263 (ninS nb5_5 nin0)
    subst hv263
    have N263 := Fr.app N247 N263q
    have pre263 : Go p.tables e below (s₁.setTop (entryFrame m #[(.long y0), (.long y1), (.long y2), (.int y3)] maxLocals)) T263 (mkF m 131 #[.val (.long y0), .second, .val (.long y1), .second, .val (.long y2), .second, .val (.int y3), .val (.long w1), .second, .val (.long w2), .second, .val (.long w3), .second, .val (.ref b5), .val (.long w21), .second, .val (.long w36), .second, .val (.long w49), .second, .val (.ref b60), .val (.int (1 : Int32)), .val (.int w99), .unset, .unset] [(.long w2)]) := fun t k => pre261 t (st263.trans k)
    have pre277 : Go p.tables e below (s₁.setTop (entryFrame m #[(.long y0), (.long y1), (.long y2), (.int y3)] maxLocals)) T263 (mkF m 139 #[.val (.long y0), .second, .val (.long y1), .second, .val (.long y2), .second, .val (.int y3), .val (.long w1), .second, .val (.long w2), .second, .val (.long w3), .second, .val (.ref b5), .val (.long w21), .second, .val (.long w36), .second, .val (.long w49), .second, .val (.ref b60), .val (.int (1 : Int32)), .val (.int w99), .unset, .unset] [(.long w3), (.long w2), (.long w1), (.int (1 : Int32)), (.long w2)]) := fun t k => pre263 t (by
        refine XS.iload X263.here hx rfl (hb hby at_131) rfl ?_
        show Steps p.tables e below (T263.setTop (mkF m 133 #[.val (.long y0), .second, .val (.long y1), .second, .val (.long y2), .second, .val (.int y3), .val (.long w1), .second, .val (.long w2), .second, .val (.long w3), .second, .val (.ref b5), .val (.long w21), .second, .val (.long w36), .second, .val (.long w49), .second, .val (.ref b60), .val (.int (1 : Int32)), .val (.int w99), .unset, .unset] [(.int (1 : Int32)), (.long w2)])) _
        refine XS.lload X263.here hx rfl (hb hby at_133) rfl ?_
        show Steps p.tables e below (T263.setTop (mkF m 135 #[.val (.long y0), .second, .val (.long y1), .second, .val (.long y2), .second, .val (.int y3), .val (.long w1), .second, .val (.long w2), .second, .val (.long w3), .second, .val (.ref b5), .val (.long w21), .second, .val (.long w36), .second, .val (.long w49), .second, .val (.ref b60), .val (.int (1 : Int32)), .val (.int w99), .unset, .unset] [(.long w1), (.int (1 : Int32)), (.long w2)])) _
        refine XS.lload X263.here hx rfl (hb hby at_135) rfl ?_
        show Steps p.tables e below (T263.setTop (mkF m 137 #[.val (.long y0), .second, .val (.long y1), .second, .val (.long y2), .second, .val (.int y3), .val (.long w1), .second, .val (.long w2), .second, .val (.long w3), .second, .val (.ref b5), .val (.long w21), .second, .val (.long w36), .second, .val (.long w49), .second, .val (.ref b60), .val (.int (1 : Int32)), .val (.int w99), .unset, .unset] [(.long w2), (.long w1), (.int (1 : Int32)), (.long w2)])) _
        refine XS.lload X263.here hx rfl (hb hby at_137) rfl ?_
        exact k)
    obtain ⟨_, _, ⟨T278, L278, k278, n278⟩, -, X278, ⟨Lc278, hQ278, l278, y278, z278⟩, st278⟩ := Jvm.LawKit.callS X263 hx (y := (⟨"com/example/zhangtiao/zhangtiao/input/VarLongsMoveToPinLaw", "pick", "(IJJJ)J"⟩ : MethodName)) hown (mvT hZ (hw _ (List.mem_of_getElem? (i := 111) rfl))) (mvT hZ (hw _ (List.mem_of_getElem? (i := 112) rfl))) (mvT hZ (hw _ (List.mem_of_getElem? (i := 113) rfl))) (mvT hZ (hw _ (List.mem_of_getElem? (i := 114) rfl))) (by decide) (backOf (W := 2) (rm_pk l Z av0 hw [] (1 : Int32) w1 w2 w3 T263.heap n0) hZ (hw _ (List.mem_of_getElem? (i := 114) rfl)) (hw _ (List.mem_of_getElem? (i := 113) rfl)) (by decide) (by decide)) (g := (mkF m 139 #[.val (.long y0), .second, .val (.long y1), .second, .val (.long y2), .second, .val (.int y3), .val (.long w1), .second, .val (.long w2), .second, .val (.long w3), .second, .val (.ref b5), .val (.long w21), .second, .val (.long w36), .second, .val (.long w49), .second, .val (.ref b60), .val (.int (1 : Int32)), .val (.int w99), .unset, .unset] [(.long w3), (.long w2), (.long w1), (.int (1 : Int32)), (.long w2)])) rfl (by rw [hml]; rfl) (argsL := [(.int (1 : Int32)), (.long w1), (.long w2), (.long w3)]) (rest := [(.long w2)]) (lenOf pd_13 rfl) rfl (by show 2 * 0 + _ ≤ _; exact Nat.le_of_eq rfl) (hb hby at_139) (fun _ _ => ⟨rfl, rfl, (by decide : 5 + 0 ≤ _), (by decide : 65555 + 0 ≤ _)⟩)
    dsimp only [Pt.U, Pt.locs, Pt.cells, Pt.slots] at X278 l278 y278 z278 st278 hQ278
    subst l278 y278 z278
    obtain ⟨hv278, N278q, e278⟩ := hQ278
    rw [show own_pk (1 : Int32) w1 w2 w3 = w2 from rfl] at hv278
    subst hv278
    have N278 := Fr.app N263 N278q
    have pre278 : Go p.tables e below (s₁.setTop (entryFrame m #[(.long y0), (.long y1), (.long y2), (.int y3)] maxLocals)) T278 (mkF m 142 #[.val (.long y0), .second, .val (.long y1), .second, .val (.long y2), .second, .val (.int y3), .val (.long w1), .second, .val (.long w2), .second, .val (.long w3), .second, .val (.ref b5), .val (.long w21), .second, .val (.long w36), .second, .val (.long w49), .second, .val (.ref b60), .val (.int (1 : Int32)), .val (.int w99), .unset, .unset] [(.long w2), (.long w2)]) := fun t k => pre277 t (st278 _ k)
    have pre279 : Go p.tables e below (s₁.setTop (entryFrame m #[(.long y0), (.long y1), (.long y2), (.int y3)] maxLocals)) T278 (mkF m 153 #[.val (.long y0), .second, .val (.long y1), .second, .val (.long y2), .second, .val (.int y3), .val (.long w1), .second, .val (.long w2), .second, .val (.long w3), .second, .val (.ref b5), .val (.long w21), .second, .val (.long w36), .second, .val (.long w49), .second, .val (.ref b60), .val (.int (1 : Int32)), .val (.int w99), .val (.int (1 : Int32)), .unset] []) := fun t k => pre278 t (by
        refine XS.lcmp X278.here hx rfl (hb hby at_142) rfl ?_
        show Steps p.tables e below (T278.setTop (mkF m 143 #[.val (.long y0), .second, .val (.long y1), .second, .val (.long y2), .second, .val (.int y3), .val (.long w1), .second, .val (.long w2), .second, .val (.long w3), .second, .val (.ref b5), .val (.long w21), .second, .val (.long w36), .second, .val (.long w49), .second, .val (.ref b60), .val (.int (1 : Int32)), .val (.int w99), .unset, .unset] [(.int (lcmpW w2 w2))])) _
        refine XS.ifNo X278.here hx rfl (hb hby at_143) rfl ((if0 _ _).trans (teq ((lw_eq _ _).mpr rfl)).2) ?_
        show Steps p.tables e below (T278.setTop (mkF m 146 #[.val (.long y0), .second, .val (.long y1), .second, .val (.long y2), .second, .val (.int y3), .val (.long w1), .second, .val (.long w2), .second, .val (.long w3), .second, .val (.ref b5), .val (.long w21), .second, .val (.long w36), .second, .val (.long w49), .second, .val (.ref b60), .val (.int (1 : Int32)), .val (.int w99), .unset, .unset] [])) _
        refine XS.iconst X278.here hx rfl (hb hby at_146) ?_
        show Steps p.tables e below (T278.setTop (mkF m 147 #[.val (.long y0), .second, .val (.long y1), .second, .val (.long y2), .second, .val (.int y3), .val (.long w1), .second, .val (.long w2), .second, .val (.long w3), .second, .val (.ref b5), .val (.long w21), .second, .val (.long w36), .second, .val (.long w49), .second, .val (.ref b60), .val (.int (1 : Int32)), .val (.int w99), .unset, .unset] [(.int (1 : Int32))])) _
        refine XS.goto X278.here hx rfl (pc0 := 147) (pc' := 151) rfl (hb hby at_147) (by decide) (by decide) ?_
        show Steps p.tables e below (T278.setTop (mkF m 151 #[.val (.long y0), .second, .val (.long y1), .second, .val (.long y2), .second, .val (.int y3), .val (.long w1), .second, .val (.long w2), .second, .val (.long w3), .second, .val (.ref b5), .val (.long w21), .second, .val (.long w36), .second, .val (.long w49), .second, .val (.ref b60), .val (.int (1 : Int32)), .val (.int w99), .unset, .unset] [(.int (1 : Int32))])) _
        refine XS.istore X278.here hx rfl (hb hby at_151) rfl (l' := #[.val (.long y0), .second, .val (.long y1), .second, .val (.long y2), .second, .val (.int y3), .val (.long w1), .second, .val (.long w2), .second, .val (.long w3), .second, .val (.ref b5), .val (.long w21), .second, .val (.long w36), .second, .val (.long w49), .second, .val (.ref b60), .val (.int (1 : Int32)), .val (.int w99), .val (.int (1 : Int32)), .unset]) rfl ?_
        exact k)
    have hq_w99 := own_mod3 ((y3.toUInt32 >>> ((8 : Int32) &&& 31).toUInt32).toInt32)
    rw [← hw99] at hq_w99
    clear hw99
    rcases (hq_w99) with rfl | rfl | rfl
    · -- w99 = (0 : Int32)
      have pre280 : Go p.tables e below (s₁.setTop (entryFrame m #[(.long y0), (.long y1), (.long y2), (.int y3)] maxLocals)) T278 (mkF m 163 #[.val (.long y0), .second, .val (.long y1), .second, .val (.long y2), .second, .val (.int y3), .val (.long w1), .second, .val (.long w2), .second, .val (.long w3), .second, .val (.ref b5), .val (.long w21), .second, .val (.long w36), .second, .val (.long w49), .second, .val (.ref b60), .val (.int (1 : Int32)), .val (.int (0 : Int32)), .val (.int (1 : Int32)), .unset] [(.long w49), (.long w36), (.long w21), (.int (0 : Int32)), (.ref b60)]) := fun t k => pre279 t (by
          refine XS.aload X278.here hx rfl (hb hby at_153) rfl rfl ?_
          show Steps p.tables e below (T278.setTop (mkF m 155 #[.val (.long y0), .second, .val (.long y1), .second, .val (.long y2), .second, .val (.int y3), .val (.long w1), .second, .val (.long w2), .second, .val (.long w3), .second, .val (.ref b5), .val (.long w21), .second, .val (.long w36), .second, .val (.long w49), .second, .val (.ref b60), .val (.int (1 : Int32)), .val (.int (0 : Int32)), .val (.int (1 : Int32)), .unset] [(.ref b60)])) _
          refine XS.iload X278.here hx rfl (hb hby at_155) rfl ?_
          show Steps p.tables e below (T278.setTop (mkF m 157 #[.val (.long y0), .second, .val (.long y1), .second, .val (.long y2), .second, .val (.int y3), .val (.long w1), .second, .val (.long w2), .second, .val (.long w3), .second, .val (.ref b5), .val (.long w21), .second, .val (.long w36), .second, .val (.long w49), .second, .val (.ref b60), .val (.int (1 : Int32)), .val (.int (0 : Int32)), .val (.int (1 : Int32)), .unset] [(.int (0 : Int32)), (.ref b60)])) _
          refine XS.lload X278.here hx rfl (hb hby at_157) rfl ?_
          show Steps p.tables e below (T278.setTop (mkF m 159 #[.val (.long y0), .second, .val (.long y1), .second, .val (.long y2), .second, .val (.int y3), .val (.long w1), .second, .val (.long w2), .second, .val (.long w3), .second, .val (.ref b5), .val (.long w21), .second, .val (.long w36), .second, .val (.long w49), .second, .val (.ref b60), .val (.int (1 : Int32)), .val (.int (0 : Int32)), .val (.int (1 : Int32)), .unset] [(.long w21), (.int (0 : Int32)), (.ref b60)])) _
          refine XS.lload X278.here hx rfl (hb hby at_159) rfl ?_
          show Steps p.tables e below (T278.setTop (mkF m 161 #[.val (.long y0), .second, .val (.long y1), .second, .val (.long y2), .second, .val (.int y3), .val (.long w1), .second, .val (.long w2), .second, .val (.long w3), .second, .val (.ref b5), .val (.long w21), .second, .val (.long w36), .second, .val (.long w49), .second, .val (.ref b60), .val (.int (1 : Int32)), .val (.int (0 : Int32)), .val (.int (1 : Int32)), .unset] [(.long w36), (.long w21), (.int (0 : Int32)), (.ref b60)])) _
          refine XS.lload X278.here hx rfl (hb hby at_161) rfl ?_
          exact k)
      obtain ⟨_, _, ⟨T281, L281, k281, n281⟩, -, X281, ⟨Lc281, hQ281, l281, y281, z281⟩, st281⟩ := Jvm.LawKit.callS X278 hx (y := (⟨"com/example/zhangtiao/zhangtiao/input/VarLongsMoveToPinLaw", "pick", "(IJJJ)J"⟩ : MethodName)) hown (mvT hZ (hw _ (List.mem_of_getElem? (i := 111) rfl))) (mvT hZ (hw _ (List.mem_of_getElem? (i := 112) rfl))) (mvT hZ (hw _ (List.mem_of_getElem? (i := 113) rfl))) (mvT hZ (hw _ (List.mem_of_getElem? (i := 114) rfl))) (by decide) (backOf (W := 1) (rm_pk l Z av0 hw [] (0 : Int32) w21 w36 w49 T263.heap n0) hZ (hw _ (List.mem_of_getElem? (i := 114) rfl)) (hw _ (List.mem_of_getElem? (i := 113) rfl)) (by decide) (by decide)) (g := (mkF m 163 #[.val (.long y0), .second, .val (.long y1), .second, .val (.long y2), .second, .val (.int y3), .val (.long w1), .second, .val (.long w2), .second, .val (.long w3), .second, .val (.ref b5), .val (.long w21), .second, .val (.long w36), .second, .val (.long w49), .second, .val (.ref b60), .val (.int (1 : Int32)), .val (.int (0 : Int32)), .val (.int (1 : Int32)), .unset] [(.long w49), (.long w36), (.long w21), (.int (0 : Int32)), (.ref b60)])) rfl (by rw [hml]; rfl) (argsL := [(.int (0 : Int32)), (.long w21), (.long w36), (.long w49)]) (rest := [(.ref b60)]) (lenOf pd_13 rfl) rfl (by show 2 * 0 + _ ≤ _; exact Nat.le_of_eq rfl) (hb hby at_163) (fun _ _ => ⟨rfl, e278, (by decide : 5 + 0 ≤ _), (by decide : 65555 + 0 ≤ _)⟩)
      dsimp only [Pt.U, Pt.locs, Pt.cells, Pt.slots] at X281 l281 y281 z281 st281 hQ281
      subst l281 y281 z281
      obtain ⟨hv281, N281q, e281⟩ := hQ281
      rw [show own_pk (0 : Int32) w21 w36 w49 = w21 from rfl] at hv281
      subst hv281
      have N281 := Fr.app N278 N281q
      have pre281 : Go p.tables e below (s₁.setTop (entryFrame m #[(.long y0), (.long y1), (.long y2), (.int y3)] maxLocals)) T281 (mkF m 166 #[.val (.long y0), .second, .val (.long y1), .second, .val (.long y2), .second, .val (.int y3), .val (.long w1), .second, .val (.long w2), .second, .val (.long w3), .second, .val (.ref b5), .val (.long w21), .second, .val (.long w36), .second, .val (.long w49), .second, .val (.ref b60), .val (.int (1 : Int32)), .val (.int (0 : Int32)), .val (.int (1 : Int32)), .unset] [(.long w21), (.ref b60)]) := fun t k => pre280 t (st281 _ k)
      obtain ⟨cq282, kq282, q282a, q282b, q282c⟩ := isOf hZ e281 fo263_3
      obtain ⟨_, _, ⟨T282, L282, k282, n282⟩, -, X282, ⟨Lc282, hQ282, l282, y282, z282⟩, st282⟩ := X281.virtualBack hx (y := (⟨"com/example/zhangtiao/zhangtiao/input/VarLongs$Cursor", "moveTo", "(J)V"⟩ : MethodName)) (z := (⟨"com/example/zhangtiao/zhangtiao/input/VarLongs$Cursor", "moveTo", "(J)V"⟩ : MethodName)) hown (mvT hZ (hw _ (List.mem_of_getElem? (i := 115) rfl))) (mvT hZ (hw _ (List.mem_of_getElem? (i := 116) rfl))) (notFace_of_selects (args := #[]) (mvT hZ (hw _ (List.mem_of_getElem? (i := 118) rfl)))) (mvT hZ (hw _ (List.mem_of_getElem? (i := 118) rfl))) (mvT hZ (hw _ (List.mem_of_getElem? (i := 117) rfl))) (by decide) (backOf (W := 0) (rm_mvt l Z av0 hw [] b60 w21 (.ref b5) (0 : Int32) ta263 [] T263.heap n0 f264 fo263_0 fo263_1 fo263_2 fo263_3 gb5_3 (hw21.trans own_p0) (by decide)) hZ (hw _ (List.mem_of_getElem? (i := 119) rfl)) (hw _ (List.mem_of_getElem? (i := 99) rfl)) (by decide) (by decide)) q282a q282c (g := (mkF m 166 #[.val (.long y0), .second, .val (.long y1), .second, .val (.long y2), .second, .val (.int y3), .val (.long w1), .second, .val (.long w2), .second, .val (.long w3), .second, .val (.ref b5), .val (.long w21), .second, .val (.long w36), .second, .val (.long w49), .second, .val (.ref b60), .val (.int (1 : Int32)), .val (.int (0 : Int32)), .val (.int (1 : Int32)), .unset] [(.long w21), (.ref b60)])) rfl (by rw [hml]; rfl) (Steps.refl _) (argsL := [(.long w21)]) (rest := []) (lenOf pd_10 rfl) rfl (by show 2 * 0 + _ ≤ _; exact Nat.le_of_eq rfl) (hb hby at_166) (fun _ _ => ⟨rfl, e281, (by decide : 5 + 0 ≤ _), (by decide : 65555 + 0 ≤ _)⟩)
      dsimp only [Pt.U, Pt.locs, Pt.cells, Pt.slots] at X282 l282 y282 z282 st282 hQ282
      subst l282 y282 z282
      obtain ⟨hv282, N282q, K282, fo282_0, fo282_1, fo282_2, fo282_3⟩ := hQ282
      have f283 : n0 ≤ T282.heap.size := Nat.le_trans f264 K282.1
      have f284 : Old Z n0 T282.heap := f265.keep K282 (allS gb5_3 all0)
      have f285 : Exa Z T282.heap b23 "[B" := f266.keep K282
      have f286 : Exa Z T282.heap al13 "java/util/ArrayList" := f267.keep K282
      have f287 : Fld Z T282.heap al13 "java/util/ArrayList" "elementData" "[Ljava/lang/Object;" (.ref ea23) := f268.keep K282 (ninS nb5_2 nin0)
      have f288 : Fld Z T282.heap al13 "java/util/ArrayList" "size" "I" (.int ((0 : Int32) + (1 : Int32))) := f269.keep K282 (ninS nb5_2 nin0)
      have f289 : Arv Z T282.heap ea23 ke23 (.object "java/lang/Object") (10 : Int32) [(.ref b23), .null, .null, .null, .null, .null, .null, .null, .null, .null] .null := f270.keep K282 (ninS nb5_9.symm nin0)
      have f290 : Exa Z T282.heap b5 "com/example/zhangtiao/zhangtiao/input/VarLongs" := f271.keep K282
      have f291 : Fld Z T282.heap b5 "com/example/zhangtiao/zhangtiao/input/VarLongs" "last" "[B" (.ref b23) := f272.keep K282 (ninS nb5_7 nin0)
      have f292 : Fld Z T282.heap b5 "com/example/zhangtiao/zhangtiao/input/VarLongs" "position" "I" (.int (own_n ((([] ++ own_enc 8 w1) ++ own_enc 8 w2) ++ own_enc 8 w3))) := f273.keep K282 (ninS nb5_7 nin0)
      have f293 : Fld Z T282.heap b5 "com/example/zhangtiao/zhangtiao/input/VarLongs" "chunks" "Ljava/util/List;" (.ref al13) := f274.keep K282 (ninS nb5_7 nin0)
      have f294 : Arv Z T282.heap b23 kc23 .byte (65536 : Int32) (([] ++ own_enc 8 w1) ++ (own_enc 8 w2 ++ (own_enc 8 w3))) (.int (0 : Int32)) := f276.keep K282 (ninS nb5_5 nin0)
      have f295 : Exa Z T282.heap b60 "com/example/zhangtiao/zhangtiao/input/VarLongs$Cursor" := fo263_3.keep K282
      subst hv282
      have N282 := Fr.app N281 N282q
      have pre282 : Go p.tables e below (s₁.setTop (entryFrame m #[(.long y0), (.long y1), (.long y2), (.int y3)] maxLocals)) T282 (mkF m 169 #[.val (.long y0), .second, .val (.long y1), .second, .val (.long y2), .second, .val (.int y3), .val (.long w1), .second, .val (.long w2), .second, .val (.long w3), .second, .val (.ref b5), .val (.long w21), .second, .val (.long w36), .second, .val (.long w49), .second, .val (.ref b60), .val (.int (1 : Int32)), .val (.int (0 : Int32)), .val (.int (1 : Int32)), .unset] []) := fun t k => pre281 t (st282.trans k)
      have pre296 : Go p.tables e below (s₁.setTop (entryFrame m #[(.long y0), (.long y1), (.long y2), (.int y3)] maxLocals)) T282 (mkF m 171 #[.val (.long y0), .second, .val (.long y1), .second, .val (.long y2), .second, .val (.int y3), .val (.long w1), .second, .val (.long w2), .second, .val (.long w3), .second, .val (.ref b5), .val (.long w21), .second, .val (.long w36), .second, .val (.long w49), .second, .val (.ref b60), .val (.int (1 : Int32)), .val (.int (0 : Int32)), .val (.int (1 : Int32)), .unset] [(.ref b60)]) := fun t k => pre282 t (by
          refine XS.aload X282.here hx rfl (hb hby at_169) rfl rfl ?_
          exact k)
      have fn298 := f294
      rw [← own_l1 (own_enc 8 w1) (own_enc 8 w2) (own_enc 8 w3)] at fn298
      have fn297 := fn298
      rw [own_l0 (own_enc 8 w1) (own_enc 8 w2) (own_enc 8 w3)] at fn297
      obtain ⟨cq299, kq299, q299a, q299b, q299c⟩ := isOf hZ rfl fo282_3
      obtain ⟨_, _, ⟨T299, L299, k299, n299⟩, -, X299, ⟨Lc299, hQ299, l299, y299, z299⟩, st299⟩ := X282.virtualBack hx (y := (⟨"com/example/zhangtiao/zhangtiao/input/VarLongs$Cursor", "next", "()J"⟩ : MethodName)) (z := (⟨"com/example/zhangtiao/zhangtiao/input/VarLongs$Cursor", "next", "()J"⟩ : MethodName)) hown (mvT hZ (hw _ (List.mem_of_getElem? (i := 125) rfl))) (mvT hZ (hw _ (List.mem_of_getElem? (i := 126) rfl))) (notFace_of_selects (args := #[]) (mvT hZ (hw _ (List.mem_of_getElem? (i := 128) rfl)))) (mvT hZ (hw _ (List.mem_of_getElem? (i := 128) rfl))) (mvT hZ (hw _ (List.mem_of_getElem? (i := 127) rfl))) (by decide) (backOf (W := 0) (rm_nxt l Z av0 hw [] b60 (.ref b5) b5 al13 ea23 ke23 b23 kc23 [] w1 (own_enc 8 w2 ++ own_enc 8 w3) T282.heap n0 f283 fo282_0 fo282_1 fo282_2 fo282_3 f293 f286 f288 f287 f289 f285 fn297 gb5_3 nb5_5.symm nb5_7.symm nb5_2.symm nb5_9 rfl hq_w1 (by decide)) hZ (hw _ (List.mem_of_getElem? (i := 129) rfl)) (hw _ (List.mem_of_getElem? (i := 99) rfl)) (by decide) (by decide)) q299a q299c (g := (mkF m 171 #[.val (.long y0), .second, .val (.long y1), .second, .val (.long y2), .second, .val (.int y3), .val (.long w1), .second, .val (.long w2), .second, .val (.long w3), .second, .val (.ref b5), .val (.long w21), .second, .val (.long w36), .second, .val (.long w49), .second, .val (.ref b60), .val (.int (1 : Int32)), .val (.int (0 : Int32)), .val (.int (1 : Int32)), .unset] [(.ref b60)])) rfl (by rw [hml]; rfl) (Steps.refl _) (argsL := []) (rest := []) (lenOf pd_9 rfl) rfl (by show 2 * 0 + _ ≤ _; exact Nat.le_of_eq rfl) (hb hby at_171) (fun _ _ => ⟨rfl, rfl, (by decide : 5 + 0 ≤ _), (by decide : 65555 + 0 ≤ _)⟩)
      dsimp only [Pt.U, Pt.locs, Pt.cells, Pt.slots] at X299 l299 y299 z299 st299 hQ299
      subst l299 y299 z299
      obtain ⟨ta299, hv299, N299q, K299, fo299_0, fo299_1, fo299_2, fo299_3⟩ := hQ299
      have f300 : n0 ≤ T299.heap.size := Nat.le_trans f283 K299.1
      have f301 : Old Z n0 T299.heap := f284.keep K299 (allS gb5_3 all0)
      have f302 : Exa Z T299.heap b23 "[B" := f285.keep K299
      have f303 : Exa Z T299.heap al13 "java/util/ArrayList" := f286.keep K299
      have f304 : Fld Z T299.heap al13 "java/util/ArrayList" "elementData" "[Ljava/lang/Object;" (.ref ea23) := f287.keep K299 (ninS nb5_2 nin0)
      have f305 : Fld Z T299.heap al13 "java/util/ArrayList" "size" "I" (.int ((0 : Int32) + (1 : Int32))) := f288.keep K299 (ninS nb5_2 nin0)
      have f306 : Arv Z T299.heap ea23 ke23 (.object "java/lang/Object") (10 : Int32) [(.ref b23), .null, .null, .null, .null, .null, .null, .null, .null, .null] .null := f289.keep K299 (ninS nb5_9.symm nin0)
      have f307 : Exa Z T299.heap b5 "com/example/zhangtiao/zhangtiao/input/VarLongs" := f290.keep K299
      have f308 : Fld Z T299.heap b5 "com/example/zhangtiao/zhangtiao/input/VarLongs" "last" "[B" (.ref b23) := f291.keep K299 (ninS nb5_7 nin0)
      have f309 : Fld Z T299.heap b5 "com/example/zhangtiao/zhangtiao/input/VarLongs" "position" "I" (.int (own_n ((([] ++ own_enc 8 w1) ++ own_enc 8 w2) ++ own_enc 8 w3))) := f292.keep K299 (ninS nb5_7 nin0)
      have f310 : Fld Z T299.heap b5 "com/example/zhangtiao/zhangtiao/input/VarLongs" "chunks" "Ljava/util/List;" (.ref al13) := f293.keep K299 (ninS nb5_7 nin0)
      have f311 : Exa Z T299.heap b60 "com/example/zhangtiao/zhangtiao/input/VarLongs$Cursor" := fo282_3.keep K299
      have f312 : Arv Z T299.heap b23 kc23 .byte (65536 : Int32) ([] ++ (own_enc 8 w1 ++ (own_enc 8 w2 ++ own_enc 8 w3))) (.int (0 : Int32)) := fn297.keep K299 (ninS nb5_5 nin0)
      subst hv299
      have N299 := Fr.app N282 N299q
      have pre299 : Go p.tables e below (s₁.setTop (entryFrame m #[(.long y0), (.long y1), (.long y2), (.int y3)] maxLocals)) T299 (mkF m 174 #[.val (.long y0), .second, .val (.long y1), .second, .val (.long y2), .second, .val (.int y3), .val (.long w1), .second, .val (.long w2), .second, .val (.long w3), .second, .val (.ref b5), .val (.long w21), .second, .val (.long w36), .second, .val (.long w49), .second, .val (.ref b60), .val (.int (1 : Int32)), .val (.int (0 : Int32)), .val (.int (1 : Int32)), .unset] [(.long w1)]) := fun t k => pre296 t (st299.trans k)
      have pre313 : Go p.tables e below (s₁.setTop (entryFrame m #[(.long y0), (.long y1), (.long y2), (.int y3)] maxLocals)) T299 (mkF m 182 #[.val (.long y0), .second, .val (.long y1), .second, .val (.long y2), .second, .val (.int y3), .val (.long w1), .second, .val (.long w2), .second, .val (.long w3), .second, .val (.ref b5), .val (.long w21), .second, .val (.long w36), .second, .val (.long w49), .second, .val (.ref b60), .val (.int (1 : Int32)), .val (.int (0 : Int32)), .val (.int (1 : Int32)), .unset] [(.long w3), (.long w2), (.long w1), (.int (0 : Int32)), (.long w1)]) := fun t k => pre299 t (by
          refine XS.iload X299.here hx rfl (hb hby at_174) rfl ?_
          show Steps p.tables e below (T299.setTop (mkF m 176 #[.val (.long y0), .second, .val (.long y1), .second, .val (.long y2), .second, .val (.int y3), .val (.long w1), .second, .val (.long w2), .second, .val (.long w3), .second, .val (.ref b5), .val (.long w21), .second, .val (.long w36), .second, .val (.long w49), .second, .val (.ref b60), .val (.int (1 : Int32)), .val (.int (0 : Int32)), .val (.int (1 : Int32)), .unset] [(.int (0 : Int32)), (.long w1)])) _
          refine XS.lload X299.here hx rfl (hb hby at_176) rfl ?_
          show Steps p.tables e below (T299.setTop (mkF m 178 #[.val (.long y0), .second, .val (.long y1), .second, .val (.long y2), .second, .val (.int y3), .val (.long w1), .second, .val (.long w2), .second, .val (.long w3), .second, .val (.ref b5), .val (.long w21), .second, .val (.long w36), .second, .val (.long w49), .second, .val (.ref b60), .val (.int (1 : Int32)), .val (.int (0 : Int32)), .val (.int (1 : Int32)), .unset] [(.long w1), (.int (0 : Int32)), (.long w1)])) _
          refine XS.lload X299.here hx rfl (hb hby at_178) rfl ?_
          show Steps p.tables e below (T299.setTop (mkF m 180 #[.val (.long y0), .second, .val (.long y1), .second, .val (.long y2), .second, .val (.int y3), .val (.long w1), .second, .val (.long w2), .second, .val (.long w3), .second, .val (.ref b5), .val (.long w21), .second, .val (.long w36), .second, .val (.long w49), .second, .val (.ref b60), .val (.int (1 : Int32)), .val (.int (0 : Int32)), .val (.int (1 : Int32)), .unset] [(.long w2), (.long w1), (.int (0 : Int32)), (.long w1)])) _
          refine XS.lload X299.here hx rfl (hb hby at_180) rfl ?_
          exact k)
      obtain ⟨_, _, ⟨T314, L314, k314, n314⟩, -, X314, ⟨Lc314, hQ314, l314, y314, z314⟩, st314⟩ := Jvm.LawKit.callS X299 hx (y := (⟨"com/example/zhangtiao/zhangtiao/input/VarLongsMoveToPinLaw", "pick", "(IJJJ)J"⟩ : MethodName)) hown (mvT hZ (hw _ (List.mem_of_getElem? (i := 111) rfl))) (mvT hZ (hw _ (List.mem_of_getElem? (i := 112) rfl))) (mvT hZ (hw _ (List.mem_of_getElem? (i := 113) rfl))) (mvT hZ (hw _ (List.mem_of_getElem? (i := 114) rfl))) (by decide) (backOf (W := 2) (rm_pk l Z av0 hw [] (0 : Int32) w1 w2 w3 T299.heap n0) hZ (hw _ (List.mem_of_getElem? (i := 114) rfl)) (hw _ (List.mem_of_getElem? (i := 113) rfl)) (by decide) (by decide)) (g := (mkF m 182 #[.val (.long y0), .second, .val (.long y1), .second, .val (.long y2), .second, .val (.int y3), .val (.long w1), .second, .val (.long w2), .second, .val (.long w3), .second, .val (.ref b5), .val (.long w21), .second, .val (.long w36), .second, .val (.long w49), .second, .val (.ref b60), .val (.int (1 : Int32)), .val (.int (0 : Int32)), .val (.int (1 : Int32)), .unset] [(.long w3), (.long w2), (.long w1), (.int (0 : Int32)), (.long w1)])) rfl (by rw [hml]; rfl) (argsL := [(.int (0 : Int32)), (.long w1), (.long w2), (.long w3)]) (rest := [(.long w1)]) (lenOf pd_13 rfl) rfl (by show 2 * 0 + _ ≤ _; exact Nat.le_of_eq rfl) (hb hby at_182) (fun _ _ => ⟨rfl, rfl, (by decide : 5 + 0 ≤ _), (by decide : 65555 + 0 ≤ _)⟩)
      dsimp only [Pt.U, Pt.locs, Pt.cells, Pt.slots] at X314 l314 y314 z314 st314 hQ314
      subst l314 y314 z314
      obtain ⟨hv314, N314q, e314⟩ := hQ314
      rw [show own_pk (0 : Int32) w1 w2 w3 = w1 from rfl] at hv314
      subst hv314
      have N314 := Fr.app N299 N314q
      have pre314 : Go p.tables e below (s₁.setTop (entryFrame m #[(.long y0), (.long y1), (.long y2), (.int y3)] maxLocals)) T314 (mkF m 185 #[.val (.long y0), .second, .val (.long y1), .second, .val (.long y2), .second, .val (.int y3), .val (.long w1), .second, .val (.long w2), .second, .val (.long w3), .second, .val (.ref b5), .val (.long w21), .second, .val (.long w36), .second, .val (.long w49), .second, .val (.ref b60), .val (.int (1 : Int32)), .val (.int (0 : Int32)), .val (.int (1 : Int32)), .unset] [(.long w1), (.long w1)]) := fun t k => pre313 t (st314 _ k)
      have pre315 : Go p.tables e below (s₁.setTop (entryFrame m #[(.long y0), (.long y1), (.long y2), (.int y3)] maxLocals)) T314 (mkF m 211 #[.val (.long y0), .second, .val (.long y1), .second, .val (.long y2), .second, .val (.int y3), .val (.long w1), .second, .val (.long w2), .second, .val (.long w3), .second, .val (.ref b5), .val (.long w21), .second, .val (.long w36), .second, .val (.long w49), .second, .val (.ref b60), .val (.int (1 : Int32)), .val (.int (0 : Int32)), .val (.int (1 : Int32)), .val (.int (1 : Int32))] [(.int (1 : Int32))]) := fun t k => pre314 t (by
          refine XS.lcmp X314.here hx rfl (hb hby at_185) rfl ?_
          show Steps p.tables e below (T314.setTop (mkF m 186 #[.val (.long y0), .second, .val (.long y1), .second, .val (.long y2), .second, .val (.int y3), .val (.long w1), .second, .val (.long w2), .second, .val (.long w3), .second, .val (.ref b5), .val (.long w21), .second, .val (.long w36), .second, .val (.long w49), .second, .val (.ref b60), .val (.int (1 : Int32)), .val (.int (0 : Int32)), .val (.int (1 : Int32)), .unset] [(.int (lcmpW w1 w1))])) _
          refine XS.ifNo X314.here hx rfl (hb hby at_186) rfl ((if0 _ _).trans (teq ((lw_eq _ _).mpr rfl)).2) ?_
          show Steps p.tables e below (T314.setTop (mkF m 189 #[.val (.long y0), .second, .val (.long y1), .second, .val (.long y2), .second, .val (.int y3), .val (.long w1), .second, .val (.long w2), .second, .val (.long w3), .second, .val (.ref b5), .val (.long w21), .second, .val (.long w36), .second, .val (.long w49), .second, .val (.ref b60), .val (.int (1 : Int32)), .val (.int (0 : Int32)), .val (.int (1 : Int32)), .unset] [])) _
          refine XS.iconst X314.here hx rfl (hb hby at_189) ?_
          show Steps p.tables e below (T314.setTop (mkF m 190 #[.val (.long y0), .second, .val (.long y1), .second, .val (.long y2), .second, .val (.int y3), .val (.long w1), .second, .val (.long w2), .second, .val (.long w3), .second, .val (.ref b5), .val (.long w21), .second, .val (.long w36), .second, .val (.long w49), .second, .val (.ref b60), .val (.int (1 : Int32)), .val (.int (0 : Int32)), .val (.int (1 : Int32)), .unset] [(.int (1 : Int32))])) _
          refine XS.goto X314.here hx rfl (pc0 := 190) (pc' := 194) rfl (hb hby at_190) (by decide) (by decide) ?_
          show Steps p.tables e below (T314.setTop (mkF m 194 #[.val (.long y0), .second, .val (.long y1), .second, .val (.long y2), .second, .val (.int y3), .val (.long w1), .second, .val (.long w2), .second, .val (.long w3), .second, .val (.ref b5), .val (.long w21), .second, .val (.long w36), .second, .val (.long w49), .second, .val (.ref b60), .val (.int (1 : Int32)), .val (.int (0 : Int32)), .val (.int (1 : Int32)), .unset] [(.int (1 : Int32))])) _
          refine XS.istore X314.here hx rfl (hb hby at_194) rfl (l' := #[.val (.long y0), .second, .val (.long y1), .second, .val (.long y2), .second, .val (.int y3), .val (.long w1), .second, .val (.long w2), .second, .val (.long w3), .second, .val (.ref b5), .val (.long w21), .second, .val (.long w36), .second, .val (.long w49), .second, .val (.ref b60), .val (.int (1 : Int32)), .val (.int (0 : Int32)), .val (.int (1 : Int32)), .val (.int (1 : Int32))]) rfl ?_
          show Steps p.tables e below (T314.setTop (mkF m 196 #[.val (.long y0), .second, .val (.long y1), .second, .val (.long y2), .second, .val (.int y3), .val (.long w1), .second, .val (.long w2), .second, .val (.long w3), .second, .val (.ref b5), .val (.long w21), .second, .val (.long w36), .second, .val (.long w49), .second, .val (.ref b60), .val (.int (1 : Int32)), .val (.int (0 : Int32)), .val (.int (1 : Int32)), .val (.int (1 : Int32))] [])) _
          refine XS.iload X314.here hx rfl (hb hby at_196) rfl ?_
          show Steps p.tables e below (T314.setTop (mkF m 198 #[.val (.long y0), .second, .val (.long y1), .second, .val (.long y2), .second, .val (.int y3), .val (.long w1), .second, .val (.long w2), .second, .val (.long w3), .second, .val (.ref b5), .val (.long w21), .second, .val (.long w36), .second, .val (.long w49), .second, .val (.ref b60), .val (.int (1 : Int32)), .val (.int (0 : Int32)), .val (.int (1 : Int32)), .val (.int (1 : Int32))] [(.int (1 : Int32))])) _
          refine XS.ifNo X314.here hx rfl (hb hby at_198) rfl ((if0 _ _).trans (feq (by decide)).1) ?_
          show Steps p.tables e below (T314.setTop (mkF m 201 #[.val (.long y0), .second, .val (.long y1), .second, .val (.long y2), .second, .val (.int y3), .val (.long w1), .second, .val (.long w2), .second, .val (.long w3), .second, .val (.ref b5), .val (.long w21), .second, .val (.long w36), .second, .val (.long w49), .second, .val (.ref b60), .val (.int (1 : Int32)), .val (.int (0 : Int32)), .val (.int (1 : Int32)), .val (.int (1 : Int32))] [])) _
          refine XS.iload X314.here hx rfl (hb hby at_201) rfl ?_
          show Steps p.tables e below (T314.setTop (mkF m 203 #[.val (.long y0), .second, .val (.long y1), .second, .val (.long y2), .second, .val (.int y3), .val (.long w1), .second, .val (.long w2), .second, .val (.long w3), .second, .val (.ref b5), .val (.long w21), .second, .val (.long w36), .second, .val (.long w49), .second, .val (.ref b60), .val (.int (1 : Int32)), .val (.int (0 : Int32)), .val (.int (1 : Int32)), .val (.int (1 : Int32))] [(.int (1 : Int32))])) _
          refine XS.ifNo X314.here hx rfl (hb hby at_203) rfl ((if0 _ _).trans (feq (by decide)).1) ?_
          show Steps p.tables e below (T314.setTop (mkF m 206 #[.val (.long y0), .second, .val (.long y1), .second, .val (.long y2), .second, .val (.int y3), .val (.long w1), .second, .val (.long w2), .second, .val (.long w3), .second, .val (.ref b5), .val (.long w21), .second, .val (.long w36), .second, .val (.long w49), .second, .val (.ref b60), .val (.int (1 : Int32)), .val (.int (0 : Int32)), .val (.int (1 : Int32)), .val (.int (1 : Int32))] [])) _
          refine XS.iconst X314.here hx rfl (hb hby at_206) ?_
          show Steps p.tables e below (T314.setTop (mkF m 207 #[.val (.long y0), .second, .val (.long y1), .second, .val (.long y2), .second, .val (.int y3), .val (.long w1), .second, .val (.long w2), .second, .val (.long w3), .second, .val (.ref b5), .val (.long w21), .second, .val (.long w36), .second, .val (.long w49), .second, .val (.ref b60), .val (.int (1 : Int32)), .val (.int (0 : Int32)), .val (.int (1 : Int32)), .val (.int (1 : Int32))] [(.int (1 : Int32))])) _
          refine XS.goto X314.here hx rfl (pc0 := 207) (pc' := 211) rfl (hb hby at_207) (by decide) (by decide) ?_
          exact k)
      obtain ⟨fs, hr, hrun, hended, hW, hsame⟩ := X314.leave (v := some (.int (1 : Int32))) (fun h => by rw [Bd.returns] at h; cases h) (BodyLoose.notSynchronized Bd)
      refine ⟨_, _, pre315 _ ?_, hrun, hended, _, _, rfl, ?_, ⟨_, rfl⟩, hW, hsame.mono (Nat.le_of_ble_eq_true rfl) (Nat.le_of_ble_eq_true rfl)⟩
      · exact retN X314 hx (t := .boolean) Bd.returns (by simp) (hb hby at_211) hr
      · show Q_law Z y0 y1 y2 y3 ad kd h0 n0 _ T314.heap _
        rw [e314]
        exact ⟨rfl, N314⟩
    · -- w99 = (1 : Int32)
      have pre316 : Go p.tables e below (s₁.setTop (entryFrame m #[(.long y0), (.long y1), (.long y2), (.int y3)] maxLocals)) T278 (mkF m 163 #[.val (.long y0), .second, .val (.long y1), .second, .val (.long y2), .second, .val (.int y3), .val (.long w1), .second, .val (.long w2), .second, .val (.long w3), .second, .val (.ref b5), .val (.long w21), .second, .val (.long w36), .second, .val (.long w49), .second, .val (.ref b60), .val (.int (1 : Int32)), .val (.int (1 : Int32)), .val (.int (1 : Int32)), .unset] [(.long w49), (.long w36), (.long w21), (.int (1 : Int32)), (.ref b60)]) := fun t k => pre279 t (by
          refine XS.aload X278.here hx rfl (hb hby at_153) rfl rfl ?_
          show Steps p.tables e below (T278.setTop (mkF m 155 #[.val (.long y0), .second, .val (.long y1), .second, .val (.long y2), .second, .val (.int y3), .val (.long w1), .second, .val (.long w2), .second, .val (.long w3), .second, .val (.ref b5), .val (.long w21), .second, .val (.long w36), .second, .val (.long w49), .second, .val (.ref b60), .val (.int (1 : Int32)), .val (.int (1 : Int32)), .val (.int (1 : Int32)), .unset] [(.ref b60)])) _
          refine XS.iload X278.here hx rfl (hb hby at_155) rfl ?_
          show Steps p.tables e below (T278.setTop (mkF m 157 #[.val (.long y0), .second, .val (.long y1), .second, .val (.long y2), .second, .val (.int y3), .val (.long w1), .second, .val (.long w2), .second, .val (.long w3), .second, .val (.ref b5), .val (.long w21), .second, .val (.long w36), .second, .val (.long w49), .second, .val (.ref b60), .val (.int (1 : Int32)), .val (.int (1 : Int32)), .val (.int (1 : Int32)), .unset] [(.int (1 : Int32)), (.ref b60)])) _
          refine XS.lload X278.here hx rfl (hb hby at_157) rfl ?_
          show Steps p.tables e below (T278.setTop (mkF m 159 #[.val (.long y0), .second, .val (.long y1), .second, .val (.long y2), .second, .val (.int y3), .val (.long w1), .second, .val (.long w2), .second, .val (.long w3), .second, .val (.ref b5), .val (.long w21), .second, .val (.long w36), .second, .val (.long w49), .second, .val (.ref b60), .val (.int (1 : Int32)), .val (.int (1 : Int32)), .val (.int (1 : Int32)), .unset] [(.long w21), (.int (1 : Int32)), (.ref b60)])) _
          refine XS.lload X278.here hx rfl (hb hby at_159) rfl ?_
          show Steps p.tables e below (T278.setTop (mkF m 161 #[.val (.long y0), .second, .val (.long y1), .second, .val (.long y2), .second, .val (.int y3), .val (.long w1), .second, .val (.long w2), .second, .val (.long w3), .second, .val (.ref b5), .val (.long w21), .second, .val (.long w36), .second, .val (.long w49), .second, .val (.ref b60), .val (.int (1 : Int32)), .val (.int (1 : Int32)), .val (.int (1 : Int32)), .unset] [(.long w36), (.long w21), (.int (1 : Int32)), (.ref b60)])) _
          refine XS.lload X278.here hx rfl (hb hby at_161) rfl ?_
          exact k)
      obtain ⟨_, _, ⟨T317, L317, k317, n317⟩, -, X317, ⟨Lc317, hQ317, l317, y317, z317⟩, st317⟩ := Jvm.LawKit.callS X278 hx (y := (⟨"com/example/zhangtiao/zhangtiao/input/VarLongsMoveToPinLaw", "pick", "(IJJJ)J"⟩ : MethodName)) hown (mvT hZ (hw _ (List.mem_of_getElem? (i := 111) rfl))) (mvT hZ (hw _ (List.mem_of_getElem? (i := 112) rfl))) (mvT hZ (hw _ (List.mem_of_getElem? (i := 113) rfl))) (mvT hZ (hw _ (List.mem_of_getElem? (i := 114) rfl))) (by decide) (backOf (W := 1) (rm_pk l Z av0 hw [] (1 : Int32) w21 w36 w49 T263.heap n0) hZ (hw _ (List.mem_of_getElem? (i := 114) rfl)) (hw _ (List.mem_of_getElem? (i := 113) rfl)) (by decide) (by decide)) (g := (mkF m 163 #[.val (.long y0), .second, .val (.long y1), .second, .val (.long y2), .second, .val (.int y3), .val (.long w1), .second, .val (.long w2), .second, .val (.long w3), .second, .val (.ref b5), .val (.long w21), .second, .val (.long w36), .second, .val (.long w49), .second, .val (.ref b60), .val (.int (1 : Int32)), .val (.int (1 : Int32)), .val (.int (1 : Int32)), .unset] [(.long w49), (.long w36), (.long w21), (.int (1 : Int32)), (.ref b60)])) rfl (by rw [hml]; rfl) (argsL := [(.int (1 : Int32)), (.long w21), (.long w36), (.long w49)]) (rest := [(.ref b60)]) (lenOf pd_13 rfl) rfl (by show 2 * 0 + _ ≤ _; exact Nat.le_of_eq rfl) (hb hby at_163) (fun _ _ => ⟨rfl, e278, (by decide : 5 + 0 ≤ _), (by decide : 65555 + 0 ≤ _)⟩)
      dsimp only [Pt.U, Pt.locs, Pt.cells, Pt.slots] at X317 l317 y317 z317 st317 hQ317
      subst l317 y317 z317
      obtain ⟨hv317, N317q, e317⟩ := hQ317
      rw [show own_pk (1 : Int32) w21 w36 w49 = w36 from rfl] at hv317
      subst hv317
      have N317 := Fr.app N278 N317q
      have pre317 : Go p.tables e below (s₁.setTop (entryFrame m #[(.long y0), (.long y1), (.long y2), (.int y3)] maxLocals)) T317 (mkF m 166 #[.val (.long y0), .second, .val (.long y1), .second, .val (.long y2), .second, .val (.int y3), .val (.long w1), .second, .val (.long w2), .second, .val (.long w3), .second, .val (.ref b5), .val (.long w21), .second, .val (.long w36), .second, .val (.long w49), .second, .val (.ref b60), .val (.int (1 : Int32)), .val (.int (1 : Int32)), .val (.int (1 : Int32)), .unset] [(.long w36), (.ref b60)]) := fun t k => pre316 t (st317 _ k)
      obtain ⟨cq318, kq318, q318a, q318b, q318c⟩ := isOf hZ e317 fo263_3
      obtain ⟨_, _, ⟨T318, L318, k318, n318⟩, -, X318, ⟨Lc318, hQ318, l318, y318, z318⟩, st318⟩ := X317.virtualBack hx (y := (⟨"com/example/zhangtiao/zhangtiao/input/VarLongs$Cursor", "moveTo", "(J)V"⟩ : MethodName)) (z := (⟨"com/example/zhangtiao/zhangtiao/input/VarLongs$Cursor", "moveTo", "(J)V"⟩ : MethodName)) hown (mvT hZ (hw _ (List.mem_of_getElem? (i := 115) rfl))) (mvT hZ (hw _ (List.mem_of_getElem? (i := 116) rfl))) (notFace_of_selects (args := #[]) (mvT hZ (hw _ (List.mem_of_getElem? (i := 118) rfl)))) (mvT hZ (hw _ (List.mem_of_getElem? (i := 118) rfl))) (mvT hZ (hw _ (List.mem_of_getElem? (i := 117) rfl))) (by decide) (backOf (W := 0) (rm_mvt l Z av0 hw [] b60 w36 (.ref b5) (0 : Int32) ta263 ([] ++ own_enc 8 w1) T263.heap n0 f264 fo263_0 fo263_1 fo263_2 fo263_3 gb5_3 (hw36.trans (own_pos1' _)) (Nat.lt_of_le_of_lt hL1 (by decide))) hZ (hw _ (List.mem_of_getElem? (i := 119) rfl)) (hw _ (List.mem_of_getElem? (i := 99) rfl)) (by decide) (by decide)) q318a q318c (g := (mkF m 166 #[.val (.long y0), .second, .val (.long y1), .second, .val (.long y2), .second, .val (.int y3), .val (.long w1), .second, .val (.long w2), .second, .val (.long w3), .second, .val (.ref b5), .val (.long w21), .second, .val (.long w36), .second, .val (.long w49), .second, .val (.ref b60), .val (.int (1 : Int32)), .val (.int (1 : Int32)), .val (.int (1 : Int32)), .unset] [(.long w36), (.ref b60)])) rfl (by rw [hml]; rfl) (Steps.refl _) (argsL := [(.long w36)]) (rest := []) (lenOf pd_10 rfl) rfl (by show 2 * 0 + _ ≤ _; exact Nat.le_of_eq rfl) (hb hby at_166) (fun _ _ => ⟨rfl, e317, (by decide : 5 + 0 ≤ _), (by decide : 65555 + 0 ≤ _)⟩)
      dsimp only [Pt.U, Pt.locs, Pt.cells, Pt.slots] at X318 l318 y318 z318 st318 hQ318
      subst l318 y318 z318
      obtain ⟨hv318, N318q, K318, fo318_0, fo318_1, fo318_2, fo318_3⟩ := hQ318
      have f319 : n0 ≤ T318.heap.size := Nat.le_trans f264 K318.1
      have f320 : Old Z n0 T318.heap := f265.keep K318 (allS gb5_3 all0)
      have f321 : Exa Z T318.heap b23 "[B" := f266.keep K318
      have f322 : Exa Z T318.heap al13 "java/util/ArrayList" := f267.keep K318
      have f323 : Fld Z T318.heap al13 "java/util/ArrayList" "elementData" "[Ljava/lang/Object;" (.ref ea23) := f268.keep K318 (ninS nb5_2 nin0)
      have f324 : Fld Z T318.heap al13 "java/util/ArrayList" "size" "I" (.int ((0 : Int32) + (1 : Int32))) := f269.keep K318 (ninS nb5_2 nin0)
      have f325 : Arv Z T318.heap ea23 ke23 (.object "java/lang/Object") (10 : Int32) [(.ref b23), .null, .null, .null, .null, .null, .null, .null, .null, .null] .null := f270.keep K318 (ninS nb5_9.symm nin0)
      have f326 : Exa Z T318.heap b5 "com/example/zhangtiao/zhangtiao/input/VarLongs" := f271.keep K318
      have f327 : Fld Z T318.heap b5 "com/example/zhangtiao/zhangtiao/input/VarLongs" "last" "[B" (.ref b23) := f272.keep K318 (ninS nb5_7 nin0)
      have f328 : Fld Z T318.heap b5 "com/example/zhangtiao/zhangtiao/input/VarLongs" "position" "I" (.int (own_n ((([] ++ own_enc 8 w1) ++ own_enc 8 w2) ++ own_enc 8 w3))) := f273.keep K318 (ninS nb5_7 nin0)
      have f329 : Fld Z T318.heap b5 "com/example/zhangtiao/zhangtiao/input/VarLongs" "chunks" "Ljava/util/List;" (.ref al13) := f274.keep K318 (ninS nb5_7 nin0)
      have f330 : Arv Z T318.heap b23 kc23 .byte (65536 : Int32) (([] ++ own_enc 8 w1) ++ (own_enc 8 w2 ++ (own_enc 8 w3))) (.int (0 : Int32)) := f276.keep K318 (ninS nb5_5 nin0)
      have f331 : Exa Z T318.heap b60 "com/example/zhangtiao/zhangtiao/input/VarLongs$Cursor" := fo263_3.keep K318
      subst hv318
      have N318 := Fr.app N317 N318q
      have pre318 : Go p.tables e below (s₁.setTop (entryFrame m #[(.long y0), (.long y1), (.long y2), (.int y3)] maxLocals)) T318 (mkF m 169 #[.val (.long y0), .second, .val (.long y1), .second, .val (.long y2), .second, .val (.int y3), .val (.long w1), .second, .val (.long w2), .second, .val (.long w3), .second, .val (.ref b5), .val (.long w21), .second, .val (.long w36), .second, .val (.long w49), .second, .val (.ref b60), .val (.int (1 : Int32)), .val (.int (1 : Int32)), .val (.int (1 : Int32)), .unset] []) := fun t k => pre317 t (st318.trans k)
      have pre332 : Go p.tables e below (s₁.setTop (entryFrame m #[(.long y0), (.long y1), (.long y2), (.int y3)] maxLocals)) T318 (mkF m 171 #[.val (.long y0), .second, .val (.long y1), .second, .val (.long y2), .second, .val (.int y3), .val (.long w1), .second, .val (.long w2), .second, .val (.long w3), .second, .val (.ref b5), .val (.long w21), .second, .val (.long w36), .second, .val (.long w49), .second, .val (.ref b60), .val (.int (1 : Int32)), .val (.int (1 : Int32)), .val (.int (1 : Int32)), .unset] [(.ref b60)]) := fun t k => pre318 t (by
          refine XS.aload X318.here hx rfl (hb hby at_169) rfl rfl ?_
          exact k)
      have fn334 := f330
      rw [← own_l1 (own_enc 8 w1) (own_enc 8 w2) (own_enc 8 w3)] at fn334
      have fn333 := fn334
      rw [own_l1 (own_enc 8 w1) (own_enc 8 w2) (own_enc 8 w3)] at fn333
      obtain ⟨cq335, kq335, q335a, q335b, q335c⟩ := isOf hZ rfl fo318_3
      obtain ⟨_, _, ⟨T335, L335, k335, n335⟩, -, X335, ⟨Lc335, hQ335, l335, y335, z335⟩, st335⟩ := X318.virtualBack hx (y := (⟨"com/example/zhangtiao/zhangtiao/input/VarLongs$Cursor", "next", "()J"⟩ : MethodName)) (z := (⟨"com/example/zhangtiao/zhangtiao/input/VarLongs$Cursor", "next", "()J"⟩ : MethodName)) hown (mvT hZ (hw _ (List.mem_of_getElem? (i := 125) rfl))) (mvT hZ (hw _ (List.mem_of_getElem? (i := 126) rfl))) (notFace_of_selects (args := #[]) (mvT hZ (hw _ (List.mem_of_getElem? (i := 128) rfl)))) (mvT hZ (hw _ (List.mem_of_getElem? (i := 128) rfl))) (mvT hZ (hw _ (List.mem_of_getElem? (i := 127) rfl))) (by decide) (backOf (W := 0) (rm_nxt l Z av0 hw [] b60 (.ref b5) b5 al13 ea23 ke23 b23 kc23 ([] ++ own_enc 8 w1) w2 (own_enc 8 w3) T318.heap n0 f319 fo318_0 fo318_1 fo318_2 fo318_3 f329 f322 f324 f323 f325 f321 fn333 gb5_3 nb5_5.symm nb5_7.symm nb5_2.symm nb5_9 rfl hq_w2 (Nat.lt_of_le_of_lt (Nat.add_le_add_right hL1 8) (by decide))) hZ (hw _ (List.mem_of_getElem? (i := 129) rfl)) (hw _ (List.mem_of_getElem? (i := 99) rfl)) (by decide) (by decide)) q335a q335c (g := (mkF m 171 #[.val (.long y0), .second, .val (.long y1), .second, .val (.long y2), .second, .val (.int y3), .val (.long w1), .second, .val (.long w2), .second, .val (.long w3), .second, .val (.ref b5), .val (.long w21), .second, .val (.long w36), .second, .val (.long w49), .second, .val (.ref b60), .val (.int (1 : Int32)), .val (.int (1 : Int32)), .val (.int (1 : Int32)), .unset] [(.ref b60)])) rfl (by rw [hml]; rfl) (Steps.refl _) (argsL := []) (rest := []) (lenOf pd_9 rfl) rfl (by show 2 * 0 + _ ≤ _; exact Nat.le_of_eq rfl) (hb hby at_171) (fun _ _ => ⟨rfl, rfl, (by decide : 5 + 0 ≤ _), (by decide : 65555 + 0 ≤ _)⟩)
      dsimp only [Pt.U, Pt.locs, Pt.cells, Pt.slots] at X335 l335 y335 z335 st335 hQ335
      subst l335 y335 z335
      obtain ⟨ta335, hv335, N335q, K335, fo335_0, fo335_1, fo335_2, fo335_3⟩ := hQ335
      have f336 : n0 ≤ T335.heap.size := Nat.le_trans f319 K335.1
      have f337 : Old Z n0 T335.heap := f320.keep K335 (allS gb5_3 all0)
      have f338 : Exa Z T335.heap b23 "[B" := f321.keep K335
      have f339 : Exa Z T335.heap al13 "java/util/ArrayList" := f322.keep K335
      have f340 : Fld Z T335.heap al13 "java/util/ArrayList" "elementData" "[Ljava/lang/Object;" (.ref ea23) := f323.keep K335 (ninS nb5_2 nin0)
      have f341 : Fld Z T335.heap al13 "java/util/ArrayList" "size" "I" (.int ((0 : Int32) + (1 : Int32))) := f324.keep K335 (ninS nb5_2 nin0)
      have f342 : Arv Z T335.heap ea23 ke23 (.object "java/lang/Object") (10 : Int32) [(.ref b23), .null, .null, .null, .null, .null, .null, .null, .null, .null] .null := f325.keep K335 (ninS nb5_9.symm nin0)
      have f343 : Exa Z T335.heap b5 "com/example/zhangtiao/zhangtiao/input/VarLongs" := f326.keep K335
      have f344 : Fld Z T335.heap b5 "com/example/zhangtiao/zhangtiao/input/VarLongs" "last" "[B" (.ref b23) := f327.keep K335 (ninS nb5_7 nin0)
      have f345 : Fld Z T335.heap b5 "com/example/zhangtiao/zhangtiao/input/VarLongs" "position" "I" (.int (own_n ((([] ++ own_enc 8 w1) ++ own_enc 8 w2) ++ own_enc 8 w3))) := f328.keep K335 (ninS nb5_7 nin0)
      have f346 : Fld Z T335.heap b5 "com/example/zhangtiao/zhangtiao/input/VarLongs" "chunks" "Ljava/util/List;" (.ref al13) := f329.keep K335 (ninS nb5_7 nin0)
      have f347 : Exa Z T335.heap b60 "com/example/zhangtiao/zhangtiao/input/VarLongs$Cursor" := fo318_3.keep K335
      have f348 : Arv Z T335.heap b23 kc23 .byte (65536 : Int32) (([] ++ own_enc 8 w1) ++ (own_enc 8 w2 ++ (own_enc 8 w3))) (.int (0 : Int32)) := fn333.keep K335 (ninS nb5_5 nin0)
      subst hv335
      have N335 := Fr.app N318 N335q
      have pre335 : Go p.tables e below (s₁.setTop (entryFrame m #[(.long y0), (.long y1), (.long y2), (.int y3)] maxLocals)) T335 (mkF m 174 #[.val (.long y0), .second, .val (.long y1), .second, .val (.long y2), .second, .val (.int y3), .val (.long w1), .second, .val (.long w2), .second, .val (.long w3), .second, .val (.ref b5), .val (.long w21), .second, .val (.long w36), .second, .val (.long w49), .second, .val (.ref b60), .val (.int (1 : Int32)), .val (.int (1 : Int32)), .val (.int (1 : Int32)), .unset] [(.long w2)]) := fun t k => pre332 t (st335.trans k)
      have pre349 : Go p.tables e below (s₁.setTop (entryFrame m #[(.long y0), (.long y1), (.long y2), (.int y3)] maxLocals)) T335 (mkF m 182 #[.val (.long y0), .second, .val (.long y1), .second, .val (.long y2), .second, .val (.int y3), .val (.long w1), .second, .val (.long w2), .second, .val (.long w3), .second, .val (.ref b5), .val (.long w21), .second, .val (.long w36), .second, .val (.long w49), .second, .val (.ref b60), .val (.int (1 : Int32)), .val (.int (1 : Int32)), .val (.int (1 : Int32)), .unset] [(.long w3), (.long w2), (.long w1), (.int (1 : Int32)), (.long w2)]) := fun t k => pre335 t (by
          refine XS.iload X335.here hx rfl (hb hby at_174) rfl ?_
          show Steps p.tables e below (T335.setTop (mkF m 176 #[.val (.long y0), .second, .val (.long y1), .second, .val (.long y2), .second, .val (.int y3), .val (.long w1), .second, .val (.long w2), .second, .val (.long w3), .second, .val (.ref b5), .val (.long w21), .second, .val (.long w36), .second, .val (.long w49), .second, .val (.ref b60), .val (.int (1 : Int32)), .val (.int (1 : Int32)), .val (.int (1 : Int32)), .unset] [(.int (1 : Int32)), (.long w2)])) _
          refine XS.lload X335.here hx rfl (hb hby at_176) rfl ?_
          show Steps p.tables e below (T335.setTop (mkF m 178 #[.val (.long y0), .second, .val (.long y1), .second, .val (.long y2), .second, .val (.int y3), .val (.long w1), .second, .val (.long w2), .second, .val (.long w3), .second, .val (.ref b5), .val (.long w21), .second, .val (.long w36), .second, .val (.long w49), .second, .val (.ref b60), .val (.int (1 : Int32)), .val (.int (1 : Int32)), .val (.int (1 : Int32)), .unset] [(.long w1), (.int (1 : Int32)), (.long w2)])) _
          refine XS.lload X335.here hx rfl (hb hby at_178) rfl ?_
          show Steps p.tables e below (T335.setTop (mkF m 180 #[.val (.long y0), .second, .val (.long y1), .second, .val (.long y2), .second, .val (.int y3), .val (.long w1), .second, .val (.long w2), .second, .val (.long w3), .second, .val (.ref b5), .val (.long w21), .second, .val (.long w36), .second, .val (.long w49), .second, .val (.ref b60), .val (.int (1 : Int32)), .val (.int (1 : Int32)), .val (.int (1 : Int32)), .unset] [(.long w2), (.long w1), (.int (1 : Int32)), (.long w2)])) _
          refine XS.lload X335.here hx rfl (hb hby at_180) rfl ?_
          exact k)
      obtain ⟨_, _, ⟨T350, L350, k350, n350⟩, -, X350, ⟨Lc350, hQ350, l350, y350, z350⟩, st350⟩ := Jvm.LawKit.callS X335 hx (y := (⟨"com/example/zhangtiao/zhangtiao/input/VarLongsMoveToPinLaw", "pick", "(IJJJ)J"⟩ : MethodName)) hown (mvT hZ (hw _ (List.mem_of_getElem? (i := 111) rfl))) (mvT hZ (hw _ (List.mem_of_getElem? (i := 112) rfl))) (mvT hZ (hw _ (List.mem_of_getElem? (i := 113) rfl))) (mvT hZ (hw _ (List.mem_of_getElem? (i := 114) rfl))) (by decide) (backOf (W := 2) (rm_pk l Z av0 hw [] (1 : Int32) w1 w2 w3 T335.heap n0) hZ (hw _ (List.mem_of_getElem? (i := 114) rfl)) (hw _ (List.mem_of_getElem? (i := 113) rfl)) (by decide) (by decide)) (g := (mkF m 182 #[.val (.long y0), .second, .val (.long y1), .second, .val (.long y2), .second, .val (.int y3), .val (.long w1), .second, .val (.long w2), .second, .val (.long w3), .second, .val (.ref b5), .val (.long w21), .second, .val (.long w36), .second, .val (.long w49), .second, .val (.ref b60), .val (.int (1 : Int32)), .val (.int (1 : Int32)), .val (.int (1 : Int32)), .unset] [(.long w3), (.long w2), (.long w1), (.int (1 : Int32)), (.long w2)])) rfl (by rw [hml]; rfl) (argsL := [(.int (1 : Int32)), (.long w1), (.long w2), (.long w3)]) (rest := [(.long w2)]) (lenOf pd_13 rfl) rfl (by show 2 * 0 + _ ≤ _; exact Nat.le_of_eq rfl) (hb hby at_182) (fun _ _ => ⟨rfl, rfl, (by decide : 5 + 0 ≤ _), (by decide : 65555 + 0 ≤ _)⟩)
      dsimp only [Pt.U, Pt.locs, Pt.cells, Pt.slots] at X350 l350 y350 z350 st350 hQ350
      subst l350 y350 z350
      obtain ⟨hv350, N350q, e350⟩ := hQ350
      rw [show own_pk (1 : Int32) w1 w2 w3 = w2 from rfl] at hv350
      subst hv350
      have N350 := Fr.app N335 N350q
      have pre350 : Go p.tables e below (s₁.setTop (entryFrame m #[(.long y0), (.long y1), (.long y2), (.int y3)] maxLocals)) T350 (mkF m 185 #[.val (.long y0), .second, .val (.long y1), .second, .val (.long y2), .second, .val (.int y3), .val (.long w1), .second, .val (.long w2), .second, .val (.long w3), .second, .val (.ref b5), .val (.long w21), .second, .val (.long w36), .second, .val (.long w49), .second, .val (.ref b60), .val (.int (1 : Int32)), .val (.int (1 : Int32)), .val (.int (1 : Int32)), .unset] [(.long w2), (.long w2)]) := fun t k => pre349 t (st350 _ k)
      have pre351 : Go p.tables e below (s₁.setTop (entryFrame m #[(.long y0), (.long y1), (.long y2), (.int y3)] maxLocals)) T350 (mkF m 211 #[.val (.long y0), .second, .val (.long y1), .second, .val (.long y2), .second, .val (.int y3), .val (.long w1), .second, .val (.long w2), .second, .val (.long w3), .second, .val (.ref b5), .val (.long w21), .second, .val (.long w36), .second, .val (.long w49), .second, .val (.ref b60), .val (.int (1 : Int32)), .val (.int (1 : Int32)), .val (.int (1 : Int32)), .val (.int (1 : Int32))] [(.int (1 : Int32))]) := fun t k => pre350 t (by
          refine XS.lcmp X350.here hx rfl (hb hby at_185) rfl ?_
          show Steps p.tables e below (T350.setTop (mkF m 186 #[.val (.long y0), .second, .val (.long y1), .second, .val (.long y2), .second, .val (.int y3), .val (.long w1), .second, .val (.long w2), .second, .val (.long w3), .second, .val (.ref b5), .val (.long w21), .second, .val (.long w36), .second, .val (.long w49), .second, .val (.ref b60), .val (.int (1 : Int32)), .val (.int (1 : Int32)), .val (.int (1 : Int32)), .unset] [(.int (lcmpW w2 w2))])) _
          refine XS.ifNo X350.here hx rfl (hb hby at_186) rfl ((if0 _ _).trans (teq ((lw_eq _ _).mpr rfl)).2) ?_
          show Steps p.tables e below (T350.setTop (mkF m 189 #[.val (.long y0), .second, .val (.long y1), .second, .val (.long y2), .second, .val (.int y3), .val (.long w1), .second, .val (.long w2), .second, .val (.long w3), .second, .val (.ref b5), .val (.long w21), .second, .val (.long w36), .second, .val (.long w49), .second, .val (.ref b60), .val (.int (1 : Int32)), .val (.int (1 : Int32)), .val (.int (1 : Int32)), .unset] [])) _
          refine XS.iconst X350.here hx rfl (hb hby at_189) ?_
          show Steps p.tables e below (T350.setTop (mkF m 190 #[.val (.long y0), .second, .val (.long y1), .second, .val (.long y2), .second, .val (.int y3), .val (.long w1), .second, .val (.long w2), .second, .val (.long w3), .second, .val (.ref b5), .val (.long w21), .second, .val (.long w36), .second, .val (.long w49), .second, .val (.ref b60), .val (.int (1 : Int32)), .val (.int (1 : Int32)), .val (.int (1 : Int32)), .unset] [(.int (1 : Int32))])) _
          refine XS.goto X350.here hx rfl (pc0 := 190) (pc' := 194) rfl (hb hby at_190) (by decide) (by decide) ?_
          show Steps p.tables e below (T350.setTop (mkF m 194 #[.val (.long y0), .second, .val (.long y1), .second, .val (.long y2), .second, .val (.int y3), .val (.long w1), .second, .val (.long w2), .second, .val (.long w3), .second, .val (.ref b5), .val (.long w21), .second, .val (.long w36), .second, .val (.long w49), .second, .val (.ref b60), .val (.int (1 : Int32)), .val (.int (1 : Int32)), .val (.int (1 : Int32)), .unset] [(.int (1 : Int32))])) _
          refine XS.istore X350.here hx rfl (hb hby at_194) rfl (l' := #[.val (.long y0), .second, .val (.long y1), .second, .val (.long y2), .second, .val (.int y3), .val (.long w1), .second, .val (.long w2), .second, .val (.long w3), .second, .val (.ref b5), .val (.long w21), .second, .val (.long w36), .second, .val (.long w49), .second, .val (.ref b60), .val (.int (1 : Int32)), .val (.int (1 : Int32)), .val (.int (1 : Int32)), .val (.int (1 : Int32))]) rfl ?_
          show Steps p.tables e below (T350.setTop (mkF m 196 #[.val (.long y0), .second, .val (.long y1), .second, .val (.long y2), .second, .val (.int y3), .val (.long w1), .second, .val (.long w2), .second, .val (.long w3), .second, .val (.ref b5), .val (.long w21), .second, .val (.long w36), .second, .val (.long w49), .second, .val (.ref b60), .val (.int (1 : Int32)), .val (.int (1 : Int32)), .val (.int (1 : Int32)), .val (.int (1 : Int32))] [])) _
          refine XS.iload X350.here hx rfl (hb hby at_196) rfl ?_
          show Steps p.tables e below (T350.setTop (mkF m 198 #[.val (.long y0), .second, .val (.long y1), .second, .val (.long y2), .second, .val (.int y3), .val (.long w1), .second, .val (.long w2), .second, .val (.long w3), .second, .val (.ref b5), .val (.long w21), .second, .val (.long w36), .second, .val (.long w49), .second, .val (.ref b60), .val (.int (1 : Int32)), .val (.int (1 : Int32)), .val (.int (1 : Int32)), .val (.int (1 : Int32))] [(.int (1 : Int32))])) _
          refine XS.ifNo X350.here hx rfl (hb hby at_198) rfl ((if0 _ _).trans (feq (by decide)).1) ?_
          show Steps p.tables e below (T350.setTop (mkF m 201 #[.val (.long y0), .second, .val (.long y1), .second, .val (.long y2), .second, .val (.int y3), .val (.long w1), .second, .val (.long w2), .second, .val (.long w3), .second, .val (.ref b5), .val (.long w21), .second, .val (.long w36), .second, .val (.long w49), .second, .val (.ref b60), .val (.int (1 : Int32)), .val (.int (1 : Int32)), .val (.int (1 : Int32)), .val (.int (1 : Int32))] [])) _
          refine XS.iload X350.here hx rfl (hb hby at_201) rfl ?_
          show Steps p.tables e below (T350.setTop (mkF m 203 #[.val (.long y0), .second, .val (.long y1), .second, .val (.long y2), .second, .val (.int y3), .val (.long w1), .second, .val (.long w2), .second, .val (.long w3), .second, .val (.ref b5), .val (.long w21), .second, .val (.long w36), .second, .val (.long w49), .second, .val (.ref b60), .val (.int (1 : Int32)), .val (.int (1 : Int32)), .val (.int (1 : Int32)), .val (.int (1 : Int32))] [(.int (1 : Int32))])) _
          refine XS.ifNo X350.here hx rfl (hb hby at_203) rfl ((if0 _ _).trans (feq (by decide)).1) ?_
          show Steps p.tables e below (T350.setTop (mkF m 206 #[.val (.long y0), .second, .val (.long y1), .second, .val (.long y2), .second, .val (.int y3), .val (.long w1), .second, .val (.long w2), .second, .val (.long w3), .second, .val (.ref b5), .val (.long w21), .second, .val (.long w36), .second, .val (.long w49), .second, .val (.ref b60), .val (.int (1 : Int32)), .val (.int (1 : Int32)), .val (.int (1 : Int32)), .val (.int (1 : Int32))] [])) _
          refine XS.iconst X350.here hx rfl (hb hby at_206) ?_
          show Steps p.tables e below (T350.setTop (mkF m 207 #[.val (.long y0), .second, .val (.long y1), .second, .val (.long y2), .second, .val (.int y3), .val (.long w1), .second, .val (.long w2), .second, .val (.long w3), .second, .val (.ref b5), .val (.long w21), .second, .val (.long w36), .second, .val (.long w49), .second, .val (.ref b60), .val (.int (1 : Int32)), .val (.int (1 : Int32)), .val (.int (1 : Int32)), .val (.int (1 : Int32))] [(.int (1 : Int32))])) _
          refine XS.goto X350.here hx rfl (pc0 := 207) (pc' := 211) rfl (hb hby at_207) (by decide) (by decide) ?_
          exact k)
      obtain ⟨fs, hr, hrun, hended, hW, hsame⟩ := X350.leave (v := some (.int (1 : Int32))) (fun h => by rw [Bd.returns] at h; cases h) (BodyLoose.notSynchronized Bd)
      refine ⟨_, _, pre351 _ ?_, hrun, hended, _, _, rfl, ?_, ⟨_, rfl⟩, hW, hsame.mono (Nat.le_of_ble_eq_true rfl) (Nat.le_of_ble_eq_true rfl)⟩
      · exact retN X350 hx (t := .boolean) Bd.returns (by simp) (hb hby at_211) hr
      · show Q_law Z y0 y1 y2 y3 ad kd h0 n0 _ T350.heap _
        rw [e350]
        exact ⟨rfl, N350⟩
    · -- w99 = (2 : Int32)
      have pre352 : Go p.tables e below (s₁.setTop (entryFrame m #[(.long y0), (.long y1), (.long y2), (.int y3)] maxLocals)) T278 (mkF m 163 #[.val (.long y0), .second, .val (.long y1), .second, .val (.long y2), .second, .val (.int y3), .val (.long w1), .second, .val (.long w2), .second, .val (.long w3), .second, .val (.ref b5), .val (.long w21), .second, .val (.long w36), .second, .val (.long w49), .second, .val (.ref b60), .val (.int (1 : Int32)), .val (.int (2 : Int32)), .val (.int (1 : Int32)), .unset] [(.long w49), (.long w36), (.long w21), (.int (2 : Int32)), (.ref b60)]) := fun t k => pre279 t (by
          refine XS.aload X278.here hx rfl (hb hby at_153) rfl rfl ?_
          show Steps p.tables e below (T278.setTop (mkF m 155 #[.val (.long y0), .second, .val (.long y1), .second, .val (.long y2), .second, .val (.int y3), .val (.long w1), .second, .val (.long w2), .second, .val (.long w3), .second, .val (.ref b5), .val (.long w21), .second, .val (.long w36), .second, .val (.long w49), .second, .val (.ref b60), .val (.int (1 : Int32)), .val (.int (2 : Int32)), .val (.int (1 : Int32)), .unset] [(.ref b60)])) _
          refine XS.iload X278.here hx rfl (hb hby at_155) rfl ?_
          show Steps p.tables e below (T278.setTop (mkF m 157 #[.val (.long y0), .second, .val (.long y1), .second, .val (.long y2), .second, .val (.int y3), .val (.long w1), .second, .val (.long w2), .second, .val (.long w3), .second, .val (.ref b5), .val (.long w21), .second, .val (.long w36), .second, .val (.long w49), .second, .val (.ref b60), .val (.int (1 : Int32)), .val (.int (2 : Int32)), .val (.int (1 : Int32)), .unset] [(.int (2 : Int32)), (.ref b60)])) _
          refine XS.lload X278.here hx rfl (hb hby at_157) rfl ?_
          show Steps p.tables e below (T278.setTop (mkF m 159 #[.val (.long y0), .second, .val (.long y1), .second, .val (.long y2), .second, .val (.int y3), .val (.long w1), .second, .val (.long w2), .second, .val (.long w3), .second, .val (.ref b5), .val (.long w21), .second, .val (.long w36), .second, .val (.long w49), .second, .val (.ref b60), .val (.int (1 : Int32)), .val (.int (2 : Int32)), .val (.int (1 : Int32)), .unset] [(.long w21), (.int (2 : Int32)), (.ref b60)])) _
          refine XS.lload X278.here hx rfl (hb hby at_159) rfl ?_
          show Steps p.tables e below (T278.setTop (mkF m 161 #[.val (.long y0), .second, .val (.long y1), .second, .val (.long y2), .second, .val (.int y3), .val (.long w1), .second, .val (.long w2), .second, .val (.long w3), .second, .val (.ref b5), .val (.long w21), .second, .val (.long w36), .second, .val (.long w49), .second, .val (.ref b60), .val (.int (1 : Int32)), .val (.int (2 : Int32)), .val (.int (1 : Int32)), .unset] [(.long w36), (.long w21), (.int (2 : Int32)), (.ref b60)])) _
          refine XS.lload X278.here hx rfl (hb hby at_161) rfl ?_
          exact k)
      obtain ⟨_, _, ⟨T353, L353, k353, n353⟩, -, X353, ⟨Lc353, hQ353, l353, y353, z353⟩, st353⟩ := Jvm.LawKit.callS X278 hx (y := (⟨"com/example/zhangtiao/zhangtiao/input/VarLongsMoveToPinLaw", "pick", "(IJJJ)J"⟩ : MethodName)) hown (mvT hZ (hw _ (List.mem_of_getElem? (i := 111) rfl))) (mvT hZ (hw _ (List.mem_of_getElem? (i := 112) rfl))) (mvT hZ (hw _ (List.mem_of_getElem? (i := 113) rfl))) (mvT hZ (hw _ (List.mem_of_getElem? (i := 114) rfl))) (by decide) (backOf (W := 1) (rm_pk l Z av0 hw [] (2 : Int32) w21 w36 w49 T263.heap n0) hZ (hw _ (List.mem_of_getElem? (i := 114) rfl)) (hw _ (List.mem_of_getElem? (i := 113) rfl)) (by decide) (by decide)) (g := (mkF m 163 #[.val (.long y0), .second, .val (.long y1), .second, .val (.long y2), .second, .val (.int y3), .val (.long w1), .second, .val (.long w2), .second, .val (.long w3), .second, .val (.ref b5), .val (.long w21), .second, .val (.long w36), .second, .val (.long w49), .second, .val (.ref b60), .val (.int (1 : Int32)), .val (.int (2 : Int32)), .val (.int (1 : Int32)), .unset] [(.long w49), (.long w36), (.long w21), (.int (2 : Int32)), (.ref b60)])) rfl (by rw [hml]; rfl) (argsL := [(.int (2 : Int32)), (.long w21), (.long w36), (.long w49)]) (rest := [(.ref b60)]) (lenOf pd_13 rfl) rfl (by show 2 * 0 + _ ≤ _; exact Nat.le_of_eq rfl) (hb hby at_163) (fun _ _ => ⟨rfl, e278, (by decide : 5 + 0 ≤ _), (by decide : 65555 + 0 ≤ _)⟩)
      dsimp only [Pt.U, Pt.locs, Pt.cells, Pt.slots] at X353 l353 y353 z353 st353 hQ353
      subst l353 y353 z353
      obtain ⟨hv353, N353q, e353⟩ := hQ353
      rw [show own_pk (2 : Int32) w21 w36 w49 = w49 from rfl] at hv353
      subst hv353
      have N353 := Fr.app N278 N353q
      have pre353 : Go p.tables e below (s₁.setTop (entryFrame m #[(.long y0), (.long y1), (.long y2), (.int y3)] maxLocals)) T353 (mkF m 166 #[.val (.long y0), .second, .val (.long y1), .second, .val (.long y2), .second, .val (.int y3), .val (.long w1), .second, .val (.long w2), .second, .val (.long w3), .second, .val (.ref b5), .val (.long w21), .second, .val (.long w36), .second, .val (.long w49), .second, .val (.ref b60), .val (.int (1 : Int32)), .val (.int (2 : Int32)), .val (.int (1 : Int32)), .unset] [(.long w49), (.ref b60)]) := fun t k => pre352 t (st353 _ k)
      obtain ⟨cq354, kq354, q354a, q354b, q354c⟩ := isOf hZ e353 fo263_3
      obtain ⟨_, _, ⟨T354, L354, k354, n354⟩, -, X354, ⟨Lc354, hQ354, l354, y354, z354⟩, st354⟩ := X353.virtualBack hx (y := (⟨"com/example/zhangtiao/zhangtiao/input/VarLongs$Cursor", "moveTo", "(J)V"⟩ : MethodName)) (z := (⟨"com/example/zhangtiao/zhangtiao/input/VarLongs$Cursor", "moveTo", "(J)V"⟩ : MethodName)) hown (mvT hZ (hw _ (List.mem_of_getElem? (i := 115) rfl))) (mvT hZ (hw _ (List.mem_of_getElem? (i := 116) rfl))) (notFace_of_selects (args := #[]) (mvT hZ (hw _ (List.mem_of_getElem? (i := 118) rfl)))) (mvT hZ (hw _ (List.mem_of_getElem? (i := 118) rfl))) (mvT hZ (hw _ (List.mem_of_getElem? (i := 117) rfl))) (by decide) (backOf (W := 0) (rm_mvt l Z av0 hw [] b60 w49 (.ref b5) (0 : Int32) ta263 (([] ++ own_enc 8 w1) ++ own_enc 8 w2) T263.heap n0 f264 fo263_0 fo263_1 fo263_2 fo263_3 gb5_3 (hw49.trans (own_pos1' _)) (Nat.lt_of_le_of_lt hL2 (by decide))) hZ (hw _ (List.mem_of_getElem? (i := 119) rfl)) (hw _ (List.mem_of_getElem? (i := 99) rfl)) (by decide) (by decide)) q354a q354c (g := (mkF m 166 #[.val (.long y0), .second, .val (.long y1), .second, .val (.long y2), .second, .val (.int y3), .val (.long w1), .second, .val (.long w2), .second, .val (.long w3), .second, .val (.ref b5), .val (.long w21), .second, .val (.long w36), .second, .val (.long w49), .second, .val (.ref b60), .val (.int (1 : Int32)), .val (.int (2 : Int32)), .val (.int (1 : Int32)), .unset] [(.long w49), (.ref b60)])) rfl (by rw [hml]; rfl) (Steps.refl _) (argsL := [(.long w49)]) (rest := []) (lenOf pd_10 rfl) rfl (by show 2 * 0 + _ ≤ _; exact Nat.le_of_eq rfl) (hb hby at_166) (fun _ _ => ⟨rfl, e353, (by decide : 5 + 0 ≤ _), (by decide : 65555 + 0 ≤ _)⟩)
      dsimp only [Pt.U, Pt.locs, Pt.cells, Pt.slots] at X354 l354 y354 z354 st354 hQ354
      subst l354 y354 z354
      obtain ⟨hv354, N354q, K354, fo354_0, fo354_1, fo354_2, fo354_3⟩ := hQ354
      have f355 : n0 ≤ T354.heap.size := Nat.le_trans f264 K354.1
      have f356 : Old Z n0 T354.heap := f265.keep K354 (allS gb5_3 all0)
      have f357 : Exa Z T354.heap b23 "[B" := f266.keep K354
      have f358 : Exa Z T354.heap al13 "java/util/ArrayList" := f267.keep K354
      have f359 : Fld Z T354.heap al13 "java/util/ArrayList" "elementData" "[Ljava/lang/Object;" (.ref ea23) := f268.keep K354 (ninS nb5_2 nin0)
      have f360 : Fld Z T354.heap al13 "java/util/ArrayList" "size" "I" (.int ((0 : Int32) + (1 : Int32))) := f269.keep K354 (ninS nb5_2 nin0)
      have f361 : Arv Z T354.heap ea23 ke23 (.object "java/lang/Object") (10 : Int32) [(.ref b23), .null, .null, .null, .null, .null, .null, .null, .null, .null] .null := f270.keep K354 (ninS nb5_9.symm nin0)
      have f362 : Exa Z T354.heap b5 "com/example/zhangtiao/zhangtiao/input/VarLongs" := f271.keep K354
      have f363 : Fld Z T354.heap b5 "com/example/zhangtiao/zhangtiao/input/VarLongs" "last" "[B" (.ref b23) := f272.keep K354 (ninS nb5_7 nin0)
      have f364 : Fld Z T354.heap b5 "com/example/zhangtiao/zhangtiao/input/VarLongs" "position" "I" (.int (own_n ((([] ++ own_enc 8 w1) ++ own_enc 8 w2) ++ own_enc 8 w3))) := f273.keep K354 (ninS nb5_7 nin0)
      have f365 : Fld Z T354.heap b5 "com/example/zhangtiao/zhangtiao/input/VarLongs" "chunks" "Ljava/util/List;" (.ref al13) := f274.keep K354 (ninS nb5_7 nin0)
      have f366 : Arv Z T354.heap b23 kc23 .byte (65536 : Int32) (([] ++ own_enc 8 w1) ++ (own_enc 8 w2 ++ (own_enc 8 w3))) (.int (0 : Int32)) := f276.keep K354 (ninS nb5_5 nin0)
      have f367 : Exa Z T354.heap b60 "com/example/zhangtiao/zhangtiao/input/VarLongs$Cursor" := fo263_3.keep K354
      subst hv354
      have N354 := Fr.app N353 N354q
      have pre354 : Go p.tables e below (s₁.setTop (entryFrame m #[(.long y0), (.long y1), (.long y2), (.int y3)] maxLocals)) T354 (mkF m 169 #[.val (.long y0), .second, .val (.long y1), .second, .val (.long y2), .second, .val (.int y3), .val (.long w1), .second, .val (.long w2), .second, .val (.long w3), .second, .val (.ref b5), .val (.long w21), .second, .val (.long w36), .second, .val (.long w49), .second, .val (.ref b60), .val (.int (1 : Int32)), .val (.int (2 : Int32)), .val (.int (1 : Int32)), .unset] []) := fun t k => pre353 t (st354.trans k)
      have pre368 : Go p.tables e below (s₁.setTop (entryFrame m #[(.long y0), (.long y1), (.long y2), (.int y3)] maxLocals)) T354 (mkF m 171 #[.val (.long y0), .second, .val (.long y1), .second, .val (.long y2), .second, .val (.int y3), .val (.long w1), .second, .val (.long w2), .second, .val (.long w3), .second, .val (.ref b5), .val (.long w21), .second, .val (.long w36), .second, .val (.long w49), .second, .val (.ref b60), .val (.int (1 : Int32)), .val (.int (2 : Int32)), .val (.int (1 : Int32)), .unset] [(.ref b60)]) := fun t k => pre354 t (by
          refine XS.aload X354.here hx rfl (hb hby at_169) rfl rfl ?_
          exact k)
      have fn370 := f366
      rw [← own_l1 (own_enc 8 w1) (own_enc 8 w2) (own_enc 8 w3)] at fn370
      have fn369 := fn370
      rw [own_l2 (own_enc 8 w1) (own_enc 8 w2) (own_enc 8 w3)] at fn369
      obtain ⟨cq371, kq371, q371a, q371b, q371c⟩ := isOf hZ rfl fo354_3
      obtain ⟨_, _, ⟨T371, L371, k371, n371⟩, -, X371, ⟨Lc371, hQ371, l371, y371, z371⟩, st371⟩ := X354.virtualBack hx (y := (⟨"com/example/zhangtiao/zhangtiao/input/VarLongs$Cursor", "next", "()J"⟩ : MethodName)) (z := (⟨"com/example/zhangtiao/zhangtiao/input/VarLongs$Cursor", "next", "()J"⟩ : MethodName)) hown (mvT hZ (hw _ (List.mem_of_getElem? (i := 125) rfl))) (mvT hZ (hw _ (List.mem_of_getElem? (i := 126) rfl))) (notFace_of_selects (args := #[]) (mvT hZ (hw _ (List.mem_of_getElem? (i := 128) rfl)))) (mvT hZ (hw _ (List.mem_of_getElem? (i := 128) rfl))) (mvT hZ (hw _ (List.mem_of_getElem? (i := 127) rfl))) (by decide) (backOf (W := 0) (rm_nxt l Z av0 hw [] b60 (.ref b5) b5 al13 ea23 ke23 b23 kc23 (([] ++ own_enc 8 w1) ++ own_enc 8 w2) w3 [] T354.heap n0 f355 fo354_0 fo354_1 fo354_2 fo354_3 f365 f358 f360 f359 f361 f357 fn369 gb5_3 nb5_5.symm nb5_7.symm nb5_2.symm nb5_9 rfl hq_w3 (Nat.lt_of_le_of_lt (Nat.add_le_add_right hL2 8) (by decide))) hZ (hw _ (List.mem_of_getElem? (i := 129) rfl)) (hw _ (List.mem_of_getElem? (i := 99) rfl)) (by decide) (by decide)) q371a q371c (g := (mkF m 171 #[.val (.long y0), .second, .val (.long y1), .second, .val (.long y2), .second, .val (.int y3), .val (.long w1), .second, .val (.long w2), .second, .val (.long w3), .second, .val (.ref b5), .val (.long w21), .second, .val (.long w36), .second, .val (.long w49), .second, .val (.ref b60), .val (.int (1 : Int32)), .val (.int (2 : Int32)), .val (.int (1 : Int32)), .unset] [(.ref b60)])) rfl (by rw [hml]; rfl) (Steps.refl _) (argsL := []) (rest := []) (lenOf pd_9 rfl) rfl (by show 2 * 0 + _ ≤ _; exact Nat.le_of_eq rfl) (hb hby at_171) (fun _ _ => ⟨rfl, rfl, (by decide : 5 + 0 ≤ _), (by decide : 65555 + 0 ≤ _)⟩)
      dsimp only [Pt.U, Pt.locs, Pt.cells, Pt.slots] at X371 l371 y371 z371 st371 hQ371
      subst l371 y371 z371
      obtain ⟨ta371, hv371, N371q, K371, fo371_0, fo371_1, fo371_2, fo371_3⟩ := hQ371
      have f372 : n0 ≤ T371.heap.size := Nat.le_trans f355 K371.1
      have f373 : Old Z n0 T371.heap := f356.keep K371 (allS gb5_3 all0)
      have f374 : Exa Z T371.heap b23 "[B" := f357.keep K371
      have f375 : Exa Z T371.heap al13 "java/util/ArrayList" := f358.keep K371
      have f376 : Fld Z T371.heap al13 "java/util/ArrayList" "elementData" "[Ljava/lang/Object;" (.ref ea23) := f359.keep K371 (ninS nb5_2 nin0)
      have f377 : Fld Z T371.heap al13 "java/util/ArrayList" "size" "I" (.int ((0 : Int32) + (1 : Int32))) := f360.keep K371 (ninS nb5_2 nin0)
      have f378 : Arv Z T371.heap ea23 ke23 (.object "java/lang/Object") (10 : Int32) [(.ref b23), .null, .null, .null, .null, .null, .null, .null, .null, .null] .null := f361.keep K371 (ninS nb5_9.symm nin0)
      have f379 : Exa Z T371.heap b5 "com/example/zhangtiao/zhangtiao/input/VarLongs" := f362.keep K371
      have f380 : Fld Z T371.heap b5 "com/example/zhangtiao/zhangtiao/input/VarLongs" "last" "[B" (.ref b23) := f363.keep K371 (ninS nb5_7 nin0)
      have f381 : Fld Z T371.heap b5 "com/example/zhangtiao/zhangtiao/input/VarLongs" "position" "I" (.int (own_n ((([] ++ own_enc 8 w1) ++ own_enc 8 w2) ++ own_enc 8 w3))) := f364.keep K371 (ninS nb5_7 nin0)
      have f382 : Fld Z T371.heap b5 "com/example/zhangtiao/zhangtiao/input/VarLongs" "chunks" "Ljava/util/List;" (.ref al13) := f365.keep K371 (ninS nb5_7 nin0)
      have f383 : Exa Z T371.heap b60 "com/example/zhangtiao/zhangtiao/input/VarLongs$Cursor" := fo354_3.keep K371
      have f384 : Arv Z T371.heap b23 kc23 .byte (65536 : Int32) ((([] ++ own_enc 8 w1) ++ own_enc 8 w2) ++ (own_enc 8 w3 ++ [])) (.int (0 : Int32)) := fn369.keep K371 (ninS nb5_5 nin0)
      subst hv371
      have N371 := Fr.app N354 N371q
      have pre371 : Go p.tables e below (s₁.setTop (entryFrame m #[(.long y0), (.long y1), (.long y2), (.int y3)] maxLocals)) T371 (mkF m 174 #[.val (.long y0), .second, .val (.long y1), .second, .val (.long y2), .second, .val (.int y3), .val (.long w1), .second, .val (.long w2), .second, .val (.long w3), .second, .val (.ref b5), .val (.long w21), .second, .val (.long w36), .second, .val (.long w49), .second, .val (.ref b60), .val (.int (1 : Int32)), .val (.int (2 : Int32)), .val (.int (1 : Int32)), .unset] [(.long w3)]) := fun t k => pre368 t (st371.trans k)
      have pre385 : Go p.tables e below (s₁.setTop (entryFrame m #[(.long y0), (.long y1), (.long y2), (.int y3)] maxLocals)) T371 (mkF m 182 #[.val (.long y0), .second, .val (.long y1), .second, .val (.long y2), .second, .val (.int y3), .val (.long w1), .second, .val (.long w2), .second, .val (.long w3), .second, .val (.ref b5), .val (.long w21), .second, .val (.long w36), .second, .val (.long w49), .second, .val (.ref b60), .val (.int (1 : Int32)), .val (.int (2 : Int32)), .val (.int (1 : Int32)), .unset] [(.long w3), (.long w2), (.long w1), (.int (2 : Int32)), (.long w3)]) := fun t k => pre371 t (by
          refine XS.iload X371.here hx rfl (hb hby at_174) rfl ?_
          show Steps p.tables e below (T371.setTop (mkF m 176 #[.val (.long y0), .second, .val (.long y1), .second, .val (.long y2), .second, .val (.int y3), .val (.long w1), .second, .val (.long w2), .second, .val (.long w3), .second, .val (.ref b5), .val (.long w21), .second, .val (.long w36), .second, .val (.long w49), .second, .val (.ref b60), .val (.int (1 : Int32)), .val (.int (2 : Int32)), .val (.int (1 : Int32)), .unset] [(.int (2 : Int32)), (.long w3)])) _
          refine XS.lload X371.here hx rfl (hb hby at_176) rfl ?_
          show Steps p.tables e below (T371.setTop (mkF m 178 #[.val (.long y0), .second, .val (.long y1), .second, .val (.long y2), .second, .val (.int y3), .val (.long w1), .second, .val (.long w2), .second, .val (.long w3), .second, .val (.ref b5), .val (.long w21), .second, .val (.long w36), .second, .val (.long w49), .second, .val (.ref b60), .val (.int (1 : Int32)), .val (.int (2 : Int32)), .val (.int (1 : Int32)), .unset] [(.long w1), (.int (2 : Int32)), (.long w3)])) _
          refine XS.lload X371.here hx rfl (hb hby at_178) rfl ?_
          show Steps p.tables e below (T371.setTop (mkF m 180 #[.val (.long y0), .second, .val (.long y1), .second, .val (.long y2), .second, .val (.int y3), .val (.long w1), .second, .val (.long w2), .second, .val (.long w3), .second, .val (.ref b5), .val (.long w21), .second, .val (.long w36), .second, .val (.long w49), .second, .val (.ref b60), .val (.int (1 : Int32)), .val (.int (2 : Int32)), .val (.int (1 : Int32)), .unset] [(.long w2), (.long w1), (.int (2 : Int32)), (.long w3)])) _
          refine XS.lload X371.here hx rfl (hb hby at_180) rfl ?_
          exact k)
      obtain ⟨_, _, ⟨T386, L386, k386, n386⟩, -, X386, ⟨Lc386, hQ386, l386, y386, z386⟩, st386⟩ := Jvm.LawKit.callS X371 hx (y := (⟨"com/example/zhangtiao/zhangtiao/input/VarLongsMoveToPinLaw", "pick", "(IJJJ)J"⟩ : MethodName)) hown (mvT hZ (hw _ (List.mem_of_getElem? (i := 111) rfl))) (mvT hZ (hw _ (List.mem_of_getElem? (i := 112) rfl))) (mvT hZ (hw _ (List.mem_of_getElem? (i := 113) rfl))) (mvT hZ (hw _ (List.mem_of_getElem? (i := 114) rfl))) (by decide) (backOf (W := 2) (rm_pk l Z av0 hw [] (2 : Int32) w1 w2 w3 T371.heap n0) hZ (hw _ (List.mem_of_getElem? (i := 114) rfl)) (hw _ (List.mem_of_getElem? (i := 113) rfl)) (by decide) (by decide)) (g := (mkF m 182 #[.val (.long y0), .second, .val (.long y1), .second, .val (.long y2), .second, .val (.int y3), .val (.long w1), .second, .val (.long w2), .second, .val (.long w3), .second, .val (.ref b5), .val (.long w21), .second, .val (.long w36), .second, .val (.long w49), .second, .val (.ref b60), .val (.int (1 : Int32)), .val (.int (2 : Int32)), .val (.int (1 : Int32)), .unset] [(.long w3), (.long w2), (.long w1), (.int (2 : Int32)), (.long w3)])) rfl (by rw [hml]; rfl) (argsL := [(.int (2 : Int32)), (.long w1), (.long w2), (.long w3)]) (rest := [(.long w3)]) (lenOf pd_13 rfl) rfl (by show 2 * 0 + _ ≤ _; exact Nat.le_of_eq rfl) (hb hby at_182) (fun _ _ => ⟨rfl, rfl, (by decide : 5 + 0 ≤ _), (by decide : 65555 + 0 ≤ _)⟩)
      dsimp only [Pt.U, Pt.locs, Pt.cells, Pt.slots] at X386 l386 y386 z386 st386 hQ386
      subst l386 y386 z386
      obtain ⟨hv386, N386q, e386⟩ := hQ386
      rw [show own_pk (2 : Int32) w1 w2 w3 = w3 from rfl] at hv386
      subst hv386
      have N386 := Fr.app N371 N386q
      have pre386 : Go p.tables e below (s₁.setTop (entryFrame m #[(.long y0), (.long y1), (.long y2), (.int y3)] maxLocals)) T386 (mkF m 185 #[.val (.long y0), .second, .val (.long y1), .second, .val (.long y2), .second, .val (.int y3), .val (.long w1), .second, .val (.long w2), .second, .val (.long w3), .second, .val (.ref b5), .val (.long w21), .second, .val (.long w36), .second, .val (.long w49), .second, .val (.ref b60), .val (.int (1 : Int32)), .val (.int (2 : Int32)), .val (.int (1 : Int32)), .unset] [(.long w3), (.long w3)]) := fun t k => pre385 t (st386 _ k)
      have pre387 : Go p.tables e below (s₁.setTop (entryFrame m #[(.long y0), (.long y1), (.long y2), (.int y3)] maxLocals)) T386 (mkF m 211 #[.val (.long y0), .second, .val (.long y1), .second, .val (.long y2), .second, .val (.int y3), .val (.long w1), .second, .val (.long w2), .second, .val (.long w3), .second, .val (.ref b5), .val (.long w21), .second, .val (.long w36), .second, .val (.long w49), .second, .val (.ref b60), .val (.int (1 : Int32)), .val (.int (2 : Int32)), .val (.int (1 : Int32)), .val (.int (1 : Int32))] [(.int (1 : Int32))]) := fun t k => pre386 t (by
          refine XS.lcmp X386.here hx rfl (hb hby at_185) rfl ?_
          show Steps p.tables e below (T386.setTop (mkF m 186 #[.val (.long y0), .second, .val (.long y1), .second, .val (.long y2), .second, .val (.int y3), .val (.long w1), .second, .val (.long w2), .second, .val (.long w3), .second, .val (.ref b5), .val (.long w21), .second, .val (.long w36), .second, .val (.long w49), .second, .val (.ref b60), .val (.int (1 : Int32)), .val (.int (2 : Int32)), .val (.int (1 : Int32)), .unset] [(.int (lcmpW w3 w3))])) _
          refine XS.ifNo X386.here hx rfl (hb hby at_186) rfl ((if0 _ _).trans (teq ((lw_eq _ _).mpr rfl)).2) ?_
          show Steps p.tables e below (T386.setTop (mkF m 189 #[.val (.long y0), .second, .val (.long y1), .second, .val (.long y2), .second, .val (.int y3), .val (.long w1), .second, .val (.long w2), .second, .val (.long w3), .second, .val (.ref b5), .val (.long w21), .second, .val (.long w36), .second, .val (.long w49), .second, .val (.ref b60), .val (.int (1 : Int32)), .val (.int (2 : Int32)), .val (.int (1 : Int32)), .unset] [])) _
          refine XS.iconst X386.here hx rfl (hb hby at_189) ?_
          show Steps p.tables e below (T386.setTop (mkF m 190 #[.val (.long y0), .second, .val (.long y1), .second, .val (.long y2), .second, .val (.int y3), .val (.long w1), .second, .val (.long w2), .second, .val (.long w3), .second, .val (.ref b5), .val (.long w21), .second, .val (.long w36), .second, .val (.long w49), .second, .val (.ref b60), .val (.int (1 : Int32)), .val (.int (2 : Int32)), .val (.int (1 : Int32)), .unset] [(.int (1 : Int32))])) _
          refine XS.goto X386.here hx rfl (pc0 := 190) (pc' := 194) rfl (hb hby at_190) (by decide) (by decide) ?_
          show Steps p.tables e below (T386.setTop (mkF m 194 #[.val (.long y0), .second, .val (.long y1), .second, .val (.long y2), .second, .val (.int y3), .val (.long w1), .second, .val (.long w2), .second, .val (.long w3), .second, .val (.ref b5), .val (.long w21), .second, .val (.long w36), .second, .val (.long w49), .second, .val (.ref b60), .val (.int (1 : Int32)), .val (.int (2 : Int32)), .val (.int (1 : Int32)), .unset] [(.int (1 : Int32))])) _
          refine XS.istore X386.here hx rfl (hb hby at_194) rfl (l' := #[.val (.long y0), .second, .val (.long y1), .second, .val (.long y2), .second, .val (.int y3), .val (.long w1), .second, .val (.long w2), .second, .val (.long w3), .second, .val (.ref b5), .val (.long w21), .second, .val (.long w36), .second, .val (.long w49), .second, .val (.ref b60), .val (.int (1 : Int32)), .val (.int (2 : Int32)), .val (.int (1 : Int32)), .val (.int (1 : Int32))]) rfl ?_
          show Steps p.tables e below (T386.setTop (mkF m 196 #[.val (.long y0), .second, .val (.long y1), .second, .val (.long y2), .second, .val (.int y3), .val (.long w1), .second, .val (.long w2), .second, .val (.long w3), .second, .val (.ref b5), .val (.long w21), .second, .val (.long w36), .second, .val (.long w49), .second, .val (.ref b60), .val (.int (1 : Int32)), .val (.int (2 : Int32)), .val (.int (1 : Int32)), .val (.int (1 : Int32))] [])) _
          refine XS.iload X386.here hx rfl (hb hby at_196) rfl ?_
          show Steps p.tables e below (T386.setTop (mkF m 198 #[.val (.long y0), .second, .val (.long y1), .second, .val (.long y2), .second, .val (.int y3), .val (.long w1), .second, .val (.long w2), .second, .val (.long w3), .second, .val (.ref b5), .val (.long w21), .second, .val (.long w36), .second, .val (.long w49), .second, .val (.ref b60), .val (.int (1 : Int32)), .val (.int (2 : Int32)), .val (.int (1 : Int32)), .val (.int (1 : Int32))] [(.int (1 : Int32))])) _
          refine XS.ifNo X386.here hx rfl (hb hby at_198) rfl ((if0 _ _).trans (feq (by decide)).1) ?_
          show Steps p.tables e below (T386.setTop (mkF m 201 #[.val (.long y0), .second, .val (.long y1), .second, .val (.long y2), .second, .val (.int y3), .val (.long w1), .second, .val (.long w2), .second, .val (.long w3), .second, .val (.ref b5), .val (.long w21), .second, .val (.long w36), .second, .val (.long w49), .second, .val (.ref b60), .val (.int (1 : Int32)), .val (.int (2 : Int32)), .val (.int (1 : Int32)), .val (.int (1 : Int32))] [])) _
          refine XS.iload X386.here hx rfl (hb hby at_201) rfl ?_
          show Steps p.tables e below (T386.setTop (mkF m 203 #[.val (.long y0), .second, .val (.long y1), .second, .val (.long y2), .second, .val (.int y3), .val (.long w1), .second, .val (.long w2), .second, .val (.long w3), .second, .val (.ref b5), .val (.long w21), .second, .val (.long w36), .second, .val (.long w49), .second, .val (.ref b60), .val (.int (1 : Int32)), .val (.int (2 : Int32)), .val (.int (1 : Int32)), .val (.int (1 : Int32))] [(.int (1 : Int32))])) _
          refine XS.ifNo X386.here hx rfl (hb hby at_203) rfl ((if0 _ _).trans (feq (by decide)).1) ?_
          show Steps p.tables e below (T386.setTop (mkF m 206 #[.val (.long y0), .second, .val (.long y1), .second, .val (.long y2), .second, .val (.int y3), .val (.long w1), .second, .val (.long w2), .second, .val (.long w3), .second, .val (.ref b5), .val (.long w21), .second, .val (.long w36), .second, .val (.long w49), .second, .val (.ref b60), .val (.int (1 : Int32)), .val (.int (2 : Int32)), .val (.int (1 : Int32)), .val (.int (1 : Int32))] [])) _
          refine XS.iconst X386.here hx rfl (hb hby at_206) ?_
          show Steps p.tables e below (T386.setTop (mkF m 207 #[.val (.long y0), .second, .val (.long y1), .second, .val (.long y2), .second, .val (.int y3), .val (.long w1), .second, .val (.long w2), .second, .val (.long w3), .second, .val (.ref b5), .val (.long w21), .second, .val (.long w36), .second, .val (.long w49), .second, .val (.ref b60), .val (.int (1 : Int32)), .val (.int (2 : Int32)), .val (.int (1 : Int32)), .val (.int (1 : Int32))] [(.int (1 : Int32))])) _
          refine XS.goto X386.here hx rfl (pc0 := 207) (pc' := 211) rfl (hb hby at_207) (by decide) (by decide) ?_
          exact k)
      obtain ⟨fs, hr, hrun, hended, hW, hsame⟩ := X386.leave (v := some (.int (1 : Int32))) (fun h => by rw [Bd.returns] at h; cases h) (BodyLoose.notSynchronized Bd)
      refine ⟨_, _, pre387 _ ?_, hrun, hended, _, _, rfl, ?_, ⟨_, rfl⟩, hW, hsame.mono (Nat.le_of_ble_eq_true rfl) (Nat.le_of_ble_eq_true rfl)⟩
      · exact retN X386 hx (t := .boolean) Bd.returns (by simp) (hb hby at_211) hr
      · show Q_law Z y0 y1 y2 y3 ad kd h0 n0 _ T386.heap _
        rw [e386]
        exact ⟨rfl, N386⟩
  · -- w98 = (2 : Int32)
    have pre388 : Go p.tables e below (s₁.setTop (entryFrame m #[(.long y0), (.long y1), (.long y2), (.int y3)] maxLocals)) T5 (mkF m 120 #[.val (.long y0), .second, .val (.long y1), .second, .val (.long y2), .second, .val (.int y3), .val (.long w1), .second, .val (.long w2), .second, .val (.long w3), .second, .val (.ref b5), .val (.long w21), .second, .val (.long w36), .second, .val (.long w49), .second, .val (.ref b60), .val (.int (2 : Int32)), .val (.int w99), .unset, .unset] [(.long w49), (.long w36), (.long w21), (.int (2 : Int32)), (.ref b60)]) := fun t k => pre5 t (by
        refine XS.aload X5.here hx rfl (hb hby at_110) rfl rfl ?_
        show Steps p.tables e below (T5.setTop (mkF m 112 #[.val (.long y0), .second, .val (.long y1), .second, .val (.long y2), .second, .val (.int y3), .val (.long w1), .second, .val (.long w2), .second, .val (.long w3), .second, .val (.ref b5), .val (.long w21), .second, .val (.long w36), .second, .val (.long w49), .second, .val (.ref b60), .val (.int (2 : Int32)), .val (.int w99), .unset, .unset] [(.ref b60)])) _
        refine XS.iload X5.here hx rfl (hb hby at_112) rfl ?_
        show Steps p.tables e below (T5.setTop (mkF m 114 #[.val (.long y0), .second, .val (.long y1), .second, .val (.long y2), .second, .val (.int y3), .val (.long w1), .second, .val (.long w2), .second, .val (.long w3), .second, .val (.ref b5), .val (.long w21), .second, .val (.long w36), .second, .val (.long w49), .second, .val (.ref b60), .val (.int (2 : Int32)), .val (.int w99), .unset, .unset] [(.int (2 : Int32)), (.ref b60)])) _
        refine XS.lload X5.here hx rfl (hb hby at_114) rfl ?_
        show Steps p.tables e below (T5.setTop (mkF m 116 #[.val (.long y0), .second, .val (.long y1), .second, .val (.long y2), .second, .val (.int y3), .val (.long w1), .second, .val (.long w2), .second, .val (.long w3), .second, .val (.ref b5), .val (.long w21), .second, .val (.long w36), .second, .val (.long w49), .second, .val (.ref b60), .val (.int (2 : Int32)), .val (.int w99), .unset, .unset] [(.long w21), (.int (2 : Int32)), (.ref b60)])) _
        refine XS.lload X5.here hx rfl (hb hby at_116) rfl ?_
        show Steps p.tables e below (T5.setTop (mkF m 118 #[.val (.long y0), .second, .val (.long y1), .second, .val (.long y2), .second, .val (.int y3), .val (.long w1), .second, .val (.long w2), .second, .val (.long w3), .second, .val (.ref b5), .val (.long w21), .second, .val (.long w36), .second, .val (.long w49), .second, .val (.ref b60), .val (.int (2 : Int32)), .val (.int w99), .unset, .unset] [(.long w36), (.long w21), (.int (2 : Int32)), (.ref b60)])) _
        refine XS.lload X5.here hx rfl (hb hby at_118) rfl ?_
        exact k)
    obtain ⟨_, _, ⟨T389, L389, k389, n389⟩, -, X389, ⟨Lc389, hQ389, l389, y389, z389⟩, st389⟩ := Jvm.LawKit.callS X5 hx (y := (⟨"com/example/zhangtiao/zhangtiao/input/VarLongsMoveToPinLaw", "pick", "(IJJJ)J"⟩ : MethodName)) hown (mvT hZ (hw _ (List.mem_of_getElem? (i := 111) rfl))) (mvT hZ (hw _ (List.mem_of_getElem? (i := 112) rfl))) (mvT hZ (hw _ (List.mem_of_getElem? (i := 113) rfl))) (mvT hZ (hw _ (List.mem_of_getElem? (i := 114) rfl))) (by decide) (backOf (W := 1) (rm_pk l Z av0 hw [] (2 : Int32) w21 w36 w49 h5 n0) hZ (hw _ (List.mem_of_getElem? (i := 114) rfl)) (hw _ (List.mem_of_getElem? (i := 113) rfl)) (by decide) (by decide)) (g := (mkF m 120 #[.val (.long y0), .second, .val (.long y1), .second, .val (.long y2), .second, .val (.int y3), .val (.long w1), .second, .val (.long w2), .second, .val (.long w3), .second, .val (.ref b5), .val (.long w21), .second, .val (.long w36), .second, .val (.long w49), .second, .val (.ref b60), .val (.int (2 : Int32)), .val (.int w99), .unset, .unset] [(.long w49), (.long w36), (.long w21), (.int (2 : Int32)), (.ref b60)])) rfl (by rw [hml]; rfl) (argsL := [(.int (2 : Int32)), (.long w21), (.long w36), (.long w49)]) (rest := [(.ref b60)]) (lenOf pd_13 rfl) rfl (by show 2 * 0 + _ ≤ _; exact Nat.le_of_eq rfl) (hb hby at_120) (fun _ _ => ⟨rfl, e5, (by decide : 5 + 0 ≤ _), (by decide : 65555 + 0 ≤ _)⟩)
    dsimp only [Pt.U, Pt.locs, Pt.cells, Pt.slots] at X389 l389 y389 z389 st389 hQ389
    subst l389 y389 z389
    obtain ⟨hv389, N389q, e389⟩ := hQ389
    rw [show own_pk (2 : Int32) w21 w36 w49 = w49 from rfl] at hv389
    subst hv389
    have N389 := Fr.app N5 N389q
    have pre389 : Go p.tables e below (s₁.setTop (entryFrame m #[(.long y0), (.long y1), (.long y2), (.int y3)] maxLocals)) T389 (mkF m 123 #[.val (.long y0), .second, .val (.long y1), .second, .val (.long y2), .second, .val (.int y3), .val (.long w1), .second, .val (.long w2), .second, .val (.long w3), .second, .val (.ref b5), .val (.long w21), .second, .val (.long w36), .second, .val (.long w49), .second, .val (.ref b60), .val (.int (2 : Int32)), .val (.int w99), .unset, .unset] [(.long w49), (.ref b60)]) := fun t k => pre388 t (st389 _ k)
    obtain ⟨cq390, kq390, q390a, q390b, q390c⟩ := isOf hZ e389 fb5_15
    obtain ⟨_, _, ⟨T390, L390, k390, n390⟩, -, X390, ⟨Lc390, hQ390, l390, y390, z390⟩, st390⟩ := X389.virtualBack hx (y := (⟨"com/example/zhangtiao/zhangtiao/input/VarLongs$Cursor", "moveTo", "(J)V"⟩ : MethodName)) (z := (⟨"com/example/zhangtiao/zhangtiao/input/VarLongs$Cursor", "moveTo", "(J)V"⟩ : MethodName)) hown (mvT hZ (hw _ (List.mem_of_getElem? (i := 115) rfl))) (mvT hZ (hw _ (List.mem_of_getElem? (i := 116) rfl))) (notFace_of_selects (args := #[]) (mvT hZ (hw _ (List.mem_of_getElem? (i := 118) rfl)))) (mvT hZ (hw _ (List.mem_of_getElem? (i := 118) rfl))) (mvT hZ (hw _ (List.mem_of_getElem? (i := 117) rfl))) (by decide) (backOf (W := 0) (rm_mvt l Z av0 hw [] b60 w49 (.ref b5) (0 : Int32) (0 : Int32) (([] ++ own_enc 8 w1) ++ own_enc 8 w2) h5 n0 fb5_0 fb5_12 fb5_13 fb5_14 fb5_15 gb5_3 (hw49.trans (own_pos1' _)) (Nat.lt_of_le_of_lt hL2 (by decide))) hZ (hw _ (List.mem_of_getElem? (i := 119) rfl)) (hw _ (List.mem_of_getElem? (i := 99) rfl)) (by decide) (by decide)) q390a q390c (g := (mkF m 123 #[.val (.long y0), .second, .val (.long y1), .second, .val (.long y2), .second, .val (.int y3), .val (.long w1), .second, .val (.long w2), .second, .val (.long w3), .second, .val (.ref b5), .val (.long w21), .second, .val (.long w36), .second, .val (.long w49), .second, .val (.ref b60), .val (.int (2 : Int32)), .val (.int w99), .unset, .unset] [(.long w49), (.ref b60)])) rfl (by rw [hml]; rfl) (Steps.refl _) (argsL := [(.long w49)]) (rest := []) (lenOf pd_10 rfl) rfl (by show 2 * 0 + _ ≤ _; exact Nat.le_of_eq rfl) (hb hby at_123) (fun _ _ => ⟨rfl, e389, (by decide : 5 + 0 ≤ _), (by decide : 65555 + 0 ≤ _)⟩)
    dsimp only [Pt.U, Pt.locs, Pt.cells, Pt.slots] at X390 l390 y390 z390 st390 hQ390
    subst l390 y390 z390
    obtain ⟨hv390, N390q, K390, fo390_0, fo390_1, fo390_2, fo390_3⟩ := hQ390
    have f391 : n0 ≤ T390.heap.size := Nat.le_trans fb5_0 K390.1
    have f392 : Old Z n0 T390.heap := fb5_1.keep K390 (allS gb5_3 all0)
    have f393 : Exa Z T390.heap b23 "[B" := fb5_2.keep K390
    have f394 : Exa Z T390.heap al13 "java/util/ArrayList" := fb5_3.keep K390
    have f395 : Fld Z T390.heap al13 "java/util/ArrayList" "elementData" "[Ljava/lang/Object;" (.ref ea23) := fb5_4.keep K390 (ninS nb5_2 nin0)
    have f396 : Fld Z T390.heap al13 "java/util/ArrayList" "size" "I" (.int ((0 : Int32) + (1 : Int32))) := fb5_5.keep K390 (ninS nb5_2 nin0)
    have f397 : Arv Z T390.heap ea23 ke23 (.object "java/lang/Object") (10 : Int32) [(.ref b23), .null, .null, .null, .null, .null, .null, .null, .null, .null] .null := fb5_6.keep K390 (ninS nb5_9.symm nin0)
    have f398 : Exa Z T390.heap b5 "com/example/zhangtiao/zhangtiao/input/VarLongs" := fb5_7.keep K390
    have f399 : Fld Z T390.heap b5 "com/example/zhangtiao/zhangtiao/input/VarLongs" "last" "[B" (.ref b23) := fb5_8.keep K390 (ninS nb5_7 nin0)
    have f400 : Fld Z T390.heap b5 "com/example/zhangtiao/zhangtiao/input/VarLongs" "position" "I" (.int (own_n ((([] ++ own_enc 8 w1) ++ own_enc 8 w2) ++ own_enc 8 w3))) := fb5_9.keep K390 (ninS nb5_7 nin0)
    have f401 : Fld Z T390.heap b5 "com/example/zhangtiao/zhangtiao/input/VarLongs" "chunks" "Ljava/util/List;" (.ref al13) := fb5_10.keep K390 (ninS nb5_7 nin0)
    have f402 : Arv Z T390.heap b23 kc23 .byte (65536 : Int32) ((([] ++ own_enc 8 w1) ++ own_enc 8 w2) ++ own_enc 8 w3) (.int (0 : Int32)) := fb5_11.keep K390 (ninS nb5_5 nin0)
    have f403 : Exa Z T390.heap b60 "com/example/zhangtiao/zhangtiao/input/VarLongs$Cursor" := fb5_15.keep K390
    subst hv390
    have N390 := Fr.app N389 N390q
    have pre390 : Go p.tables e below (s₁.setTop (entryFrame m #[(.long y0), (.long y1), (.long y2), (.int y3)] maxLocals)) T390 (mkF m 126 #[.val (.long y0), .second, .val (.long y1), .second, .val (.long y2), .second, .val (.int y3), .val (.long w1), .second, .val (.long w2), .second, .val (.long w3), .second, .val (.ref b5), .val (.long w21), .second, .val (.long w36), .second, .val (.long w49), .second, .val (.ref b60), .val (.int (2 : Int32)), .val (.int w99), .unset, .unset] []) := fun t k => pre389 t (st390.trans k)
    have pre404 : Go p.tables e below (s₁.setTop (entryFrame m #[(.long y0), (.long y1), (.long y2), (.int y3)] maxLocals)) T390 (mkF m 128 #[.val (.long y0), .second, .val (.long y1), .second, .val (.long y2), .second, .val (.int y3), .val (.long w1), .second, .val (.long w2), .second, .val (.long w3), .second, .val (.ref b5), .val (.long w21), .second, .val (.long w36), .second, .val (.long w49), .second, .val (.ref b60), .val (.int (2 : Int32)), .val (.int w99), .unset, .unset] [(.ref b60)]) := fun t k => pre390 t (by
        refine XS.aload X390.here hx rfl (hb hby at_126) rfl rfl ?_
        exact k)
    have fn405 := f402
    rw [own_l2 (own_enc 8 w1) (own_enc 8 w2) (own_enc 8 w3)] at fn405
    obtain ⟨cq406, kq406, q406a, q406b, q406c⟩ := isOf hZ rfl fo390_3
    obtain ⟨_, _, ⟨T406, L406, k406, n406⟩, -, X406, ⟨Lc406, hQ406, l406, y406, z406⟩, st406⟩ := X390.virtualBack hx (y := (⟨"com/example/zhangtiao/zhangtiao/input/VarLongs$Cursor", "next", "()J"⟩ : MethodName)) (z := (⟨"com/example/zhangtiao/zhangtiao/input/VarLongs$Cursor", "next", "()J"⟩ : MethodName)) hown (mvT hZ (hw _ (List.mem_of_getElem? (i := 125) rfl))) (mvT hZ (hw _ (List.mem_of_getElem? (i := 126) rfl))) (notFace_of_selects (args := #[]) (mvT hZ (hw _ (List.mem_of_getElem? (i := 128) rfl)))) (mvT hZ (hw _ (List.mem_of_getElem? (i := 128) rfl))) (mvT hZ (hw _ (List.mem_of_getElem? (i := 127) rfl))) (by decide) (backOf (W := 0) (rm_nxt l Z av0 hw [] b60 (.ref b5) b5 al13 ea23 ke23 b23 kc23 (([] ++ own_enc 8 w1) ++ own_enc 8 w2) w3 [] T390.heap n0 f391 fo390_0 fo390_1 fo390_2 fo390_3 f401 f394 f396 f395 f397 f393 fn405 gb5_3 nb5_5.symm nb5_7.symm nb5_2.symm nb5_9 rfl hq_w3 (Nat.lt_of_le_of_lt (Nat.add_le_add_right hL2 8) (by decide))) hZ (hw _ (List.mem_of_getElem? (i := 129) rfl)) (hw _ (List.mem_of_getElem? (i := 99) rfl)) (by decide) (by decide)) q406a q406c (g := (mkF m 128 #[.val (.long y0), .second, .val (.long y1), .second, .val (.long y2), .second, .val (.int y3), .val (.long w1), .second, .val (.long w2), .second, .val (.long w3), .second, .val (.ref b5), .val (.long w21), .second, .val (.long w36), .second, .val (.long w49), .second, .val (.ref b60), .val (.int (2 : Int32)), .val (.int w99), .unset, .unset] [(.ref b60)])) rfl (by rw [hml]; rfl) (Steps.refl _) (argsL := []) (rest := []) (lenOf pd_9 rfl) rfl (by show 2 * 0 + _ ≤ _; exact Nat.le_of_eq rfl) (hb hby at_128) (fun _ _ => ⟨rfl, rfl, (by decide : 5 + 0 ≤ _), (by decide : 65555 + 0 ≤ _)⟩)
    dsimp only [Pt.U, Pt.locs, Pt.cells, Pt.slots] at X406 l406 y406 z406 st406 hQ406
    subst l406 y406 z406
    obtain ⟨ta406, hv406, N406q, K406, fo406_0, fo406_1, fo406_2, fo406_3⟩ := hQ406
    have f407 : n0 ≤ T406.heap.size := Nat.le_trans f391 K406.1
    have f408 : Old Z n0 T406.heap := f392.keep K406 (allS gb5_3 all0)
    have f409 : Exa Z T406.heap b23 "[B" := f393.keep K406
    have f410 : Exa Z T406.heap al13 "java/util/ArrayList" := f394.keep K406
    have f411 : Fld Z T406.heap al13 "java/util/ArrayList" "elementData" "[Ljava/lang/Object;" (.ref ea23) := f395.keep K406 (ninS nb5_2 nin0)
    have f412 : Fld Z T406.heap al13 "java/util/ArrayList" "size" "I" (.int ((0 : Int32) + (1 : Int32))) := f396.keep K406 (ninS nb5_2 nin0)
    have f413 : Arv Z T406.heap ea23 ke23 (.object "java/lang/Object") (10 : Int32) [(.ref b23), .null, .null, .null, .null, .null, .null, .null, .null, .null] .null := f397.keep K406 (ninS nb5_9.symm nin0)
    have f414 : Exa Z T406.heap b5 "com/example/zhangtiao/zhangtiao/input/VarLongs" := f398.keep K406
    have f415 : Fld Z T406.heap b5 "com/example/zhangtiao/zhangtiao/input/VarLongs" "last" "[B" (.ref b23) := f399.keep K406 (ninS nb5_7 nin0)
    have f416 : Fld Z T406.heap b5 "com/example/zhangtiao/zhangtiao/input/VarLongs" "position" "I" (.int (own_n ((([] ++ own_enc 8 w1) ++ own_enc 8 w2) ++ own_enc 8 w3))) := f400.keep K406 (ninS nb5_7 nin0)
    have f417 : Fld Z T406.heap b5 "com/example/zhangtiao/zhangtiao/input/VarLongs" "chunks" "Ljava/util/List;" (.ref al13) := f401.keep K406 (ninS nb5_7 nin0)
    have f418 : Exa Z T406.heap b60 "com/example/zhangtiao/zhangtiao/input/VarLongs$Cursor" := fo390_3.keep K406
    have f419 : Arv Z T406.heap b23 kc23 .byte (65536 : Int32) ((([] ++ own_enc 8 w1) ++ own_enc 8 w2) ++ (own_enc 8 w3 ++ [])) (.int (0 : Int32)) := fn405.keep K406 (ninS nb5_5 nin0)
    subst hv406
    have N406 := Fr.app N390 N406q
    have pre406 : Go p.tables e below (s₁.setTop (entryFrame m #[(.long y0), (.long y1), (.long y2), (.int y3)] maxLocals)) T406 (mkF m 131 #[.val (.long y0), .second, .val (.long y1), .second, .val (.long y2), .second, .val (.int y3), .val (.long w1), .second, .val (.long w2), .second, .val (.long w3), .second, .val (.ref b5), .val (.long w21), .second, .val (.long w36), .second, .val (.long w49), .second, .val (.ref b60), .val (.int (2 : Int32)), .val (.int w99), .unset, .unset] [(.long w3)]) := fun t k => pre404 t (st406.trans k)
    have pre420 : Go p.tables e below (s₁.setTop (entryFrame m #[(.long y0), (.long y1), (.long y2), (.int y3)] maxLocals)) T406 (mkF m 139 #[.val (.long y0), .second, .val (.long y1), .second, .val (.long y2), .second, .val (.int y3), .val (.long w1), .second, .val (.long w2), .second, .val (.long w3), .second, .val (.ref b5), .val (.long w21), .second, .val (.long w36), .second, .val (.long w49), .second, .val (.ref b60), .val (.int (2 : Int32)), .val (.int w99), .unset, .unset] [(.long w3), (.long w2), (.long w1), (.int (2 : Int32)), (.long w3)]) := fun t k => pre406 t (by
        refine XS.iload X406.here hx rfl (hb hby at_131) rfl ?_
        show Steps p.tables e below (T406.setTop (mkF m 133 #[.val (.long y0), .second, .val (.long y1), .second, .val (.long y2), .second, .val (.int y3), .val (.long w1), .second, .val (.long w2), .second, .val (.long w3), .second, .val (.ref b5), .val (.long w21), .second, .val (.long w36), .second, .val (.long w49), .second, .val (.ref b60), .val (.int (2 : Int32)), .val (.int w99), .unset, .unset] [(.int (2 : Int32)), (.long w3)])) _
        refine XS.lload X406.here hx rfl (hb hby at_133) rfl ?_
        show Steps p.tables e below (T406.setTop (mkF m 135 #[.val (.long y0), .second, .val (.long y1), .second, .val (.long y2), .second, .val (.int y3), .val (.long w1), .second, .val (.long w2), .second, .val (.long w3), .second, .val (.ref b5), .val (.long w21), .second, .val (.long w36), .second, .val (.long w49), .second, .val (.ref b60), .val (.int (2 : Int32)), .val (.int w99), .unset, .unset] [(.long w1), (.int (2 : Int32)), (.long w3)])) _
        refine XS.lload X406.here hx rfl (hb hby at_135) rfl ?_
        show Steps p.tables e below (T406.setTop (mkF m 137 #[.val (.long y0), .second, .val (.long y1), .second, .val (.long y2), .second, .val (.int y3), .val (.long w1), .second, .val (.long w2), .second, .val (.long w3), .second, .val (.ref b5), .val (.long w21), .second, .val (.long w36), .second, .val (.long w49), .second, .val (.ref b60), .val (.int (2 : Int32)), .val (.int w99), .unset, .unset] [(.long w2), (.long w1), (.int (2 : Int32)), (.long w3)])) _
        refine XS.lload X406.here hx rfl (hb hby at_137) rfl ?_
        exact k)
    obtain ⟨_, _, ⟨T421, L421, k421, n421⟩, -, X421, ⟨Lc421, hQ421, l421, y421, z421⟩, st421⟩ := Jvm.LawKit.callS X406 hx (y := (⟨"com/example/zhangtiao/zhangtiao/input/VarLongsMoveToPinLaw", "pick", "(IJJJ)J"⟩ : MethodName)) hown (mvT hZ (hw _ (List.mem_of_getElem? (i := 111) rfl))) (mvT hZ (hw _ (List.mem_of_getElem? (i := 112) rfl))) (mvT hZ (hw _ (List.mem_of_getElem? (i := 113) rfl))) (mvT hZ (hw _ (List.mem_of_getElem? (i := 114) rfl))) (by decide) (backOf (W := 2) (rm_pk l Z av0 hw [] (2 : Int32) w1 w2 w3 T406.heap n0) hZ (hw _ (List.mem_of_getElem? (i := 114) rfl)) (hw _ (List.mem_of_getElem? (i := 113) rfl)) (by decide) (by decide)) (g := (mkF m 139 #[.val (.long y0), .second, .val (.long y1), .second, .val (.long y2), .second, .val (.int y3), .val (.long w1), .second, .val (.long w2), .second, .val (.long w3), .second, .val (.ref b5), .val (.long w21), .second, .val (.long w36), .second, .val (.long w49), .second, .val (.ref b60), .val (.int (2 : Int32)), .val (.int w99), .unset, .unset] [(.long w3), (.long w2), (.long w1), (.int (2 : Int32)), (.long w3)])) rfl (by rw [hml]; rfl) (argsL := [(.int (2 : Int32)), (.long w1), (.long w2), (.long w3)]) (rest := [(.long w3)]) (lenOf pd_13 rfl) rfl (by show 2 * 0 + _ ≤ _; exact Nat.le_of_eq rfl) (hb hby at_139) (fun _ _ => ⟨rfl, rfl, (by decide : 5 + 0 ≤ _), (by decide : 65555 + 0 ≤ _)⟩)
    dsimp only [Pt.U, Pt.locs, Pt.cells, Pt.slots] at X421 l421 y421 z421 st421 hQ421
    subst l421 y421 z421
    obtain ⟨hv421, N421q, e421⟩ := hQ421
    rw [show own_pk (2 : Int32) w1 w2 w3 = w3 from rfl] at hv421
    subst hv421
    have N421 := Fr.app N406 N421q
    have pre421 : Go p.tables e below (s₁.setTop (entryFrame m #[(.long y0), (.long y1), (.long y2), (.int y3)] maxLocals)) T421 (mkF m 142 #[.val (.long y0), .second, .val (.long y1), .second, .val (.long y2), .second, .val (.int y3), .val (.long w1), .second, .val (.long w2), .second, .val (.long w3), .second, .val (.ref b5), .val (.long w21), .second, .val (.long w36), .second, .val (.long w49), .second, .val (.ref b60), .val (.int (2 : Int32)), .val (.int w99), .unset, .unset] [(.long w3), (.long w3)]) := fun t k => pre420 t (st421 _ k)
    have pre422 : Go p.tables e below (s₁.setTop (entryFrame m #[(.long y0), (.long y1), (.long y2), (.int y3)] maxLocals)) T421 (mkF m 153 #[.val (.long y0), .second, .val (.long y1), .second, .val (.long y2), .second, .val (.int y3), .val (.long w1), .second, .val (.long w2), .second, .val (.long w3), .second, .val (.ref b5), .val (.long w21), .second, .val (.long w36), .second, .val (.long w49), .second, .val (.ref b60), .val (.int (2 : Int32)), .val (.int w99), .val (.int (1 : Int32)), .unset] []) := fun t k => pre421 t (by
        refine XS.lcmp X421.here hx rfl (hb hby at_142) rfl ?_
        show Steps p.tables e below (T421.setTop (mkF m 143 #[.val (.long y0), .second, .val (.long y1), .second, .val (.long y2), .second, .val (.int y3), .val (.long w1), .second, .val (.long w2), .second, .val (.long w3), .second, .val (.ref b5), .val (.long w21), .second, .val (.long w36), .second, .val (.long w49), .second, .val (.ref b60), .val (.int (2 : Int32)), .val (.int w99), .unset, .unset] [(.int (lcmpW w3 w3))])) _
        refine XS.ifNo X421.here hx rfl (hb hby at_143) rfl ((if0 _ _).trans (teq ((lw_eq _ _).mpr rfl)).2) ?_
        show Steps p.tables e below (T421.setTop (mkF m 146 #[.val (.long y0), .second, .val (.long y1), .second, .val (.long y2), .second, .val (.int y3), .val (.long w1), .second, .val (.long w2), .second, .val (.long w3), .second, .val (.ref b5), .val (.long w21), .second, .val (.long w36), .second, .val (.long w49), .second, .val (.ref b60), .val (.int (2 : Int32)), .val (.int w99), .unset, .unset] [])) _
        refine XS.iconst X421.here hx rfl (hb hby at_146) ?_
        show Steps p.tables e below (T421.setTop (mkF m 147 #[.val (.long y0), .second, .val (.long y1), .second, .val (.long y2), .second, .val (.int y3), .val (.long w1), .second, .val (.long w2), .second, .val (.long w3), .second, .val (.ref b5), .val (.long w21), .second, .val (.long w36), .second, .val (.long w49), .second, .val (.ref b60), .val (.int (2 : Int32)), .val (.int w99), .unset, .unset] [(.int (1 : Int32))])) _
        refine XS.goto X421.here hx rfl (pc0 := 147) (pc' := 151) rfl (hb hby at_147) (by decide) (by decide) ?_
        show Steps p.tables e below (T421.setTop (mkF m 151 #[.val (.long y0), .second, .val (.long y1), .second, .val (.long y2), .second, .val (.int y3), .val (.long w1), .second, .val (.long w2), .second, .val (.long w3), .second, .val (.ref b5), .val (.long w21), .second, .val (.long w36), .second, .val (.long w49), .second, .val (.ref b60), .val (.int (2 : Int32)), .val (.int w99), .unset, .unset] [(.int (1 : Int32))])) _
        refine XS.istore X421.here hx rfl (hb hby at_151) rfl (l' := #[.val (.long y0), .second, .val (.long y1), .second, .val (.long y2), .second, .val (.int y3), .val (.long w1), .second, .val (.long w2), .second, .val (.long w3), .second, .val (.ref b5), .val (.long w21), .second, .val (.long w36), .second, .val (.long w49), .second, .val (.ref b60), .val (.int (2 : Int32)), .val (.int w99), .val (.int (1 : Int32)), .unset]) rfl ?_
        exact k)
    have hq_w99 := own_mod3 ((y3.toUInt32 >>> ((8 : Int32) &&& 31).toUInt32).toInt32)
    rw [← hw99] at hq_w99
    clear hw99
    rcases (hq_w99) with rfl | rfl | rfl
    · -- w99 = (0 : Int32)
      have pre423 : Go p.tables e below (s₁.setTop (entryFrame m #[(.long y0), (.long y1), (.long y2), (.int y3)] maxLocals)) T421 (mkF m 163 #[.val (.long y0), .second, .val (.long y1), .second, .val (.long y2), .second, .val (.int y3), .val (.long w1), .second, .val (.long w2), .second, .val (.long w3), .second, .val (.ref b5), .val (.long w21), .second, .val (.long w36), .second, .val (.long w49), .second, .val (.ref b60), .val (.int (2 : Int32)), .val (.int (0 : Int32)), .val (.int (1 : Int32)), .unset] [(.long w49), (.long w36), (.long w21), (.int (0 : Int32)), (.ref b60)]) := fun t k => pre422 t (by
          refine XS.aload X421.here hx rfl (hb hby at_153) rfl rfl ?_
          show Steps p.tables e below (T421.setTop (mkF m 155 #[.val (.long y0), .second, .val (.long y1), .second, .val (.long y2), .second, .val (.int y3), .val (.long w1), .second, .val (.long w2), .second, .val (.long w3), .second, .val (.ref b5), .val (.long w21), .second, .val (.long w36), .second, .val (.long w49), .second, .val (.ref b60), .val (.int (2 : Int32)), .val (.int (0 : Int32)), .val (.int (1 : Int32)), .unset] [(.ref b60)])) _
          refine XS.iload X421.here hx rfl (hb hby at_155) rfl ?_
          show Steps p.tables e below (T421.setTop (mkF m 157 #[.val (.long y0), .second, .val (.long y1), .second, .val (.long y2), .second, .val (.int y3), .val (.long w1), .second, .val (.long w2), .second, .val (.long w3), .second, .val (.ref b5), .val (.long w21), .second, .val (.long w36), .second, .val (.long w49), .second, .val (.ref b60), .val (.int (2 : Int32)), .val (.int (0 : Int32)), .val (.int (1 : Int32)), .unset] [(.int (0 : Int32)), (.ref b60)])) _
          refine XS.lload X421.here hx rfl (hb hby at_157) rfl ?_
          show Steps p.tables e below (T421.setTop (mkF m 159 #[.val (.long y0), .second, .val (.long y1), .second, .val (.long y2), .second, .val (.int y3), .val (.long w1), .second, .val (.long w2), .second, .val (.long w3), .second, .val (.ref b5), .val (.long w21), .second, .val (.long w36), .second, .val (.long w49), .second, .val (.ref b60), .val (.int (2 : Int32)), .val (.int (0 : Int32)), .val (.int (1 : Int32)), .unset] [(.long w21), (.int (0 : Int32)), (.ref b60)])) _
          refine XS.lload X421.here hx rfl (hb hby at_159) rfl ?_
          show Steps p.tables e below (T421.setTop (mkF m 161 #[.val (.long y0), .second, .val (.long y1), .second, .val (.long y2), .second, .val (.int y3), .val (.long w1), .second, .val (.long w2), .second, .val (.long w3), .second, .val (.ref b5), .val (.long w21), .second, .val (.long w36), .second, .val (.long w49), .second, .val (.ref b60), .val (.int (2 : Int32)), .val (.int (0 : Int32)), .val (.int (1 : Int32)), .unset] [(.long w36), (.long w21), (.int (0 : Int32)), (.ref b60)])) _
          refine XS.lload X421.here hx rfl (hb hby at_161) rfl ?_
          exact k)
      obtain ⟨_, _, ⟨T424, L424, k424, n424⟩, -, X424, ⟨Lc424, hQ424, l424, y424, z424⟩, st424⟩ := Jvm.LawKit.callS X421 hx (y := (⟨"com/example/zhangtiao/zhangtiao/input/VarLongsMoveToPinLaw", "pick", "(IJJJ)J"⟩ : MethodName)) hown (mvT hZ (hw _ (List.mem_of_getElem? (i := 111) rfl))) (mvT hZ (hw _ (List.mem_of_getElem? (i := 112) rfl))) (mvT hZ (hw _ (List.mem_of_getElem? (i := 113) rfl))) (mvT hZ (hw _ (List.mem_of_getElem? (i := 114) rfl))) (by decide) (backOf (W := 1) (rm_pk l Z av0 hw [] (0 : Int32) w21 w36 w49 T406.heap n0) hZ (hw _ (List.mem_of_getElem? (i := 114) rfl)) (hw _ (List.mem_of_getElem? (i := 113) rfl)) (by decide) (by decide)) (g := (mkF m 163 #[.val (.long y0), .second, .val (.long y1), .second, .val (.long y2), .second, .val (.int y3), .val (.long w1), .second, .val (.long w2), .second, .val (.long w3), .second, .val (.ref b5), .val (.long w21), .second, .val (.long w36), .second, .val (.long w49), .second, .val (.ref b60), .val (.int (2 : Int32)), .val (.int (0 : Int32)), .val (.int (1 : Int32)), .unset] [(.long w49), (.long w36), (.long w21), (.int (0 : Int32)), (.ref b60)])) rfl (by rw [hml]; rfl) (argsL := [(.int (0 : Int32)), (.long w21), (.long w36), (.long w49)]) (rest := [(.ref b60)]) (lenOf pd_13 rfl) rfl (by show 2 * 0 + _ ≤ _; exact Nat.le_of_eq rfl) (hb hby at_163) (fun _ _ => ⟨rfl, e421, (by decide : 5 + 0 ≤ _), (by decide : 65555 + 0 ≤ _)⟩)
      dsimp only [Pt.U, Pt.locs, Pt.cells, Pt.slots] at X424 l424 y424 z424 st424 hQ424
      subst l424 y424 z424
      obtain ⟨hv424, N424q, e424⟩ := hQ424
      rw [show own_pk (0 : Int32) w21 w36 w49 = w21 from rfl] at hv424
      subst hv424
      have N424 := Fr.app N421 N424q
      have pre424 : Go p.tables e below (s₁.setTop (entryFrame m #[(.long y0), (.long y1), (.long y2), (.int y3)] maxLocals)) T424 (mkF m 166 #[.val (.long y0), .second, .val (.long y1), .second, .val (.long y2), .second, .val (.int y3), .val (.long w1), .second, .val (.long w2), .second, .val (.long w3), .second, .val (.ref b5), .val (.long w21), .second, .val (.long w36), .second, .val (.long w49), .second, .val (.ref b60), .val (.int (2 : Int32)), .val (.int (0 : Int32)), .val (.int (1 : Int32)), .unset] [(.long w21), (.ref b60)]) := fun t k => pre423 t (st424 _ k)
      obtain ⟨cq425, kq425, q425a, q425b, q425c⟩ := isOf hZ e424 fo406_3
      obtain ⟨_, _, ⟨T425, L425, k425, n425⟩, -, X425, ⟨Lc425, hQ425, l425, y425, z425⟩, st425⟩ := X424.virtualBack hx (y := (⟨"com/example/zhangtiao/zhangtiao/input/VarLongs$Cursor", "moveTo", "(J)V"⟩ : MethodName)) (z := (⟨"com/example/zhangtiao/zhangtiao/input/VarLongs$Cursor", "moveTo", "(J)V"⟩ : MethodName)) hown (mvT hZ (hw _ (List.mem_of_getElem? (i := 115) rfl))) (mvT hZ (hw _ (List.mem_of_getElem? (i := 116) rfl))) (notFace_of_selects (args := #[]) (mvT hZ (hw _ (List.mem_of_getElem? (i := 118) rfl)))) (mvT hZ (hw _ (List.mem_of_getElem? (i := 118) rfl))) (mvT hZ (hw _ (List.mem_of_getElem? (i := 117) rfl))) (by decide) (backOf (W := 0) (rm_mvt l Z av0 hw [] b60 w21 (.ref b5) (0 : Int32) ta406 [] T406.heap n0 f407 fo406_0 fo406_1 fo406_2 fo406_3 gb5_3 (hw21.trans own_p0) (by decide)) hZ (hw _ (List.mem_of_getElem? (i := 119) rfl)) (hw _ (List.mem_of_getElem? (i := 99) rfl)) (by decide) (by decide)) q425a q425c (g := (mkF m 166 #[.val (.long y0), .second, .val (.long y1), .second, .val (.long y2), .second, .val (.int y3), .val (.long w1), .second, .val (.long w2), .second, .val (.long w3), .second, .val (.ref b5), .val (.long w21), .second, .val (.long w36), .second, .val (.long w49), .second, .val (.ref b60), .val (.int (2 : Int32)), .val (.int (0 : Int32)), .val (.int (1 : Int32)), .unset] [(.long w21), (.ref b60)])) rfl (by rw [hml]; rfl) (Steps.refl _) (argsL := [(.long w21)]) (rest := []) (lenOf pd_10 rfl) rfl (by show 2 * 0 + _ ≤ _; exact Nat.le_of_eq rfl) (hb hby at_166) (fun _ _ => ⟨rfl, e424, (by decide : 5 + 0 ≤ _), (by decide : 65555 + 0 ≤ _)⟩)
      dsimp only [Pt.U, Pt.locs, Pt.cells, Pt.slots] at X425 l425 y425 z425 st425 hQ425
      subst l425 y425 z425
      obtain ⟨hv425, N425q, K425, fo425_0, fo425_1, fo425_2, fo425_3⟩ := hQ425
      have f426 : n0 ≤ T425.heap.size := Nat.le_trans f407 K425.1
      have f427 : Old Z n0 T425.heap := f408.keep K425 (allS gb5_3 all0)
      have f428 : Exa Z T425.heap b23 "[B" := f409.keep K425
      have f429 : Exa Z T425.heap al13 "java/util/ArrayList" := f410.keep K425
      have f430 : Fld Z T425.heap al13 "java/util/ArrayList" "elementData" "[Ljava/lang/Object;" (.ref ea23) := f411.keep K425 (ninS nb5_2 nin0)
      have f431 : Fld Z T425.heap al13 "java/util/ArrayList" "size" "I" (.int ((0 : Int32) + (1 : Int32))) := f412.keep K425 (ninS nb5_2 nin0)
      have f432 : Arv Z T425.heap ea23 ke23 (.object "java/lang/Object") (10 : Int32) [(.ref b23), .null, .null, .null, .null, .null, .null, .null, .null, .null] .null := f413.keep K425 (ninS nb5_9.symm nin0)
      have f433 : Exa Z T425.heap b5 "com/example/zhangtiao/zhangtiao/input/VarLongs" := f414.keep K425
      have f434 : Fld Z T425.heap b5 "com/example/zhangtiao/zhangtiao/input/VarLongs" "last" "[B" (.ref b23) := f415.keep K425 (ninS nb5_7 nin0)
      have f435 : Fld Z T425.heap b5 "com/example/zhangtiao/zhangtiao/input/VarLongs" "position" "I" (.int (own_n ((([] ++ own_enc 8 w1) ++ own_enc 8 w2) ++ own_enc 8 w3))) := f416.keep K425 (ninS nb5_7 nin0)
      have f436 : Fld Z T425.heap b5 "com/example/zhangtiao/zhangtiao/input/VarLongs" "chunks" "Ljava/util/List;" (.ref al13) := f417.keep K425 (ninS nb5_7 nin0)
      have f437 : Arv Z T425.heap b23 kc23 .byte (65536 : Int32) ((([] ++ own_enc 8 w1) ++ own_enc 8 w2) ++ (own_enc 8 w3 ++ [])) (.int (0 : Int32)) := f419.keep K425 (ninS nb5_5 nin0)
      have f438 : Exa Z T425.heap b60 "com/example/zhangtiao/zhangtiao/input/VarLongs$Cursor" := fo406_3.keep K425
      subst hv425
      have N425 := Fr.app N424 N425q
      have pre425 : Go p.tables e below (s₁.setTop (entryFrame m #[(.long y0), (.long y1), (.long y2), (.int y3)] maxLocals)) T425 (mkF m 169 #[.val (.long y0), .second, .val (.long y1), .second, .val (.long y2), .second, .val (.int y3), .val (.long w1), .second, .val (.long w2), .second, .val (.long w3), .second, .val (.ref b5), .val (.long w21), .second, .val (.long w36), .second, .val (.long w49), .second, .val (.ref b60), .val (.int (2 : Int32)), .val (.int (0 : Int32)), .val (.int (1 : Int32)), .unset] []) := fun t k => pre424 t (st425.trans k)
      have pre439 : Go p.tables e below (s₁.setTop (entryFrame m #[(.long y0), (.long y1), (.long y2), (.int y3)] maxLocals)) T425 (mkF m 171 #[.val (.long y0), .second, .val (.long y1), .second, .val (.long y2), .second, .val (.int y3), .val (.long w1), .second, .val (.long w2), .second, .val (.long w3), .second, .val (.ref b5), .val (.long w21), .second, .val (.long w36), .second, .val (.long w49), .second, .val (.ref b60), .val (.int (2 : Int32)), .val (.int (0 : Int32)), .val (.int (1 : Int32)), .unset] [(.ref b60)]) := fun t k => pre425 t (by
          refine XS.aload X425.here hx rfl (hb hby at_169) rfl rfl ?_
          exact k)
      have fn441 := f437
      rw [← own_l2 (own_enc 8 w1) (own_enc 8 w2) (own_enc 8 w3)] at fn441
      have fn440 := fn441
      rw [own_l0 (own_enc 8 w1) (own_enc 8 w2) (own_enc 8 w3)] at fn440
      obtain ⟨cq442, kq442, q442a, q442b, q442c⟩ := isOf hZ rfl fo425_3
      obtain ⟨_, _, ⟨T442, L442, k442, n442⟩, -, X442, ⟨Lc442, hQ442, l442, y442, z442⟩, st442⟩ := X425.virtualBack hx (y := (⟨"com/example/zhangtiao/zhangtiao/input/VarLongs$Cursor", "next", "()J"⟩ : MethodName)) (z := (⟨"com/example/zhangtiao/zhangtiao/input/VarLongs$Cursor", "next", "()J"⟩ : MethodName)) hown (mvT hZ (hw _ (List.mem_of_getElem? (i := 125) rfl))) (mvT hZ (hw _ (List.mem_of_getElem? (i := 126) rfl))) (notFace_of_selects (args := #[]) (mvT hZ (hw _ (List.mem_of_getElem? (i := 128) rfl)))) (mvT hZ (hw _ (List.mem_of_getElem? (i := 128) rfl))) (mvT hZ (hw _ (List.mem_of_getElem? (i := 127) rfl))) (by decide) (backOf (W := 0) (rm_nxt l Z av0 hw [] b60 (.ref b5) b5 al13 ea23 ke23 b23 kc23 [] w1 (own_enc 8 w2 ++ own_enc 8 w3) T425.heap n0 f426 fo425_0 fo425_1 fo425_2 fo425_3 f436 f429 f431 f430 f432 f428 fn440 gb5_3 nb5_5.symm nb5_7.symm nb5_2.symm nb5_9 rfl hq_w1 (by decide)) hZ (hw _ (List.mem_of_getElem? (i := 129) rfl)) (hw _ (List.mem_of_getElem? (i := 99) rfl)) (by decide) (by decide)) q442a q442c (g := (mkF m 171 #[.val (.long y0), .second, .val (.long y1), .second, .val (.long y2), .second, .val (.int y3), .val (.long w1), .second, .val (.long w2), .second, .val (.long w3), .second, .val (.ref b5), .val (.long w21), .second, .val (.long w36), .second, .val (.long w49), .second, .val (.ref b60), .val (.int (2 : Int32)), .val (.int (0 : Int32)), .val (.int (1 : Int32)), .unset] [(.ref b60)])) rfl (by rw [hml]; rfl) (Steps.refl _) (argsL := []) (rest := []) (lenOf pd_9 rfl) rfl (by show 2 * 0 + _ ≤ _; exact Nat.le_of_eq rfl) (hb hby at_171) (fun _ _ => ⟨rfl, rfl, (by decide : 5 + 0 ≤ _), (by decide : 65555 + 0 ≤ _)⟩)
      dsimp only [Pt.U, Pt.locs, Pt.cells, Pt.slots] at X442 l442 y442 z442 st442 hQ442
      subst l442 y442 z442
      obtain ⟨ta442, hv442, N442q, K442, fo442_0, fo442_1, fo442_2, fo442_3⟩ := hQ442
      have f443 : n0 ≤ T442.heap.size := Nat.le_trans f426 K442.1
      have f444 : Old Z n0 T442.heap := f427.keep K442 (allS gb5_3 all0)
      have f445 : Exa Z T442.heap b23 "[B" := f428.keep K442
      have f446 : Exa Z T442.heap al13 "java/util/ArrayList" := f429.keep K442
      have f447 : Fld Z T442.heap al13 "java/util/ArrayList" "elementData" "[Ljava/lang/Object;" (.ref ea23) := f430.keep K442 (ninS nb5_2 nin0)
      have f448 : Fld Z T442.heap al13 "java/util/ArrayList" "size" "I" (.int ((0 : Int32) + (1 : Int32))) := f431.keep K442 (ninS nb5_2 nin0)
      have f449 : Arv Z T442.heap ea23 ke23 (.object "java/lang/Object") (10 : Int32) [(.ref b23), .null, .null, .null, .null, .null, .null, .null, .null, .null] .null := f432.keep K442 (ninS nb5_9.symm nin0)
      have f450 : Exa Z T442.heap b5 "com/example/zhangtiao/zhangtiao/input/VarLongs" := f433.keep K442
      have f451 : Fld Z T442.heap b5 "com/example/zhangtiao/zhangtiao/input/VarLongs" "last" "[B" (.ref b23) := f434.keep K442 (ninS nb5_7 nin0)
      have f452 : Fld Z T442.heap b5 "com/example/zhangtiao/zhangtiao/input/VarLongs" "position" "I" (.int (own_n ((([] ++ own_enc 8 w1) ++ own_enc 8 w2) ++ own_enc 8 w3))) := f435.keep K442 (ninS nb5_7 nin0)
      have f453 : Fld Z T442.heap b5 "com/example/zhangtiao/zhangtiao/input/VarLongs" "chunks" "Ljava/util/List;" (.ref al13) := f436.keep K442 (ninS nb5_7 nin0)
      have f454 : Exa Z T442.heap b60 "com/example/zhangtiao/zhangtiao/input/VarLongs$Cursor" := fo425_3.keep K442
      have f455 : Arv Z T442.heap b23 kc23 .byte (65536 : Int32) ([] ++ (own_enc 8 w1 ++ (own_enc 8 w2 ++ own_enc 8 w3))) (.int (0 : Int32)) := fn440.keep K442 (ninS nb5_5 nin0)
      subst hv442
      have N442 := Fr.app N425 N442q
      have pre442 : Go p.tables e below (s₁.setTop (entryFrame m #[(.long y0), (.long y1), (.long y2), (.int y3)] maxLocals)) T442 (mkF m 174 #[.val (.long y0), .second, .val (.long y1), .second, .val (.long y2), .second, .val (.int y3), .val (.long w1), .second, .val (.long w2), .second, .val (.long w3), .second, .val (.ref b5), .val (.long w21), .second, .val (.long w36), .second, .val (.long w49), .second, .val (.ref b60), .val (.int (2 : Int32)), .val (.int (0 : Int32)), .val (.int (1 : Int32)), .unset] [(.long w1)]) := fun t k => pre439 t (st442.trans k)
      have pre456 : Go p.tables e below (s₁.setTop (entryFrame m #[(.long y0), (.long y1), (.long y2), (.int y3)] maxLocals)) T442 (mkF m 182 #[.val (.long y0), .second, .val (.long y1), .second, .val (.long y2), .second, .val (.int y3), .val (.long w1), .second, .val (.long w2), .second, .val (.long w3), .second, .val (.ref b5), .val (.long w21), .second, .val (.long w36), .second, .val (.long w49), .second, .val (.ref b60), .val (.int (2 : Int32)), .val (.int (0 : Int32)), .val (.int (1 : Int32)), .unset] [(.long w3), (.long w2), (.long w1), (.int (0 : Int32)), (.long w1)]) := fun t k => pre442 t (by
          refine XS.iload X442.here hx rfl (hb hby at_174) rfl ?_
          show Steps p.tables e below (T442.setTop (mkF m 176 #[.val (.long y0), .second, .val (.long y1), .second, .val (.long y2), .second, .val (.int y3), .val (.long w1), .second, .val (.long w2), .second, .val (.long w3), .second, .val (.ref b5), .val (.long w21), .second, .val (.long w36), .second, .val (.long w49), .second, .val (.ref b60), .val (.int (2 : Int32)), .val (.int (0 : Int32)), .val (.int (1 : Int32)), .unset] [(.int (0 : Int32)), (.long w1)])) _
          refine XS.lload X442.here hx rfl (hb hby at_176) rfl ?_
          show Steps p.tables e below (T442.setTop (mkF m 178 #[.val (.long y0), .second, .val (.long y1), .second, .val (.long y2), .second, .val (.int y3), .val (.long w1), .second, .val (.long w2), .second, .val (.long w3), .second, .val (.ref b5), .val (.long w21), .second, .val (.long w36), .second, .val (.long w49), .second, .val (.ref b60), .val (.int (2 : Int32)), .val (.int (0 : Int32)), .val (.int (1 : Int32)), .unset] [(.long w1), (.int (0 : Int32)), (.long w1)])) _
          refine XS.lload X442.here hx rfl (hb hby at_178) rfl ?_
          show Steps p.tables e below (T442.setTop (mkF m 180 #[.val (.long y0), .second, .val (.long y1), .second, .val (.long y2), .second, .val (.int y3), .val (.long w1), .second, .val (.long w2), .second, .val (.long w3), .second, .val (.ref b5), .val (.long w21), .second, .val (.long w36), .second, .val (.long w49), .second, .val (.ref b60), .val (.int (2 : Int32)), .val (.int (0 : Int32)), .val (.int (1 : Int32)), .unset] [(.long w2), (.long w1), (.int (0 : Int32)), (.long w1)])) _
          refine XS.lload X442.here hx rfl (hb hby at_180) rfl ?_
          exact k)
      obtain ⟨_, _, ⟨T457, L457, k457, n457⟩, -, X457, ⟨Lc457, hQ457, l457, y457, z457⟩, st457⟩ := Jvm.LawKit.callS X442 hx (y := (⟨"com/example/zhangtiao/zhangtiao/input/VarLongsMoveToPinLaw", "pick", "(IJJJ)J"⟩ : MethodName)) hown (mvT hZ (hw _ (List.mem_of_getElem? (i := 111) rfl))) (mvT hZ (hw _ (List.mem_of_getElem? (i := 112) rfl))) (mvT hZ (hw _ (List.mem_of_getElem? (i := 113) rfl))) (mvT hZ (hw _ (List.mem_of_getElem? (i := 114) rfl))) (by decide) (backOf (W := 2) (rm_pk l Z av0 hw [] (0 : Int32) w1 w2 w3 T442.heap n0) hZ (hw _ (List.mem_of_getElem? (i := 114) rfl)) (hw _ (List.mem_of_getElem? (i := 113) rfl)) (by decide) (by decide)) (g := (mkF m 182 #[.val (.long y0), .second, .val (.long y1), .second, .val (.long y2), .second, .val (.int y3), .val (.long w1), .second, .val (.long w2), .second, .val (.long w3), .second, .val (.ref b5), .val (.long w21), .second, .val (.long w36), .second, .val (.long w49), .second, .val (.ref b60), .val (.int (2 : Int32)), .val (.int (0 : Int32)), .val (.int (1 : Int32)), .unset] [(.long w3), (.long w2), (.long w1), (.int (0 : Int32)), (.long w1)])) rfl (by rw [hml]; rfl) (argsL := [(.int (0 : Int32)), (.long w1), (.long w2), (.long w3)]) (rest := [(.long w1)]) (lenOf pd_13 rfl) rfl (by show 2 * 0 + _ ≤ _; exact Nat.le_of_eq rfl) (hb hby at_182) (fun _ _ => ⟨rfl, rfl, (by decide : 5 + 0 ≤ _), (by decide : 65555 + 0 ≤ _)⟩)
      dsimp only [Pt.U, Pt.locs, Pt.cells, Pt.slots] at X457 l457 y457 z457 st457 hQ457
      subst l457 y457 z457
      obtain ⟨hv457, N457q, e457⟩ := hQ457
      rw [show own_pk (0 : Int32) w1 w2 w3 = w1 from rfl] at hv457
      subst hv457
      have N457 := Fr.app N442 N457q
      have pre457 : Go p.tables e below (s₁.setTop (entryFrame m #[(.long y0), (.long y1), (.long y2), (.int y3)] maxLocals)) T457 (mkF m 185 #[.val (.long y0), .second, .val (.long y1), .second, .val (.long y2), .second, .val (.int y3), .val (.long w1), .second, .val (.long w2), .second, .val (.long w3), .second, .val (.ref b5), .val (.long w21), .second, .val (.long w36), .second, .val (.long w49), .second, .val (.ref b60), .val (.int (2 : Int32)), .val (.int (0 : Int32)), .val (.int (1 : Int32)), .unset] [(.long w1), (.long w1)]) := fun t k => pre456 t (st457 _ k)
      have pre458 : Go p.tables e below (s₁.setTop (entryFrame m #[(.long y0), (.long y1), (.long y2), (.int y3)] maxLocals)) T457 (mkF m 211 #[.val (.long y0), .second, .val (.long y1), .second, .val (.long y2), .second, .val (.int y3), .val (.long w1), .second, .val (.long w2), .second, .val (.long w3), .second, .val (.ref b5), .val (.long w21), .second, .val (.long w36), .second, .val (.long w49), .second, .val (.ref b60), .val (.int (2 : Int32)), .val (.int (0 : Int32)), .val (.int (1 : Int32)), .val (.int (1 : Int32))] [(.int (1 : Int32))]) := fun t k => pre457 t (by
          refine XS.lcmp X457.here hx rfl (hb hby at_185) rfl ?_
          show Steps p.tables e below (T457.setTop (mkF m 186 #[.val (.long y0), .second, .val (.long y1), .second, .val (.long y2), .second, .val (.int y3), .val (.long w1), .second, .val (.long w2), .second, .val (.long w3), .second, .val (.ref b5), .val (.long w21), .second, .val (.long w36), .second, .val (.long w49), .second, .val (.ref b60), .val (.int (2 : Int32)), .val (.int (0 : Int32)), .val (.int (1 : Int32)), .unset] [(.int (lcmpW w1 w1))])) _
          refine XS.ifNo X457.here hx rfl (hb hby at_186) rfl ((if0 _ _).trans (teq ((lw_eq _ _).mpr rfl)).2) ?_
          show Steps p.tables e below (T457.setTop (mkF m 189 #[.val (.long y0), .second, .val (.long y1), .second, .val (.long y2), .second, .val (.int y3), .val (.long w1), .second, .val (.long w2), .second, .val (.long w3), .second, .val (.ref b5), .val (.long w21), .second, .val (.long w36), .second, .val (.long w49), .second, .val (.ref b60), .val (.int (2 : Int32)), .val (.int (0 : Int32)), .val (.int (1 : Int32)), .unset] [])) _
          refine XS.iconst X457.here hx rfl (hb hby at_189) ?_
          show Steps p.tables e below (T457.setTop (mkF m 190 #[.val (.long y0), .second, .val (.long y1), .second, .val (.long y2), .second, .val (.int y3), .val (.long w1), .second, .val (.long w2), .second, .val (.long w3), .second, .val (.ref b5), .val (.long w21), .second, .val (.long w36), .second, .val (.long w49), .second, .val (.ref b60), .val (.int (2 : Int32)), .val (.int (0 : Int32)), .val (.int (1 : Int32)), .unset] [(.int (1 : Int32))])) _
          refine XS.goto X457.here hx rfl (pc0 := 190) (pc' := 194) rfl (hb hby at_190) (by decide) (by decide) ?_
          show Steps p.tables e below (T457.setTop (mkF m 194 #[.val (.long y0), .second, .val (.long y1), .second, .val (.long y2), .second, .val (.int y3), .val (.long w1), .second, .val (.long w2), .second, .val (.long w3), .second, .val (.ref b5), .val (.long w21), .second, .val (.long w36), .second, .val (.long w49), .second, .val (.ref b60), .val (.int (2 : Int32)), .val (.int (0 : Int32)), .val (.int (1 : Int32)), .unset] [(.int (1 : Int32))])) _
          refine XS.istore X457.here hx rfl (hb hby at_194) rfl (l' := #[.val (.long y0), .second, .val (.long y1), .second, .val (.long y2), .second, .val (.int y3), .val (.long w1), .second, .val (.long w2), .second, .val (.long w3), .second, .val (.ref b5), .val (.long w21), .second, .val (.long w36), .second, .val (.long w49), .second, .val (.ref b60), .val (.int (2 : Int32)), .val (.int (0 : Int32)), .val (.int (1 : Int32)), .val (.int (1 : Int32))]) rfl ?_
          show Steps p.tables e below (T457.setTop (mkF m 196 #[.val (.long y0), .second, .val (.long y1), .second, .val (.long y2), .second, .val (.int y3), .val (.long w1), .second, .val (.long w2), .second, .val (.long w3), .second, .val (.ref b5), .val (.long w21), .second, .val (.long w36), .second, .val (.long w49), .second, .val (.ref b60), .val (.int (2 : Int32)), .val (.int (0 : Int32)), .val (.int (1 : Int32)), .val (.int (1 : Int32))] [])) _
          refine XS.iload X457.here hx rfl (hb hby at_196) rfl ?_
          show Steps p.tables e below (T457.setTop (mkF m 198 #[.val (.long y0), .second, .val (.long y1), .second, .val (.long y2), .second, .val (.int y3), .val (.long w1), .second, .val (.long w2), .second, .val (.long w3), .second, .val (.ref b5), .val (.long w21), .second, .val (.long w36), .second, .val (.long w49), .second, .val (.ref b60), .val (.int (2 : Int32)), .val (.int (0 : Int32)), .val (.int (1 : Int32)), .val (.int (1 : Int32))] [(.int (1 : Int32))])) _
          refine XS.ifNo X457.here hx rfl (hb hby at_198) rfl ((if0 _ _).trans (feq (by decide)).1) ?_
          show Steps p.tables e below (T457.setTop (mkF m 201 #[.val (.long y0), .second, .val (.long y1), .second, .val (.long y2), .second, .val (.int y3), .val (.long w1), .second, .val (.long w2), .second, .val (.long w3), .second, .val (.ref b5), .val (.long w21), .second, .val (.long w36), .second, .val (.long w49), .second, .val (.ref b60), .val (.int (2 : Int32)), .val (.int (0 : Int32)), .val (.int (1 : Int32)), .val (.int (1 : Int32))] [])) _
          refine XS.iload X457.here hx rfl (hb hby at_201) rfl ?_
          show Steps p.tables e below (T457.setTop (mkF m 203 #[.val (.long y0), .second, .val (.long y1), .second, .val (.long y2), .second, .val (.int y3), .val (.long w1), .second, .val (.long w2), .second, .val (.long w3), .second, .val (.ref b5), .val (.long w21), .second, .val (.long w36), .second, .val (.long w49), .second, .val (.ref b60), .val (.int (2 : Int32)), .val (.int (0 : Int32)), .val (.int (1 : Int32)), .val (.int (1 : Int32))] [(.int (1 : Int32))])) _
          refine XS.ifNo X457.here hx rfl (hb hby at_203) rfl ((if0 _ _).trans (feq (by decide)).1) ?_
          show Steps p.tables e below (T457.setTop (mkF m 206 #[.val (.long y0), .second, .val (.long y1), .second, .val (.long y2), .second, .val (.int y3), .val (.long w1), .second, .val (.long w2), .second, .val (.long w3), .second, .val (.ref b5), .val (.long w21), .second, .val (.long w36), .second, .val (.long w49), .second, .val (.ref b60), .val (.int (2 : Int32)), .val (.int (0 : Int32)), .val (.int (1 : Int32)), .val (.int (1 : Int32))] [])) _
          refine XS.iconst X457.here hx rfl (hb hby at_206) ?_
          show Steps p.tables e below (T457.setTop (mkF m 207 #[.val (.long y0), .second, .val (.long y1), .second, .val (.long y2), .second, .val (.int y3), .val (.long w1), .second, .val (.long w2), .second, .val (.long w3), .second, .val (.ref b5), .val (.long w21), .second, .val (.long w36), .second, .val (.long w49), .second, .val (.ref b60), .val (.int (2 : Int32)), .val (.int (0 : Int32)), .val (.int (1 : Int32)), .val (.int (1 : Int32))] [(.int (1 : Int32))])) _
          refine XS.goto X457.here hx rfl (pc0 := 207) (pc' := 211) rfl (hb hby at_207) (by decide) (by decide) ?_
          exact k)
      obtain ⟨fs, hr, hrun, hended, hW, hsame⟩ := X457.leave (v := some (.int (1 : Int32))) (fun h => by rw [Bd.returns] at h; cases h) (BodyLoose.notSynchronized Bd)
      refine ⟨_, _, pre458 _ ?_, hrun, hended, _, _, rfl, ?_, ⟨_, rfl⟩, hW, hsame.mono (Nat.le_of_ble_eq_true rfl) (Nat.le_of_ble_eq_true rfl)⟩
      · exact retN X457 hx (t := .boolean) Bd.returns (by simp) (hb hby at_211) hr
      · show Q_law Z y0 y1 y2 y3 ad kd h0 n0 _ T457.heap _
        rw [e457]
        exact ⟨rfl, N457⟩
    · -- w99 = (1 : Int32)
      have pre459 : Go p.tables e below (s₁.setTop (entryFrame m #[(.long y0), (.long y1), (.long y2), (.int y3)] maxLocals)) T421 (mkF m 163 #[.val (.long y0), .second, .val (.long y1), .second, .val (.long y2), .second, .val (.int y3), .val (.long w1), .second, .val (.long w2), .second, .val (.long w3), .second, .val (.ref b5), .val (.long w21), .second, .val (.long w36), .second, .val (.long w49), .second, .val (.ref b60), .val (.int (2 : Int32)), .val (.int (1 : Int32)), .val (.int (1 : Int32)), .unset] [(.long w49), (.long w36), (.long w21), (.int (1 : Int32)), (.ref b60)]) := fun t k => pre422 t (by
          refine XS.aload X421.here hx rfl (hb hby at_153) rfl rfl ?_
          show Steps p.tables e below (T421.setTop (mkF m 155 #[.val (.long y0), .second, .val (.long y1), .second, .val (.long y2), .second, .val (.int y3), .val (.long w1), .second, .val (.long w2), .second, .val (.long w3), .second, .val (.ref b5), .val (.long w21), .second, .val (.long w36), .second, .val (.long w49), .second, .val (.ref b60), .val (.int (2 : Int32)), .val (.int (1 : Int32)), .val (.int (1 : Int32)), .unset] [(.ref b60)])) _
          refine XS.iload X421.here hx rfl (hb hby at_155) rfl ?_
          show Steps p.tables e below (T421.setTop (mkF m 157 #[.val (.long y0), .second, .val (.long y1), .second, .val (.long y2), .second, .val (.int y3), .val (.long w1), .second, .val (.long w2), .second, .val (.long w3), .second, .val (.ref b5), .val (.long w21), .second, .val (.long w36), .second, .val (.long w49), .second, .val (.ref b60), .val (.int (2 : Int32)), .val (.int (1 : Int32)), .val (.int (1 : Int32)), .unset] [(.int (1 : Int32)), (.ref b60)])) _
          refine XS.lload X421.here hx rfl (hb hby at_157) rfl ?_
          show Steps p.tables e below (T421.setTop (mkF m 159 #[.val (.long y0), .second, .val (.long y1), .second, .val (.long y2), .second, .val (.int y3), .val (.long w1), .second, .val (.long w2), .second, .val (.long w3), .second, .val (.ref b5), .val (.long w21), .second, .val (.long w36), .second, .val (.long w49), .second, .val (.ref b60), .val (.int (2 : Int32)), .val (.int (1 : Int32)), .val (.int (1 : Int32)), .unset] [(.long w21), (.int (1 : Int32)), (.ref b60)])) _
          refine XS.lload X421.here hx rfl (hb hby at_159) rfl ?_
          show Steps p.tables e below (T421.setTop (mkF m 161 #[.val (.long y0), .second, .val (.long y1), .second, .val (.long y2), .second, .val (.int y3), .val (.long w1), .second, .val (.long w2), .second, .val (.long w3), .second, .val (.ref b5), .val (.long w21), .second, .val (.long w36), .second, .val (.long w49), .second, .val (.ref b60), .val (.int (2 : Int32)), .val (.int (1 : Int32)), .val (.int (1 : Int32)), .unset] [(.long w36), (.long w21), (.int (1 : Int32)), (.ref b60)])) _
          refine XS.lload X421.here hx rfl (hb hby at_161) rfl ?_
          exact k)
      obtain ⟨_, _, ⟨T460, L460, k460, n460⟩, -, X460, ⟨Lc460, hQ460, l460, y460, z460⟩, st460⟩ := Jvm.LawKit.callS X421 hx (y := (⟨"com/example/zhangtiao/zhangtiao/input/VarLongsMoveToPinLaw", "pick", "(IJJJ)J"⟩ : MethodName)) hown (mvT hZ (hw _ (List.mem_of_getElem? (i := 111) rfl))) (mvT hZ (hw _ (List.mem_of_getElem? (i := 112) rfl))) (mvT hZ (hw _ (List.mem_of_getElem? (i := 113) rfl))) (mvT hZ (hw _ (List.mem_of_getElem? (i := 114) rfl))) (by decide) (backOf (W := 1) (rm_pk l Z av0 hw [] (1 : Int32) w21 w36 w49 T406.heap n0) hZ (hw _ (List.mem_of_getElem? (i := 114) rfl)) (hw _ (List.mem_of_getElem? (i := 113) rfl)) (by decide) (by decide)) (g := (mkF m 163 #[.val (.long y0), .second, .val (.long y1), .second, .val (.long y2), .second, .val (.int y3), .val (.long w1), .second, .val (.long w2), .second, .val (.long w3), .second, .val (.ref b5), .val (.long w21), .second, .val (.long w36), .second, .val (.long w49), .second, .val (.ref b60), .val (.int (2 : Int32)), .val (.int (1 : Int32)), .val (.int (1 : Int32)), .unset] [(.long w49), (.long w36), (.long w21), (.int (1 : Int32)), (.ref b60)])) rfl (by rw [hml]; rfl) (argsL := [(.int (1 : Int32)), (.long w21), (.long w36), (.long w49)]) (rest := [(.ref b60)]) (lenOf pd_13 rfl) rfl (by show 2 * 0 + _ ≤ _; exact Nat.le_of_eq rfl) (hb hby at_163) (fun _ _ => ⟨rfl, e421, (by decide : 5 + 0 ≤ _), (by decide : 65555 + 0 ≤ _)⟩)
      dsimp only [Pt.U, Pt.locs, Pt.cells, Pt.slots] at X460 l460 y460 z460 st460 hQ460
      subst l460 y460 z460
      obtain ⟨hv460, N460q, e460⟩ := hQ460
      rw [show own_pk (1 : Int32) w21 w36 w49 = w36 from rfl] at hv460
      subst hv460
      have N460 := Fr.app N421 N460q
      have pre460 : Go p.tables e below (s₁.setTop (entryFrame m #[(.long y0), (.long y1), (.long y2), (.int y3)] maxLocals)) T460 (mkF m 166 #[.val (.long y0), .second, .val (.long y1), .second, .val (.long y2), .second, .val (.int y3), .val (.long w1), .second, .val (.long w2), .second, .val (.long w3), .second, .val (.ref b5), .val (.long w21), .second, .val (.long w36), .second, .val (.long w49), .second, .val (.ref b60), .val (.int (2 : Int32)), .val (.int (1 : Int32)), .val (.int (1 : Int32)), .unset] [(.long w36), (.ref b60)]) := fun t k => pre459 t (st460 _ k)
      obtain ⟨cq461, kq461, q461a, q461b, q461c⟩ := isOf hZ e460 fo406_3
      obtain ⟨_, _, ⟨T461, L461, k461, n461⟩, -, X461, ⟨Lc461, hQ461, l461, y461, z461⟩, st461⟩ := X460.virtualBack hx (y := (⟨"com/example/zhangtiao/zhangtiao/input/VarLongs$Cursor", "moveTo", "(J)V"⟩ : MethodName)) (z := (⟨"com/example/zhangtiao/zhangtiao/input/VarLongs$Cursor", "moveTo", "(J)V"⟩ : MethodName)) hown (mvT hZ (hw _ (List.mem_of_getElem? (i := 115) rfl))) (mvT hZ (hw _ (List.mem_of_getElem? (i := 116) rfl))) (notFace_of_selects (args := #[]) (mvT hZ (hw _ (List.mem_of_getElem? (i := 118) rfl)))) (mvT hZ (hw _ (List.mem_of_getElem? (i := 118) rfl))) (mvT hZ (hw _ (List.mem_of_getElem? (i := 117) rfl))) (by decide) (backOf (W := 0) (rm_mvt l Z av0 hw [] b60 w36 (.ref b5) (0 : Int32) ta406 ([] ++ own_enc 8 w1) T406.heap n0 f407 fo406_0 fo406_1 fo406_2 fo406_3 gb5_3 (hw36.trans (own_pos1' _)) (Nat.lt_of_le_of_lt hL1 (by decide))) hZ (hw _ (List.mem_of_getElem? (i := 119) rfl)) (hw _ (List.mem_of_getElem? (i := 99) rfl)) (by decide) (by decide)) q461a q461c (g := (mkF m 166 #[.val (.long y0), .second, .val (.long y1), .second, .val (.long y2), .second, .val (.int y3), .val (.long w1), .second, .val (.long w2), .second, .val (.long w3), .second, .val (.ref b5), .val (.long w21), .second, .val (.long w36), .second, .val (.long w49), .second, .val (.ref b60), .val (.int (2 : Int32)), .val (.int (1 : Int32)), .val (.int (1 : Int32)), .unset] [(.long w36), (.ref b60)])) rfl (by rw [hml]; rfl) (Steps.refl _) (argsL := [(.long w36)]) (rest := []) (lenOf pd_10 rfl) rfl (by show 2 * 0 + _ ≤ _; exact Nat.le_of_eq rfl) (hb hby at_166) (fun _ _ => ⟨rfl, e460, (by decide : 5 + 0 ≤ _), (by decide : 65555 + 0 ≤ _)⟩)
      dsimp only [Pt.U, Pt.locs, Pt.cells, Pt.slots] at X461 l461 y461 z461 st461 hQ461
      subst l461 y461 z461
      obtain ⟨hv461, N461q, K461, fo461_0, fo461_1, fo461_2, fo461_3⟩ := hQ461
      have f462 : n0 ≤ T461.heap.size := Nat.le_trans f407 K461.1
      have f463 : Old Z n0 T461.heap := f408.keep K461 (allS gb5_3 all0)
      have f464 : Exa Z T461.heap b23 "[B" := f409.keep K461
      have f465 : Exa Z T461.heap al13 "java/util/ArrayList" := f410.keep K461
      have f466 : Fld Z T461.heap al13 "java/util/ArrayList" "elementData" "[Ljava/lang/Object;" (.ref ea23) := f411.keep K461 (ninS nb5_2 nin0)
      have f467 : Fld Z T461.heap al13 "java/util/ArrayList" "size" "I" (.int ((0 : Int32) + (1 : Int32))) := f412.keep K461 (ninS nb5_2 nin0)
      have f468 : Arv Z T461.heap ea23 ke23 (.object "java/lang/Object") (10 : Int32) [(.ref b23), .null, .null, .null, .null, .null, .null, .null, .null, .null] .null := f413.keep K461 (ninS nb5_9.symm nin0)
      have f469 : Exa Z T461.heap b5 "com/example/zhangtiao/zhangtiao/input/VarLongs" := f414.keep K461
      have f470 : Fld Z T461.heap b5 "com/example/zhangtiao/zhangtiao/input/VarLongs" "last" "[B" (.ref b23) := f415.keep K461 (ninS nb5_7 nin0)
      have f471 : Fld Z T461.heap b5 "com/example/zhangtiao/zhangtiao/input/VarLongs" "position" "I" (.int (own_n ((([] ++ own_enc 8 w1) ++ own_enc 8 w2) ++ own_enc 8 w3))) := f416.keep K461 (ninS nb5_7 nin0)
      have f472 : Fld Z T461.heap b5 "com/example/zhangtiao/zhangtiao/input/VarLongs" "chunks" "Ljava/util/List;" (.ref al13) := f417.keep K461 (ninS nb5_7 nin0)
      have f473 : Arv Z T461.heap b23 kc23 .byte (65536 : Int32) ((([] ++ own_enc 8 w1) ++ own_enc 8 w2) ++ (own_enc 8 w3 ++ [])) (.int (0 : Int32)) := f419.keep K461 (ninS nb5_5 nin0)
      have f474 : Exa Z T461.heap b60 "com/example/zhangtiao/zhangtiao/input/VarLongs$Cursor" := fo406_3.keep K461
      subst hv461
      have N461 := Fr.app N460 N461q
      have pre461 : Go p.tables e below (s₁.setTop (entryFrame m #[(.long y0), (.long y1), (.long y2), (.int y3)] maxLocals)) T461 (mkF m 169 #[.val (.long y0), .second, .val (.long y1), .second, .val (.long y2), .second, .val (.int y3), .val (.long w1), .second, .val (.long w2), .second, .val (.long w3), .second, .val (.ref b5), .val (.long w21), .second, .val (.long w36), .second, .val (.long w49), .second, .val (.ref b60), .val (.int (2 : Int32)), .val (.int (1 : Int32)), .val (.int (1 : Int32)), .unset] []) := fun t k => pre460 t (st461.trans k)
      have pre475 : Go p.tables e below (s₁.setTop (entryFrame m #[(.long y0), (.long y1), (.long y2), (.int y3)] maxLocals)) T461 (mkF m 171 #[.val (.long y0), .second, .val (.long y1), .second, .val (.long y2), .second, .val (.int y3), .val (.long w1), .second, .val (.long w2), .second, .val (.long w3), .second, .val (.ref b5), .val (.long w21), .second, .val (.long w36), .second, .val (.long w49), .second, .val (.ref b60), .val (.int (2 : Int32)), .val (.int (1 : Int32)), .val (.int (1 : Int32)), .unset] [(.ref b60)]) := fun t k => pre461 t (by
          refine XS.aload X461.here hx rfl (hb hby at_169) rfl rfl ?_
          exact k)
      have fn477 := f473
      rw [← own_l2 (own_enc 8 w1) (own_enc 8 w2) (own_enc 8 w3)] at fn477
      have fn476 := fn477
      rw [own_l1 (own_enc 8 w1) (own_enc 8 w2) (own_enc 8 w3)] at fn476
      obtain ⟨cq478, kq478, q478a, q478b, q478c⟩ := isOf hZ rfl fo461_3
      obtain ⟨_, _, ⟨T478, L478, k478, n478⟩, -, X478, ⟨Lc478, hQ478, l478, y478, z478⟩, st478⟩ := X461.virtualBack hx (y := (⟨"com/example/zhangtiao/zhangtiao/input/VarLongs$Cursor", "next", "()J"⟩ : MethodName)) (z := (⟨"com/example/zhangtiao/zhangtiao/input/VarLongs$Cursor", "next", "()J"⟩ : MethodName)) hown (mvT hZ (hw _ (List.mem_of_getElem? (i := 125) rfl))) (mvT hZ (hw _ (List.mem_of_getElem? (i := 126) rfl))) (notFace_of_selects (args := #[]) (mvT hZ (hw _ (List.mem_of_getElem? (i := 128) rfl)))) (mvT hZ (hw _ (List.mem_of_getElem? (i := 128) rfl))) (mvT hZ (hw _ (List.mem_of_getElem? (i := 127) rfl))) (by decide) (backOf (W := 0) (rm_nxt l Z av0 hw [] b60 (.ref b5) b5 al13 ea23 ke23 b23 kc23 ([] ++ own_enc 8 w1) w2 (own_enc 8 w3) T461.heap n0 f462 fo461_0 fo461_1 fo461_2 fo461_3 f472 f465 f467 f466 f468 f464 fn476 gb5_3 nb5_5.symm nb5_7.symm nb5_2.symm nb5_9 rfl hq_w2 (Nat.lt_of_le_of_lt (Nat.add_le_add_right hL1 8) (by decide))) hZ (hw _ (List.mem_of_getElem? (i := 129) rfl)) (hw _ (List.mem_of_getElem? (i := 99) rfl)) (by decide) (by decide)) q478a q478c (g := (mkF m 171 #[.val (.long y0), .second, .val (.long y1), .second, .val (.long y2), .second, .val (.int y3), .val (.long w1), .second, .val (.long w2), .second, .val (.long w3), .second, .val (.ref b5), .val (.long w21), .second, .val (.long w36), .second, .val (.long w49), .second, .val (.ref b60), .val (.int (2 : Int32)), .val (.int (1 : Int32)), .val (.int (1 : Int32)), .unset] [(.ref b60)])) rfl (by rw [hml]; rfl) (Steps.refl _) (argsL := []) (rest := []) (lenOf pd_9 rfl) rfl (by show 2 * 0 + _ ≤ _; exact Nat.le_of_eq rfl) (hb hby at_171) (fun _ _ => ⟨rfl, rfl, (by decide : 5 + 0 ≤ _), (by decide : 65555 + 0 ≤ _)⟩)
      dsimp only [Pt.U, Pt.locs, Pt.cells, Pt.slots] at X478 l478 y478 z478 st478 hQ478
      subst l478 y478 z478
      obtain ⟨ta478, hv478, N478q, K478, fo478_0, fo478_1, fo478_2, fo478_3⟩ := hQ478
      have f479 : n0 ≤ T478.heap.size := Nat.le_trans f462 K478.1
      have f480 : Old Z n0 T478.heap := f463.keep K478 (allS gb5_3 all0)
      have f481 : Exa Z T478.heap b23 "[B" := f464.keep K478
      have f482 : Exa Z T478.heap al13 "java/util/ArrayList" := f465.keep K478
      have f483 : Fld Z T478.heap al13 "java/util/ArrayList" "elementData" "[Ljava/lang/Object;" (.ref ea23) := f466.keep K478 (ninS nb5_2 nin0)
      have f484 : Fld Z T478.heap al13 "java/util/ArrayList" "size" "I" (.int ((0 : Int32) + (1 : Int32))) := f467.keep K478 (ninS nb5_2 nin0)
      have f485 : Arv Z T478.heap ea23 ke23 (.object "java/lang/Object") (10 : Int32) [(.ref b23), .null, .null, .null, .null, .null, .null, .null, .null, .null] .null := f468.keep K478 (ninS nb5_9.symm nin0)
      have f486 : Exa Z T478.heap b5 "com/example/zhangtiao/zhangtiao/input/VarLongs" := f469.keep K478
      have f487 : Fld Z T478.heap b5 "com/example/zhangtiao/zhangtiao/input/VarLongs" "last" "[B" (.ref b23) := f470.keep K478 (ninS nb5_7 nin0)
      have f488 : Fld Z T478.heap b5 "com/example/zhangtiao/zhangtiao/input/VarLongs" "position" "I" (.int (own_n ((([] ++ own_enc 8 w1) ++ own_enc 8 w2) ++ own_enc 8 w3))) := f471.keep K478 (ninS nb5_7 nin0)
      have f489 : Fld Z T478.heap b5 "com/example/zhangtiao/zhangtiao/input/VarLongs" "chunks" "Ljava/util/List;" (.ref al13) := f472.keep K478 (ninS nb5_7 nin0)
      have f490 : Exa Z T478.heap b60 "com/example/zhangtiao/zhangtiao/input/VarLongs$Cursor" := fo461_3.keep K478
      have f491 : Arv Z T478.heap b23 kc23 .byte (65536 : Int32) (([] ++ own_enc 8 w1) ++ (own_enc 8 w2 ++ (own_enc 8 w3))) (.int (0 : Int32)) := fn476.keep K478 (ninS nb5_5 nin0)
      subst hv478
      have N478 := Fr.app N461 N478q
      have pre478 : Go p.tables e below (s₁.setTop (entryFrame m #[(.long y0), (.long y1), (.long y2), (.int y3)] maxLocals)) T478 (mkF m 174 #[.val (.long y0), .second, .val (.long y1), .second, .val (.long y2), .second, .val (.int y3), .val (.long w1), .second, .val (.long w2), .second, .val (.long w3), .second, .val (.ref b5), .val (.long w21), .second, .val (.long w36), .second, .val (.long w49), .second, .val (.ref b60), .val (.int (2 : Int32)), .val (.int (1 : Int32)), .val (.int (1 : Int32)), .unset] [(.long w2)]) := fun t k => pre475 t (st478.trans k)
      have pre492 : Go p.tables e below (s₁.setTop (entryFrame m #[(.long y0), (.long y1), (.long y2), (.int y3)] maxLocals)) T478 (mkF m 182 #[.val (.long y0), .second, .val (.long y1), .second, .val (.long y2), .second, .val (.int y3), .val (.long w1), .second, .val (.long w2), .second, .val (.long w3), .second, .val (.ref b5), .val (.long w21), .second, .val (.long w36), .second, .val (.long w49), .second, .val (.ref b60), .val (.int (2 : Int32)), .val (.int (1 : Int32)), .val (.int (1 : Int32)), .unset] [(.long w3), (.long w2), (.long w1), (.int (1 : Int32)), (.long w2)]) := fun t k => pre478 t (by
          refine XS.iload X478.here hx rfl (hb hby at_174) rfl ?_
          show Steps p.tables e below (T478.setTop (mkF m 176 #[.val (.long y0), .second, .val (.long y1), .second, .val (.long y2), .second, .val (.int y3), .val (.long w1), .second, .val (.long w2), .second, .val (.long w3), .second, .val (.ref b5), .val (.long w21), .second, .val (.long w36), .second, .val (.long w49), .second, .val (.ref b60), .val (.int (2 : Int32)), .val (.int (1 : Int32)), .val (.int (1 : Int32)), .unset] [(.int (1 : Int32)), (.long w2)])) _
          refine XS.lload X478.here hx rfl (hb hby at_176) rfl ?_
          show Steps p.tables e below (T478.setTop (mkF m 178 #[.val (.long y0), .second, .val (.long y1), .second, .val (.long y2), .second, .val (.int y3), .val (.long w1), .second, .val (.long w2), .second, .val (.long w3), .second, .val (.ref b5), .val (.long w21), .second, .val (.long w36), .second, .val (.long w49), .second, .val (.ref b60), .val (.int (2 : Int32)), .val (.int (1 : Int32)), .val (.int (1 : Int32)), .unset] [(.long w1), (.int (1 : Int32)), (.long w2)])) _
          refine XS.lload X478.here hx rfl (hb hby at_178) rfl ?_
          show Steps p.tables e below (T478.setTop (mkF m 180 #[.val (.long y0), .second, .val (.long y1), .second, .val (.long y2), .second, .val (.int y3), .val (.long w1), .second, .val (.long w2), .second, .val (.long w3), .second, .val (.ref b5), .val (.long w21), .second, .val (.long w36), .second, .val (.long w49), .second, .val (.ref b60), .val (.int (2 : Int32)), .val (.int (1 : Int32)), .val (.int (1 : Int32)), .unset] [(.long w2), (.long w1), (.int (1 : Int32)), (.long w2)])) _
          refine XS.lload X478.here hx rfl (hb hby at_180) rfl ?_
          exact k)
      obtain ⟨_, _, ⟨T493, L493, k493, n493⟩, -, X493, ⟨Lc493, hQ493, l493, y493, z493⟩, st493⟩ := Jvm.LawKit.callS X478 hx (y := (⟨"com/example/zhangtiao/zhangtiao/input/VarLongsMoveToPinLaw", "pick", "(IJJJ)J"⟩ : MethodName)) hown (mvT hZ (hw _ (List.mem_of_getElem? (i := 111) rfl))) (mvT hZ (hw _ (List.mem_of_getElem? (i := 112) rfl))) (mvT hZ (hw _ (List.mem_of_getElem? (i := 113) rfl))) (mvT hZ (hw _ (List.mem_of_getElem? (i := 114) rfl))) (by decide) (backOf (W := 2) (rm_pk l Z av0 hw [] (1 : Int32) w1 w2 w3 T478.heap n0) hZ (hw _ (List.mem_of_getElem? (i := 114) rfl)) (hw _ (List.mem_of_getElem? (i := 113) rfl)) (by decide) (by decide)) (g := (mkF m 182 #[.val (.long y0), .second, .val (.long y1), .second, .val (.long y2), .second, .val (.int y3), .val (.long w1), .second, .val (.long w2), .second, .val (.long w3), .second, .val (.ref b5), .val (.long w21), .second, .val (.long w36), .second, .val (.long w49), .second, .val (.ref b60), .val (.int (2 : Int32)), .val (.int (1 : Int32)), .val (.int (1 : Int32)), .unset] [(.long w3), (.long w2), (.long w1), (.int (1 : Int32)), (.long w2)])) rfl (by rw [hml]; rfl) (argsL := [(.int (1 : Int32)), (.long w1), (.long w2), (.long w3)]) (rest := [(.long w2)]) (lenOf pd_13 rfl) rfl (by show 2 * 0 + _ ≤ _; exact Nat.le_of_eq rfl) (hb hby at_182) (fun _ _ => ⟨rfl, rfl, (by decide : 5 + 0 ≤ _), (by decide : 65555 + 0 ≤ _)⟩)
      dsimp only [Pt.U, Pt.locs, Pt.cells, Pt.slots] at X493 l493 y493 z493 st493 hQ493
      subst l493 y493 z493
      obtain ⟨hv493, N493q, e493⟩ := hQ493
      rw [show own_pk (1 : Int32) w1 w2 w3 = w2 from rfl] at hv493
      subst hv493
      have N493 := Fr.app N478 N493q
      have pre493 : Go p.tables e below (s₁.setTop (entryFrame m #[(.long y0), (.long y1), (.long y2), (.int y3)] maxLocals)) T493 (mkF m 185 #[.val (.long y0), .second, .val (.long y1), .second, .val (.long y2), .second, .val (.int y3), .val (.long w1), .second, .val (.long w2), .second, .val (.long w3), .second, .val (.ref b5), .val (.long w21), .second, .val (.long w36), .second, .val (.long w49), .second, .val (.ref b60), .val (.int (2 : Int32)), .val (.int (1 : Int32)), .val (.int (1 : Int32)), .unset] [(.long w2), (.long w2)]) := fun t k => pre492 t (st493 _ k)
      have pre494 : Go p.tables e below (s₁.setTop (entryFrame m #[(.long y0), (.long y1), (.long y2), (.int y3)] maxLocals)) T493 (mkF m 211 #[.val (.long y0), .second, .val (.long y1), .second, .val (.long y2), .second, .val (.int y3), .val (.long w1), .second, .val (.long w2), .second, .val (.long w3), .second, .val (.ref b5), .val (.long w21), .second, .val (.long w36), .second, .val (.long w49), .second, .val (.ref b60), .val (.int (2 : Int32)), .val (.int (1 : Int32)), .val (.int (1 : Int32)), .val (.int (1 : Int32))] [(.int (1 : Int32))]) := fun t k => pre493 t (by
          refine XS.lcmp X493.here hx rfl (hb hby at_185) rfl ?_
          show Steps p.tables e below (T493.setTop (mkF m 186 #[.val (.long y0), .second, .val (.long y1), .second, .val (.long y2), .second, .val (.int y3), .val (.long w1), .second, .val (.long w2), .second, .val (.long w3), .second, .val (.ref b5), .val (.long w21), .second, .val (.long w36), .second, .val (.long w49), .second, .val (.ref b60), .val (.int (2 : Int32)), .val (.int (1 : Int32)), .val (.int (1 : Int32)), .unset] [(.int (lcmpW w2 w2))])) _
          refine XS.ifNo X493.here hx rfl (hb hby at_186) rfl ((if0 _ _).trans (teq ((lw_eq _ _).mpr rfl)).2) ?_
          show Steps p.tables e below (T493.setTop (mkF m 189 #[.val (.long y0), .second, .val (.long y1), .second, .val (.long y2), .second, .val (.int y3), .val (.long w1), .second, .val (.long w2), .second, .val (.long w3), .second, .val (.ref b5), .val (.long w21), .second, .val (.long w36), .second, .val (.long w49), .second, .val (.ref b60), .val (.int (2 : Int32)), .val (.int (1 : Int32)), .val (.int (1 : Int32)), .unset] [])) _
          refine XS.iconst X493.here hx rfl (hb hby at_189) ?_
          show Steps p.tables e below (T493.setTop (mkF m 190 #[.val (.long y0), .second, .val (.long y1), .second, .val (.long y2), .second, .val (.int y3), .val (.long w1), .second, .val (.long w2), .second, .val (.long w3), .second, .val (.ref b5), .val (.long w21), .second, .val (.long w36), .second, .val (.long w49), .second, .val (.ref b60), .val (.int (2 : Int32)), .val (.int (1 : Int32)), .val (.int (1 : Int32)), .unset] [(.int (1 : Int32))])) _
          refine XS.goto X493.here hx rfl (pc0 := 190) (pc' := 194) rfl (hb hby at_190) (by decide) (by decide) ?_
          show Steps p.tables e below (T493.setTop (mkF m 194 #[.val (.long y0), .second, .val (.long y1), .second, .val (.long y2), .second, .val (.int y3), .val (.long w1), .second, .val (.long w2), .second, .val (.long w3), .second, .val (.ref b5), .val (.long w21), .second, .val (.long w36), .second, .val (.long w49), .second, .val (.ref b60), .val (.int (2 : Int32)), .val (.int (1 : Int32)), .val (.int (1 : Int32)), .unset] [(.int (1 : Int32))])) _
          refine XS.istore X493.here hx rfl (hb hby at_194) rfl (l' := #[.val (.long y0), .second, .val (.long y1), .second, .val (.long y2), .second, .val (.int y3), .val (.long w1), .second, .val (.long w2), .second, .val (.long w3), .second, .val (.ref b5), .val (.long w21), .second, .val (.long w36), .second, .val (.long w49), .second, .val (.ref b60), .val (.int (2 : Int32)), .val (.int (1 : Int32)), .val (.int (1 : Int32)), .val (.int (1 : Int32))]) rfl ?_
          show Steps p.tables e below (T493.setTop (mkF m 196 #[.val (.long y0), .second, .val (.long y1), .second, .val (.long y2), .second, .val (.int y3), .val (.long w1), .second, .val (.long w2), .second, .val (.long w3), .second, .val (.ref b5), .val (.long w21), .second, .val (.long w36), .second, .val (.long w49), .second, .val (.ref b60), .val (.int (2 : Int32)), .val (.int (1 : Int32)), .val (.int (1 : Int32)), .val (.int (1 : Int32))] [])) _
          refine XS.iload X493.here hx rfl (hb hby at_196) rfl ?_
          show Steps p.tables e below (T493.setTop (mkF m 198 #[.val (.long y0), .second, .val (.long y1), .second, .val (.long y2), .second, .val (.int y3), .val (.long w1), .second, .val (.long w2), .second, .val (.long w3), .second, .val (.ref b5), .val (.long w21), .second, .val (.long w36), .second, .val (.long w49), .second, .val (.ref b60), .val (.int (2 : Int32)), .val (.int (1 : Int32)), .val (.int (1 : Int32)), .val (.int (1 : Int32))] [(.int (1 : Int32))])) _
          refine XS.ifNo X493.here hx rfl (hb hby at_198) rfl ((if0 _ _).trans (feq (by decide)).1) ?_
          show Steps p.tables e below (T493.setTop (mkF m 201 #[.val (.long y0), .second, .val (.long y1), .second, .val (.long y2), .second, .val (.int y3), .val (.long w1), .second, .val (.long w2), .second, .val (.long w3), .second, .val (.ref b5), .val (.long w21), .second, .val (.long w36), .second, .val (.long w49), .second, .val (.ref b60), .val (.int (2 : Int32)), .val (.int (1 : Int32)), .val (.int (1 : Int32)), .val (.int (1 : Int32))] [])) _
          refine XS.iload X493.here hx rfl (hb hby at_201) rfl ?_
          show Steps p.tables e below (T493.setTop (mkF m 203 #[.val (.long y0), .second, .val (.long y1), .second, .val (.long y2), .second, .val (.int y3), .val (.long w1), .second, .val (.long w2), .second, .val (.long w3), .second, .val (.ref b5), .val (.long w21), .second, .val (.long w36), .second, .val (.long w49), .second, .val (.ref b60), .val (.int (2 : Int32)), .val (.int (1 : Int32)), .val (.int (1 : Int32)), .val (.int (1 : Int32))] [(.int (1 : Int32))])) _
          refine XS.ifNo X493.here hx rfl (hb hby at_203) rfl ((if0 _ _).trans (feq (by decide)).1) ?_
          show Steps p.tables e below (T493.setTop (mkF m 206 #[.val (.long y0), .second, .val (.long y1), .second, .val (.long y2), .second, .val (.int y3), .val (.long w1), .second, .val (.long w2), .second, .val (.long w3), .second, .val (.ref b5), .val (.long w21), .second, .val (.long w36), .second, .val (.long w49), .second, .val (.ref b60), .val (.int (2 : Int32)), .val (.int (1 : Int32)), .val (.int (1 : Int32)), .val (.int (1 : Int32))] [])) _
          refine XS.iconst X493.here hx rfl (hb hby at_206) ?_
          show Steps p.tables e below (T493.setTop (mkF m 207 #[.val (.long y0), .second, .val (.long y1), .second, .val (.long y2), .second, .val (.int y3), .val (.long w1), .second, .val (.long w2), .second, .val (.long w3), .second, .val (.ref b5), .val (.long w21), .second, .val (.long w36), .second, .val (.long w49), .second, .val (.ref b60), .val (.int (2 : Int32)), .val (.int (1 : Int32)), .val (.int (1 : Int32)), .val (.int (1 : Int32))] [(.int (1 : Int32))])) _
          refine XS.goto X493.here hx rfl (pc0 := 207) (pc' := 211) rfl (hb hby at_207) (by decide) (by decide) ?_
          exact k)
      obtain ⟨fs, hr, hrun, hended, hW, hsame⟩ := X493.leave (v := some (.int (1 : Int32))) (fun h => by rw [Bd.returns] at h; cases h) (BodyLoose.notSynchronized Bd)
      refine ⟨_, _, pre494 _ ?_, hrun, hended, _, _, rfl, ?_, ⟨_, rfl⟩, hW, hsame.mono (Nat.le_of_ble_eq_true rfl) (Nat.le_of_ble_eq_true rfl)⟩
      · exact retN X493 hx (t := .boolean) Bd.returns (by simp) (hb hby at_211) hr
      · show Q_law Z y0 y1 y2 y3 ad kd h0 n0 _ T493.heap _
        rw [e493]
        exact ⟨rfl, N493⟩
    · -- w99 = (2 : Int32)
      have pre495 : Go p.tables e below (s₁.setTop (entryFrame m #[(.long y0), (.long y1), (.long y2), (.int y3)] maxLocals)) T421 (mkF m 163 #[.val (.long y0), .second, .val (.long y1), .second, .val (.long y2), .second, .val (.int y3), .val (.long w1), .second, .val (.long w2), .second, .val (.long w3), .second, .val (.ref b5), .val (.long w21), .second, .val (.long w36), .second, .val (.long w49), .second, .val (.ref b60), .val (.int (2 : Int32)), .val (.int (2 : Int32)), .val (.int (1 : Int32)), .unset] [(.long w49), (.long w36), (.long w21), (.int (2 : Int32)), (.ref b60)]) := fun t k => pre422 t (by
          refine XS.aload X421.here hx rfl (hb hby at_153) rfl rfl ?_
          show Steps p.tables e below (T421.setTop (mkF m 155 #[.val (.long y0), .second, .val (.long y1), .second, .val (.long y2), .second, .val (.int y3), .val (.long w1), .second, .val (.long w2), .second, .val (.long w3), .second, .val (.ref b5), .val (.long w21), .second, .val (.long w36), .second, .val (.long w49), .second, .val (.ref b60), .val (.int (2 : Int32)), .val (.int (2 : Int32)), .val (.int (1 : Int32)), .unset] [(.ref b60)])) _
          refine XS.iload X421.here hx rfl (hb hby at_155) rfl ?_
          show Steps p.tables e below (T421.setTop (mkF m 157 #[.val (.long y0), .second, .val (.long y1), .second, .val (.long y2), .second, .val (.int y3), .val (.long w1), .second, .val (.long w2), .second, .val (.long w3), .second, .val (.ref b5), .val (.long w21), .second, .val (.long w36), .second, .val (.long w49), .second, .val (.ref b60), .val (.int (2 : Int32)), .val (.int (2 : Int32)), .val (.int (1 : Int32)), .unset] [(.int (2 : Int32)), (.ref b60)])) _
          refine XS.lload X421.here hx rfl (hb hby at_157) rfl ?_
          show Steps p.tables e below (T421.setTop (mkF m 159 #[.val (.long y0), .second, .val (.long y1), .second, .val (.long y2), .second, .val (.int y3), .val (.long w1), .second, .val (.long w2), .second, .val (.long w3), .second, .val (.ref b5), .val (.long w21), .second, .val (.long w36), .second, .val (.long w49), .second, .val (.ref b60), .val (.int (2 : Int32)), .val (.int (2 : Int32)), .val (.int (1 : Int32)), .unset] [(.long w21), (.int (2 : Int32)), (.ref b60)])) _
          refine XS.lload X421.here hx rfl (hb hby at_159) rfl ?_
          show Steps p.tables e below (T421.setTop (mkF m 161 #[.val (.long y0), .second, .val (.long y1), .second, .val (.long y2), .second, .val (.int y3), .val (.long w1), .second, .val (.long w2), .second, .val (.long w3), .second, .val (.ref b5), .val (.long w21), .second, .val (.long w36), .second, .val (.long w49), .second, .val (.ref b60), .val (.int (2 : Int32)), .val (.int (2 : Int32)), .val (.int (1 : Int32)), .unset] [(.long w36), (.long w21), (.int (2 : Int32)), (.ref b60)])) _
          refine XS.lload X421.here hx rfl (hb hby at_161) rfl ?_
          exact k)
      obtain ⟨_, _, ⟨T496, L496, k496, n496⟩, -, X496, ⟨Lc496, hQ496, l496, y496, z496⟩, st496⟩ := Jvm.LawKit.callS X421 hx (y := (⟨"com/example/zhangtiao/zhangtiao/input/VarLongsMoveToPinLaw", "pick", "(IJJJ)J"⟩ : MethodName)) hown (mvT hZ (hw _ (List.mem_of_getElem? (i := 111) rfl))) (mvT hZ (hw _ (List.mem_of_getElem? (i := 112) rfl))) (mvT hZ (hw _ (List.mem_of_getElem? (i := 113) rfl))) (mvT hZ (hw _ (List.mem_of_getElem? (i := 114) rfl))) (by decide) (backOf (W := 1) (rm_pk l Z av0 hw [] (2 : Int32) w21 w36 w49 T406.heap n0) hZ (hw _ (List.mem_of_getElem? (i := 114) rfl)) (hw _ (List.mem_of_getElem? (i := 113) rfl)) (by decide) (by decide)) (g := (mkF m 163 #[.val (.long y0), .second, .val (.long y1), .second, .val (.long y2), .second, .val (.int y3), .val (.long w1), .second, .val (.long w2), .second, .val (.long w3), .second, .val (.ref b5), .val (.long w21), .second, .val (.long w36), .second, .val (.long w49), .second, .val (.ref b60), .val (.int (2 : Int32)), .val (.int (2 : Int32)), .val (.int (1 : Int32)), .unset] [(.long w49), (.long w36), (.long w21), (.int (2 : Int32)), (.ref b60)])) rfl (by rw [hml]; rfl) (argsL := [(.int (2 : Int32)), (.long w21), (.long w36), (.long w49)]) (rest := [(.ref b60)]) (lenOf pd_13 rfl) rfl (by show 2 * 0 + _ ≤ _; exact Nat.le_of_eq rfl) (hb hby at_163) (fun _ _ => ⟨rfl, e421, (by decide : 5 + 0 ≤ _), (by decide : 65555 + 0 ≤ _)⟩)
      dsimp only [Pt.U, Pt.locs, Pt.cells, Pt.slots] at X496 l496 y496 z496 st496 hQ496
      subst l496 y496 z496
      obtain ⟨hv496, N496q, e496⟩ := hQ496
      rw [show own_pk (2 : Int32) w21 w36 w49 = w49 from rfl] at hv496
      subst hv496
      have N496 := Fr.app N421 N496q
      have pre496 : Go p.tables e below (s₁.setTop (entryFrame m #[(.long y0), (.long y1), (.long y2), (.int y3)] maxLocals)) T496 (mkF m 166 #[.val (.long y0), .second, .val (.long y1), .second, .val (.long y2), .second, .val (.int y3), .val (.long w1), .second, .val (.long w2), .second, .val (.long w3), .second, .val (.ref b5), .val (.long w21), .second, .val (.long w36), .second, .val (.long w49), .second, .val (.ref b60), .val (.int (2 : Int32)), .val (.int (2 : Int32)), .val (.int (1 : Int32)), .unset] [(.long w49), (.ref b60)]) := fun t k => pre495 t (st496 _ k)
      obtain ⟨cq497, kq497, q497a, q497b, q497c⟩ := isOf hZ e496 fo406_3
      obtain ⟨_, _, ⟨T497, L497, k497, n497⟩, -, X497, ⟨Lc497, hQ497, l497, y497, z497⟩, st497⟩ := X496.virtualBack hx (y := (⟨"com/example/zhangtiao/zhangtiao/input/VarLongs$Cursor", "moveTo", "(J)V"⟩ : MethodName)) (z := (⟨"com/example/zhangtiao/zhangtiao/input/VarLongs$Cursor", "moveTo", "(J)V"⟩ : MethodName)) hown (mvT hZ (hw _ (List.mem_of_getElem? (i := 115) rfl))) (mvT hZ (hw _ (List.mem_of_getElem? (i := 116) rfl))) (notFace_of_selects (args := #[]) (mvT hZ (hw _ (List.mem_of_getElem? (i := 118) rfl)))) (mvT hZ (hw _ (List.mem_of_getElem? (i := 118) rfl))) (mvT hZ (hw _ (List.mem_of_getElem? (i := 117) rfl))) (by decide) (backOf (W := 0) (rm_mvt l Z av0 hw [] b60 w49 (.ref b5) (0 : Int32) ta406 (([] ++ own_enc 8 w1) ++ own_enc 8 w2) T406.heap n0 f407 fo406_0 fo406_1 fo406_2 fo406_3 gb5_3 (hw49.trans (own_pos1' _)) (Nat.lt_of_le_of_lt hL2 (by decide))) hZ (hw _ (List.mem_of_getElem? (i := 119) rfl)) (hw _ (List.mem_of_getElem? (i := 99) rfl)) (by decide) (by decide)) q497a q497c (g := (mkF m 166 #[.val (.long y0), .second, .val (.long y1), .second, .val (.long y2), .second, .val (.int y3), .val (.long w1), .second, .val (.long w2), .second, .val (.long w3), .second, .val (.ref b5), .val (.long w21), .second, .val (.long w36), .second, .val (.long w49), .second, .val (.ref b60), .val (.int (2 : Int32)), .val (.int (2 : Int32)), .val (.int (1 : Int32)), .unset] [(.long w49), (.ref b60)])) rfl (by rw [hml]; rfl) (Steps.refl _) (argsL := [(.long w49)]) (rest := []) (lenOf pd_10 rfl) rfl (by show 2 * 0 + _ ≤ _; exact Nat.le_of_eq rfl) (hb hby at_166) (fun _ _ => ⟨rfl, e496, (by decide : 5 + 0 ≤ _), (by decide : 65555 + 0 ≤ _)⟩)
      dsimp only [Pt.U, Pt.locs, Pt.cells, Pt.slots] at X497 l497 y497 z497 st497 hQ497
      subst l497 y497 z497
      obtain ⟨hv497, N497q, K497, fo497_0, fo497_1, fo497_2, fo497_3⟩ := hQ497
      have f498 : n0 ≤ T497.heap.size := Nat.le_trans f407 K497.1
      have f499 : Old Z n0 T497.heap := f408.keep K497 (allS gb5_3 all0)
      have f500 : Exa Z T497.heap b23 "[B" := f409.keep K497
      have f501 : Exa Z T497.heap al13 "java/util/ArrayList" := f410.keep K497
      have f502 : Fld Z T497.heap al13 "java/util/ArrayList" "elementData" "[Ljava/lang/Object;" (.ref ea23) := f411.keep K497 (ninS nb5_2 nin0)
      have f503 : Fld Z T497.heap al13 "java/util/ArrayList" "size" "I" (.int ((0 : Int32) + (1 : Int32))) := f412.keep K497 (ninS nb5_2 nin0)
      have f504 : Arv Z T497.heap ea23 ke23 (.object "java/lang/Object") (10 : Int32) [(.ref b23), .null, .null, .null, .null, .null, .null, .null, .null, .null] .null := f413.keep K497 (ninS nb5_9.symm nin0)
      have f505 : Exa Z T497.heap b5 "com/example/zhangtiao/zhangtiao/input/VarLongs" := f414.keep K497
      have f506 : Fld Z T497.heap b5 "com/example/zhangtiao/zhangtiao/input/VarLongs" "last" "[B" (.ref b23) := f415.keep K497 (ninS nb5_7 nin0)
      have f507 : Fld Z T497.heap b5 "com/example/zhangtiao/zhangtiao/input/VarLongs" "position" "I" (.int (own_n ((([] ++ own_enc 8 w1) ++ own_enc 8 w2) ++ own_enc 8 w3))) := f416.keep K497 (ninS nb5_7 nin0)
      have f508 : Fld Z T497.heap b5 "com/example/zhangtiao/zhangtiao/input/VarLongs" "chunks" "Ljava/util/List;" (.ref al13) := f417.keep K497 (ninS nb5_7 nin0)
      have f509 : Arv Z T497.heap b23 kc23 .byte (65536 : Int32) ((([] ++ own_enc 8 w1) ++ own_enc 8 w2) ++ (own_enc 8 w3 ++ [])) (.int (0 : Int32)) := f419.keep K497 (ninS nb5_5 nin0)
      have f510 : Exa Z T497.heap b60 "com/example/zhangtiao/zhangtiao/input/VarLongs$Cursor" := fo406_3.keep K497
      subst hv497
      have N497 := Fr.app N496 N497q
      have pre497 : Go p.tables e below (s₁.setTop (entryFrame m #[(.long y0), (.long y1), (.long y2), (.int y3)] maxLocals)) T497 (mkF m 169 #[.val (.long y0), .second, .val (.long y1), .second, .val (.long y2), .second, .val (.int y3), .val (.long w1), .second, .val (.long w2), .second, .val (.long w3), .second, .val (.ref b5), .val (.long w21), .second, .val (.long w36), .second, .val (.long w49), .second, .val (.ref b60), .val (.int (2 : Int32)), .val (.int (2 : Int32)), .val (.int (1 : Int32)), .unset] []) := fun t k => pre496 t (st497.trans k)
      have pre511 : Go p.tables e below (s₁.setTop (entryFrame m #[(.long y0), (.long y1), (.long y2), (.int y3)] maxLocals)) T497 (mkF m 171 #[.val (.long y0), .second, .val (.long y1), .second, .val (.long y2), .second, .val (.int y3), .val (.long w1), .second, .val (.long w2), .second, .val (.long w3), .second, .val (.ref b5), .val (.long w21), .second, .val (.long w36), .second, .val (.long w49), .second, .val (.ref b60), .val (.int (2 : Int32)), .val (.int (2 : Int32)), .val (.int (1 : Int32)), .unset] [(.ref b60)]) := fun t k => pre497 t (by
          refine XS.aload X497.here hx rfl (hb hby at_169) rfl rfl ?_
          exact k)
      have fn513 := f509
      rw [← own_l2 (own_enc 8 w1) (own_enc 8 w2) (own_enc 8 w3)] at fn513
      have fn512 := fn513
      rw [own_l2 (own_enc 8 w1) (own_enc 8 w2) (own_enc 8 w3)] at fn512
      obtain ⟨cq514, kq514, q514a, q514b, q514c⟩ := isOf hZ rfl fo497_3
      obtain ⟨_, _, ⟨T514, L514, k514, n514⟩, -, X514, ⟨Lc514, hQ514, l514, y514, z514⟩, st514⟩ := X497.virtualBack hx (y := (⟨"com/example/zhangtiao/zhangtiao/input/VarLongs$Cursor", "next", "()J"⟩ : MethodName)) (z := (⟨"com/example/zhangtiao/zhangtiao/input/VarLongs$Cursor", "next", "()J"⟩ : MethodName)) hown (mvT hZ (hw _ (List.mem_of_getElem? (i := 125) rfl))) (mvT hZ (hw _ (List.mem_of_getElem? (i := 126) rfl))) (notFace_of_selects (args := #[]) (mvT hZ (hw _ (List.mem_of_getElem? (i := 128) rfl)))) (mvT hZ (hw _ (List.mem_of_getElem? (i := 128) rfl))) (mvT hZ (hw _ (List.mem_of_getElem? (i := 127) rfl))) (by decide) (backOf (W := 0) (rm_nxt l Z av0 hw [] b60 (.ref b5) b5 al13 ea23 ke23 b23 kc23 (([] ++ own_enc 8 w1) ++ own_enc 8 w2) w3 [] T497.heap n0 f498 fo497_0 fo497_1 fo497_2 fo497_3 f508 f501 f503 f502 f504 f500 fn512 gb5_3 nb5_5.symm nb5_7.symm nb5_2.symm nb5_9 rfl hq_w3 (Nat.lt_of_le_of_lt (Nat.add_le_add_right hL2 8) (by decide))) hZ (hw _ (List.mem_of_getElem? (i := 129) rfl)) (hw _ (List.mem_of_getElem? (i := 99) rfl)) (by decide) (by decide)) q514a q514c (g := (mkF m 171 #[.val (.long y0), .second, .val (.long y1), .second, .val (.long y2), .second, .val (.int y3), .val (.long w1), .second, .val (.long w2), .second, .val (.long w3), .second, .val (.ref b5), .val (.long w21), .second, .val (.long w36), .second, .val (.long w49), .second, .val (.ref b60), .val (.int (2 : Int32)), .val (.int (2 : Int32)), .val (.int (1 : Int32)), .unset] [(.ref b60)])) rfl (by rw [hml]; rfl) (Steps.refl _) (argsL := []) (rest := []) (lenOf pd_9 rfl) rfl (by show 2 * 0 + _ ≤ _; exact Nat.le_of_eq rfl) (hb hby at_171) (fun _ _ => ⟨rfl, rfl, (by decide : 5 + 0 ≤ _), (by decide : 65555 + 0 ≤ _)⟩)
      dsimp only [Pt.U, Pt.locs, Pt.cells, Pt.slots] at X514 l514 y514 z514 st514 hQ514
      subst l514 y514 z514
      obtain ⟨ta514, hv514, N514q, K514, fo514_0, fo514_1, fo514_2, fo514_3⟩ := hQ514
      have f515 : n0 ≤ T514.heap.size := Nat.le_trans f498 K514.1
      have f516 : Old Z n0 T514.heap := f499.keep K514 (allS gb5_3 all0)
      have f517 : Exa Z T514.heap b23 "[B" := f500.keep K514
      have f518 : Exa Z T514.heap al13 "java/util/ArrayList" := f501.keep K514
      have f519 : Fld Z T514.heap al13 "java/util/ArrayList" "elementData" "[Ljava/lang/Object;" (.ref ea23) := f502.keep K514 (ninS nb5_2 nin0)
      have f520 : Fld Z T514.heap al13 "java/util/ArrayList" "size" "I" (.int ((0 : Int32) + (1 : Int32))) := f503.keep K514 (ninS nb5_2 nin0)
      have f521 : Arv Z T514.heap ea23 ke23 (.object "java/lang/Object") (10 : Int32) [(.ref b23), .null, .null, .null, .null, .null, .null, .null, .null, .null] .null := f504.keep K514 (ninS nb5_9.symm nin0)
      have f522 : Exa Z T514.heap b5 "com/example/zhangtiao/zhangtiao/input/VarLongs" := f505.keep K514
      have f523 : Fld Z T514.heap b5 "com/example/zhangtiao/zhangtiao/input/VarLongs" "last" "[B" (.ref b23) := f506.keep K514 (ninS nb5_7 nin0)
      have f524 : Fld Z T514.heap b5 "com/example/zhangtiao/zhangtiao/input/VarLongs" "position" "I" (.int (own_n ((([] ++ own_enc 8 w1) ++ own_enc 8 w2) ++ own_enc 8 w3))) := f507.keep K514 (ninS nb5_7 nin0)
      have f525 : Fld Z T514.heap b5 "com/example/zhangtiao/zhangtiao/input/VarLongs" "chunks" "Ljava/util/List;" (.ref al13) := f508.keep K514 (ninS nb5_7 nin0)
      have f526 : Exa Z T514.heap b60 "com/example/zhangtiao/zhangtiao/input/VarLongs$Cursor" := fo497_3.keep K514
      have f527 : Arv Z T514.heap b23 kc23 .byte (65536 : Int32) ((([] ++ own_enc 8 w1) ++ own_enc 8 w2) ++ (own_enc 8 w3 ++ [])) (.int (0 : Int32)) := fn512.keep K514 (ninS nb5_5 nin0)
      subst hv514
      have N514 := Fr.app N497 N514q
      have pre514 : Go p.tables e below (s₁.setTop (entryFrame m #[(.long y0), (.long y1), (.long y2), (.int y3)] maxLocals)) T514 (mkF m 174 #[.val (.long y0), .second, .val (.long y1), .second, .val (.long y2), .second, .val (.int y3), .val (.long w1), .second, .val (.long w2), .second, .val (.long w3), .second, .val (.ref b5), .val (.long w21), .second, .val (.long w36), .second, .val (.long w49), .second, .val (.ref b60), .val (.int (2 : Int32)), .val (.int (2 : Int32)), .val (.int (1 : Int32)), .unset] [(.long w3)]) := fun t k => pre511 t (st514.trans k)
      have pre528 : Go p.tables e below (s₁.setTop (entryFrame m #[(.long y0), (.long y1), (.long y2), (.int y3)] maxLocals)) T514 (mkF m 182 #[.val (.long y0), .second, .val (.long y1), .second, .val (.long y2), .second, .val (.int y3), .val (.long w1), .second, .val (.long w2), .second, .val (.long w3), .second, .val (.ref b5), .val (.long w21), .second, .val (.long w36), .second, .val (.long w49), .second, .val (.ref b60), .val (.int (2 : Int32)), .val (.int (2 : Int32)), .val (.int (1 : Int32)), .unset] [(.long w3), (.long w2), (.long w1), (.int (2 : Int32)), (.long w3)]) := fun t k => pre514 t (by
          refine XS.iload X514.here hx rfl (hb hby at_174) rfl ?_
          show Steps p.tables e below (T514.setTop (mkF m 176 #[.val (.long y0), .second, .val (.long y1), .second, .val (.long y2), .second, .val (.int y3), .val (.long w1), .second, .val (.long w2), .second, .val (.long w3), .second, .val (.ref b5), .val (.long w21), .second, .val (.long w36), .second, .val (.long w49), .second, .val (.ref b60), .val (.int (2 : Int32)), .val (.int (2 : Int32)), .val (.int (1 : Int32)), .unset] [(.int (2 : Int32)), (.long w3)])) _
          refine XS.lload X514.here hx rfl (hb hby at_176) rfl ?_
          show Steps p.tables e below (T514.setTop (mkF m 178 #[.val (.long y0), .second, .val (.long y1), .second, .val (.long y2), .second, .val (.int y3), .val (.long w1), .second, .val (.long w2), .second, .val (.long w3), .second, .val (.ref b5), .val (.long w21), .second, .val (.long w36), .second, .val (.long w49), .second, .val (.ref b60), .val (.int (2 : Int32)), .val (.int (2 : Int32)), .val (.int (1 : Int32)), .unset] [(.long w1), (.int (2 : Int32)), (.long w3)])) _
          refine XS.lload X514.here hx rfl (hb hby at_178) rfl ?_
          show Steps p.tables e below (T514.setTop (mkF m 180 #[.val (.long y0), .second, .val (.long y1), .second, .val (.long y2), .second, .val (.int y3), .val (.long w1), .second, .val (.long w2), .second, .val (.long w3), .second, .val (.ref b5), .val (.long w21), .second, .val (.long w36), .second, .val (.long w49), .second, .val (.ref b60), .val (.int (2 : Int32)), .val (.int (2 : Int32)), .val (.int (1 : Int32)), .unset] [(.long w2), (.long w1), (.int (2 : Int32)), (.long w3)])) _
          refine XS.lload X514.here hx rfl (hb hby at_180) rfl ?_
          exact k)
      obtain ⟨_, _, ⟨T529, L529, k529, n529⟩, -, X529, ⟨Lc529, hQ529, l529, y529, z529⟩, st529⟩ := Jvm.LawKit.callS X514 hx (y := (⟨"com/example/zhangtiao/zhangtiao/input/VarLongsMoveToPinLaw", "pick", "(IJJJ)J"⟩ : MethodName)) hown (mvT hZ (hw _ (List.mem_of_getElem? (i := 111) rfl))) (mvT hZ (hw _ (List.mem_of_getElem? (i := 112) rfl))) (mvT hZ (hw _ (List.mem_of_getElem? (i := 113) rfl))) (mvT hZ (hw _ (List.mem_of_getElem? (i := 114) rfl))) (by decide) (backOf (W := 2) (rm_pk l Z av0 hw [] (2 : Int32) w1 w2 w3 T514.heap n0) hZ (hw _ (List.mem_of_getElem? (i := 114) rfl)) (hw _ (List.mem_of_getElem? (i := 113) rfl)) (by decide) (by decide)) (g := (mkF m 182 #[.val (.long y0), .second, .val (.long y1), .second, .val (.long y2), .second, .val (.int y3), .val (.long w1), .second, .val (.long w2), .second, .val (.long w3), .second, .val (.ref b5), .val (.long w21), .second, .val (.long w36), .second, .val (.long w49), .second, .val (.ref b60), .val (.int (2 : Int32)), .val (.int (2 : Int32)), .val (.int (1 : Int32)), .unset] [(.long w3), (.long w2), (.long w1), (.int (2 : Int32)), (.long w3)])) rfl (by rw [hml]; rfl) (argsL := [(.int (2 : Int32)), (.long w1), (.long w2), (.long w3)]) (rest := [(.long w3)]) (lenOf pd_13 rfl) rfl (by show 2 * 0 + _ ≤ _; exact Nat.le_of_eq rfl) (hb hby at_182) (fun _ _ => ⟨rfl, rfl, (by decide : 5 + 0 ≤ _), (by decide : 65555 + 0 ≤ _)⟩)
      dsimp only [Pt.U, Pt.locs, Pt.cells, Pt.slots] at X529 l529 y529 z529 st529 hQ529
      subst l529 y529 z529
      obtain ⟨hv529, N529q, e529⟩ := hQ529
      rw [show own_pk (2 : Int32) w1 w2 w3 = w3 from rfl] at hv529
      subst hv529
      have N529 := Fr.app N514 N529q
      have pre529 : Go p.tables e below (s₁.setTop (entryFrame m #[(.long y0), (.long y1), (.long y2), (.int y3)] maxLocals)) T529 (mkF m 185 #[.val (.long y0), .second, .val (.long y1), .second, .val (.long y2), .second, .val (.int y3), .val (.long w1), .second, .val (.long w2), .second, .val (.long w3), .second, .val (.ref b5), .val (.long w21), .second, .val (.long w36), .second, .val (.long w49), .second, .val (.ref b60), .val (.int (2 : Int32)), .val (.int (2 : Int32)), .val (.int (1 : Int32)), .unset] [(.long w3), (.long w3)]) := fun t k => pre528 t (st529 _ k)
      have pre530 : Go p.tables e below (s₁.setTop (entryFrame m #[(.long y0), (.long y1), (.long y2), (.int y3)] maxLocals)) T529 (mkF m 211 #[.val (.long y0), .second, .val (.long y1), .second, .val (.long y2), .second, .val (.int y3), .val (.long w1), .second, .val (.long w2), .second, .val (.long w3), .second, .val (.ref b5), .val (.long w21), .second, .val (.long w36), .second, .val (.long w49), .second, .val (.ref b60), .val (.int (2 : Int32)), .val (.int (2 : Int32)), .val (.int (1 : Int32)), .val (.int (1 : Int32))] [(.int (1 : Int32))]) := fun t k => pre529 t (by
          refine XS.lcmp X529.here hx rfl (hb hby at_185) rfl ?_
          show Steps p.tables e below (T529.setTop (mkF m 186 #[.val (.long y0), .second, .val (.long y1), .second, .val (.long y2), .second, .val (.int y3), .val (.long w1), .second, .val (.long w2), .second, .val (.long w3), .second, .val (.ref b5), .val (.long w21), .second, .val (.long w36), .second, .val (.long w49), .second, .val (.ref b60), .val (.int (2 : Int32)), .val (.int (2 : Int32)), .val (.int (1 : Int32)), .unset] [(.int (lcmpW w3 w3))])) _
          refine XS.ifNo X529.here hx rfl (hb hby at_186) rfl ((if0 _ _).trans (teq ((lw_eq _ _).mpr rfl)).2) ?_
          show Steps p.tables e below (T529.setTop (mkF m 189 #[.val (.long y0), .second, .val (.long y1), .second, .val (.long y2), .second, .val (.int y3), .val (.long w1), .second, .val (.long w2), .second, .val (.long w3), .second, .val (.ref b5), .val (.long w21), .second, .val (.long w36), .second, .val (.long w49), .second, .val (.ref b60), .val (.int (2 : Int32)), .val (.int (2 : Int32)), .val (.int (1 : Int32)), .unset] [])) _
          refine XS.iconst X529.here hx rfl (hb hby at_189) ?_
          show Steps p.tables e below (T529.setTop (mkF m 190 #[.val (.long y0), .second, .val (.long y1), .second, .val (.long y2), .second, .val (.int y3), .val (.long w1), .second, .val (.long w2), .second, .val (.long w3), .second, .val (.ref b5), .val (.long w21), .second, .val (.long w36), .second, .val (.long w49), .second, .val (.ref b60), .val (.int (2 : Int32)), .val (.int (2 : Int32)), .val (.int (1 : Int32)), .unset] [(.int (1 : Int32))])) _
          refine XS.goto X529.here hx rfl (pc0 := 190) (pc' := 194) rfl (hb hby at_190) (by decide) (by decide) ?_
          show Steps p.tables e below (T529.setTop (mkF m 194 #[.val (.long y0), .second, .val (.long y1), .second, .val (.long y2), .second, .val (.int y3), .val (.long w1), .second, .val (.long w2), .second, .val (.long w3), .second, .val (.ref b5), .val (.long w21), .second, .val (.long w36), .second, .val (.long w49), .second, .val (.ref b60), .val (.int (2 : Int32)), .val (.int (2 : Int32)), .val (.int (1 : Int32)), .unset] [(.int (1 : Int32))])) _
          refine XS.istore X529.here hx rfl (hb hby at_194) rfl (l' := #[.val (.long y0), .second, .val (.long y1), .second, .val (.long y2), .second, .val (.int y3), .val (.long w1), .second, .val (.long w2), .second, .val (.long w3), .second, .val (.ref b5), .val (.long w21), .second, .val (.long w36), .second, .val (.long w49), .second, .val (.ref b60), .val (.int (2 : Int32)), .val (.int (2 : Int32)), .val (.int (1 : Int32)), .val (.int (1 : Int32))]) rfl ?_
          show Steps p.tables e below (T529.setTop (mkF m 196 #[.val (.long y0), .second, .val (.long y1), .second, .val (.long y2), .second, .val (.int y3), .val (.long w1), .second, .val (.long w2), .second, .val (.long w3), .second, .val (.ref b5), .val (.long w21), .second, .val (.long w36), .second, .val (.long w49), .second, .val (.ref b60), .val (.int (2 : Int32)), .val (.int (2 : Int32)), .val (.int (1 : Int32)), .val (.int (1 : Int32))] [])) _
          refine XS.iload X529.here hx rfl (hb hby at_196) rfl ?_
          show Steps p.tables e below (T529.setTop (mkF m 198 #[.val (.long y0), .second, .val (.long y1), .second, .val (.long y2), .second, .val (.int y3), .val (.long w1), .second, .val (.long w2), .second, .val (.long w3), .second, .val (.ref b5), .val (.long w21), .second, .val (.long w36), .second, .val (.long w49), .second, .val (.ref b60), .val (.int (2 : Int32)), .val (.int (2 : Int32)), .val (.int (1 : Int32)), .val (.int (1 : Int32))] [(.int (1 : Int32))])) _
          refine XS.ifNo X529.here hx rfl (hb hby at_198) rfl ((if0 _ _).trans (feq (by decide)).1) ?_
          show Steps p.tables e below (T529.setTop (mkF m 201 #[.val (.long y0), .second, .val (.long y1), .second, .val (.long y2), .second, .val (.int y3), .val (.long w1), .second, .val (.long w2), .second, .val (.long w3), .second, .val (.ref b5), .val (.long w21), .second, .val (.long w36), .second, .val (.long w49), .second, .val (.ref b60), .val (.int (2 : Int32)), .val (.int (2 : Int32)), .val (.int (1 : Int32)), .val (.int (1 : Int32))] [])) _
          refine XS.iload X529.here hx rfl (hb hby at_201) rfl ?_
          show Steps p.tables e below (T529.setTop (mkF m 203 #[.val (.long y0), .second, .val (.long y1), .second, .val (.long y2), .second, .val (.int y3), .val (.long w1), .second, .val (.long w2), .second, .val (.long w3), .second, .val (.ref b5), .val (.long w21), .second, .val (.long w36), .second, .val (.long w49), .second, .val (.ref b60), .val (.int (2 : Int32)), .val (.int (2 : Int32)), .val (.int (1 : Int32)), .val (.int (1 : Int32))] [(.int (1 : Int32))])) _
          refine XS.ifNo X529.here hx rfl (hb hby at_203) rfl ((if0 _ _).trans (feq (by decide)).1) ?_
          show Steps p.tables e below (T529.setTop (mkF m 206 #[.val (.long y0), .second, .val (.long y1), .second, .val (.long y2), .second, .val (.int y3), .val (.long w1), .second, .val (.long w2), .second, .val (.long w3), .second, .val (.ref b5), .val (.long w21), .second, .val (.long w36), .second, .val (.long w49), .second, .val (.ref b60), .val (.int (2 : Int32)), .val (.int (2 : Int32)), .val (.int (1 : Int32)), .val (.int (1 : Int32))] [])) _
          refine XS.iconst X529.here hx rfl (hb hby at_206) ?_
          show Steps p.tables e below (T529.setTop (mkF m 207 #[.val (.long y0), .second, .val (.long y1), .second, .val (.long y2), .second, .val (.int y3), .val (.long w1), .second, .val (.long w2), .second, .val (.long w3), .second, .val (.ref b5), .val (.long w21), .second, .val (.long w36), .second, .val (.long w49), .second, .val (.ref b60), .val (.int (2 : Int32)), .val (.int (2 : Int32)), .val (.int (1 : Int32)), .val (.int (1 : Int32))] [(.int (1 : Int32))])) _
          refine XS.goto X529.here hx rfl (pc0 := 207) (pc' := 211) rfl (hb hby at_207) (by decide) (by decide) ?_
          exact k)
      obtain ⟨fs, hr, hrun, hended, hW, hsame⟩ := X529.leave (v := some (.int (1 : Int32))) (fun h => by rw [Bd.returns] at h; cases h) (BodyLoose.notSynchronized Bd)
      refine ⟨_, _, pre530 _ ?_, hrun, hended, _, _, rfl, ?_, ⟨_, rfl⟩, hW, hsame.mono (Nat.le_of_ble_eq_true rfl) (Nat.le_of_ble_eq_true rfl)⟩
      · exact retN X529 hx (t := .boolean) Bd.returns (by simp) (hb hby at_211) hr
      · show Q_law Z y0 y1 y2 y3 ad kd h0 n0 _ T529.heap _
        rw [e529]
        exact ⟨rfl, N529⟩
set_option maxRecDepth 65536 in
set_option maxHeartbeats 40000000 in
theorem comes_1 {Post : Tables → Env → Array Value → State → Outcome → State → Prop} (hpost : ∀ tb e args s v u, (limb_1_1.after args s (.returned v) u = true ∧ limb_1_2.after args s (.returned v) u = true ∧ True) → FrameEnd s (.returned v) u (Jvm.fieldLocs frame_1_writes args s ++ Jvm.arrayLocs frame_1_arrays args s ++ Jvm.staticLocs frame_1_statics s) 24 131200 → Post tb e args s (.returned v) u) :
    ArmFor flags0 classFile x code maxLocals ret World_1 tables_1 room_1 Calls_1 rest_1 Pre_1 Post := by
  intro l hfl _ _ p e ha hc hk s m args below hf hA hF happ hP
  obtain ⟨hcalls, hrest, hpre⟩ := hP
  obtain ⟨-, -, -, hnamed, -, -, -, hat⟩ := (Spec.applies_iff hf).mp happ
  obtain ⟨hg, hn⟩ := and_e (Cond.before_iff.mp (show (Jvm.Cond.and given_1 narrow_1).before args s = true from hpre))
  obtain ⟨gc, gt0⟩ := and_e hg
  obtain ⟨ga0, gt1⟩ := and_e gt0
  obtain ⟨ga1, gt2⟩ := and_e gt1
  obtain ⟨ga2, gt3⟩ := and_e gt2
  obtain ⟨w0, w1, w2, w3, rfl⟩ : ∃ w0 w1 w2 w3 : Value, args = #[w0, w1, w2, w3] := by
    have hs : args.size = 4 := by simpa [Cond.value, given_1] using gc
    obtain ⟨L⟩ := args
    match L, hs with
    | [w0, w1, w2, w3], _ => exact ⟨w0, w1, w2, w3, rfl⟩
  have hw := fun d (hd : d ∈ tables_1) => atoms_spec (ws := Jvm.Cond.code x code maxLocals ret :: tables_1) hat d (List.mem_cons_of_mem _ hd)
  have hfit : Fit s := fun {y c} hc i hi => by
    obtain ⟨ha, rfl⟩ := Array.getElem?_eq_some_iff.mp hc
    have q := List.all_eq_true.mp ((Array.all_eq_true_iff_forall_mem.mp hF) _ (Array.getElem_mem ha)) i (List.mem_range.mpr hi)
    simpa [Array.getElem?_eq_getElem hi] using q
  obtain ⟨i0, ei0⟩ := isL_v ga0
  obtain rfl : w0 = (.long i0) := Option.some.inj ei0
  obtain ⟨i1, ei1⟩ := isL_v ga1
  obtain rfl : w1 = (.long i1) := Option.some.inj ei1
  obtain ⟨i2, ei2⟩ := isL_v ga2
  obtain rfl : w2 = (.long i2) := Option.some.inj ei2
  obtain ⟨i3, ei3⟩ := is_v gt3
  obtain rfl : w3 = (.int i3) := Option.some.inj ei3
  obtain ⟨hsets, hown0⟩ := atoms_of _ (rest_1_c_eq ▸ (show rest_1_c.before _ s = true from hrest))
  obtain ⟨ad, ec⟩ := arr_v (Cond.before_iff.mp (hsets _ (List.mem_of_getElem? (i := 6) rfl)))
  have S_D := Sta.start ec (Or.inr ⟨(hw _ (List.mem_of_getElem? (i := 12) rfl)), (hsets _ (List.mem_of_getElem? (i := 2) rfl))⟩)
  obtain ⟨cd, Ad⟩ := Arr.start ec (Cond.before_iff.mp (hsets _ (List.mem_of_getElem? (i := 6) rfl)))
  have el := eqv_i (Term.int_eval (0)) (Cond.before_iff.mp (hsets _ (List.mem_of_getElem? (i := 8) rfl)))
  obtain ⟨lq, le⟩ := own_len ec Ad el
  have V_D : Arv s s.heap ad cd.cls (.object "java/lang/Object") (0 : Int32) [] .null := Arv.start hfit Ad lq le (by decide) rfl trivial
  obtain ⟨n, o, h1, h2, h3, _, L, rfl, ⟨rfl, N⟩, hq⟩ := rm_law l s _ hw tables_1 i0 i1 i2 i3 ad cd.cls s.heap s.heap.size (Nat.le_refl _) (Old.start s) S_D V_D p e ha hc hk s m _ below hf ((Spec.applies_iff_loose hf).mp happ).1 ⟨rfl, State.Warmed39.refl s, rfl⟩ trivial
  refine ⟨n, _, h1, h2, h3, hpost _ _ _ _ _ _ ⟨Cond.after_iff.mpr rfl, Cond.after_iff.mpr (eq_i res_at (Term.int_eval (1)) rfl), trivial⟩ ⟨hq.1, hq.2.1, (hq.2.2.sift fun y hy => Or.inr (N y hy)).mono (by decide) (by decide)⟩⟩
theorem main_1_1 : Claimed_1_1 := comes_1 fun _ _ _ _ _ _ h hF => ⟨h.1, hF⟩
theorem main_1_2 : Claimed_1_2 := comes_1 fun _ _ _ _ _ _ h hF => ⟨h.2.1, hF⟩
end Jvm.Pilot.@@N@@
namespace Jvm.Pilot.@@N@@
open Jvm Jvm.ClassFile Sem Op Lib Jvm.Free Jvm.Stand Jvm.Pilot.@@N@@.Jvm.D
/-! MADE BY PROGRAM (witnessworld.py) out of the Statement's table words and the real class files: 22 classes; the members and pool entries that the words name. The judged class is class 1, her method 2. -/
namespace start1
open Jvm.ClassFile
def u (s : String) : CpInfo := .utf8 (stringToUtf16 s)
/-- a pool by its gaps: so many unusable entries, then the entry; so many at the end -/
def gap : Nat → List CpInfo → List CpInfo
  | 0, r => r
  | n + 1, r => .unusable :: gap n r
def poolList (es : List (Nat × CpInfo)) (last : Nat) : List CpInfo := es.foldr (fun e r => gap e.1 (e.2 :: r)) (gap last [])
def pool (es : List (Nat × CpInfo)) (last : Nat) : Array CpInfo := ⟨poolList es last⟩
def fileOf (pool : Array CpInfo) (this : Nat) (attrs : Array Attribute := #[]) (ms : Array MethodInfo := #[]) (fl : Nat := 33) (sup : Nat := 0) (ifs : Array Nat := #[]) (fds : Array FieldInfo := #[]) : ClassFile where
  minorVersion := 0
  majorVersion := 65
  constantPool := pool
  accessFlags := fl
  thisClass := this
  superClass := sup
  interfaces := ifs
  fields := fds
  methods := ms
  attributes := attrs
def plain (name : String) (sup : Option ClassId) : Class where
  name := name
  kind := .ordinary
  loader := none
  accessFlags := 33
  super := sup
  interfaces := #[]
  cf := none
  fields := #[]
  methods := #[]
  instanceTypes := #[]
  staticTypes := #[]
  resolved := #[]
  callSites := []
  init := .initialized
  statics := none
  mirror := none

def pool0 : Array CpInfo := pool [(5, u "<init>"), (0, u "()V"), (1, .class_ 10), (1, u "java/lang/Object")] 113

def k0c0 : Code := { maxStack := 0, maxLocals := 1, code := object_method_1_code, exceptionTable := #[], attributes := #[] }
def k0m0 : Method := { name := "<init>", desc := "()V", sig := { parameters := [], returnType := none }, accessFlags := 1, code := some k0c0 }
/-- java/lang/Object -/
def k0 : Class := { plain "java/lang/Object" none with
  accessFlags := 33
  interfaces := #[]
  cf := some (fileOf pool0 8 #[] #[{ accessFlags := 1, nameIndex := 5, descriptorIndex := 6, attributes := #[] }] 33 0 #[] #[])
  fields := #[]
  methods := #[k0m0]
  instanceTypes := #[]
  staticTypes := #[]
  resolved := Array.replicate 124 none
  statics := none }

def pool1 : Array CpInfo := pool [(2, .class_ 4), (0, .nameAndType 5 6), (0, u "java/lang/Object"), (0, u "<init>"), (0, u "()V"), (2, .long 9223372036854775807), (1, .class_ 12), (0, u "com/example/zhangtiao/zhangtiao/input/VarLongs"), (0, .methodref 11 3), (0, .methodref 11 15), (0, .nameAndType 16 17), (0, u "position"), (0, u "()J"), (0, .methodref 11 19), (0, .nameAndType 20 21), (0, u "add"), (0, u "(J)V"), (0, .class_ 23), (0, u "com/example/zhangtiao/zhangtiao/input/VarLongs$Cursor"), (0, .methodref 25 26), (0, .class_ 27), (0, .nameAndType 28 29), (0, u "java/util/Objects"), (0, u "requireNonNull"), (0, u "(Ljava/lang/Object;)Ljava/lang/Object;"), (0, .methodref 22 31), (0, .nameAndType 5 32), (0, u "(Lcom/example/zhangtiao/zhangtiao/input/VarLongs;)V"), (0, .integer 2147483647), (0, .methodref 35 36), (0, .class_ 37), (0, .nameAndType 38 39), (0, u "com/example/zhangtiao/zhangtiao/input/VarLongsMoveToPinLaw"), (0, u "pick"), (0, u "(IJJJ)J"), (0, .methodref 22 41), (0, .nameAndType 42 21), (0, u "moveTo"), (0, .methodref 22 44), (0, .nameAndType 45 17), (0, u "next"), (3, u "law"), (0, u "(JJJI)Z")] 4

def k1m0 : Method := { name := "<init>", desc := "()V", sig := { parameters := [], returnType := none }, accessFlags := 1, code := none }
def k1c1 : Code := { maxStack := 2, maxLocals := 7, code := method_2_code, exceptionTable := #[], attributes := #[] }
def k1m1 : Method := { name := "pick", desc := "(IJJJ)J", sig := { parameters := [.int, .long, .long, .long], returnType := some .long }, accessFlags := 10, code := some k1c1 }
def k1c2 : Code := { maxStack := 9, maxLocals := 25, code := code, exceptionTable := #[], attributes := #[] }
def k1m2 : Method := { name := "law", desc := "(JJJI)Z", sig := { parameters := [.long, .long, .long, .int], returnType := some .boolean }, accessFlags := 9, code := some k1c2 }
/-- com/example/zhangtiao/zhangtiao/input/VarLongsMoveToPinLaw -/
def k1 : Class := { plain "com/example/zhangtiao/zhangtiao/input/VarLongsMoveToPinLaw" (some 0) with
  accessFlags := 49
  interfaces := #[]
  cf := some (fileOf pool1 35 #[] #[{ accessFlags := 1, nameIndex := 5, descriptorIndex := 6, attributes := #[] }, { accessFlags := 10, nameIndex := 38, descriptorIndex := 39, attributes := #[] }, { accessFlags := 9, nameIndex := 49, descriptorIndex := 50, attributes := #[] }] 49 2 #[] #[])
  fields := #[]
  methods := #[k1m0, k1m1, k1m2]
  instanceTypes := #[]
  staticTypes := #[]
  resolved := Array.replicate 55 none
  statics := none }

def pool2 : Array CpInfo := pool [(1, .methodref 2 3), (0, .class_ 4), (0, .nameAndType 5 6), (0, u "java/lang/Object"), (0, u "<init>"), (0, u "()V"), (0, .class_ 8), (0, u "java/util/ArrayList"), (0, .methodref 7 3), (0, .fieldref 11 12), (0, .class_ 13), (0, .nameAndType 14 15), (0, u "com/example/zhangtiao/zhangtiao/input/VarLongs"), (0, u "chunks"), (0, u "Ljava/util/List;"), (0, .integer 65536), (0, .fieldref 11 18), (0, .nameAndType 19 20), (0, u "position"), (0, u "I"), (9, .fieldref 11 31), (0, .nameAndType 32 33), (0, u "last"), (0, u "[B"), (0, .interfaceMethodref 35 36), (0, .class_ 37), (0, .nameAndType 38 39), (0, u "java/util/List"), (0, u "add"), (0, u "(Ljava/lang/Object;)Z"), (0, .long 128), (1, .interfaceMethodref 35 43), (0, .nameAndType 44 45), (0, u "size"), (0, u "()I"), (0, .long 65536), (1, .class_ 49), (0, u "com/example/zhangtiao/zhangtiao/input/VarLongs$Cursor"), (3, u "CHUNK_SIZE"), (1, u "MOST_BYTES"), (5, u "(J)V"), (1, u "()J")] 21

def k2c0 : Code := { maxStack := 3, maxLocals := 1, code := prog_34_method_1_code, exceptionTable := #[], attributes := #[] }
def k2m0 : Method := { name := "<init>", desc := "()V", sig := { parameters := [], returnType := none }, accessFlags := 1, code := some k2c0 }
def k2c1 : Code := { maxStack := 6, maxLocals := 5, code := prog_34_method_2_code, exceptionTable := #[], attributes := #[] }
def k2m1 : Method := { name := "add", desc := "(J)V", sig := { parameters := [.long], returnType := none }, accessFlags := 1, code := some k2c1 }
def k2c2 : Code := { maxStack := 4, maxLocals := 1, code := prog_34_method_3_code, exceptionTable := #[], attributes := #[] }
def k2m2 : Method := { name := "position", desc := "()J", sig := { parameters := [], returnType := some .long }, accessFlags := 1, code := some k2c2 }
/-- com/example/zhangtiao/zhangtiao/input/VarLongs -/
def k2 : Class := { plain "com/example/zhangtiao/zhangtiao/input/VarLongs" (some 0) with
  accessFlags := 49
  interfaces := #[]
  cf := some (fileOf pool2 11 #[.nestMembers #[48]] #[{ accessFlags := 1, nameIndex := 5, descriptorIndex := 6, attributes := #[] }, { accessFlags := 1, nameIndex := 38, descriptorIndex := 61, attributes := #[] }, { accessFlags := 1, nameIndex := 19, descriptorIndex := 63, attributes := #[] }] 49 2 #[] #[{ accessFlags := 26, nameIndex := 53, descriptorIndex := 20, attributes := #[] }, { accessFlags := 26, nameIndex := 55, descriptorIndex := 20, attributes := #[] }, { accessFlags := 18, nameIndex := 14, descriptorIndex := 15, attributes := #[] }, { accessFlags := 2, nameIndex := 32, descriptorIndex := 33, attributes := #[] }, { accessFlags := 2, nameIndex := 19, descriptorIndex := 20, attributes := #[] }])
  fields := #[{ name := "CHUNK_SIZE", type := .int, accessFlags := 26, slot := 0, constantValue := 0 }, { name := "MOST_BYTES", type := .int, accessFlags := 26, slot := 1, constantValue := 0 }, { name := "chunks", type := (.object "java/util/List"), accessFlags := 18, slot := 0, constantValue := 0 }, { name := "last", type := (.array .byte), accessFlags := 2, slot := 1, constantValue := 0 }, { name := "position", type := .int, accessFlags := 2, slot := 2, constantValue := 0 }]
  methods := #[k2m0, k2m1, k2m2]
  instanceTypes := #[(.object "java/util/List"), (.array .byte), .int]
  staticTypes := #[.int, .int]
  resolved := Array.replicate 85 none
  statics := none }

def pool3 : Array CpInfo := pool [(8, .class_ 10), (1, u "java/lang/Iterable"), (24, .class_ 36), (0, u "java/lang/Object")] 25

/-- java/lang/Iterable -/
def k3 : Class := { plain "java/lang/Iterable" (some 0) with
  accessFlags := 1537
  interfaces := #[]
  cf := some (fileOf pool3 8 #[] #[] 1537 35 #[] #[])
  fields := #[]
  methods := #[]
  instanceTypes := #[]
  staticTypes := #[]
  resolved := Array.replicate 62 none
  statics := none }

def pool4 : Array CpInfo := pool [(10, .class_ 12), (1, u "java/util/Collection"), (47, .class_ 61), (0, u "java/lang/Object"), (0, .class_ 63), (0, u "java/lang/Iterable")] 51

/-- java/util/Collection -/
def k4 : Class := { plain "java/util/Collection" (some 0) with
  accessFlags := 1537
  interfaces := #[3]
  cf := some (fileOf pool4 10 #[] #[] 1537 60 #[62] #[])
  fields := #[]
  methods := #[]
  instanceTypes := #[]
  staticTypes := #[]
  resolved := Array.replicate 115 none
  statics := none }

def pool5 : Array CpInfo := pool [(1, .methodref 2 3), (0, .class_ 4), (0, .nameAndType 5 6), (0, u "java/lang/Object"), (0, u "<init>"), (0, u "()V"), (1, .class_ 10), (1, u "java/util/AbstractCollection"), (66, .class_ 78), (0, u "java/util/Collection")] 81

def k5c0 : Code := { maxStack := 1, maxLocals := 1, code := jdk_22_method_1_code, exceptionTable := #[], attributes := #[] }
def k5m0 : Method := { name := "<init>", desc := "()V", sig := { parameters := [], returnType := none }, accessFlags := 4, code := some k5c0 }
/-- java/util/AbstractCollection -/
def k5 : Class := { plain "java/util/AbstractCollection" (some 0) with
  accessFlags := 1057
  interfaces := #[4]
  cf := some (fileOf pool5 8 #[] #[{ accessFlags := 4, nameIndex := 5, descriptorIndex := 6, attributes := #[] }] 1057 2 #[77] #[])
  fields := #[]
  methods := #[k5m0]
  instanceTypes := #[]
  staticTypes := #[]
  resolved := Array.replicate 160 none
  statics := none }

def pool6 : Array CpInfo := pool [(8, .class_ 10), (1, u "java/util/SequencedCollection"), (15, .class_ 27), (0, u "java/lang/Object"), (0, .class_ 29), (0, u "java/util/Collection")] 27

/-- java/util/SequencedCollection -/
def k6 : Class := { plain "java/util/SequencedCollection" (some 0) with
  accessFlags := 1537
  interfaces := #[4]
  cf := some (fileOf pool6 8 #[] #[] 1537 26 #[28] #[])
  fields := #[]
  methods := #[]
  instanceTypes := #[]
  staticTypes := #[]
  resolved := Array.replicate 57 none
  statics := none }

def pool7 : Array CpInfo := pool [(8, .class_ 10), (1, u "java/util/List"), (49, u "add"), (3, u "(Ljava/lang/Object;)Z"), (10, u "get"), (0, u "(I)Ljava/lang/Object;"), (2, u "size"), (0, u "()I"), (22, .class_ 104), (0, u "java/lang/Object"), (15, .class_ 121), (0, u "java/util/SequencedCollection")] 129

def k7m0 : Method := { name := "size", desc := "()I", sig := { parameters := [], returnType := some .int }, accessFlags := 1025, code := none }
def k7m1 : Method := { name := "add", desc := "(Ljava/lang/Object;)Z", sig := { parameters := [(.object "java/lang/Object")], returnType := some .boolean }, accessFlags := 1025, code := none }
def k7m2 : Method := { name := "get", desc := "(I)Ljava/lang/Object;", sig := { parameters := [.int], returnType := some (.object "java/lang/Object") }, accessFlags := 1025, code := none }
/-- java/util/List -/
def k7 : Class := { plain "java/util/List" (some 0) with
  accessFlags := 1537
  interfaces := #[6]
  cf := some (fileOf pool7 8 #[] #[{ accessFlags := 1025, nameIndex := 79, descriptorIndex := 80, attributes := #[] }, { accessFlags := 1025, nameIndex := 60, descriptorIndex := 64, attributes := #[] }, { accessFlags := 1025, nameIndex := 75, descriptorIndex := 76, attributes := #[] }] 1537 103 #[120] #[])
  fields := #[]
  methods := #[k7m0, k7m1, k7m2]
  instanceTypes := #[]
  staticTypes := #[]
  resolved := Array.replicate 251 none
  statics := none }

def pool8 : Array CpInfo := pool [(1, .methodref 2 3), (0, .class_ 4), (0, .nameAndType 5 6), (0, u "java/util/AbstractCollection"), (0, u "<init>"), (0, u "()V"), (0, .fieldref 8 9), (0, .class_ 10), (0, .nameAndType 11 12), (0, u "java/util/AbstractList"), (0, u "modCount"), (0, u "I"), (64, .class_ 78), (0, u "java/util/AbstractList$Itr"), (3, .class_ 83), (0, u "java/util/AbstractList$ListItr"), (9, .class_ 94), (0, u "java/util/AbstractList$RandomAccessSubList"), (3, .class_ 99), (0, u "java/util/AbstractList$SubList"), (33, .class_ 134), (0, u "java/util/List"), (73, .class_ 209), (0, u "java/util/AbstractList$SubList$1"), (0, .class_ 211), (0, u "java/util/AbstractList$RandomAccessSpliterator")] 6

def k8c0 : Code := { maxStack := 2, maxLocals := 1, code := jdk_39_method_1_code, exceptionTable := #[], attributes := #[] }
def k8m0 : Method := { name := "<init>", desc := "()V", sig := { parameters := [], returnType := none }, accessFlags := 4, code := some k8c0 }
/-- java/util/AbstractList -/
def k8 : Class := { plain "java/util/AbstractList" (some 5) with
  accessFlags := 1057
  interfaces := #[7]
  cf := some (fileOf pool8 8 #[.nestMembers #[93, 98, 208, 210, 82, 77]] #[{ accessFlags := 4, nameIndex := 5, descriptorIndex := 6, attributes := #[] }] 1057 2 #[133] #[{ accessFlags := 132, nameIndex := 11, descriptorIndex := 12, attributes := #[] }])
  fields := #[{ name := "modCount", type := .int, accessFlags := 132, slot := 0, constantValue := 0 }]
  methods := #[k8m0]
  instanceTypes := #[.int]
  staticTypes := #[]
  resolved := Array.replicate 218 none
  statics := none }

def pool9 : Array CpInfo := pool [(1, .class_ 2), (0, u "java/util/RandomAccess"), (0, .class_ 4), (0, u "java/lang/Object")] 2

/-- java/util/RandomAccess -/
def k9 : Class := { plain "java/util/RandomAccess" (some 0) with
  accessFlags := 1537
  interfaces := #[]
  cf := some (fileOf pool9 1 #[] #[] 1537 3 #[] #[])
  fields := #[]
  methods := #[]
  instanceTypes := #[]
  staticTypes := #[]
  resolved := Array.replicate 7 none
  statics := none }

def pool10 : Array CpInfo := pool [(1, .class_ 2), (0, u "java/lang/Cloneable"), (0, .class_ 4), (0, u "java/lang/Object")] 2

/-- java/lang/Cloneable -/
def k10 : Class := { plain "java/lang/Cloneable" (some 0) with
  accessFlags := 1537
  interfaces := #[]
  cf := some (fileOf pool10 1 #[] #[] 1537 3 #[] #[])
  fields := #[]
  methods := #[]
  instanceTypes := #[]
  staticTypes := #[]
  resolved := Array.replicate 7 none
  statics := none }

def pool11 : Array CpInfo := pool [(1, .class_ 2), (0, u "java/io/Serializable"), (0, .class_ 4), (0, u "java/lang/Object")] 2

/-- java/io/Serializable -/
def k11 : Class := { plain "java/io/Serializable" (some 0) with
  accessFlags := 1537
  interfaces := #[]
  cf := some (fileOf pool11 1 #[] #[] 1537 3 #[] #[])
  fields := #[]
  methods := #[]
  instanceTypes := #[]
  staticTypes := #[]
  resolved := Array.replicate 7 none
  statics := none }

def pool12 : Array CpInfo := pool [(1, .methodref 2 3), (0, .class_ 4), (0, .nameAndType 5 6), (0, u "java/util/AbstractList"), (0, u "<init>"), (0, u "()V"), (0, .class_ 8), (0, u "java/lang/Object"), (0, .fieldref 10 11), (0, .class_ 12), (0, .nameAndType 13 14), (0, u "java/util/ArrayList"), (0, u "elementData"), (0, u "[Ljava/lang/Object;"), (2, u "EMPTY_ELEMENTDATA"), (21, .fieldref 10 40), (0, .nameAndType 41 14), (0, u "DEFAULTCAPACITY_EMPTY_ELEMENTDATA"), (5, u "()[Ljava/lang/Object;"), (0, .fieldref 10 49), (0, .nameAndType 50 51), (0, u "size"), (0, u "I"), (11, .fieldref 10 64), (0, .nameAndType 65 51), (0, u "modCount"), (3, .methodref 10 70), (0, .nameAndType 71 72), (0, u "grow"), (0, u "(I)[Ljava/lang/Object;"), (6, .methodref 80 81), (0, .class_ 82), (0, .nameAndType 83 84), (0, u "java/lang/Math"), (0, u "max"), (0, u "(II)I"), (11, u "(Ljava/lang/Object;)Z"), (21, .methodref 119 120), (0, .class_ 121), (0, .nameAndType 122 84), (0, u "java/util/Objects"), (0, u "checkIndex"), (0, .methodref 10 124), (0, .nameAndType 13 125), (0, u "(I)Ljava/lang/Object;"), (3, .methodref 10 130), (0, .nameAndType 71 47), (0, .methodref 10 132), (0, .nameAndType 133 134), (0, u "add"), (0, u "(Ljava/lang/Object;[Ljava/lang/Object;I)V"), (13, .class_ 149), (0, u "java/util/List"), (36, u "()I"), (75, .class_ 263), (0, u "java/util/ArrayList$ListItr"), (3, .class_ 268), (0, u "java/util/ArrayList$Itr"), (7, .class_ 277), (0, u "java/util/ArrayList$SubList"), (12, .class_ 291), (0, u "java/util/ArrayList$ArrayListSpliterator"), (37, .class_ 330), (0, u "java/util/RandomAccess"), (0, .class_ 332), (0, u "java/lang/Cloneable"), (0, .class_ 334), (0, u "java/io/Serializable"), (0, u "serialVersionUID"), (0, u "J"), (3, u "DEFAULT_CAPACITY"), (40, u "get"), (118, .class_ 501), (0, u "java/util/ArrayList$SubList$2"), (0, .class_ 503), (0, u "java/util/ArrayList$SubList$1")] 5

def k12c0 : Code := { maxStack := 2, maxLocals := 1, code := jdk_38_method_2_code, exceptionTable := #[], attributes := #[] }
def k12m0 : Method := { name := "<init>", desc := "()V", sig := { parameters := [], returnType := none }, accessFlags := 1, code := some k12c0 }
def k12c1 : Code := { maxStack := 4, maxLocals := 4, code := jdk_38_method_6_code, exceptionTable := #[], attributes := #[] }
def k12m1 : Method := { name := "grow", desc := "(I)[Ljava/lang/Object;", sig := { parameters := [.int], returnType := some (.array (.object "java/lang/Object")) }, accessFlags := 2, code := some k12c1 }
def k12c2 : Code := { maxStack := 3, maxLocals := 1, code := jdk_38_method_7_code, exceptionTable := #[], attributes := #[] }
def k12m2 : Method := { name := "grow", desc := "()[Ljava/lang/Object;", sig := { parameters := [], returnType := some (.array (.object "java/lang/Object")) }, accessFlags := 2, code := some k12c2 }
def k12c3 : Code := { maxStack := 1, maxLocals := 1, code := jdk_38_method_8_code, exceptionTable := #[], attributes := #[] }
def k12m3 : Method := { name := "size", desc := "()I", sig := { parameters := [], returnType := some .int }, accessFlags := 1, code := some k12c3 }
def k12c4 : Code := { maxStack := 2, maxLocals := 2, code := jdk_38_method_18_code, exceptionTable := #[], attributes := #[] }
def k12m4 : Method := { name := "elementData", desc := "(I)Ljava/lang/Object;", sig := { parameters := [.int], returnType := some (.object "java/lang/Object") }, accessFlags := 0, code := some k12c4 }
def k12c5 : Code := { maxStack := 2, maxLocals := 2, code := jdk_38_method_20_code, exceptionTable := #[], attributes := #[] }
def k12m5 : Method := { name := "get", desc := "(I)Ljava/lang/Object;", sig := { parameters := [.int], returnType := some (.object "java/lang/Object") }, accessFlags := 1, code := some k12c5 }
def k12c6 : Code := { maxStack := 3, maxLocals := 4, code := jdk_38_method_24_code, exceptionTable := #[], attributes := #[] }
def k12m6 : Method := { name := "add", desc := "(Ljava/lang/Object;[Ljava/lang/Object;I)V", sig := { parameters := [(.object "java/lang/Object"), (.array (.object "java/lang/Object")), .int], returnType := none }, accessFlags := 2, code := some k12c6 }
def k12c7 : Code := { maxStack := 4, maxLocals := 2, code := jdk_38_method_25_code, exceptionTable := #[], attributes := #[] }
def k12m7 : Method := { name := "add", desc := "(Ljava/lang/Object;)Z", sig := { parameters := [(.object "java/lang/Object")], returnType := some .boolean }, accessFlags := 1, code := some k12c7 }
/-- java/util/ArrayList -/
def k12 : Class := { plain "java/util/ArrayList" (some 8) with
  accessFlags := 33
  interfaces := #[7, 9, 10, 11]
  cf := some (fileOf pool12 10 #[.nestMembers #[290, 276, 500, 502, 262, 267]] #[{ accessFlags := 1, nameIndex := 5, descriptorIndex := 6, attributes := #[] }, { accessFlags := 2, nameIndex := 71, descriptorIndex := 72, attributes := #[] }, { accessFlags := 2, nameIndex := 71, descriptorIndex := 47, attributes := #[] }, { accessFlags := 1, nameIndex := 50, descriptorIndex := 186, attributes := #[] }, { accessFlags := 0, nameIndex := 13, descriptorIndex := 125, attributes := #[] }, { accessFlags := 1, nameIndex := 381, descriptorIndex := 125, attributes := #[] }, { accessFlags := 2, nameIndex := 133, descriptorIndex := 134, attributes := #[] }, { accessFlags := 1, nameIndex := 133, descriptorIndex := 96, attributes := #[] }] 33 2 #[148, 329, 331, 333] #[{ accessFlags := 26, nameIndex := 335, descriptorIndex := 336, attributes := #[] }, { accessFlags := 26, nameIndex := 340, descriptorIndex := 51, attributes := #[] }, { accessFlags := 26, nameIndex := 17, descriptorIndex := 14, attributes := #[] }, { accessFlags := 26, nameIndex := 41, descriptorIndex := 14, attributes := #[] }, { accessFlags := 128, nameIndex := 13, descriptorIndex := 14, attributes := #[] }, { accessFlags := 2, nameIndex := 50, descriptorIndex := 51, attributes := #[] }])
  fields := #[{ name := "serialVersionUID", type := .long, accessFlags := 26, slot := 0, constantValue := 0 }, { name := "DEFAULT_CAPACITY", type := .int, accessFlags := 26, slot := 1, constantValue := 0 }, { name := "EMPTY_ELEMENTDATA", type := (.array (.object "java/lang/Object")), accessFlags := 26, slot := 2, constantValue := 0 }, { name := "DEFAULTCAPACITY_EMPTY_ELEMENTDATA", type := (.array (.object "java/lang/Object")), accessFlags := 26, slot := 3, constantValue := 0 }, { name := "elementData", type := (.array (.object "java/lang/Object")), accessFlags := 128, slot := 1, constantValue := 0 }, { name := "size", type := .int, accessFlags := 2, slot := 2, constantValue := 0 }]
  methods := #[k12m0, k12m1, k12m2, k12m3, k12m4, k12m5, k12m6, k12m7]
  instanceTypes := #[.int, (.array (.object "java/lang/Object")), .int]
  staticTypes := #[.long, .int, (.array (.object "java/lang/Object")), (.array (.object "java/lang/Object"))]
  resolved := Array.replicate 509 none
  statics := some 0 }

def pool13 : Array CpInfo := pool [(1, .class_ 2), (0, u "java/lang/Math"), (1, .class_ 6), (1, u "java/lang/Object"), (0, u "<init>"), (0, u "()V"), (89, .class_ 100), (1, u "java/lang/Math$RandomNumberGeneratorHolder"), (71, u "negativeZeroFloatBits"), (0, u "J"), (2, u "negativeZeroDoubleBits"), (21, u "max"), (46, u "$assertionsDisabled"), (0, u "Z"), (88, u "(II)I"), (2, u "twoToTheDoubleScaleDown"), (0, u "D"), (4, u "twoToTheDoubleScaleUp"), (9, u "E"), (3, u "PI"), (2, u "TAU"), (2, u "DEGREES_TO_RADIANS"), (0, u "RADIANS_TO_DEGREES")] 94

def k13m0 : Method := { name := "<init>", desc := "()V", sig := { parameters := [], returnType := none }, accessFlags := 2, code := none }
def k13c1 : Code := { maxStack := 2, maxLocals := 2, code := jdk_29_method_65_code, exceptionTable := #[], attributes := #[] }
def k13m1 : Method := { name := "max", desc := "(II)I", sig := { parameters := [.int, .int], returnType := some .int }, accessFlags := 9, code := some k13c1 }
/-- java/lang/Math -/
def k13 : Class := { plain "java/lang/Math" (some 0) with
  accessFlags := 49
  interfaces := #[]
  cf := some (fileOf pool13 1 #[.nestMembers #[98]] #[{ accessFlags := 2, nameIndex := 7, descriptorIndex := 8, attributes := #[] }, { accessFlags := 9, nameIndex := 198, descriptorIndex := 335, attributes := #[] }] 49 4 #[] #[{ accessFlags := 25, nameIndex := 354, descriptorIndex := 339, attributes := #[] }, { accessFlags := 25, nameIndex := 358, descriptorIndex := 339, attributes := #[] }, { accessFlags := 25, nameIndex := 361, descriptorIndex := 339, attributes := #[] }, { accessFlags := 26, nameIndex := 364, descriptorIndex := 339, attributes := #[] }, { accessFlags := 26, nameIndex := 365, descriptorIndex := 339, attributes := #[] }, { accessFlags := 26, nameIndex := 172, descriptorIndex := 173, attributes := #[] }, { accessFlags := 26, nameIndex := 176, descriptorIndex := 173, attributes := #[] }, { accessFlags := 8, nameIndex := 344, descriptorIndex := 339, attributes := #[] }, { accessFlags := 8, nameIndex := 338, descriptorIndex := 339, attributes := #[] }, { accessFlags := 4120, nameIndex := 245, descriptorIndex := 246, attributes := #[] }])
  fields := #[{ name := "E", type := .double, accessFlags := 25, slot := 0, constantValue := 0 }, { name := "PI", type := .double, accessFlags := 25, slot := 1, constantValue := 0 }, { name := "TAU", type := .double, accessFlags := 25, slot := 2, constantValue := 0 }, { name := "DEGREES_TO_RADIANS", type := .double, accessFlags := 26, slot := 3, constantValue := 0 }, { name := "RADIANS_TO_DEGREES", type := .double, accessFlags := 26, slot := 4, constantValue := 0 }, { name := "negativeZeroFloatBits", type := .long, accessFlags := 26, slot := 5, constantValue := 0 }, { name := "negativeZeroDoubleBits", type := .long, accessFlags := 26, slot := 6, constantValue := 0 }, { name := "twoToTheDoubleScaleUp", type := .double, accessFlags := 8, slot := 7, constantValue := 0 }, { name := "twoToTheDoubleScaleDown", type := .double, accessFlags := 8, slot := 8, constantValue := 0 }, { name := "$assertionsDisabled", type := .boolean, accessFlags := 4120, slot := 9, constantValue := 0 }]
  methods := #[k13m0, k13m1]
  instanceTypes := #[]
  staticTypes := #[.double, .double, .double, .double, .double, .long, .long, .double, .double, .boolean]
  resolved := Array.replicate 460 none
  statics := none }

def pool14 : Array CpInfo := pool [(1, .class_ 2), (0, u "com/example/zhangtiao/zhangtiao/input/VarLongs"), (0, .fieldref 4 5), (0, .class_ 6), (0, .nameAndType 7 8), (0, u "com/example/zhangtiao/zhangtiao/input/VarLongs$Cursor"), (0, u "this$0"), (0, u "Lcom/example/zhangtiao/zhangtiao/input/VarLongs;"), (0, .methodref 10 11), (0, .class_ 12), (0, .nameAndType 13 14), (0, u "java/lang/Object"), (0, u "<init>"), (0, u "()V"), (0, .long 65536), (1, .fieldref 4 18), (0, .nameAndType 19 20), (0, u "chunk"), (0, u "I"), (0, .fieldref 4 22), (0, .nameAndType 23 20), (0, u "at"), (0, .integer 65536), (0, .fieldref 1 26), (0, .nameAndType 27 28), (0, u "chunks"), (0, u "Ljava/util/List;"), (0, .interfaceMethodref 30 31), (0, .class_ 32), (0, .nameAndType 33 34), (0, u "java/util/List"), (0, u "get"), (0, u "(I)Ljava/lang/Object;"), (0, .class_ 36), (0, u "[B"), (0, u "(Lcom/example/zhangtiao/zhangtiao/input/VarLongs;)V"), (3, u "moveTo"), (0, u "(J)V"), (0, u "next"), (0, u "()J")] 6

def k14c0 : Code := { maxStack := 2, maxLocals := 2, code := prog_35_method_1_code, exceptionTable := #[], attributes := #[] }
def k14m0 : Method := { name := "<init>", desc := "(Lcom/example/zhangtiao/zhangtiao/input/VarLongs;)V", sig := { parameters := [(.object "com/example/zhangtiao/zhangtiao/input/VarLongs")], returnType := none }, accessFlags := 1, code := some k14c0 }
def k14c1 : Code := { maxStack := 5, maxLocals := 3, code := prog_35_method_2_code, exceptionTable := #[], attributes := #[] }
def k14m1 : Method := { name := "moveTo", desc := "(J)V", sig := { parameters := [.long], returnType := none }, accessFlags := 1, code := some k14c1 }
def k14c2 : Code := { maxStack := 5, maxLocals := 6, code := prog_35_method_3_code, exceptionTable := #[], attributes := #[] }
def k14m2 : Method := { name := "next", desc := "()J", sig := { parameters := [], returnType := some .long }, accessFlags := 1, code := some k14c2 }
/-- com/example/zhangtiao/zhangtiao/input/VarLongs$Cursor -/
def k14 : Class := { plain "com/example/zhangtiao/zhangtiao/input/VarLongs$Cursor" (some 0) with
  accessFlags := 49
  interfaces := #[]
  cf := some (fileOf pool14 4 #[.nestHost 1] #[{ accessFlags := 1, nameIndex := 13, descriptorIndex := 37, attributes := #[] }, { accessFlags := 1, nameIndex := 41, descriptorIndex := 42, attributes := #[] }, { accessFlags := 1, nameIndex := 43, descriptorIndex := 44, attributes := #[] }] 49 10 #[] #[{ accessFlags := 2, nameIndex := 19, descriptorIndex := 20, attributes := #[] }, { accessFlags := 2, nameIndex := 23, descriptorIndex := 20, attributes := #[] }, { accessFlags := 4112, nameIndex := 7, descriptorIndex := 8, attributes := #[] }])
  fields := #[{ name := "chunk", type := .int, accessFlags := 2, slot := 0, constantValue := 0 }, { name := "at", type := .int, accessFlags := 2, slot := 1, constantValue := 0 }, { name := "this$0", type := (.object "com/example/zhangtiao/zhangtiao/input/VarLongs"), accessFlags := 4112, slot := 2, constantValue := 0 }]
  methods := #[k14m0, k14m1, k14m2]
  instanceTypes := #[.int, .int, (.object "com/example/zhangtiao/zhangtiao/input/VarLongs")]
  staticTypes := #[]
  resolved := Array.replicate 51 none
  statics := none }

def pool15 : Array CpInfo := pool [(2, .class_ 4), (1, u "java/lang/Object"), (0, u "<init>"), (0, u "()V"), (35, .class_ 44), (1, u "java/util/Objects"), (0, u "requireNonNull"), (0, u "(Ljava/lang/Object;)Ljava/lang/Object;"), (58, .methodref 106 107), (0, .class_ 108), (0, .nameAndType 109 110), (0, u "jdk/internal/util/Preconditions"), (0, u "checkIndex"), (0, u "(IILjava/util/function/BiFunction;)I"), (60, u "(II)I")] 12

def k15m0 : Method := { name := "<init>", desc := "()V", sig := { parameters := [], returnType := none }, accessFlags := 2, code := none }
def k15c1 : Code := { maxStack := 2, maxLocals := 1, code := jdk_31_method_10_code, exceptionTable := #[], attributes := #[] }
def k15m1 : Method := { name := "requireNonNull", desc := "(Ljava/lang/Object;)Ljava/lang/Object;", sig := { parameters := [(.object "java/lang/Object")], returnType := some (.object "java/lang/Object") }, accessFlags := 9, code := some k15c1 }
def k15c2 : Code := { maxStack := 3, maxLocals := 2, code := jdk_31_method_17_code, exceptionTable := #[], attributes := #[] }
def k15m2 : Method := { name := "checkIndex", desc := "(II)I", sig := { parameters := [.int, .int], returnType := some .int }, accessFlags := 9, code := some k15c2 }
/-- java/util/Objects -/
def k15 : Class := { plain "java/util/Objects" (some 0) with
  accessFlags := 49
  interfaces := #[]
  cf := some (fileOf pool15 42 #[] #[{ accessFlags := 2, nameIndex := 5, descriptorIndex := 6, attributes := #[] }, { accessFlags := 9, nameIndex := 45, descriptorIndex := 46, attributes := #[] }, { accessFlags := 9, nameIndex := 109, descriptorIndex := 171, attributes := #[] }] 49 2 #[] #[])
  fields := #[]
  methods := #[k15m0, k15m1, k15m2]
  instanceTypes := #[]
  staticTypes := #[]
  resolved := Array.replicate 184 none
  statics := none }

def pool16 : Array CpInfo := pool [(2, .class_ 4), (1, u "java/lang/Object"), (0, u "<init>"), (0, u "()V"), (17, .class_ 26), (1, u "jdk/internal/util/Preconditions"), (6, u "checkIndex"), (21, .class_ 56), (0, u "jdk/internal/util/Preconditions$4"), (57, .class_ 115), (0, u "jdk/internal/util/Preconditions$1"), (7, u "SIOOBE_FORMATTER"), (0, u "Ljava/util/function/BiFunction;"), (0, .class_ 126), (0, u "jdk/internal/util/Preconditions$2"), (3, u "AIOOBE_FORMATTER"), (0, .class_ 132), (0, u "jdk/internal/util/Preconditions$3"), (3, u "IOOBE_FORMATTER"), (41, u "(IILjava/util/function/BiFunction;)I")] 15

def k16m0 : Method := { name := "<init>", desc := "()V", sig := { parameters := [], returnType := none }, accessFlags := 1, code := none }
def k16c1 : Code := { maxStack := 3, maxLocals := 3, code := jdk_41_method_11_code, exceptionTable := #[], attributes := #[] }
def k16m1 : Method := { name := "checkIndex", desc := "(IILjava/util/function/BiFunction;)I", sig := { parameters := [.int, .int, (.object "java/util/function/BiFunction")], returnType := some .int }, accessFlags := 9, code := some k16c1 }
/-- jdk/internal/util/Preconditions -/
def k16 : Class := { plain "jdk/internal/util/Preconditions" (some 0) with
  accessFlags := 33
  interfaces := #[]
  cf := some (fileOf pool16 24 #[.nestMembers #[55, 131, 125, 114]] #[{ accessFlags := 1, nameIndex := 5, descriptorIndex := 6, attributes := #[] }, { accessFlags := 9, nameIndex := 33, descriptorIndex := 178, attributes := #[] }] 33 2 #[] #[{ accessFlags := 25, nameIndex := 123, descriptorIndex := 124, attributes := #[] }, { accessFlags := 25, nameIndex := 130, descriptorIndex := 124, attributes := #[] }, { accessFlags := 25, nameIndex := 136, descriptorIndex := 124, attributes := #[] }])
  fields := #[{ name := "SIOOBE_FORMATTER", type := (.object "java/util/function/BiFunction"), accessFlags := 25, slot := 0, constantValue := 0 }, { name := "AIOOBE_FORMATTER", type := (.object "java/util/function/BiFunction"), accessFlags := 25, slot := 1, constantValue := 0 }, { name := "IOOBE_FORMATTER", type := (.object "java/util/function/BiFunction"), accessFlags := 25, slot := 2, constantValue := 0 }]
  methods := #[k16m0, k16m1]
  instanceTypes := #[]
  staticTypes := #[(.object "java/util/function/BiFunction"), (.object "java/util/function/BiFunction"), (.object "java/util/function/BiFunction")]
  resolved := Array.replicate 194 none
  statics := none }

/-- the primitive byte -/
def k17 : Class := { plain "byte" none with kind := .primitive 'B', accessFlags := 0x411 }
/-- [B -/
def k18 : Class := { plain "[B" (some 0) with kind := .array 17 .byte, interfaces := #[10, 11], accessFlags := 1041 }

/-- the primitive int -/
def k19 : Class := { plain "int" none with kind := .primitive 'I', accessFlags := 0x411 }
/-- [I -/
def k20 : Class := { plain "[I" (some 0) with kind := .array 19 .int, interfaces := #[10, 11], accessFlags := 1041 }

/-- [Ljava/lang/Object; -/
def k21 : Class := { plain "[Ljava/lang/Object;" (some 0) with kind := .array 0 (.object "java/lang/Object"), interfaces := #[10, 11], accessFlags := 1041 }

def heap : Heap := #[{ cls := 12, slots := #[.long 0, .int 0, .ref 1, .ref 2], vm := .statics 12 },
  { cls := 21, slots := #[], vm := .none },
  { cls := 21, slots := #[], vm := .none }]
def classes : Array Class := #[k0, k1, k2, k3, k4, k5, k6, k7, k8, k9, k10, k11, k12, k13, k14, k15, k16, k17, k18, k19, k20, k21]
def interned : List (Array UInt16 × Addr) := []
def slotsUsed : Nat := 4
def theMethod : MethodId := ⟨1, 2⟩
def args0 : Array Value := #[.long 5, .long 6, .long 7, .int 8]
def aboutOver (below : List Frame) : State where
  vm := { classes := classes, interned := interned.toArray }
  heap := heap
  slotsUsed := slotsUsed
  threads := #[{ frames := .invoking theMethod args0 :: below }]
def below0 : List Frame := [.native { method := ⟨0, 0⟩, args := #[] }]
def about1 : State := aboutOver below0
def p0 : Program := .bare "" "" ""
def e0 : Env := launch0.env 0 0 0
theorem w_frames : about1.frames = Frame.invoking theMethod args0 :: below0 := rfl
set_option maxRecDepth 65536 in
theorem w_args : argsFit about1.vm theMethod args0 = true := by decide +kernel
set_option maxRecDepth 65536 in
theorem w_heap : heapFits about1 = true := by decide +kernel
set_option maxRecDepth 65536 in
theorem w_runnable : about1.curStatus? = some .runnable := by decide +kernel
set_option maxRecDepth 65536 in
theorem w_alone : about1.alone = true := by decide +kernel
set_option maxRecDepth 65536 in
theorem w_named : about1.methodNamed? x = some theMethod := by decide +kernel
set_option maxRecDepth 65536 in
theorem w_hears : about1.hears theMethod below0 = true := by decide +kernel
set_option maxRecDepth 65536 in
theorem w_ripe : about1.ripe theMethod args0 below0 = true := by decide +kernel
theorem w_running : about1.status = .running := rfl
set_option maxRecDepth 65536 in
theorem w_room : about1.hasRoom e0.platform room_1 = true :=
  launch0.hasRoom_least _ room_1 (by decide +kernel) (by decide +kernel) (by decide +kernel) (by decide +kernel) (by decide +kernel) (by decide +kernel)
theorem allAtoms_all (ts : List Jvm.Cond) (a : Array Jvm.Value) (st : Jvm.State) : (allAtoms ts).before a st = ts.all (fun c => c.before a st) := by
  induction ts with
  | nil => rfl
  | cons c t ih =>
    show (Jvm.Cond.and c (allAtoms t)).before a st = _
    rw [Jvm.Cond.before_and, ih, List.all_cons]
def words1 : List Jvm.Cond := Jvm.Cond.code x code maxLocals ret :: tables_1
/-- a 'code' word, met by the world's own term for the bytes: nothing is compared byte by byte -/
theorem code_word {y : MethodName} {bytes : ByteArray} {mx : Nat} {rt : Option FieldType} {a : Array Value} {s : State} {m : MethodId} {meth : Method} {c : Code} (h1 : s.methodNamed? y = some m) (h2 : s.vm.method? m = some meth) (h3 : meth.code = some c) (h4 : c.code = bytes)
    (h5 : (c.maxLocals == mx && c.exceptionTable.isEmpty && decide (c.maxStack ≤ mostOperands) && decide (meth.sig.returnType = rt) && !meth.locks && decide (parseMethodDescriptor y.desc = some meth.sig)) = true) : (Jvm.Cond.code y bytes mx rt).before a s = true := by
  simp only [Bool.and_eq_true, beq_iff_eq, Bool.not_eq_true', decide_eq_true_eq] at h5
  obtain ⟨⟨⟨⟨⟨g1, g2⟩, g3⟩, g4⟩, g5⟩, g6⟩ := h5
  simp [Cond.before, Cond.holds, Cond.value, h1, h2, h3, h4, g1, g2, g3, g4, g5, g6]
def isCode : Jvm.Cond → Bool
  | .code _ _ _ _ => true
  | _ => false
theorem all_split {L : List Jvm.Cond} {P : Jvm.Cond → Bool} (h1 : L.all (fun c => isCode c || P c) = true) (h2 : ∀ c ∈ L.filter isCode, P c = true) : L.all P = true := by
  refine List.all_eq_true.mpr fun c hc => ?_
  have h := List.all_eq_true.mp h1 c hc
  rcases Bool.eq_false_or_eq_true (isCode c) with hi | hi
  · exact h2 c (List.mem_filter.mpr ⟨hc, hi⟩)
  · simpa [hi] using h
set_option maxRecDepth 65536 in
theorem w_c0 : (Jvm.Cond.code x code maxLocals ret).before args0 about1 = true := code_word (m := ⟨1, 2⟩) (meth := k1m2) (c := k1c2) (by decide +kernel) rfl rfl rfl (by decide +kernel)
set_option maxRecDepth 65536 in
theorem w_c1 : (Jvm.Cond.code ({ cls := "com/example/zhangtiao/zhangtiao/input/VarLongs", name := "<init>", desc := "()V" } : Jvm.MethodName) prog_34_method_1_code (1 : Nat) (Option.none : Option Jvm.ClassFile.FieldType)).before args0 about1 = true := code_word (m := ⟨2, 0⟩) (meth := k2m0) (c := k2c0) (by decide +kernel) rfl rfl rfl (by decide +kernel)
set_option maxRecDepth 65536 in
theorem w_c2 : (Jvm.Cond.code ({ cls := "java/lang/Object", name := "<init>", desc := "()V" } : Jvm.MethodName) object_method_1_code (1 : Nat) (Option.none : Option Jvm.ClassFile.FieldType)).before args0 about1 = true := code_word (m := ⟨0, 0⟩) (meth := k0m0) (c := k0c0) (by decide +kernel) rfl rfl rfl (by decide +kernel)
set_option maxRecDepth 65536 in
theorem w_c3 : (Jvm.Cond.code ({ cls := "java/util/ArrayList", name := "<init>", desc := "()V" } : Jvm.MethodName) jdk_38_method_2_code (1 : Nat) (Option.none : Option Jvm.ClassFile.FieldType)).before args0 about1 = true := code_word (m := ⟨12, 0⟩) (meth := k12m0) (c := k12c0) (by decide +kernel) rfl rfl rfl (by decide +kernel)
set_option maxRecDepth 65536 in
theorem w_c4 : (Jvm.Cond.code ({ cls := "java/util/AbstractList", name := "<init>", desc := "()V" } : Jvm.MethodName) jdk_39_method_1_code (1 : Nat) (Option.none : Option Jvm.ClassFile.FieldType)).before args0 about1 = true := code_word (m := ⟨8, 0⟩) (meth := k8m0) (c := k8c0) (by decide +kernel) rfl rfl rfl (by decide +kernel)
set_option maxRecDepth 65536 in
theorem w_c5 : (Jvm.Cond.code ({ cls := "java/util/AbstractCollection", name := "<init>", desc := "()V" } : Jvm.MethodName) jdk_22_method_1_code (1 : Nat) (Option.none : Option Jvm.ClassFile.FieldType)).before args0 about1 = true := code_word (m := ⟨5, 0⟩) (meth := k5m0) (c := k5c0) (by decide +kernel) rfl rfl rfl (by decide +kernel)
set_option maxRecDepth 65536 in
theorem w_c6 : (Jvm.Cond.code ({ cls := "com/example/zhangtiao/zhangtiao/input/VarLongs", name := "position", desc := "()J" } : Jvm.MethodName) prog_34_method_3_code (1 : Nat) (Option.some Jvm.ClassFile.FieldType.long)).before args0 about1 = true := code_word (m := ⟨2, 2⟩) (meth := k2m2) (c := k2c2) (by decide +kernel) rfl rfl rfl (by decide +kernel)
set_option maxRecDepth 65536 in
theorem w_c7 : (Jvm.Cond.code ({ cls := "java/util/ArrayList", name := "size", desc := "()I" } : Jvm.MethodName) jdk_38_method_8_code (1 : Nat) (Option.some Jvm.ClassFile.FieldType.int)).before args0 about1 = true := code_word (m := ⟨12, 3⟩) (meth := k12m3) (c := k12c3) (by decide +kernel) rfl rfl rfl (by decide +kernel)
set_option maxRecDepth 65536 in
theorem w_c8 : (Jvm.Cond.code ({ cls := "com/example/zhangtiao/zhangtiao/input/VarLongs", name := "add", desc := "(J)V" } : Jvm.MethodName) prog_34_method_2_code (5 : Nat) (Option.none : Option Jvm.ClassFile.FieldType)).before args0 about1 = true := code_word (m := ⟨2, 1⟩) (meth := k2m1) (c := k2c1) (by decide +kernel) rfl rfl rfl (by decide +kernel)
set_option maxRecDepth 65536 in
theorem w_c9 : (Jvm.Cond.code ({ cls := "java/util/ArrayList", name := "add", desc := "(Ljava/lang/Object;)Z" } : Jvm.MethodName) jdk_38_method_25_code (2 : Nat) (Option.some Jvm.ClassFile.FieldType.boolean)).before args0 about1 = true := code_word (m := ⟨12, 7⟩) (meth := k12m7) (c := k12c7) (by decide +kernel) rfl rfl rfl (by decide +kernel)
set_option maxRecDepth 65536 in
theorem w_c10 : (Jvm.Cond.code ({ cls := "java/util/ArrayList", name := "add", desc := "(Ljava/lang/Object;[Ljava/lang/Object;I)V" } : Jvm.MethodName) jdk_38_method_24_code (4 : Nat) (Option.none : Option Jvm.ClassFile.FieldType)).before args0 about1 = true := code_word (m := ⟨12, 6⟩) (meth := k12m6) (c := k12c6) (by decide +kernel) rfl rfl rfl (by decide +kernel)
set_option maxRecDepth 65536 in
theorem w_c11 : (Jvm.Cond.code ({ cls := "java/util/ArrayList", name := "grow", desc := "()[Ljava/lang/Object;" } : Jvm.MethodName) jdk_38_method_7_code (1 : Nat) (Option.some (Jvm.ClassFile.FieldType.array (Jvm.ClassFile.FieldType.object "java/lang/Object")))).before args0 about1 = true := code_word (m := ⟨12, 2⟩) (meth := k12m2) (c := k12c2) (by decide +kernel) rfl rfl rfl (by decide +kernel)
set_option maxRecDepth 65536 in
theorem w_c12 : (Jvm.Cond.code ({ cls := "java/util/ArrayList", name := "grow", desc := "(I)[Ljava/lang/Object;" } : Jvm.MethodName) jdk_38_method_6_code (4 : Nat) (Option.some (Jvm.ClassFile.FieldType.array (Jvm.ClassFile.FieldType.object "java/lang/Object")))).before args0 about1 = true := code_word (m := ⟨12, 1⟩) (meth := k12m1) (c := k12c1) (by decide +kernel) rfl rfl rfl (by decide +kernel)
set_option maxRecDepth 65536 in
theorem w_c13 : (Jvm.Cond.code ({ cls := "java/lang/Math", name := "max", desc := "(II)I" } : Jvm.MethodName) jdk_29_method_65_code (2 : Nat) (Option.some Jvm.ClassFile.FieldType.int)).before args0 about1 = true := code_word (m := ⟨13, 1⟩) (meth := k13m1) (c := k13c1) (by decide +kernel) rfl rfl rfl (by decide +kernel)
set_option maxRecDepth 65536 in
theorem w_c14 : (Jvm.Cond.code ({ cls := "java/util/Objects", name := "requireNonNull", desc := "(Ljava/lang/Object;)Ljava/lang/Object;" } : Jvm.MethodName) jdk_31_method_10_code (1 : Nat) (Option.some (Jvm.ClassFile.FieldType.object "java/lang/Object"))).before args0 about1 = true := code_word (m := ⟨15, 1⟩) (meth := k15m1) (c := k15c1) (by decide +kernel) rfl rfl rfl (by decide +kernel)
set_option maxRecDepth 65536 in
theorem w_c15 : (Jvm.Cond.code ({ cls := "com/example/zhangtiao/zhangtiao/input/VarLongs$Cursor", name := "<init>", desc := "(Lcom/example/zhangtiao/zhangtiao/input/VarLongs;)V" } : Jvm.MethodName) prog_35_method_1_code (2 : Nat) (Option.none : Option Jvm.ClassFile.FieldType)).before args0 about1 = true := code_word (m := ⟨14, 0⟩) (meth := k14m0) (c := k14c0) (by decide +kernel) rfl rfl rfl (by decide +kernel)
set_option maxRecDepth 65536 in
theorem w_c16 : (Jvm.Cond.code ({ cls := "com/example/zhangtiao/zhangtiao/input/VarLongsMoveToPinLaw", name := "pick", desc := "(IJJJ)J" } : Jvm.MethodName) method_2_code (7 : Nat) (Option.some Jvm.ClassFile.FieldType.long)).before args0 about1 = true := code_word (m := ⟨1, 1⟩) (meth := k1m1) (c := k1c1) (by decide +kernel) rfl rfl rfl (by decide +kernel)
set_option maxRecDepth 65536 in
theorem w_c17 : (Jvm.Cond.code ({ cls := "com/example/zhangtiao/zhangtiao/input/VarLongs$Cursor", name := "moveTo", desc := "(J)V" } : Jvm.MethodName) prog_35_method_2_code (3 : Nat) (Option.none : Option Jvm.ClassFile.FieldType)).before args0 about1 = true := code_word (m := ⟨14, 1⟩) (meth := k14m1) (c := k14c1) (by decide +kernel) rfl rfl rfl (by decide +kernel)
set_option maxRecDepth 65536 in
theorem w_c18 : (Jvm.Cond.code ({ cls := "com/example/zhangtiao/zhangtiao/input/VarLongs$Cursor", name := "next", desc := "()J" } : Jvm.MethodName) prog_35_method_3_code (6 : Nat) (Option.some Jvm.ClassFile.FieldType.long)).before args0 about1 = true := code_word (m := ⟨14, 2⟩) (meth := k14m2) (c := k14c2) (by decide +kernel) rfl rfl rfl (by decide +kernel)
set_option maxRecDepth 65536 in
theorem w_c19 : (Jvm.Cond.code ({ cls := "java/util/ArrayList", name := "get", desc := "(I)Ljava/lang/Object;" } : Jvm.MethodName) jdk_38_method_20_code (2 : Nat) (Option.some (Jvm.ClassFile.FieldType.object "java/lang/Object"))).before args0 about1 = true := code_word (m := ⟨12, 5⟩) (meth := k12m5) (c := k12c5) (by decide +kernel) rfl rfl rfl (by decide +kernel)
set_option maxRecDepth 65536 in
theorem w_c20 : (Jvm.Cond.code ({ cls := "java/util/Objects", name := "checkIndex", desc := "(II)I" } : Jvm.MethodName) jdk_31_method_17_code (2 : Nat) (Option.some Jvm.ClassFile.FieldType.int)).before args0 about1 = true := code_word (m := ⟨15, 2⟩) (meth := k15m2) (c := k15c2) (by decide +kernel) rfl rfl rfl (by decide +kernel)
set_option maxRecDepth 65536 in
theorem w_c21 : (Jvm.Cond.code ({ cls := "jdk/internal/util/Preconditions", name := "checkIndex", desc := "(IILjava/util/function/BiFunction;)I" } : Jvm.MethodName) jdk_41_method_11_code (3 : Nat) (Option.some Jvm.ClassFile.FieldType.int)).before args0 about1 = true := code_word (m := ⟨16, 1⟩) (meth := k16m1) (c := k16c1) (by decide +kernel) rfl rfl rfl (by decide +kernel)
set_option maxRecDepth 65536 in
theorem w_c22 : (Jvm.Cond.code ({ cls := "java/util/ArrayList", name := "elementData", desc := "(I)Ljava/lang/Object;" } : Jvm.MethodName) jdk_38_method_18_code (2 : Nat) (Option.some (Jvm.ClassFile.FieldType.object "java/lang/Object"))).before args0 about1 = true := code_word (m := ⟨12, 4⟩) (meth := k12m4) (c := k12c4) (by decide +kernel) rfl rfl rfl (by decide +kernel)
def codes1 : List Jvm.Cond := [Jvm.Cond.code x code maxLocals ret, Jvm.Cond.code ({ cls := "com/example/zhangtiao/zhangtiao/input/VarLongs", name := "<init>", desc := "()V" } : Jvm.MethodName) prog_34_method_1_code (1 : Nat) (Option.none : Option Jvm.ClassFile.FieldType), Jvm.Cond.code ({ cls := "java/lang/Object", name := "<init>", desc := "()V" } : Jvm.MethodName) object_method_1_code (1 : Nat) (Option.none : Option Jvm.ClassFile.FieldType), Jvm.Cond.code ({ cls := "java/util/ArrayList", name := "<init>", desc := "()V" } : Jvm.MethodName) jdk_38_method_2_code (1 : Nat) (Option.none : Option Jvm.ClassFile.FieldType), Jvm.Cond.code ({ cls := "java/util/AbstractList", name := "<init>", desc := "()V" } : Jvm.MethodName) jdk_39_method_1_code (1 : Nat) (Option.none : Option Jvm.ClassFile.FieldType), Jvm.Cond.code ({ cls := "java/util/AbstractCollection", name := "<init>", desc := "()V" } : Jvm.MethodName) jdk_22_method_1_code (1 : Nat) (Option.none : Option Jvm.ClassFile.FieldType), Jvm.Cond.code ({ cls := "com/example/zhangtiao/zhangtiao/input/VarLongs", name := "position", desc := "()J" } : Jvm.MethodName) prog_34_method_3_code (1 : Nat) (Option.some Jvm.ClassFile.FieldType.long), Jvm.Cond.code ({ cls := "java/util/ArrayList", name := "size", desc := "()I" } : Jvm.MethodName) jdk_38_method_8_code (1 : Nat) (Option.some Jvm.ClassFile.FieldType.int), Jvm.Cond.code ({ cls := "com/example/zhangtiao/zhangtiao/input/VarLongs", name := "add", desc := "(J)V" } : Jvm.MethodName) prog_34_method_2_code (5 : Nat) (Option.none : Option Jvm.ClassFile.FieldType), Jvm.Cond.code ({ cls := "java/util/ArrayList", name := "add", desc := "(Ljava/lang/Object;)Z" } : Jvm.MethodName) jdk_38_method_25_code (2 : Nat) (Option.some Jvm.ClassFile.FieldType.boolean), Jvm.Cond.code ({ cls := "java/util/ArrayList", name := "add", desc := "(Ljava/lang/Object;[Ljava/lang/Object;I)V" } : Jvm.MethodName) jdk_38_method_24_code (4 : Nat) (Option.none : Option Jvm.ClassFile.FieldType), Jvm.Cond.code ({ cls := "java/util/ArrayList", name := "grow", desc := "()[Ljava/lang/Object;" } : Jvm.MethodName) jdk_38_method_7_code (1 : Nat) (Option.some (Jvm.ClassFile.FieldType.array (Jvm.ClassFile.FieldType.object "java/lang/Object"))), Jvm.Cond.code ({ cls := "java/util/ArrayList", name := "grow", desc := "(I)[Ljava/lang/Object;" } : Jvm.MethodName) jdk_38_method_6_code (4 : Nat) (Option.some (Jvm.ClassFile.FieldType.array (Jvm.ClassFile.FieldType.object "java/lang/Object"))), Jvm.Cond.code ({ cls := "java/lang/Math", name := "max", desc := "(II)I" } : Jvm.MethodName) jdk_29_method_65_code (2 : Nat) (Option.some Jvm.ClassFile.FieldType.int), Jvm.Cond.code ({ cls := "java/util/Objects", name := "requireNonNull", desc := "(Ljava/lang/Object;)Ljava/lang/Object;" } : Jvm.MethodName) jdk_31_method_10_code (1 : Nat) (Option.some (Jvm.ClassFile.FieldType.object "java/lang/Object")), Jvm.Cond.code ({ cls := "com/example/zhangtiao/zhangtiao/input/VarLongs$Cursor", name := "<init>", desc := "(Lcom/example/zhangtiao/zhangtiao/input/VarLongs;)V" } : Jvm.MethodName) prog_35_method_1_code (2 : Nat) (Option.none : Option Jvm.ClassFile.FieldType), Jvm.Cond.code ({ cls := "com/example/zhangtiao/zhangtiao/input/VarLongsMoveToPinLaw", name := "pick", desc := "(IJJJ)J" } : Jvm.MethodName) method_2_code (7 : Nat) (Option.some Jvm.ClassFile.FieldType.long), Jvm.Cond.code ({ cls := "com/example/zhangtiao/zhangtiao/input/VarLongs$Cursor", name := "moveTo", desc := "(J)V" } : Jvm.MethodName) prog_35_method_2_code (3 : Nat) (Option.none : Option Jvm.ClassFile.FieldType), Jvm.Cond.code ({ cls := "com/example/zhangtiao/zhangtiao/input/VarLongs$Cursor", name := "next", desc := "()J" } : Jvm.MethodName) prog_35_method_3_code (6 : Nat) (Option.some Jvm.ClassFile.FieldType.long), Jvm.Cond.code ({ cls := "java/util/ArrayList", name := "get", desc := "(I)Ljava/lang/Object;" } : Jvm.MethodName) jdk_38_method_20_code (2 : Nat) (Option.some (Jvm.ClassFile.FieldType.object "java/lang/Object")), Jvm.Cond.code ({ cls := "java/util/Objects", name := "checkIndex", desc := "(II)I" } : Jvm.MethodName) jdk_31_method_17_code (2 : Nat) (Option.some Jvm.ClassFile.FieldType.int), Jvm.Cond.code ({ cls := "jdk/internal/util/Preconditions", name := "checkIndex", desc := "(IILjava/util/function/BiFunction;)I" } : Jvm.MethodName) jdk_41_method_11_code (3 : Nat) (Option.some Jvm.ClassFile.FieldType.int), Jvm.Cond.code ({ cls := "java/util/ArrayList", name := "elementData", desc := "(I)Ljava/lang/Object;" } : Jvm.MethodName) jdk_38_method_18_code (2 : Nat) (Option.some (Jvm.ClassFile.FieldType.object "java/lang/Object"))]
set_option maxRecDepth 65536 in
theorem codes_eq : words1.filter isCode = codes1 := rfl
theorem w_codes : ∀ c ∈ words1.filter isCode, c.before args0 about1 = true := by
  rw [codes_eq]
  intro c hc
  simp only [codes1, List.mem_cons, List.not_mem_nil, or_false] at hc
  rcases hc with rfl | rfl | rfl | rfl | rfl | rfl | rfl | rfl | rfl | rfl | rfl | rfl | rfl | rfl | rfl | rfl | rfl | rfl | rfl | rfl | rfl | rfl | rfl
  · exact w_c0
  · exact w_c1
  · exact w_c2
  · exact w_c3
  · exact w_c4
  · exact w_c5
  · exact w_c6
  · exact w_c7
  · exact w_c8
  · exact w_c9
  · exact w_c10
  · exact w_c11
  · exact w_c12
  · exact w_c13
  · exact w_c14
  · exact w_c15
  · exact w_c16
  · exact w_c17
  · exact w_c18
  · exact w_c19
  · exact w_c20
  · exact w_c21
  · exact w_c22
set_option maxRecDepth 65536 in
theorem w_t1 : (words1.take 24).all (fun c => isCode c || c.before args0 about1) = true := by decide +kernel
set_option maxRecDepth 65536 in
theorem w_t2 : ((words1.drop 24).take 24).all (fun c => isCode c || c.before args0 about1) = true := by decide +kernel
set_option maxRecDepth 65536 in
theorem w_t3 : (((words1.drop 24).drop 24).take 24).all (fun c => isCode c || c.before args0 about1) = true := by decide +kernel
set_option maxRecDepth 65536 in
theorem w_t4 : ((((words1.drop 24).drop 24).drop 24).take 24).all (fun c => isCode c || c.before args0 about1) = true := by decide +kernel
set_option maxRecDepth 65536 in
theorem w_t5 : (((((words1.drop 24).drop 24).drop 24).drop 24).take 24).all (fun c => isCode c || c.before args0 about1) = true := by decide +kernel
set_option maxRecDepth 65536 in
theorem w_t6 : ((((((words1.drop 24).drop 24).drop 24).drop 24).drop 24).take 24).all (fun c => isCode c || c.before args0 about1) = true := by decide +kernel
set_option maxRecDepth 65536 in
theorem w_t7 : ((((((words1.drop 24).drop 24).drop 24).drop 24).drop 24).drop 24).all (fun c => isCode c || c.before args0 about1) = true := by decide +kernel
theorem w_tables : (allAtoms (Jvm.Cond.code x code maxLocals ret :: tables_1)).before args0 about1 = true := by
  rw [allAtoms_all]
  show words1.all (fun c => c.before args0 about1) = true
  refine all_split ?_ w_codes
  rw [← List.take_append_drop 24 words1, List.all_append, w_t1, ← List.take_append_drop 24 (words1.drop 24), List.all_append, w_t2, ← List.take_append_drop 24 ((words1.drop 24).drop 24), List.all_append, w_t3, ← List.take_append_drop 24 (((words1.drop 24).drop 24).drop 24), List.all_append, w_t4, ← List.take_append_drop 24 ((((words1.drop 24).drop 24).drop 24).drop 24), List.all_append, w_t5, ← List.take_append_drop 24 (((((words1.drop 24).drop 24).drop 24).drop 24).drop 24), List.all_append, w_t6, w_t7]
  rfl
set_option maxRecDepth 65536 in
theorem w_rest : rest_1_c.before args0 about1 = true := by decide +kernel
set_option maxRecDepth 65536 in
theorem w_case : (Jvm.Cond.and given_1 narrow_1).before args0 about1 = true := by decide +kernel
theorem w_applies : (headSpec (Jvm.Cond.code x code maxLocals ret :: tables_1) room_1).applies x e0.platform about1 = true :=
  (Spec.applies_iff w_frames).mpr ⟨w_running, w_runnable, w_alone, w_named, w_hears, w_ripe, w_room, w_tables⟩
theorem atStart : AtStart classFile x code maxLocals ret World_1 tables_1 room_1 Calls_1 rest_1 Pre_1 launch0 p0 e0 about1 theMethod args0 below0 :=
  ⟨lists_1, trivial, launch0.admits_env _ _ _, launch0.least_env, fairChoices_fair.cas, fairChoices_fair.clock, w_frames, w_args, w_heap, w_applies, trivial, w_rest, w_case⟩
end start1
theorem witness_1 : WitnessClaimed_1 := ⟨start1.p0, start1.e0, start1.about1, start1.theMethod, start1.args0, start1.below0, start1.atStart⟩
end Jvm.Pilot.@@N@@
