import JvmDerived
import JvmDerived.Pilot.@@N@@Statement
import JvmDerived.Pilot.@@N@@Code
set_option linter.unusedVariables false
set_option linter.unusedSimpArgs false
namespace Jvm.RoadKit
open Sem ClassFile Op Lib Jvm.Stand Jvm.Free Jvm.LawKit
section New
variable {p : Program} {l : Launch} {e : Env} {R : Room} {s : State} {m : MethodId} {args : Array Value} {below : List Frame} {meth : Method} {c : Code} {T : State} {locs : List Loc} {cells slots : Nat}
theorem retI (X : Stand p l e R s m args below meth c T locs cells slots) (hx : p.tables.exec = Jvm.exec) {pc : Nat} {Ls : Array Slot} {z : Int32} {rest : List Value} (hret : meth.sig.returnType = some .int) (hd : decode c.code pc = .ok (.ireturn, 1)) {fs : List Frame}
    (hl : ∀ (f : JFrame) (acts : List Action), f.method = m → f.locked = none → f.entered = [] → (doReturn e (T.setTop f) acts (some (.int z))).1 = T.setFrames fs) : Steps p.tables e below (T.setTop (mkF m pc Ls (.int z :: rest))) (T.setFrames fs) := by
  have hm' : T.vm.method? m = some meth := X.method'
  have hn : narrow .int (.int z) = .int z := rfl
  show Steps p.tables e below (T.setTop { method := m, pc := pc, locals := Ls, stack := _ :: rest, locked := none }) _
  jvm_step X.here [X.here.top, hx, hd, hm', hret, hn]
  first | (intro acts; rw [hl _ acts rfl rfl rfl]) | rw [hl _ _ rfl rfl rfl]
  exact Steps.refl _
end New
end Jvm.RoadKit
namespace Jvm.Pilot.@@N@@
open Jvm Jvm.ClassFile Sem Op Lib Jvm.Free Jvm.Stand Jvm.LawKit Jvm.RoadKit Bundle Jvm.Pilot.@@N@@.Jvm.D
/-- from the state A the run comes to the frame f over T -/
abbrev Go (tb : Tables) (e : Env) (below : List Frame) (A T : State) (f : JFrame) : Prop := ∀ t, Steps tb e below (T.setTop f) t → Steps tb e below A t

theorem own_m (j : Nat) : (255#64).getLsbD j = decide (j < 8) := by
  by_cases h : j < 64
  · have : ∀ k : Fin 64, (255#64).getLsbD k.val = decide (k.val < 8) := by decide
    exact this ⟨j, h⟩
  · rw [BitVec.getLsbD_of_ge _ _ (by omega)]; exact (decide_eq_false (by omega)).symm
theorem own_asm (v : BitVec 64) : ((v >>> 56 &&& 255#64) <<< 56 ||| (v >>> 48 &&& 255#64) <<< 48 ||| (v >>> 40 &&& 255#64) <<< 40 ||| (v >>> 32 &&& 255#64) <<< 32 ||| (v >>> 24 &&& 255#64) <<< 24 ||| (v >>> 16 &&& 255#64) <<< 16 ||| (v >>> 8 &&& 255#64) <<< 8 ||| (v &&& 255#64)) = v := by
  apply BitVec.eq_of_getLsbD_eq
  intro i hi
  simp only [BitVec.getLsbD_or, BitVec.getLsbD_shiftLeft, BitVec.getLsbD_and, BitVec.getLsbD_ushiftRight, own_m, hi, decide_true, Bool.true_and]
  have key : ∀ n, (!decide (i < n) && (v.getLsbD (n + (i - n)) && decide (i - n < 8))) = (decide (n ≤ i ∧ i < n + 8) && v.getLsbD i) := by
    intro n
    by_cases h : i < n
    · rw [decide_eq_true h, decide_eq_false (p := n ≤ i ∧ i < n + 8) (by omega)]; rfl
    · rw [decide_eq_false h, show n + (i - n) = i by omega]
      by_cases h2 : i - n < 8
      · rw [decide_eq_true h2, decide_eq_true (p := n ≤ i ∧ i < n + 8) (by omega)]; cases v.getLsbD i <;> rfl
      · rw [decide_eq_false h2, decide_eq_false (p := n ≤ i ∧ i < n + 8) (by omega)]; cases v.getLsbD i <;> rfl
  simp only [key]
  cases v.getLsbD i
  · simp
  · simp only [Bool.and_true, Bool.true_and, ← Bool.decide_or, decide_eq_true_eq]
    omega
def own_b8 (x : Int64) : Int32 := x.toInt32.toInt8.toInt32.toInt8.toInt32
theorem own_b8_bits (x : Int64) : ((own_b8 x).toInt64 &&& 255).toBitVec = x.toBitVec &&& 255#64 := by
  rw [Int64.toBitVec_and]
  show ((own_b8 x).toInt64).toBitVec &&& 255#64 = _
  apply BitVec.eq_of_getLsbD_eq
  intro i hi
  rw [BitVec.getLsbD_and, BitVec.getLsbD_and, own_m]
  by_cases h : i < 8
  · rw [decide_eq_true h, Bool.and_true, Bool.and_true]
    unfold own_b8
    simp only [Int32.toBitVec_toInt64, Int8.toInt8_toInt32, Int8.toBitVec_toInt32, Int32.toBitVec_toInt8, Int64.toBitVec_toInt32]
    rw [BitVec.getLsbD_signExtend, decide_eq_true hi, Bool.true_and, if_pos (by omega), BitVec.getLsbD_signExtend, decide_eq_true (by omega), Bool.true_and, if_pos h, BitVec.getLsbD_signExtend, decide_eq_true h, Bool.true_and, if_pos (by omega), BitVec.getLsbD_signExtend, decide_eq_true (by omega), Bool.true_and, if_pos (by omega)]
  · rw [decide_eq_false h, Bool.and_false, Bool.and_false]
def own_sh (z : Int64) (k : Int32) : Int64 := (z.toUInt64 >>> (k &&& 0x3f).toInt64.toUInt64).toInt64
def own_lo (b : Int32) (k : Int32) : Int64 := (b.toInt64 &&& 255) <<< (k &&& 0x3f).toInt64
def own_long (b0 b1 b2 b3 b4 b5 b6 b7 : Int32) : Int64 := own_lo b0 56 ||| own_lo b1 48 ||| own_lo b2 40 ||| own_lo b3 32 ||| own_lo b4 24 ||| own_lo b5 16 ||| own_lo b6 8 ||| (b7.toInt64 &&& 255)
theorem own_long_eq (v : Int64) : own_long (own_b8 (own_sh v 56)) (own_b8 (own_sh v 48)) (own_b8 (own_sh v 40)) (own_b8 (own_sh v 32)) (own_b8 (own_sh v 24)) (own_b8 (own_sh v 16)) (own_b8 (own_sh v 8)) (own_b8 v) = v := by
  apply Int64.toBitVec_inj.mp
  have e : ∀ (b : Int32) (k : Int32) (n : Nat) (h : ((k &&& 0x3f).toInt64.toBitVec.smod 64).toNat = n), (own_lo b k).toBitVec = ((b.toInt64 &&& 255).toBitVec) <<< n := by
    intro b k n h
    unfold own_lo
    rw [Int64.toBitVec_shiftLeft, BitVec.shiftLeft_eq', h]
  unfold own_long
  simp only [Int64.toBitVec_or]
  rw [e _ 56 56 (by decide), e _ 48 48 (by decide), e _ 40 40 (by decide), e _ 32 32 (by decide), e _ 24 24 (by decide), e _ 16 16 (by decide), e _ 8 8 (by decide)]
  simp only [own_b8_bits]
  have f56 : (own_sh v 56).toBitVec = v.toBitVec >>> 56 := by simp [own_sh]
  have f48 : (own_sh v 48).toBitVec = v.toBitVec >>> 48 := by simp [own_sh]
  have f40 : (own_sh v 40).toBitVec = v.toBitVec >>> 40 := by simp [own_sh]
  have f32 : (own_sh v 32).toBitVec = v.toBitVec >>> 32 := by simp [own_sh]
  have f24 : (own_sh v 24).toBitVec = v.toBitVec >>> 24 := by simp [own_sh]
  have f16 : (own_sh v 16).toBitVec = v.toBitVec >>> 16 := by simp [own_sh]
  have f8 : (own_sh v 8).toBitVec = v.toBitVec >>> 8 := by simp [own_sh]
  rw [f56, f48, f40, f32, f24, f16, f8]
  exact own_asm v.toBitVec
theorem own_and3 (x : Int32) : (x &&& 3) = 0 ∨ (x &&& 3) = 1 ∨ (x &&& 3) = 2 ∨ (x &&& 3) = 3 := by
  have h := c_mask x 3 2 (by decide) (by decide)
  simp only [← Int32.toInt_inj, h, show (0 : Int32).toInt = 0 from rfl, show (1 : Int32).toInt = 1 from rfl, show (2 : Int32).toInt = 2 from rfl, show (3 : Int32).toInt = 3 from rfl]
  omega
theorem pd_0 : parseMethodDescriptor "([BI)J" = some ⟨[(.array .byte), .int], some .long⟩ := by decide +kernel
theorem d1_0 : decode prog_51_method_3_code 0 = .ok (.aload_n 0, 1) := by decide +kernel
theorem d1_1 : decode prog_51_method_3_code 1 = .ok (.iload_n 1, 1) := by decide +kernel
theorem d1_2 : decode prog_51_method_3_code 2 = .ok (.baload, 1) := by decide +kernel
theorem d1_3 : decode prog_51_method_3_code 3 = .ok (.i2l, 1) := by decide +kernel
theorem d1_4 : decode prog_51_method_3_code 4 = .ok (.ldc2_w 15, 3) := by decide +kernel
theorem d1_7 : decode prog_51_method_3_code 7 = .ok (.land, 1) := by decide +kernel
theorem d1_8 : decode prog_51_method_3_code 8 = .ok (.bipush 56, 2) := by decide +kernel
theorem d1_10 : decode prog_51_method_3_code 10 = .ok (.lshl, 1) := by decide +kernel
theorem d1_11 : decode prog_51_method_3_code 11 = .ok (.aload_n 0, 1) := by decide +kernel
theorem d1_12 : decode prog_51_method_3_code 12 = .ok (.iload_n 1, 1) := by decide +kernel
theorem d1_13 : decode prog_51_method_3_code 13 = .ok (.iconst 1, 1) := by decide +kernel
theorem d1_14 : decode prog_51_method_3_code 14 = .ok (.iadd, 1) := by decide +kernel
theorem d1_15 : decode prog_51_method_3_code 15 = .ok (.baload, 1) := by decide +kernel
theorem d1_16 : decode prog_51_method_3_code 16 = .ok (.i2l, 1) := by decide +kernel
theorem d1_17 : decode prog_51_method_3_code 17 = .ok (.ldc2_w 15, 3) := by decide +kernel
theorem d1_20 : decode prog_51_method_3_code 20 = .ok (.land, 1) := by decide +kernel
theorem d1_21 : decode prog_51_method_3_code 21 = .ok (.bipush 48, 2) := by decide +kernel
theorem d1_23 : decode prog_51_method_3_code 23 = .ok (.lshl, 1) := by decide +kernel
theorem d1_24 : decode prog_51_method_3_code 24 = .ok (.lor, 1) := by decide +kernel
theorem d1_25 : decode prog_51_method_3_code 25 = .ok (.aload_n 0, 1) := by decide +kernel
theorem d1_26 : decode prog_51_method_3_code 26 = .ok (.iload_n 1, 1) := by decide +kernel
theorem d1_27 : decode prog_51_method_3_code 27 = .ok (.iconst 2, 1) := by decide +kernel
theorem d1_28 : decode prog_51_method_3_code 28 = .ok (.iadd, 1) := by decide +kernel
theorem d1_29 : decode prog_51_method_3_code 29 = .ok (.baload, 1) := by decide +kernel
theorem d1_30 : decode prog_51_method_3_code 30 = .ok (.i2l, 1) := by decide +kernel
theorem d1_31 : decode prog_51_method_3_code 31 = .ok (.ldc2_w 15, 3) := by decide +kernel
theorem d1_34 : decode prog_51_method_3_code 34 = .ok (.land, 1) := by decide +kernel
theorem d1_35 : decode prog_51_method_3_code 35 = .ok (.bipush 40, 2) := by decide +kernel
theorem d1_37 : decode prog_51_method_3_code 37 = .ok (.lshl, 1) := by decide +kernel
theorem d1_38 : decode prog_51_method_3_code 38 = .ok (.lor, 1) := by decide +kernel
theorem d1_39 : decode prog_51_method_3_code 39 = .ok (.aload_n 0, 1) := by decide +kernel
theorem d1_40 : decode prog_51_method_3_code 40 = .ok (.iload_n 1, 1) := by decide +kernel
theorem d1_41 : decode prog_51_method_3_code 41 = .ok (.iconst 3, 1) := by decide +kernel
theorem d1_42 : decode prog_51_method_3_code 42 = .ok (.iadd, 1) := by decide +kernel
theorem d1_43 : decode prog_51_method_3_code 43 = .ok (.baload, 1) := by decide +kernel
theorem d1_44 : decode prog_51_method_3_code 44 = .ok (.i2l, 1) := by decide +kernel
theorem d1_45 : decode prog_51_method_3_code 45 = .ok (.ldc2_w 15, 3) := by decide +kernel
theorem d1_48 : decode prog_51_method_3_code 48 = .ok (.land, 1) := by decide +kernel
theorem d1_49 : decode prog_51_method_3_code 49 = .ok (.bipush 32, 2) := by decide +kernel
theorem d1_51 : decode prog_51_method_3_code 51 = .ok (.lshl, 1) := by decide +kernel
theorem d1_52 : decode prog_51_method_3_code 52 = .ok (.lor, 1) := by decide +kernel
theorem d1_53 : decode prog_51_method_3_code 53 = .ok (.aload_n 0, 1) := by decide +kernel
theorem d1_54 : decode prog_51_method_3_code 54 = .ok (.iload_n 1, 1) := by decide +kernel
theorem d1_55 : decode prog_51_method_3_code 55 = .ok (.iconst 4, 1) := by decide +kernel
theorem d1_56 : decode prog_51_method_3_code 56 = .ok (.iadd, 1) := by decide +kernel
theorem d1_57 : decode prog_51_method_3_code 57 = .ok (.baload, 1) := by decide +kernel
theorem d1_58 : decode prog_51_method_3_code 58 = .ok (.i2l, 1) := by decide +kernel
theorem d1_59 : decode prog_51_method_3_code 59 = .ok (.ldc2_w 15, 3) := by decide +kernel
theorem d1_62 : decode prog_51_method_3_code 62 = .ok (.land, 1) := by decide +kernel
theorem d1_63 : decode prog_51_method_3_code 63 = .ok (.bipush 24, 2) := by decide +kernel
theorem d1_65 : decode prog_51_method_3_code 65 = .ok (.lshl, 1) := by decide +kernel
theorem d1_66 : decode prog_51_method_3_code 66 = .ok (.lor, 1) := by decide +kernel
theorem d1_67 : decode prog_51_method_3_code 67 = .ok (.aload_n 0, 1) := by decide +kernel
theorem d1_68 : decode prog_51_method_3_code 68 = .ok (.iload_n 1, 1) := by decide +kernel
theorem d1_69 : decode prog_51_method_3_code 69 = .ok (.iconst 5, 1) := by decide +kernel
theorem d1_70 : decode prog_51_method_3_code 70 = .ok (.iadd, 1) := by decide +kernel
theorem d1_71 : decode prog_51_method_3_code 71 = .ok (.baload, 1) := by decide +kernel
theorem d1_72 : decode prog_51_method_3_code 72 = .ok (.i2l, 1) := by decide +kernel
theorem d1_73 : decode prog_51_method_3_code 73 = .ok (.ldc2_w 15, 3) := by decide +kernel
theorem d1_76 : decode prog_51_method_3_code 76 = .ok (.land, 1) := by decide +kernel
theorem d1_77 : decode prog_51_method_3_code 77 = .ok (.bipush 16, 2) := by decide +kernel
theorem d1_79 : decode prog_51_method_3_code 79 = .ok (.lshl, 1) := by decide +kernel
theorem d1_80 : decode prog_51_method_3_code 80 = .ok (.lor, 1) := by decide +kernel
theorem d1_81 : decode prog_51_method_3_code 81 = .ok (.aload_n 0, 1) := by decide +kernel
theorem d1_82 : decode prog_51_method_3_code 82 = .ok (.iload_n 1, 1) := by decide +kernel
theorem d1_83 : decode prog_51_method_3_code 83 = .ok (.bipush 6, 2) := by decide +kernel
theorem d1_85 : decode prog_51_method_3_code 85 = .ok (.iadd, 1) := by decide +kernel
theorem d1_86 : decode prog_51_method_3_code 86 = .ok (.baload, 1) := by decide +kernel
theorem d1_87 : decode prog_51_method_3_code 87 = .ok (.i2l, 1) := by decide +kernel
theorem d1_88 : decode prog_51_method_3_code 88 = .ok (.ldc2_w 15, 3) := by decide +kernel
theorem d1_91 : decode prog_51_method_3_code 91 = .ok (.land, 1) := by decide +kernel
theorem d1_92 : decode prog_51_method_3_code 92 = .ok (.bipush 8, 2) := by decide +kernel
theorem d1_94 : decode prog_51_method_3_code 94 = .ok (.lshl, 1) := by decide +kernel
theorem d1_95 : decode prog_51_method_3_code 95 = .ok (.lor, 1) := by decide +kernel
theorem d1_96 : decode prog_51_method_3_code 96 = .ok (.aload_n 0, 1) := by decide +kernel
theorem d1_97 : decode prog_51_method_3_code 97 = .ok (.iload_n 1, 1) := by decide +kernel
theorem d1_98 : decode prog_51_method_3_code 98 = .ok (.bipush 7, 2) := by decide +kernel
theorem d1_100 : decode prog_51_method_3_code 100 = .ok (.iadd, 1) := by decide +kernel
theorem d1_101 : decode prog_51_method_3_code 101 = .ok (.baload, 1) := by decide +kernel
theorem d1_102 : decode prog_51_method_3_code 102 = .ok (.i2l, 1) := by decide +kernel
theorem d1_103 : decode prog_51_method_3_code 103 = .ok (.ldc2_w 15, 3) := by decide +kernel
theorem d1_106 : decode prog_51_method_3_code 106 = .ok (.land, 1) := by decide +kernel
theorem d1_107 : decode prog_51_method_3_code 107 = .ok (.lor, 1) := by decide +kernel
theorem d1_108 : decode prog_51_method_3_code 108 = .ok (.lreturn, 1) := by decide +kernel
theorem pn_la : plainName "com/example/fence/fence/util/BigEndian" = true := by first | (simp [plainName, overriddenIn]; done) | decide +kernel
theorem ef_la (m : MethodId) (a0 : Addr) (p1 : Int32) : entryFrame m #[(.ref a0), (.int p1)] 2 = mkF m 0 #[.val (.ref a0), .val (.int p1)] [] := by first | (simp [entryFrame, mkF, argsToLocals, Value.category]; done) | rfl
def Q_la (Z : State) (a0 : Addr) (p1 : Int32) (cl : Cell) (b0 : Int32) (b1 : Int32) (b2 : Int32) (b3 : Int32) (b4 : Int32) (b5 : Int32) (b6 : Int32) (b7 : Int32) (h0 : Heap) (n0 : Nat) (v : Option Value) (h : Heap) (L : List Loc) : Prop := v = some (.long (own_long b0 b1 b2 b3 b4 b5 b6 b7)) ∧ Fr n0 L ∧ h = h0
set_option maxRecDepth 65536 in
set_option maxHeartbeats 40000000 in
theorem rm_la (l : Launch) (Z : State) (a0 : Array Value) (hw : ∀ d ∈ tables_1, d.before a0 Z = true) (ws : List Jvm.Cond) (a0 : Addr) (p1 : Int32) (cl : Cell) (b0 : Int32) (b1 : Int32) (b2 : Int32) (b3 : Int32) (b4 : Int32) (b5 : Int32) (b6 : Int32) (b7 : Int32) (h0 : Heap) (n0 : Nat) (Ar : Arr Z h0 a0 cl .byte) (hi0 : ¬ (p1 < 0 ∨ cl.slots.size ≤ (p1).toNatClampNeg)) (hi1 : ¬ ((p1 + (1 : Int32)) < 0 ∨ cl.slots.size ≤ ((p1 + (1 : Int32))).toNatClampNeg)) (hi2 : ¬ ((p1 + (2 : Int32)) < 0 ∨ cl.slots.size ≤ ((p1 + (2 : Int32))).toNatClampNeg)) (hi3 : ¬ ((p1 + (3 : Int32)) < 0 ∨ cl.slots.size ≤ ((p1 + (3 : Int32))).toNatClampNeg)) (hi4 : ¬ ((p1 + (4 : Int32)) < 0 ∨ cl.slots.size ≤ ((p1 + (4 : Int32))).toNatClampNeg)) (hi5 : ¬ ((p1 + (5 : Int32)) < 0 ∨ cl.slots.size ≤ ((p1 + (5 : Int32))).toNatClampNeg)) (hi6 : ¬ ((p1 + (6 : Int32)) < 0 ∨ cl.slots.size ≤ ((p1 + (6 : Int32))).toNatClampNeg)) (hi7 : ¬ ((p1 + (7 : Int32)) < 0 ∨ cl.slots.size ≤ ((p1 + (7 : Int32))).toNatClampNeg)) (ha0 : cl.slots[(p1).toNatClampNeg]? = some (.int b0)) (ha1 : cl.slots[((p1 + (1 : Int32))).toNatClampNeg]? = some (.int b1)) (ha2 : cl.slots[((p1 + (2 : Int32))).toNatClampNeg]? = some (.int b2)) (ha3 : cl.slots[((p1 + (3 : Int32))).toNatClampNeg]? = some (.int b3)) (ha4 : cl.slots[((p1 + (4 : Int32))).toNatClampNeg]? = some (.int b4)) (ha5 : cl.slots[((p1 + (5 : Int32))).toNatClampNeg]? = some (.int b5)) (ha6 : cl.slots[((p1 + (6 : Int32))).toNatClampNeg]? = some (.int b6)) (ha7 : cl.slots[((p1 + (7 : Int32))).toNatClampNeg]? = some (.int b7)) :
    MetFree l (⟨"com/example/fence/fence/util/BigEndian", "longAt", "([BI)J"⟩ : MethodName) (head1 (Jvm.Cond.code (⟨"com/example/fence/fence/util/BigEndian", "longAt", "([BI)J"⟩ : MethodName) prog_51_method_3_code 2 (some .long) :: ws) ({ frames := 0, cells := 0, slots := 0, locals := 0 } : Room)) (fun a U => a = #[(.ref a0), (.int p1)] ∧ Z.Warmed39 U.vm ∧ U.heap = h0) (fun _ _ _ _ _ => True) (fun _ U o U' => ∃ v L, o = .returned v ∧ Q_la Z a0 p1 cl b0 b1 b2 b3 b4 b5 b6 b7 h0 n0 v U'.heap L ∧ FrameEnd U o U' L ({ frames := 0, cells := 0, slots := 0, locals := 0 } : Room).cells ({ frames := 0, cells := 0, slots := 0, locals := 0 } : Room).slots) := by
  refine MetFree.of_bodySF (plainFor_of_name pn_la) hisR ?_
  intro p e s m args below meth c s₁ Bd hml0 hP hK
  obtain ⟨rfl, hZ, hh⟩ := hP
  have hx := Bd.exec
  have hby := Bd.bytes
  have hml : c.maxLocals = 2 := hml0
  have hown : s.vm.findClass "com/example/fence/fence/util/BigEndian" = some m.cls := findClass_of_methodNamed Bd.named
  have hnm := (name_of_methodNamed Bd.named Bd.method).1
  have X0 : Stand p l e ({ frames := 0, cells := 0, slots := 0, locals := 0 } : Room) s m #[(.ref a0), (.int p1)] below meth c s₁ [] 0 0 := Stand.of_body Bd
  have e0 : s₁.heap = h0 := by rw [← hh, Bd.state]; rfl
  have N0 := Fr.nil n0
  have pre0 : Go p.tables e below (s₁.setTop (entryFrame m #[(.ref a0), (.int p1)] 2)) s₁ (mkF m 0 #[.val (.ref a0), .val (.int p1)] []) := fun t k => castTop (ef_la m a0 p1) k
  have pre1 : Go p.tables e below (s₁.setTop (entryFrame m #[(.ref a0), (.int p1)] 2)) s₁ (mkF m 2 #[.val (.ref a0), .val (.int p1)] [(.int p1), (.ref a0)]) := fun t k => pre0 t (by
      refine XS.aloadN X0.here hx rfl (hb hby d1_0) rfl rfl ?_
      show Steps p.tables e below (s₁.setTop (mkF m 1 #[.val (.ref a0), .val (.int p1)] [(.ref a0)])) _
      refine XS.iloadN X0.here hx rfl (hb hby d1_1) rfl ?_
      exact k)
  have pre2 : Go p.tables e below (s₁.setTop (entryFrame m #[(.ref a0), (.int p1)] 2)) s₁ (mkF m 3 #[.val (.ref a0), .val (.int p1)] [(.int b0)]) := fun t k => pre1 t (X0.baloadBytes hx (j := p1) (v := (.int b0)) (by rw [e0]; exact Ar.1) (State.isArrayOf_alike hZ.alike Ar.2.1) Ar.2.2 hi0 ha0 (g := (mkF m 2 #[.val (.ref a0), .val (.int p1)] [(.int p1), (.ref a0)])) rfl rfl (hb hby d1_2) _ k)
  have pre3 : Go p.tables e below (s₁.setTop (entryFrame m #[(.ref a0), (.int p1)] 2)) s₁ (mkF m 15 #[.val (.ref a0), .val (.int p1)] [(.int (p1 + (1 : Int32))), (.ref a0), (.long (((b0.toInt64) &&& (255 : Int64)) <<< ((56 : Int32) &&& 0x3f).toInt64))]) := fun t k => pre2 t (by
      refine XS.i2l X0.here hx rfl (hb hby d1_3) rfl ?_
      show Steps p.tables e below (s₁.setTop (mkF m 4 #[.val (.ref a0), .val (.int p1)] [(.long (b0.toInt64))])) _
      refine X0.ldc2Long hx hown (mvT hZ (hw _ (List.mem_of_getElem? (i := 5) rfl))) (g := (mkF m 4 #[.val (.ref a0), .val (.int p1)] [(.long (b0.toInt64))])) rfl (hb hby d1_4) _ ?_
      show Steps p.tables e below (s₁.setTop (mkF m 7 #[.val (.ref a0), .val (.int p1)] [(.long (255 : Int64)), (.long (b0.toInt64))])) _
      refine XS.land X0.here hx rfl (hb hby d1_7) rfl ?_
      show Steps p.tables e below (s₁.setTop (mkF m 8 #[.val (.ref a0), .val (.int p1)] [(.long ((b0.toInt64) &&& (255 : Int64)))])) _
      refine XS.bipush X0.here hx rfl (hb hby d1_8) ?_
      show Steps p.tables e below (s₁.setTop (mkF m 10 #[.val (.ref a0), .val (.int p1)] [(.int (56 : Int32)), (.long ((b0.toInt64) &&& (255 : Int64)))])) _
      refine XS.lshl X0.here hx rfl (hb hby d1_10) rfl ?_
      show Steps p.tables e below (s₁.setTop (mkF m 11 #[.val (.ref a0), .val (.int p1)] [(.long (((b0.toInt64) &&& (255 : Int64)) <<< ((56 : Int32) &&& 0x3f).toInt64))])) _
      refine XS.aloadN X0.here hx rfl (hb hby d1_11) rfl rfl ?_
      show Steps p.tables e below (s₁.setTop (mkF m 12 #[.val (.ref a0), .val (.int p1)] [(.ref a0), (.long (((b0.toInt64) &&& (255 : Int64)) <<< ((56 : Int32) &&& 0x3f).toInt64))])) _
      refine XS.iloadN X0.here hx rfl (hb hby d1_12) rfl ?_
      show Steps p.tables e below (s₁.setTop (mkF m 13 #[.val (.ref a0), .val (.int p1)] [(.int p1), (.ref a0), (.long (((b0.toInt64) &&& (255 : Int64)) <<< ((56 : Int32) &&& 0x3f).toInt64))])) _
      refine XS.iconst X0.here hx rfl (hb hby d1_13) ?_
      show Steps p.tables e below (s₁.setTop (mkF m 14 #[.val (.ref a0), .val (.int p1)] [(.int (1 : Int32)), (.int p1), (.ref a0), (.long (((b0.toInt64) &&& (255 : Int64)) <<< ((56 : Int32) &&& 0x3f).toInt64))])) _
      refine XS.iadd X0.here hx rfl (hb hby d1_14) rfl ?_
      exact k)
  have pre4 : Go p.tables e below (s₁.setTop (entryFrame m #[(.ref a0), (.int p1)] 2)) s₁ (mkF m 16 #[.val (.ref a0), .val (.int p1)] [(.int b1), (.long (((b0.toInt64) &&& (255 : Int64)) <<< ((56 : Int32) &&& 0x3f).toInt64))]) := fun t k => pre3 t (X0.baloadBytes hx (j := (p1 + (1 : Int32))) (v := (.int b1)) (by rw [e0]; exact Ar.1) (State.isArrayOf_alike hZ.alike Ar.2.1) Ar.2.2 hi1 ha1 (g := (mkF m 15 #[.val (.ref a0), .val (.int p1)] [(.int (p1 + (1 : Int32))), (.ref a0), (.long (((b0.toInt64) &&& (255 : Int64)) <<< ((56 : Int32) &&& 0x3f).toInt64))])) rfl rfl (hb hby d1_15) _ k)
  have pre5 : Go p.tables e below (s₁.setTop (entryFrame m #[(.ref a0), (.int p1)] 2)) s₁ (mkF m 29 #[.val (.ref a0), .val (.int p1)] [(.int (p1 + (2 : Int32))), (.ref a0), (.long ((((b0.toInt64) &&& (255 : Int64)) <<< ((56 : Int32) &&& 0x3f).toInt64) ||| (((b1.toInt64) &&& (255 : Int64)) <<< ((48 : Int32) &&& 0x3f).toInt64)))]) := fun t k => pre4 t (by
      refine XS.i2l X0.here hx rfl (hb hby d1_16) rfl ?_
      show Steps p.tables e below (s₁.setTop (mkF m 17 #[.val (.ref a0), .val (.int p1)] [(.long (b1.toInt64)), (.long (((b0.toInt64) &&& (255 : Int64)) <<< ((56 : Int32) &&& 0x3f).toInt64))])) _
      refine X0.ldc2Long hx hown (mvT hZ (hw _ (List.mem_of_getElem? (i := 5) rfl))) (g := (mkF m 17 #[.val (.ref a0), .val (.int p1)] [(.long (b1.toInt64)), (.long (((b0.toInt64) &&& (255 : Int64)) <<< ((56 : Int32) &&& 0x3f).toInt64))])) rfl (hb hby d1_17) _ ?_
      show Steps p.tables e below (s₁.setTop (mkF m 20 #[.val (.ref a0), .val (.int p1)] [(.long (255 : Int64)), (.long (b1.toInt64)), (.long (((b0.toInt64) &&& (255 : Int64)) <<< ((56 : Int32) &&& 0x3f).toInt64))])) _
      refine XS.land X0.here hx rfl (hb hby d1_20) rfl ?_
      show Steps p.tables e below (s₁.setTop (mkF m 21 #[.val (.ref a0), .val (.int p1)] [(.long ((b1.toInt64) &&& (255 : Int64))), (.long (((b0.toInt64) &&& (255 : Int64)) <<< ((56 : Int32) &&& 0x3f).toInt64))])) _
      refine XS.bipush X0.here hx rfl (hb hby d1_21) ?_
      show Steps p.tables e below (s₁.setTop (mkF m 23 #[.val (.ref a0), .val (.int p1)] [(.int (48 : Int32)), (.long ((b1.toInt64) &&& (255 : Int64))), (.long (((b0.toInt64) &&& (255 : Int64)) <<< ((56 : Int32) &&& 0x3f).toInt64))])) _
      refine XS.lshl X0.here hx rfl (hb hby d1_23) rfl ?_
      show Steps p.tables e below (s₁.setTop (mkF m 24 #[.val (.ref a0), .val (.int p1)] [(.long (((b1.toInt64) &&& (255 : Int64)) <<< ((48 : Int32) &&& 0x3f).toInt64)), (.long (((b0.toInt64) &&& (255 : Int64)) <<< ((56 : Int32) &&& 0x3f).toInt64))])) _
      refine XS.lor X0.here hx rfl (hb hby d1_24) rfl ?_
      show Steps p.tables e below (s₁.setTop (mkF m 25 #[.val (.ref a0), .val (.int p1)] [(.long ((((b0.toInt64) &&& (255 : Int64)) <<< ((56 : Int32) &&& 0x3f).toInt64) ||| (((b1.toInt64) &&& (255 : Int64)) <<< ((48 : Int32) &&& 0x3f).toInt64)))])) _
      refine XS.aloadN X0.here hx rfl (hb hby d1_25) rfl rfl ?_
      show Steps p.tables e below (s₁.setTop (mkF m 26 #[.val (.ref a0), .val (.int p1)] [(.ref a0), (.long ((((b0.toInt64) &&& (255 : Int64)) <<< ((56 : Int32) &&& 0x3f).toInt64) ||| (((b1.toInt64) &&& (255 : Int64)) <<< ((48 : Int32) &&& 0x3f).toInt64)))])) _
      refine XS.iloadN X0.here hx rfl (hb hby d1_26) rfl ?_
      show Steps p.tables e below (s₁.setTop (mkF m 27 #[.val (.ref a0), .val (.int p1)] [(.int p1), (.ref a0), (.long ((((b0.toInt64) &&& (255 : Int64)) <<< ((56 : Int32) &&& 0x3f).toInt64) ||| (((b1.toInt64) &&& (255 : Int64)) <<< ((48 : Int32) &&& 0x3f).toInt64)))])) _
      refine XS.iconst X0.here hx rfl (hb hby d1_27) ?_
      show Steps p.tables e below (s₁.setTop (mkF m 28 #[.val (.ref a0), .val (.int p1)] [(.int (2 : Int32)), (.int p1), (.ref a0), (.long ((((b0.toInt64) &&& (255 : Int64)) <<< ((56 : Int32) &&& 0x3f).toInt64) ||| (((b1.toInt64) &&& (255 : Int64)) <<< ((48 : Int32) &&& 0x3f).toInt64)))])) _
      refine XS.iadd X0.here hx rfl (hb hby d1_28) rfl ?_
      exact k)
  have pre6 : Go p.tables e below (s₁.setTop (entryFrame m #[(.ref a0), (.int p1)] 2)) s₁ (mkF m 30 #[.val (.ref a0), .val (.int p1)] [(.int b2), (.long ((((b0.toInt64) &&& (255 : Int64)) <<< ((56 : Int32) &&& 0x3f).toInt64) ||| (((b1.toInt64) &&& (255 : Int64)) <<< ((48 : Int32) &&& 0x3f).toInt64)))]) := fun t k => pre5 t (X0.baloadBytes hx (j := (p1 + (2 : Int32))) (v := (.int b2)) (by rw [e0]; exact Ar.1) (State.isArrayOf_alike hZ.alike Ar.2.1) Ar.2.2 hi2 ha2 (g := (mkF m 29 #[.val (.ref a0), .val (.int p1)] [(.int (p1 + (2 : Int32))), (.ref a0), (.long ((((b0.toInt64) &&& (255 : Int64)) <<< ((56 : Int32) &&& 0x3f).toInt64) ||| (((b1.toInt64) &&& (255 : Int64)) <<< ((48 : Int32) &&& 0x3f).toInt64)))])) rfl rfl (hb hby d1_29) _ k)
  have pre7 : Go p.tables e below (s₁.setTop (entryFrame m #[(.ref a0), (.int p1)] 2)) s₁ (mkF m 43 #[.val (.ref a0), .val (.int p1)] [(.int (p1 + (3 : Int32))), (.ref a0), (.long (((((b0.toInt64) &&& (255 : Int64)) <<< ((56 : Int32) &&& 0x3f).toInt64) ||| (((b1.toInt64) &&& (255 : Int64)) <<< ((48 : Int32) &&& 0x3f).toInt64)) ||| (((b2.toInt64) &&& (255 : Int64)) <<< ((40 : Int32) &&& 0x3f).toInt64)))]) := fun t k => pre6 t (by
      refine XS.i2l X0.here hx rfl (hb hby d1_30) rfl ?_
      show Steps p.tables e below (s₁.setTop (mkF m 31 #[.val (.ref a0), .val (.int p1)] [(.long (b2.toInt64)), (.long ((((b0.toInt64) &&& (255 : Int64)) <<< ((56 : Int32) &&& 0x3f).toInt64) ||| (((b1.toInt64) &&& (255 : Int64)) <<< ((48 : Int32) &&& 0x3f).toInt64)))])) _
      refine X0.ldc2Long hx hown (mvT hZ (hw _ (List.mem_of_getElem? (i := 5) rfl))) (g := (mkF m 31 #[.val (.ref a0), .val (.int p1)] [(.long (b2.toInt64)), (.long ((((b0.toInt64) &&& (255 : Int64)) <<< ((56 : Int32) &&& 0x3f).toInt64) ||| (((b1.toInt64) &&& (255 : Int64)) <<< ((48 : Int32) &&& 0x3f).toInt64)))])) rfl (hb hby d1_31) _ ?_
      show Steps p.tables e below (s₁.setTop (mkF m 34 #[.val (.ref a0), .val (.int p1)] [(.long (255 : Int64)), (.long (b2.toInt64)), (.long ((((b0.toInt64) &&& (255 : Int64)) <<< ((56 : Int32) &&& 0x3f).toInt64) ||| (((b1.toInt64) &&& (255 : Int64)) <<< ((48 : Int32) &&& 0x3f).toInt64)))])) _
      refine XS.land X0.here hx rfl (hb hby d1_34) rfl ?_
      show Steps p.tables e below (s₁.setTop (mkF m 35 #[.val (.ref a0), .val (.int p1)] [(.long ((b2.toInt64) &&& (255 : Int64))), (.long ((((b0.toInt64) &&& (255 : Int64)) <<< ((56 : Int32) &&& 0x3f).toInt64) ||| (((b1.toInt64) &&& (255 : Int64)) <<< ((48 : Int32) &&& 0x3f).toInt64)))])) _
      refine XS.bipush X0.here hx rfl (hb hby d1_35) ?_
      show Steps p.tables e below (s₁.setTop (mkF m 37 #[.val (.ref a0), .val (.int p1)] [(.int (40 : Int32)), (.long ((b2.toInt64) &&& (255 : Int64))), (.long ((((b0.toInt64) &&& (255 : Int64)) <<< ((56 : Int32) &&& 0x3f).toInt64) ||| (((b1.toInt64) &&& (255 : Int64)) <<< ((48 : Int32) &&& 0x3f).toInt64)))])) _
      refine XS.lshl X0.here hx rfl (hb hby d1_37) rfl ?_
      show Steps p.tables e below (s₁.setTop (mkF m 38 #[.val (.ref a0), .val (.int p1)] [(.long (((b2.toInt64) &&& (255 : Int64)) <<< ((40 : Int32) &&& 0x3f).toInt64)), (.long ((((b0.toInt64) &&& (255 : Int64)) <<< ((56 : Int32) &&& 0x3f).toInt64) ||| (((b1.toInt64) &&& (255 : Int64)) <<< ((48 : Int32) &&& 0x3f).toInt64)))])) _
      refine XS.lor X0.here hx rfl (hb hby d1_38) rfl ?_
      show Steps p.tables e below (s₁.setTop (mkF m 39 #[.val (.ref a0), .val (.int p1)] [(.long (((((b0.toInt64) &&& (255 : Int64)) <<< ((56 : Int32) &&& 0x3f).toInt64) ||| (((b1.toInt64) &&& (255 : Int64)) <<< ((48 : Int32) &&& 0x3f).toInt64)) ||| (((b2.toInt64) &&& (255 : Int64)) <<< ((40 : Int32) &&& 0x3f).toInt64)))])) _
      refine XS.aloadN X0.here hx rfl (hb hby d1_39) rfl rfl ?_
      show Steps p.tables e below (s₁.setTop (mkF m 40 #[.val (.ref a0), .val (.int p1)] [(.ref a0), (.long (((((b0.toInt64) &&& (255 : Int64)) <<< ((56 : Int32) &&& 0x3f).toInt64) ||| (((b1.toInt64) &&& (255 : Int64)) <<< ((48 : Int32) &&& 0x3f).toInt64)) ||| (((b2.toInt64) &&& (255 : Int64)) <<< ((40 : Int32) &&& 0x3f).toInt64)))])) _
      refine XS.iloadN X0.here hx rfl (hb hby d1_40) rfl ?_
      show Steps p.tables e below (s₁.setTop (mkF m 41 #[.val (.ref a0), .val (.int p1)] [(.int p1), (.ref a0), (.long (((((b0.toInt64) &&& (255 : Int64)) <<< ((56 : Int32) &&& 0x3f).toInt64) ||| (((b1.toInt64) &&& (255 : Int64)) <<< ((48 : Int32) &&& 0x3f).toInt64)) ||| (((b2.toInt64) &&& (255 : Int64)) <<< ((40 : Int32) &&& 0x3f).toInt64)))])) _
      refine XS.iconst X0.here hx rfl (hb hby d1_41) ?_
      show Steps p.tables e below (s₁.setTop (mkF m 42 #[.val (.ref a0), .val (.int p1)] [(.int (3 : Int32)), (.int p1), (.ref a0), (.long (((((b0.toInt64) &&& (255 : Int64)) <<< ((56 : Int32) &&& 0x3f).toInt64) ||| (((b1.toInt64) &&& (255 : Int64)) <<< ((48 : Int32) &&& 0x3f).toInt64)) ||| (((b2.toInt64) &&& (255 : Int64)) <<< ((40 : Int32) &&& 0x3f).toInt64)))])) _
      refine XS.iadd X0.here hx rfl (hb hby d1_42) rfl ?_
      exact k)
  have pre8 : Go p.tables e below (s₁.setTop (entryFrame m #[(.ref a0), (.int p1)] 2)) s₁ (mkF m 44 #[.val (.ref a0), .val (.int p1)] [(.int b3), (.long (((((b0.toInt64) &&& (255 : Int64)) <<< ((56 : Int32) &&& 0x3f).toInt64) ||| (((b1.toInt64) &&& (255 : Int64)) <<< ((48 : Int32) &&& 0x3f).toInt64)) ||| (((b2.toInt64) &&& (255 : Int64)) <<< ((40 : Int32) &&& 0x3f).toInt64)))]) := fun t k => pre7 t (X0.baloadBytes hx (j := (p1 + (3 : Int32))) (v := (.int b3)) (by rw [e0]; exact Ar.1) (State.isArrayOf_alike hZ.alike Ar.2.1) Ar.2.2 hi3 ha3 (g := (mkF m 43 #[.val (.ref a0), .val (.int p1)] [(.int (p1 + (3 : Int32))), (.ref a0), (.long (((((b0.toInt64) &&& (255 : Int64)) <<< ((56 : Int32) &&& 0x3f).toInt64) ||| (((b1.toInt64) &&& (255 : Int64)) <<< ((48 : Int32) &&& 0x3f).toInt64)) ||| (((b2.toInt64) &&& (255 : Int64)) <<< ((40 : Int32) &&& 0x3f).toInt64)))])) rfl rfl (hb hby d1_43) _ k)
  have pre9 : Go p.tables e below (s₁.setTop (entryFrame m #[(.ref a0), (.int p1)] 2)) s₁ (mkF m 57 #[.val (.ref a0), .val (.int p1)] [(.int (p1 + (4 : Int32))), (.ref a0), (.long ((((((b0.toInt64) &&& (255 : Int64)) <<< ((56 : Int32) &&& 0x3f).toInt64) ||| (((b1.toInt64) &&& (255 : Int64)) <<< ((48 : Int32) &&& 0x3f).toInt64)) ||| (((b2.toInt64) &&& (255 : Int64)) <<< ((40 : Int32) &&& 0x3f).toInt64)) ||| (((b3.toInt64) &&& (255 : Int64)) <<< ((32 : Int32) &&& 0x3f).toInt64)))]) := fun t k => pre8 t (by
      refine XS.i2l X0.here hx rfl (hb hby d1_44) rfl ?_
      show Steps p.tables e below (s₁.setTop (mkF m 45 #[.val (.ref a0), .val (.int p1)] [(.long (b3.toInt64)), (.long (((((b0.toInt64) &&& (255 : Int64)) <<< ((56 : Int32) &&& 0x3f).toInt64) ||| (((b1.toInt64) &&& (255 : Int64)) <<< ((48 : Int32) &&& 0x3f).toInt64)) ||| (((b2.toInt64) &&& (255 : Int64)) <<< ((40 : Int32) &&& 0x3f).toInt64)))])) _
      refine X0.ldc2Long hx hown (mvT hZ (hw _ (List.mem_of_getElem? (i := 5) rfl))) (g := (mkF m 45 #[.val (.ref a0), .val (.int p1)] [(.long (b3.toInt64)), (.long (((((b0.toInt64) &&& (255 : Int64)) <<< ((56 : Int32) &&& 0x3f).toInt64) ||| (((b1.toInt64) &&& (255 : Int64)) <<< ((48 : Int32) &&& 0x3f).toInt64)) ||| (((b2.toInt64) &&& (255 : Int64)) <<< ((40 : Int32) &&& 0x3f).toInt64)))])) rfl (hb hby d1_45) _ ?_
      show Steps p.tables e below (s₁.setTop (mkF m 48 #[.val (.ref a0), .val (.int p1)] [(.long (255 : Int64)), (.long (b3.toInt64)), (.long (((((b0.toInt64) &&& (255 : Int64)) <<< ((56 : Int32) &&& 0x3f).toInt64) ||| (((b1.toInt64) &&& (255 : Int64)) <<< ((48 : Int32) &&& 0x3f).toInt64)) ||| (((b2.toInt64) &&& (255 : Int64)) <<< ((40 : Int32) &&& 0x3f).toInt64)))])) _
      refine XS.land X0.here hx rfl (hb hby d1_48) rfl ?_
      show Steps p.tables e below (s₁.setTop (mkF m 49 #[.val (.ref a0), .val (.int p1)] [(.long ((b3.toInt64) &&& (255 : Int64))), (.long (((((b0.toInt64) &&& (255 : Int64)) <<< ((56 : Int32) &&& 0x3f).toInt64) ||| (((b1.toInt64) &&& (255 : Int64)) <<< ((48 : Int32) &&& 0x3f).toInt64)) ||| (((b2.toInt64) &&& (255 : Int64)) <<< ((40 : Int32) &&& 0x3f).toInt64)))])) _
      refine XS.bipush X0.here hx rfl (hb hby d1_49) ?_
      show Steps p.tables e below (s₁.setTop (mkF m 51 #[.val (.ref a0), .val (.int p1)] [(.int (32 : Int32)), (.long ((b3.toInt64) &&& (255 : Int64))), (.long (((((b0.toInt64) &&& (255 : Int64)) <<< ((56 : Int32) &&& 0x3f).toInt64) ||| (((b1.toInt64) &&& (255 : Int64)) <<< ((48 : Int32) &&& 0x3f).toInt64)) ||| (((b2.toInt64) &&& (255 : Int64)) <<< ((40 : Int32) &&& 0x3f).toInt64)))])) _
      refine XS.lshl X0.here hx rfl (hb hby d1_51) rfl ?_
      show Steps p.tables e below (s₁.setTop (mkF m 52 #[.val (.ref a0), .val (.int p1)] [(.long (((b3.toInt64) &&& (255 : Int64)) <<< ((32 : Int32) &&& 0x3f).toInt64)), (.long (((((b0.toInt64) &&& (255 : Int64)) <<< ((56 : Int32) &&& 0x3f).toInt64) ||| (((b1.toInt64) &&& (255 : Int64)) <<< ((48 : Int32) &&& 0x3f).toInt64)) ||| (((b2.toInt64) &&& (255 : Int64)) <<< ((40 : Int32) &&& 0x3f).toInt64)))])) _
      refine XS.lor X0.here hx rfl (hb hby d1_52) rfl ?_
      show Steps p.tables e below (s₁.setTop (mkF m 53 #[.val (.ref a0), .val (.int p1)] [(.long ((((((b0.toInt64) &&& (255 : Int64)) <<< ((56 : Int32) &&& 0x3f).toInt64) ||| (((b1.toInt64) &&& (255 : Int64)) <<< ((48 : Int32) &&& 0x3f).toInt64)) ||| (((b2.toInt64) &&& (255 : Int64)) <<< ((40 : Int32) &&& 0x3f).toInt64)) ||| (((b3.toInt64) &&& (255 : Int64)) <<< ((32 : Int32) &&& 0x3f).toInt64)))])) _
      refine XS.aloadN X0.here hx rfl (hb hby d1_53) rfl rfl ?_
      show Steps p.tables e below (s₁.setTop (mkF m 54 #[.val (.ref a0), .val (.int p1)] [(.ref a0), (.long ((((((b0.toInt64) &&& (255 : Int64)) <<< ((56 : Int32) &&& 0x3f).toInt64) ||| (((b1.toInt64) &&& (255 : Int64)) <<< ((48 : Int32) &&& 0x3f).toInt64)) ||| (((b2.toInt64) &&& (255 : Int64)) <<< ((40 : Int32) &&& 0x3f).toInt64)) ||| (((b3.toInt64) &&& (255 : Int64)) <<< ((32 : Int32) &&& 0x3f).toInt64)))])) _
      refine XS.iloadN X0.here hx rfl (hb hby d1_54) rfl ?_
      show Steps p.tables e below (s₁.setTop (mkF m 55 #[.val (.ref a0), .val (.int p1)] [(.int p1), (.ref a0), (.long ((((((b0.toInt64) &&& (255 : Int64)) <<< ((56 : Int32) &&& 0x3f).toInt64) ||| (((b1.toInt64) &&& (255 : Int64)) <<< ((48 : Int32) &&& 0x3f).toInt64)) ||| (((b2.toInt64) &&& (255 : Int64)) <<< ((40 : Int32) &&& 0x3f).toInt64)) ||| (((b3.toInt64) &&& (255 : Int64)) <<< ((32 : Int32) &&& 0x3f).toInt64)))])) _
      refine XS.iconst X0.here hx rfl (hb hby d1_55) ?_
      show Steps p.tables e below (s₁.setTop (mkF m 56 #[.val (.ref a0), .val (.int p1)] [(.int (4 : Int32)), (.int p1), (.ref a0), (.long ((((((b0.toInt64) &&& (255 : Int64)) <<< ((56 : Int32) &&& 0x3f).toInt64) ||| (((b1.toInt64) &&& (255 : Int64)) <<< ((48 : Int32) &&& 0x3f).toInt64)) ||| (((b2.toInt64) &&& (255 : Int64)) <<< ((40 : Int32) &&& 0x3f).toInt64)) ||| (((b3.toInt64) &&& (255 : Int64)) <<< ((32 : Int32) &&& 0x3f).toInt64)))])) _
      refine XS.iadd X0.here hx rfl (hb hby d1_56) rfl ?_
      exact k)
  have pre10 : Go p.tables e below (s₁.setTop (entryFrame m #[(.ref a0), (.int p1)] 2)) s₁ (mkF m 58 #[.val (.ref a0), .val (.int p1)] [(.int b4), (.long ((((((b0.toInt64) &&& (255 : Int64)) <<< ((56 : Int32) &&& 0x3f).toInt64) ||| (((b1.toInt64) &&& (255 : Int64)) <<< ((48 : Int32) &&& 0x3f).toInt64)) ||| (((b2.toInt64) &&& (255 : Int64)) <<< ((40 : Int32) &&& 0x3f).toInt64)) ||| (((b3.toInt64) &&& (255 : Int64)) <<< ((32 : Int32) &&& 0x3f).toInt64)))]) := fun t k => pre9 t (X0.baloadBytes hx (j := (p1 + (4 : Int32))) (v := (.int b4)) (by rw [e0]; exact Ar.1) (State.isArrayOf_alike hZ.alike Ar.2.1) Ar.2.2 hi4 ha4 (g := (mkF m 57 #[.val (.ref a0), .val (.int p1)] [(.int (p1 + (4 : Int32))), (.ref a0), (.long ((((((b0.toInt64) &&& (255 : Int64)) <<< ((56 : Int32) &&& 0x3f).toInt64) ||| (((b1.toInt64) &&& (255 : Int64)) <<< ((48 : Int32) &&& 0x3f).toInt64)) ||| (((b2.toInt64) &&& (255 : Int64)) <<< ((40 : Int32) &&& 0x3f).toInt64)) ||| (((b3.toInt64) &&& (255 : Int64)) <<< ((32 : Int32) &&& 0x3f).toInt64)))])) rfl rfl (hb hby d1_57) _ k)
  have pre11 : Go p.tables e below (s₁.setTop (entryFrame m #[(.ref a0), (.int p1)] 2)) s₁ (mkF m 71 #[.val (.ref a0), .val (.int p1)] [(.int (p1 + (5 : Int32))), (.ref a0), (.long (((((((b0.toInt64) &&& (255 : Int64)) <<< ((56 : Int32) &&& 0x3f).toInt64) ||| (((b1.toInt64) &&& (255 : Int64)) <<< ((48 : Int32) &&& 0x3f).toInt64)) ||| (((b2.toInt64) &&& (255 : Int64)) <<< ((40 : Int32) &&& 0x3f).toInt64)) ||| (((b3.toInt64) &&& (255 : Int64)) <<< ((32 : Int32) &&& 0x3f).toInt64)) ||| (((b4.toInt64) &&& (255 : Int64)) <<< ((24 : Int32) &&& 0x3f).toInt64)))]) := fun t k => pre10 t (by
      refine XS.i2l X0.here hx rfl (hb hby d1_58) rfl ?_
      show Steps p.tables e below (s₁.setTop (mkF m 59 #[.val (.ref a0), .val (.int p1)] [(.long (b4.toInt64)), (.long ((((((b0.toInt64) &&& (255 : Int64)) <<< ((56 : Int32) &&& 0x3f).toInt64) ||| (((b1.toInt64) &&& (255 : Int64)) <<< ((48 : Int32) &&& 0x3f).toInt64)) ||| (((b2.toInt64) &&& (255 : Int64)) <<< ((40 : Int32) &&& 0x3f).toInt64)) ||| (((b3.toInt64) &&& (255 : Int64)) <<< ((32 : Int32) &&& 0x3f).toInt64)))])) _
      refine X0.ldc2Long hx hown (mvT hZ (hw _ (List.mem_of_getElem? (i := 5) rfl))) (g := (mkF m 59 #[.val (.ref a0), .val (.int p1)] [(.long (b4.toInt64)), (.long ((((((b0.toInt64) &&& (255 : Int64)) <<< ((56 : Int32) &&& 0x3f).toInt64) ||| (((b1.toInt64) &&& (255 : Int64)) <<< ((48 : Int32) &&& 0x3f).toInt64)) ||| (((b2.toInt64) &&& (255 : Int64)) <<< ((40 : Int32) &&& 0x3f).toInt64)) ||| (((b3.toInt64) &&& (255 : Int64)) <<< ((32 : Int32) &&& 0x3f).toInt64)))])) rfl (hb hby d1_59) _ ?_
      show Steps p.tables e below (s₁.setTop (mkF m 62 #[.val (.ref a0), .val (.int p1)] [(.long (255 : Int64)), (.long (b4.toInt64)), (.long ((((((b0.toInt64) &&& (255 : Int64)) <<< ((56 : Int32) &&& 0x3f).toInt64) ||| (((b1.toInt64) &&& (255 : Int64)) <<< ((48 : Int32) &&& 0x3f).toInt64)) ||| (((b2.toInt64) &&& (255 : Int64)) <<< ((40 : Int32) &&& 0x3f).toInt64)) ||| (((b3.toInt64) &&& (255 : Int64)) <<< ((32 : Int32) &&& 0x3f).toInt64)))])) _
      refine XS.land X0.here hx rfl (hb hby d1_62) rfl ?_
      show Steps p.tables e below (s₁.setTop (mkF m 63 #[.val (.ref a0), .val (.int p1)] [(.long ((b4.toInt64) &&& (255 : Int64))), (.long ((((((b0.toInt64) &&& (255 : Int64)) <<< ((56 : Int32) &&& 0x3f).toInt64) ||| (((b1.toInt64) &&& (255 : Int64)) <<< ((48 : Int32) &&& 0x3f).toInt64)) ||| (((b2.toInt64) &&& (255 : Int64)) <<< ((40 : Int32) &&& 0x3f).toInt64)) ||| (((b3.toInt64) &&& (255 : Int64)) <<< ((32 : Int32) &&& 0x3f).toInt64)))])) _
      refine XS.bipush X0.here hx rfl (hb hby d1_63) ?_
      show Steps p.tables e below (s₁.setTop (mkF m 65 #[.val (.ref a0), .val (.int p1)] [(.int (24 : Int32)), (.long ((b4.toInt64) &&& (255 : Int64))), (.long ((((((b0.toInt64) &&& (255 : Int64)) <<< ((56 : Int32) &&& 0x3f).toInt64) ||| (((b1.toInt64) &&& (255 : Int64)) <<< ((48 : Int32) &&& 0x3f).toInt64)) ||| (((b2.toInt64) &&& (255 : Int64)) <<< ((40 : Int32) &&& 0x3f).toInt64)) ||| (((b3.toInt64) &&& (255 : Int64)) <<< ((32 : Int32) &&& 0x3f).toInt64)))])) _
      refine XS.lshl X0.here hx rfl (hb hby d1_65) rfl ?_
      show Steps p.tables e below (s₁.setTop (mkF m 66 #[.val (.ref a0), .val (.int p1)] [(.long (((b4.toInt64) &&& (255 : Int64)) <<< ((24 : Int32) &&& 0x3f).toInt64)), (.long ((((((b0.toInt64) &&& (255 : Int64)) <<< ((56 : Int32) &&& 0x3f).toInt64) ||| (((b1.toInt64) &&& (255 : Int64)) <<< ((48 : Int32) &&& 0x3f).toInt64)) ||| (((b2.toInt64) &&& (255 : Int64)) <<< ((40 : Int32) &&& 0x3f).toInt64)) ||| (((b3.toInt64) &&& (255 : Int64)) <<< ((32 : Int32) &&& 0x3f).toInt64)))])) _
      refine XS.lor X0.here hx rfl (hb hby d1_66) rfl ?_
      show Steps p.tables e below (s₁.setTop (mkF m 67 #[.val (.ref a0), .val (.int p1)] [(.long (((((((b0.toInt64) &&& (255 : Int64)) <<< ((56 : Int32) &&& 0x3f).toInt64) ||| (((b1.toInt64) &&& (255 : Int64)) <<< ((48 : Int32) &&& 0x3f).toInt64)) ||| (((b2.toInt64) &&& (255 : Int64)) <<< ((40 : Int32) &&& 0x3f).toInt64)) ||| (((b3.toInt64) &&& (255 : Int64)) <<< ((32 : Int32) &&& 0x3f).toInt64)) ||| (((b4.toInt64) &&& (255 : Int64)) <<< ((24 : Int32) &&& 0x3f).toInt64)))])) _
      refine XS.aloadN X0.here hx rfl (hb hby d1_67) rfl rfl ?_
      show Steps p.tables e below (s₁.setTop (mkF m 68 #[.val (.ref a0), .val (.int p1)] [(.ref a0), (.long (((((((b0.toInt64) &&& (255 : Int64)) <<< ((56 : Int32) &&& 0x3f).toInt64) ||| (((b1.toInt64) &&& (255 : Int64)) <<< ((48 : Int32) &&& 0x3f).toInt64)) ||| (((b2.toInt64) &&& (255 : Int64)) <<< ((40 : Int32) &&& 0x3f).toInt64)) ||| (((b3.toInt64) &&& (255 : Int64)) <<< ((32 : Int32) &&& 0x3f).toInt64)) ||| (((b4.toInt64) &&& (255 : Int64)) <<< ((24 : Int32) &&& 0x3f).toInt64)))])) _
      refine XS.iloadN X0.here hx rfl (hb hby d1_68) rfl ?_
      show Steps p.tables e below (s₁.setTop (mkF m 69 #[.val (.ref a0), .val (.int p1)] [(.int p1), (.ref a0), (.long (((((((b0.toInt64) &&& (255 : Int64)) <<< ((56 : Int32) &&& 0x3f).toInt64) ||| (((b1.toInt64) &&& (255 : Int64)) <<< ((48 : Int32) &&& 0x3f).toInt64)) ||| (((b2.toInt64) &&& (255 : Int64)) <<< ((40 : Int32) &&& 0x3f).toInt64)) ||| (((b3.toInt64) &&& (255 : Int64)) <<< ((32 : Int32) &&& 0x3f).toInt64)) ||| (((b4.toInt64) &&& (255 : Int64)) <<< ((24 : Int32) &&& 0x3f).toInt64)))])) _
      refine XS.iconst X0.here hx rfl (hb hby d1_69) ?_
      show Steps p.tables e below (s₁.setTop (mkF m 70 #[.val (.ref a0), .val (.int p1)] [(.int (5 : Int32)), (.int p1), (.ref a0), (.long (((((((b0.toInt64) &&& (255 : Int64)) <<< ((56 : Int32) &&& 0x3f).toInt64) ||| (((b1.toInt64) &&& (255 : Int64)) <<< ((48 : Int32) &&& 0x3f).toInt64)) ||| (((b2.toInt64) &&& (255 : Int64)) <<< ((40 : Int32) &&& 0x3f).toInt64)) ||| (((b3.toInt64) &&& (255 : Int64)) <<< ((32 : Int32) &&& 0x3f).toInt64)) ||| (((b4.toInt64) &&& (255 : Int64)) <<< ((24 : Int32) &&& 0x3f).toInt64)))])) _
      refine XS.iadd X0.here hx rfl (hb hby d1_70) rfl ?_
      exact k)
  have pre12 : Go p.tables e below (s₁.setTop (entryFrame m #[(.ref a0), (.int p1)] 2)) s₁ (mkF m 72 #[.val (.ref a0), .val (.int p1)] [(.int b5), (.long (((((((b0.toInt64) &&& (255 : Int64)) <<< ((56 : Int32) &&& 0x3f).toInt64) ||| (((b1.toInt64) &&& (255 : Int64)) <<< ((48 : Int32) &&& 0x3f).toInt64)) ||| (((b2.toInt64) &&& (255 : Int64)) <<< ((40 : Int32) &&& 0x3f).toInt64)) ||| (((b3.toInt64) &&& (255 : Int64)) <<< ((32 : Int32) &&& 0x3f).toInt64)) ||| (((b4.toInt64) &&& (255 : Int64)) <<< ((24 : Int32) &&& 0x3f).toInt64)))]) := fun t k => pre11 t (X0.baloadBytes hx (j := (p1 + (5 : Int32))) (v := (.int b5)) (by rw [e0]; exact Ar.1) (State.isArrayOf_alike hZ.alike Ar.2.1) Ar.2.2 hi5 ha5 (g := (mkF m 71 #[.val (.ref a0), .val (.int p1)] [(.int (p1 + (5 : Int32))), (.ref a0), (.long (((((((b0.toInt64) &&& (255 : Int64)) <<< ((56 : Int32) &&& 0x3f).toInt64) ||| (((b1.toInt64) &&& (255 : Int64)) <<< ((48 : Int32) &&& 0x3f).toInt64)) ||| (((b2.toInt64) &&& (255 : Int64)) <<< ((40 : Int32) &&& 0x3f).toInt64)) ||| (((b3.toInt64) &&& (255 : Int64)) <<< ((32 : Int32) &&& 0x3f).toInt64)) ||| (((b4.toInt64) &&& (255 : Int64)) <<< ((24 : Int32) &&& 0x3f).toInt64)))])) rfl rfl (hb hby d1_71) _ k)
  have pre13 : Go p.tables e below (s₁.setTop (entryFrame m #[(.ref a0), (.int p1)] 2)) s₁ (mkF m 86 #[.val (.ref a0), .val (.int p1)] [(.int (p1 + (6 : Int32))), (.ref a0), (.long ((((((((b0.toInt64) &&& (255 : Int64)) <<< ((56 : Int32) &&& 0x3f).toInt64) ||| (((b1.toInt64) &&& (255 : Int64)) <<< ((48 : Int32) &&& 0x3f).toInt64)) ||| (((b2.toInt64) &&& (255 : Int64)) <<< ((40 : Int32) &&& 0x3f).toInt64)) ||| (((b3.toInt64) &&& (255 : Int64)) <<< ((32 : Int32) &&& 0x3f).toInt64)) ||| (((b4.toInt64) &&& (255 : Int64)) <<< ((24 : Int32) &&& 0x3f).toInt64)) ||| (((b5.toInt64) &&& (255 : Int64)) <<< ((16 : Int32) &&& 0x3f).toInt64)))]) := fun t k => pre12 t (by
      refine XS.i2l X0.here hx rfl (hb hby d1_72) rfl ?_
      show Steps p.tables e below (s₁.setTop (mkF m 73 #[.val (.ref a0), .val (.int p1)] [(.long (b5.toInt64)), (.long (((((((b0.toInt64) &&& (255 : Int64)) <<< ((56 : Int32) &&& 0x3f).toInt64) ||| (((b1.toInt64) &&& (255 : Int64)) <<< ((48 : Int32) &&& 0x3f).toInt64)) ||| (((b2.toInt64) &&& (255 : Int64)) <<< ((40 : Int32) &&& 0x3f).toInt64)) ||| (((b3.toInt64) &&& (255 : Int64)) <<< ((32 : Int32) &&& 0x3f).toInt64)) ||| (((b4.toInt64) &&& (255 : Int64)) <<< ((24 : Int32) &&& 0x3f).toInt64)))])) _
      refine X0.ldc2Long hx hown (mvT hZ (hw _ (List.mem_of_getElem? (i := 5) rfl))) (g := (mkF m 73 #[.val (.ref a0), .val (.int p1)] [(.long (b5.toInt64)), (.long (((((((b0.toInt64) &&& (255 : Int64)) <<< ((56 : Int32) &&& 0x3f).toInt64) ||| (((b1.toInt64) &&& (255 : Int64)) <<< ((48 : Int32) &&& 0x3f).toInt64)) ||| (((b2.toInt64) &&& (255 : Int64)) <<< ((40 : Int32) &&& 0x3f).toInt64)) ||| (((b3.toInt64) &&& (255 : Int64)) <<< ((32 : Int32) &&& 0x3f).toInt64)) ||| (((b4.toInt64) &&& (255 : Int64)) <<< ((24 : Int32) &&& 0x3f).toInt64)))])) rfl (hb hby d1_73) _ ?_
      show Steps p.tables e below (s₁.setTop (mkF m 76 #[.val (.ref a0), .val (.int p1)] [(.long (255 : Int64)), (.long (b5.toInt64)), (.long (((((((b0.toInt64) &&& (255 : Int64)) <<< ((56 : Int32) &&& 0x3f).toInt64) ||| (((b1.toInt64) &&& (255 : Int64)) <<< ((48 : Int32) &&& 0x3f).toInt64)) ||| (((b2.toInt64) &&& (255 : Int64)) <<< ((40 : Int32) &&& 0x3f).toInt64)) ||| (((b3.toInt64) &&& (255 : Int64)) <<< ((32 : Int32) &&& 0x3f).toInt64)) ||| (((b4.toInt64) &&& (255 : Int64)) <<< ((24 : Int32) &&& 0x3f).toInt64)))])) _
      refine XS.land X0.here hx rfl (hb hby d1_76) rfl ?_
      show Steps p.tables e below (s₁.setTop (mkF m 77 #[.val (.ref a0), .val (.int p1)] [(.long ((b5.toInt64) &&& (255 : Int64))), (.long (((((((b0.toInt64) &&& (255 : Int64)) <<< ((56 : Int32) &&& 0x3f).toInt64) ||| (((b1.toInt64) &&& (255 : Int64)) <<< ((48 : Int32) &&& 0x3f).toInt64)) ||| (((b2.toInt64) &&& (255 : Int64)) <<< ((40 : Int32) &&& 0x3f).toInt64)) ||| (((b3.toInt64) &&& (255 : Int64)) <<< ((32 : Int32) &&& 0x3f).toInt64)) ||| (((b4.toInt64) &&& (255 : Int64)) <<< ((24 : Int32) &&& 0x3f).toInt64)))])) _
      refine XS.bipush X0.here hx rfl (hb hby d1_77) ?_
      show Steps p.tables e below (s₁.setTop (mkF m 79 #[.val (.ref a0), .val (.int p1)] [(.int (16 : Int32)), (.long ((b5.toInt64) &&& (255 : Int64))), (.long (((((((b0.toInt64) &&& (255 : Int64)) <<< ((56 : Int32) &&& 0x3f).toInt64) ||| (((b1.toInt64) &&& (255 : Int64)) <<< ((48 : Int32) &&& 0x3f).toInt64)) ||| (((b2.toInt64) &&& (255 : Int64)) <<< ((40 : Int32) &&& 0x3f).toInt64)) ||| (((b3.toInt64) &&& (255 : Int64)) <<< ((32 : Int32) &&& 0x3f).toInt64)) ||| (((b4.toInt64) &&& (255 : Int64)) <<< ((24 : Int32) &&& 0x3f).toInt64)))])) _
      refine XS.lshl X0.here hx rfl (hb hby d1_79) rfl ?_
      show Steps p.tables e below (s₁.setTop (mkF m 80 #[.val (.ref a0), .val (.int p1)] [(.long (((b5.toInt64) &&& (255 : Int64)) <<< ((16 : Int32) &&& 0x3f).toInt64)), (.long (((((((b0.toInt64) &&& (255 : Int64)) <<< ((56 : Int32) &&& 0x3f).toInt64) ||| (((b1.toInt64) &&& (255 : Int64)) <<< ((48 : Int32) &&& 0x3f).toInt64)) ||| (((b2.toInt64) &&& (255 : Int64)) <<< ((40 : Int32) &&& 0x3f).toInt64)) ||| (((b3.toInt64) &&& (255 : Int64)) <<< ((32 : Int32) &&& 0x3f).toInt64)) ||| (((b4.toInt64) &&& (255 : Int64)) <<< ((24 : Int32) &&& 0x3f).toInt64)))])) _
      refine XS.lor X0.here hx rfl (hb hby d1_80) rfl ?_
      show Steps p.tables e below (s₁.setTop (mkF m 81 #[.val (.ref a0), .val (.int p1)] [(.long ((((((((b0.toInt64) &&& (255 : Int64)) <<< ((56 : Int32) &&& 0x3f).toInt64) ||| (((b1.toInt64) &&& (255 : Int64)) <<< ((48 : Int32) &&& 0x3f).toInt64)) ||| (((b2.toInt64) &&& (255 : Int64)) <<< ((40 : Int32) &&& 0x3f).toInt64)) ||| (((b3.toInt64) &&& (255 : Int64)) <<< ((32 : Int32) &&& 0x3f).toInt64)) ||| (((b4.toInt64) &&& (255 : Int64)) <<< ((24 : Int32) &&& 0x3f).toInt64)) ||| (((b5.toInt64) &&& (255 : Int64)) <<< ((16 : Int32) &&& 0x3f).toInt64)))])) _
      refine XS.aloadN X0.here hx rfl (hb hby d1_81) rfl rfl ?_
      show Steps p.tables e below (s₁.setTop (mkF m 82 #[.val (.ref a0), .val (.int p1)] [(.ref a0), (.long ((((((((b0.toInt64) &&& (255 : Int64)) <<< ((56 : Int32) &&& 0x3f).toInt64) ||| (((b1.toInt64) &&& (255 : Int64)) <<< ((48 : Int32) &&& 0x3f).toInt64)) ||| (((b2.toInt64) &&& (255 : Int64)) <<< ((40 : Int32) &&& 0x3f).toInt64)) ||| (((b3.toInt64) &&& (255 : Int64)) <<< ((32 : Int32) &&& 0x3f).toInt64)) ||| (((b4.toInt64) &&& (255 : Int64)) <<< ((24 : Int32) &&& 0x3f).toInt64)) ||| (((b5.toInt64) &&& (255 : Int64)) <<< ((16 : Int32) &&& 0x3f).toInt64)))])) _
      refine XS.iloadN X0.here hx rfl (hb hby d1_82) rfl ?_
      show Steps p.tables e below (s₁.setTop (mkF m 83 #[.val (.ref a0), .val (.int p1)] [(.int p1), (.ref a0), (.long ((((((((b0.toInt64) &&& (255 : Int64)) <<< ((56 : Int32) &&& 0x3f).toInt64) ||| (((b1.toInt64) &&& (255 : Int64)) <<< ((48 : Int32) &&& 0x3f).toInt64)) ||| (((b2.toInt64) &&& (255 : Int64)) <<< ((40 : Int32) &&& 0x3f).toInt64)) ||| (((b3.toInt64) &&& (255 : Int64)) <<< ((32 : Int32) &&& 0x3f).toInt64)) ||| (((b4.toInt64) &&& (255 : Int64)) <<< ((24 : Int32) &&& 0x3f).toInt64)) ||| (((b5.toInt64) &&& (255 : Int64)) <<< ((16 : Int32) &&& 0x3f).toInt64)))])) _
      refine XS.bipush X0.here hx rfl (hb hby d1_83) ?_
      show Steps p.tables e below (s₁.setTop (mkF m 85 #[.val (.ref a0), .val (.int p1)] [(.int (6 : Int32)), (.int p1), (.ref a0), (.long ((((((((b0.toInt64) &&& (255 : Int64)) <<< ((56 : Int32) &&& 0x3f).toInt64) ||| (((b1.toInt64) &&& (255 : Int64)) <<< ((48 : Int32) &&& 0x3f).toInt64)) ||| (((b2.toInt64) &&& (255 : Int64)) <<< ((40 : Int32) &&& 0x3f).toInt64)) ||| (((b3.toInt64) &&& (255 : Int64)) <<< ((32 : Int32) &&& 0x3f).toInt64)) ||| (((b4.toInt64) &&& (255 : Int64)) <<< ((24 : Int32) &&& 0x3f).toInt64)) ||| (((b5.toInt64) &&& (255 : Int64)) <<< ((16 : Int32) &&& 0x3f).toInt64)))])) _
      refine XS.iadd X0.here hx rfl (hb hby d1_85) rfl ?_
      exact k)
  have pre14 : Go p.tables e below (s₁.setTop (entryFrame m #[(.ref a0), (.int p1)] 2)) s₁ (mkF m 87 #[.val (.ref a0), .val (.int p1)] [(.int b6), (.long ((((((((b0.toInt64) &&& (255 : Int64)) <<< ((56 : Int32) &&& 0x3f).toInt64) ||| (((b1.toInt64) &&& (255 : Int64)) <<< ((48 : Int32) &&& 0x3f).toInt64)) ||| (((b2.toInt64) &&& (255 : Int64)) <<< ((40 : Int32) &&& 0x3f).toInt64)) ||| (((b3.toInt64) &&& (255 : Int64)) <<< ((32 : Int32) &&& 0x3f).toInt64)) ||| (((b4.toInt64) &&& (255 : Int64)) <<< ((24 : Int32) &&& 0x3f).toInt64)) ||| (((b5.toInt64) &&& (255 : Int64)) <<< ((16 : Int32) &&& 0x3f).toInt64)))]) := fun t k => pre13 t (X0.baloadBytes hx (j := (p1 + (6 : Int32))) (v := (.int b6)) (by rw [e0]; exact Ar.1) (State.isArrayOf_alike hZ.alike Ar.2.1) Ar.2.2 hi6 ha6 (g := (mkF m 86 #[.val (.ref a0), .val (.int p1)] [(.int (p1 + (6 : Int32))), (.ref a0), (.long ((((((((b0.toInt64) &&& (255 : Int64)) <<< ((56 : Int32) &&& 0x3f).toInt64) ||| (((b1.toInt64) &&& (255 : Int64)) <<< ((48 : Int32) &&& 0x3f).toInt64)) ||| (((b2.toInt64) &&& (255 : Int64)) <<< ((40 : Int32) &&& 0x3f).toInt64)) ||| (((b3.toInt64) &&& (255 : Int64)) <<< ((32 : Int32) &&& 0x3f).toInt64)) ||| (((b4.toInt64) &&& (255 : Int64)) <<< ((24 : Int32) &&& 0x3f).toInt64)) ||| (((b5.toInt64) &&& (255 : Int64)) <<< ((16 : Int32) &&& 0x3f).toInt64)))])) rfl rfl (hb hby d1_86) _ k)
  have pre15 : Go p.tables e below (s₁.setTop (entryFrame m #[(.ref a0), (.int p1)] 2)) s₁ (mkF m 101 #[.val (.ref a0), .val (.int p1)] [(.int (p1 + (7 : Int32))), (.ref a0), (.long (((((((((b0.toInt64) &&& (255 : Int64)) <<< ((56 : Int32) &&& 0x3f).toInt64) ||| (((b1.toInt64) &&& (255 : Int64)) <<< ((48 : Int32) &&& 0x3f).toInt64)) ||| (((b2.toInt64) &&& (255 : Int64)) <<< ((40 : Int32) &&& 0x3f).toInt64)) ||| (((b3.toInt64) &&& (255 : Int64)) <<< ((32 : Int32) &&& 0x3f).toInt64)) ||| (((b4.toInt64) &&& (255 : Int64)) <<< ((24 : Int32) &&& 0x3f).toInt64)) ||| (((b5.toInt64) &&& (255 : Int64)) <<< ((16 : Int32) &&& 0x3f).toInt64)) ||| (((b6.toInt64) &&& (255 : Int64)) <<< ((8 : Int32) &&& 0x3f).toInt64)))]) := fun t k => pre14 t (by
      refine XS.i2l X0.here hx rfl (hb hby d1_87) rfl ?_
      show Steps p.tables e below (s₁.setTop (mkF m 88 #[.val (.ref a0), .val (.int p1)] [(.long (b6.toInt64)), (.long ((((((((b0.toInt64) &&& (255 : Int64)) <<< ((56 : Int32) &&& 0x3f).toInt64) ||| (((b1.toInt64) &&& (255 : Int64)) <<< ((48 : Int32) &&& 0x3f).toInt64)) ||| (((b2.toInt64) &&& (255 : Int64)) <<< ((40 : Int32) &&& 0x3f).toInt64)) ||| (((b3.toInt64) &&& (255 : Int64)) <<< ((32 : Int32) &&& 0x3f).toInt64)) ||| (((b4.toInt64) &&& (255 : Int64)) <<< ((24 : Int32) &&& 0x3f).toInt64)) ||| (((b5.toInt64) &&& (255 : Int64)) <<< ((16 : Int32) &&& 0x3f).toInt64)))])) _
      refine X0.ldc2Long hx hown (mvT hZ (hw _ (List.mem_of_getElem? (i := 5) rfl))) (g := (mkF m 88 #[.val (.ref a0), .val (.int p1)] [(.long (b6.toInt64)), (.long ((((((((b0.toInt64) &&& (255 : Int64)) <<< ((56 : Int32) &&& 0x3f).toInt64) ||| (((b1.toInt64) &&& (255 : Int64)) <<< ((48 : Int32) &&& 0x3f).toInt64)) ||| (((b2.toInt64) &&& (255 : Int64)) <<< ((40 : Int32) &&& 0x3f).toInt64)) ||| (((b3.toInt64) &&& (255 : Int64)) <<< ((32 : Int32) &&& 0x3f).toInt64)) ||| (((b4.toInt64) &&& (255 : Int64)) <<< ((24 : Int32) &&& 0x3f).toInt64)) ||| (((b5.toInt64) &&& (255 : Int64)) <<< ((16 : Int32) &&& 0x3f).toInt64)))])) rfl (hb hby d1_88) _ ?_
      show Steps p.tables e below (s₁.setTop (mkF m 91 #[.val (.ref a0), .val (.int p1)] [(.long (255 : Int64)), (.long (b6.toInt64)), (.long ((((((((b0.toInt64) &&& (255 : Int64)) <<< ((56 : Int32) &&& 0x3f).toInt64) ||| (((b1.toInt64) &&& (255 : Int64)) <<< ((48 : Int32) &&& 0x3f).toInt64)) ||| (((b2.toInt64) &&& (255 : Int64)) <<< ((40 : Int32) &&& 0x3f).toInt64)) ||| (((b3.toInt64) &&& (255 : Int64)) <<< ((32 : Int32) &&& 0x3f).toInt64)) ||| (((b4.toInt64) &&& (255 : Int64)) <<< ((24 : Int32) &&& 0x3f).toInt64)) ||| (((b5.toInt64) &&& (255 : Int64)) <<< ((16 : Int32) &&& 0x3f).toInt64)))])) _
      refine XS.land X0.here hx rfl (hb hby d1_91) rfl ?_
      show Steps p.tables e below (s₁.setTop (mkF m 92 #[.val (.ref a0), .val (.int p1)] [(.long ((b6.toInt64) &&& (255 : Int64))), (.long ((((((((b0.toInt64) &&& (255 : Int64)) <<< ((56 : Int32) &&& 0x3f).toInt64) ||| (((b1.toInt64) &&& (255 : Int64)) <<< ((48 : Int32) &&& 0x3f).toInt64)) ||| (((b2.toInt64) &&& (255 : Int64)) <<< ((40 : Int32) &&& 0x3f).toInt64)) ||| (((b3.toInt64) &&& (255 : Int64)) <<< ((32 : Int32) &&& 0x3f).toInt64)) ||| (((b4.toInt64) &&& (255 : Int64)) <<< ((24 : Int32) &&& 0x3f).toInt64)) ||| (((b5.toInt64) &&& (255 : Int64)) <<< ((16 : Int32) &&& 0x3f).toInt64)))])) _
      refine XS.bipush X0.here hx rfl (hb hby d1_92) ?_
      show Steps p.tables e below (s₁.setTop (mkF m 94 #[.val (.ref a0), .val (.int p1)] [(.int (8 : Int32)), (.long ((b6.toInt64) &&& (255 : Int64))), (.long ((((((((b0.toInt64) &&& (255 : Int64)) <<< ((56 : Int32) &&& 0x3f).toInt64) ||| (((b1.toInt64) &&& (255 : Int64)) <<< ((48 : Int32) &&& 0x3f).toInt64)) ||| (((b2.toInt64) &&& (255 : Int64)) <<< ((40 : Int32) &&& 0x3f).toInt64)) ||| (((b3.toInt64) &&& (255 : Int64)) <<< ((32 : Int32) &&& 0x3f).toInt64)) ||| (((b4.toInt64) &&& (255 : Int64)) <<< ((24 : Int32) &&& 0x3f).toInt64)) ||| (((b5.toInt64) &&& (255 : Int64)) <<< ((16 : Int32) &&& 0x3f).toInt64)))])) _
      refine XS.lshl X0.here hx rfl (hb hby d1_94) rfl ?_
      show Steps p.tables e below (s₁.setTop (mkF m 95 #[.val (.ref a0), .val (.int p1)] [(.long (((b6.toInt64) &&& (255 : Int64)) <<< ((8 : Int32) &&& 0x3f).toInt64)), (.long ((((((((b0.toInt64) &&& (255 : Int64)) <<< ((56 : Int32) &&& 0x3f).toInt64) ||| (((b1.toInt64) &&& (255 : Int64)) <<< ((48 : Int32) &&& 0x3f).toInt64)) ||| (((b2.toInt64) &&& (255 : Int64)) <<< ((40 : Int32) &&& 0x3f).toInt64)) ||| (((b3.toInt64) &&& (255 : Int64)) <<< ((32 : Int32) &&& 0x3f).toInt64)) ||| (((b4.toInt64) &&& (255 : Int64)) <<< ((24 : Int32) &&& 0x3f).toInt64)) ||| (((b5.toInt64) &&& (255 : Int64)) <<< ((16 : Int32) &&& 0x3f).toInt64)))])) _
      refine XS.lor X0.here hx rfl (hb hby d1_95) rfl ?_
      show Steps p.tables e below (s₁.setTop (mkF m 96 #[.val (.ref a0), .val (.int p1)] [(.long (((((((((b0.toInt64) &&& (255 : Int64)) <<< ((56 : Int32) &&& 0x3f).toInt64) ||| (((b1.toInt64) &&& (255 : Int64)) <<< ((48 : Int32) &&& 0x3f).toInt64)) ||| (((b2.toInt64) &&& (255 : Int64)) <<< ((40 : Int32) &&& 0x3f).toInt64)) ||| (((b3.toInt64) &&& (255 : Int64)) <<< ((32 : Int32) &&& 0x3f).toInt64)) ||| (((b4.toInt64) &&& (255 : Int64)) <<< ((24 : Int32) &&& 0x3f).toInt64)) ||| (((b5.toInt64) &&& (255 : Int64)) <<< ((16 : Int32) &&& 0x3f).toInt64)) ||| (((b6.toInt64) &&& (255 : Int64)) <<< ((8 : Int32) &&& 0x3f).toInt64)))])) _
      refine XS.aloadN X0.here hx rfl (hb hby d1_96) rfl rfl ?_
      show Steps p.tables e below (s₁.setTop (mkF m 97 #[.val (.ref a0), .val (.int p1)] [(.ref a0), (.long (((((((((b0.toInt64) &&& (255 : Int64)) <<< ((56 : Int32) &&& 0x3f).toInt64) ||| (((b1.toInt64) &&& (255 : Int64)) <<< ((48 : Int32) &&& 0x3f).toInt64)) ||| (((b2.toInt64) &&& (255 : Int64)) <<< ((40 : Int32) &&& 0x3f).toInt64)) ||| (((b3.toInt64) &&& (255 : Int64)) <<< ((32 : Int32) &&& 0x3f).toInt64)) ||| (((b4.toInt64) &&& (255 : Int64)) <<< ((24 : Int32) &&& 0x3f).toInt64)) ||| (((b5.toInt64) &&& (255 : Int64)) <<< ((16 : Int32) &&& 0x3f).toInt64)) ||| (((b6.toInt64) &&& (255 : Int64)) <<< ((8 : Int32) &&& 0x3f).toInt64)))])) _
      refine XS.iloadN X0.here hx rfl (hb hby d1_97) rfl ?_
      show Steps p.tables e below (s₁.setTop (mkF m 98 #[.val (.ref a0), .val (.int p1)] [(.int p1), (.ref a0), (.long (((((((((b0.toInt64) &&& (255 : Int64)) <<< ((56 : Int32) &&& 0x3f).toInt64) ||| (((b1.toInt64) &&& (255 : Int64)) <<< ((48 : Int32) &&& 0x3f).toInt64)) ||| (((b2.toInt64) &&& (255 : Int64)) <<< ((40 : Int32) &&& 0x3f).toInt64)) ||| (((b3.toInt64) &&& (255 : Int64)) <<< ((32 : Int32) &&& 0x3f).toInt64)) ||| (((b4.toInt64) &&& (255 : Int64)) <<< ((24 : Int32) &&& 0x3f).toInt64)) ||| (((b5.toInt64) &&& (255 : Int64)) <<< ((16 : Int32) &&& 0x3f).toInt64)) ||| (((b6.toInt64) &&& (255 : Int64)) <<< ((8 : Int32) &&& 0x3f).toInt64)))])) _
      refine XS.bipush X0.here hx rfl (hb hby d1_98) ?_
      show Steps p.tables e below (s₁.setTop (mkF m 100 #[.val (.ref a0), .val (.int p1)] [(.int (7 : Int32)), (.int p1), (.ref a0), (.long (((((((((b0.toInt64) &&& (255 : Int64)) <<< ((56 : Int32) &&& 0x3f).toInt64) ||| (((b1.toInt64) &&& (255 : Int64)) <<< ((48 : Int32) &&& 0x3f).toInt64)) ||| (((b2.toInt64) &&& (255 : Int64)) <<< ((40 : Int32) &&& 0x3f).toInt64)) ||| (((b3.toInt64) &&& (255 : Int64)) <<< ((32 : Int32) &&& 0x3f).toInt64)) ||| (((b4.toInt64) &&& (255 : Int64)) <<< ((24 : Int32) &&& 0x3f).toInt64)) ||| (((b5.toInt64) &&& (255 : Int64)) <<< ((16 : Int32) &&& 0x3f).toInt64)) ||| (((b6.toInt64) &&& (255 : Int64)) <<< ((8 : Int32) &&& 0x3f).toInt64)))])) _
      refine XS.iadd X0.here hx rfl (hb hby d1_100) rfl ?_
      exact k)
  have pre16 : Go p.tables e below (s₁.setTop (entryFrame m #[(.ref a0), (.int p1)] 2)) s₁ (mkF m 102 #[.val (.ref a0), .val (.int p1)] [(.int b7), (.long (((((((((b0.toInt64) &&& (255 : Int64)) <<< ((56 : Int32) &&& 0x3f).toInt64) ||| (((b1.toInt64) &&& (255 : Int64)) <<< ((48 : Int32) &&& 0x3f).toInt64)) ||| (((b2.toInt64) &&& (255 : Int64)) <<< ((40 : Int32) &&& 0x3f).toInt64)) ||| (((b3.toInt64) &&& (255 : Int64)) <<< ((32 : Int32) &&& 0x3f).toInt64)) ||| (((b4.toInt64) &&& (255 : Int64)) <<< ((24 : Int32) &&& 0x3f).toInt64)) ||| (((b5.toInt64) &&& (255 : Int64)) <<< ((16 : Int32) &&& 0x3f).toInt64)) ||| (((b6.toInt64) &&& (255 : Int64)) <<< ((8 : Int32) &&& 0x3f).toInt64)))]) := fun t k => pre15 t (X0.baloadBytes hx (j := (p1 + (7 : Int32))) (v := (.int b7)) (by rw [e0]; exact Ar.1) (State.isArrayOf_alike hZ.alike Ar.2.1) Ar.2.2 hi7 ha7 (g := (mkF m 101 #[.val (.ref a0), .val (.int p1)] [(.int (p1 + (7 : Int32))), (.ref a0), (.long (((((((((b0.toInt64) &&& (255 : Int64)) <<< ((56 : Int32) &&& 0x3f).toInt64) ||| (((b1.toInt64) &&& (255 : Int64)) <<< ((48 : Int32) &&& 0x3f).toInt64)) ||| (((b2.toInt64) &&& (255 : Int64)) <<< ((40 : Int32) &&& 0x3f).toInt64)) ||| (((b3.toInt64) &&& (255 : Int64)) <<< ((32 : Int32) &&& 0x3f).toInt64)) ||| (((b4.toInt64) &&& (255 : Int64)) <<< ((24 : Int32) &&& 0x3f).toInt64)) ||| (((b5.toInt64) &&& (255 : Int64)) <<< ((16 : Int32) &&& 0x3f).toInt64)) ||| (((b6.toInt64) &&& (255 : Int64)) <<< ((8 : Int32) &&& 0x3f).toInt64)))])) rfl rfl (hb hby d1_101) _ k)
  have pre17 : Go p.tables e below (s₁.setTop (entryFrame m #[(.ref a0), (.int p1)] 2)) s₁ (mkF m 108 #[.val (.ref a0), .val (.int p1)] [(.long ((((((((((b0.toInt64) &&& (255 : Int64)) <<< ((56 : Int32) &&& 0x3f).toInt64) ||| (((b1.toInt64) &&& (255 : Int64)) <<< ((48 : Int32) &&& 0x3f).toInt64)) ||| (((b2.toInt64) &&& (255 : Int64)) <<< ((40 : Int32) &&& 0x3f).toInt64)) ||| (((b3.toInt64) &&& (255 : Int64)) <<< ((32 : Int32) &&& 0x3f).toInt64)) ||| (((b4.toInt64) &&& (255 : Int64)) <<< ((24 : Int32) &&& 0x3f).toInt64)) ||| (((b5.toInt64) &&& (255 : Int64)) <<< ((16 : Int32) &&& 0x3f).toInt64)) ||| (((b6.toInt64) &&& (255 : Int64)) <<< ((8 : Int32) &&& 0x3f).toInt64)) ||| ((b7.toInt64) &&& (255 : Int64))))]) := fun t k => pre16 t (by
      refine XS.i2l X0.here hx rfl (hb hby d1_102) rfl ?_
      show Steps p.tables e below (s₁.setTop (mkF m 103 #[.val (.ref a0), .val (.int p1)] [(.long (b7.toInt64)), (.long (((((((((b0.toInt64) &&& (255 : Int64)) <<< ((56 : Int32) &&& 0x3f).toInt64) ||| (((b1.toInt64) &&& (255 : Int64)) <<< ((48 : Int32) &&& 0x3f).toInt64)) ||| (((b2.toInt64) &&& (255 : Int64)) <<< ((40 : Int32) &&& 0x3f).toInt64)) ||| (((b3.toInt64) &&& (255 : Int64)) <<< ((32 : Int32) &&& 0x3f).toInt64)) ||| (((b4.toInt64) &&& (255 : Int64)) <<< ((24 : Int32) &&& 0x3f).toInt64)) ||| (((b5.toInt64) &&& (255 : Int64)) <<< ((16 : Int32) &&& 0x3f).toInt64)) ||| (((b6.toInt64) &&& (255 : Int64)) <<< ((8 : Int32) &&& 0x3f).toInt64)))])) _
      refine X0.ldc2Long hx hown (mvT hZ (hw _ (List.mem_of_getElem? (i := 5) rfl))) (g := (mkF m 103 #[.val (.ref a0), .val (.int p1)] [(.long (b7.toInt64)), (.long (((((((((b0.toInt64) &&& (255 : Int64)) <<< ((56 : Int32) &&& 0x3f).toInt64) ||| (((b1.toInt64) &&& (255 : Int64)) <<< ((48 : Int32) &&& 0x3f).toInt64)) ||| (((b2.toInt64) &&& (255 : Int64)) <<< ((40 : Int32) &&& 0x3f).toInt64)) ||| (((b3.toInt64) &&& (255 : Int64)) <<< ((32 : Int32) &&& 0x3f).toInt64)) ||| (((b4.toInt64) &&& (255 : Int64)) <<< ((24 : Int32) &&& 0x3f).toInt64)) ||| (((b5.toInt64) &&& (255 : Int64)) <<< ((16 : Int32) &&& 0x3f).toInt64)) ||| (((b6.toInt64) &&& (255 : Int64)) <<< ((8 : Int32) &&& 0x3f).toInt64)))])) rfl (hb hby d1_103) _ ?_
      show Steps p.tables e below (s₁.setTop (mkF m 106 #[.val (.ref a0), .val (.int p1)] [(.long (255 : Int64)), (.long (b7.toInt64)), (.long (((((((((b0.toInt64) &&& (255 : Int64)) <<< ((56 : Int32) &&& 0x3f).toInt64) ||| (((b1.toInt64) &&& (255 : Int64)) <<< ((48 : Int32) &&& 0x3f).toInt64)) ||| (((b2.toInt64) &&& (255 : Int64)) <<< ((40 : Int32) &&& 0x3f).toInt64)) ||| (((b3.toInt64) &&& (255 : Int64)) <<< ((32 : Int32) &&& 0x3f).toInt64)) ||| (((b4.toInt64) &&& (255 : Int64)) <<< ((24 : Int32) &&& 0x3f).toInt64)) ||| (((b5.toInt64) &&& (255 : Int64)) <<< ((16 : Int32) &&& 0x3f).toInt64)) ||| (((b6.toInt64) &&& (255 : Int64)) <<< ((8 : Int32) &&& 0x3f).toInt64)))])) _
      refine XS.land X0.here hx rfl (hb hby d1_106) rfl ?_
      show Steps p.tables e below (s₁.setTop (mkF m 107 #[.val (.ref a0), .val (.int p1)] [(.long ((b7.toInt64) &&& (255 : Int64))), (.long (((((((((b0.toInt64) &&& (255 : Int64)) <<< ((56 : Int32) &&& 0x3f).toInt64) ||| (((b1.toInt64) &&& (255 : Int64)) <<< ((48 : Int32) &&& 0x3f).toInt64)) ||| (((b2.toInt64) &&& (255 : Int64)) <<< ((40 : Int32) &&& 0x3f).toInt64)) ||| (((b3.toInt64) &&& (255 : Int64)) <<< ((32 : Int32) &&& 0x3f).toInt64)) ||| (((b4.toInt64) &&& (255 : Int64)) <<< ((24 : Int32) &&& 0x3f).toInt64)) ||| (((b5.toInt64) &&& (255 : Int64)) <<< ((16 : Int32) &&& 0x3f).toInt64)) ||| (((b6.toInt64) &&& (255 : Int64)) <<< ((8 : Int32) &&& 0x3f).toInt64)))])) _
      refine XS.lor X0.here hx rfl (hb hby d1_107) rfl ?_
      exact k)
  obtain ⟨fs, hr, hrun, hended, hW, hsame⟩ := X0.leave (v := some (.long ((((((((((b0.toInt64) &&& (255 : Int64)) <<< ((56 : Int32) &&& 0x3f).toInt64) ||| (((b1.toInt64) &&& (255 : Int64)) <<< ((48 : Int32) &&& 0x3f).toInt64)) ||| (((b2.toInt64) &&& (255 : Int64)) <<< ((40 : Int32) &&& 0x3f).toInt64)) ||| (((b3.toInt64) &&& (255 : Int64)) <<< ((32 : Int32) &&& 0x3f).toInt64)) ||| (((b4.toInt64) &&& (255 : Int64)) <<< ((24 : Int32) &&& 0x3f).toInt64)) ||| (((b5.toInt64) &&& (255 : Int64)) <<< ((16 : Int32) &&& 0x3f).toInt64)) ||| (((b6.toInt64) &&& (255 : Int64)) <<< ((8 : Int32) &&& 0x3f).toInt64)) ||| ((b7.toInt64) &&& (255 : Int64))))) (fun h => by rw [Bd.returns] at h; cases h) (BodyLoose.notSynchronized Bd)
  refine ⟨_, _, pre17 _ ?_, hrun, hended, _, _, rfl, ?_, ⟨_, rfl⟩, hW, hsame.mono (Nat.le_of_ble_eq_true rfl) (Nat.le_of_ble_eq_true rfl)⟩
  · exact retOut X0 hx Bd.returns rfl (Or.inr (Or.inl ⟨rfl, rfl, _, rfl⟩)) (hb hby d1_108) hr
  · show Q_la Z a0 p1 cl b0 b1 b2 b3 b4 b5 b6 b7 h0 n0 _ s₁.heap _
    rw [e0]
    exact ⟨rfl, N0, rfl⟩
theorem pn_law : plainName "com/example/fence/fence/util/BigEndianLongAtPinLaw" = true := by first | (simp [plainName, overriddenIn]; done) | decide +kernel
theorem ef_law (m : MethodId) (x0 : Int64) (x2 : Int32) (x3 : Int64) : entryFrame m #[(.long x0), (.int x2), (.long x3)] maxLocals = mkF m 0 #[.val (.long x0), .second, .val (.int x2), .val (.long x3), .second, .unset, .unset] [] := by first | (simp [entryFrame, mkF, argsToLocals, Value.category, maxLocals]; done) | rfl
def Q_law (Z : State) (x0 : Int64) (x2 : Int32) (x3 : Int64) (h0 : Heap) (n0 : Nat) (v : Option Value) (h : Heap) (L : List Loc) : Prop := v = some (.int 1) ∧ Fr n0 L
set_option maxRecDepth 65536 in
set_option maxHeartbeats 40000000 in
theorem rm_law (l : Launch) (Z : State) (a0 : Array Value) (hw : ∀ d ∈ tables_1, d.before a0 Z = true) (ws : List Jvm.Cond) (x0 : Int64) (x2 : Int32) (x3 : Int64) (h0 : Heap) (n0 : Nat) (Z0 : n0 ≤ h0.size) :
    MetFree l x (head1 (Jvm.Cond.code x code maxLocals ret :: ws) room_1) (fun a U => a = #[(.long x0), (.int x2), (.long x3)] ∧ Z.Warmed39 U.vm ∧ U.heap = h0) (fun _ _ _ _ _ => True) (fun _ U o U' => ∃ v L, o = .returned v ∧ Q_law Z x0 x2 x3 h0 n0 v U'.heap L ∧ FrameEnd U o U' L room_1.cells room_1.slots) := by
  refine MetFree.of_bodySF (plainFor_of_name pn_law) hisR ?_
  intro p e s m args below meth c s₁ Bd hml0 hP hK
  obtain ⟨rfl, hZ, hh⟩ := hP
  have hx := Bd.exec
  have hby := Bd.bytes
  have hml : c.maxLocals = 7 := hml0
  have hown : s.vm.findClass "com/example/fence/fence/util/BigEndianLongAtPinLaw" = some m.cls := findClass_of_methodNamed Bd.named
  have hnm := (name_of_methodNamed Bd.named Bd.method).1
  have X0 : Stand p l e room_1 s m #[(.long x0), (.int x2), (.long x3)] below meth c s₁ [] 0 0 := Stand.of_body Bd
  have e0 : s₁.heap = h0 := by rw [← hh, Bd.state]; rfl
  have N0 := Fr.nil n0
  have pre0 : Go p.tables e below (s₁.setTop (entryFrame m #[(.long x0), (.int x2), (.long x3)] maxLocals)) s₁ (mkF m 0 #[.val (.long x0), .second, .val (.int x2), .val (.long x3), .second, .unset, .unset] []) := fun t k => castTop (ef_law m x0 x2 x3) k
  obtain ⟨w1, hw1⟩ : ∃ z : Int32, z = (x2 &&& (3 : Int32)) := ⟨_, rfl⟩
  have pre2 : Go p.tables e below (s₁.setTop (entryFrame m #[(.long x0), (.int x2), (.long x3)] maxLocals)) s₁ (mkF m 7 #[.val (.long x0), .second, .val (.int x2), .val (.long x3), .second, .val (.int w1), .unset] [(.int (11 : Int32))]) := fun t k => pre0 t (by
      refine XS.iloadN X0.here hx rfl (hb hby at_0) rfl ?_
      show Steps p.tables e below (s₁.setTop (mkF m 1 #[.val (.long x0), .second, .val (.int x2), .val (.long x3), .second, .unset, .unset] [(.int x2)])) _
      refine XS.iconst X0.here hx rfl (hb hby at_1) ?_
      show Steps p.tables e below (s₁.setTop (mkF m 2 #[.val (.long x0), .second, .val (.int x2), .val (.long x3), .second, .unset, .unset] [(.int (3 : Int32)), (.int x2)])) _
      refine XS.iand X0.here hx rfl (hb hby at_2) rfl ?_
      show Steps p.tables e below (s₁.setTop (mkF m 3 #[.val (.long x0), .second, .val (.int x2), .val (.long x3), .second, .unset, .unset] [(.int (x2 &&& (3 : Int32)))])) _
      refine XS.istore X0.here hx rfl (x := w1) (rest := []) (hb hby at_3) (by subst hw1; rfl) (l' := #[.val (.long x0), .second, .val (.int x2), .val (.long x3), .second, .val (.int w1), .unset]) rfl ?_
      show Steps p.tables e below (s₁.setTop (mkF m 5 #[.val (.long x0), .second, .val (.int x2), .val (.long x3), .second, .val (.int w1), .unset] [])) _
      refine XS.bipush X0.here hx rfl (hb hby at_5) ?_
      exact k)
  obtain ⟨T3, h3, k3, X3, e3, E3, A3, st3⟩ := newP X0 hx hZ (hw _ (List.mem_of_getElem? (i := 0) rfl)) e0 (g := (mkF m 7 #[.val (.long x0), .second, .val (.int x2), .val (.long x3), .second, .val (.int w1), .unset] [(.int (11 : Int32))])) rfl (hb hby at_7) rfl (by decide) (cap := 11) (by decide) (by decide) (by decide) (by decide)
  obtain ⟨b3, ga3⟩ : ∃ z, z = h0.size := ⟨_, rfl⟩
  rw [← ga3] at A3 st3
  have g4 : n0 ≤ b3 := Nat.le_trans Z0 (Nat.le_of_eq ga3.symm)
  have f5 : n0 ≤ h3.size := Nat.le_trans Z0 E3.1
  have f6 : Arv Z h3 b3 k3 .byte (11 : Int32) [(.int (0 : Int32)), (.int (0 : Int32)), (.int (0 : Int32)), (.int (0 : Int32)), (.int (0 : Int32)), (.int (0 : Int32)), (.int (0 : Int32)), (.int (0 : Int32)), (.int (0 : Int32)), (.int (0 : Int32)), (.int (0 : Int32))] (.int (0 : Int32)) := (Arv.new A3 (by decide)).pad (pad_rep [] (.int (0 : Int32)) 11)
  have pre3 : Go p.tables e below (s₁.setTop (entryFrame m #[(.long x0), (.int x2), (.long x3)] maxLocals)) T3 (mkF m 9 #[.val (.long x0), .second, .val (.int x2), .val (.long x3), .second, .val (.int w1), .unset] [(.ref b3)]) := fun t k => pre2 t (st3 _ k)
  have pre7 : Go p.tables e below (s₁.setTop (entryFrame m #[(.long x0), (.int x2), (.long x3)] maxLocals)) T3 (mkF m 17 #[.val (.long x0), .second, .val (.int x2), .val (.long x3), .second, .val (.int w1), .val (.ref b3)] [(.int ((x3.toInt32).toInt8.toInt32)), (.int (0 : Int32)), (.ref b3)]) := fun t k => pre3 t (by
      refine XS.astore X3.here hx rfl (hb hby at_9) rfl rfl (l' := #[.val (.long x0), .second, .val (.int x2), .val (.long x3), .second, .val (.int w1), .val (.ref b3)]) rfl ?_
      show Steps p.tables e below (T3.setTop (mkF m 11 #[.val (.long x0), .second, .val (.int x2), .val (.long x3), .second, .val (.int w1), .val (.ref b3)] [])) _
      refine XS.aload X3.here hx rfl (hb hby at_11) rfl rfl ?_
      show Steps p.tables e below (T3.setTop (mkF m 13 #[.val (.long x0), .second, .val (.int x2), .val (.long x3), .second, .val (.int w1), .val (.ref b3)] [(.ref b3)])) _
      refine XS.iconst X3.here hx rfl (hb hby at_13) ?_
      show Steps p.tables e below (T3.setTop (mkF m 14 #[.val (.long x0), .second, .val (.int x2), .val (.long x3), .second, .val (.int w1), .val (.ref b3)] [(.int (0 : Int32)), (.ref b3)])) _
      refine XS.lloadN X3.here hx rfl (hb hby at_14) rfl ?_
      show Steps p.tables e below (T3.setTop (mkF m 15 #[.val (.long x0), .second, .val (.int x2), .val (.long x3), .second, .val (.int w1), .val (.ref b3)] [(.long x3), (.int (0 : Int32)), (.ref b3)])) _
      refine XS.l2i X3.here hx rfl (hb hby at_15) rfl ?_
      show Steps p.tables e below (T3.setTop (mkF m 16 #[.val (.long x0), .second, .val (.int x2), .val (.long x3), .second, .val (.int w1), .val (.ref b3)] [(.int (x3.toInt32)), (.int (0 : Int32)), (.ref b3)])) _
      refine XS.i2b X3.here hx rfl (hb hby at_16) rfl ?_
      exact k)
  obtain ⟨c8, Ar8, q8, S8, M8, H8, G8⟩ := f6
  have hin8 : ¬ ((0 : Int32) < 0 ∨ c8.slots.size ≤ ((0 : Int32)).toNatClampNeg) := inb_of S8 ⟨by decide, by decide⟩
  obtain ⟨T8, h8, X8, e8, W8, st8⟩ := stB X3 hx hZ e3 Ar8 (j := (0 : Int32)) hin8 (g := (mkF m 17 #[.val (.long x0), .second, .val (.int x2), .val (.long x3), .second, .val (.int w1), .val (.ref b3)] [(.int ((x3.toInt32).toInt8.toInt32)), (.int (0 : Int32)), (.ref b3)])) rfl rfl (hb hby at_17)
  have fa8 : Arv Z h8 b3 k3 .byte (11 : Int32) [(.int (nar .byte ((x3.toInt32).toInt8.toInt32))), (.int (0 : Int32)), (.int (0 : Int32)), (.int (0 : Int32)), (.int (0 : Int32)), (.int (0 : Int32)), (.int (0 : Int32)), (.int (0 : Int32)), (.int (0 : Int32)), (.int (0 : Int32)), (.int (0 : Int32))] (.int (0 : Int32)) := Arv.set Ar8 q8 S8 M8 H8 G8 (fits_nar_byte _) W8 0 rfl (Nat.le_of_ble_eq_true rfl)
  have N8 := Fr.snoc X8 N0 g4
  have f9 : n0 ≤ h8.size := Nat.le_trans f5 (Keep.of_wr W8).1
  have pre8 : Go p.tables e below (s₁.setTop (entryFrame m #[(.long x0), (.int x2), (.long x3)] maxLocals)) T8 (mkF m 18 #[.val (.long x0), .second, .val (.int x2), .val (.long x3), .second, .val (.int w1), .val (.ref b3)] []) := fun t k => pre7 t (st8 _ k)
  have pre10 : Go p.tables e below (s₁.setTop (entryFrame m #[(.long x0), (.int x2), (.long x3)] maxLocals)) T8 (mkF m 27 #[.val (.long x0), .second, .val (.int x2), .val (.long x3), .second, .val (.int w1), .val (.ref b3)] [(.int ((((x3.toUInt64 >>> ((8 : Int32) &&& 0x3f).toInt64.toUInt64).toInt64).toInt32).toInt8.toInt32)), (.int (1 : Int32)), (.ref b3)]) := fun t k => pre8 t (by
      refine XS.aload X8.here hx rfl (hb hby at_18) rfl rfl ?_
      show Steps p.tables e below (T8.setTop (mkF m 20 #[.val (.long x0), .second, .val (.int x2), .val (.long x3), .second, .val (.int w1), .val (.ref b3)] [(.ref b3)])) _
      refine XS.iconst X8.here hx rfl (hb hby at_20) ?_
      show Steps p.tables e below (T8.setTop (mkF m 21 #[.val (.long x0), .second, .val (.int x2), .val (.long x3), .second, .val (.int w1), .val (.ref b3)] [(.int (1 : Int32)), (.ref b3)])) _
      refine XS.lloadN X8.here hx rfl (hb hby at_21) rfl ?_
      show Steps p.tables e below (T8.setTop (mkF m 22 #[.val (.long x0), .second, .val (.int x2), .val (.long x3), .second, .val (.int w1), .val (.ref b3)] [(.long x3), (.int (1 : Int32)), (.ref b3)])) _
      refine XS.bipush X8.here hx rfl (hb hby at_22) ?_
      show Steps p.tables e below (T8.setTop (mkF m 24 #[.val (.long x0), .second, .val (.int x2), .val (.long x3), .second, .val (.int w1), .val (.ref b3)] [(.int (8 : Int32)), (.long x3), (.int (1 : Int32)), (.ref b3)])) _
      refine XS.lushr X8.here hx rfl (hb hby at_24) rfl ?_
      show Steps p.tables e below (T8.setTop (mkF m 25 #[.val (.long x0), .second, .val (.int x2), .val (.long x3), .second, .val (.int w1), .val (.ref b3)] [(.long ((x3.toUInt64 >>> ((8 : Int32) &&& 0x3f).toInt64.toUInt64).toInt64)), (.int (1 : Int32)), (.ref b3)])) _
      refine XS.l2i X8.here hx rfl (hb hby at_25) rfl ?_
      show Steps p.tables e below (T8.setTop (mkF m 26 #[.val (.long x0), .second, .val (.int x2), .val (.long x3), .second, .val (.int w1), .val (.ref b3)] [(.int (((x3.toUInt64 >>> ((8 : Int32) &&& 0x3f).toInt64.toUInt64).toInt64).toInt32)), (.int (1 : Int32)), (.ref b3)])) _
      refine XS.i2b X8.here hx rfl (hb hby at_26) rfl ?_
      exact k)
  obtain ⟨c11, Ar11, q11, S11, M11, H11, G11⟩ := fa8
  have hin11 : ¬ ((1 : Int32) < 0 ∨ c11.slots.size ≤ ((1 : Int32)).toNatClampNeg) := inb_of S11 ⟨by decide, by decide⟩
  obtain ⟨T11, h11, X11, e11, W11, st11⟩ := stB X8 hx hZ e8 Ar11 (j := (1 : Int32)) hin11 (g := (mkF m 27 #[.val (.long x0), .second, .val (.int x2), .val (.long x3), .second, .val (.int w1), .val (.ref b3)] [(.int ((((x3.toUInt64 >>> ((8 : Int32) &&& 0x3f).toInt64.toUInt64).toInt64).toInt32).toInt8.toInt32)), (.int (1 : Int32)), (.ref b3)])) rfl rfl (hb hby at_27)
  have fa11 : Arv Z h11 b3 k3 .byte (11 : Int32) [(.int (nar .byte ((x3.toInt32).toInt8.toInt32))), (.int (nar .byte ((((x3.toUInt64 >>> ((8 : Int32) &&& 0x3f).toInt64.toUInt64).toInt64).toInt32).toInt8.toInt32))), (.int (0 : Int32)), (.int (0 : Int32)), (.int (0 : Int32)), (.int (0 : Int32)), (.int (0 : Int32)), (.int (0 : Int32)), (.int (0 : Int32)), (.int (0 : Int32)), (.int (0 : Int32))] (.int (0 : Int32)) := Arv.set Ar11 q11 S11 M11 H11 G11 (fits_nar_byte _) W11 1 rfl (Nat.le_of_ble_eq_true rfl)
  have N11 := Fr.snoc X11 N8 g4
  have f12 : n0 ≤ h11.size := Nat.le_trans f9 (Keep.of_wr W11).1
  have pre11 : Go p.tables e below (s₁.setTop (entryFrame m #[(.long x0), (.int x2), (.long x3)] maxLocals)) T11 (mkF m 28 #[.val (.long x0), .second, .val (.int x2), .val (.long x3), .second, .val (.int w1), .val (.ref b3)] []) := fun t k => pre10 t (st11 _ k)
  have pre13 : Go p.tables e below (s₁.setTop (entryFrame m #[(.long x0), (.int x2), (.long x3)] maxLocals)) T11 (mkF m 37 #[.val (.long x0), .second, .val (.int x2), .val (.long x3), .second, .val (.int w1), .val (.ref b3)] [(.int ((((x3.toUInt64 >>> ((16 : Int32) &&& 0x3f).toInt64.toUInt64).toInt64).toInt32).toInt8.toInt32)), (.int (2 : Int32)), (.ref b3)]) := fun t k => pre11 t (by
      refine XS.aload X11.here hx rfl (hb hby at_28) rfl rfl ?_
      show Steps p.tables e below (T11.setTop (mkF m 30 #[.val (.long x0), .second, .val (.int x2), .val (.long x3), .second, .val (.int w1), .val (.ref b3)] [(.ref b3)])) _
      refine XS.iconst X11.here hx rfl (hb hby at_30) ?_
      show Steps p.tables e below (T11.setTop (mkF m 31 #[.val (.long x0), .second, .val (.int x2), .val (.long x3), .second, .val (.int w1), .val (.ref b3)] [(.int (2 : Int32)), (.ref b3)])) _
      refine XS.lloadN X11.here hx rfl (hb hby at_31) rfl ?_
      show Steps p.tables e below (T11.setTop (mkF m 32 #[.val (.long x0), .second, .val (.int x2), .val (.long x3), .second, .val (.int w1), .val (.ref b3)] [(.long x3), (.int (2 : Int32)), (.ref b3)])) _
      refine XS.bipush X11.here hx rfl (hb hby at_32) ?_
      show Steps p.tables e below (T11.setTop (mkF m 34 #[.val (.long x0), .second, .val (.int x2), .val (.long x3), .second, .val (.int w1), .val (.ref b3)] [(.int (16 : Int32)), (.long x3), (.int (2 : Int32)), (.ref b3)])) _
      refine XS.lushr X11.here hx rfl (hb hby at_34) rfl ?_
      show Steps p.tables e below (T11.setTop (mkF m 35 #[.val (.long x0), .second, .val (.int x2), .val (.long x3), .second, .val (.int w1), .val (.ref b3)] [(.long ((x3.toUInt64 >>> ((16 : Int32) &&& 0x3f).toInt64.toUInt64).toInt64)), (.int (2 : Int32)), (.ref b3)])) _
      refine XS.l2i X11.here hx rfl (hb hby at_35) rfl ?_
      show Steps p.tables e below (T11.setTop (mkF m 36 #[.val (.long x0), .second, .val (.int x2), .val (.long x3), .second, .val (.int w1), .val (.ref b3)] [(.int (((x3.toUInt64 >>> ((16 : Int32) &&& 0x3f).toInt64.toUInt64).toInt64).toInt32)), (.int (2 : Int32)), (.ref b3)])) _
      refine XS.i2b X11.here hx rfl (hb hby at_36) rfl ?_
      exact k)
  obtain ⟨c14, Ar14, q14, S14, M14, H14, G14⟩ := fa11
  have hin14 : ¬ ((2 : Int32) < 0 ∨ c14.slots.size ≤ ((2 : Int32)).toNatClampNeg) := inb_of S14 ⟨by decide, by decide⟩
  obtain ⟨T14, h14, X14, e14, W14, st14⟩ := stB X11 hx hZ e11 Ar14 (j := (2 : Int32)) hin14 (g := (mkF m 37 #[.val (.long x0), .second, .val (.int x2), .val (.long x3), .second, .val (.int w1), .val (.ref b3)] [(.int ((((x3.toUInt64 >>> ((16 : Int32) &&& 0x3f).toInt64.toUInt64).toInt64).toInt32).toInt8.toInt32)), (.int (2 : Int32)), (.ref b3)])) rfl rfl (hb hby at_37)
  have fa14 : Arv Z h14 b3 k3 .byte (11 : Int32) [(.int (nar .byte ((x3.toInt32).toInt8.toInt32))), (.int (nar .byte ((((x3.toUInt64 >>> ((8 : Int32) &&& 0x3f).toInt64.toUInt64).toInt64).toInt32).toInt8.toInt32))), (.int (nar .byte ((((x3.toUInt64 >>> ((16 : Int32) &&& 0x3f).toInt64.toUInt64).toInt64).toInt32).toInt8.toInt32))), (.int (0 : Int32)), (.int (0 : Int32)), (.int (0 : Int32)), (.int (0 : Int32)), (.int (0 : Int32)), (.int (0 : Int32)), (.int (0 : Int32)), (.int (0 : Int32))] (.int (0 : Int32)) := Arv.set Ar14 q14 S14 M14 H14 G14 (fits_nar_byte _) W14 2 rfl (Nat.le_of_ble_eq_true rfl)
  have N14 := Fr.snoc X14 N11 g4
  have f15 : n0 ≤ h14.size := Nat.le_trans f12 (Keep.of_wr W14).1
  have pre14 : Go p.tables e below (s₁.setTop (entryFrame m #[(.long x0), (.int x2), (.long x3)] maxLocals)) T14 (mkF m 38 #[.val (.long x0), .second, .val (.int x2), .val (.long x3), .second, .val (.int w1), .val (.ref b3)] []) := fun t k => pre13 t (st14 _ k)
  have pre16 : Go p.tables e below (s₁.setTop (entryFrame m #[(.long x0), (.int x2), (.long x3)] maxLocals)) T14 (mkF m 47 #[.val (.long x0), .second, .val (.int x2), .val (.long x3), .second, .val (.int w1), .val (.ref b3)] [(.int ((((x3.toUInt64 >>> ((24 : Int32) &&& 0x3f).toInt64.toUInt64).toInt64).toInt32).toInt8.toInt32)), (.int (3 : Int32)), (.ref b3)]) := fun t k => pre14 t (by
      refine XS.aload X14.here hx rfl (hb hby at_38) rfl rfl ?_
      show Steps p.tables e below (T14.setTop (mkF m 40 #[.val (.long x0), .second, .val (.int x2), .val (.long x3), .second, .val (.int w1), .val (.ref b3)] [(.ref b3)])) _
      refine XS.iconst X14.here hx rfl (hb hby at_40) ?_
      show Steps p.tables e below (T14.setTop (mkF m 41 #[.val (.long x0), .second, .val (.int x2), .val (.long x3), .second, .val (.int w1), .val (.ref b3)] [(.int (3 : Int32)), (.ref b3)])) _
      refine XS.lloadN X14.here hx rfl (hb hby at_41) rfl ?_
      show Steps p.tables e below (T14.setTop (mkF m 42 #[.val (.long x0), .second, .val (.int x2), .val (.long x3), .second, .val (.int w1), .val (.ref b3)] [(.long x3), (.int (3 : Int32)), (.ref b3)])) _
      refine XS.bipush X14.here hx rfl (hb hby at_42) ?_
      show Steps p.tables e below (T14.setTop (mkF m 44 #[.val (.long x0), .second, .val (.int x2), .val (.long x3), .second, .val (.int w1), .val (.ref b3)] [(.int (24 : Int32)), (.long x3), (.int (3 : Int32)), (.ref b3)])) _
      refine XS.lushr X14.here hx rfl (hb hby at_44) rfl ?_
      show Steps p.tables e below (T14.setTop (mkF m 45 #[.val (.long x0), .second, .val (.int x2), .val (.long x3), .second, .val (.int w1), .val (.ref b3)] [(.long ((x3.toUInt64 >>> ((24 : Int32) &&& 0x3f).toInt64.toUInt64).toInt64)), (.int (3 : Int32)), (.ref b3)])) _
      refine XS.l2i X14.here hx rfl (hb hby at_45) rfl ?_
      show Steps p.tables e below (T14.setTop (mkF m 46 #[.val (.long x0), .second, .val (.int x2), .val (.long x3), .second, .val (.int w1), .val (.ref b3)] [(.int (((x3.toUInt64 >>> ((24 : Int32) &&& 0x3f).toInt64.toUInt64).toInt64).toInt32)), (.int (3 : Int32)), (.ref b3)])) _
      refine XS.i2b X14.here hx rfl (hb hby at_46) rfl ?_
      exact k)
  obtain ⟨c17, Ar17, q17, S17, M17, H17, G17⟩ := fa14
  have hin17 : ¬ ((3 : Int32) < 0 ∨ c17.slots.size ≤ ((3 : Int32)).toNatClampNeg) := inb_of S17 ⟨by decide, by decide⟩
  obtain ⟨T17, h17, X17, e17, W17, st17⟩ := stB X14 hx hZ e14 Ar17 (j := (3 : Int32)) hin17 (g := (mkF m 47 #[.val (.long x0), .second, .val (.int x2), .val (.long x3), .second, .val (.int w1), .val (.ref b3)] [(.int ((((x3.toUInt64 >>> ((24 : Int32) &&& 0x3f).toInt64.toUInt64).toInt64).toInt32).toInt8.toInt32)), (.int (3 : Int32)), (.ref b3)])) rfl rfl (hb hby at_47)
  have fa17 : Arv Z h17 b3 k3 .byte (11 : Int32) [(.int (nar .byte ((x3.toInt32).toInt8.toInt32))), (.int (nar .byte ((((x3.toUInt64 >>> ((8 : Int32) &&& 0x3f).toInt64.toUInt64).toInt64).toInt32).toInt8.toInt32))), (.int (nar .byte ((((x3.toUInt64 >>> ((16 : Int32) &&& 0x3f).toInt64.toUInt64).toInt64).toInt32).toInt8.toInt32))), (.int (nar .byte ((((x3.toUInt64 >>> ((24 : Int32) &&& 0x3f).toInt64.toUInt64).toInt64).toInt32).toInt8.toInt32))), (.int (0 : Int32)), (.int (0 : Int32)), (.int (0 : Int32)), (.int (0 : Int32)), (.int (0 : Int32)), (.int (0 : Int32)), (.int (0 : Int32))] (.int (0 : Int32)) := Arv.set Ar17 q17 S17 M17 H17 G17 (fits_nar_byte _) W17 3 rfl (Nat.le_of_ble_eq_true rfl)
  have N17 := Fr.snoc X17 N14 g4
  have f18 : n0 ≤ h17.size := Nat.le_trans f15 (Keep.of_wr W17).1
  have pre17 : Go p.tables e below (s₁.setTop (entryFrame m #[(.long x0), (.int x2), (.long x3)] maxLocals)) T17 (mkF m 48 #[.val (.long x0), .second, .val (.int x2), .val (.long x3), .second, .val (.int w1), .val (.ref b3)] []) := fun t k => pre16 t (st17 _ k)
  have pre19 : Go p.tables e below (s₁.setTop (entryFrame m #[(.long x0), (.int x2), (.long x3)] maxLocals)) T17 (mkF m 57 #[.val (.long x0), .second, .val (.int x2), .val (.long x3), .second, .val (.int w1), .val (.ref b3)] [(.int ((((x3.toUInt64 >>> ((32 : Int32) &&& 0x3f).toInt64.toUInt64).toInt64).toInt32).toInt8.toInt32)), (.int (4 : Int32)), (.ref b3)]) := fun t k => pre17 t (by
      refine XS.aload X17.here hx rfl (hb hby at_48) rfl rfl ?_
      show Steps p.tables e below (T17.setTop (mkF m 50 #[.val (.long x0), .second, .val (.int x2), .val (.long x3), .second, .val (.int w1), .val (.ref b3)] [(.ref b3)])) _
      refine XS.iconst X17.here hx rfl (hb hby at_50) ?_
      show Steps p.tables e below (T17.setTop (mkF m 51 #[.val (.long x0), .second, .val (.int x2), .val (.long x3), .second, .val (.int w1), .val (.ref b3)] [(.int (4 : Int32)), (.ref b3)])) _
      refine XS.lloadN X17.here hx rfl (hb hby at_51) rfl ?_
      show Steps p.tables e below (T17.setTop (mkF m 52 #[.val (.long x0), .second, .val (.int x2), .val (.long x3), .second, .val (.int w1), .val (.ref b3)] [(.long x3), (.int (4 : Int32)), (.ref b3)])) _
      refine XS.bipush X17.here hx rfl (hb hby at_52) ?_
      show Steps p.tables e below (T17.setTop (mkF m 54 #[.val (.long x0), .second, .val (.int x2), .val (.long x3), .second, .val (.int w1), .val (.ref b3)] [(.int (32 : Int32)), (.long x3), (.int (4 : Int32)), (.ref b3)])) _
      refine XS.lushr X17.here hx rfl (hb hby at_54) rfl ?_
      show Steps p.tables e below (T17.setTop (mkF m 55 #[.val (.long x0), .second, .val (.int x2), .val (.long x3), .second, .val (.int w1), .val (.ref b3)] [(.long ((x3.toUInt64 >>> ((32 : Int32) &&& 0x3f).toInt64.toUInt64).toInt64)), (.int (4 : Int32)), (.ref b3)])) _
      refine XS.l2i X17.here hx rfl (hb hby at_55) rfl ?_
      show Steps p.tables e below (T17.setTop (mkF m 56 #[.val (.long x0), .second, .val (.int x2), .val (.long x3), .second, .val (.int w1), .val (.ref b3)] [(.int (((x3.toUInt64 >>> ((32 : Int32) &&& 0x3f).toInt64.toUInt64).toInt64).toInt32)), (.int (4 : Int32)), (.ref b3)])) _
      refine XS.i2b X17.here hx rfl (hb hby at_56) rfl ?_
      exact k)
  obtain ⟨c20, Ar20, q20, S20, M20, H20, G20⟩ := fa17
  have hin20 : ¬ ((4 : Int32) < 0 ∨ c20.slots.size ≤ ((4 : Int32)).toNatClampNeg) := inb_of S20 ⟨by decide, by decide⟩
  obtain ⟨T20, h20, X20, e20, W20, st20⟩ := stB X17 hx hZ e17 Ar20 (j := (4 : Int32)) hin20 (g := (mkF m 57 #[.val (.long x0), .second, .val (.int x2), .val (.long x3), .second, .val (.int w1), .val (.ref b3)] [(.int ((((x3.toUInt64 >>> ((32 : Int32) &&& 0x3f).toInt64.toUInt64).toInt64).toInt32).toInt8.toInt32)), (.int (4 : Int32)), (.ref b3)])) rfl rfl (hb hby at_57)
  have fa20 : Arv Z h20 b3 k3 .byte (11 : Int32) [(.int (nar .byte ((x3.toInt32).toInt8.toInt32))), (.int (nar .byte ((((x3.toUInt64 >>> ((8 : Int32) &&& 0x3f).toInt64.toUInt64).toInt64).toInt32).toInt8.toInt32))), (.int (nar .byte ((((x3.toUInt64 >>> ((16 : Int32) &&& 0x3f).toInt64.toUInt64).toInt64).toInt32).toInt8.toInt32))), (.int (nar .byte ((((x3.toUInt64 >>> ((24 : Int32) &&& 0x3f).toInt64.toUInt64).toInt64).toInt32).toInt8.toInt32))), (.int (nar .byte ((((x3.toUInt64 >>> ((32 : Int32) &&& 0x3f).toInt64.toUInt64).toInt64).toInt32).toInt8.toInt32))), (.int (0 : Int32)), (.int (0 : Int32)), (.int (0 : Int32)), (.int (0 : Int32)), (.int (0 : Int32)), (.int (0 : Int32))] (.int (0 : Int32)) := Arv.set Ar20 q20 S20 M20 H20 G20 (fits_nar_byte _) W20 4 rfl (Nat.le_of_ble_eq_true rfl)
  have N20 := Fr.snoc X20 N17 g4
  have f21 : n0 ≤ h20.size := Nat.le_trans f18 (Keep.of_wr W20).1
  have pre20 : Go p.tables e below (s₁.setTop (entryFrame m #[(.long x0), (.int x2), (.long x3)] maxLocals)) T20 (mkF m 58 #[.val (.long x0), .second, .val (.int x2), .val (.long x3), .second, .val (.int w1), .val (.ref b3)] []) := fun t k => pre19 t (st20 _ k)
  have pre22 : Go p.tables e below (s₁.setTop (entryFrame m #[(.long x0), (.int x2), (.long x3)] maxLocals)) T20 (mkF m 67 #[.val (.long x0), .second, .val (.int x2), .val (.long x3), .second, .val (.int w1), .val (.ref b3)] [(.int ((((x3.toUInt64 >>> ((40 : Int32) &&& 0x3f).toInt64.toUInt64).toInt64).toInt32).toInt8.toInt32)), (.int (5 : Int32)), (.ref b3)]) := fun t k => pre20 t (by
      refine XS.aload X20.here hx rfl (hb hby at_58) rfl rfl ?_
      show Steps p.tables e below (T20.setTop (mkF m 60 #[.val (.long x0), .second, .val (.int x2), .val (.long x3), .second, .val (.int w1), .val (.ref b3)] [(.ref b3)])) _
      refine XS.iconst X20.here hx rfl (hb hby at_60) ?_
      show Steps p.tables e below (T20.setTop (mkF m 61 #[.val (.long x0), .second, .val (.int x2), .val (.long x3), .second, .val (.int w1), .val (.ref b3)] [(.int (5 : Int32)), (.ref b3)])) _
      refine XS.lloadN X20.here hx rfl (hb hby at_61) rfl ?_
      show Steps p.tables e below (T20.setTop (mkF m 62 #[.val (.long x0), .second, .val (.int x2), .val (.long x3), .second, .val (.int w1), .val (.ref b3)] [(.long x3), (.int (5 : Int32)), (.ref b3)])) _
      refine XS.bipush X20.here hx rfl (hb hby at_62) ?_
      show Steps p.tables e below (T20.setTop (mkF m 64 #[.val (.long x0), .second, .val (.int x2), .val (.long x3), .second, .val (.int w1), .val (.ref b3)] [(.int (40 : Int32)), (.long x3), (.int (5 : Int32)), (.ref b3)])) _
      refine XS.lushr X20.here hx rfl (hb hby at_64) rfl ?_
      show Steps p.tables e below (T20.setTop (mkF m 65 #[.val (.long x0), .second, .val (.int x2), .val (.long x3), .second, .val (.int w1), .val (.ref b3)] [(.long ((x3.toUInt64 >>> ((40 : Int32) &&& 0x3f).toInt64.toUInt64).toInt64)), (.int (5 : Int32)), (.ref b3)])) _
      refine XS.l2i X20.here hx rfl (hb hby at_65) rfl ?_
      show Steps p.tables e below (T20.setTop (mkF m 66 #[.val (.long x0), .second, .val (.int x2), .val (.long x3), .second, .val (.int w1), .val (.ref b3)] [(.int (((x3.toUInt64 >>> ((40 : Int32) &&& 0x3f).toInt64.toUInt64).toInt64).toInt32)), (.int (5 : Int32)), (.ref b3)])) _
      refine XS.i2b X20.here hx rfl (hb hby at_66) rfl ?_
      exact k)
  obtain ⟨c23, Ar23, q23, S23, M23, H23, G23⟩ := fa20
  have hin23 : ¬ ((5 : Int32) < 0 ∨ c23.slots.size ≤ ((5 : Int32)).toNatClampNeg) := inb_of S23 ⟨by decide, by decide⟩
  obtain ⟨T23, h23, X23, e23, W23, st23⟩ := stB X20 hx hZ e20 Ar23 (j := (5 : Int32)) hin23 (g := (mkF m 67 #[.val (.long x0), .second, .val (.int x2), .val (.long x3), .second, .val (.int w1), .val (.ref b3)] [(.int ((((x3.toUInt64 >>> ((40 : Int32) &&& 0x3f).toInt64.toUInt64).toInt64).toInt32).toInt8.toInt32)), (.int (5 : Int32)), (.ref b3)])) rfl rfl (hb hby at_67)
  have fa23 : Arv Z h23 b3 k3 .byte (11 : Int32) [(.int (nar .byte ((x3.toInt32).toInt8.toInt32))), (.int (nar .byte ((((x3.toUInt64 >>> ((8 : Int32) &&& 0x3f).toInt64.toUInt64).toInt64).toInt32).toInt8.toInt32))), (.int (nar .byte ((((x3.toUInt64 >>> ((16 : Int32) &&& 0x3f).toInt64.toUInt64).toInt64).toInt32).toInt8.toInt32))), (.int (nar .byte ((((x3.toUInt64 >>> ((24 : Int32) &&& 0x3f).toInt64.toUInt64).toInt64).toInt32).toInt8.toInt32))), (.int (nar .byte ((((x3.toUInt64 >>> ((32 : Int32) &&& 0x3f).toInt64.toUInt64).toInt64).toInt32).toInt8.toInt32))), (.int (nar .byte ((((x3.toUInt64 >>> ((40 : Int32) &&& 0x3f).toInt64.toUInt64).toInt64).toInt32).toInt8.toInt32))), (.int (0 : Int32)), (.int (0 : Int32)), (.int (0 : Int32)), (.int (0 : Int32)), (.int (0 : Int32))] (.int (0 : Int32)) := Arv.set Ar23 q23 S23 M23 H23 G23 (fits_nar_byte _) W23 5 rfl (Nat.le_of_ble_eq_true rfl)
  have N23 := Fr.snoc X23 N20 g4
  have f24 : n0 ≤ h23.size := Nat.le_trans f21 (Keep.of_wr W23).1
  have pre23 : Go p.tables e below (s₁.setTop (entryFrame m #[(.long x0), (.int x2), (.long x3)] maxLocals)) T23 (mkF m 68 #[.val (.long x0), .second, .val (.int x2), .val (.long x3), .second, .val (.int w1), .val (.ref b3)] []) := fun t k => pre22 t (st23 _ k)
  have pre25 : Go p.tables e below (s₁.setTop (entryFrame m #[(.long x0), (.int x2), (.long x3)] maxLocals)) T23 (mkF m 78 #[.val (.long x0), .second, .val (.int x2), .val (.long x3), .second, .val (.int w1), .val (.ref b3)] [(.int ((((x3.toUInt64 >>> ((48 : Int32) &&& 0x3f).toInt64.toUInt64).toInt64).toInt32).toInt8.toInt32)), (.int (6 : Int32)), (.ref b3)]) := fun t k => pre23 t (by
      refine XS.aload X23.here hx rfl (hb hby at_68) rfl rfl ?_
      show Steps p.tables e below (T23.setTop (mkF m 70 #[.val (.long x0), .second, .val (.int x2), .val (.long x3), .second, .val (.int w1), .val (.ref b3)] [(.ref b3)])) _
      refine XS.bipush X23.here hx rfl (hb hby at_70) ?_
      show Steps p.tables e below (T23.setTop (mkF m 72 #[.val (.long x0), .second, .val (.int x2), .val (.long x3), .second, .val (.int w1), .val (.ref b3)] [(.int (6 : Int32)), (.ref b3)])) _
      refine XS.lloadN X23.here hx rfl (hb hby at_72) rfl ?_
      show Steps p.tables e below (T23.setTop (mkF m 73 #[.val (.long x0), .second, .val (.int x2), .val (.long x3), .second, .val (.int w1), .val (.ref b3)] [(.long x3), (.int (6 : Int32)), (.ref b3)])) _
      refine XS.bipush X23.here hx rfl (hb hby at_73) ?_
      show Steps p.tables e below (T23.setTop (mkF m 75 #[.val (.long x0), .second, .val (.int x2), .val (.long x3), .second, .val (.int w1), .val (.ref b3)] [(.int (48 : Int32)), (.long x3), (.int (6 : Int32)), (.ref b3)])) _
      refine XS.lushr X23.here hx rfl (hb hby at_75) rfl ?_
      show Steps p.tables e below (T23.setTop (mkF m 76 #[.val (.long x0), .second, .val (.int x2), .val (.long x3), .second, .val (.int w1), .val (.ref b3)] [(.long ((x3.toUInt64 >>> ((48 : Int32) &&& 0x3f).toInt64.toUInt64).toInt64)), (.int (6 : Int32)), (.ref b3)])) _
      refine XS.l2i X23.here hx rfl (hb hby at_76) rfl ?_
      show Steps p.tables e below (T23.setTop (mkF m 77 #[.val (.long x0), .second, .val (.int x2), .val (.long x3), .second, .val (.int w1), .val (.ref b3)] [(.int (((x3.toUInt64 >>> ((48 : Int32) &&& 0x3f).toInt64.toUInt64).toInt64).toInt32)), (.int (6 : Int32)), (.ref b3)])) _
      refine XS.i2b X23.here hx rfl (hb hby at_77) rfl ?_
      exact k)
  obtain ⟨c26, Ar26, q26, S26, M26, H26, G26⟩ := fa23
  have hin26 : ¬ ((6 : Int32) < 0 ∨ c26.slots.size ≤ ((6 : Int32)).toNatClampNeg) := inb_of S26 ⟨by decide, by decide⟩
  obtain ⟨T26, h26, X26, e26, W26, st26⟩ := stB X23 hx hZ e23 Ar26 (j := (6 : Int32)) hin26 (g := (mkF m 78 #[.val (.long x0), .second, .val (.int x2), .val (.long x3), .second, .val (.int w1), .val (.ref b3)] [(.int ((((x3.toUInt64 >>> ((48 : Int32) &&& 0x3f).toInt64.toUInt64).toInt64).toInt32).toInt8.toInt32)), (.int (6 : Int32)), (.ref b3)])) rfl rfl (hb hby at_78)
  have fa26 : Arv Z h26 b3 k3 .byte (11 : Int32) [(.int (nar .byte ((x3.toInt32).toInt8.toInt32))), (.int (nar .byte ((((x3.toUInt64 >>> ((8 : Int32) &&& 0x3f).toInt64.toUInt64).toInt64).toInt32).toInt8.toInt32))), (.int (nar .byte ((((x3.toUInt64 >>> ((16 : Int32) &&& 0x3f).toInt64.toUInt64).toInt64).toInt32).toInt8.toInt32))), (.int (nar .byte ((((x3.toUInt64 >>> ((24 : Int32) &&& 0x3f).toInt64.toUInt64).toInt64).toInt32).toInt8.toInt32))), (.int (nar .byte ((((x3.toUInt64 >>> ((32 : Int32) &&& 0x3f).toInt64.toUInt64).toInt64).toInt32).toInt8.toInt32))), (.int (nar .byte ((((x3.toUInt64 >>> ((40 : Int32) &&& 0x3f).toInt64.toUInt64).toInt64).toInt32).toInt8.toInt32))), (.int (nar .byte ((((x3.toUInt64 >>> ((48 : Int32) &&& 0x3f).toInt64.toUInt64).toInt64).toInt32).toInt8.toInt32))), (.int (0 : Int32)), (.int (0 : Int32)), (.int (0 : Int32)), (.int (0 : Int32))] (.int (0 : Int32)) := Arv.set Ar26 q26 S26 M26 H26 G26 (fits_nar_byte _) W26 6 rfl (Nat.le_of_ble_eq_true rfl)
  have N26 := Fr.snoc X26 N23 g4
  have f27 : n0 ≤ h26.size := Nat.le_trans f24 (Keep.of_wr W26).1
  have pre26 : Go p.tables e below (s₁.setTop (entryFrame m #[(.long x0), (.int x2), (.long x3)] maxLocals)) T26 (mkF m 79 #[.val (.long x0), .second, .val (.int x2), .val (.long x3), .second, .val (.int w1), .val (.ref b3)] []) := fun t k => pre25 t (st26 _ k)
  have pre28 : Go p.tables e below (s₁.setTop (entryFrame m #[(.long x0), (.int x2), (.long x3)] maxLocals)) T26 (mkF m 89 #[.val (.long x0), .second, .val (.int x2), .val (.long x3), .second, .val (.int w1), .val (.ref b3)] [(.int ((((x3.toUInt64 >>> ((56 : Int32) &&& 0x3f).toInt64.toUInt64).toInt64).toInt32).toInt8.toInt32)), (.int (7 : Int32)), (.ref b3)]) := fun t k => pre26 t (by
      refine XS.aload X26.here hx rfl (hb hby at_79) rfl rfl ?_
      show Steps p.tables e below (T26.setTop (mkF m 81 #[.val (.long x0), .second, .val (.int x2), .val (.long x3), .second, .val (.int w1), .val (.ref b3)] [(.ref b3)])) _
      refine XS.bipush X26.here hx rfl (hb hby at_81) ?_
      show Steps p.tables e below (T26.setTop (mkF m 83 #[.val (.long x0), .second, .val (.int x2), .val (.long x3), .second, .val (.int w1), .val (.ref b3)] [(.int (7 : Int32)), (.ref b3)])) _
      refine XS.lloadN X26.here hx rfl (hb hby at_83) rfl ?_
      show Steps p.tables e below (T26.setTop (mkF m 84 #[.val (.long x0), .second, .val (.int x2), .val (.long x3), .second, .val (.int w1), .val (.ref b3)] [(.long x3), (.int (7 : Int32)), (.ref b3)])) _
      refine XS.bipush X26.here hx rfl (hb hby at_84) ?_
      show Steps p.tables e below (T26.setTop (mkF m 86 #[.val (.long x0), .second, .val (.int x2), .val (.long x3), .second, .val (.int w1), .val (.ref b3)] [(.int (56 : Int32)), (.long x3), (.int (7 : Int32)), (.ref b3)])) _
      refine XS.lushr X26.here hx rfl (hb hby at_86) rfl ?_
      show Steps p.tables e below (T26.setTop (mkF m 87 #[.val (.long x0), .second, .val (.int x2), .val (.long x3), .second, .val (.int w1), .val (.ref b3)] [(.long ((x3.toUInt64 >>> ((56 : Int32) &&& 0x3f).toInt64.toUInt64).toInt64)), (.int (7 : Int32)), (.ref b3)])) _
      refine XS.l2i X26.here hx rfl (hb hby at_87) rfl ?_
      show Steps p.tables e below (T26.setTop (mkF m 88 #[.val (.long x0), .second, .val (.int x2), .val (.long x3), .second, .val (.int w1), .val (.ref b3)] [(.int (((x3.toUInt64 >>> ((56 : Int32) &&& 0x3f).toInt64.toUInt64).toInt64).toInt32)), (.int (7 : Int32)), (.ref b3)])) _
      refine XS.i2b X26.here hx rfl (hb hby at_88) rfl ?_
      exact k)
  obtain ⟨c29, Ar29, q29, S29, M29, H29, G29⟩ := fa26
  have hin29 : ¬ ((7 : Int32) < 0 ∨ c29.slots.size ≤ ((7 : Int32)).toNatClampNeg) := inb_of S29 ⟨by decide, by decide⟩
  obtain ⟨T29, h29, X29, e29, W29, st29⟩ := stB X26 hx hZ e26 Ar29 (j := (7 : Int32)) hin29 (g := (mkF m 89 #[.val (.long x0), .second, .val (.int x2), .val (.long x3), .second, .val (.int w1), .val (.ref b3)] [(.int ((((x3.toUInt64 >>> ((56 : Int32) &&& 0x3f).toInt64.toUInt64).toInt64).toInt32).toInt8.toInt32)), (.int (7 : Int32)), (.ref b3)])) rfl rfl (hb hby at_89)
  have fa29 : Arv Z h29 b3 k3 .byte (11 : Int32) [(.int (nar .byte ((x3.toInt32).toInt8.toInt32))), (.int (nar .byte ((((x3.toUInt64 >>> ((8 : Int32) &&& 0x3f).toInt64.toUInt64).toInt64).toInt32).toInt8.toInt32))), (.int (nar .byte ((((x3.toUInt64 >>> ((16 : Int32) &&& 0x3f).toInt64.toUInt64).toInt64).toInt32).toInt8.toInt32))), (.int (nar .byte ((((x3.toUInt64 >>> ((24 : Int32) &&& 0x3f).toInt64.toUInt64).toInt64).toInt32).toInt8.toInt32))), (.int (nar .byte ((((x3.toUInt64 >>> ((32 : Int32) &&& 0x3f).toInt64.toUInt64).toInt64).toInt32).toInt8.toInt32))), (.int (nar .byte ((((x3.toUInt64 >>> ((40 : Int32) &&& 0x3f).toInt64.toUInt64).toInt64).toInt32).toInt8.toInt32))), (.int (nar .byte ((((x3.toUInt64 >>> ((48 : Int32) &&& 0x3f).toInt64.toUInt64).toInt64).toInt32).toInt8.toInt32))), (.int (nar .byte ((((x3.toUInt64 >>> ((56 : Int32) &&& 0x3f).toInt64.toUInt64).toInt64).toInt32).toInt8.toInt32))), (.int (0 : Int32)), (.int (0 : Int32)), (.int (0 : Int32))] (.int (0 : Int32)) := Arv.set Ar29 q29 S29 M29 H29 G29 (fits_nar_byte _) W29 7 rfl (Nat.le_of_ble_eq_true rfl)
  have N29 := Fr.snoc X29 N26 g4
  have f30 : n0 ≤ h29.size := Nat.le_trans f27 (Keep.of_wr W29).1
  have pre29 : Go p.tables e below (s₁.setTop (entryFrame m #[(.long x0), (.int x2), (.long x3)] maxLocals)) T29 (mkF m 90 #[.val (.long x0), .second, .val (.int x2), .val (.long x3), .second, .val (.int w1), .val (.ref b3)] []) := fun t k => pre28 t (st29 _ k)
  have pre31 : Go p.tables e below (s₁.setTop (entryFrame m #[(.long x0), (.int x2), (.long x3)] maxLocals)) T29 (mkF m 100 #[.val (.long x0), .second, .val (.int x2), .val (.long x3), .second, .val (.int w1), .val (.ref b3)] [(.int ((((x3.toUInt64 >>> ((13 : Int32) &&& 0x3f).toInt64.toUInt64).toInt64).toInt32).toInt8.toInt32)), (.int (8 : Int32)), (.ref b3)]) := fun t k => pre29 t (by
      refine XS.aload X29.here hx rfl (hb hby at_90) rfl rfl ?_
      show Steps p.tables e below (T29.setTop (mkF m 92 #[.val (.long x0), .second, .val (.int x2), .val (.long x3), .second, .val (.int w1), .val (.ref b3)] [(.ref b3)])) _
      refine XS.bipush X29.here hx rfl (hb hby at_92) ?_
      show Steps p.tables e below (T29.setTop (mkF m 94 #[.val (.long x0), .second, .val (.int x2), .val (.long x3), .second, .val (.int w1), .val (.ref b3)] [(.int (8 : Int32)), (.ref b3)])) _
      refine XS.lloadN X29.here hx rfl (hb hby at_94) rfl ?_
      show Steps p.tables e below (T29.setTop (mkF m 95 #[.val (.long x0), .second, .val (.int x2), .val (.long x3), .second, .val (.int w1), .val (.ref b3)] [(.long x3), (.int (8 : Int32)), (.ref b3)])) _
      refine XS.bipush X29.here hx rfl (hb hby at_95) ?_
      show Steps p.tables e below (T29.setTop (mkF m 97 #[.val (.long x0), .second, .val (.int x2), .val (.long x3), .second, .val (.int w1), .val (.ref b3)] [(.int (13 : Int32)), (.long x3), (.int (8 : Int32)), (.ref b3)])) _
      refine XS.lushr X29.here hx rfl (hb hby at_97) rfl ?_
      show Steps p.tables e below (T29.setTop (mkF m 98 #[.val (.long x0), .second, .val (.int x2), .val (.long x3), .second, .val (.int w1), .val (.ref b3)] [(.long ((x3.toUInt64 >>> ((13 : Int32) &&& 0x3f).toInt64.toUInt64).toInt64)), (.int (8 : Int32)), (.ref b3)])) _
      refine XS.l2i X29.here hx rfl (hb hby at_98) rfl ?_
      show Steps p.tables e below (T29.setTop (mkF m 99 #[.val (.long x0), .second, .val (.int x2), .val (.long x3), .second, .val (.int w1), .val (.ref b3)] [(.int (((x3.toUInt64 >>> ((13 : Int32) &&& 0x3f).toInt64.toUInt64).toInt64).toInt32)), (.int (8 : Int32)), (.ref b3)])) _
      refine XS.i2b X29.here hx rfl (hb hby at_99) rfl ?_
      exact k)
  obtain ⟨c32, Ar32, q32, S32, M32, H32, G32⟩ := fa29
  have hin32 : ¬ ((8 : Int32) < 0 ∨ c32.slots.size ≤ ((8 : Int32)).toNatClampNeg) := inb_of S32 ⟨by decide, by decide⟩
  obtain ⟨T32, h32, X32, e32, W32, st32⟩ := stB X29 hx hZ e29 Ar32 (j := (8 : Int32)) hin32 (g := (mkF m 100 #[.val (.long x0), .second, .val (.int x2), .val (.long x3), .second, .val (.int w1), .val (.ref b3)] [(.int ((((x3.toUInt64 >>> ((13 : Int32) &&& 0x3f).toInt64.toUInt64).toInt64).toInt32).toInt8.toInt32)), (.int (8 : Int32)), (.ref b3)])) rfl rfl (hb hby at_100)
  have fa32 : Arv Z h32 b3 k3 .byte (11 : Int32) [(.int (nar .byte ((x3.toInt32).toInt8.toInt32))), (.int (nar .byte ((((x3.toUInt64 >>> ((8 : Int32) &&& 0x3f).toInt64.toUInt64).toInt64).toInt32).toInt8.toInt32))), (.int (nar .byte ((((x3.toUInt64 >>> ((16 : Int32) &&& 0x3f).toInt64.toUInt64).toInt64).toInt32).toInt8.toInt32))), (.int (nar .byte ((((x3.toUInt64 >>> ((24 : Int32) &&& 0x3f).toInt64.toUInt64).toInt64).toInt32).toInt8.toInt32))), (.int (nar .byte ((((x3.toUInt64 >>> ((32 : Int32) &&& 0x3f).toInt64.toUInt64).toInt64).toInt32).toInt8.toInt32))), (.int (nar .byte ((((x3.toUInt64 >>> ((40 : Int32) &&& 0x3f).toInt64.toUInt64).toInt64).toInt32).toInt8.toInt32))), (.int (nar .byte ((((x3.toUInt64 >>> ((48 : Int32) &&& 0x3f).toInt64.toUInt64).toInt64).toInt32).toInt8.toInt32))), (.int (nar .byte ((((x3.toUInt64 >>> ((56 : Int32) &&& 0x3f).toInt64.toUInt64).toInt64).toInt32).toInt8.toInt32))), (.int (nar .byte ((((x3.toUInt64 >>> ((13 : Int32) &&& 0x3f).toInt64.toUInt64).toInt64).toInt32).toInt8.toInt32))), (.int (0 : Int32)), (.int (0 : Int32))] (.int (0 : Int32)) := Arv.set Ar32 q32 S32 M32 H32 G32 (fits_nar_byte _) W32 8 rfl (Nat.le_of_ble_eq_true rfl)
  have N32 := Fr.snoc X32 N29 g4
  have f33 : n0 ≤ h32.size := Nat.le_trans f30 (Keep.of_wr W32).1
  have pre32 : Go p.tables e below (s₁.setTop (entryFrame m #[(.long x0), (.int x2), (.long x3)] maxLocals)) T32 (mkF m 101 #[.val (.long x0), .second, .val (.int x2), .val (.long x3), .second, .val (.int w1), .val (.ref b3)] []) := fun t k => pre31 t (st32 _ k)
  have pre34 : Go p.tables e below (s₁.setTop (entryFrame m #[(.long x0), (.int x2), (.long x3)] maxLocals)) T32 (mkF m 111 #[.val (.long x0), .second, .val (.int x2), .val (.long x3), .second, .val (.int w1), .val (.ref b3)] [(.int ((((x3.toUInt64 >>> ((21 : Int32) &&& 0x3f).toInt64.toUInt64).toInt64).toInt32).toInt8.toInt32)), (.int (9 : Int32)), (.ref b3)]) := fun t k => pre32 t (by
      refine XS.aload X32.here hx rfl (hb hby at_101) rfl rfl ?_
      show Steps p.tables e below (T32.setTop (mkF m 103 #[.val (.long x0), .second, .val (.int x2), .val (.long x3), .second, .val (.int w1), .val (.ref b3)] [(.ref b3)])) _
      refine XS.bipush X32.here hx rfl (hb hby at_103) ?_
      show Steps p.tables e below (T32.setTop (mkF m 105 #[.val (.long x0), .second, .val (.int x2), .val (.long x3), .second, .val (.int w1), .val (.ref b3)] [(.int (9 : Int32)), (.ref b3)])) _
      refine XS.lloadN X32.here hx rfl (hb hby at_105) rfl ?_
      show Steps p.tables e below (T32.setTop (mkF m 106 #[.val (.long x0), .second, .val (.int x2), .val (.long x3), .second, .val (.int w1), .val (.ref b3)] [(.long x3), (.int (9 : Int32)), (.ref b3)])) _
      refine XS.bipush X32.here hx rfl (hb hby at_106) ?_
      show Steps p.tables e below (T32.setTop (mkF m 108 #[.val (.long x0), .second, .val (.int x2), .val (.long x3), .second, .val (.int w1), .val (.ref b3)] [(.int (21 : Int32)), (.long x3), (.int (9 : Int32)), (.ref b3)])) _
      refine XS.lushr X32.here hx rfl (hb hby at_108) rfl ?_
      show Steps p.tables e below (T32.setTop (mkF m 109 #[.val (.long x0), .second, .val (.int x2), .val (.long x3), .second, .val (.int w1), .val (.ref b3)] [(.long ((x3.toUInt64 >>> ((21 : Int32) &&& 0x3f).toInt64.toUInt64).toInt64)), (.int (9 : Int32)), (.ref b3)])) _
      refine XS.l2i X32.here hx rfl (hb hby at_109) rfl ?_
      show Steps p.tables e below (T32.setTop (mkF m 110 #[.val (.long x0), .second, .val (.int x2), .val (.long x3), .second, .val (.int w1), .val (.ref b3)] [(.int (((x3.toUInt64 >>> ((21 : Int32) &&& 0x3f).toInt64.toUInt64).toInt64).toInt32)), (.int (9 : Int32)), (.ref b3)])) _
      refine XS.i2b X32.here hx rfl (hb hby at_110) rfl ?_
      exact k)
  obtain ⟨c35, Ar35, q35, S35, M35, H35, G35⟩ := fa32
  have hin35 : ¬ ((9 : Int32) < 0 ∨ c35.slots.size ≤ ((9 : Int32)).toNatClampNeg) := inb_of S35 ⟨by decide, by decide⟩
  obtain ⟨T35, h35, X35, e35, W35, st35⟩ := stB X32 hx hZ e32 Ar35 (j := (9 : Int32)) hin35 (g := (mkF m 111 #[.val (.long x0), .second, .val (.int x2), .val (.long x3), .second, .val (.int w1), .val (.ref b3)] [(.int ((((x3.toUInt64 >>> ((21 : Int32) &&& 0x3f).toInt64.toUInt64).toInt64).toInt32).toInt8.toInt32)), (.int (9 : Int32)), (.ref b3)])) rfl rfl (hb hby at_111)
  have fa35 : Arv Z h35 b3 k3 .byte (11 : Int32) [(.int (nar .byte ((x3.toInt32).toInt8.toInt32))), (.int (nar .byte ((((x3.toUInt64 >>> ((8 : Int32) &&& 0x3f).toInt64.toUInt64).toInt64).toInt32).toInt8.toInt32))), (.int (nar .byte ((((x3.toUInt64 >>> ((16 : Int32) &&& 0x3f).toInt64.toUInt64).toInt64).toInt32).toInt8.toInt32))), (.int (nar .byte ((((x3.toUInt64 >>> ((24 : Int32) &&& 0x3f).toInt64.toUInt64).toInt64).toInt32).toInt8.toInt32))), (.int (nar .byte ((((x3.toUInt64 >>> ((32 : Int32) &&& 0x3f).toInt64.toUInt64).toInt64).toInt32).toInt8.toInt32))), (.int (nar .byte ((((x3.toUInt64 >>> ((40 : Int32) &&& 0x3f).toInt64.toUInt64).toInt64).toInt32).toInt8.toInt32))), (.int (nar .byte ((((x3.toUInt64 >>> ((48 : Int32) &&& 0x3f).toInt64.toUInt64).toInt64).toInt32).toInt8.toInt32))), (.int (nar .byte ((((x3.toUInt64 >>> ((56 : Int32) &&& 0x3f).toInt64.toUInt64).toInt64).toInt32).toInt8.toInt32))), (.int (nar .byte ((((x3.toUInt64 >>> ((13 : Int32) &&& 0x3f).toInt64.toUInt64).toInt64).toInt32).toInt8.toInt32))), (.int (nar .byte ((((x3.toUInt64 >>> ((21 : Int32) &&& 0x3f).toInt64.toUInt64).toInt64).toInt32).toInt8.toInt32))), (.int (0 : Int32))] (.int (0 : Int32)) := Arv.set Ar35 q35 S35 M35 H35 G35 (fits_nar_byte _) W35 9 rfl (Nat.le_of_ble_eq_true rfl)
  have N35 := Fr.snoc X35 N32 g4
  have f36 : n0 ≤ h35.size := Nat.le_trans f33 (Keep.of_wr W35).1
  have pre35 : Go p.tables e below (s₁.setTop (entryFrame m #[(.long x0), (.int x2), (.long x3)] maxLocals)) T35 (mkF m 112 #[.val (.long x0), .second, .val (.int x2), .val (.long x3), .second, .val (.int w1), .val (.ref b3)] []) := fun t k => pre34 t (st35 _ k)
  have pre37 : Go p.tables e below (s₁.setTop (entryFrame m #[(.long x0), (.int x2), (.long x3)] maxLocals)) T35 (mkF m 122 #[.val (.long x0), .second, .val (.int x2), .val (.long x3), .second, .val (.int w1), .val (.ref b3)] [(.int ((((x3.toUInt64 >>> ((29 : Int32) &&& 0x3f).toInt64.toUInt64).toInt64).toInt32).toInt8.toInt32)), (.int (10 : Int32)), (.ref b3)]) := fun t k => pre35 t (by
      refine XS.aload X35.here hx rfl (hb hby at_112) rfl rfl ?_
      show Steps p.tables e below (T35.setTop (mkF m 114 #[.val (.long x0), .second, .val (.int x2), .val (.long x3), .second, .val (.int w1), .val (.ref b3)] [(.ref b3)])) _
      refine XS.bipush X35.here hx rfl (hb hby at_114) ?_
      show Steps p.tables e below (T35.setTop (mkF m 116 #[.val (.long x0), .second, .val (.int x2), .val (.long x3), .second, .val (.int w1), .val (.ref b3)] [(.int (10 : Int32)), (.ref b3)])) _
      refine XS.lloadN X35.here hx rfl (hb hby at_116) rfl ?_
      show Steps p.tables e below (T35.setTop (mkF m 117 #[.val (.long x0), .second, .val (.int x2), .val (.long x3), .second, .val (.int w1), .val (.ref b3)] [(.long x3), (.int (10 : Int32)), (.ref b3)])) _
      refine XS.bipush X35.here hx rfl (hb hby at_117) ?_
      show Steps p.tables e below (T35.setTop (mkF m 119 #[.val (.long x0), .second, .val (.int x2), .val (.long x3), .second, .val (.int w1), .val (.ref b3)] [(.int (29 : Int32)), (.long x3), (.int (10 : Int32)), (.ref b3)])) _
      refine XS.lushr X35.here hx rfl (hb hby at_119) rfl ?_
      show Steps p.tables e below (T35.setTop (mkF m 120 #[.val (.long x0), .second, .val (.int x2), .val (.long x3), .second, .val (.int w1), .val (.ref b3)] [(.long ((x3.toUInt64 >>> ((29 : Int32) &&& 0x3f).toInt64.toUInt64).toInt64)), (.int (10 : Int32)), (.ref b3)])) _
      refine XS.l2i X35.here hx rfl (hb hby at_120) rfl ?_
      show Steps p.tables e below (T35.setTop (mkF m 121 #[.val (.long x0), .second, .val (.int x2), .val (.long x3), .second, .val (.int w1), .val (.ref b3)] [(.int (((x3.toUInt64 >>> ((29 : Int32) &&& 0x3f).toInt64.toUInt64).toInt64).toInt32)), (.int (10 : Int32)), (.ref b3)])) _
      refine XS.i2b X35.here hx rfl (hb hby at_121) rfl ?_
      exact k)
  obtain ⟨c38, Ar38, q38, S38, M38, H38, G38⟩ := fa35
  have hin38 : ¬ ((10 : Int32) < 0 ∨ c38.slots.size ≤ ((10 : Int32)).toNatClampNeg) := inb_of S38 ⟨by decide, by decide⟩
  obtain ⟨T38, h38, X38, e38, W38, st38⟩ := stB X35 hx hZ e35 Ar38 (j := (10 : Int32)) hin38 (g := (mkF m 122 #[.val (.long x0), .second, .val (.int x2), .val (.long x3), .second, .val (.int w1), .val (.ref b3)] [(.int ((((x3.toUInt64 >>> ((29 : Int32) &&& 0x3f).toInt64.toUInt64).toInt64).toInt32).toInt8.toInt32)), (.int (10 : Int32)), (.ref b3)])) rfl rfl (hb hby at_122)
  have fa38 : Arv Z h38 b3 k3 .byte (11 : Int32) [(.int (nar .byte ((x3.toInt32).toInt8.toInt32))), (.int (nar .byte ((((x3.toUInt64 >>> ((8 : Int32) &&& 0x3f).toInt64.toUInt64).toInt64).toInt32).toInt8.toInt32))), (.int (nar .byte ((((x3.toUInt64 >>> ((16 : Int32) &&& 0x3f).toInt64.toUInt64).toInt64).toInt32).toInt8.toInt32))), (.int (nar .byte ((((x3.toUInt64 >>> ((24 : Int32) &&& 0x3f).toInt64.toUInt64).toInt64).toInt32).toInt8.toInt32))), (.int (nar .byte ((((x3.toUInt64 >>> ((32 : Int32) &&& 0x3f).toInt64.toUInt64).toInt64).toInt32).toInt8.toInt32))), (.int (nar .byte ((((x3.toUInt64 >>> ((40 : Int32) &&& 0x3f).toInt64.toUInt64).toInt64).toInt32).toInt8.toInt32))), (.int (nar .byte ((((x3.toUInt64 >>> ((48 : Int32) &&& 0x3f).toInt64.toUInt64).toInt64).toInt32).toInt8.toInt32))), (.int (nar .byte ((((x3.toUInt64 >>> ((56 : Int32) &&& 0x3f).toInt64.toUInt64).toInt64).toInt32).toInt8.toInt32))), (.int (nar .byte ((((x3.toUInt64 >>> ((13 : Int32) &&& 0x3f).toInt64.toUInt64).toInt64).toInt32).toInt8.toInt32))), (.int (nar .byte ((((x3.toUInt64 >>> ((21 : Int32) &&& 0x3f).toInt64.toUInt64).toInt64).toInt32).toInt8.toInt32))), (.int (nar .byte ((((x3.toUInt64 >>> ((29 : Int32) &&& 0x3f).toInt64.toUInt64).toInt64).toInt32).toInt8.toInt32)))] (.int (0 : Int32)) := Arv.set Ar38 q38 S38 M38 H38 G38 (fits_nar_byte _) W38 10 rfl (Nat.le_of_ble_eq_true rfl)
  have N38 := Fr.snoc X38 N35 g4
  have f39 : n0 ≤ h38.size := Nat.le_trans f36 (Keep.of_wr W38).1
  have pre38 : Go p.tables e below (s₁.setTop (entryFrame m #[(.long x0), (.int x2), (.long x3)] maxLocals)) T38 (mkF m 123 #[.val (.long x0), .second, .val (.int x2), .val (.long x3), .second, .val (.int w1), .val (.ref b3)] []) := fun t k => pre37 t (st38 _ k)
  have hq0 := own_and3 x2
  rw [← hw1] at hq0
  clear hw1
  rcases (hq0) with rfl | rfl | rfl | rfl
  · -- w1 = (0 : Int32)
    have pre40 : Go p.tables e below (s₁.setTop (entryFrame m #[(.long x0), (.int x2), (.long x3)] maxLocals)) T38 (mkF m 133 #[.val (.long x0), .second, .val (.int x2), .val (.long x3), .second, .val (.int (0 : Int32)), .val (.ref b3)] [(.int ((((x0.toUInt64 >>> ((56 : Int32) &&& 0x3f).toInt64.toUInt64).toInt64).toInt32).toInt8.toInt32)), (.int (0 : Int32)), (.ref b3)]) := fun t k => pre38 t (by
        refine XS.aload X38.here hx rfl (hb hby at_123) rfl rfl ?_
        show Steps p.tables e below (T38.setTop (mkF m 125 #[.val (.long x0), .second, .val (.int x2), .val (.long x3), .second, .val (.int (0 : Int32)), .val (.ref b3)] [(.ref b3)])) _
        refine XS.iload X38.here hx rfl (hb hby at_125) rfl ?_
        show Steps p.tables e below (T38.setTop (mkF m 127 #[.val (.long x0), .second, .val (.int x2), .val (.long x3), .second, .val (.int (0 : Int32)), .val (.ref b3)] [(.int (0 : Int32)), (.ref b3)])) _
        refine XS.lloadN X38.here hx rfl (hb hby at_127) rfl ?_
        show Steps p.tables e below (T38.setTop (mkF m 128 #[.val (.long x0), .second, .val (.int x2), .val (.long x3), .second, .val (.int (0 : Int32)), .val (.ref b3)] [(.long x0), (.int (0 : Int32)), (.ref b3)])) _
        refine XS.bipush X38.here hx rfl (hb hby at_128) ?_
        show Steps p.tables e below (T38.setTop (mkF m 130 #[.val (.long x0), .second, .val (.int x2), .val (.long x3), .second, .val (.int (0 : Int32)), .val (.ref b3)] [(.int (56 : Int32)), (.long x0), (.int (0 : Int32)), (.ref b3)])) _
        refine XS.lushr X38.here hx rfl (hb hby at_130) rfl ?_
        show Steps p.tables e below (T38.setTop (mkF m 131 #[.val (.long x0), .second, .val (.int x2), .val (.long x3), .second, .val (.int (0 : Int32)), .val (.ref b3)] [(.long ((x0.toUInt64 >>> ((56 : Int32) &&& 0x3f).toInt64.toUInt64).toInt64)), (.int (0 : Int32)), (.ref b3)])) _
        refine XS.l2i X38.here hx rfl (hb hby at_131) rfl ?_
        show Steps p.tables e below (T38.setTop (mkF m 132 #[.val (.long x0), .second, .val (.int x2), .val (.long x3), .second, .val (.int (0 : Int32)), .val (.ref b3)] [(.int (((x0.toUInt64 >>> ((56 : Int32) &&& 0x3f).toInt64.toUInt64).toInt64).toInt32)), (.int (0 : Int32)), (.ref b3)])) _
        refine XS.i2b X38.here hx rfl (hb hby at_132) rfl ?_
        exact k)
    obtain ⟨c41, Ar41, q41, S41, M41, H41, G41⟩ := fa38
    have hin41 : ¬ ((0 : Int32) < 0 ∨ c41.slots.size ≤ ((0 : Int32)).toNatClampNeg) := inb_of S41 ⟨by decide, by decide⟩
    obtain ⟨T41, h41, X41, e41, W41, st41⟩ := stB X38 hx hZ e38 Ar41 (j := (0 : Int32)) hin41 (g := (mkF m 133 #[.val (.long x0), .second, .val (.int x2), .val (.long x3), .second, .val (.int (0 : Int32)), .val (.ref b3)] [(.int ((((x0.toUInt64 >>> ((56 : Int32) &&& 0x3f).toInt64.toUInt64).toInt64).toInt32).toInt8.toInt32)), (.int (0 : Int32)), (.ref b3)])) rfl rfl (hb hby at_133)
    have fa41 : Arv Z h41 b3 k3 .byte (11 : Int32) [(.int (nar .byte ((((x0.toUInt64 >>> ((56 : Int32) &&& 0x3f).toInt64.toUInt64).toInt64).toInt32).toInt8.toInt32))), (.int (nar .byte ((((x3.toUInt64 >>> ((8 : Int32) &&& 0x3f).toInt64.toUInt64).toInt64).toInt32).toInt8.toInt32))), (.int (nar .byte ((((x3.toUInt64 >>> ((16 : Int32) &&& 0x3f).toInt64.toUInt64).toInt64).toInt32).toInt8.toInt32))), (.int (nar .byte ((((x3.toUInt64 >>> ((24 : Int32) &&& 0x3f).toInt64.toUInt64).toInt64).toInt32).toInt8.toInt32))), (.int (nar .byte ((((x3.toUInt64 >>> ((32 : Int32) &&& 0x3f).toInt64.toUInt64).toInt64).toInt32).toInt8.toInt32))), (.int (nar .byte ((((x3.toUInt64 >>> ((40 : Int32) &&& 0x3f).toInt64.toUInt64).toInt64).toInt32).toInt8.toInt32))), (.int (nar .byte ((((x3.toUInt64 >>> ((48 : Int32) &&& 0x3f).toInt64.toUInt64).toInt64).toInt32).toInt8.toInt32))), (.int (nar .byte ((((x3.toUInt64 >>> ((56 : Int32) &&& 0x3f).toInt64.toUInt64).toInt64).toInt32).toInt8.toInt32))), (.int (nar .byte ((((x3.toUInt64 >>> ((13 : Int32) &&& 0x3f).toInt64.toUInt64).toInt64).toInt32).toInt8.toInt32))), (.int (nar .byte ((((x3.toUInt64 >>> ((21 : Int32) &&& 0x3f).toInt64.toUInt64).toInt64).toInt32).toInt8.toInt32))), (.int (nar .byte ((((x3.toUInt64 >>> ((29 : Int32) &&& 0x3f).toInt64.toUInt64).toInt64).toInt32).toInt8.toInt32)))] (.int (0 : Int32)) := Arv.set Ar41 q41 S41 M41 H41 G41 (fits_nar_byte _) W41 0 rfl (Nat.le_of_ble_eq_true rfl)
    have N41 := Fr.snoc X41 N38 g4
    have f42 : n0 ≤ h41.size := Nat.le_trans f39 (Keep.of_wr W41).1
    have pre41 : Go p.tables e below (s₁.setTop (entryFrame m #[(.long x0), (.int x2), (.long x3)] maxLocals)) T41 (mkF m 134 #[.val (.long x0), .second, .val (.int x2), .val (.long x3), .second, .val (.int (0 : Int32)), .val (.ref b3)] []) := fun t k => pre40 t (st41 _ k)
    have pre43 : Go p.tables e below (s₁.setTop (entryFrame m #[(.long x0), (.int x2), (.long x3)] maxLocals)) T41 (mkF m 146 #[.val (.long x0), .second, .val (.int x2), .val (.long x3), .second, .val (.int (0 : Int32)), .val (.ref b3)] [(.int ((((x0.toUInt64 >>> ((48 : Int32) &&& 0x3f).toInt64.toUInt64).toInt64).toInt32).toInt8.toInt32)), (.int ((0 : Int32) + (1 : Int32))), (.ref b3)]) := fun t k => pre41 t (by
        refine XS.aload X41.here hx rfl (hb hby at_134) rfl rfl ?_
        show Steps p.tables e below (T41.setTop (mkF m 136 #[.val (.long x0), .second, .val (.int x2), .val (.long x3), .second, .val (.int (0 : Int32)), .val (.ref b3)] [(.ref b3)])) _
        refine XS.iload X41.here hx rfl (hb hby at_136) rfl ?_
        show Steps p.tables e below (T41.setTop (mkF m 138 #[.val (.long x0), .second, .val (.int x2), .val (.long x3), .second, .val (.int (0 : Int32)), .val (.ref b3)] [(.int (0 : Int32)), (.ref b3)])) _
        refine XS.iconst X41.here hx rfl (hb hby at_138) ?_
        show Steps p.tables e below (T41.setTop (mkF m 139 #[.val (.long x0), .second, .val (.int x2), .val (.long x3), .second, .val (.int (0 : Int32)), .val (.ref b3)] [(.int (1 : Int32)), (.int (0 : Int32)), (.ref b3)])) _
        refine XS.iadd X41.here hx rfl (hb hby at_139) rfl ?_
        show Steps p.tables e below (T41.setTop (mkF m 140 #[.val (.long x0), .second, .val (.int x2), .val (.long x3), .second, .val (.int (0 : Int32)), .val (.ref b3)] [(.int ((0 : Int32) + (1 : Int32))), (.ref b3)])) _
        refine XS.lloadN X41.here hx rfl (hb hby at_140) rfl ?_
        show Steps p.tables e below (T41.setTop (mkF m 141 #[.val (.long x0), .second, .val (.int x2), .val (.long x3), .second, .val (.int (0 : Int32)), .val (.ref b3)] [(.long x0), (.int ((0 : Int32) + (1 : Int32))), (.ref b3)])) _
        refine XS.bipush X41.here hx rfl (hb hby at_141) ?_
        show Steps p.tables e below (T41.setTop (mkF m 143 #[.val (.long x0), .second, .val (.int x2), .val (.long x3), .second, .val (.int (0 : Int32)), .val (.ref b3)] [(.int (48 : Int32)), (.long x0), (.int ((0 : Int32) + (1 : Int32))), (.ref b3)])) _
        refine XS.lushr X41.here hx rfl (hb hby at_143) rfl ?_
        show Steps p.tables e below (T41.setTop (mkF m 144 #[.val (.long x0), .second, .val (.int x2), .val (.long x3), .second, .val (.int (0 : Int32)), .val (.ref b3)] [(.long ((x0.toUInt64 >>> ((48 : Int32) &&& 0x3f).toInt64.toUInt64).toInt64)), (.int ((0 : Int32) + (1 : Int32))), (.ref b3)])) _
        refine XS.l2i X41.here hx rfl (hb hby at_144) rfl ?_
        show Steps p.tables e below (T41.setTop (mkF m 145 #[.val (.long x0), .second, .val (.int x2), .val (.long x3), .second, .val (.int (0 : Int32)), .val (.ref b3)] [(.int (((x0.toUInt64 >>> ((48 : Int32) &&& 0x3f).toInt64.toUInt64).toInt64).toInt32)), (.int ((0 : Int32) + (1 : Int32))), (.ref b3)])) _
        refine XS.i2b X41.here hx rfl (hb hby at_145) rfl ?_
        exact k)
    obtain ⟨c44, Ar44, q44, S44, M44, H44, G44⟩ := fa41
    have hin44 : ¬ (((0 : Int32) + (1 : Int32)) < 0 ∨ c44.slots.size ≤ (((0 : Int32) + (1 : Int32))).toNatClampNeg) := inb_of S44 ⟨by decide, by decide⟩
    obtain ⟨T44, h44, X44, e44, W44, st44⟩ := stB X41 hx hZ e41 Ar44 (j := ((0 : Int32) + (1 : Int32))) hin44 (g := (mkF m 146 #[.val (.long x0), .second, .val (.int x2), .val (.long x3), .second, .val (.int (0 : Int32)), .val (.ref b3)] [(.int ((((x0.toUInt64 >>> ((48 : Int32) &&& 0x3f).toInt64.toUInt64).toInt64).toInt32).toInt8.toInt32)), (.int ((0 : Int32) + (1 : Int32))), (.ref b3)])) rfl rfl (hb hby at_146)
    have fa44 : Arv Z h44 b3 k3 .byte (11 : Int32) [(.int (nar .byte ((((x0.toUInt64 >>> ((56 : Int32) &&& 0x3f).toInt64.toUInt64).toInt64).toInt32).toInt8.toInt32))), (.int (nar .byte ((((x0.toUInt64 >>> ((48 : Int32) &&& 0x3f).toInt64.toUInt64).toInt64).toInt32).toInt8.toInt32))), (.int (nar .byte ((((x3.toUInt64 >>> ((16 : Int32) &&& 0x3f).toInt64.toUInt64).toInt64).toInt32).toInt8.toInt32))), (.int (nar .byte ((((x3.toUInt64 >>> ((24 : Int32) &&& 0x3f).toInt64.toUInt64).toInt64).toInt32).toInt8.toInt32))), (.int (nar .byte ((((x3.toUInt64 >>> ((32 : Int32) &&& 0x3f).toInt64.toUInt64).toInt64).toInt32).toInt8.toInt32))), (.int (nar .byte ((((x3.toUInt64 >>> ((40 : Int32) &&& 0x3f).toInt64.toUInt64).toInt64).toInt32).toInt8.toInt32))), (.int (nar .byte ((((x3.toUInt64 >>> ((48 : Int32) &&& 0x3f).toInt64.toUInt64).toInt64).toInt32).toInt8.toInt32))), (.int (nar .byte ((((x3.toUInt64 >>> ((56 : Int32) &&& 0x3f).toInt64.toUInt64).toInt64).toInt32).toInt8.toInt32))), (.int (nar .byte ((((x3.toUInt64 >>> ((13 : Int32) &&& 0x3f).toInt64.toUInt64).toInt64).toInt32).toInt8.toInt32))), (.int (nar .byte ((((x3.toUInt64 >>> ((21 : Int32) &&& 0x3f).toInt64.toUInt64).toInt64).toInt32).toInt8.toInt32))), (.int (nar .byte ((((x3.toUInt64 >>> ((29 : Int32) &&& 0x3f).toInt64.toUInt64).toInt64).toInt32).toInt8.toInt32)))] (.int (0 : Int32)) := Arv.set Ar44 q44 S44 M44 H44 G44 (fits_nar_byte _) W44 1 rfl (Nat.le_of_ble_eq_true rfl)
    have N44 := Fr.snoc X44 N41 g4
    have f45 : n0 ≤ h44.size := Nat.le_trans f42 (Keep.of_wr W44).1
    have pre44 : Go p.tables e below (s₁.setTop (entryFrame m #[(.long x0), (.int x2), (.long x3)] maxLocals)) T44 (mkF m 147 #[.val (.long x0), .second, .val (.int x2), .val (.long x3), .second, .val (.int (0 : Int32)), .val (.ref b3)] []) := fun t k => pre43 t (st44 _ k)
    have pre46 : Go p.tables e below (s₁.setTop (entryFrame m #[(.long x0), (.int x2), (.long x3)] maxLocals)) T44 (mkF m 159 #[.val (.long x0), .second, .val (.int x2), .val (.long x3), .second, .val (.int (0 : Int32)), .val (.ref b3)] [(.int ((((x0.toUInt64 >>> ((40 : Int32) &&& 0x3f).toInt64.toUInt64).toInt64).toInt32).toInt8.toInt32)), (.int ((0 : Int32) + (2 : Int32))), (.ref b3)]) := fun t k => pre44 t (by
        refine XS.aload X44.here hx rfl (hb hby at_147) rfl rfl ?_
        show Steps p.tables e below (T44.setTop (mkF m 149 #[.val (.long x0), .second, .val (.int x2), .val (.long x3), .second, .val (.int (0 : Int32)), .val (.ref b3)] [(.ref b3)])) _
        refine XS.iload X44.here hx rfl (hb hby at_149) rfl ?_
        show Steps p.tables e below (T44.setTop (mkF m 151 #[.val (.long x0), .second, .val (.int x2), .val (.long x3), .second, .val (.int (0 : Int32)), .val (.ref b3)] [(.int (0 : Int32)), (.ref b3)])) _
        refine XS.iconst X44.here hx rfl (hb hby at_151) ?_
        show Steps p.tables e below (T44.setTop (mkF m 152 #[.val (.long x0), .second, .val (.int x2), .val (.long x3), .second, .val (.int (0 : Int32)), .val (.ref b3)] [(.int (2 : Int32)), (.int (0 : Int32)), (.ref b3)])) _
        refine XS.iadd X44.here hx rfl (hb hby at_152) rfl ?_
        show Steps p.tables e below (T44.setTop (mkF m 153 #[.val (.long x0), .second, .val (.int x2), .val (.long x3), .second, .val (.int (0 : Int32)), .val (.ref b3)] [(.int ((0 : Int32) + (2 : Int32))), (.ref b3)])) _
        refine XS.lloadN X44.here hx rfl (hb hby at_153) rfl ?_
        show Steps p.tables e below (T44.setTop (mkF m 154 #[.val (.long x0), .second, .val (.int x2), .val (.long x3), .second, .val (.int (0 : Int32)), .val (.ref b3)] [(.long x0), (.int ((0 : Int32) + (2 : Int32))), (.ref b3)])) _
        refine XS.bipush X44.here hx rfl (hb hby at_154) ?_
        show Steps p.tables e below (T44.setTop (mkF m 156 #[.val (.long x0), .second, .val (.int x2), .val (.long x3), .second, .val (.int (0 : Int32)), .val (.ref b3)] [(.int (40 : Int32)), (.long x0), (.int ((0 : Int32) + (2 : Int32))), (.ref b3)])) _
        refine XS.lushr X44.here hx rfl (hb hby at_156) rfl ?_
        show Steps p.tables e below (T44.setTop (mkF m 157 #[.val (.long x0), .second, .val (.int x2), .val (.long x3), .second, .val (.int (0 : Int32)), .val (.ref b3)] [(.long ((x0.toUInt64 >>> ((40 : Int32) &&& 0x3f).toInt64.toUInt64).toInt64)), (.int ((0 : Int32) + (2 : Int32))), (.ref b3)])) _
        refine XS.l2i X44.here hx rfl (hb hby at_157) rfl ?_
        show Steps p.tables e below (T44.setTop (mkF m 158 #[.val (.long x0), .second, .val (.int x2), .val (.long x3), .second, .val (.int (0 : Int32)), .val (.ref b3)] [(.int (((x0.toUInt64 >>> ((40 : Int32) &&& 0x3f).toInt64.toUInt64).toInt64).toInt32)), (.int ((0 : Int32) + (2 : Int32))), (.ref b3)])) _
        refine XS.i2b X44.here hx rfl (hb hby at_158) rfl ?_
        exact k)
    obtain ⟨c47, Ar47, q47, S47, M47, H47, G47⟩ := fa44
    have hin47 : ¬ (((0 : Int32) + (2 : Int32)) < 0 ∨ c47.slots.size ≤ (((0 : Int32) + (2 : Int32))).toNatClampNeg) := inb_of S47 ⟨by decide, by decide⟩
    obtain ⟨T47, h47, X47, e47, W47, st47⟩ := stB X44 hx hZ e44 Ar47 (j := ((0 : Int32) + (2 : Int32))) hin47 (g := (mkF m 159 #[.val (.long x0), .second, .val (.int x2), .val (.long x3), .second, .val (.int (0 : Int32)), .val (.ref b3)] [(.int ((((x0.toUInt64 >>> ((40 : Int32) &&& 0x3f).toInt64.toUInt64).toInt64).toInt32).toInt8.toInt32)), (.int ((0 : Int32) + (2 : Int32))), (.ref b3)])) rfl rfl (hb hby at_159)
    have fa47 : Arv Z h47 b3 k3 .byte (11 : Int32) [(.int (nar .byte ((((x0.toUInt64 >>> ((56 : Int32) &&& 0x3f).toInt64.toUInt64).toInt64).toInt32).toInt8.toInt32))), (.int (nar .byte ((((x0.toUInt64 >>> ((48 : Int32) &&& 0x3f).toInt64.toUInt64).toInt64).toInt32).toInt8.toInt32))), (.int (nar .byte ((((x0.toUInt64 >>> ((40 : Int32) &&& 0x3f).toInt64.toUInt64).toInt64).toInt32).toInt8.toInt32))), (.int (nar .byte ((((x3.toUInt64 >>> ((24 : Int32) &&& 0x3f).toInt64.toUInt64).toInt64).toInt32).toInt8.toInt32))), (.int (nar .byte ((((x3.toUInt64 >>> ((32 : Int32) &&& 0x3f).toInt64.toUInt64).toInt64).toInt32).toInt8.toInt32))), (.int (nar .byte ((((x3.toUInt64 >>> ((40 : Int32) &&& 0x3f).toInt64.toUInt64).toInt64).toInt32).toInt8.toInt32))), (.int (nar .byte ((((x3.toUInt64 >>> ((48 : Int32) &&& 0x3f).toInt64.toUInt64).toInt64).toInt32).toInt8.toInt32))), (.int (nar .byte ((((x3.toUInt64 >>> ((56 : Int32) &&& 0x3f).toInt64.toUInt64).toInt64).toInt32).toInt8.toInt32))), (.int (nar .byte ((((x3.toUInt64 >>> ((13 : Int32) &&& 0x3f).toInt64.toUInt64).toInt64).toInt32).toInt8.toInt32))), (.int (nar .byte ((((x3.toUInt64 >>> ((21 : Int32) &&& 0x3f).toInt64.toUInt64).toInt64).toInt32).toInt8.toInt32))), (.int (nar .byte ((((x3.toUInt64 >>> ((29 : Int32) &&& 0x3f).toInt64.toUInt64).toInt64).toInt32).toInt8.toInt32)))] (.int (0 : Int32)) := Arv.set Ar47 q47 S47 M47 H47 G47 (fits_nar_byte _) W47 2 rfl (Nat.le_of_ble_eq_true rfl)
    have N47 := Fr.snoc X47 N44 g4
    have f48 : n0 ≤ h47.size := Nat.le_trans f45 (Keep.of_wr W47).1
    have pre47 : Go p.tables e below (s₁.setTop (entryFrame m #[(.long x0), (.int x2), (.long x3)] maxLocals)) T47 (mkF m 160 #[.val (.long x0), .second, .val (.int x2), .val (.long x3), .second, .val (.int (0 : Int32)), .val (.ref b3)] []) := fun t k => pre46 t (st47 _ k)
    have pre49 : Go p.tables e below (s₁.setTop (entryFrame m #[(.long x0), (.int x2), (.long x3)] maxLocals)) T47 (mkF m 172 #[.val (.long x0), .second, .val (.int x2), .val (.long x3), .second, .val (.int (0 : Int32)), .val (.ref b3)] [(.int ((((x0.toUInt64 >>> ((32 : Int32) &&& 0x3f).toInt64.toUInt64).toInt64).toInt32).toInt8.toInt32)), (.int ((0 : Int32) + (3 : Int32))), (.ref b3)]) := fun t k => pre47 t (by
        refine XS.aload X47.here hx rfl (hb hby at_160) rfl rfl ?_
        show Steps p.tables e below (T47.setTop (mkF m 162 #[.val (.long x0), .second, .val (.int x2), .val (.long x3), .second, .val (.int (0 : Int32)), .val (.ref b3)] [(.ref b3)])) _
        refine XS.iload X47.here hx rfl (hb hby at_162) rfl ?_
        show Steps p.tables e below (T47.setTop (mkF m 164 #[.val (.long x0), .second, .val (.int x2), .val (.long x3), .second, .val (.int (0 : Int32)), .val (.ref b3)] [(.int (0 : Int32)), (.ref b3)])) _
        refine XS.iconst X47.here hx rfl (hb hby at_164) ?_
        show Steps p.tables e below (T47.setTop (mkF m 165 #[.val (.long x0), .second, .val (.int x2), .val (.long x3), .second, .val (.int (0 : Int32)), .val (.ref b3)] [(.int (3 : Int32)), (.int (0 : Int32)), (.ref b3)])) _
        refine XS.iadd X47.here hx rfl (hb hby at_165) rfl ?_
        show Steps p.tables e below (T47.setTop (mkF m 166 #[.val (.long x0), .second, .val (.int x2), .val (.long x3), .second, .val (.int (0 : Int32)), .val (.ref b3)] [(.int ((0 : Int32) + (3 : Int32))), (.ref b3)])) _
        refine XS.lloadN X47.here hx rfl (hb hby at_166) rfl ?_
        show Steps p.tables e below (T47.setTop (mkF m 167 #[.val (.long x0), .second, .val (.int x2), .val (.long x3), .second, .val (.int (0 : Int32)), .val (.ref b3)] [(.long x0), (.int ((0 : Int32) + (3 : Int32))), (.ref b3)])) _
        refine XS.bipush X47.here hx rfl (hb hby at_167) ?_
        show Steps p.tables e below (T47.setTop (mkF m 169 #[.val (.long x0), .second, .val (.int x2), .val (.long x3), .second, .val (.int (0 : Int32)), .val (.ref b3)] [(.int (32 : Int32)), (.long x0), (.int ((0 : Int32) + (3 : Int32))), (.ref b3)])) _
        refine XS.lushr X47.here hx rfl (hb hby at_169) rfl ?_
        show Steps p.tables e below (T47.setTop (mkF m 170 #[.val (.long x0), .second, .val (.int x2), .val (.long x3), .second, .val (.int (0 : Int32)), .val (.ref b3)] [(.long ((x0.toUInt64 >>> ((32 : Int32) &&& 0x3f).toInt64.toUInt64).toInt64)), (.int ((0 : Int32) + (3 : Int32))), (.ref b3)])) _
        refine XS.l2i X47.here hx rfl (hb hby at_170) rfl ?_
        show Steps p.tables e below (T47.setTop (mkF m 171 #[.val (.long x0), .second, .val (.int x2), .val (.long x3), .second, .val (.int (0 : Int32)), .val (.ref b3)] [(.int (((x0.toUInt64 >>> ((32 : Int32) &&& 0x3f).toInt64.toUInt64).toInt64).toInt32)), (.int ((0 : Int32) + (3 : Int32))), (.ref b3)])) _
        refine XS.i2b X47.here hx rfl (hb hby at_171) rfl ?_
        exact k)
    obtain ⟨c50, Ar50, q50, S50, M50, H50, G50⟩ := fa47
    have hin50 : ¬ (((0 : Int32) + (3 : Int32)) < 0 ∨ c50.slots.size ≤ (((0 : Int32) + (3 : Int32))).toNatClampNeg) := inb_of S50 ⟨by decide, by decide⟩
    obtain ⟨T50, h50, X50, e50, W50, st50⟩ := stB X47 hx hZ e47 Ar50 (j := ((0 : Int32) + (3 : Int32))) hin50 (g := (mkF m 172 #[.val (.long x0), .second, .val (.int x2), .val (.long x3), .second, .val (.int (0 : Int32)), .val (.ref b3)] [(.int ((((x0.toUInt64 >>> ((32 : Int32) &&& 0x3f).toInt64.toUInt64).toInt64).toInt32).toInt8.toInt32)), (.int ((0 : Int32) + (3 : Int32))), (.ref b3)])) rfl rfl (hb hby at_172)
    have fa50 : Arv Z h50 b3 k3 .byte (11 : Int32) [(.int (nar .byte ((((x0.toUInt64 >>> ((56 : Int32) &&& 0x3f).toInt64.toUInt64).toInt64).toInt32).toInt8.toInt32))), (.int (nar .byte ((((x0.toUInt64 >>> ((48 : Int32) &&& 0x3f).toInt64.toUInt64).toInt64).toInt32).toInt8.toInt32))), (.int (nar .byte ((((x0.toUInt64 >>> ((40 : Int32) &&& 0x3f).toInt64.toUInt64).toInt64).toInt32).toInt8.toInt32))), (.int (nar .byte ((((x0.toUInt64 >>> ((32 : Int32) &&& 0x3f).toInt64.toUInt64).toInt64).toInt32).toInt8.toInt32))), (.int (nar .byte ((((x3.toUInt64 >>> ((32 : Int32) &&& 0x3f).toInt64.toUInt64).toInt64).toInt32).toInt8.toInt32))), (.int (nar .byte ((((x3.toUInt64 >>> ((40 : Int32) &&& 0x3f).toInt64.toUInt64).toInt64).toInt32).toInt8.toInt32))), (.int (nar .byte ((((x3.toUInt64 >>> ((48 : Int32) &&& 0x3f).toInt64.toUInt64).toInt64).toInt32).toInt8.toInt32))), (.int (nar .byte ((((x3.toUInt64 >>> ((56 : Int32) &&& 0x3f).toInt64.toUInt64).toInt64).toInt32).toInt8.toInt32))), (.int (nar .byte ((((x3.toUInt64 >>> ((13 : Int32) &&& 0x3f).toInt64.toUInt64).toInt64).toInt32).toInt8.toInt32))), (.int (nar .byte ((((x3.toUInt64 >>> ((21 : Int32) &&& 0x3f).toInt64.toUInt64).toInt64).toInt32).toInt8.toInt32))), (.int (nar .byte ((((x3.toUInt64 >>> ((29 : Int32) &&& 0x3f).toInt64.toUInt64).toInt64).toInt32).toInt8.toInt32)))] (.int (0 : Int32)) := Arv.set Ar50 q50 S50 M50 H50 G50 (fits_nar_byte _) W50 3 rfl (Nat.le_of_ble_eq_true rfl)
    have N50 := Fr.snoc X50 N47 g4
    have f51 : n0 ≤ h50.size := Nat.le_trans f48 (Keep.of_wr W50).1
    have pre50 : Go p.tables e below (s₁.setTop (entryFrame m #[(.long x0), (.int x2), (.long x3)] maxLocals)) T50 (mkF m 173 #[.val (.long x0), .second, .val (.int x2), .val (.long x3), .second, .val (.int (0 : Int32)), .val (.ref b3)] []) := fun t k => pre49 t (st50 _ k)
    have pre52 : Go p.tables e below (s₁.setTop (entryFrame m #[(.long x0), (.int x2), (.long x3)] maxLocals)) T50 (mkF m 185 #[.val (.long x0), .second, .val (.int x2), .val (.long x3), .second, .val (.int (0 : Int32)), .val (.ref b3)] [(.int ((((x0.toUInt64 >>> ((24 : Int32) &&& 0x3f).toInt64.toUInt64).toInt64).toInt32).toInt8.toInt32)), (.int ((0 : Int32) + (4 : Int32))), (.ref b3)]) := fun t k => pre50 t (by
        refine XS.aload X50.here hx rfl (hb hby at_173) rfl rfl ?_
        show Steps p.tables e below (T50.setTop (mkF m 175 #[.val (.long x0), .second, .val (.int x2), .val (.long x3), .second, .val (.int (0 : Int32)), .val (.ref b3)] [(.ref b3)])) _
        refine XS.iload X50.here hx rfl (hb hby at_175) rfl ?_
        show Steps p.tables e below (T50.setTop (mkF m 177 #[.val (.long x0), .second, .val (.int x2), .val (.long x3), .second, .val (.int (0 : Int32)), .val (.ref b3)] [(.int (0 : Int32)), (.ref b3)])) _
        refine XS.iconst X50.here hx rfl (hb hby at_177) ?_
        show Steps p.tables e below (T50.setTop (mkF m 178 #[.val (.long x0), .second, .val (.int x2), .val (.long x3), .second, .val (.int (0 : Int32)), .val (.ref b3)] [(.int (4 : Int32)), (.int (0 : Int32)), (.ref b3)])) _
        refine XS.iadd X50.here hx rfl (hb hby at_178) rfl ?_
        show Steps p.tables e below (T50.setTop (mkF m 179 #[.val (.long x0), .second, .val (.int x2), .val (.long x3), .second, .val (.int (0 : Int32)), .val (.ref b3)] [(.int ((0 : Int32) + (4 : Int32))), (.ref b3)])) _
        refine XS.lloadN X50.here hx rfl (hb hby at_179) rfl ?_
        show Steps p.tables e below (T50.setTop (mkF m 180 #[.val (.long x0), .second, .val (.int x2), .val (.long x3), .second, .val (.int (0 : Int32)), .val (.ref b3)] [(.long x0), (.int ((0 : Int32) + (4 : Int32))), (.ref b3)])) _
        refine XS.bipush X50.here hx rfl (hb hby at_180) ?_
        show Steps p.tables e below (T50.setTop (mkF m 182 #[.val (.long x0), .second, .val (.int x2), .val (.long x3), .second, .val (.int (0 : Int32)), .val (.ref b3)] [(.int (24 : Int32)), (.long x0), (.int ((0 : Int32) + (4 : Int32))), (.ref b3)])) _
        refine XS.lushr X50.here hx rfl (hb hby at_182) rfl ?_
        show Steps p.tables e below (T50.setTop (mkF m 183 #[.val (.long x0), .second, .val (.int x2), .val (.long x3), .second, .val (.int (0 : Int32)), .val (.ref b3)] [(.long ((x0.toUInt64 >>> ((24 : Int32) &&& 0x3f).toInt64.toUInt64).toInt64)), (.int ((0 : Int32) + (4 : Int32))), (.ref b3)])) _
        refine XS.l2i X50.here hx rfl (hb hby at_183) rfl ?_
        show Steps p.tables e below (T50.setTop (mkF m 184 #[.val (.long x0), .second, .val (.int x2), .val (.long x3), .second, .val (.int (0 : Int32)), .val (.ref b3)] [(.int (((x0.toUInt64 >>> ((24 : Int32) &&& 0x3f).toInt64.toUInt64).toInt64).toInt32)), (.int ((0 : Int32) + (4 : Int32))), (.ref b3)])) _
        refine XS.i2b X50.here hx rfl (hb hby at_184) rfl ?_
        exact k)
    obtain ⟨c53, Ar53, q53, S53, M53, H53, G53⟩ := fa50
    have hin53 : ¬ (((0 : Int32) + (4 : Int32)) < 0 ∨ c53.slots.size ≤ (((0 : Int32) + (4 : Int32))).toNatClampNeg) := inb_of S53 ⟨by decide, by decide⟩
    obtain ⟨T53, h53, X53, e53, W53, st53⟩ := stB X50 hx hZ e50 Ar53 (j := ((0 : Int32) + (4 : Int32))) hin53 (g := (mkF m 185 #[.val (.long x0), .second, .val (.int x2), .val (.long x3), .second, .val (.int (0 : Int32)), .val (.ref b3)] [(.int ((((x0.toUInt64 >>> ((24 : Int32) &&& 0x3f).toInt64.toUInt64).toInt64).toInt32).toInt8.toInt32)), (.int ((0 : Int32) + (4 : Int32))), (.ref b3)])) rfl rfl (hb hby at_185)
    have fa53 : Arv Z h53 b3 k3 .byte (11 : Int32) [(.int (nar .byte ((((x0.toUInt64 >>> ((56 : Int32) &&& 0x3f).toInt64.toUInt64).toInt64).toInt32).toInt8.toInt32))), (.int (nar .byte ((((x0.toUInt64 >>> ((48 : Int32) &&& 0x3f).toInt64.toUInt64).toInt64).toInt32).toInt8.toInt32))), (.int (nar .byte ((((x0.toUInt64 >>> ((40 : Int32) &&& 0x3f).toInt64.toUInt64).toInt64).toInt32).toInt8.toInt32))), (.int (nar .byte ((((x0.toUInt64 >>> ((32 : Int32) &&& 0x3f).toInt64.toUInt64).toInt64).toInt32).toInt8.toInt32))), (.int (nar .byte ((((x0.toUInt64 >>> ((24 : Int32) &&& 0x3f).toInt64.toUInt64).toInt64).toInt32).toInt8.toInt32))), (.int (nar .byte ((((x3.toUInt64 >>> ((40 : Int32) &&& 0x3f).toInt64.toUInt64).toInt64).toInt32).toInt8.toInt32))), (.int (nar .byte ((((x3.toUInt64 >>> ((48 : Int32) &&& 0x3f).toInt64.toUInt64).toInt64).toInt32).toInt8.toInt32))), (.int (nar .byte ((((x3.toUInt64 >>> ((56 : Int32) &&& 0x3f).toInt64.toUInt64).toInt64).toInt32).toInt8.toInt32))), (.int (nar .byte ((((x3.toUInt64 >>> ((13 : Int32) &&& 0x3f).toInt64.toUInt64).toInt64).toInt32).toInt8.toInt32))), (.int (nar .byte ((((x3.toUInt64 >>> ((21 : Int32) &&& 0x3f).toInt64.toUInt64).toInt64).toInt32).toInt8.toInt32))), (.int (nar .byte ((((x3.toUInt64 >>> ((29 : Int32) &&& 0x3f).toInt64.toUInt64).toInt64).toInt32).toInt8.toInt32)))] (.int (0 : Int32)) := Arv.set Ar53 q53 S53 M53 H53 G53 (fits_nar_byte _) W53 4 rfl (Nat.le_of_ble_eq_true rfl)
    have N53 := Fr.snoc X53 N50 g4
    have f54 : n0 ≤ h53.size := Nat.le_trans f51 (Keep.of_wr W53).1
    have pre53 : Go p.tables e below (s₁.setTop (entryFrame m #[(.long x0), (.int x2), (.long x3)] maxLocals)) T53 (mkF m 186 #[.val (.long x0), .second, .val (.int x2), .val (.long x3), .second, .val (.int (0 : Int32)), .val (.ref b3)] []) := fun t k => pre52 t (st53 _ k)
    have pre55 : Go p.tables e below (s₁.setTop (entryFrame m #[(.long x0), (.int x2), (.long x3)] maxLocals)) T53 (mkF m 198 #[.val (.long x0), .second, .val (.int x2), .val (.long x3), .second, .val (.int (0 : Int32)), .val (.ref b3)] [(.int ((((x0.toUInt64 >>> ((16 : Int32) &&& 0x3f).toInt64.toUInt64).toInt64).toInt32).toInt8.toInt32)), (.int ((0 : Int32) + (5 : Int32))), (.ref b3)]) := fun t k => pre53 t (by
        refine XS.aload X53.here hx rfl (hb hby at_186) rfl rfl ?_
        show Steps p.tables e below (T53.setTop (mkF m 188 #[.val (.long x0), .second, .val (.int x2), .val (.long x3), .second, .val (.int (0 : Int32)), .val (.ref b3)] [(.ref b3)])) _
        refine XS.iload X53.here hx rfl (hb hby at_188) rfl ?_
        show Steps p.tables e below (T53.setTop (mkF m 190 #[.val (.long x0), .second, .val (.int x2), .val (.long x3), .second, .val (.int (0 : Int32)), .val (.ref b3)] [(.int (0 : Int32)), (.ref b3)])) _
        refine XS.iconst X53.here hx rfl (hb hby at_190) ?_
        show Steps p.tables e below (T53.setTop (mkF m 191 #[.val (.long x0), .second, .val (.int x2), .val (.long x3), .second, .val (.int (0 : Int32)), .val (.ref b3)] [(.int (5 : Int32)), (.int (0 : Int32)), (.ref b3)])) _
        refine XS.iadd X53.here hx rfl (hb hby at_191) rfl ?_
        show Steps p.tables e below (T53.setTop (mkF m 192 #[.val (.long x0), .second, .val (.int x2), .val (.long x3), .second, .val (.int (0 : Int32)), .val (.ref b3)] [(.int ((0 : Int32) + (5 : Int32))), (.ref b3)])) _
        refine XS.lloadN X53.here hx rfl (hb hby at_192) rfl ?_
        show Steps p.tables e below (T53.setTop (mkF m 193 #[.val (.long x0), .second, .val (.int x2), .val (.long x3), .second, .val (.int (0 : Int32)), .val (.ref b3)] [(.long x0), (.int ((0 : Int32) + (5 : Int32))), (.ref b3)])) _
        refine XS.bipush X53.here hx rfl (hb hby at_193) ?_
        show Steps p.tables e below (T53.setTop (mkF m 195 #[.val (.long x0), .second, .val (.int x2), .val (.long x3), .second, .val (.int (0 : Int32)), .val (.ref b3)] [(.int (16 : Int32)), (.long x0), (.int ((0 : Int32) + (5 : Int32))), (.ref b3)])) _
        refine XS.lushr X53.here hx rfl (hb hby at_195) rfl ?_
        show Steps p.tables e below (T53.setTop (mkF m 196 #[.val (.long x0), .second, .val (.int x2), .val (.long x3), .second, .val (.int (0 : Int32)), .val (.ref b3)] [(.long ((x0.toUInt64 >>> ((16 : Int32) &&& 0x3f).toInt64.toUInt64).toInt64)), (.int ((0 : Int32) + (5 : Int32))), (.ref b3)])) _
        refine XS.l2i X53.here hx rfl (hb hby at_196) rfl ?_
        show Steps p.tables e below (T53.setTop (mkF m 197 #[.val (.long x0), .second, .val (.int x2), .val (.long x3), .second, .val (.int (0 : Int32)), .val (.ref b3)] [(.int (((x0.toUInt64 >>> ((16 : Int32) &&& 0x3f).toInt64.toUInt64).toInt64).toInt32)), (.int ((0 : Int32) + (5 : Int32))), (.ref b3)])) _
        refine XS.i2b X53.here hx rfl (hb hby at_197) rfl ?_
        exact k)
    obtain ⟨c56, Ar56, q56, S56, M56, H56, G56⟩ := fa53
    have hin56 : ¬ (((0 : Int32) + (5 : Int32)) < 0 ∨ c56.slots.size ≤ (((0 : Int32) + (5 : Int32))).toNatClampNeg) := inb_of S56 ⟨by decide, by decide⟩
    obtain ⟨T56, h56, X56, e56, W56, st56⟩ := stB X53 hx hZ e53 Ar56 (j := ((0 : Int32) + (5 : Int32))) hin56 (g := (mkF m 198 #[.val (.long x0), .second, .val (.int x2), .val (.long x3), .second, .val (.int (0 : Int32)), .val (.ref b3)] [(.int ((((x0.toUInt64 >>> ((16 : Int32) &&& 0x3f).toInt64.toUInt64).toInt64).toInt32).toInt8.toInt32)), (.int ((0 : Int32) + (5 : Int32))), (.ref b3)])) rfl rfl (hb hby at_198)
    have fa56 : Arv Z h56 b3 k3 .byte (11 : Int32) [(.int (nar .byte ((((x0.toUInt64 >>> ((56 : Int32) &&& 0x3f).toInt64.toUInt64).toInt64).toInt32).toInt8.toInt32))), (.int (nar .byte ((((x0.toUInt64 >>> ((48 : Int32) &&& 0x3f).toInt64.toUInt64).toInt64).toInt32).toInt8.toInt32))), (.int (nar .byte ((((x0.toUInt64 >>> ((40 : Int32) &&& 0x3f).toInt64.toUInt64).toInt64).toInt32).toInt8.toInt32))), (.int (nar .byte ((((x0.toUInt64 >>> ((32 : Int32) &&& 0x3f).toInt64.toUInt64).toInt64).toInt32).toInt8.toInt32))), (.int (nar .byte ((((x0.toUInt64 >>> ((24 : Int32) &&& 0x3f).toInt64.toUInt64).toInt64).toInt32).toInt8.toInt32))), (.int (nar .byte ((((x0.toUInt64 >>> ((16 : Int32) &&& 0x3f).toInt64.toUInt64).toInt64).toInt32).toInt8.toInt32))), (.int (nar .byte ((((x3.toUInt64 >>> ((48 : Int32) &&& 0x3f).toInt64.toUInt64).toInt64).toInt32).toInt8.toInt32))), (.int (nar .byte ((((x3.toUInt64 >>> ((56 : Int32) &&& 0x3f).toInt64.toUInt64).toInt64).toInt32).toInt8.toInt32))), (.int (nar .byte ((((x3.toUInt64 >>> ((13 : Int32) &&& 0x3f).toInt64.toUInt64).toInt64).toInt32).toInt8.toInt32))), (.int (nar .byte ((((x3.toUInt64 >>> ((21 : Int32) &&& 0x3f).toInt64.toUInt64).toInt64).toInt32).toInt8.toInt32))), (.int (nar .byte ((((x3.toUInt64 >>> ((29 : Int32) &&& 0x3f).toInt64.toUInt64).toInt64).toInt32).toInt8.toInt32)))] (.int (0 : Int32)) := Arv.set Ar56 q56 S56 M56 H56 G56 (fits_nar_byte _) W56 5 rfl (Nat.le_of_ble_eq_true rfl)
    have N56 := Fr.snoc X56 N53 g4
    have f57 : n0 ≤ h56.size := Nat.le_trans f54 (Keep.of_wr W56).1
    have pre56 : Go p.tables e below (s₁.setTop (entryFrame m #[(.long x0), (.int x2), (.long x3)] maxLocals)) T56 (mkF m 199 #[.val (.long x0), .second, .val (.int x2), .val (.long x3), .second, .val (.int (0 : Int32)), .val (.ref b3)] []) := fun t k => pre55 t (st56 _ k)
    have pre58 : Go p.tables e below (s₁.setTop (entryFrame m #[(.long x0), (.int x2), (.long x3)] maxLocals)) T56 (mkF m 212 #[.val (.long x0), .second, .val (.int x2), .val (.long x3), .second, .val (.int (0 : Int32)), .val (.ref b3)] [(.int ((((x0.toUInt64 >>> ((8 : Int32) &&& 0x3f).toInt64.toUInt64).toInt64).toInt32).toInt8.toInt32)), (.int ((0 : Int32) + (6 : Int32))), (.ref b3)]) := fun t k => pre56 t (by
        refine XS.aload X56.here hx rfl (hb hby at_199) rfl rfl ?_
        show Steps p.tables e below (T56.setTop (mkF m 201 #[.val (.long x0), .second, .val (.int x2), .val (.long x3), .second, .val (.int (0 : Int32)), .val (.ref b3)] [(.ref b3)])) _
        refine XS.iload X56.here hx rfl (hb hby at_201) rfl ?_
        show Steps p.tables e below (T56.setTop (mkF m 203 #[.val (.long x0), .second, .val (.int x2), .val (.long x3), .second, .val (.int (0 : Int32)), .val (.ref b3)] [(.int (0 : Int32)), (.ref b3)])) _
        refine XS.bipush X56.here hx rfl (hb hby at_203) ?_
        show Steps p.tables e below (T56.setTop (mkF m 205 #[.val (.long x0), .second, .val (.int x2), .val (.long x3), .second, .val (.int (0 : Int32)), .val (.ref b3)] [(.int (6 : Int32)), (.int (0 : Int32)), (.ref b3)])) _
        refine XS.iadd X56.here hx rfl (hb hby at_205) rfl ?_
        show Steps p.tables e below (T56.setTop (mkF m 206 #[.val (.long x0), .second, .val (.int x2), .val (.long x3), .second, .val (.int (0 : Int32)), .val (.ref b3)] [(.int ((0 : Int32) + (6 : Int32))), (.ref b3)])) _
        refine XS.lloadN X56.here hx rfl (hb hby at_206) rfl ?_
        show Steps p.tables e below (T56.setTop (mkF m 207 #[.val (.long x0), .second, .val (.int x2), .val (.long x3), .second, .val (.int (0 : Int32)), .val (.ref b3)] [(.long x0), (.int ((0 : Int32) + (6 : Int32))), (.ref b3)])) _
        refine XS.bipush X56.here hx rfl (hb hby at_207) ?_
        show Steps p.tables e below (T56.setTop (mkF m 209 #[.val (.long x0), .second, .val (.int x2), .val (.long x3), .second, .val (.int (0 : Int32)), .val (.ref b3)] [(.int (8 : Int32)), (.long x0), (.int ((0 : Int32) + (6 : Int32))), (.ref b3)])) _
        refine XS.lushr X56.here hx rfl (hb hby at_209) rfl ?_
        show Steps p.tables e below (T56.setTop (mkF m 210 #[.val (.long x0), .second, .val (.int x2), .val (.long x3), .second, .val (.int (0 : Int32)), .val (.ref b3)] [(.long ((x0.toUInt64 >>> ((8 : Int32) &&& 0x3f).toInt64.toUInt64).toInt64)), (.int ((0 : Int32) + (6 : Int32))), (.ref b3)])) _
        refine XS.l2i X56.here hx rfl (hb hby at_210) rfl ?_
        show Steps p.tables e below (T56.setTop (mkF m 211 #[.val (.long x0), .second, .val (.int x2), .val (.long x3), .second, .val (.int (0 : Int32)), .val (.ref b3)] [(.int (((x0.toUInt64 >>> ((8 : Int32) &&& 0x3f).toInt64.toUInt64).toInt64).toInt32)), (.int ((0 : Int32) + (6 : Int32))), (.ref b3)])) _
        refine XS.i2b X56.here hx rfl (hb hby at_211) rfl ?_
        exact k)
    obtain ⟨c59, Ar59, q59, S59, M59, H59, G59⟩ := fa56
    have hin59 : ¬ (((0 : Int32) + (6 : Int32)) < 0 ∨ c59.slots.size ≤ (((0 : Int32) + (6 : Int32))).toNatClampNeg) := inb_of S59 ⟨by decide, by decide⟩
    obtain ⟨T59, h59, X59, e59, W59, st59⟩ := stB X56 hx hZ e56 Ar59 (j := ((0 : Int32) + (6 : Int32))) hin59 (g := (mkF m 212 #[.val (.long x0), .second, .val (.int x2), .val (.long x3), .second, .val (.int (0 : Int32)), .val (.ref b3)] [(.int ((((x0.toUInt64 >>> ((8 : Int32) &&& 0x3f).toInt64.toUInt64).toInt64).toInt32).toInt8.toInt32)), (.int ((0 : Int32) + (6 : Int32))), (.ref b3)])) rfl rfl (hb hby at_212)
    have fa59 : Arv Z h59 b3 k3 .byte (11 : Int32) [(.int (nar .byte ((((x0.toUInt64 >>> ((56 : Int32) &&& 0x3f).toInt64.toUInt64).toInt64).toInt32).toInt8.toInt32))), (.int (nar .byte ((((x0.toUInt64 >>> ((48 : Int32) &&& 0x3f).toInt64.toUInt64).toInt64).toInt32).toInt8.toInt32))), (.int (nar .byte ((((x0.toUInt64 >>> ((40 : Int32) &&& 0x3f).toInt64.toUInt64).toInt64).toInt32).toInt8.toInt32))), (.int (nar .byte ((((x0.toUInt64 >>> ((32 : Int32) &&& 0x3f).toInt64.toUInt64).toInt64).toInt32).toInt8.toInt32))), (.int (nar .byte ((((x0.toUInt64 >>> ((24 : Int32) &&& 0x3f).toInt64.toUInt64).toInt64).toInt32).toInt8.toInt32))), (.int (nar .byte ((((x0.toUInt64 >>> ((16 : Int32) &&& 0x3f).toInt64.toUInt64).toInt64).toInt32).toInt8.toInt32))), (.int (nar .byte ((((x0.toUInt64 >>> ((8 : Int32) &&& 0x3f).toInt64.toUInt64).toInt64).toInt32).toInt8.toInt32))), (.int (nar .byte ((((x3.toUInt64 >>> ((56 : Int32) &&& 0x3f).toInt64.toUInt64).toInt64).toInt32).toInt8.toInt32))), (.int (nar .byte ((((x3.toUInt64 >>> ((13 : Int32) &&& 0x3f).toInt64.toUInt64).toInt64).toInt32).toInt8.toInt32))), (.int (nar .byte ((((x3.toUInt64 >>> ((21 : Int32) &&& 0x3f).toInt64.toUInt64).toInt64).toInt32).toInt8.toInt32))), (.int (nar .byte ((((x3.toUInt64 >>> ((29 : Int32) &&& 0x3f).toInt64.toUInt64).toInt64).toInt32).toInt8.toInt32)))] (.int (0 : Int32)) := Arv.set Ar59 q59 S59 M59 H59 G59 (fits_nar_byte _) W59 6 rfl (Nat.le_of_ble_eq_true rfl)
    have N59 := Fr.snoc X59 N56 g4
    have f60 : n0 ≤ h59.size := Nat.le_trans f57 (Keep.of_wr W59).1
    have pre59 : Go p.tables e below (s₁.setTop (entryFrame m #[(.long x0), (.int x2), (.long x3)] maxLocals)) T59 (mkF m 213 #[.val (.long x0), .second, .val (.int x2), .val (.long x3), .second, .val (.int (0 : Int32)), .val (.ref b3)] []) := fun t k => pre58 t (st59 _ k)
    have pre61 : Go p.tables e below (s₁.setTop (entryFrame m #[(.long x0), (.int x2), (.long x3)] maxLocals)) T59 (mkF m 223 #[.val (.long x0), .second, .val (.int x2), .val (.long x3), .second, .val (.int (0 : Int32)), .val (.ref b3)] [(.int ((x0.toInt32).toInt8.toInt32)), (.int ((0 : Int32) + (7 : Int32))), (.ref b3)]) := fun t k => pre59 t (by
        refine XS.aload X59.here hx rfl (hb hby at_213) rfl rfl ?_
        show Steps p.tables e below (T59.setTop (mkF m 215 #[.val (.long x0), .second, .val (.int x2), .val (.long x3), .second, .val (.int (0 : Int32)), .val (.ref b3)] [(.ref b3)])) _
        refine XS.iload X59.here hx rfl (hb hby at_215) rfl ?_
        show Steps p.tables e below (T59.setTop (mkF m 217 #[.val (.long x0), .second, .val (.int x2), .val (.long x3), .second, .val (.int (0 : Int32)), .val (.ref b3)] [(.int (0 : Int32)), (.ref b3)])) _
        refine XS.bipush X59.here hx rfl (hb hby at_217) ?_
        show Steps p.tables e below (T59.setTop (mkF m 219 #[.val (.long x0), .second, .val (.int x2), .val (.long x3), .second, .val (.int (0 : Int32)), .val (.ref b3)] [(.int (7 : Int32)), (.int (0 : Int32)), (.ref b3)])) _
        refine XS.iadd X59.here hx rfl (hb hby at_219) rfl ?_
        show Steps p.tables e below (T59.setTop (mkF m 220 #[.val (.long x0), .second, .val (.int x2), .val (.long x3), .second, .val (.int (0 : Int32)), .val (.ref b3)] [(.int ((0 : Int32) + (7 : Int32))), (.ref b3)])) _
        refine XS.lloadN X59.here hx rfl (hb hby at_220) rfl ?_
        show Steps p.tables e below (T59.setTop (mkF m 221 #[.val (.long x0), .second, .val (.int x2), .val (.long x3), .second, .val (.int (0 : Int32)), .val (.ref b3)] [(.long x0), (.int ((0 : Int32) + (7 : Int32))), (.ref b3)])) _
        refine XS.l2i X59.here hx rfl (hb hby at_221) rfl ?_
        show Steps p.tables e below (T59.setTop (mkF m 222 #[.val (.long x0), .second, .val (.int x2), .val (.long x3), .second, .val (.int (0 : Int32)), .val (.ref b3)] [(.int (x0.toInt32)), (.int ((0 : Int32) + (7 : Int32))), (.ref b3)])) _
        refine XS.i2b X59.here hx rfl (hb hby at_222) rfl ?_
        exact k)
    obtain ⟨c62, Ar62, q62, S62, M62, H62, G62⟩ := fa59
    have hin62 : ¬ (((0 : Int32) + (7 : Int32)) < 0 ∨ c62.slots.size ≤ (((0 : Int32) + (7 : Int32))).toNatClampNeg) := inb_of S62 ⟨by decide, by decide⟩
    obtain ⟨T62, h62, X62, e62, W62, st62⟩ := stB X59 hx hZ e59 Ar62 (j := ((0 : Int32) + (7 : Int32))) hin62 (g := (mkF m 223 #[.val (.long x0), .second, .val (.int x2), .val (.long x3), .second, .val (.int (0 : Int32)), .val (.ref b3)] [(.int ((x0.toInt32).toInt8.toInt32)), (.int ((0 : Int32) + (7 : Int32))), (.ref b3)])) rfl rfl (hb hby at_223)
    have fa62 : Arv Z h62 b3 k3 .byte (11 : Int32) [(.int (nar .byte ((((x0.toUInt64 >>> ((56 : Int32) &&& 0x3f).toInt64.toUInt64).toInt64).toInt32).toInt8.toInt32))), (.int (nar .byte ((((x0.toUInt64 >>> ((48 : Int32) &&& 0x3f).toInt64.toUInt64).toInt64).toInt32).toInt8.toInt32))), (.int (nar .byte ((((x0.toUInt64 >>> ((40 : Int32) &&& 0x3f).toInt64.toUInt64).toInt64).toInt32).toInt8.toInt32))), (.int (nar .byte ((((x0.toUInt64 >>> ((32 : Int32) &&& 0x3f).toInt64.toUInt64).toInt64).toInt32).toInt8.toInt32))), (.int (nar .byte ((((x0.toUInt64 >>> ((24 : Int32) &&& 0x3f).toInt64.toUInt64).toInt64).toInt32).toInt8.toInt32))), (.int (nar .byte ((((x0.toUInt64 >>> ((16 : Int32) &&& 0x3f).toInt64.toUInt64).toInt64).toInt32).toInt8.toInt32))), (.int (nar .byte ((((x0.toUInt64 >>> ((8 : Int32) &&& 0x3f).toInt64.toUInt64).toInt64).toInt32).toInt8.toInt32))), (.int (nar .byte ((x0.toInt32).toInt8.toInt32))), (.int (nar .byte ((((x3.toUInt64 >>> ((13 : Int32) &&& 0x3f).toInt64.toUInt64).toInt64).toInt32).toInt8.toInt32))), (.int (nar .byte ((((x3.toUInt64 >>> ((21 : Int32) &&& 0x3f).toInt64.toUInt64).toInt64).toInt32).toInt8.toInt32))), (.int (nar .byte ((((x3.toUInt64 >>> ((29 : Int32) &&& 0x3f).toInt64.toUInt64).toInt64).toInt32).toInt8.toInt32)))] (.int (0 : Int32)) := Arv.set Ar62 q62 S62 M62 H62 G62 (fits_nar_byte _) W62 7 rfl (Nat.le_of_ble_eq_true rfl)
    have N62 := Fr.snoc X62 N59 g4
    have f63 : n0 ≤ h62.size := Nat.le_trans f60 (Keep.of_wr W62).1
    have pre62 : Go p.tables e below (s₁.setTop (entryFrame m #[(.long x0), (.int x2), (.long x3)] maxLocals)) T62 (mkF m 224 #[.val (.long x0), .second, .val (.int x2), .val (.long x3), .second, .val (.int (0 : Int32)), .val (.ref b3)] []) := fun t k => pre61 t (st62 _ k)
    have pre64 : Go p.tables e below (s₁.setTop (entryFrame m #[(.long x0), (.int x2), (.long x3)] maxLocals)) T62 (mkF m 228 #[.val (.long x0), .second, .val (.int x2), .val (.long x3), .second, .val (.int (0 : Int32)), .val (.ref b3)] [(.int (0 : Int32)), (.ref b3)]) := fun t k => pre62 t (by
        refine XS.aload X62.here hx rfl (hb hby at_224) rfl rfl ?_
        show Steps p.tables e below (T62.setTop (mkF m 226 #[.val (.long x0), .second, .val (.int x2), .val (.long x3), .second, .val (.int (0 : Int32)), .val (.ref b3)] [(.ref b3)])) _
        refine XS.iload X62.here hx rfl (hb hby at_226) rfl ?_
        exact k)
    obtain ⟨c66, Ar66, q66, S66, M66, H66, G66⟩ := fa62
    have hi66_0 : ¬ ((0 : Int32) < 0 ∨ c66.slots.size ≤ ((0 : Int32)).toNatClampNeg) := inb_of S66 ⟨by decide, by decide⟩
    have hi66_1 : ¬ (((0 : Int32) + (1 : Int32)) < 0 ∨ c66.slots.size ≤ (((0 : Int32) + (1 : Int32))).toNatClampNeg) := inb_of S66 ⟨by decide, by decide⟩
    have hi66_2 : ¬ (((0 : Int32) + (2 : Int32)) < 0 ∨ c66.slots.size ≤ (((0 : Int32) + (2 : Int32))).toNatClampNeg) := inb_of S66 ⟨by decide, by decide⟩
    have hi66_3 : ¬ (((0 : Int32) + (3 : Int32)) < 0 ∨ c66.slots.size ≤ (((0 : Int32) + (3 : Int32))).toNatClampNeg) := inb_of S66 ⟨by decide, by decide⟩
    have hi66_4 : ¬ (((0 : Int32) + (4 : Int32)) < 0 ∨ c66.slots.size ≤ (((0 : Int32) + (4 : Int32))).toNatClampNeg) := inb_of S66 ⟨by decide, by decide⟩
    have hi66_5 : ¬ (((0 : Int32) + (5 : Int32)) < 0 ∨ c66.slots.size ≤ (((0 : Int32) + (5 : Int32))).toNatClampNeg) := inb_of S66 ⟨by decide, by decide⟩
    have hi66_6 : ¬ (((0 : Int32) + (6 : Int32)) < 0 ∨ c66.slots.size ≤ (((0 : Int32) + (6 : Int32))).toNatClampNeg) := inb_of S66 ⟨by decide, by decide⟩
    have hi66_7 : ¬ (((0 : Int32) + (7 : Int32)) < 0 ∨ c66.slots.size ≤ (((0 : Int32) + (7 : Int32))).toNatClampNeg) := inb_of S66 ⟨by decide, by decide⟩
    obtain ⟨_, _, ⟨T65, L65, k65, n65⟩, -, X65, ⟨Lc65, hQ65, l65, y65, z65⟩, st65⟩ := Jvm.LawKit.callS X62 hx (y := (⟨"com/example/fence/fence/util/BigEndian", "longAt", "([BI)J"⟩ : MethodName)) hown (mvT hZ (hw _ (List.mem_of_getElem? (i := 1) rfl))) (mvT hZ (hw _ (List.mem_of_getElem? (i := 2) rfl))) (mvT hZ (hw _ (List.mem_of_getElem? (i := 3) rfl))) (mvT hZ (hw _ (List.mem_of_getElem? (i := 4) rfl))) (by decide) (backOf (W := 0) (rm_la l Z a0 hw [] b3 (0 : Int32) c66 (nar .byte ((((x0.toUInt64 >>> ((56 : Int32) &&& 0x3f).toInt64.toUInt64).toInt64).toInt32).toInt8.toInt32)) (nar .byte ((((x0.toUInt64 >>> ((48 : Int32) &&& 0x3f).toInt64.toUInt64).toInt64).toInt32).toInt8.toInt32)) (nar .byte ((((x0.toUInt64 >>> ((40 : Int32) &&& 0x3f).toInt64.toUInt64).toInt64).toInt32).toInt8.toInt32)) (nar .byte ((((x0.toUInt64 >>> ((32 : Int32) &&& 0x3f).toInt64.toUInt64).toInt64).toInt32).toInt8.toInt32)) (nar .byte ((((x0.toUInt64 >>> ((24 : Int32) &&& 0x3f).toInt64.toUInt64).toInt64).toInt32).toInt8.toInt32)) (nar .byte ((((x0.toUInt64 >>> ((16 : Int32) &&& 0x3f).toInt64.toUInt64).toInt64).toInt32).toInt8.toInt32)) (nar .byte ((((x0.toUInt64 >>> ((8 : Int32) &&& 0x3f).toInt64.toUInt64).toInt64).toInt32).toInt8.toInt32)) (nar .byte ((x0.toInt32).toInt8.toInt32)) h62 n0 Ar66 hi66_0 hi66_1 hi66_2 hi66_3 hi66_4 hi66_5 hi66_6 hi66_7 (H66.at hi66_0 rfl) (H66.at hi66_1 rfl) (H66.at hi66_2 rfl) (H66.at hi66_3 rfl) (H66.at hi66_4 rfl) (H66.at hi66_5 rfl) (H66.at hi66_6 rfl) (H66.at hi66_7 rfl)) hZ (hw _ (List.mem_of_getElem? (i := 4) rfl)) (hw _ (List.mem_of_getElem? (i := 3) rfl)) (by decide) (by decide)) (g := (mkF m 228 #[.val (.long x0), .second, .val (.int x2), .val (.long x3), .second, .val (.int (0 : Int32)), .val (.ref b3)] [(.int (0 : Int32)), (.ref b3)])) rfl (by rw [hml]; rfl) (argsL := [(.ref b3), (.int (0 : Int32))]) (rest := []) (lenOf pd_0 rfl) rfl (by show 2 * 0 + _ ≤ _; exact Nat.le_of_eq rfl) (hb hby at_228) (fun _ _ => ⟨rfl, e62, (by decide : 1 + 0 ≤ _), (by decide : 11 + 0 ≤ _)⟩)
    dsimp only [Pt.U, Pt.locs, Pt.cells, Pt.slots] at X65 l65 y65 z65 st65 hQ65
    subst l65 y65 z65
    obtain ⟨rfl, N65q, e65⟩ := hQ65
    have N65 := Fr.app N62 N65q
    have pre65 : Go p.tables e below (s₁.setTop (entryFrame m #[(.long x0), (.int x2), (.long x3)] maxLocals)) T65 (mkF m 231 #[.val (.long x0), .second, .val (.int x2), .val (.long x3), .second, .val (.int (0 : Int32)), .val (.ref b3)] [(.long (own_long (nar .byte ((((x0.toUInt64 >>> ((56 : Int32) &&& 0x3f).toInt64.toUInt64).toInt64).toInt32).toInt8.toInt32)) (nar .byte ((((x0.toUInt64 >>> ((48 : Int32) &&& 0x3f).toInt64.toUInt64).toInt64).toInt32).toInt8.toInt32)) (nar .byte ((((x0.toUInt64 >>> ((40 : Int32) &&& 0x3f).toInt64.toUInt64).toInt64).toInt32).toInt8.toInt32)) (nar .byte ((((x0.toUInt64 >>> ((32 : Int32) &&& 0x3f).toInt64.toUInt64).toInt64).toInt32).toInt8.toInt32)) (nar .byte ((((x0.toUInt64 >>> ((24 : Int32) &&& 0x3f).toInt64.toUInt64).toInt64).toInt32).toInt8.toInt32)) (nar .byte ((((x0.toUInt64 >>> ((16 : Int32) &&& 0x3f).toInt64.toUInt64).toInt64).toInt32).toInt8.toInt32)) (nar .byte ((((x0.toUInt64 >>> ((8 : Int32) &&& 0x3f).toInt64.toUInt64).toInt64).toInt32).toInt8.toInt32)) (nar .byte ((x0.toInt32).toInt8.toInt32))))]) := fun t k => pre64 t (st65 _ k)
    have pre67 : Go p.tables e below (s₁.setTop (entryFrame m #[(.long x0), (.int x2), (.long x3)] maxLocals)) T65 (mkF m 233 #[.val (.long x0), .second, .val (.int x2), .val (.long x3), .second, .val (.int (0 : Int32)), .val (.ref b3)] [(.int (lcmpW (own_long (nar .byte ((((x0.toUInt64 >>> ((56 : Int32) &&& 0x3f).toInt64.toUInt64).toInt64).toInt32).toInt8.toInt32)) (nar .byte ((((x0.toUInt64 >>> ((48 : Int32) &&& 0x3f).toInt64.toUInt64).toInt64).toInt32).toInt8.toInt32)) (nar .byte ((((x0.toUInt64 >>> ((40 : Int32) &&& 0x3f).toInt64.toUInt64).toInt64).toInt32).toInt8.toInt32)) (nar .byte ((((x0.toUInt64 >>> ((32 : Int32) &&& 0x3f).toInt64.toUInt64).toInt64).toInt32).toInt8.toInt32)) (nar .byte ((((x0.toUInt64 >>> ((24 : Int32) &&& 0x3f).toInt64.toUInt64).toInt64).toInt32).toInt8.toInt32)) (nar .byte ((((x0.toUInt64 >>> ((16 : Int32) &&& 0x3f).toInt64.toUInt64).toInt64).toInt32).toInt8.toInt32)) (nar .byte ((((x0.toUInt64 >>> ((8 : Int32) &&& 0x3f).toInt64.toUInt64).toInt64).toInt32).toInt8.toInt32)) (nar .byte ((x0.toInt32).toInt8.toInt32))) x0))]) := fun t k => pre65 t (by
        refine XS.lloadN X65.here hx rfl (hb hby at_231) rfl ?_
        show Steps p.tables e below (T65.setTop (mkF m 232 #[.val (.long x0), .second, .val (.int x2), .val (.long x3), .second, .val (.int (0 : Int32)), .val (.ref b3)] [(.long x0), (.long (own_long (nar .byte ((((x0.toUInt64 >>> ((56 : Int32) &&& 0x3f).toInt64.toUInt64).toInt64).toInt32).toInt8.toInt32)) (nar .byte ((((x0.toUInt64 >>> ((48 : Int32) &&& 0x3f).toInt64.toUInt64).toInt64).toInt32).toInt8.toInt32)) (nar .byte ((((x0.toUInt64 >>> ((40 : Int32) &&& 0x3f).toInt64.toUInt64).toInt64).toInt32).toInt8.toInt32)) (nar .byte ((((x0.toUInt64 >>> ((32 : Int32) &&& 0x3f).toInt64.toUInt64).toInt64).toInt32).toInt8.toInt32)) (nar .byte ((((x0.toUInt64 >>> ((24 : Int32) &&& 0x3f).toInt64.toUInt64).toInt64).toInt32).toInt8.toInt32)) (nar .byte ((((x0.toUInt64 >>> ((16 : Int32) &&& 0x3f).toInt64.toUInt64).toInt64).toInt32).toInt8.toInt32)) (nar .byte ((((x0.toUInt64 >>> ((8 : Int32) &&& 0x3f).toInt64.toUInt64).toInt64).toInt32).toInt8.toInt32)) (nar .byte ((x0.toInt32).toInt8.toInt32))))])) _
        refine XS.lcmp X65.here hx rfl (hb hby at_232) rfl ?_
        exact k)
    by_cases hc68 : (own_long (nar .byte ((((x0.toUInt64 >>> ((56 : Int32) &&& 0x3f).toInt64.toUInt64).toInt64).toInt32).toInt8.toInt32)) (nar .byte ((((x0.toUInt64 >>> ((48 : Int32) &&& 0x3f).toInt64.toUInt64).toInt64).toInt32).toInt8.toInt32)) (nar .byte ((((x0.toUInt64 >>> ((40 : Int32) &&& 0x3f).toInt64.toUInt64).toInt64).toInt32).toInt8.toInt32)) (nar .byte ((((x0.toUInt64 >>> ((32 : Int32) &&& 0x3f).toInt64.toUInt64).toInt64).toInt32).toInt8.toInt32)) (nar .byte ((((x0.toUInt64 >>> ((24 : Int32) &&& 0x3f).toInt64.toUInt64).toInt64).toInt32).toInt8.toInt32)) (nar .byte ((((x0.toUInt64 >>> ((16 : Int32) &&& 0x3f).toInt64.toUInt64).toInt64).toInt32).toInt8.toInt32)) (nar .byte ((((x0.toUInt64 >>> ((8 : Int32) &&& 0x3f).toInt64.toUInt64).toInt64).toInt32).toInt8.toInt32)) (nar .byte ((x0.toInt32).toInt8.toInt32))) = x0
    · -- hc68: True
      have pre69 : Go p.tables e below (s₁.setTop (entryFrame m #[(.long x0), (.int x2), (.long x3)] maxLocals)) T65 (mkF m 241 #[.val (.long x0), .second, .val (.int x2), .val (.long x3), .second, .val (.int (0 : Int32)), .val (.ref b3)] [(.int (1 : Int32))]) := fun t k => pre67 t (by
          refine XS.ifNo X65.here hx rfl (hb hby at_233) rfl ((if0 _ _).trans (teq ((lw_eq _ _).mpr hc68)).2) ?_
          show Steps p.tables e below (T65.setTop (mkF m 236 #[.val (.long x0), .second, .val (.int x2), .val (.long x3), .second, .val (.int (0 : Int32)), .val (.ref b3)] [])) _
          refine XS.iconst X65.here hx rfl (hb hby at_236) ?_
          show Steps p.tables e below (T65.setTop (mkF m 237 #[.val (.long x0), .second, .val (.int x2), .val (.long x3), .second, .val (.int (0 : Int32)), .val (.ref b3)] [(.int (1 : Int32))])) _
          refine XS.goto X65.here hx rfl (pc0 := 237) (pc' := 241) rfl (hb hby at_237) (by decide) (by decide) ?_
          exact k)
      obtain ⟨fs, hr, hrun, hended, hW, hsame⟩ := X65.leave (v := some (.int (1 : Int32))) (fun h => by rw [Bd.returns] at h; cases h) (BodyLoose.notSynchronized Bd)
      refine ⟨_, _, pre69 _ ?_, hrun, hended, _, _, rfl, ?_, ⟨_, rfl⟩, hW, hsame.mono (Nat.le_of_ble_eq_true rfl) (Nat.le_of_ble_eq_true rfl)⟩
      · exact retN X65 hx (t := .boolean) Bd.returns (by simp) (hb hby at_241) hr
      · show Q_law Z x0 x2 x3 h0 n0 _ T65.heap _
        rw [e65]
        exact ⟨rfl, N65⟩
    · -- hc68: False
      have pre70 : Go p.tables e below (s₁.setTop (entryFrame m #[(.long x0), (.int x2), (.long x3)] maxLocals)) T65 (mkF m 241 #[.val (.long x0), .second, .val (.int x2), .val (.long x3), .second, .val (.int (0 : Int32)), .val (.ref b3)] [(.int (0 : Int32))]) := fun t k => pre67 t (by
          refine XS.ifYes X65.here hx rfl (pc0 := 233) (pc' := 240) rfl (hb hby at_233) rfl ((if0 _ _).trans (feq (mt (lw_eq _ _).mp hc68)).2) (by decide) (by decide) ?_
          show Steps p.tables e below (T65.setTop (mkF m 240 #[.val (.long x0), .second, .val (.int x2), .val (.long x3), .second, .val (.int (0 : Int32)), .val (.ref b3)] [])) _
          refine XS.iconst X65.here hx rfl (hb hby at_240) ?_
          exact k)
      obtain ⟨fs, hr, hrun, hended, hW, hsame⟩ := X65.leave (v := some (.int (0 : Int32))) (fun h => by rw [Bd.returns] at h; cases h) (BodyLoose.notSynchronized Bd)
      refine ⟨_, _, pre70 _ ?_, hrun, hended, _, _, rfl, ?_, ⟨_, rfl⟩, hW, hsame.mono (Nat.le_of_ble_eq_true rfl) (Nat.le_of_ble_eq_true rfl)⟩
      · exact retN X65 hx (t := .boolean) Bd.returns (by simp) (hb hby at_241) hr
      · show Q_law Z x0 x2 x3 h0 n0 _ T65.heap _
        rw [e65]
        exact absurd (own_long_eq x0) hc68
  · -- w1 = (1 : Int32)
    have pre71 : Go p.tables e below (s₁.setTop (entryFrame m #[(.long x0), (.int x2), (.long x3)] maxLocals)) T38 (mkF m 133 #[.val (.long x0), .second, .val (.int x2), .val (.long x3), .second, .val (.int (1 : Int32)), .val (.ref b3)] [(.int ((((x0.toUInt64 >>> ((56 : Int32) &&& 0x3f).toInt64.toUInt64).toInt64).toInt32).toInt8.toInt32)), (.int (1 : Int32)), (.ref b3)]) := fun t k => pre38 t (by
        refine XS.aload X38.here hx rfl (hb hby at_123) rfl rfl ?_
        show Steps p.tables e below (T38.setTop (mkF m 125 #[.val (.long x0), .second, .val (.int x2), .val (.long x3), .second, .val (.int (1 : Int32)), .val (.ref b3)] [(.ref b3)])) _
        refine XS.iload X38.here hx rfl (hb hby at_125) rfl ?_
        show Steps p.tables e below (T38.setTop (mkF m 127 #[.val (.long x0), .second, .val (.int x2), .val (.long x3), .second, .val (.int (1 : Int32)), .val (.ref b3)] [(.int (1 : Int32)), (.ref b3)])) _
        refine XS.lloadN X38.here hx rfl (hb hby at_127) rfl ?_
        show Steps p.tables e below (T38.setTop (mkF m 128 #[.val (.long x0), .second, .val (.int x2), .val (.long x3), .second, .val (.int (1 : Int32)), .val (.ref b3)] [(.long x0), (.int (1 : Int32)), (.ref b3)])) _
        refine XS.bipush X38.here hx rfl (hb hby at_128) ?_
        show Steps p.tables e below (T38.setTop (mkF m 130 #[.val (.long x0), .second, .val (.int x2), .val (.long x3), .second, .val (.int (1 : Int32)), .val (.ref b3)] [(.int (56 : Int32)), (.long x0), (.int (1 : Int32)), (.ref b3)])) _
        refine XS.lushr X38.here hx rfl (hb hby at_130) rfl ?_
        show Steps p.tables e below (T38.setTop (mkF m 131 #[.val (.long x0), .second, .val (.int x2), .val (.long x3), .second, .val (.int (1 : Int32)), .val (.ref b3)] [(.long ((x0.toUInt64 >>> ((56 : Int32) &&& 0x3f).toInt64.toUInt64).toInt64)), (.int (1 : Int32)), (.ref b3)])) _
        refine XS.l2i X38.here hx rfl (hb hby at_131) rfl ?_
        show Steps p.tables e below (T38.setTop (mkF m 132 #[.val (.long x0), .second, .val (.int x2), .val (.long x3), .second, .val (.int (1 : Int32)), .val (.ref b3)] [(.int (((x0.toUInt64 >>> ((56 : Int32) &&& 0x3f).toInt64.toUInt64).toInt64).toInt32)), (.int (1 : Int32)), (.ref b3)])) _
        refine XS.i2b X38.here hx rfl (hb hby at_132) rfl ?_
        exact k)
    obtain ⟨c72, Ar72, q72, S72, M72, H72, G72⟩ := fa38
    have hin72 : ¬ ((1 : Int32) < 0 ∨ c72.slots.size ≤ ((1 : Int32)).toNatClampNeg) := inb_of S72 ⟨by decide, by decide⟩
    obtain ⟨T72, h72, X72, e72, W72, st72⟩ := stB X38 hx hZ e38 Ar72 (j := (1 : Int32)) hin72 (g := (mkF m 133 #[.val (.long x0), .second, .val (.int x2), .val (.long x3), .second, .val (.int (1 : Int32)), .val (.ref b3)] [(.int ((((x0.toUInt64 >>> ((56 : Int32) &&& 0x3f).toInt64.toUInt64).toInt64).toInt32).toInt8.toInt32)), (.int (1 : Int32)), (.ref b3)])) rfl rfl (hb hby at_133)
    have fa72 : Arv Z h72 b3 k3 .byte (11 : Int32) [(.int (nar .byte ((x3.toInt32).toInt8.toInt32))), (.int (nar .byte ((((x0.toUInt64 >>> ((56 : Int32) &&& 0x3f).toInt64.toUInt64).toInt64).toInt32).toInt8.toInt32))), (.int (nar .byte ((((x3.toUInt64 >>> ((16 : Int32) &&& 0x3f).toInt64.toUInt64).toInt64).toInt32).toInt8.toInt32))), (.int (nar .byte ((((x3.toUInt64 >>> ((24 : Int32) &&& 0x3f).toInt64.toUInt64).toInt64).toInt32).toInt8.toInt32))), (.int (nar .byte ((((x3.toUInt64 >>> ((32 : Int32) &&& 0x3f).toInt64.toUInt64).toInt64).toInt32).toInt8.toInt32))), (.int (nar .byte ((((x3.toUInt64 >>> ((40 : Int32) &&& 0x3f).toInt64.toUInt64).toInt64).toInt32).toInt8.toInt32))), (.int (nar .byte ((((x3.toUInt64 >>> ((48 : Int32) &&& 0x3f).toInt64.toUInt64).toInt64).toInt32).toInt8.toInt32))), (.int (nar .byte ((((x3.toUInt64 >>> ((56 : Int32) &&& 0x3f).toInt64.toUInt64).toInt64).toInt32).toInt8.toInt32))), (.int (nar .byte ((((x3.toUInt64 >>> ((13 : Int32) &&& 0x3f).toInt64.toUInt64).toInt64).toInt32).toInt8.toInt32))), (.int (nar .byte ((((x3.toUInt64 >>> ((21 : Int32) &&& 0x3f).toInt64.toUInt64).toInt64).toInt32).toInt8.toInt32))), (.int (nar .byte ((((x3.toUInt64 >>> ((29 : Int32) &&& 0x3f).toInt64.toUInt64).toInt64).toInt32).toInt8.toInt32)))] (.int (0 : Int32)) := Arv.set Ar72 q72 S72 M72 H72 G72 (fits_nar_byte _) W72 1 rfl (Nat.le_of_ble_eq_true rfl)
    have N72 := Fr.snoc X72 N38 g4
    have f73 : n0 ≤ h72.size := Nat.le_trans f39 (Keep.of_wr W72).1
    have pre72 : Go p.tables e below (s₁.setTop (entryFrame m #[(.long x0), (.int x2), (.long x3)] maxLocals)) T72 (mkF m 134 #[.val (.long x0), .second, .val (.int x2), .val (.long x3), .second, .val (.int (1 : Int32)), .val (.ref b3)] []) := fun t k => pre71 t (st72 _ k)
    have pre74 : Go p.tables e below (s₁.setTop (entryFrame m #[(.long x0), (.int x2), (.long x3)] maxLocals)) T72 (mkF m 146 #[.val (.long x0), .second, .val (.int x2), .val (.long x3), .second, .val (.int (1 : Int32)), .val (.ref b3)] [(.int ((((x0.toUInt64 >>> ((48 : Int32) &&& 0x3f).toInt64.toUInt64).toInt64).toInt32).toInt8.toInt32)), (.int ((1 : Int32) + (1 : Int32))), (.ref b3)]) := fun t k => pre72 t (by
        refine XS.aload X72.here hx rfl (hb hby at_134) rfl rfl ?_
        show Steps p.tables e below (T72.setTop (mkF m 136 #[.val (.long x0), .second, .val (.int x2), .val (.long x3), .second, .val (.int (1 : Int32)), .val (.ref b3)] [(.ref b3)])) _
        refine XS.iload X72.here hx rfl (hb hby at_136) rfl ?_
        show Steps p.tables e below (T72.setTop (mkF m 138 #[.val (.long x0), .second, .val (.int x2), .val (.long x3), .second, .val (.int (1 : Int32)), .val (.ref b3)] [(.int (1 : Int32)), (.ref b3)])) _
        refine XS.iconst X72.here hx rfl (hb hby at_138) ?_
        show Steps p.tables e below (T72.setTop (mkF m 139 #[.val (.long x0), .second, .val (.int x2), .val (.long x3), .second, .val (.int (1 : Int32)), .val (.ref b3)] [(.int (1 : Int32)), (.int (1 : Int32)), (.ref b3)])) _
        refine XS.iadd X72.here hx rfl (hb hby at_139) rfl ?_
        show Steps p.tables e below (T72.setTop (mkF m 140 #[.val (.long x0), .second, .val (.int x2), .val (.long x3), .second, .val (.int (1 : Int32)), .val (.ref b3)] [(.int ((1 : Int32) + (1 : Int32))), (.ref b3)])) _
        refine XS.lloadN X72.here hx rfl (hb hby at_140) rfl ?_
        show Steps p.tables e below (T72.setTop (mkF m 141 #[.val (.long x0), .second, .val (.int x2), .val (.long x3), .second, .val (.int (1 : Int32)), .val (.ref b3)] [(.long x0), (.int ((1 : Int32) + (1 : Int32))), (.ref b3)])) _
        refine XS.bipush X72.here hx rfl (hb hby at_141) ?_
        show Steps p.tables e below (T72.setTop (mkF m 143 #[.val (.long x0), .second, .val (.int x2), .val (.long x3), .second, .val (.int (1 : Int32)), .val (.ref b3)] [(.int (48 : Int32)), (.long x0), (.int ((1 : Int32) + (1 : Int32))), (.ref b3)])) _
        refine XS.lushr X72.here hx rfl (hb hby at_143) rfl ?_
        show Steps p.tables e below (T72.setTop (mkF m 144 #[.val (.long x0), .second, .val (.int x2), .val (.long x3), .second, .val (.int (1 : Int32)), .val (.ref b3)] [(.long ((x0.toUInt64 >>> ((48 : Int32) &&& 0x3f).toInt64.toUInt64).toInt64)), (.int ((1 : Int32) + (1 : Int32))), (.ref b3)])) _
        refine XS.l2i X72.here hx rfl (hb hby at_144) rfl ?_
        show Steps p.tables e below (T72.setTop (mkF m 145 #[.val (.long x0), .second, .val (.int x2), .val (.long x3), .second, .val (.int (1 : Int32)), .val (.ref b3)] [(.int (((x0.toUInt64 >>> ((48 : Int32) &&& 0x3f).toInt64.toUInt64).toInt64).toInt32)), (.int ((1 : Int32) + (1 : Int32))), (.ref b3)])) _
        refine XS.i2b X72.here hx rfl (hb hby at_145) rfl ?_
        exact k)
    obtain ⟨c75, Ar75, q75, S75, M75, H75, G75⟩ := fa72
    have hin75 : ¬ (((1 : Int32) + (1 : Int32)) < 0 ∨ c75.slots.size ≤ (((1 : Int32) + (1 : Int32))).toNatClampNeg) := inb_of S75 ⟨by decide, by decide⟩
    obtain ⟨T75, h75, X75, e75, W75, st75⟩ := stB X72 hx hZ e72 Ar75 (j := ((1 : Int32) + (1 : Int32))) hin75 (g := (mkF m 146 #[.val (.long x0), .second, .val (.int x2), .val (.long x3), .second, .val (.int (1 : Int32)), .val (.ref b3)] [(.int ((((x0.toUInt64 >>> ((48 : Int32) &&& 0x3f).toInt64.toUInt64).toInt64).toInt32).toInt8.toInt32)), (.int ((1 : Int32) + (1 : Int32))), (.ref b3)])) rfl rfl (hb hby at_146)
    have fa75 : Arv Z h75 b3 k3 .byte (11 : Int32) [(.int (nar .byte ((x3.toInt32).toInt8.toInt32))), (.int (nar .byte ((((x0.toUInt64 >>> ((56 : Int32) &&& 0x3f).toInt64.toUInt64).toInt64).toInt32).toInt8.toInt32))), (.int (nar .byte ((((x0.toUInt64 >>> ((48 : Int32) &&& 0x3f).toInt64.toUInt64).toInt64).toInt32).toInt8.toInt32))), (.int (nar .byte ((((x3.toUInt64 >>> ((24 : Int32) &&& 0x3f).toInt64.toUInt64).toInt64).toInt32).toInt8.toInt32))), (.int (nar .byte ((((x3.toUInt64 >>> ((32 : Int32) &&& 0x3f).toInt64.toUInt64).toInt64).toInt32).toInt8.toInt32))), (.int (nar .byte ((((x3.toUInt64 >>> ((40 : Int32) &&& 0x3f).toInt64.toUInt64).toInt64).toInt32).toInt8.toInt32))), (.int (nar .byte ((((x3.toUInt64 >>> ((48 : Int32) &&& 0x3f).toInt64.toUInt64).toInt64).toInt32).toInt8.toInt32))), (.int (nar .byte ((((x3.toUInt64 >>> ((56 : Int32) &&& 0x3f).toInt64.toUInt64).toInt64).toInt32).toInt8.toInt32))), (.int (nar .byte ((((x3.toUInt64 >>> ((13 : Int32) &&& 0x3f).toInt64.toUInt64).toInt64).toInt32).toInt8.toInt32))), (.int (nar .byte ((((x3.toUInt64 >>> ((21 : Int32) &&& 0x3f).toInt64.toUInt64).toInt64).toInt32).toInt8.toInt32))), (.int (nar .byte ((((x3.toUInt64 >>> ((29 : Int32) &&& 0x3f).toInt64.toUInt64).toInt64).toInt32).toInt8.toInt32)))] (.int (0 : Int32)) := Arv.set Ar75 q75 S75 M75 H75 G75 (fits_nar_byte _) W75 2 rfl (Nat.le_of_ble_eq_true rfl)
    have N75 := Fr.snoc X75 N72 g4
    have f76 : n0 ≤ h75.size := Nat.le_trans f73 (Keep.of_wr W75).1
    have pre75 : Go p.tables e below (s₁.setTop (entryFrame m #[(.long x0), (.int x2), (.long x3)] maxLocals)) T75 (mkF m 147 #[.val (.long x0), .second, .val (.int x2), .val (.long x3), .second, .val (.int (1 : Int32)), .val (.ref b3)] []) := fun t k => pre74 t (st75 _ k)
    have pre77 : Go p.tables e below (s₁.setTop (entryFrame m #[(.long x0), (.int x2), (.long x3)] maxLocals)) T75 (mkF m 159 #[.val (.long x0), .second, .val (.int x2), .val (.long x3), .second, .val (.int (1 : Int32)), .val (.ref b3)] [(.int ((((x0.toUInt64 >>> ((40 : Int32) &&& 0x3f).toInt64.toUInt64).toInt64).toInt32).toInt8.toInt32)), (.int ((1 : Int32) + (2 : Int32))), (.ref b3)]) := fun t k => pre75 t (by
        refine XS.aload X75.here hx rfl (hb hby at_147) rfl rfl ?_
        show Steps p.tables e below (T75.setTop (mkF m 149 #[.val (.long x0), .second, .val (.int x2), .val (.long x3), .second, .val (.int (1 : Int32)), .val (.ref b3)] [(.ref b3)])) _
        refine XS.iload X75.here hx rfl (hb hby at_149) rfl ?_
        show Steps p.tables e below (T75.setTop (mkF m 151 #[.val (.long x0), .second, .val (.int x2), .val (.long x3), .second, .val (.int (1 : Int32)), .val (.ref b3)] [(.int (1 : Int32)), (.ref b3)])) _
        refine XS.iconst X75.here hx rfl (hb hby at_151) ?_
        show Steps p.tables e below (T75.setTop (mkF m 152 #[.val (.long x0), .second, .val (.int x2), .val (.long x3), .second, .val (.int (1 : Int32)), .val (.ref b3)] [(.int (2 : Int32)), (.int (1 : Int32)), (.ref b3)])) _
        refine XS.iadd X75.here hx rfl (hb hby at_152) rfl ?_
        show Steps p.tables e below (T75.setTop (mkF m 153 #[.val (.long x0), .second, .val (.int x2), .val (.long x3), .second, .val (.int (1 : Int32)), .val (.ref b3)] [(.int ((1 : Int32) + (2 : Int32))), (.ref b3)])) _
        refine XS.lloadN X75.here hx rfl (hb hby at_153) rfl ?_
        show Steps p.tables e below (T75.setTop (mkF m 154 #[.val (.long x0), .second, .val (.int x2), .val (.long x3), .second, .val (.int (1 : Int32)), .val (.ref b3)] [(.long x0), (.int ((1 : Int32) + (2 : Int32))), (.ref b3)])) _
        refine XS.bipush X75.here hx rfl (hb hby at_154) ?_
        show Steps p.tables e below (T75.setTop (mkF m 156 #[.val (.long x0), .second, .val (.int x2), .val (.long x3), .second, .val (.int (1 : Int32)), .val (.ref b3)] [(.int (40 : Int32)), (.long x0), (.int ((1 : Int32) + (2 : Int32))), (.ref b3)])) _
        refine XS.lushr X75.here hx rfl (hb hby at_156) rfl ?_
        show Steps p.tables e below (T75.setTop (mkF m 157 #[.val (.long x0), .second, .val (.int x2), .val (.long x3), .second, .val (.int (1 : Int32)), .val (.ref b3)] [(.long ((x0.toUInt64 >>> ((40 : Int32) &&& 0x3f).toInt64.toUInt64).toInt64)), (.int ((1 : Int32) + (2 : Int32))), (.ref b3)])) _
        refine XS.l2i X75.here hx rfl (hb hby at_157) rfl ?_
        show Steps p.tables e below (T75.setTop (mkF m 158 #[.val (.long x0), .second, .val (.int x2), .val (.long x3), .second, .val (.int (1 : Int32)), .val (.ref b3)] [(.int (((x0.toUInt64 >>> ((40 : Int32) &&& 0x3f).toInt64.toUInt64).toInt64).toInt32)), (.int ((1 : Int32) + (2 : Int32))), (.ref b3)])) _
        refine XS.i2b X75.here hx rfl (hb hby at_158) rfl ?_
        exact k)
    obtain ⟨c78, Ar78, q78, S78, M78, H78, G78⟩ := fa75
    have hin78 : ¬ (((1 : Int32) + (2 : Int32)) < 0 ∨ c78.slots.size ≤ (((1 : Int32) + (2 : Int32))).toNatClampNeg) := inb_of S78 ⟨by decide, by decide⟩
    obtain ⟨T78, h78, X78, e78, W78, st78⟩ := stB X75 hx hZ e75 Ar78 (j := ((1 : Int32) + (2 : Int32))) hin78 (g := (mkF m 159 #[.val (.long x0), .second, .val (.int x2), .val (.long x3), .second, .val (.int (1 : Int32)), .val (.ref b3)] [(.int ((((x0.toUInt64 >>> ((40 : Int32) &&& 0x3f).toInt64.toUInt64).toInt64).toInt32).toInt8.toInt32)), (.int ((1 : Int32) + (2 : Int32))), (.ref b3)])) rfl rfl (hb hby at_159)
    have fa78 : Arv Z h78 b3 k3 .byte (11 : Int32) [(.int (nar .byte ((x3.toInt32).toInt8.toInt32))), (.int (nar .byte ((((x0.toUInt64 >>> ((56 : Int32) &&& 0x3f).toInt64.toUInt64).toInt64).toInt32).toInt8.toInt32))), (.int (nar .byte ((((x0.toUInt64 >>> ((48 : Int32) &&& 0x3f).toInt64.toUInt64).toInt64).toInt32).toInt8.toInt32))), (.int (nar .byte ((((x0.toUInt64 >>> ((40 : Int32) &&& 0x3f).toInt64.toUInt64).toInt64).toInt32).toInt8.toInt32))), (.int (nar .byte ((((x3.toUInt64 >>> ((32 : Int32) &&& 0x3f).toInt64.toUInt64).toInt64).toInt32).toInt8.toInt32))), (.int (nar .byte ((((x3.toUInt64 >>> ((40 : Int32) &&& 0x3f).toInt64.toUInt64).toInt64).toInt32).toInt8.toInt32))), (.int (nar .byte ((((x3.toUInt64 >>> ((48 : Int32) &&& 0x3f).toInt64.toUInt64).toInt64).toInt32).toInt8.toInt32))), (.int (nar .byte ((((x3.toUInt64 >>> ((56 : Int32) &&& 0x3f).toInt64.toUInt64).toInt64).toInt32).toInt8.toInt32))), (.int (nar .byte ((((x3.toUInt64 >>> ((13 : Int32) &&& 0x3f).toInt64.toUInt64).toInt64).toInt32).toInt8.toInt32))), (.int (nar .byte ((((x3.toUInt64 >>> ((21 : Int32) &&& 0x3f).toInt64.toUInt64).toInt64).toInt32).toInt8.toInt32))), (.int (nar .byte ((((x3.toUInt64 >>> ((29 : Int32) &&& 0x3f).toInt64.toUInt64).toInt64).toInt32).toInt8.toInt32)))] (.int (0 : Int32)) := Arv.set Ar78 q78 S78 M78 H78 G78 (fits_nar_byte _) W78 3 rfl (Nat.le_of_ble_eq_true rfl)
    have N78 := Fr.snoc X78 N75 g4
    have f79 : n0 ≤ h78.size := Nat.le_trans f76 (Keep.of_wr W78).1
    have pre78 : Go p.tables e below (s₁.setTop (entryFrame m #[(.long x0), (.int x2), (.long x3)] maxLocals)) T78 (mkF m 160 #[.val (.long x0), .second, .val (.int x2), .val (.long x3), .second, .val (.int (1 : Int32)), .val (.ref b3)] []) := fun t k => pre77 t (st78 _ k)
    have pre80 : Go p.tables e below (s₁.setTop (entryFrame m #[(.long x0), (.int x2), (.long x3)] maxLocals)) T78 (mkF m 172 #[.val (.long x0), .second, .val (.int x2), .val (.long x3), .second, .val (.int (1 : Int32)), .val (.ref b3)] [(.int ((((x0.toUInt64 >>> ((32 : Int32) &&& 0x3f).toInt64.toUInt64).toInt64).toInt32).toInt8.toInt32)), (.int ((1 : Int32) + (3 : Int32))), (.ref b3)]) := fun t k => pre78 t (by
        refine XS.aload X78.here hx rfl (hb hby at_160) rfl rfl ?_
        show Steps p.tables e below (T78.setTop (mkF m 162 #[.val (.long x0), .second, .val (.int x2), .val (.long x3), .second, .val (.int (1 : Int32)), .val (.ref b3)] [(.ref b3)])) _
        refine XS.iload X78.here hx rfl (hb hby at_162) rfl ?_
        show Steps p.tables e below (T78.setTop (mkF m 164 #[.val (.long x0), .second, .val (.int x2), .val (.long x3), .second, .val (.int (1 : Int32)), .val (.ref b3)] [(.int (1 : Int32)), (.ref b3)])) _
        refine XS.iconst X78.here hx rfl (hb hby at_164) ?_
        show Steps p.tables e below (T78.setTop (mkF m 165 #[.val (.long x0), .second, .val (.int x2), .val (.long x3), .second, .val (.int (1 : Int32)), .val (.ref b3)] [(.int (3 : Int32)), (.int (1 : Int32)), (.ref b3)])) _
        refine XS.iadd X78.here hx rfl (hb hby at_165) rfl ?_
        show Steps p.tables e below (T78.setTop (mkF m 166 #[.val (.long x0), .second, .val (.int x2), .val (.long x3), .second, .val (.int (1 : Int32)), .val (.ref b3)] [(.int ((1 : Int32) + (3 : Int32))), (.ref b3)])) _
        refine XS.lloadN X78.here hx rfl (hb hby at_166) rfl ?_
        show Steps p.tables e below (T78.setTop (mkF m 167 #[.val (.long x0), .second, .val (.int x2), .val (.long x3), .second, .val (.int (1 : Int32)), .val (.ref b3)] [(.long x0), (.int ((1 : Int32) + (3 : Int32))), (.ref b3)])) _
        refine XS.bipush X78.here hx rfl (hb hby at_167) ?_
        show Steps p.tables e below (T78.setTop (mkF m 169 #[.val (.long x0), .second, .val (.int x2), .val (.long x3), .second, .val (.int (1 : Int32)), .val (.ref b3)] [(.int (32 : Int32)), (.long x0), (.int ((1 : Int32) + (3 : Int32))), (.ref b3)])) _
        refine XS.lushr X78.here hx rfl (hb hby at_169) rfl ?_
        show Steps p.tables e below (T78.setTop (mkF m 170 #[.val (.long x0), .second, .val (.int x2), .val (.long x3), .second, .val (.int (1 : Int32)), .val (.ref b3)] [(.long ((x0.toUInt64 >>> ((32 : Int32) &&& 0x3f).toInt64.toUInt64).toInt64)), (.int ((1 : Int32) + (3 : Int32))), (.ref b3)])) _
        refine XS.l2i X78.here hx rfl (hb hby at_170) rfl ?_
        show Steps p.tables e below (T78.setTop (mkF m 171 #[.val (.long x0), .second, .val (.int x2), .val (.long x3), .second, .val (.int (1 : Int32)), .val (.ref b3)] [(.int (((x0.toUInt64 >>> ((32 : Int32) &&& 0x3f).toInt64.toUInt64).toInt64).toInt32)), (.int ((1 : Int32) + (3 : Int32))), (.ref b3)])) _
        refine XS.i2b X78.here hx rfl (hb hby at_171) rfl ?_
        exact k)
    obtain ⟨c81, Ar81, q81, S81, M81, H81, G81⟩ := fa78
    have hin81 : ¬ (((1 : Int32) + (3 : Int32)) < 0 ∨ c81.slots.size ≤ (((1 : Int32) + (3 : Int32))).toNatClampNeg) := inb_of S81 ⟨by decide, by decide⟩
    obtain ⟨T81, h81, X81, e81, W81, st81⟩ := stB X78 hx hZ e78 Ar81 (j := ((1 : Int32) + (3 : Int32))) hin81 (g := (mkF m 172 #[.val (.long x0), .second, .val (.int x2), .val (.long x3), .second, .val (.int (1 : Int32)), .val (.ref b3)] [(.int ((((x0.toUInt64 >>> ((32 : Int32) &&& 0x3f).toInt64.toUInt64).toInt64).toInt32).toInt8.toInt32)), (.int ((1 : Int32) + (3 : Int32))), (.ref b3)])) rfl rfl (hb hby at_172)
    have fa81 : Arv Z h81 b3 k3 .byte (11 : Int32) [(.int (nar .byte ((x3.toInt32).toInt8.toInt32))), (.int (nar .byte ((((x0.toUInt64 >>> ((56 : Int32) &&& 0x3f).toInt64.toUInt64).toInt64).toInt32).toInt8.toInt32))), (.int (nar .byte ((((x0.toUInt64 >>> ((48 : Int32) &&& 0x3f).toInt64.toUInt64).toInt64).toInt32).toInt8.toInt32))), (.int (nar .byte ((((x0.toUInt64 >>> ((40 : Int32) &&& 0x3f).toInt64.toUInt64).toInt64).toInt32).toInt8.toInt32))), (.int (nar .byte ((((x0.toUInt64 >>> ((32 : Int32) &&& 0x3f).toInt64.toUInt64).toInt64).toInt32).toInt8.toInt32))), (.int (nar .byte ((((x3.toUInt64 >>> ((40 : Int32) &&& 0x3f).toInt64.toUInt64).toInt64).toInt32).toInt8.toInt32))), (.int (nar .byte ((((x3.toUInt64 >>> ((48 : Int32) &&& 0x3f).toInt64.toUInt64).toInt64).toInt32).toInt8.toInt32))), (.int (nar .byte ((((x3.toUInt64 >>> ((56 : Int32) &&& 0x3f).toInt64.toUInt64).toInt64).toInt32).toInt8.toInt32))), (.int (nar .byte ((((x3.toUInt64 >>> ((13 : Int32) &&& 0x3f).toInt64.toUInt64).toInt64).toInt32).toInt8.toInt32))), (.int (nar .byte ((((x3.toUInt64 >>> ((21 : Int32) &&& 0x3f).toInt64.toUInt64).toInt64).toInt32).toInt8.toInt32))), (.int (nar .byte ((((x3.toUInt64 >>> ((29 : Int32) &&& 0x3f).toInt64.toUInt64).toInt64).toInt32).toInt8.toInt32)))] (.int (0 : Int32)) := Arv.set Ar81 q81 S81 M81 H81 G81 (fits_nar_byte _) W81 4 rfl (Nat.le_of_ble_eq_true rfl)
    have N81 := Fr.snoc X81 N78 g4
    have f82 : n0 ≤ h81.size := Nat.le_trans f79 (Keep.of_wr W81).1
    have pre81 : Go p.tables e below (s₁.setTop (entryFrame m #[(.long x0), (.int x2), (.long x3)] maxLocals)) T81 (mkF m 173 #[.val (.long x0), .second, .val (.int x2), .val (.long x3), .second, .val (.int (1 : Int32)), .val (.ref b3)] []) := fun t k => pre80 t (st81 _ k)
    have pre83 : Go p.tables e below (s₁.setTop (entryFrame m #[(.long x0), (.int x2), (.long x3)] maxLocals)) T81 (mkF m 185 #[.val (.long x0), .second, .val (.int x2), .val (.long x3), .second, .val (.int (1 : Int32)), .val (.ref b3)] [(.int ((((x0.toUInt64 >>> ((24 : Int32) &&& 0x3f).toInt64.toUInt64).toInt64).toInt32).toInt8.toInt32)), (.int ((1 : Int32) + (4 : Int32))), (.ref b3)]) := fun t k => pre81 t (by
        refine XS.aload X81.here hx rfl (hb hby at_173) rfl rfl ?_
        show Steps p.tables e below (T81.setTop (mkF m 175 #[.val (.long x0), .second, .val (.int x2), .val (.long x3), .second, .val (.int (1 : Int32)), .val (.ref b3)] [(.ref b3)])) _
        refine XS.iload X81.here hx rfl (hb hby at_175) rfl ?_
        show Steps p.tables e below (T81.setTop (mkF m 177 #[.val (.long x0), .second, .val (.int x2), .val (.long x3), .second, .val (.int (1 : Int32)), .val (.ref b3)] [(.int (1 : Int32)), (.ref b3)])) _
        refine XS.iconst X81.here hx rfl (hb hby at_177) ?_
        show Steps p.tables e below (T81.setTop (mkF m 178 #[.val (.long x0), .second, .val (.int x2), .val (.long x3), .second, .val (.int (1 : Int32)), .val (.ref b3)] [(.int (4 : Int32)), (.int (1 : Int32)), (.ref b3)])) _
        refine XS.iadd X81.here hx rfl (hb hby at_178) rfl ?_
        show Steps p.tables e below (T81.setTop (mkF m 179 #[.val (.long x0), .second, .val (.int x2), .val (.long x3), .second, .val (.int (1 : Int32)), .val (.ref b3)] [(.int ((1 : Int32) + (4 : Int32))), (.ref b3)])) _
        refine XS.lloadN X81.here hx rfl (hb hby at_179) rfl ?_
        show Steps p.tables e below (T81.setTop (mkF m 180 #[.val (.long x0), .second, .val (.int x2), .val (.long x3), .second, .val (.int (1 : Int32)), .val (.ref b3)] [(.long x0), (.int ((1 : Int32) + (4 : Int32))), (.ref b3)])) _
        refine XS.bipush X81.here hx rfl (hb hby at_180) ?_
        show Steps p.tables e below (T81.setTop (mkF m 182 #[.val (.long x0), .second, .val (.int x2), .val (.long x3), .second, .val (.int (1 : Int32)), .val (.ref b3)] [(.int (24 : Int32)), (.long x0), (.int ((1 : Int32) + (4 : Int32))), (.ref b3)])) _
        refine XS.lushr X81.here hx rfl (hb hby at_182) rfl ?_
        show Steps p.tables e below (T81.setTop (mkF m 183 #[.val (.long x0), .second, .val (.int x2), .val (.long x3), .second, .val (.int (1 : Int32)), .val (.ref b3)] [(.long ((x0.toUInt64 >>> ((24 : Int32) &&& 0x3f).toInt64.toUInt64).toInt64)), (.int ((1 : Int32) + (4 : Int32))), (.ref b3)])) _
        refine XS.l2i X81.here hx rfl (hb hby at_183) rfl ?_
        show Steps p.tables e below (T81.setTop (mkF m 184 #[.val (.long x0), .second, .val (.int x2), .val (.long x3), .second, .val (.int (1 : Int32)), .val (.ref b3)] [(.int (((x0.toUInt64 >>> ((24 : Int32) &&& 0x3f).toInt64.toUInt64).toInt64).toInt32)), (.int ((1 : Int32) + (4 : Int32))), (.ref b3)])) _
        refine XS.i2b X81.here hx rfl (hb hby at_184) rfl ?_
        exact k)
    obtain ⟨c84, Ar84, q84, S84, M84, H84, G84⟩ := fa81
    have hin84 : ¬ (((1 : Int32) + (4 : Int32)) < 0 ∨ c84.slots.size ≤ (((1 : Int32) + (4 : Int32))).toNatClampNeg) := inb_of S84 ⟨by decide, by decide⟩
    obtain ⟨T84, h84, X84, e84, W84, st84⟩ := stB X81 hx hZ e81 Ar84 (j := ((1 : Int32) + (4 : Int32))) hin84 (g := (mkF m 185 #[.val (.long x0), .second, .val (.int x2), .val (.long x3), .second, .val (.int (1 : Int32)), .val (.ref b3)] [(.int ((((x0.toUInt64 >>> ((24 : Int32) &&& 0x3f).toInt64.toUInt64).toInt64).toInt32).toInt8.toInt32)), (.int ((1 : Int32) + (4 : Int32))), (.ref b3)])) rfl rfl (hb hby at_185)
    have fa84 : Arv Z h84 b3 k3 .byte (11 : Int32) [(.int (nar .byte ((x3.toInt32).toInt8.toInt32))), (.int (nar .byte ((((x0.toUInt64 >>> ((56 : Int32) &&& 0x3f).toInt64.toUInt64).toInt64).toInt32).toInt8.toInt32))), (.int (nar .byte ((((x0.toUInt64 >>> ((48 : Int32) &&& 0x3f).toInt64.toUInt64).toInt64).toInt32).toInt8.toInt32))), (.int (nar .byte ((((x0.toUInt64 >>> ((40 : Int32) &&& 0x3f).toInt64.toUInt64).toInt64).toInt32).toInt8.toInt32))), (.int (nar .byte ((((x0.toUInt64 >>> ((32 : Int32) &&& 0x3f).toInt64.toUInt64).toInt64).toInt32).toInt8.toInt32))), (.int (nar .byte ((((x0.toUInt64 >>> ((24 : Int32) &&& 0x3f).toInt64.toUInt64).toInt64).toInt32).toInt8.toInt32))), (.int (nar .byte ((((x3.toUInt64 >>> ((48 : Int32) &&& 0x3f).toInt64.toUInt64).toInt64).toInt32).toInt8.toInt32))), (.int (nar .byte ((((x3.toUInt64 >>> ((56 : Int32) &&& 0x3f).toInt64.toUInt64).toInt64).toInt32).toInt8.toInt32))), (.int (nar .byte ((((x3.toUInt64 >>> ((13 : Int32) &&& 0x3f).toInt64.toUInt64).toInt64).toInt32).toInt8.toInt32))), (.int (nar .byte ((((x3.toUInt64 >>> ((21 : Int32) &&& 0x3f).toInt64.toUInt64).toInt64).toInt32).toInt8.toInt32))), (.int (nar .byte ((((x3.toUInt64 >>> ((29 : Int32) &&& 0x3f).toInt64.toUInt64).toInt64).toInt32).toInt8.toInt32)))] (.int (0 : Int32)) := Arv.set Ar84 q84 S84 M84 H84 G84 (fits_nar_byte _) W84 5 rfl (Nat.le_of_ble_eq_true rfl)
    have N84 := Fr.snoc X84 N81 g4
    have f85 : n0 ≤ h84.size := Nat.le_trans f82 (Keep.of_wr W84).1
    have pre84 : Go p.tables e below (s₁.setTop (entryFrame m #[(.long x0), (.int x2), (.long x3)] maxLocals)) T84 (mkF m 186 #[.val (.long x0), .second, .val (.int x2), .val (.long x3), .second, .val (.int (1 : Int32)), .val (.ref b3)] []) := fun t k => pre83 t (st84 _ k)
    have pre86 : Go p.tables e below (s₁.setTop (entryFrame m #[(.long x0), (.int x2), (.long x3)] maxLocals)) T84 (mkF m 198 #[.val (.long x0), .second, .val (.int x2), .val (.long x3), .second, .val (.int (1 : Int32)), .val (.ref b3)] [(.int ((((x0.toUInt64 >>> ((16 : Int32) &&& 0x3f).toInt64.toUInt64).toInt64).toInt32).toInt8.toInt32)), (.int ((1 : Int32) + (5 : Int32))), (.ref b3)]) := fun t k => pre84 t (by
        refine XS.aload X84.here hx rfl (hb hby at_186) rfl rfl ?_
        show Steps p.tables e below (T84.setTop (mkF m 188 #[.val (.long x0), .second, .val (.int x2), .val (.long x3), .second, .val (.int (1 : Int32)), .val (.ref b3)] [(.ref b3)])) _
        refine XS.iload X84.here hx rfl (hb hby at_188) rfl ?_
        show Steps p.tables e below (T84.setTop (mkF m 190 #[.val (.long x0), .second, .val (.int x2), .val (.long x3), .second, .val (.int (1 : Int32)), .val (.ref b3)] [(.int (1 : Int32)), (.ref b3)])) _
        refine XS.iconst X84.here hx rfl (hb hby at_190) ?_
        show Steps p.tables e below (T84.setTop (mkF m 191 #[.val (.long x0), .second, .val (.int x2), .val (.long x3), .second, .val (.int (1 : Int32)), .val (.ref b3)] [(.int (5 : Int32)), (.int (1 : Int32)), (.ref b3)])) _
        refine XS.iadd X84.here hx rfl (hb hby at_191) rfl ?_
        show Steps p.tables e below (T84.setTop (mkF m 192 #[.val (.long x0), .second, .val (.int x2), .val (.long x3), .second, .val (.int (1 : Int32)), .val (.ref b3)] [(.int ((1 : Int32) + (5 : Int32))), (.ref b3)])) _
        refine XS.lloadN X84.here hx rfl (hb hby at_192) rfl ?_
        show Steps p.tables e below (T84.setTop (mkF m 193 #[.val (.long x0), .second, .val (.int x2), .val (.long x3), .second, .val (.int (1 : Int32)), .val (.ref b3)] [(.long x0), (.int ((1 : Int32) + (5 : Int32))), (.ref b3)])) _
        refine XS.bipush X84.here hx rfl (hb hby at_193) ?_
        show Steps p.tables e below (T84.setTop (mkF m 195 #[.val (.long x0), .second, .val (.int x2), .val (.long x3), .second, .val (.int (1 : Int32)), .val (.ref b3)] [(.int (16 : Int32)), (.long x0), (.int ((1 : Int32) + (5 : Int32))), (.ref b3)])) _
        refine XS.lushr X84.here hx rfl (hb hby at_195) rfl ?_
        show Steps p.tables e below (T84.setTop (mkF m 196 #[.val (.long x0), .second, .val (.int x2), .val (.long x3), .second, .val (.int (1 : Int32)), .val (.ref b3)] [(.long ((x0.toUInt64 >>> ((16 : Int32) &&& 0x3f).toInt64.toUInt64).toInt64)), (.int ((1 : Int32) + (5 : Int32))), (.ref b3)])) _
        refine XS.l2i X84.here hx rfl (hb hby at_196) rfl ?_
        show Steps p.tables e below (T84.setTop (mkF m 197 #[.val (.long x0), .second, .val (.int x2), .val (.long x3), .second, .val (.int (1 : Int32)), .val (.ref b3)] [(.int (((x0.toUInt64 >>> ((16 : Int32) &&& 0x3f).toInt64.toUInt64).toInt64).toInt32)), (.int ((1 : Int32) + (5 : Int32))), (.ref b3)])) _
        refine XS.i2b X84.here hx rfl (hb hby at_197) rfl ?_
        exact k)
    obtain ⟨c87, Ar87, q87, S87, M87, H87, G87⟩ := fa84
    have hin87 : ¬ (((1 : Int32) + (5 : Int32)) < 0 ∨ c87.slots.size ≤ (((1 : Int32) + (5 : Int32))).toNatClampNeg) := inb_of S87 ⟨by decide, by decide⟩
    obtain ⟨T87, h87, X87, e87, W87, st87⟩ := stB X84 hx hZ e84 Ar87 (j := ((1 : Int32) + (5 : Int32))) hin87 (g := (mkF m 198 #[.val (.long x0), .second, .val (.int x2), .val (.long x3), .second, .val (.int (1 : Int32)), .val (.ref b3)] [(.int ((((x0.toUInt64 >>> ((16 : Int32) &&& 0x3f).toInt64.toUInt64).toInt64).toInt32).toInt8.toInt32)), (.int ((1 : Int32) + (5 : Int32))), (.ref b3)])) rfl rfl (hb hby at_198)
    have fa87 : Arv Z h87 b3 k3 .byte (11 : Int32) [(.int (nar .byte ((x3.toInt32).toInt8.toInt32))), (.int (nar .byte ((((x0.toUInt64 >>> ((56 : Int32) &&& 0x3f).toInt64.toUInt64).toInt64).toInt32).toInt8.toInt32))), (.int (nar .byte ((((x0.toUInt64 >>> ((48 : Int32) &&& 0x3f).toInt64.toUInt64).toInt64).toInt32).toInt8.toInt32))), (.int (nar .byte ((((x0.toUInt64 >>> ((40 : Int32) &&& 0x3f).toInt64.toUInt64).toInt64).toInt32).toInt8.toInt32))), (.int (nar .byte ((((x0.toUInt64 >>> ((32 : Int32) &&& 0x3f).toInt64.toUInt64).toInt64).toInt32).toInt8.toInt32))), (.int (nar .byte ((((x0.toUInt64 >>> ((24 : Int32) &&& 0x3f).toInt64.toUInt64).toInt64).toInt32).toInt8.toInt32))), (.int (nar .byte ((((x0.toUInt64 >>> ((16 : Int32) &&& 0x3f).toInt64.toUInt64).toInt64).toInt32).toInt8.toInt32))), (.int (nar .byte ((((x3.toUInt64 >>> ((56 : Int32) &&& 0x3f).toInt64.toUInt64).toInt64).toInt32).toInt8.toInt32))), (.int (nar .byte ((((x3.toUInt64 >>> ((13 : Int32) &&& 0x3f).toInt64.toUInt64).toInt64).toInt32).toInt8.toInt32))), (.int (nar .byte ((((x3.toUInt64 >>> ((21 : Int32) &&& 0x3f).toInt64.toUInt64).toInt64).toInt32).toInt8.toInt32))), (.int (nar .byte ((((x3.toUInt64 >>> ((29 : Int32) &&& 0x3f).toInt64.toUInt64).toInt64).toInt32).toInt8.toInt32)))] (.int (0 : Int32)) := Arv.set Ar87 q87 S87 M87 H87 G87 (fits_nar_byte _) W87 6 rfl (Nat.le_of_ble_eq_true rfl)
    have N87 := Fr.snoc X87 N84 g4
    have f88 : n0 ≤ h87.size := Nat.le_trans f85 (Keep.of_wr W87).1
    have pre87 : Go p.tables e below (s₁.setTop (entryFrame m #[(.long x0), (.int x2), (.long x3)] maxLocals)) T87 (mkF m 199 #[.val (.long x0), .second, .val (.int x2), .val (.long x3), .second, .val (.int (1 : Int32)), .val (.ref b3)] []) := fun t k => pre86 t (st87 _ k)
    have pre89 : Go p.tables e below (s₁.setTop (entryFrame m #[(.long x0), (.int x2), (.long x3)] maxLocals)) T87 (mkF m 212 #[.val (.long x0), .second, .val (.int x2), .val (.long x3), .second, .val (.int (1 : Int32)), .val (.ref b3)] [(.int ((((x0.toUInt64 >>> ((8 : Int32) &&& 0x3f).toInt64.toUInt64).toInt64).toInt32).toInt8.toInt32)), (.int ((1 : Int32) + (6 : Int32))), (.ref b3)]) := fun t k => pre87 t (by
        refine XS.aload X87.here hx rfl (hb hby at_199) rfl rfl ?_
        show Steps p.tables e below (T87.setTop (mkF m 201 #[.val (.long x0), .second, .val (.int x2), .val (.long x3), .second, .val (.int (1 : Int32)), .val (.ref b3)] [(.ref b3)])) _
        refine XS.iload X87.here hx rfl (hb hby at_201) rfl ?_
        show Steps p.tables e below (T87.setTop (mkF m 203 #[.val (.long x0), .second, .val (.int x2), .val (.long x3), .second, .val (.int (1 : Int32)), .val (.ref b3)] [(.int (1 : Int32)), (.ref b3)])) _
        refine XS.bipush X87.here hx rfl (hb hby at_203) ?_
        show Steps p.tables e below (T87.setTop (mkF m 205 #[.val (.long x0), .second, .val (.int x2), .val (.long x3), .second, .val (.int (1 : Int32)), .val (.ref b3)] [(.int (6 : Int32)), (.int (1 : Int32)), (.ref b3)])) _
        refine XS.iadd X87.here hx rfl (hb hby at_205) rfl ?_
        show Steps p.tables e below (T87.setTop (mkF m 206 #[.val (.long x0), .second, .val (.int x2), .val (.long x3), .second, .val (.int (1 : Int32)), .val (.ref b3)] [(.int ((1 : Int32) + (6 : Int32))), (.ref b3)])) _
        refine XS.lloadN X87.here hx rfl (hb hby at_206) rfl ?_
        show Steps p.tables e below (T87.setTop (mkF m 207 #[.val (.long x0), .second, .val (.int x2), .val (.long x3), .second, .val (.int (1 : Int32)), .val (.ref b3)] [(.long x0), (.int ((1 : Int32) + (6 : Int32))), (.ref b3)])) _
        refine XS.bipush X87.here hx rfl (hb hby at_207) ?_
        show Steps p.tables e below (T87.setTop (mkF m 209 #[.val (.long x0), .second, .val (.int x2), .val (.long x3), .second, .val (.int (1 : Int32)), .val (.ref b3)] [(.int (8 : Int32)), (.long x0), (.int ((1 : Int32) + (6 : Int32))), (.ref b3)])) _
        refine XS.lushr X87.here hx rfl (hb hby at_209) rfl ?_
        show Steps p.tables e below (T87.setTop (mkF m 210 #[.val (.long x0), .second, .val (.int x2), .val (.long x3), .second, .val (.int (1 : Int32)), .val (.ref b3)] [(.long ((x0.toUInt64 >>> ((8 : Int32) &&& 0x3f).toInt64.toUInt64).toInt64)), (.int ((1 : Int32) + (6 : Int32))), (.ref b3)])) _
        refine XS.l2i X87.here hx rfl (hb hby at_210) rfl ?_
        show Steps p.tables e below (T87.setTop (mkF m 211 #[.val (.long x0), .second, .val (.int x2), .val (.long x3), .second, .val (.int (1 : Int32)), .val (.ref b3)] [(.int (((x0.toUInt64 >>> ((8 : Int32) &&& 0x3f).toInt64.toUInt64).toInt64).toInt32)), (.int ((1 : Int32) + (6 : Int32))), (.ref b3)])) _
        refine XS.i2b X87.here hx rfl (hb hby at_211) rfl ?_
        exact k)
    obtain ⟨c90, Ar90, q90, S90, M90, H90, G90⟩ := fa87
    have hin90 : ¬ (((1 : Int32) + (6 : Int32)) < 0 ∨ c90.slots.size ≤ (((1 : Int32) + (6 : Int32))).toNatClampNeg) := inb_of S90 ⟨by decide, by decide⟩
    obtain ⟨T90, h90, X90, e90, W90, st90⟩ := stB X87 hx hZ e87 Ar90 (j := ((1 : Int32) + (6 : Int32))) hin90 (g := (mkF m 212 #[.val (.long x0), .second, .val (.int x2), .val (.long x3), .second, .val (.int (1 : Int32)), .val (.ref b3)] [(.int ((((x0.toUInt64 >>> ((8 : Int32) &&& 0x3f).toInt64.toUInt64).toInt64).toInt32).toInt8.toInt32)), (.int ((1 : Int32) + (6 : Int32))), (.ref b3)])) rfl rfl (hb hby at_212)
    have fa90 : Arv Z h90 b3 k3 .byte (11 : Int32) [(.int (nar .byte ((x3.toInt32).toInt8.toInt32))), (.int (nar .byte ((((x0.toUInt64 >>> ((56 : Int32) &&& 0x3f).toInt64.toUInt64).toInt64).toInt32).toInt8.toInt32))), (.int (nar .byte ((((x0.toUInt64 >>> ((48 : Int32) &&& 0x3f).toInt64.toUInt64).toInt64).toInt32).toInt8.toInt32))), (.int (nar .byte ((((x0.toUInt64 >>> ((40 : Int32) &&& 0x3f).toInt64.toUInt64).toInt64).toInt32).toInt8.toInt32))), (.int (nar .byte ((((x0.toUInt64 >>> ((32 : Int32) &&& 0x3f).toInt64.toUInt64).toInt64).toInt32).toInt8.toInt32))), (.int (nar .byte ((((x0.toUInt64 >>> ((24 : Int32) &&& 0x3f).toInt64.toUInt64).toInt64).toInt32).toInt8.toInt32))), (.int (nar .byte ((((x0.toUInt64 >>> ((16 : Int32) &&& 0x3f).toInt64.toUInt64).toInt64).toInt32).toInt8.toInt32))), (.int (nar .byte ((((x0.toUInt64 >>> ((8 : Int32) &&& 0x3f).toInt64.toUInt64).toInt64).toInt32).toInt8.toInt32))), (.int (nar .byte ((((x3.toUInt64 >>> ((13 : Int32) &&& 0x3f).toInt64.toUInt64).toInt64).toInt32).toInt8.toInt32))), (.int (nar .byte ((((x3.toUInt64 >>> ((21 : Int32) &&& 0x3f).toInt64.toUInt64).toInt64).toInt32).toInt8.toInt32))), (.int (nar .byte ((((x3.toUInt64 >>> ((29 : Int32) &&& 0x3f).toInt64.toUInt64).toInt64).toInt32).toInt8.toInt32)))] (.int (0 : Int32)) := Arv.set Ar90 q90 S90 M90 H90 G90 (fits_nar_byte _) W90 7 rfl (Nat.le_of_ble_eq_true rfl)
    have N90 := Fr.snoc X90 N87 g4
    have f91 : n0 ≤ h90.size := Nat.le_trans f88 (Keep.of_wr W90).1
    have pre90 : Go p.tables e below (s₁.setTop (entryFrame m #[(.long x0), (.int x2), (.long x3)] maxLocals)) T90 (mkF m 213 #[.val (.long x0), .second, .val (.int x2), .val (.long x3), .second, .val (.int (1 : Int32)), .val (.ref b3)] []) := fun t k => pre89 t (st90 _ k)
    have pre92 : Go p.tables e below (s₁.setTop (entryFrame m #[(.long x0), (.int x2), (.long x3)] maxLocals)) T90 (mkF m 223 #[.val (.long x0), .second, .val (.int x2), .val (.long x3), .second, .val (.int (1 : Int32)), .val (.ref b3)] [(.int ((x0.toInt32).toInt8.toInt32)), (.int ((1 : Int32) + (7 : Int32))), (.ref b3)]) := fun t k => pre90 t (by
        refine XS.aload X90.here hx rfl (hb hby at_213) rfl rfl ?_
        show Steps p.tables e below (T90.setTop (mkF m 215 #[.val (.long x0), .second, .val (.int x2), .val (.long x3), .second, .val (.int (1 : Int32)), .val (.ref b3)] [(.ref b3)])) _
        refine XS.iload X90.here hx rfl (hb hby at_215) rfl ?_
        show Steps p.tables e below (T90.setTop (mkF m 217 #[.val (.long x0), .second, .val (.int x2), .val (.long x3), .second, .val (.int (1 : Int32)), .val (.ref b3)] [(.int (1 : Int32)), (.ref b3)])) _
        refine XS.bipush X90.here hx rfl (hb hby at_217) ?_
        show Steps p.tables e below (T90.setTop (mkF m 219 #[.val (.long x0), .second, .val (.int x2), .val (.long x3), .second, .val (.int (1 : Int32)), .val (.ref b3)] [(.int (7 : Int32)), (.int (1 : Int32)), (.ref b3)])) _
        refine XS.iadd X90.here hx rfl (hb hby at_219) rfl ?_
        show Steps p.tables e below (T90.setTop (mkF m 220 #[.val (.long x0), .second, .val (.int x2), .val (.long x3), .second, .val (.int (1 : Int32)), .val (.ref b3)] [(.int ((1 : Int32) + (7 : Int32))), (.ref b3)])) _
        refine XS.lloadN X90.here hx rfl (hb hby at_220) rfl ?_
        show Steps p.tables e below (T90.setTop (mkF m 221 #[.val (.long x0), .second, .val (.int x2), .val (.long x3), .second, .val (.int (1 : Int32)), .val (.ref b3)] [(.long x0), (.int ((1 : Int32) + (7 : Int32))), (.ref b3)])) _
        refine XS.l2i X90.here hx rfl (hb hby at_221) rfl ?_
        show Steps p.tables e below (T90.setTop (mkF m 222 #[.val (.long x0), .second, .val (.int x2), .val (.long x3), .second, .val (.int (1 : Int32)), .val (.ref b3)] [(.int (x0.toInt32)), (.int ((1 : Int32) + (7 : Int32))), (.ref b3)])) _
        refine XS.i2b X90.here hx rfl (hb hby at_222) rfl ?_
        exact k)
    obtain ⟨c93, Ar93, q93, S93, M93, H93, G93⟩ := fa90
    have hin93 : ¬ (((1 : Int32) + (7 : Int32)) < 0 ∨ c93.slots.size ≤ (((1 : Int32) + (7 : Int32))).toNatClampNeg) := inb_of S93 ⟨by decide, by decide⟩
    obtain ⟨T93, h93, X93, e93, W93, st93⟩ := stB X90 hx hZ e90 Ar93 (j := ((1 : Int32) + (7 : Int32))) hin93 (g := (mkF m 223 #[.val (.long x0), .second, .val (.int x2), .val (.long x3), .second, .val (.int (1 : Int32)), .val (.ref b3)] [(.int ((x0.toInt32).toInt8.toInt32)), (.int ((1 : Int32) + (7 : Int32))), (.ref b3)])) rfl rfl (hb hby at_223)
    have fa93 : Arv Z h93 b3 k3 .byte (11 : Int32) [(.int (nar .byte ((x3.toInt32).toInt8.toInt32))), (.int (nar .byte ((((x0.toUInt64 >>> ((56 : Int32) &&& 0x3f).toInt64.toUInt64).toInt64).toInt32).toInt8.toInt32))), (.int (nar .byte ((((x0.toUInt64 >>> ((48 : Int32) &&& 0x3f).toInt64.toUInt64).toInt64).toInt32).toInt8.toInt32))), (.int (nar .byte ((((x0.toUInt64 >>> ((40 : Int32) &&& 0x3f).toInt64.toUInt64).toInt64).toInt32).toInt8.toInt32))), (.int (nar .byte ((((x0.toUInt64 >>> ((32 : Int32) &&& 0x3f).toInt64.toUInt64).toInt64).toInt32).toInt8.toInt32))), (.int (nar .byte ((((x0.toUInt64 >>> ((24 : Int32) &&& 0x3f).toInt64.toUInt64).toInt64).toInt32).toInt8.toInt32))), (.int (nar .byte ((((x0.toUInt64 >>> ((16 : Int32) &&& 0x3f).toInt64.toUInt64).toInt64).toInt32).toInt8.toInt32))), (.int (nar .byte ((((x0.toUInt64 >>> ((8 : Int32) &&& 0x3f).toInt64.toUInt64).toInt64).toInt32).toInt8.toInt32))), (.int (nar .byte ((x0.toInt32).toInt8.toInt32))), (.int (nar .byte ((((x3.toUInt64 >>> ((21 : Int32) &&& 0x3f).toInt64.toUInt64).toInt64).toInt32).toInt8.toInt32))), (.int (nar .byte ((((x3.toUInt64 >>> ((29 : Int32) &&& 0x3f).toInt64.toUInt64).toInt64).toInt32).toInt8.toInt32)))] (.int (0 : Int32)) := Arv.set Ar93 q93 S93 M93 H93 G93 (fits_nar_byte _) W93 8 rfl (Nat.le_of_ble_eq_true rfl)
    have N93 := Fr.snoc X93 N90 g4
    have f94 : n0 ≤ h93.size := Nat.le_trans f91 (Keep.of_wr W93).1
    have pre93 : Go p.tables e below (s₁.setTop (entryFrame m #[(.long x0), (.int x2), (.long x3)] maxLocals)) T93 (mkF m 224 #[.val (.long x0), .second, .val (.int x2), .val (.long x3), .second, .val (.int (1 : Int32)), .val (.ref b3)] []) := fun t k => pre92 t (st93 _ k)
    have pre95 : Go p.tables e below (s₁.setTop (entryFrame m #[(.long x0), (.int x2), (.long x3)] maxLocals)) T93 (mkF m 228 #[.val (.long x0), .second, .val (.int x2), .val (.long x3), .second, .val (.int (1 : Int32)), .val (.ref b3)] [(.int (1 : Int32)), (.ref b3)]) := fun t k => pre93 t (by
        refine XS.aload X93.here hx rfl (hb hby at_224) rfl rfl ?_
        show Steps p.tables e below (T93.setTop (mkF m 226 #[.val (.long x0), .second, .val (.int x2), .val (.long x3), .second, .val (.int (1 : Int32)), .val (.ref b3)] [(.ref b3)])) _
        refine XS.iload X93.here hx rfl (hb hby at_226) rfl ?_
        exact k)
    obtain ⟨c97, Ar97, q97, S97, M97, H97, G97⟩ := fa93
    have hi97_0 : ¬ ((1 : Int32) < 0 ∨ c97.slots.size ≤ ((1 : Int32)).toNatClampNeg) := inb_of S97 ⟨by decide, by decide⟩
    have hi97_1 : ¬ (((1 : Int32) + (1 : Int32)) < 0 ∨ c97.slots.size ≤ (((1 : Int32) + (1 : Int32))).toNatClampNeg) := inb_of S97 ⟨by decide, by decide⟩
    have hi97_2 : ¬ (((1 : Int32) + (2 : Int32)) < 0 ∨ c97.slots.size ≤ (((1 : Int32) + (2 : Int32))).toNatClampNeg) := inb_of S97 ⟨by decide, by decide⟩
    have hi97_3 : ¬ (((1 : Int32) + (3 : Int32)) < 0 ∨ c97.slots.size ≤ (((1 : Int32) + (3 : Int32))).toNatClampNeg) := inb_of S97 ⟨by decide, by decide⟩
    have hi97_4 : ¬ (((1 : Int32) + (4 : Int32)) < 0 ∨ c97.slots.size ≤ (((1 : Int32) + (4 : Int32))).toNatClampNeg) := inb_of S97 ⟨by decide, by decide⟩
    have hi97_5 : ¬ (((1 : Int32) + (5 : Int32)) < 0 ∨ c97.slots.size ≤ (((1 : Int32) + (5 : Int32))).toNatClampNeg) := inb_of S97 ⟨by decide, by decide⟩
    have hi97_6 : ¬ (((1 : Int32) + (6 : Int32)) < 0 ∨ c97.slots.size ≤ (((1 : Int32) + (6 : Int32))).toNatClampNeg) := inb_of S97 ⟨by decide, by decide⟩
    have hi97_7 : ¬ (((1 : Int32) + (7 : Int32)) < 0 ∨ c97.slots.size ≤ (((1 : Int32) + (7 : Int32))).toNatClampNeg) := inb_of S97 ⟨by decide, by decide⟩
    obtain ⟨_, _, ⟨T96, L96, k96, n96⟩, -, X96, ⟨Lc96, hQ96, l96, y96, z96⟩, st96⟩ := Jvm.LawKit.callS X93 hx (y := (⟨"com/example/fence/fence/util/BigEndian", "longAt", "([BI)J"⟩ : MethodName)) hown (mvT hZ (hw _ (List.mem_of_getElem? (i := 1) rfl))) (mvT hZ (hw _ (List.mem_of_getElem? (i := 2) rfl))) (mvT hZ (hw _ (List.mem_of_getElem? (i := 3) rfl))) (mvT hZ (hw _ (List.mem_of_getElem? (i := 4) rfl))) (by decide) (backOf (W := 0) (rm_la l Z a0 hw [] b3 (1 : Int32) c97 (nar .byte ((((x0.toUInt64 >>> ((56 : Int32) &&& 0x3f).toInt64.toUInt64).toInt64).toInt32).toInt8.toInt32)) (nar .byte ((((x0.toUInt64 >>> ((48 : Int32) &&& 0x3f).toInt64.toUInt64).toInt64).toInt32).toInt8.toInt32)) (nar .byte ((((x0.toUInt64 >>> ((40 : Int32) &&& 0x3f).toInt64.toUInt64).toInt64).toInt32).toInt8.toInt32)) (nar .byte ((((x0.toUInt64 >>> ((32 : Int32) &&& 0x3f).toInt64.toUInt64).toInt64).toInt32).toInt8.toInt32)) (nar .byte ((((x0.toUInt64 >>> ((24 : Int32) &&& 0x3f).toInt64.toUInt64).toInt64).toInt32).toInt8.toInt32)) (nar .byte ((((x0.toUInt64 >>> ((16 : Int32) &&& 0x3f).toInt64.toUInt64).toInt64).toInt32).toInt8.toInt32)) (nar .byte ((((x0.toUInt64 >>> ((8 : Int32) &&& 0x3f).toInt64.toUInt64).toInt64).toInt32).toInt8.toInt32)) (nar .byte ((x0.toInt32).toInt8.toInt32)) h93 n0 Ar97 hi97_0 hi97_1 hi97_2 hi97_3 hi97_4 hi97_5 hi97_6 hi97_7 (H97.at hi97_0 rfl) (H97.at hi97_1 rfl) (H97.at hi97_2 rfl) (H97.at hi97_3 rfl) (H97.at hi97_4 rfl) (H97.at hi97_5 rfl) (H97.at hi97_6 rfl) (H97.at hi97_7 rfl)) hZ (hw _ (List.mem_of_getElem? (i := 4) rfl)) (hw _ (List.mem_of_getElem? (i := 3) rfl)) (by decide) (by decide)) (g := (mkF m 228 #[.val (.long x0), .second, .val (.int x2), .val (.long x3), .second, .val (.int (1 : Int32)), .val (.ref b3)] [(.int (1 : Int32)), (.ref b3)])) rfl (by rw [hml]; rfl) (argsL := [(.ref b3), (.int (1 : Int32))]) (rest := []) (lenOf pd_0 rfl) rfl (by show 2 * 0 + _ ≤ _; exact Nat.le_of_eq rfl) (hb hby at_228) (fun _ _ => ⟨rfl, e93, (by decide : 1 + 0 ≤ _), (by decide : 11 + 0 ≤ _)⟩)
    dsimp only [Pt.U, Pt.locs, Pt.cells, Pt.slots] at X96 l96 y96 z96 st96 hQ96
    subst l96 y96 z96
    obtain ⟨rfl, N96q, e96⟩ := hQ96
    have N96 := Fr.app N93 N96q
    have pre96 : Go p.tables e below (s₁.setTop (entryFrame m #[(.long x0), (.int x2), (.long x3)] maxLocals)) T96 (mkF m 231 #[.val (.long x0), .second, .val (.int x2), .val (.long x3), .second, .val (.int (1 : Int32)), .val (.ref b3)] [(.long (own_long (nar .byte ((((x0.toUInt64 >>> ((56 : Int32) &&& 0x3f).toInt64.toUInt64).toInt64).toInt32).toInt8.toInt32)) (nar .byte ((((x0.toUInt64 >>> ((48 : Int32) &&& 0x3f).toInt64.toUInt64).toInt64).toInt32).toInt8.toInt32)) (nar .byte ((((x0.toUInt64 >>> ((40 : Int32) &&& 0x3f).toInt64.toUInt64).toInt64).toInt32).toInt8.toInt32)) (nar .byte ((((x0.toUInt64 >>> ((32 : Int32) &&& 0x3f).toInt64.toUInt64).toInt64).toInt32).toInt8.toInt32)) (nar .byte ((((x0.toUInt64 >>> ((24 : Int32) &&& 0x3f).toInt64.toUInt64).toInt64).toInt32).toInt8.toInt32)) (nar .byte ((((x0.toUInt64 >>> ((16 : Int32) &&& 0x3f).toInt64.toUInt64).toInt64).toInt32).toInt8.toInt32)) (nar .byte ((((x0.toUInt64 >>> ((8 : Int32) &&& 0x3f).toInt64.toUInt64).toInt64).toInt32).toInt8.toInt32)) (nar .byte ((x0.toInt32).toInt8.toInt32))))]) := fun t k => pre95 t (st96 _ k)
    have pre98 : Go p.tables e below (s₁.setTop (entryFrame m #[(.long x0), (.int x2), (.long x3)] maxLocals)) T96 (mkF m 233 #[.val (.long x0), .second, .val (.int x2), .val (.long x3), .second, .val (.int (1 : Int32)), .val (.ref b3)] [(.int (lcmpW (own_long (nar .byte ((((x0.toUInt64 >>> ((56 : Int32) &&& 0x3f).toInt64.toUInt64).toInt64).toInt32).toInt8.toInt32)) (nar .byte ((((x0.toUInt64 >>> ((48 : Int32) &&& 0x3f).toInt64.toUInt64).toInt64).toInt32).toInt8.toInt32)) (nar .byte ((((x0.toUInt64 >>> ((40 : Int32) &&& 0x3f).toInt64.toUInt64).toInt64).toInt32).toInt8.toInt32)) (nar .byte ((((x0.toUInt64 >>> ((32 : Int32) &&& 0x3f).toInt64.toUInt64).toInt64).toInt32).toInt8.toInt32)) (nar .byte ((((x0.toUInt64 >>> ((24 : Int32) &&& 0x3f).toInt64.toUInt64).toInt64).toInt32).toInt8.toInt32)) (nar .byte ((((x0.toUInt64 >>> ((16 : Int32) &&& 0x3f).toInt64.toUInt64).toInt64).toInt32).toInt8.toInt32)) (nar .byte ((((x0.toUInt64 >>> ((8 : Int32) &&& 0x3f).toInt64.toUInt64).toInt64).toInt32).toInt8.toInt32)) (nar .byte ((x0.toInt32).toInt8.toInt32))) x0))]) := fun t k => pre96 t (by
        refine XS.lloadN X96.here hx rfl (hb hby at_231) rfl ?_
        show Steps p.tables e below (T96.setTop (mkF m 232 #[.val (.long x0), .second, .val (.int x2), .val (.long x3), .second, .val (.int (1 : Int32)), .val (.ref b3)] [(.long x0), (.long (own_long (nar .byte ((((x0.toUInt64 >>> ((56 : Int32) &&& 0x3f).toInt64.toUInt64).toInt64).toInt32).toInt8.toInt32)) (nar .byte ((((x0.toUInt64 >>> ((48 : Int32) &&& 0x3f).toInt64.toUInt64).toInt64).toInt32).toInt8.toInt32)) (nar .byte ((((x0.toUInt64 >>> ((40 : Int32) &&& 0x3f).toInt64.toUInt64).toInt64).toInt32).toInt8.toInt32)) (nar .byte ((((x0.toUInt64 >>> ((32 : Int32) &&& 0x3f).toInt64.toUInt64).toInt64).toInt32).toInt8.toInt32)) (nar .byte ((((x0.toUInt64 >>> ((24 : Int32) &&& 0x3f).toInt64.toUInt64).toInt64).toInt32).toInt8.toInt32)) (nar .byte ((((x0.toUInt64 >>> ((16 : Int32) &&& 0x3f).toInt64.toUInt64).toInt64).toInt32).toInt8.toInt32)) (nar .byte ((((x0.toUInt64 >>> ((8 : Int32) &&& 0x3f).toInt64.toUInt64).toInt64).toInt32).toInt8.toInt32)) (nar .byte ((x0.toInt32).toInt8.toInt32))))])) _
        refine XS.lcmp X96.here hx rfl (hb hby at_232) rfl ?_
        exact k)
    by_cases hc99 : (own_long (nar .byte ((((x0.toUInt64 >>> ((56 : Int32) &&& 0x3f).toInt64.toUInt64).toInt64).toInt32).toInt8.toInt32)) (nar .byte ((((x0.toUInt64 >>> ((48 : Int32) &&& 0x3f).toInt64.toUInt64).toInt64).toInt32).toInt8.toInt32)) (nar .byte ((((x0.toUInt64 >>> ((40 : Int32) &&& 0x3f).toInt64.toUInt64).toInt64).toInt32).toInt8.toInt32)) (nar .byte ((((x0.toUInt64 >>> ((32 : Int32) &&& 0x3f).toInt64.toUInt64).toInt64).toInt32).toInt8.toInt32)) (nar .byte ((((x0.toUInt64 >>> ((24 : Int32) &&& 0x3f).toInt64.toUInt64).toInt64).toInt32).toInt8.toInt32)) (nar .byte ((((x0.toUInt64 >>> ((16 : Int32) &&& 0x3f).toInt64.toUInt64).toInt64).toInt32).toInt8.toInt32)) (nar .byte ((((x0.toUInt64 >>> ((8 : Int32) &&& 0x3f).toInt64.toUInt64).toInt64).toInt32).toInt8.toInt32)) (nar .byte ((x0.toInt32).toInt8.toInt32))) = x0
    · -- hc99: True
      have pre100 : Go p.tables e below (s₁.setTop (entryFrame m #[(.long x0), (.int x2), (.long x3)] maxLocals)) T96 (mkF m 241 #[.val (.long x0), .second, .val (.int x2), .val (.long x3), .second, .val (.int (1 : Int32)), .val (.ref b3)] [(.int (1 : Int32))]) := fun t k => pre98 t (by
          refine XS.ifNo X96.here hx rfl (hb hby at_233) rfl ((if0 _ _).trans (teq ((lw_eq _ _).mpr hc99)).2) ?_
          show Steps p.tables e below (T96.setTop (mkF m 236 #[.val (.long x0), .second, .val (.int x2), .val (.long x3), .second, .val (.int (1 : Int32)), .val (.ref b3)] [])) _
          refine XS.iconst X96.here hx rfl (hb hby at_236) ?_
          show Steps p.tables e below (T96.setTop (mkF m 237 #[.val (.long x0), .second, .val (.int x2), .val (.long x3), .second, .val (.int (1 : Int32)), .val (.ref b3)] [(.int (1 : Int32))])) _
          refine XS.goto X96.here hx rfl (pc0 := 237) (pc' := 241) rfl (hb hby at_237) (by decide) (by decide) ?_
          exact k)
      obtain ⟨fs, hr, hrun, hended, hW, hsame⟩ := X96.leave (v := some (.int (1 : Int32))) (fun h => by rw [Bd.returns] at h; cases h) (BodyLoose.notSynchronized Bd)
      refine ⟨_, _, pre100 _ ?_, hrun, hended, _, _, rfl, ?_, ⟨_, rfl⟩, hW, hsame.mono (Nat.le_of_ble_eq_true rfl) (Nat.le_of_ble_eq_true rfl)⟩
      · exact retN X96 hx (t := .boolean) Bd.returns (by simp) (hb hby at_241) hr
      · show Q_law Z x0 x2 x3 h0 n0 _ T96.heap _
        rw [e96]
        exact ⟨rfl, N96⟩
    · -- hc99: False
      have pre101 : Go p.tables e below (s₁.setTop (entryFrame m #[(.long x0), (.int x2), (.long x3)] maxLocals)) T96 (mkF m 241 #[.val (.long x0), .second, .val (.int x2), .val (.long x3), .second, .val (.int (1 : Int32)), .val (.ref b3)] [(.int (0 : Int32))]) := fun t k => pre98 t (by
          refine XS.ifYes X96.here hx rfl (pc0 := 233) (pc' := 240) rfl (hb hby at_233) rfl ((if0 _ _).trans (feq (mt (lw_eq _ _).mp hc99)).2) (by decide) (by decide) ?_
          show Steps p.tables e below (T96.setTop (mkF m 240 #[.val (.long x0), .second, .val (.int x2), .val (.long x3), .second, .val (.int (1 : Int32)), .val (.ref b3)] [])) _
          refine XS.iconst X96.here hx rfl (hb hby at_240) ?_
          exact k)
      obtain ⟨fs, hr, hrun, hended, hW, hsame⟩ := X96.leave (v := some (.int (0 : Int32))) (fun h => by rw [Bd.returns] at h; cases h) (BodyLoose.notSynchronized Bd)
      refine ⟨_, _, pre101 _ ?_, hrun, hended, _, _, rfl, ?_, ⟨_, rfl⟩, hW, hsame.mono (Nat.le_of_ble_eq_true rfl) (Nat.le_of_ble_eq_true rfl)⟩
      · exact retN X96 hx (t := .boolean) Bd.returns (by simp) (hb hby at_241) hr
      · show Q_law Z x0 x2 x3 h0 n0 _ T96.heap _
        rw [e96]
        exact absurd (own_long_eq x0) hc99
  · -- w1 = (2 : Int32)
    have pre102 : Go p.tables e below (s₁.setTop (entryFrame m #[(.long x0), (.int x2), (.long x3)] maxLocals)) T38 (mkF m 133 #[.val (.long x0), .second, .val (.int x2), .val (.long x3), .second, .val (.int (2 : Int32)), .val (.ref b3)] [(.int ((((x0.toUInt64 >>> ((56 : Int32) &&& 0x3f).toInt64.toUInt64).toInt64).toInt32).toInt8.toInt32)), (.int (2 : Int32)), (.ref b3)]) := fun t k => pre38 t (by
        refine XS.aload X38.here hx rfl (hb hby at_123) rfl rfl ?_
        show Steps p.tables e below (T38.setTop (mkF m 125 #[.val (.long x0), .second, .val (.int x2), .val (.long x3), .second, .val (.int (2 : Int32)), .val (.ref b3)] [(.ref b3)])) _
        refine XS.iload X38.here hx rfl (hb hby at_125) rfl ?_
        show Steps p.tables e below (T38.setTop (mkF m 127 #[.val (.long x0), .second, .val (.int x2), .val (.long x3), .second, .val (.int (2 : Int32)), .val (.ref b3)] [(.int (2 : Int32)), (.ref b3)])) _
        refine XS.lloadN X38.here hx rfl (hb hby at_127) rfl ?_
        show Steps p.tables e below (T38.setTop (mkF m 128 #[.val (.long x0), .second, .val (.int x2), .val (.long x3), .second, .val (.int (2 : Int32)), .val (.ref b3)] [(.long x0), (.int (2 : Int32)), (.ref b3)])) _
        refine XS.bipush X38.here hx rfl (hb hby at_128) ?_
        show Steps p.tables e below (T38.setTop (mkF m 130 #[.val (.long x0), .second, .val (.int x2), .val (.long x3), .second, .val (.int (2 : Int32)), .val (.ref b3)] [(.int (56 : Int32)), (.long x0), (.int (2 : Int32)), (.ref b3)])) _
        refine XS.lushr X38.here hx rfl (hb hby at_130) rfl ?_
        show Steps p.tables e below (T38.setTop (mkF m 131 #[.val (.long x0), .second, .val (.int x2), .val (.long x3), .second, .val (.int (2 : Int32)), .val (.ref b3)] [(.long ((x0.toUInt64 >>> ((56 : Int32) &&& 0x3f).toInt64.toUInt64).toInt64)), (.int (2 : Int32)), (.ref b3)])) _
        refine XS.l2i X38.here hx rfl (hb hby at_131) rfl ?_
        show Steps p.tables e below (T38.setTop (mkF m 132 #[.val (.long x0), .second, .val (.int x2), .val (.long x3), .second, .val (.int (2 : Int32)), .val (.ref b3)] [(.int (((x0.toUInt64 >>> ((56 : Int32) &&& 0x3f).toInt64.toUInt64).toInt64).toInt32)), (.int (2 : Int32)), (.ref b3)])) _
        refine XS.i2b X38.here hx rfl (hb hby at_132) rfl ?_
        exact k)
    obtain ⟨c103, Ar103, q103, S103, M103, H103, G103⟩ := fa38
    have hin103 : ¬ ((2 : Int32) < 0 ∨ c103.slots.size ≤ ((2 : Int32)).toNatClampNeg) := inb_of S103 ⟨by decide, by decide⟩
    obtain ⟨T103, h103, X103, e103, W103, st103⟩ := stB X38 hx hZ e38 Ar103 (j := (2 : Int32)) hin103 (g := (mkF m 133 #[.val (.long x0), .second, .val (.int x2), .val (.long x3), .second, .val (.int (2 : Int32)), .val (.ref b3)] [(.int ((((x0.toUInt64 >>> ((56 : Int32) &&& 0x3f).toInt64.toUInt64).toInt64).toInt32).toInt8.toInt32)), (.int (2 : Int32)), (.ref b3)])) rfl rfl (hb hby at_133)
    have fa103 : Arv Z h103 b3 k3 .byte (11 : Int32) [(.int (nar .byte ((x3.toInt32).toInt8.toInt32))), (.int (nar .byte ((((x3.toUInt64 >>> ((8 : Int32) &&& 0x3f).toInt64.toUInt64).toInt64).toInt32).toInt8.toInt32))), (.int (nar .byte ((((x0.toUInt64 >>> ((56 : Int32) &&& 0x3f).toInt64.toUInt64).toInt64).toInt32).toInt8.toInt32))), (.int (nar .byte ((((x3.toUInt64 >>> ((24 : Int32) &&& 0x3f).toInt64.toUInt64).toInt64).toInt32).toInt8.toInt32))), (.int (nar .byte ((((x3.toUInt64 >>> ((32 : Int32) &&& 0x3f).toInt64.toUInt64).toInt64).toInt32).toInt8.toInt32))), (.int (nar .byte ((((x3.toUInt64 >>> ((40 : Int32) &&& 0x3f).toInt64.toUInt64).toInt64).toInt32).toInt8.toInt32))), (.int (nar .byte ((((x3.toUInt64 >>> ((48 : Int32) &&& 0x3f).toInt64.toUInt64).toInt64).toInt32).toInt8.toInt32))), (.int (nar .byte ((((x3.toUInt64 >>> ((56 : Int32) &&& 0x3f).toInt64.toUInt64).toInt64).toInt32).toInt8.toInt32))), (.int (nar .byte ((((x3.toUInt64 >>> ((13 : Int32) &&& 0x3f).toInt64.toUInt64).toInt64).toInt32).toInt8.toInt32))), (.int (nar .byte ((((x3.toUInt64 >>> ((21 : Int32) &&& 0x3f).toInt64.toUInt64).toInt64).toInt32).toInt8.toInt32))), (.int (nar .byte ((((x3.toUInt64 >>> ((29 : Int32) &&& 0x3f).toInt64.toUInt64).toInt64).toInt32).toInt8.toInt32)))] (.int (0 : Int32)) := Arv.set Ar103 q103 S103 M103 H103 G103 (fits_nar_byte _) W103 2 rfl (Nat.le_of_ble_eq_true rfl)
    have N103 := Fr.snoc X103 N38 g4
    have f104 : n0 ≤ h103.size := Nat.le_trans f39 (Keep.of_wr W103).1
    have pre103 : Go p.tables e below (s₁.setTop (entryFrame m #[(.long x0), (.int x2), (.long x3)] maxLocals)) T103 (mkF m 134 #[.val (.long x0), .second, .val (.int x2), .val (.long x3), .second, .val (.int (2 : Int32)), .val (.ref b3)] []) := fun t k => pre102 t (st103 _ k)
    have pre105 : Go p.tables e below (s₁.setTop (entryFrame m #[(.long x0), (.int x2), (.long x3)] maxLocals)) T103 (mkF m 146 #[.val (.long x0), .second, .val (.int x2), .val (.long x3), .second, .val (.int (2 : Int32)), .val (.ref b3)] [(.int ((((x0.toUInt64 >>> ((48 : Int32) &&& 0x3f).toInt64.toUInt64).toInt64).toInt32).toInt8.toInt32)), (.int ((2 : Int32) + (1 : Int32))), (.ref b3)]) := fun t k => pre103 t (by
        refine XS.aload X103.here hx rfl (hb hby at_134) rfl rfl ?_
        show Steps p.tables e below (T103.setTop (mkF m 136 #[.val (.long x0), .second, .val (.int x2), .val (.long x3), .second, .val (.int (2 : Int32)), .val (.ref b3)] [(.ref b3)])) _
        refine XS.iload X103.here hx rfl (hb hby at_136) rfl ?_
        show Steps p.tables e below (T103.setTop (mkF m 138 #[.val (.long x0), .second, .val (.int x2), .val (.long x3), .second, .val (.int (2 : Int32)), .val (.ref b3)] [(.int (2 : Int32)), (.ref b3)])) _
        refine XS.iconst X103.here hx rfl (hb hby at_138) ?_
        show Steps p.tables e below (T103.setTop (mkF m 139 #[.val (.long x0), .second, .val (.int x2), .val (.long x3), .second, .val (.int (2 : Int32)), .val (.ref b3)] [(.int (1 : Int32)), (.int (2 : Int32)), (.ref b3)])) _
        refine XS.iadd X103.here hx rfl (hb hby at_139) rfl ?_
        show Steps p.tables e below (T103.setTop (mkF m 140 #[.val (.long x0), .second, .val (.int x2), .val (.long x3), .second, .val (.int (2 : Int32)), .val (.ref b3)] [(.int ((2 : Int32) + (1 : Int32))), (.ref b3)])) _
        refine XS.lloadN X103.here hx rfl (hb hby at_140) rfl ?_
        show Steps p.tables e below (T103.setTop (mkF m 141 #[.val (.long x0), .second, .val (.int x2), .val (.long x3), .second, .val (.int (2 : Int32)), .val (.ref b3)] [(.long x0), (.int ((2 : Int32) + (1 : Int32))), (.ref b3)])) _
        refine XS.bipush X103.here hx rfl (hb hby at_141) ?_
        show Steps p.tables e below (T103.setTop (mkF m 143 #[.val (.long x0), .second, .val (.int x2), .val (.long x3), .second, .val (.int (2 : Int32)), .val (.ref b3)] [(.int (48 : Int32)), (.long x0), (.int ((2 : Int32) + (1 : Int32))), (.ref b3)])) _
        refine XS.lushr X103.here hx rfl (hb hby at_143) rfl ?_
        show Steps p.tables e below (T103.setTop (mkF m 144 #[.val (.long x0), .second, .val (.int x2), .val (.long x3), .second, .val (.int (2 : Int32)), .val (.ref b3)] [(.long ((x0.toUInt64 >>> ((48 : Int32) &&& 0x3f).toInt64.toUInt64).toInt64)), (.int ((2 : Int32) + (1 : Int32))), (.ref b3)])) _
        refine XS.l2i X103.here hx rfl (hb hby at_144) rfl ?_
        show Steps p.tables e below (T103.setTop (mkF m 145 #[.val (.long x0), .second, .val (.int x2), .val (.long x3), .second, .val (.int (2 : Int32)), .val (.ref b3)] [(.int (((x0.toUInt64 >>> ((48 : Int32) &&& 0x3f).toInt64.toUInt64).toInt64).toInt32)), (.int ((2 : Int32) + (1 : Int32))), (.ref b3)])) _
        refine XS.i2b X103.here hx rfl (hb hby at_145) rfl ?_
        exact k)
    obtain ⟨c106, Ar106, q106, S106, M106, H106, G106⟩ := fa103
    have hin106 : ¬ (((2 : Int32) + (1 : Int32)) < 0 ∨ c106.slots.size ≤ (((2 : Int32) + (1 : Int32))).toNatClampNeg) := inb_of S106 ⟨by decide, by decide⟩
    obtain ⟨T106, h106, X106, e106, W106, st106⟩ := stB X103 hx hZ e103 Ar106 (j := ((2 : Int32) + (1 : Int32))) hin106 (g := (mkF m 146 #[.val (.long x0), .second, .val (.int x2), .val (.long x3), .second, .val (.int (2 : Int32)), .val (.ref b3)] [(.int ((((x0.toUInt64 >>> ((48 : Int32) &&& 0x3f).toInt64.toUInt64).toInt64).toInt32).toInt8.toInt32)), (.int ((2 : Int32) + (1 : Int32))), (.ref b3)])) rfl rfl (hb hby at_146)
    have fa106 : Arv Z h106 b3 k3 .byte (11 : Int32) [(.int (nar .byte ((x3.toInt32).toInt8.toInt32))), (.int (nar .byte ((((x3.toUInt64 >>> ((8 : Int32) &&& 0x3f).toInt64.toUInt64).toInt64).toInt32).toInt8.toInt32))), (.int (nar .byte ((((x0.toUInt64 >>> ((56 : Int32) &&& 0x3f).toInt64.toUInt64).toInt64).toInt32).toInt8.toInt32))), (.int (nar .byte ((((x0.toUInt64 >>> ((48 : Int32) &&& 0x3f).toInt64.toUInt64).toInt64).toInt32).toInt8.toInt32))), (.int (nar .byte ((((x3.toUInt64 >>> ((32 : Int32) &&& 0x3f).toInt64.toUInt64).toInt64).toInt32).toInt8.toInt32))), (.int (nar .byte ((((x3.toUInt64 >>> ((40 : Int32) &&& 0x3f).toInt64.toUInt64).toInt64).toInt32).toInt8.toInt32))), (.int (nar .byte ((((x3.toUInt64 >>> ((48 : Int32) &&& 0x3f).toInt64.toUInt64).toInt64).toInt32).toInt8.toInt32))), (.int (nar .byte ((((x3.toUInt64 >>> ((56 : Int32) &&& 0x3f).toInt64.toUInt64).toInt64).toInt32).toInt8.toInt32))), (.int (nar .byte ((((x3.toUInt64 >>> ((13 : Int32) &&& 0x3f).toInt64.toUInt64).toInt64).toInt32).toInt8.toInt32))), (.int (nar .byte ((((x3.toUInt64 >>> ((21 : Int32) &&& 0x3f).toInt64.toUInt64).toInt64).toInt32).toInt8.toInt32))), (.int (nar .byte ((((x3.toUInt64 >>> ((29 : Int32) &&& 0x3f).toInt64.toUInt64).toInt64).toInt32).toInt8.toInt32)))] (.int (0 : Int32)) := Arv.set Ar106 q106 S106 M106 H106 G106 (fits_nar_byte _) W106 3 rfl (Nat.le_of_ble_eq_true rfl)
    have N106 := Fr.snoc X106 N103 g4
    have f107 : n0 ≤ h106.size := Nat.le_trans f104 (Keep.of_wr W106).1
    have pre106 : Go p.tables e below (s₁.setTop (entryFrame m #[(.long x0), (.int x2), (.long x3)] maxLocals)) T106 (mkF m 147 #[.val (.long x0), .second, .val (.int x2), .val (.long x3), .second, .val (.int (2 : Int32)), .val (.ref b3)] []) := fun t k => pre105 t (st106 _ k)
    have pre108 : Go p.tables e below (s₁.setTop (entryFrame m #[(.long x0), (.int x2), (.long x3)] maxLocals)) T106 (mkF m 159 #[.val (.long x0), .second, .val (.int x2), .val (.long x3), .second, .val (.int (2 : Int32)), .val (.ref b3)] [(.int ((((x0.toUInt64 >>> ((40 : Int32) &&& 0x3f).toInt64.toUInt64).toInt64).toInt32).toInt8.toInt32)), (.int ((2 : Int32) + (2 : Int32))), (.ref b3)]) := fun t k => pre106 t (by
        refine XS.aload X106.here hx rfl (hb hby at_147) rfl rfl ?_
        show Steps p.tables e below (T106.setTop (mkF m 149 #[.val (.long x0), .second, .val (.int x2), .val (.long x3), .second, .val (.int (2 : Int32)), .val (.ref b3)] [(.ref b3)])) _
        refine XS.iload X106.here hx rfl (hb hby at_149) rfl ?_
        show Steps p.tables e below (T106.setTop (mkF m 151 #[.val (.long x0), .second, .val (.int x2), .val (.long x3), .second, .val (.int (2 : Int32)), .val (.ref b3)] [(.int (2 : Int32)), (.ref b3)])) _
        refine XS.iconst X106.here hx rfl (hb hby at_151) ?_
        show Steps p.tables e below (T106.setTop (mkF m 152 #[.val (.long x0), .second, .val (.int x2), .val (.long x3), .second, .val (.int (2 : Int32)), .val (.ref b3)] [(.int (2 : Int32)), (.int (2 : Int32)), (.ref b3)])) _
        refine XS.iadd X106.here hx rfl (hb hby at_152) rfl ?_
        show Steps p.tables e below (T106.setTop (mkF m 153 #[.val (.long x0), .second, .val (.int x2), .val (.long x3), .second, .val (.int (2 : Int32)), .val (.ref b3)] [(.int ((2 : Int32) + (2 : Int32))), (.ref b3)])) _
        refine XS.lloadN X106.here hx rfl (hb hby at_153) rfl ?_
        show Steps p.tables e below (T106.setTop (mkF m 154 #[.val (.long x0), .second, .val (.int x2), .val (.long x3), .second, .val (.int (2 : Int32)), .val (.ref b3)] [(.long x0), (.int ((2 : Int32) + (2 : Int32))), (.ref b3)])) _
        refine XS.bipush X106.here hx rfl (hb hby at_154) ?_
        show Steps p.tables e below (T106.setTop (mkF m 156 #[.val (.long x0), .second, .val (.int x2), .val (.long x3), .second, .val (.int (2 : Int32)), .val (.ref b3)] [(.int (40 : Int32)), (.long x0), (.int ((2 : Int32) + (2 : Int32))), (.ref b3)])) _
        refine XS.lushr X106.here hx rfl (hb hby at_156) rfl ?_
        show Steps p.tables e below (T106.setTop (mkF m 157 #[.val (.long x0), .second, .val (.int x2), .val (.long x3), .second, .val (.int (2 : Int32)), .val (.ref b3)] [(.long ((x0.toUInt64 >>> ((40 : Int32) &&& 0x3f).toInt64.toUInt64).toInt64)), (.int ((2 : Int32) + (2 : Int32))), (.ref b3)])) _
        refine XS.l2i X106.here hx rfl (hb hby at_157) rfl ?_
        show Steps p.tables e below (T106.setTop (mkF m 158 #[.val (.long x0), .second, .val (.int x2), .val (.long x3), .second, .val (.int (2 : Int32)), .val (.ref b3)] [(.int (((x0.toUInt64 >>> ((40 : Int32) &&& 0x3f).toInt64.toUInt64).toInt64).toInt32)), (.int ((2 : Int32) + (2 : Int32))), (.ref b3)])) _
        refine XS.i2b X106.here hx rfl (hb hby at_158) rfl ?_
        exact k)
    obtain ⟨c109, Ar109, q109, S109, M109, H109, G109⟩ := fa106
    have hin109 : ¬ (((2 : Int32) + (2 : Int32)) < 0 ∨ c109.slots.size ≤ (((2 : Int32) + (2 : Int32))).toNatClampNeg) := inb_of S109 ⟨by decide, by decide⟩
    obtain ⟨T109, h109, X109, e109, W109, st109⟩ := stB X106 hx hZ e106 Ar109 (j := ((2 : Int32) + (2 : Int32))) hin109 (g := (mkF m 159 #[.val (.long x0), .second, .val (.int x2), .val (.long x3), .second, .val (.int (2 : Int32)), .val (.ref b3)] [(.int ((((x0.toUInt64 >>> ((40 : Int32) &&& 0x3f).toInt64.toUInt64).toInt64).toInt32).toInt8.toInt32)), (.int ((2 : Int32) + (2 : Int32))), (.ref b3)])) rfl rfl (hb hby at_159)
    have fa109 : Arv Z h109 b3 k3 .byte (11 : Int32) [(.int (nar .byte ((x3.toInt32).toInt8.toInt32))), (.int (nar .byte ((((x3.toUInt64 >>> ((8 : Int32) &&& 0x3f).toInt64.toUInt64).toInt64).toInt32).toInt8.toInt32))), (.int (nar .byte ((((x0.toUInt64 >>> ((56 : Int32) &&& 0x3f).toInt64.toUInt64).toInt64).toInt32).toInt8.toInt32))), (.int (nar .byte ((((x0.toUInt64 >>> ((48 : Int32) &&& 0x3f).toInt64.toUInt64).toInt64).toInt32).toInt8.toInt32))), (.int (nar .byte ((((x0.toUInt64 >>> ((40 : Int32) &&& 0x3f).toInt64.toUInt64).toInt64).toInt32).toInt8.toInt32))), (.int (nar .byte ((((x3.toUInt64 >>> ((40 : Int32) &&& 0x3f).toInt64.toUInt64).toInt64).toInt32).toInt8.toInt32))), (.int (nar .byte ((((x3.toUInt64 >>> ((48 : Int32) &&& 0x3f).toInt64.toUInt64).toInt64).toInt32).toInt8.toInt32))), (.int (nar .byte ((((x3.toUInt64 >>> ((56 : Int32) &&& 0x3f).toInt64.toUInt64).toInt64).toInt32).toInt8.toInt32))), (.int (nar .byte ((((x3.toUInt64 >>> ((13 : Int32) &&& 0x3f).toInt64.toUInt64).toInt64).toInt32).toInt8.toInt32))), (.int (nar .byte ((((x3.toUInt64 >>> ((21 : Int32) &&& 0x3f).toInt64.toUInt64).toInt64).toInt32).toInt8.toInt32))), (.int (nar .byte ((((x3.toUInt64 >>> ((29 : Int32) &&& 0x3f).toInt64.toUInt64).toInt64).toInt32).toInt8.toInt32)))] (.int (0 : Int32)) := Arv.set Ar109 q109 S109 M109 H109 G109 (fits_nar_byte _) W109 4 rfl (Nat.le_of_ble_eq_true rfl)
    have N109 := Fr.snoc X109 N106 g4
    have f110 : n0 ≤ h109.size := Nat.le_trans f107 (Keep.of_wr W109).1
    have pre109 : Go p.tables e below (s₁.setTop (entryFrame m #[(.long x0), (.int x2), (.long x3)] maxLocals)) T109 (mkF m 160 #[.val (.long x0), .second, .val (.int x2), .val (.long x3), .second, .val (.int (2 : Int32)), .val (.ref b3)] []) := fun t k => pre108 t (st109 _ k)
    have pre111 : Go p.tables e below (s₁.setTop (entryFrame m #[(.long x0), (.int x2), (.long x3)] maxLocals)) T109 (mkF m 172 #[.val (.long x0), .second, .val (.int x2), .val (.long x3), .second, .val (.int (2 : Int32)), .val (.ref b3)] [(.int ((((x0.toUInt64 >>> ((32 : Int32) &&& 0x3f).toInt64.toUInt64).toInt64).toInt32).toInt8.toInt32)), (.int ((2 : Int32) + (3 : Int32))), (.ref b3)]) := fun t k => pre109 t (by
        refine XS.aload X109.here hx rfl (hb hby at_160) rfl rfl ?_
        show Steps p.tables e below (T109.setTop (mkF m 162 #[.val (.long x0), .second, .val (.int x2), .val (.long x3), .second, .val (.int (2 : Int32)), .val (.ref b3)] [(.ref b3)])) _
        refine XS.iload X109.here hx rfl (hb hby at_162) rfl ?_
        show Steps p.tables e below (T109.setTop (mkF m 164 #[.val (.long x0), .second, .val (.int x2), .val (.long x3), .second, .val (.int (2 : Int32)), .val (.ref b3)] [(.int (2 : Int32)), (.ref b3)])) _
        refine XS.iconst X109.here hx rfl (hb hby at_164) ?_
        show Steps p.tables e below (T109.setTop (mkF m 165 #[.val (.long x0), .second, .val (.int x2), .val (.long x3), .second, .val (.int (2 : Int32)), .val (.ref b3)] [(.int (3 : Int32)), (.int (2 : Int32)), (.ref b3)])) _
        refine XS.iadd X109.here hx rfl (hb hby at_165) rfl ?_
        show Steps p.tables e below (T109.setTop (mkF m 166 #[.val (.long x0), .second, .val (.int x2), .val (.long x3), .second, .val (.int (2 : Int32)), .val (.ref b3)] [(.int ((2 : Int32) + (3 : Int32))), (.ref b3)])) _
        refine XS.lloadN X109.here hx rfl (hb hby at_166) rfl ?_
        show Steps p.tables e below (T109.setTop (mkF m 167 #[.val (.long x0), .second, .val (.int x2), .val (.long x3), .second, .val (.int (2 : Int32)), .val (.ref b3)] [(.long x0), (.int ((2 : Int32) + (3 : Int32))), (.ref b3)])) _
        refine XS.bipush X109.here hx rfl (hb hby at_167) ?_
        show Steps p.tables e below (T109.setTop (mkF m 169 #[.val (.long x0), .second, .val (.int x2), .val (.long x3), .second, .val (.int (2 : Int32)), .val (.ref b3)] [(.int (32 : Int32)), (.long x0), (.int ((2 : Int32) + (3 : Int32))), (.ref b3)])) _
        refine XS.lushr X109.here hx rfl (hb hby at_169) rfl ?_
        show Steps p.tables e below (T109.setTop (mkF m 170 #[.val (.long x0), .second, .val (.int x2), .val (.long x3), .second, .val (.int (2 : Int32)), .val (.ref b3)] [(.long ((x0.toUInt64 >>> ((32 : Int32) &&& 0x3f).toInt64.toUInt64).toInt64)), (.int ((2 : Int32) + (3 : Int32))), (.ref b3)])) _
        refine XS.l2i X109.here hx rfl (hb hby at_170) rfl ?_
        show Steps p.tables e below (T109.setTop (mkF m 171 #[.val (.long x0), .second, .val (.int x2), .val (.long x3), .second, .val (.int (2 : Int32)), .val (.ref b3)] [(.int (((x0.toUInt64 >>> ((32 : Int32) &&& 0x3f).toInt64.toUInt64).toInt64).toInt32)), (.int ((2 : Int32) + (3 : Int32))), (.ref b3)])) _
        refine XS.i2b X109.here hx rfl (hb hby at_171) rfl ?_
        exact k)
    obtain ⟨c112, Ar112, q112, S112, M112, H112, G112⟩ := fa109
    have hin112 : ¬ (((2 : Int32) + (3 : Int32)) < 0 ∨ c112.slots.size ≤ (((2 : Int32) + (3 : Int32))).toNatClampNeg) := inb_of S112 ⟨by decide, by decide⟩
    obtain ⟨T112, h112, X112, e112, W112, st112⟩ := stB X109 hx hZ e109 Ar112 (j := ((2 : Int32) + (3 : Int32))) hin112 (g := (mkF m 172 #[.val (.long x0), .second, .val (.int x2), .val (.long x3), .second, .val (.int (2 : Int32)), .val (.ref b3)] [(.int ((((x0.toUInt64 >>> ((32 : Int32) &&& 0x3f).toInt64.toUInt64).toInt64).toInt32).toInt8.toInt32)), (.int ((2 : Int32) + (3 : Int32))), (.ref b3)])) rfl rfl (hb hby at_172)
    have fa112 : Arv Z h112 b3 k3 .byte (11 : Int32) [(.int (nar .byte ((x3.toInt32).toInt8.toInt32))), (.int (nar .byte ((((x3.toUInt64 >>> ((8 : Int32) &&& 0x3f).toInt64.toUInt64).toInt64).toInt32).toInt8.toInt32))), (.int (nar .byte ((((x0.toUInt64 >>> ((56 : Int32) &&& 0x3f).toInt64.toUInt64).toInt64).toInt32).toInt8.toInt32))), (.int (nar .byte ((((x0.toUInt64 >>> ((48 : Int32) &&& 0x3f).toInt64.toUInt64).toInt64).toInt32).toInt8.toInt32))), (.int (nar .byte ((((x0.toUInt64 >>> ((40 : Int32) &&& 0x3f).toInt64.toUInt64).toInt64).toInt32).toInt8.toInt32))), (.int (nar .byte ((((x0.toUInt64 >>> ((32 : Int32) &&& 0x3f).toInt64.toUInt64).toInt64).toInt32).toInt8.toInt32))), (.int (nar .byte ((((x3.toUInt64 >>> ((48 : Int32) &&& 0x3f).toInt64.toUInt64).toInt64).toInt32).toInt8.toInt32))), (.int (nar .byte ((((x3.toUInt64 >>> ((56 : Int32) &&& 0x3f).toInt64.toUInt64).toInt64).toInt32).toInt8.toInt32))), (.int (nar .byte ((((x3.toUInt64 >>> ((13 : Int32) &&& 0x3f).toInt64.toUInt64).toInt64).toInt32).toInt8.toInt32))), (.int (nar .byte ((((x3.toUInt64 >>> ((21 : Int32) &&& 0x3f).toInt64.toUInt64).toInt64).toInt32).toInt8.toInt32))), (.int (nar .byte ((((x3.toUInt64 >>> ((29 : Int32) &&& 0x3f).toInt64.toUInt64).toInt64).toInt32).toInt8.toInt32)))] (.int (0 : Int32)) := Arv.set Ar112 q112 S112 M112 H112 G112 (fits_nar_byte _) W112 5 rfl (Nat.le_of_ble_eq_true rfl)
    have N112 := Fr.snoc X112 N109 g4
    have f113 : n0 ≤ h112.size := Nat.le_trans f110 (Keep.of_wr W112).1
    have pre112 : Go p.tables e below (s₁.setTop (entryFrame m #[(.long x0), (.int x2), (.long x3)] maxLocals)) T112 (mkF m 173 #[.val (.long x0), .second, .val (.int x2), .val (.long x3), .second, .val (.int (2 : Int32)), .val (.ref b3)] []) := fun t k => pre111 t (st112 _ k)
    have pre114 : Go p.tables e below (s₁.setTop (entryFrame m #[(.long x0), (.int x2), (.long x3)] maxLocals)) T112 (mkF m 185 #[.val (.long x0), .second, .val (.int x2), .val (.long x3), .second, .val (.int (2 : Int32)), .val (.ref b3)] [(.int ((((x0.toUInt64 >>> ((24 : Int32) &&& 0x3f).toInt64.toUInt64).toInt64).toInt32).toInt8.toInt32)), (.int ((2 : Int32) + (4 : Int32))), (.ref b3)]) := fun t k => pre112 t (by
        refine XS.aload X112.here hx rfl (hb hby at_173) rfl rfl ?_
        show Steps p.tables e below (T112.setTop (mkF m 175 #[.val (.long x0), .second, .val (.int x2), .val (.long x3), .second, .val (.int (2 : Int32)), .val (.ref b3)] [(.ref b3)])) _
        refine XS.iload X112.here hx rfl (hb hby at_175) rfl ?_
        show Steps p.tables e below (T112.setTop (mkF m 177 #[.val (.long x0), .second, .val (.int x2), .val (.long x3), .second, .val (.int (2 : Int32)), .val (.ref b3)] [(.int (2 : Int32)), (.ref b3)])) _
        refine XS.iconst X112.here hx rfl (hb hby at_177) ?_
        show Steps p.tables e below (T112.setTop (mkF m 178 #[.val (.long x0), .second, .val (.int x2), .val (.long x3), .second, .val (.int (2 : Int32)), .val (.ref b3)] [(.int (4 : Int32)), (.int (2 : Int32)), (.ref b3)])) _
        refine XS.iadd X112.here hx rfl (hb hby at_178) rfl ?_
        show Steps p.tables e below (T112.setTop (mkF m 179 #[.val (.long x0), .second, .val (.int x2), .val (.long x3), .second, .val (.int (2 : Int32)), .val (.ref b3)] [(.int ((2 : Int32) + (4 : Int32))), (.ref b3)])) _
        refine XS.lloadN X112.here hx rfl (hb hby at_179) rfl ?_
        show Steps p.tables e below (T112.setTop (mkF m 180 #[.val (.long x0), .second, .val (.int x2), .val (.long x3), .second, .val (.int (2 : Int32)), .val (.ref b3)] [(.long x0), (.int ((2 : Int32) + (4 : Int32))), (.ref b3)])) _
        refine XS.bipush X112.here hx rfl (hb hby at_180) ?_
        show Steps p.tables e below (T112.setTop (mkF m 182 #[.val (.long x0), .second, .val (.int x2), .val (.long x3), .second, .val (.int (2 : Int32)), .val (.ref b3)] [(.int (24 : Int32)), (.long x0), (.int ((2 : Int32) + (4 : Int32))), (.ref b3)])) _
        refine XS.lushr X112.here hx rfl (hb hby at_182) rfl ?_
        show Steps p.tables e below (T112.setTop (mkF m 183 #[.val (.long x0), .second, .val (.int x2), .val (.long x3), .second, .val (.int (2 : Int32)), .val (.ref b3)] [(.long ((x0.toUInt64 >>> ((24 : Int32) &&& 0x3f).toInt64.toUInt64).toInt64)), (.int ((2 : Int32) + (4 : Int32))), (.ref b3)])) _
        refine XS.l2i X112.here hx rfl (hb hby at_183) rfl ?_
        show Steps p.tables e below (T112.setTop (mkF m 184 #[.val (.long x0), .second, .val (.int x2), .val (.long x3), .second, .val (.int (2 : Int32)), .val (.ref b3)] [(.int (((x0.toUInt64 >>> ((24 : Int32) &&& 0x3f).toInt64.toUInt64).toInt64).toInt32)), (.int ((2 : Int32) + (4 : Int32))), (.ref b3)])) _
        refine XS.i2b X112.here hx rfl (hb hby at_184) rfl ?_
        exact k)
    obtain ⟨c115, Ar115, q115, S115, M115, H115, G115⟩ := fa112
    have hin115 : ¬ (((2 : Int32) + (4 : Int32)) < 0 ∨ c115.slots.size ≤ (((2 : Int32) + (4 : Int32))).toNatClampNeg) := inb_of S115 ⟨by decide, by decide⟩
    obtain ⟨T115, h115, X115, e115, W115, st115⟩ := stB X112 hx hZ e112 Ar115 (j := ((2 : Int32) + (4 : Int32))) hin115 (g := (mkF m 185 #[.val (.long x0), .second, .val (.int x2), .val (.long x3), .second, .val (.int (2 : Int32)), .val (.ref b3)] [(.int ((((x0.toUInt64 >>> ((24 : Int32) &&& 0x3f).toInt64.toUInt64).toInt64).toInt32).toInt8.toInt32)), (.int ((2 : Int32) + (4 : Int32))), (.ref b3)])) rfl rfl (hb hby at_185)
    have fa115 : Arv Z h115 b3 k3 .byte (11 : Int32) [(.int (nar .byte ((x3.toInt32).toInt8.toInt32))), (.int (nar .byte ((((x3.toUInt64 >>> ((8 : Int32) &&& 0x3f).toInt64.toUInt64).toInt64).toInt32).toInt8.toInt32))), (.int (nar .byte ((((x0.toUInt64 >>> ((56 : Int32) &&& 0x3f).toInt64.toUInt64).toInt64).toInt32).toInt8.toInt32))), (.int (nar .byte ((((x0.toUInt64 >>> ((48 : Int32) &&& 0x3f).toInt64.toUInt64).toInt64).toInt32).toInt8.toInt32))), (.int (nar .byte ((((x0.toUInt64 >>> ((40 : Int32) &&& 0x3f).toInt64.toUInt64).toInt64).toInt32).toInt8.toInt32))), (.int (nar .byte ((((x0.toUInt64 >>> ((32 : Int32) &&& 0x3f).toInt64.toUInt64).toInt64).toInt32).toInt8.toInt32))), (.int (nar .byte ((((x0.toUInt64 >>> ((24 : Int32) &&& 0x3f).toInt64.toUInt64).toInt64).toInt32).toInt8.toInt32))), (.int (nar .byte ((((x3.toUInt64 >>> ((56 : Int32) &&& 0x3f).toInt64.toUInt64).toInt64).toInt32).toInt8.toInt32))), (.int (nar .byte ((((x3.toUInt64 >>> ((13 : Int32) &&& 0x3f).toInt64.toUInt64).toInt64).toInt32).toInt8.toInt32))), (.int (nar .byte ((((x3.toUInt64 >>> ((21 : Int32) &&& 0x3f).toInt64.toUInt64).toInt64).toInt32).toInt8.toInt32))), (.int (nar .byte ((((x3.toUInt64 >>> ((29 : Int32) &&& 0x3f).toInt64.toUInt64).toInt64).toInt32).toInt8.toInt32)))] (.int (0 : Int32)) := Arv.set Ar115 q115 S115 M115 H115 G115 (fits_nar_byte _) W115 6 rfl (Nat.le_of_ble_eq_true rfl)
    have N115 := Fr.snoc X115 N112 g4
    have f116 : n0 ≤ h115.size := Nat.le_trans f113 (Keep.of_wr W115).1
    have pre115 : Go p.tables e below (s₁.setTop (entryFrame m #[(.long x0), (.int x2), (.long x3)] maxLocals)) T115 (mkF m 186 #[.val (.long x0), .second, .val (.int x2), .val (.long x3), .second, .val (.int (2 : Int32)), .val (.ref b3)] []) := fun t k => pre114 t (st115 _ k)
    have pre117 : Go p.tables e below (s₁.setTop (entryFrame m #[(.long x0), (.int x2), (.long x3)] maxLocals)) T115 (mkF m 198 #[.val (.long x0), .second, .val (.int x2), .val (.long x3), .second, .val (.int (2 : Int32)), .val (.ref b3)] [(.int ((((x0.toUInt64 >>> ((16 : Int32) &&& 0x3f).toInt64.toUInt64).toInt64).toInt32).toInt8.toInt32)), (.int ((2 : Int32) + (5 : Int32))), (.ref b3)]) := fun t k => pre115 t (by
        refine XS.aload X115.here hx rfl (hb hby at_186) rfl rfl ?_
        show Steps p.tables e below (T115.setTop (mkF m 188 #[.val (.long x0), .second, .val (.int x2), .val (.long x3), .second, .val (.int (2 : Int32)), .val (.ref b3)] [(.ref b3)])) _
        refine XS.iload X115.here hx rfl (hb hby at_188) rfl ?_
        show Steps p.tables e below (T115.setTop (mkF m 190 #[.val (.long x0), .second, .val (.int x2), .val (.long x3), .second, .val (.int (2 : Int32)), .val (.ref b3)] [(.int (2 : Int32)), (.ref b3)])) _
        refine XS.iconst X115.here hx rfl (hb hby at_190) ?_
        show Steps p.tables e below (T115.setTop (mkF m 191 #[.val (.long x0), .second, .val (.int x2), .val (.long x3), .second, .val (.int (2 : Int32)), .val (.ref b3)] [(.int (5 : Int32)), (.int (2 : Int32)), (.ref b3)])) _
        refine XS.iadd X115.here hx rfl (hb hby at_191) rfl ?_
        show Steps p.tables e below (T115.setTop (mkF m 192 #[.val (.long x0), .second, .val (.int x2), .val (.long x3), .second, .val (.int (2 : Int32)), .val (.ref b3)] [(.int ((2 : Int32) + (5 : Int32))), (.ref b3)])) _
        refine XS.lloadN X115.here hx rfl (hb hby at_192) rfl ?_
        show Steps p.tables e below (T115.setTop (mkF m 193 #[.val (.long x0), .second, .val (.int x2), .val (.long x3), .second, .val (.int (2 : Int32)), .val (.ref b3)] [(.long x0), (.int ((2 : Int32) + (5 : Int32))), (.ref b3)])) _
        refine XS.bipush X115.here hx rfl (hb hby at_193) ?_
        show Steps p.tables e below (T115.setTop (mkF m 195 #[.val (.long x0), .second, .val (.int x2), .val (.long x3), .second, .val (.int (2 : Int32)), .val (.ref b3)] [(.int (16 : Int32)), (.long x0), (.int ((2 : Int32) + (5 : Int32))), (.ref b3)])) _
        refine XS.lushr X115.here hx rfl (hb hby at_195) rfl ?_
        show Steps p.tables e below (T115.setTop (mkF m 196 #[.val (.long x0), .second, .val (.int x2), .val (.long x3), .second, .val (.int (2 : Int32)), .val (.ref b3)] [(.long ((x0.toUInt64 >>> ((16 : Int32) &&& 0x3f).toInt64.toUInt64).toInt64)), (.int ((2 : Int32) + (5 : Int32))), (.ref b3)])) _
        refine XS.l2i X115.here hx rfl (hb hby at_196) rfl ?_
        show Steps p.tables e below (T115.setTop (mkF m 197 #[.val (.long x0), .second, .val (.int x2), .val (.long x3), .second, .val (.int (2 : Int32)), .val (.ref b3)] [(.int (((x0.toUInt64 >>> ((16 : Int32) &&& 0x3f).toInt64.toUInt64).toInt64).toInt32)), (.int ((2 : Int32) + (5 : Int32))), (.ref b3)])) _
        refine XS.i2b X115.here hx rfl (hb hby at_197) rfl ?_
        exact k)
    obtain ⟨c118, Ar118, q118, S118, M118, H118, G118⟩ := fa115
    have hin118 : ¬ (((2 : Int32) + (5 : Int32)) < 0 ∨ c118.slots.size ≤ (((2 : Int32) + (5 : Int32))).toNatClampNeg) := inb_of S118 ⟨by decide, by decide⟩
    obtain ⟨T118, h118, X118, e118, W118, st118⟩ := stB X115 hx hZ e115 Ar118 (j := ((2 : Int32) + (5 : Int32))) hin118 (g := (mkF m 198 #[.val (.long x0), .second, .val (.int x2), .val (.long x3), .second, .val (.int (2 : Int32)), .val (.ref b3)] [(.int ((((x0.toUInt64 >>> ((16 : Int32) &&& 0x3f).toInt64.toUInt64).toInt64).toInt32).toInt8.toInt32)), (.int ((2 : Int32) + (5 : Int32))), (.ref b3)])) rfl rfl (hb hby at_198)
    have fa118 : Arv Z h118 b3 k3 .byte (11 : Int32) [(.int (nar .byte ((x3.toInt32).toInt8.toInt32))), (.int (nar .byte ((((x3.toUInt64 >>> ((8 : Int32) &&& 0x3f).toInt64.toUInt64).toInt64).toInt32).toInt8.toInt32))), (.int (nar .byte ((((x0.toUInt64 >>> ((56 : Int32) &&& 0x3f).toInt64.toUInt64).toInt64).toInt32).toInt8.toInt32))), (.int (nar .byte ((((x0.toUInt64 >>> ((48 : Int32) &&& 0x3f).toInt64.toUInt64).toInt64).toInt32).toInt8.toInt32))), (.int (nar .byte ((((x0.toUInt64 >>> ((40 : Int32) &&& 0x3f).toInt64.toUInt64).toInt64).toInt32).toInt8.toInt32))), (.int (nar .byte ((((x0.toUInt64 >>> ((32 : Int32) &&& 0x3f).toInt64.toUInt64).toInt64).toInt32).toInt8.toInt32))), (.int (nar .byte ((((x0.toUInt64 >>> ((24 : Int32) &&& 0x3f).toInt64.toUInt64).toInt64).toInt32).toInt8.toInt32))), (.int (nar .byte ((((x0.toUInt64 >>> ((16 : Int32) &&& 0x3f).toInt64.toUInt64).toInt64).toInt32).toInt8.toInt32))), (.int (nar .byte ((((x3.toUInt64 >>> ((13 : Int32) &&& 0x3f).toInt64.toUInt64).toInt64).toInt32).toInt8.toInt32))), (.int (nar .byte ((((x3.toUInt64 >>> ((21 : Int32) &&& 0x3f).toInt64.toUInt64).toInt64).toInt32).toInt8.toInt32))), (.int (nar .byte ((((x3.toUInt64 >>> ((29 : Int32) &&& 0x3f).toInt64.toUInt64).toInt64).toInt32).toInt8.toInt32)))] (.int (0 : Int32)) := Arv.set Ar118 q118 S118 M118 H118 G118 (fits_nar_byte _) W118 7 rfl (Nat.le_of_ble_eq_true rfl)
    have N118 := Fr.snoc X118 N115 g4
    have f119 : n0 ≤ h118.size := Nat.le_trans f116 (Keep.of_wr W118).1
    have pre118 : Go p.tables e below (s₁.setTop (entryFrame m #[(.long x0), (.int x2), (.long x3)] maxLocals)) T118 (mkF m 199 #[.val (.long x0), .second, .val (.int x2), .val (.long x3), .second, .val (.int (2 : Int32)), .val (.ref b3)] []) := fun t k => pre117 t (st118 _ k)
    have pre120 : Go p.tables e below (s₁.setTop (entryFrame m #[(.long x0), (.int x2), (.long x3)] maxLocals)) T118 (mkF m 212 #[.val (.long x0), .second, .val (.int x2), .val (.long x3), .second, .val (.int (2 : Int32)), .val (.ref b3)] [(.int ((((x0.toUInt64 >>> ((8 : Int32) &&& 0x3f).toInt64.toUInt64).toInt64).toInt32).toInt8.toInt32)), (.int ((2 : Int32) + (6 : Int32))), (.ref b3)]) := fun t k => pre118 t (by
        refine XS.aload X118.here hx rfl (hb hby at_199) rfl rfl ?_
        show Steps p.tables e below (T118.setTop (mkF m 201 #[.val (.long x0), .second, .val (.int x2), .val (.long x3), .second, .val (.int (2 : Int32)), .val (.ref b3)] [(.ref b3)])) _
        refine XS.iload X118.here hx rfl (hb hby at_201) rfl ?_
        show Steps p.tables e below (T118.setTop (mkF m 203 #[.val (.long x0), .second, .val (.int x2), .val (.long x3), .second, .val (.int (2 : Int32)), .val (.ref b3)] [(.int (2 : Int32)), (.ref b3)])) _
        refine XS.bipush X118.here hx rfl (hb hby at_203) ?_
        show Steps p.tables e below (T118.setTop (mkF m 205 #[.val (.long x0), .second, .val (.int x2), .val (.long x3), .second, .val (.int (2 : Int32)), .val (.ref b3)] [(.int (6 : Int32)), (.int (2 : Int32)), (.ref b3)])) _
        refine XS.iadd X118.here hx rfl (hb hby at_205) rfl ?_
        show Steps p.tables e below (T118.setTop (mkF m 206 #[.val (.long x0), .second, .val (.int x2), .val (.long x3), .second, .val (.int (2 : Int32)), .val (.ref b3)] [(.int ((2 : Int32) + (6 : Int32))), (.ref b3)])) _
        refine XS.lloadN X118.here hx rfl (hb hby at_206) rfl ?_
        show Steps p.tables e below (T118.setTop (mkF m 207 #[.val (.long x0), .second, .val (.int x2), .val (.long x3), .second, .val (.int (2 : Int32)), .val (.ref b3)] [(.long x0), (.int ((2 : Int32) + (6 : Int32))), (.ref b3)])) _
        refine XS.bipush X118.here hx rfl (hb hby at_207) ?_
        show Steps p.tables e below (T118.setTop (mkF m 209 #[.val (.long x0), .second, .val (.int x2), .val (.long x3), .second, .val (.int (2 : Int32)), .val (.ref b3)] [(.int (8 : Int32)), (.long x0), (.int ((2 : Int32) + (6 : Int32))), (.ref b3)])) _
        refine XS.lushr X118.here hx rfl (hb hby at_209) rfl ?_
        show Steps p.tables e below (T118.setTop (mkF m 210 #[.val (.long x0), .second, .val (.int x2), .val (.long x3), .second, .val (.int (2 : Int32)), .val (.ref b3)] [(.long ((x0.toUInt64 >>> ((8 : Int32) &&& 0x3f).toInt64.toUInt64).toInt64)), (.int ((2 : Int32) + (6 : Int32))), (.ref b3)])) _
        refine XS.l2i X118.here hx rfl (hb hby at_210) rfl ?_
        show Steps p.tables e below (T118.setTop (mkF m 211 #[.val (.long x0), .second, .val (.int x2), .val (.long x3), .second, .val (.int (2 : Int32)), .val (.ref b3)] [(.int (((x0.toUInt64 >>> ((8 : Int32) &&& 0x3f).toInt64.toUInt64).toInt64).toInt32)), (.int ((2 : Int32) + (6 : Int32))), (.ref b3)])) _
        refine XS.i2b X118.here hx rfl (hb hby at_211) rfl ?_
        exact k)
    obtain ⟨c121, Ar121, q121, S121, M121, H121, G121⟩ := fa118
    have hin121 : ¬ (((2 : Int32) + (6 : Int32)) < 0 ∨ c121.slots.size ≤ (((2 : Int32) + (6 : Int32))).toNatClampNeg) := inb_of S121 ⟨by decide, by decide⟩
    obtain ⟨T121, h121, X121, e121, W121, st121⟩ := stB X118 hx hZ e118 Ar121 (j := ((2 : Int32) + (6 : Int32))) hin121 (g := (mkF m 212 #[.val (.long x0), .second, .val (.int x2), .val (.long x3), .second, .val (.int (2 : Int32)), .val (.ref b3)] [(.int ((((x0.toUInt64 >>> ((8 : Int32) &&& 0x3f).toInt64.toUInt64).toInt64).toInt32).toInt8.toInt32)), (.int ((2 : Int32) + (6 : Int32))), (.ref b3)])) rfl rfl (hb hby at_212)
    have fa121 : Arv Z h121 b3 k3 .byte (11 : Int32) [(.int (nar .byte ((x3.toInt32).toInt8.toInt32))), (.int (nar .byte ((((x3.toUInt64 >>> ((8 : Int32) &&& 0x3f).toInt64.toUInt64).toInt64).toInt32).toInt8.toInt32))), (.int (nar .byte ((((x0.toUInt64 >>> ((56 : Int32) &&& 0x3f).toInt64.toUInt64).toInt64).toInt32).toInt8.toInt32))), (.int (nar .byte ((((x0.toUInt64 >>> ((48 : Int32) &&& 0x3f).toInt64.toUInt64).toInt64).toInt32).toInt8.toInt32))), (.int (nar .byte ((((x0.toUInt64 >>> ((40 : Int32) &&& 0x3f).toInt64.toUInt64).toInt64).toInt32).toInt8.toInt32))), (.int (nar .byte ((((x0.toUInt64 >>> ((32 : Int32) &&& 0x3f).toInt64.toUInt64).toInt64).toInt32).toInt8.toInt32))), (.int (nar .byte ((((x0.toUInt64 >>> ((24 : Int32) &&& 0x3f).toInt64.toUInt64).toInt64).toInt32).toInt8.toInt32))), (.int (nar .byte ((((x0.toUInt64 >>> ((16 : Int32) &&& 0x3f).toInt64.toUInt64).toInt64).toInt32).toInt8.toInt32))), (.int (nar .byte ((((x0.toUInt64 >>> ((8 : Int32) &&& 0x3f).toInt64.toUInt64).toInt64).toInt32).toInt8.toInt32))), (.int (nar .byte ((((x3.toUInt64 >>> ((21 : Int32) &&& 0x3f).toInt64.toUInt64).toInt64).toInt32).toInt8.toInt32))), (.int (nar .byte ((((x3.toUInt64 >>> ((29 : Int32) &&& 0x3f).toInt64.toUInt64).toInt64).toInt32).toInt8.toInt32)))] (.int (0 : Int32)) := Arv.set Ar121 q121 S121 M121 H121 G121 (fits_nar_byte _) W121 8 rfl (Nat.le_of_ble_eq_true rfl)
    have N121 := Fr.snoc X121 N118 g4
    have f122 : n0 ≤ h121.size := Nat.le_trans f119 (Keep.of_wr W121).1
    have pre121 : Go p.tables e below (s₁.setTop (entryFrame m #[(.long x0), (.int x2), (.long x3)] maxLocals)) T121 (mkF m 213 #[.val (.long x0), .second, .val (.int x2), .val (.long x3), .second, .val (.int (2 : Int32)), .val (.ref b3)] []) := fun t k => pre120 t (st121 _ k)
    have pre123 : Go p.tables e below (s₁.setTop (entryFrame m #[(.long x0), (.int x2), (.long x3)] maxLocals)) T121 (mkF m 223 #[.val (.long x0), .second, .val (.int x2), .val (.long x3), .second, .val (.int (2 : Int32)), .val (.ref b3)] [(.int ((x0.toInt32).toInt8.toInt32)), (.int ((2 : Int32) + (7 : Int32))), (.ref b3)]) := fun t k => pre121 t (by
        refine XS.aload X121.here hx rfl (hb hby at_213) rfl rfl ?_
        show Steps p.tables e below (T121.setTop (mkF m 215 #[.val (.long x0), .second, .val (.int x2), .val (.long x3), .second, .val (.int (2 : Int32)), .val (.ref b3)] [(.ref b3)])) _
        refine XS.iload X121.here hx rfl (hb hby at_215) rfl ?_
        show Steps p.tables e below (T121.setTop (mkF m 217 #[.val (.long x0), .second, .val (.int x2), .val (.long x3), .second, .val (.int (2 : Int32)), .val (.ref b3)] [(.int (2 : Int32)), (.ref b3)])) _
        refine XS.bipush X121.here hx rfl (hb hby at_217) ?_
        show Steps p.tables e below (T121.setTop (mkF m 219 #[.val (.long x0), .second, .val (.int x2), .val (.long x3), .second, .val (.int (2 : Int32)), .val (.ref b3)] [(.int (7 : Int32)), (.int (2 : Int32)), (.ref b3)])) _
        refine XS.iadd X121.here hx rfl (hb hby at_219) rfl ?_
        show Steps p.tables e below (T121.setTop (mkF m 220 #[.val (.long x0), .second, .val (.int x2), .val (.long x3), .second, .val (.int (2 : Int32)), .val (.ref b3)] [(.int ((2 : Int32) + (7 : Int32))), (.ref b3)])) _
        refine XS.lloadN X121.here hx rfl (hb hby at_220) rfl ?_
        show Steps p.tables e below (T121.setTop (mkF m 221 #[.val (.long x0), .second, .val (.int x2), .val (.long x3), .second, .val (.int (2 : Int32)), .val (.ref b3)] [(.long x0), (.int ((2 : Int32) + (7 : Int32))), (.ref b3)])) _
        refine XS.l2i X121.here hx rfl (hb hby at_221) rfl ?_
        show Steps p.tables e below (T121.setTop (mkF m 222 #[.val (.long x0), .second, .val (.int x2), .val (.long x3), .second, .val (.int (2 : Int32)), .val (.ref b3)] [(.int (x0.toInt32)), (.int ((2 : Int32) + (7 : Int32))), (.ref b3)])) _
        refine XS.i2b X121.here hx rfl (hb hby at_222) rfl ?_
        exact k)
    obtain ⟨c124, Ar124, q124, S124, M124, H124, G124⟩ := fa121
    have hin124 : ¬ (((2 : Int32) + (7 : Int32)) < 0 ∨ c124.slots.size ≤ (((2 : Int32) + (7 : Int32))).toNatClampNeg) := inb_of S124 ⟨by decide, by decide⟩
    obtain ⟨T124, h124, X124, e124, W124, st124⟩ := stB X121 hx hZ e121 Ar124 (j := ((2 : Int32) + (7 : Int32))) hin124 (g := (mkF m 223 #[.val (.long x0), .second, .val (.int x2), .val (.long x3), .second, .val (.int (2 : Int32)), .val (.ref b3)] [(.int ((x0.toInt32).toInt8.toInt32)), (.int ((2 : Int32) + (7 : Int32))), (.ref b3)])) rfl rfl (hb hby at_223)
    have fa124 : Arv Z h124 b3 k3 .byte (11 : Int32) [(.int (nar .byte ((x3.toInt32).toInt8.toInt32))), (.int (nar .byte ((((x3.toUInt64 >>> ((8 : Int32) &&& 0x3f).toInt64.toUInt64).toInt64).toInt32).toInt8.toInt32))), (.int (nar .byte ((((x0.toUInt64 >>> ((56 : Int32) &&& 0x3f).toInt64.toUInt64).toInt64).toInt32).toInt8.toInt32))), (.int (nar .byte ((((x0.toUInt64 >>> ((48 : Int32) &&& 0x3f).toInt64.toUInt64).toInt64).toInt32).toInt8.toInt32))), (.int (nar .byte ((((x0.toUInt64 >>> ((40 : Int32) &&& 0x3f).toInt64.toUInt64).toInt64).toInt32).toInt8.toInt32))), (.int (nar .byte ((((x0.toUInt64 >>> ((32 : Int32) &&& 0x3f).toInt64.toUInt64).toInt64).toInt32).toInt8.toInt32))), (.int (nar .byte ((((x0.toUInt64 >>> ((24 : Int32) &&& 0x3f).toInt64.toUInt64).toInt64).toInt32).toInt8.toInt32))), (.int (nar .byte ((((x0.toUInt64 >>> ((16 : Int32) &&& 0x3f).toInt64.toUInt64).toInt64).toInt32).toInt8.toInt32))), (.int (nar .byte ((((x0.toUInt64 >>> ((8 : Int32) &&& 0x3f).toInt64.toUInt64).toInt64).toInt32).toInt8.toInt32))), (.int (nar .byte ((x0.toInt32).toInt8.toInt32))), (.int (nar .byte ((((x3.toUInt64 >>> ((29 : Int32) &&& 0x3f).toInt64.toUInt64).toInt64).toInt32).toInt8.toInt32)))] (.int (0 : Int32)) := Arv.set Ar124 q124 S124 M124 H124 G124 (fits_nar_byte _) W124 9 rfl (Nat.le_of_ble_eq_true rfl)
    have N124 := Fr.snoc X124 N121 g4
    have f125 : n0 ≤ h124.size := Nat.le_trans f122 (Keep.of_wr W124).1
    have pre124 : Go p.tables e below (s₁.setTop (entryFrame m #[(.long x0), (.int x2), (.long x3)] maxLocals)) T124 (mkF m 224 #[.val (.long x0), .second, .val (.int x2), .val (.long x3), .second, .val (.int (2 : Int32)), .val (.ref b3)] []) := fun t k => pre123 t (st124 _ k)
    have pre126 : Go p.tables e below (s₁.setTop (entryFrame m #[(.long x0), (.int x2), (.long x3)] maxLocals)) T124 (mkF m 228 #[.val (.long x0), .second, .val (.int x2), .val (.long x3), .second, .val (.int (2 : Int32)), .val (.ref b3)] [(.int (2 : Int32)), (.ref b3)]) := fun t k => pre124 t (by
        refine XS.aload X124.here hx rfl (hb hby at_224) rfl rfl ?_
        show Steps p.tables e below (T124.setTop (mkF m 226 #[.val (.long x0), .second, .val (.int x2), .val (.long x3), .second, .val (.int (2 : Int32)), .val (.ref b3)] [(.ref b3)])) _
        refine XS.iload X124.here hx rfl (hb hby at_226) rfl ?_
        exact k)
    obtain ⟨c128, Ar128, q128, S128, M128, H128, G128⟩ := fa124
    have hi128_0 : ¬ ((2 : Int32) < 0 ∨ c128.slots.size ≤ ((2 : Int32)).toNatClampNeg) := inb_of S128 ⟨by decide, by decide⟩
    have hi128_1 : ¬ (((2 : Int32) + (1 : Int32)) < 0 ∨ c128.slots.size ≤ (((2 : Int32) + (1 : Int32))).toNatClampNeg) := inb_of S128 ⟨by decide, by decide⟩
    have hi128_2 : ¬ (((2 : Int32) + (2 : Int32)) < 0 ∨ c128.slots.size ≤ (((2 : Int32) + (2 : Int32))).toNatClampNeg) := inb_of S128 ⟨by decide, by decide⟩
    have hi128_3 : ¬ (((2 : Int32) + (3 : Int32)) < 0 ∨ c128.slots.size ≤ (((2 : Int32) + (3 : Int32))).toNatClampNeg) := inb_of S128 ⟨by decide, by decide⟩
    have hi128_4 : ¬ (((2 : Int32) + (4 : Int32)) < 0 ∨ c128.slots.size ≤ (((2 : Int32) + (4 : Int32))).toNatClampNeg) := inb_of S128 ⟨by decide, by decide⟩
    have hi128_5 : ¬ (((2 : Int32) + (5 : Int32)) < 0 ∨ c128.slots.size ≤ (((2 : Int32) + (5 : Int32))).toNatClampNeg) := inb_of S128 ⟨by decide, by decide⟩
    have hi128_6 : ¬ (((2 : Int32) + (6 : Int32)) < 0 ∨ c128.slots.size ≤ (((2 : Int32) + (6 : Int32))).toNatClampNeg) := inb_of S128 ⟨by decide, by decide⟩
    have hi128_7 : ¬ (((2 : Int32) + (7 : Int32)) < 0 ∨ c128.slots.size ≤ (((2 : Int32) + (7 : Int32))).toNatClampNeg) := inb_of S128 ⟨by decide, by decide⟩
    obtain ⟨_, _, ⟨T127, L127, k127, n127⟩, -, X127, ⟨Lc127, hQ127, l127, y127, z127⟩, st127⟩ := Jvm.LawKit.callS X124 hx (y := (⟨"com/example/fence/fence/util/BigEndian", "longAt", "([BI)J"⟩ : MethodName)) hown (mvT hZ (hw _ (List.mem_of_getElem? (i := 1) rfl))) (mvT hZ (hw _ (List.mem_of_getElem? (i := 2) rfl))) (mvT hZ (hw _ (List.mem_of_getElem? (i := 3) rfl))) (mvT hZ (hw _ (List.mem_of_getElem? (i := 4) rfl))) (by decide) (backOf (W := 0) (rm_la l Z a0 hw [] b3 (2 : Int32) c128 (nar .byte ((((x0.toUInt64 >>> ((56 : Int32) &&& 0x3f).toInt64.toUInt64).toInt64).toInt32).toInt8.toInt32)) (nar .byte ((((x0.toUInt64 >>> ((48 : Int32) &&& 0x3f).toInt64.toUInt64).toInt64).toInt32).toInt8.toInt32)) (nar .byte ((((x0.toUInt64 >>> ((40 : Int32) &&& 0x3f).toInt64.toUInt64).toInt64).toInt32).toInt8.toInt32)) (nar .byte ((((x0.toUInt64 >>> ((32 : Int32) &&& 0x3f).toInt64.toUInt64).toInt64).toInt32).toInt8.toInt32)) (nar .byte ((((x0.toUInt64 >>> ((24 : Int32) &&& 0x3f).toInt64.toUInt64).toInt64).toInt32).toInt8.toInt32)) (nar .byte ((((x0.toUInt64 >>> ((16 : Int32) &&& 0x3f).toInt64.toUInt64).toInt64).toInt32).toInt8.toInt32)) (nar .byte ((((x0.toUInt64 >>> ((8 : Int32) &&& 0x3f).toInt64.toUInt64).toInt64).toInt32).toInt8.toInt32)) (nar .byte ((x0.toInt32).toInt8.toInt32)) h124 n0 Ar128 hi128_0 hi128_1 hi128_2 hi128_3 hi128_4 hi128_5 hi128_6 hi128_7 (H128.at hi128_0 rfl) (H128.at hi128_1 rfl) (H128.at hi128_2 rfl) (H128.at hi128_3 rfl) (H128.at hi128_4 rfl) (H128.at hi128_5 rfl) (H128.at hi128_6 rfl) (H128.at hi128_7 rfl)) hZ (hw _ (List.mem_of_getElem? (i := 4) rfl)) (hw _ (List.mem_of_getElem? (i := 3) rfl)) (by decide) (by decide)) (g := (mkF m 228 #[.val (.long x0), .second, .val (.int x2), .val (.long x3), .second, .val (.int (2 : Int32)), .val (.ref b3)] [(.int (2 : Int32)), (.ref b3)])) rfl (by rw [hml]; rfl) (argsL := [(.ref b3), (.int (2 : Int32))]) (rest := []) (lenOf pd_0 rfl) rfl (by show 2 * 0 + _ ≤ _; exact Nat.le_of_eq rfl) (hb hby at_228) (fun _ _ => ⟨rfl, e124, (by decide : 1 + 0 ≤ _), (by decide : 11 + 0 ≤ _)⟩)
    dsimp only [Pt.U, Pt.locs, Pt.cells, Pt.slots] at X127 l127 y127 z127 st127 hQ127
    subst l127 y127 z127
    obtain ⟨rfl, N127q, e127⟩ := hQ127
    have N127 := Fr.app N124 N127q
    have pre127 : Go p.tables e below (s₁.setTop (entryFrame m #[(.long x0), (.int x2), (.long x3)] maxLocals)) T127 (mkF m 231 #[.val (.long x0), .second, .val (.int x2), .val (.long x3), .second, .val (.int (2 : Int32)), .val (.ref b3)] [(.long (own_long (nar .byte ((((x0.toUInt64 >>> ((56 : Int32) &&& 0x3f).toInt64.toUInt64).toInt64).toInt32).toInt8.toInt32)) (nar .byte ((((x0.toUInt64 >>> ((48 : Int32) &&& 0x3f).toInt64.toUInt64).toInt64).toInt32).toInt8.toInt32)) (nar .byte ((((x0.toUInt64 >>> ((40 : Int32) &&& 0x3f).toInt64.toUInt64).toInt64).toInt32).toInt8.toInt32)) (nar .byte ((((x0.toUInt64 >>> ((32 : Int32) &&& 0x3f).toInt64.toUInt64).toInt64).toInt32).toInt8.toInt32)) (nar .byte ((((x0.toUInt64 >>> ((24 : Int32) &&& 0x3f).toInt64.toUInt64).toInt64).toInt32).toInt8.toInt32)) (nar .byte ((((x0.toUInt64 >>> ((16 : Int32) &&& 0x3f).toInt64.toUInt64).toInt64).toInt32).toInt8.toInt32)) (nar .byte ((((x0.toUInt64 >>> ((8 : Int32) &&& 0x3f).toInt64.toUInt64).toInt64).toInt32).toInt8.toInt32)) (nar .byte ((x0.toInt32).toInt8.toInt32))))]) := fun t k => pre126 t (st127 _ k)
    have pre129 : Go p.tables e below (s₁.setTop (entryFrame m #[(.long x0), (.int x2), (.long x3)] maxLocals)) T127 (mkF m 233 #[.val (.long x0), .second, .val (.int x2), .val (.long x3), .second, .val (.int (2 : Int32)), .val (.ref b3)] [(.int (lcmpW (own_long (nar .byte ((((x0.toUInt64 >>> ((56 : Int32) &&& 0x3f).toInt64.toUInt64).toInt64).toInt32).toInt8.toInt32)) (nar .byte ((((x0.toUInt64 >>> ((48 : Int32) &&& 0x3f).toInt64.toUInt64).toInt64).toInt32).toInt8.toInt32)) (nar .byte ((((x0.toUInt64 >>> ((40 : Int32) &&& 0x3f).toInt64.toUInt64).toInt64).toInt32).toInt8.toInt32)) (nar .byte ((((x0.toUInt64 >>> ((32 : Int32) &&& 0x3f).toInt64.toUInt64).toInt64).toInt32).toInt8.toInt32)) (nar .byte ((((x0.toUInt64 >>> ((24 : Int32) &&& 0x3f).toInt64.toUInt64).toInt64).toInt32).toInt8.toInt32)) (nar .byte ((((x0.toUInt64 >>> ((16 : Int32) &&& 0x3f).toInt64.toUInt64).toInt64).toInt32).toInt8.toInt32)) (nar .byte ((((x0.toUInt64 >>> ((8 : Int32) &&& 0x3f).toInt64.toUInt64).toInt64).toInt32).toInt8.toInt32)) (nar .byte ((x0.toInt32).toInt8.toInt32))) x0))]) := fun t k => pre127 t (by
        refine XS.lloadN X127.here hx rfl (hb hby at_231) rfl ?_
        show Steps p.tables e below (T127.setTop (mkF m 232 #[.val (.long x0), .second, .val (.int x2), .val (.long x3), .second, .val (.int (2 : Int32)), .val (.ref b3)] [(.long x0), (.long (own_long (nar .byte ((((x0.toUInt64 >>> ((56 : Int32) &&& 0x3f).toInt64.toUInt64).toInt64).toInt32).toInt8.toInt32)) (nar .byte ((((x0.toUInt64 >>> ((48 : Int32) &&& 0x3f).toInt64.toUInt64).toInt64).toInt32).toInt8.toInt32)) (nar .byte ((((x0.toUInt64 >>> ((40 : Int32) &&& 0x3f).toInt64.toUInt64).toInt64).toInt32).toInt8.toInt32)) (nar .byte ((((x0.toUInt64 >>> ((32 : Int32) &&& 0x3f).toInt64.toUInt64).toInt64).toInt32).toInt8.toInt32)) (nar .byte ((((x0.toUInt64 >>> ((24 : Int32) &&& 0x3f).toInt64.toUInt64).toInt64).toInt32).toInt8.toInt32)) (nar .byte ((((x0.toUInt64 >>> ((16 : Int32) &&& 0x3f).toInt64.toUInt64).toInt64).toInt32).toInt8.toInt32)) (nar .byte ((((x0.toUInt64 >>> ((8 : Int32) &&& 0x3f).toInt64.toUInt64).toInt64).toInt32).toInt8.toInt32)) (nar .byte ((x0.toInt32).toInt8.toInt32))))])) _
        refine XS.lcmp X127.here hx rfl (hb hby at_232) rfl ?_
        exact k)
    by_cases hc130 : (own_long (nar .byte ((((x0.toUInt64 >>> ((56 : Int32) &&& 0x3f).toInt64.toUInt64).toInt64).toInt32).toInt8.toInt32)) (nar .byte ((((x0.toUInt64 >>> ((48 : Int32) &&& 0x3f).toInt64.toUInt64).toInt64).toInt32).toInt8.toInt32)) (nar .byte ((((x0.toUInt64 >>> ((40 : Int32) &&& 0x3f).toInt64.toUInt64).toInt64).toInt32).toInt8.toInt32)) (nar .byte ((((x0.toUInt64 >>> ((32 : Int32) &&& 0x3f).toInt64.toUInt64).toInt64).toInt32).toInt8.toInt32)) (nar .byte ((((x0.toUInt64 >>> ((24 : Int32) &&& 0x3f).toInt64.toUInt64).toInt64).toInt32).toInt8.toInt32)) (nar .byte ((((x0.toUInt64 >>> ((16 : Int32) &&& 0x3f).toInt64.toUInt64).toInt64).toInt32).toInt8.toInt32)) (nar .byte ((((x0.toUInt64 >>> ((8 : Int32) &&& 0x3f).toInt64.toUInt64).toInt64).toInt32).toInt8.toInt32)) (nar .byte ((x0.toInt32).toInt8.toInt32))) = x0
    · -- hc130: True
      have pre131 : Go p.tables e below (s₁.setTop (entryFrame m #[(.long x0), (.int x2), (.long x3)] maxLocals)) T127 (mkF m 241 #[.val (.long x0), .second, .val (.int x2), .val (.long x3), .second, .val (.int (2 : Int32)), .val (.ref b3)] [(.int (1 : Int32))]) := fun t k => pre129 t (by
          refine XS.ifNo X127.here hx rfl (hb hby at_233) rfl ((if0 _ _).trans (teq ((lw_eq _ _).mpr hc130)).2) ?_
          show Steps p.tables e below (T127.setTop (mkF m 236 #[.val (.long x0), .second, .val (.int x2), .val (.long x3), .second, .val (.int (2 : Int32)), .val (.ref b3)] [])) _
          refine XS.iconst X127.here hx rfl (hb hby at_236) ?_
          show Steps p.tables e below (T127.setTop (mkF m 237 #[.val (.long x0), .second, .val (.int x2), .val (.long x3), .second, .val (.int (2 : Int32)), .val (.ref b3)] [(.int (1 : Int32))])) _
          refine XS.goto X127.here hx rfl (pc0 := 237) (pc' := 241) rfl (hb hby at_237) (by decide) (by decide) ?_
          exact k)
      obtain ⟨fs, hr, hrun, hended, hW, hsame⟩ := X127.leave (v := some (.int (1 : Int32))) (fun h => by rw [Bd.returns] at h; cases h) (BodyLoose.notSynchronized Bd)
      refine ⟨_, _, pre131 _ ?_, hrun, hended, _, _, rfl, ?_, ⟨_, rfl⟩, hW, hsame.mono (Nat.le_of_ble_eq_true rfl) (Nat.le_of_ble_eq_true rfl)⟩
      · exact retN X127 hx (t := .boolean) Bd.returns (by simp) (hb hby at_241) hr
      · show Q_law Z x0 x2 x3 h0 n0 _ T127.heap _
        rw [e127]
        exact ⟨rfl, N127⟩
    · -- hc130: False
      have pre132 : Go p.tables e below (s₁.setTop (entryFrame m #[(.long x0), (.int x2), (.long x3)] maxLocals)) T127 (mkF m 241 #[.val (.long x0), .second, .val (.int x2), .val (.long x3), .second, .val (.int (2 : Int32)), .val (.ref b3)] [(.int (0 : Int32))]) := fun t k => pre129 t (by
          refine XS.ifYes X127.here hx rfl (pc0 := 233) (pc' := 240) rfl (hb hby at_233) rfl ((if0 _ _).trans (feq (mt (lw_eq _ _).mp hc130)).2) (by decide) (by decide) ?_
          show Steps p.tables e below (T127.setTop (mkF m 240 #[.val (.long x0), .second, .val (.int x2), .val (.long x3), .second, .val (.int (2 : Int32)), .val (.ref b3)] [])) _
          refine XS.iconst X127.here hx rfl (hb hby at_240) ?_
          exact k)
      obtain ⟨fs, hr, hrun, hended, hW, hsame⟩ := X127.leave (v := some (.int (0 : Int32))) (fun h => by rw [Bd.returns] at h; cases h) (BodyLoose.notSynchronized Bd)
      refine ⟨_, _, pre132 _ ?_, hrun, hended, _, _, rfl, ?_, ⟨_, rfl⟩, hW, hsame.mono (Nat.le_of_ble_eq_true rfl) (Nat.le_of_ble_eq_true rfl)⟩
      · exact retN X127 hx (t := .boolean) Bd.returns (by simp) (hb hby at_241) hr
      · show Q_law Z x0 x2 x3 h0 n0 _ T127.heap _
        rw [e127]
        exact absurd (own_long_eq x0) hc130
  · -- w1 = (3 : Int32)
    have pre133 : Go p.tables e below (s₁.setTop (entryFrame m #[(.long x0), (.int x2), (.long x3)] maxLocals)) T38 (mkF m 133 #[.val (.long x0), .second, .val (.int x2), .val (.long x3), .second, .val (.int (3 : Int32)), .val (.ref b3)] [(.int ((((x0.toUInt64 >>> ((56 : Int32) &&& 0x3f).toInt64.toUInt64).toInt64).toInt32).toInt8.toInt32)), (.int (3 : Int32)), (.ref b3)]) := fun t k => pre38 t (by
        refine XS.aload X38.here hx rfl (hb hby at_123) rfl rfl ?_
        show Steps p.tables e below (T38.setTop (mkF m 125 #[.val (.long x0), .second, .val (.int x2), .val (.long x3), .second, .val (.int (3 : Int32)), .val (.ref b3)] [(.ref b3)])) _
        refine XS.iload X38.here hx rfl (hb hby at_125) rfl ?_
        show Steps p.tables e below (T38.setTop (mkF m 127 #[.val (.long x0), .second, .val (.int x2), .val (.long x3), .second, .val (.int (3 : Int32)), .val (.ref b3)] [(.int (3 : Int32)), (.ref b3)])) _
        refine XS.lloadN X38.here hx rfl (hb hby at_127) rfl ?_
        show Steps p.tables e below (T38.setTop (mkF m 128 #[.val (.long x0), .second, .val (.int x2), .val (.long x3), .second, .val (.int (3 : Int32)), .val (.ref b3)] [(.long x0), (.int (3 : Int32)), (.ref b3)])) _
        refine XS.bipush X38.here hx rfl (hb hby at_128) ?_
        show Steps p.tables e below (T38.setTop (mkF m 130 #[.val (.long x0), .second, .val (.int x2), .val (.long x3), .second, .val (.int (3 : Int32)), .val (.ref b3)] [(.int (56 : Int32)), (.long x0), (.int (3 : Int32)), (.ref b3)])) _
        refine XS.lushr X38.here hx rfl (hb hby at_130) rfl ?_
        show Steps p.tables e below (T38.setTop (mkF m 131 #[.val (.long x0), .second, .val (.int x2), .val (.long x3), .second, .val (.int (3 : Int32)), .val (.ref b3)] [(.long ((x0.toUInt64 >>> ((56 : Int32) &&& 0x3f).toInt64.toUInt64).toInt64)), (.int (3 : Int32)), (.ref b3)])) _
        refine XS.l2i X38.here hx rfl (hb hby at_131) rfl ?_
        show Steps p.tables e below (T38.setTop (mkF m 132 #[.val (.long x0), .second, .val (.int x2), .val (.long x3), .second, .val (.int (3 : Int32)), .val (.ref b3)] [(.int (((x0.toUInt64 >>> ((56 : Int32) &&& 0x3f).toInt64.toUInt64).toInt64).toInt32)), (.int (3 : Int32)), (.ref b3)])) _
        refine XS.i2b X38.here hx rfl (hb hby at_132) rfl ?_
        exact k)
    obtain ⟨c134, Ar134, q134, S134, M134, H134, G134⟩ := fa38
    have hin134 : ¬ ((3 : Int32) < 0 ∨ c134.slots.size ≤ ((3 : Int32)).toNatClampNeg) := inb_of S134 ⟨by decide, by decide⟩
    obtain ⟨T134, h134, X134, e134, W134, st134⟩ := stB X38 hx hZ e38 Ar134 (j := (3 : Int32)) hin134 (g := (mkF m 133 #[.val (.long x0), .second, .val (.int x2), .val (.long x3), .second, .val (.int (3 : Int32)), .val (.ref b3)] [(.int ((((x0.toUInt64 >>> ((56 : Int32) &&& 0x3f).toInt64.toUInt64).toInt64).toInt32).toInt8.toInt32)), (.int (3 : Int32)), (.ref b3)])) rfl rfl (hb hby at_133)
    have fa134 : Arv Z h134 b3 k3 .byte (11 : Int32) [(.int (nar .byte ((x3.toInt32).toInt8.toInt32))), (.int (nar .byte ((((x3.toUInt64 >>> ((8 : Int32) &&& 0x3f).toInt64.toUInt64).toInt64).toInt32).toInt8.toInt32))), (.int (nar .byte ((((x3.toUInt64 >>> ((16 : Int32) &&& 0x3f).toInt64.toUInt64).toInt64).toInt32).toInt8.toInt32))), (.int (nar .byte ((((x0.toUInt64 >>> ((56 : Int32) &&& 0x3f).toInt64.toUInt64).toInt64).toInt32).toInt8.toInt32))), (.int (nar .byte ((((x3.toUInt64 >>> ((32 : Int32) &&& 0x3f).toInt64.toUInt64).toInt64).toInt32).toInt8.toInt32))), (.int (nar .byte ((((x3.toUInt64 >>> ((40 : Int32) &&& 0x3f).toInt64.toUInt64).toInt64).toInt32).toInt8.toInt32))), (.int (nar .byte ((((x3.toUInt64 >>> ((48 : Int32) &&& 0x3f).toInt64.toUInt64).toInt64).toInt32).toInt8.toInt32))), (.int (nar .byte ((((x3.toUInt64 >>> ((56 : Int32) &&& 0x3f).toInt64.toUInt64).toInt64).toInt32).toInt8.toInt32))), (.int (nar .byte ((((x3.toUInt64 >>> ((13 : Int32) &&& 0x3f).toInt64.toUInt64).toInt64).toInt32).toInt8.toInt32))), (.int (nar .byte ((((x3.toUInt64 >>> ((21 : Int32) &&& 0x3f).toInt64.toUInt64).toInt64).toInt32).toInt8.toInt32))), (.int (nar .byte ((((x3.toUInt64 >>> ((29 : Int32) &&& 0x3f).toInt64.toUInt64).toInt64).toInt32).toInt8.toInt32)))] (.int (0 : Int32)) := Arv.set Ar134 q134 S134 M134 H134 G134 (fits_nar_byte _) W134 3 rfl (Nat.le_of_ble_eq_true rfl)
    have N134 := Fr.snoc X134 N38 g4
    have f135 : n0 ≤ h134.size := Nat.le_trans f39 (Keep.of_wr W134).1
    have pre134 : Go p.tables e below (s₁.setTop (entryFrame m #[(.long x0), (.int x2), (.long x3)] maxLocals)) T134 (mkF m 134 #[.val (.long x0), .second, .val (.int x2), .val (.long x3), .second, .val (.int (3 : Int32)), .val (.ref b3)] []) := fun t k => pre133 t (st134 _ k)
    have pre136 : Go p.tables e below (s₁.setTop (entryFrame m #[(.long x0), (.int x2), (.long x3)] maxLocals)) T134 (mkF m 146 #[.val (.long x0), .second, .val (.int x2), .val (.long x3), .second, .val (.int (3 : Int32)), .val (.ref b3)] [(.int ((((x0.toUInt64 >>> ((48 : Int32) &&& 0x3f).toInt64.toUInt64).toInt64).toInt32).toInt8.toInt32)), (.int ((3 : Int32) + (1 : Int32))), (.ref b3)]) := fun t k => pre134 t (by
        refine XS.aload X134.here hx rfl (hb hby at_134) rfl rfl ?_
        show Steps p.tables e below (T134.setTop (mkF m 136 #[.val (.long x0), .second, .val (.int x2), .val (.long x3), .second, .val (.int (3 : Int32)), .val (.ref b3)] [(.ref b3)])) _
        refine XS.iload X134.here hx rfl (hb hby at_136) rfl ?_
        show Steps p.tables e below (T134.setTop (mkF m 138 #[.val (.long x0), .second, .val (.int x2), .val (.long x3), .second, .val (.int (3 : Int32)), .val (.ref b3)] [(.int (3 : Int32)), (.ref b3)])) _
        refine XS.iconst X134.here hx rfl (hb hby at_138) ?_
        show Steps p.tables e below (T134.setTop (mkF m 139 #[.val (.long x0), .second, .val (.int x2), .val (.long x3), .second, .val (.int (3 : Int32)), .val (.ref b3)] [(.int (1 : Int32)), (.int (3 : Int32)), (.ref b3)])) _
        refine XS.iadd X134.here hx rfl (hb hby at_139) rfl ?_
        show Steps p.tables e below (T134.setTop (mkF m 140 #[.val (.long x0), .second, .val (.int x2), .val (.long x3), .second, .val (.int (3 : Int32)), .val (.ref b3)] [(.int ((3 : Int32) + (1 : Int32))), (.ref b3)])) _
        refine XS.lloadN X134.here hx rfl (hb hby at_140) rfl ?_
        show Steps p.tables e below (T134.setTop (mkF m 141 #[.val (.long x0), .second, .val (.int x2), .val (.long x3), .second, .val (.int (3 : Int32)), .val (.ref b3)] [(.long x0), (.int ((3 : Int32) + (1 : Int32))), (.ref b3)])) _
        refine XS.bipush X134.here hx rfl (hb hby at_141) ?_
        show Steps p.tables e below (T134.setTop (mkF m 143 #[.val (.long x0), .second, .val (.int x2), .val (.long x3), .second, .val (.int (3 : Int32)), .val (.ref b3)] [(.int (48 : Int32)), (.long x0), (.int ((3 : Int32) + (1 : Int32))), (.ref b3)])) _
        refine XS.lushr X134.here hx rfl (hb hby at_143) rfl ?_
        show Steps p.tables e below (T134.setTop (mkF m 144 #[.val (.long x0), .second, .val (.int x2), .val (.long x3), .second, .val (.int (3 : Int32)), .val (.ref b3)] [(.long ((x0.toUInt64 >>> ((48 : Int32) &&& 0x3f).toInt64.toUInt64).toInt64)), (.int ((3 : Int32) + (1 : Int32))), (.ref b3)])) _
        refine XS.l2i X134.here hx rfl (hb hby at_144) rfl ?_
        show Steps p.tables e below (T134.setTop (mkF m 145 #[.val (.long x0), .second, .val (.int x2), .val (.long x3), .second, .val (.int (3 : Int32)), .val (.ref b3)] [(.int (((x0.toUInt64 >>> ((48 : Int32) &&& 0x3f).toInt64.toUInt64).toInt64).toInt32)), (.int ((3 : Int32) + (1 : Int32))), (.ref b3)])) _
        refine XS.i2b X134.here hx rfl (hb hby at_145) rfl ?_
        exact k)
    obtain ⟨c137, Ar137, q137, S137, M137, H137, G137⟩ := fa134
    have hin137 : ¬ (((3 : Int32) + (1 : Int32)) < 0 ∨ c137.slots.size ≤ (((3 : Int32) + (1 : Int32))).toNatClampNeg) := inb_of S137 ⟨by decide, by decide⟩
    obtain ⟨T137, h137, X137, e137, W137, st137⟩ := stB X134 hx hZ e134 Ar137 (j := ((3 : Int32) + (1 : Int32))) hin137 (g := (mkF m 146 #[.val (.long x0), .second, .val (.int x2), .val (.long x3), .second, .val (.int (3 : Int32)), .val (.ref b3)] [(.int ((((x0.toUInt64 >>> ((48 : Int32) &&& 0x3f).toInt64.toUInt64).toInt64).toInt32).toInt8.toInt32)), (.int ((3 : Int32) + (1 : Int32))), (.ref b3)])) rfl rfl (hb hby at_146)
    have fa137 : Arv Z h137 b3 k3 .byte (11 : Int32) [(.int (nar .byte ((x3.toInt32).toInt8.toInt32))), (.int (nar .byte ((((x3.toUInt64 >>> ((8 : Int32) &&& 0x3f).toInt64.toUInt64).toInt64).toInt32).toInt8.toInt32))), (.int (nar .byte ((((x3.toUInt64 >>> ((16 : Int32) &&& 0x3f).toInt64.toUInt64).toInt64).toInt32).toInt8.toInt32))), (.int (nar .byte ((((x0.toUInt64 >>> ((56 : Int32) &&& 0x3f).toInt64.toUInt64).toInt64).toInt32).toInt8.toInt32))), (.int (nar .byte ((((x0.toUInt64 >>> ((48 : Int32) &&& 0x3f).toInt64.toUInt64).toInt64).toInt32).toInt8.toInt32))), (.int (nar .byte ((((x3.toUInt64 >>> ((40 : Int32) &&& 0x3f).toInt64.toUInt64).toInt64).toInt32).toInt8.toInt32))), (.int (nar .byte ((((x3.toUInt64 >>> ((48 : Int32) &&& 0x3f).toInt64.toUInt64).toInt64).toInt32).toInt8.toInt32))), (.int (nar .byte ((((x3.toUInt64 >>> ((56 : Int32) &&& 0x3f).toInt64.toUInt64).toInt64).toInt32).toInt8.toInt32))), (.int (nar .byte ((((x3.toUInt64 >>> ((13 : Int32) &&& 0x3f).toInt64.toUInt64).toInt64).toInt32).toInt8.toInt32))), (.int (nar .byte ((((x3.toUInt64 >>> ((21 : Int32) &&& 0x3f).toInt64.toUInt64).toInt64).toInt32).toInt8.toInt32))), (.int (nar .byte ((((x3.toUInt64 >>> ((29 : Int32) &&& 0x3f).toInt64.toUInt64).toInt64).toInt32).toInt8.toInt32)))] (.int (0 : Int32)) := Arv.set Ar137 q137 S137 M137 H137 G137 (fits_nar_byte _) W137 4 rfl (Nat.le_of_ble_eq_true rfl)
    have N137 := Fr.snoc X137 N134 g4
    have f138 : n0 ≤ h137.size := Nat.le_trans f135 (Keep.of_wr W137).1
    have pre137 : Go p.tables e below (s₁.setTop (entryFrame m #[(.long x0), (.int x2), (.long x3)] maxLocals)) T137 (mkF m 147 #[.val (.long x0), .second, .val (.int x2), .val (.long x3), .second, .val (.int (3 : Int32)), .val (.ref b3)] []) := fun t k => pre136 t (st137 _ k)
    have pre139 : Go p.tables e below (s₁.setTop (entryFrame m #[(.long x0), (.int x2), (.long x3)] maxLocals)) T137 (mkF m 159 #[.val (.long x0), .second, .val (.int x2), .val (.long x3), .second, .val (.int (3 : Int32)), .val (.ref b3)] [(.int ((((x0.toUInt64 >>> ((40 : Int32) &&& 0x3f).toInt64.toUInt64).toInt64).toInt32).toInt8.toInt32)), (.int ((3 : Int32) + (2 : Int32))), (.ref b3)]) := fun t k => pre137 t (by
        refine XS.aload X137.here hx rfl (hb hby at_147) rfl rfl ?_
        show Steps p.tables e below (T137.setTop (mkF m 149 #[.val (.long x0), .second, .val (.int x2), .val (.long x3), .second, .val (.int (3 : Int32)), .val (.ref b3)] [(.ref b3)])) _
        refine XS.iload X137.here hx rfl (hb hby at_149) rfl ?_
        show Steps p.tables e below (T137.setTop (mkF m 151 #[.val (.long x0), .second, .val (.int x2), .val (.long x3), .second, .val (.int (3 : Int32)), .val (.ref b3)] [(.int (3 : Int32)), (.ref b3)])) _
        refine XS.iconst X137.here hx rfl (hb hby at_151) ?_
        show Steps p.tables e below (T137.setTop (mkF m 152 #[.val (.long x0), .second, .val (.int x2), .val (.long x3), .second, .val (.int (3 : Int32)), .val (.ref b3)] [(.int (2 : Int32)), (.int (3 : Int32)), (.ref b3)])) _
        refine XS.iadd X137.here hx rfl (hb hby at_152) rfl ?_
        show Steps p.tables e below (T137.setTop (mkF m 153 #[.val (.long x0), .second, .val (.int x2), .val (.long x3), .second, .val (.int (3 : Int32)), .val (.ref b3)] [(.int ((3 : Int32) + (2 : Int32))), (.ref b3)])) _
        refine XS.lloadN X137.here hx rfl (hb hby at_153) rfl ?_
        show Steps p.tables e below (T137.setTop (mkF m 154 #[.val (.long x0), .second, .val (.int x2), .val (.long x3), .second, .val (.int (3 : Int32)), .val (.ref b3)] [(.long x0), (.int ((3 : Int32) + (2 : Int32))), (.ref b3)])) _
        refine XS.bipush X137.here hx rfl (hb hby at_154) ?_
        show Steps p.tables e below (T137.setTop (mkF m 156 #[.val (.long x0), .second, .val (.int x2), .val (.long x3), .second, .val (.int (3 : Int32)), .val (.ref b3)] [(.int (40 : Int32)), (.long x0), (.int ((3 : Int32) + (2 : Int32))), (.ref b3)])) _
        refine XS.lushr X137.here hx rfl (hb hby at_156) rfl ?_
        show Steps p.tables e below (T137.setTop (mkF m 157 #[.val (.long x0), .second, .val (.int x2), .val (.long x3), .second, .val (.int (3 : Int32)), .val (.ref b3)] [(.long ((x0.toUInt64 >>> ((40 : Int32) &&& 0x3f).toInt64.toUInt64).toInt64)), (.int ((3 : Int32) + (2 : Int32))), (.ref b3)])) _
        refine XS.l2i X137.here hx rfl (hb hby at_157) rfl ?_
        show Steps p.tables e below (T137.setTop (mkF m 158 #[.val (.long x0), .second, .val (.int x2), .val (.long x3), .second, .val (.int (3 : Int32)), .val (.ref b3)] [(.int (((x0.toUInt64 >>> ((40 : Int32) &&& 0x3f).toInt64.toUInt64).toInt64).toInt32)), (.int ((3 : Int32) + (2 : Int32))), (.ref b3)])) _
        refine XS.i2b X137.here hx rfl (hb hby at_158) rfl ?_
        exact k)
    obtain ⟨c140, Ar140, q140, S140, M140, H140, G140⟩ := fa137
    have hin140 : ¬ (((3 : Int32) + (2 : Int32)) < 0 ∨ c140.slots.size ≤ (((3 : Int32) + (2 : Int32))).toNatClampNeg) := inb_of S140 ⟨by decide, by decide⟩
    obtain ⟨T140, h140, X140, e140, W140, st140⟩ := stB X137 hx hZ e137 Ar140 (j := ((3 : Int32) + (2 : Int32))) hin140 (g := (mkF m 159 #[.val (.long x0), .second, .val (.int x2), .val (.long x3), .second, .val (.int (3 : Int32)), .val (.ref b3)] [(.int ((((x0.toUInt64 >>> ((40 : Int32) &&& 0x3f).toInt64.toUInt64).toInt64).toInt32).toInt8.toInt32)), (.int ((3 : Int32) + (2 : Int32))), (.ref b3)])) rfl rfl (hb hby at_159)
    have fa140 : Arv Z h140 b3 k3 .byte (11 : Int32) [(.int (nar .byte ((x3.toInt32).toInt8.toInt32))), (.int (nar .byte ((((x3.toUInt64 >>> ((8 : Int32) &&& 0x3f).toInt64.toUInt64).toInt64).toInt32).toInt8.toInt32))), (.int (nar .byte ((((x3.toUInt64 >>> ((16 : Int32) &&& 0x3f).toInt64.toUInt64).toInt64).toInt32).toInt8.toInt32))), (.int (nar .byte ((((x0.toUInt64 >>> ((56 : Int32) &&& 0x3f).toInt64.toUInt64).toInt64).toInt32).toInt8.toInt32))), (.int (nar .byte ((((x0.toUInt64 >>> ((48 : Int32) &&& 0x3f).toInt64.toUInt64).toInt64).toInt32).toInt8.toInt32))), (.int (nar .byte ((((x0.toUInt64 >>> ((40 : Int32) &&& 0x3f).toInt64.toUInt64).toInt64).toInt32).toInt8.toInt32))), (.int (nar .byte ((((x3.toUInt64 >>> ((48 : Int32) &&& 0x3f).toInt64.toUInt64).toInt64).toInt32).toInt8.toInt32))), (.int (nar .byte ((((x3.toUInt64 >>> ((56 : Int32) &&& 0x3f).toInt64.toUInt64).toInt64).toInt32).toInt8.toInt32))), (.int (nar .byte ((((x3.toUInt64 >>> ((13 : Int32) &&& 0x3f).toInt64.toUInt64).toInt64).toInt32).toInt8.toInt32))), (.int (nar .byte ((((x3.toUInt64 >>> ((21 : Int32) &&& 0x3f).toInt64.toUInt64).toInt64).toInt32).toInt8.toInt32))), (.int (nar .byte ((((x3.toUInt64 >>> ((29 : Int32) &&& 0x3f).toInt64.toUInt64).toInt64).toInt32).toInt8.toInt32)))] (.int (0 : Int32)) := Arv.set Ar140 q140 S140 M140 H140 G140 (fits_nar_byte _) W140 5 rfl (Nat.le_of_ble_eq_true rfl)
    have N140 := Fr.snoc X140 N137 g4
    have f141 : n0 ≤ h140.size := Nat.le_trans f138 (Keep.of_wr W140).1
    have pre140 : Go p.tables e below (s₁.setTop (entryFrame m #[(.long x0), (.int x2), (.long x3)] maxLocals)) T140 (mkF m 160 #[.val (.long x0), .second, .val (.int x2), .val (.long x3), .second, .val (.int (3 : Int32)), .val (.ref b3)] []) := fun t k => pre139 t (st140 _ k)
    have pre142 : Go p.tables e below (s₁.setTop (entryFrame m #[(.long x0), (.int x2), (.long x3)] maxLocals)) T140 (mkF m 172 #[.val (.long x0), .second, .val (.int x2), .val (.long x3), .second, .val (.int (3 : Int32)), .val (.ref b3)] [(.int ((((x0.toUInt64 >>> ((32 : Int32) &&& 0x3f).toInt64.toUInt64).toInt64).toInt32).toInt8.toInt32)), (.int ((3 : Int32) + (3 : Int32))), (.ref b3)]) := fun t k => pre140 t (by
        refine XS.aload X140.here hx rfl (hb hby at_160) rfl rfl ?_
        show Steps p.tables e below (T140.setTop (mkF m 162 #[.val (.long x0), .second, .val (.int x2), .val (.long x3), .second, .val (.int (3 : Int32)), .val (.ref b3)] [(.ref b3)])) _
        refine XS.iload X140.here hx rfl (hb hby at_162) rfl ?_
        show Steps p.tables e below (T140.setTop (mkF m 164 #[.val (.long x0), .second, .val (.int x2), .val (.long x3), .second, .val (.int (3 : Int32)), .val (.ref b3)] [(.int (3 : Int32)), (.ref b3)])) _
        refine XS.iconst X140.here hx rfl (hb hby at_164) ?_
        show Steps p.tables e below (T140.setTop (mkF m 165 #[.val (.long x0), .second, .val (.int x2), .val (.long x3), .second, .val (.int (3 : Int32)), .val (.ref b3)] [(.int (3 : Int32)), (.int (3 : Int32)), (.ref b3)])) _
        refine XS.iadd X140.here hx rfl (hb hby at_165) rfl ?_
        show Steps p.tables e below (T140.setTop (mkF m 166 #[.val (.long x0), .second, .val (.int x2), .val (.long x3), .second, .val (.int (3 : Int32)), .val (.ref b3)] [(.int ((3 : Int32) + (3 : Int32))), (.ref b3)])) _
        refine XS.lloadN X140.here hx rfl (hb hby at_166) rfl ?_
        show Steps p.tables e below (T140.setTop (mkF m 167 #[.val (.long x0), .second, .val (.int x2), .val (.long x3), .second, .val (.int (3 : Int32)), .val (.ref b3)] [(.long x0), (.int ((3 : Int32) + (3 : Int32))), (.ref b3)])) _
        refine XS.bipush X140.here hx rfl (hb hby at_167) ?_
        show Steps p.tables e below (T140.setTop (mkF m 169 #[.val (.long x0), .second, .val (.int x2), .val (.long x3), .second, .val (.int (3 : Int32)), .val (.ref b3)] [(.int (32 : Int32)), (.long x0), (.int ((3 : Int32) + (3 : Int32))), (.ref b3)])) _
        refine XS.lushr X140.here hx rfl (hb hby at_169) rfl ?_
        show Steps p.tables e below (T140.setTop (mkF m 170 #[.val (.long x0), .second, .val (.int x2), .val (.long x3), .second, .val (.int (3 : Int32)), .val (.ref b3)] [(.long ((x0.toUInt64 >>> ((32 : Int32) &&& 0x3f).toInt64.toUInt64).toInt64)), (.int ((3 : Int32) + (3 : Int32))), (.ref b3)])) _
        refine XS.l2i X140.here hx rfl (hb hby at_170) rfl ?_
        show Steps p.tables e below (T140.setTop (mkF m 171 #[.val (.long x0), .second, .val (.int x2), .val (.long x3), .second, .val (.int (3 : Int32)), .val (.ref b3)] [(.int (((x0.toUInt64 >>> ((32 : Int32) &&& 0x3f).toInt64.toUInt64).toInt64).toInt32)), (.int ((3 : Int32) + (3 : Int32))), (.ref b3)])) _
        refine XS.i2b X140.here hx rfl (hb hby at_171) rfl ?_
        exact k)
    obtain ⟨c143, Ar143, q143, S143, M143, H143, G143⟩ := fa140
    have hin143 : ¬ (((3 : Int32) + (3 : Int32)) < 0 ∨ c143.slots.size ≤ (((3 : Int32) + (3 : Int32))).toNatClampNeg) := inb_of S143 ⟨by decide, by decide⟩
    obtain ⟨T143, h143, X143, e143, W143, st143⟩ := stB X140 hx hZ e140 Ar143 (j := ((3 : Int32) + (3 : Int32))) hin143 (g := (mkF m 172 #[.val (.long x0), .second, .val (.int x2), .val (.long x3), .second, .val (.int (3 : Int32)), .val (.ref b3)] [(.int ((((x0.toUInt64 >>> ((32 : Int32) &&& 0x3f).toInt64.toUInt64).toInt64).toInt32).toInt8.toInt32)), (.int ((3 : Int32) + (3 : Int32))), (.ref b3)])) rfl rfl (hb hby at_172)
    have fa143 : Arv Z h143 b3 k3 .byte (11 : Int32) [(.int (nar .byte ((x3.toInt32).toInt8.toInt32))), (.int (nar .byte ((((x3.toUInt64 >>> ((8 : Int32) &&& 0x3f).toInt64.toUInt64).toInt64).toInt32).toInt8.toInt32))), (.int (nar .byte ((((x3.toUInt64 >>> ((16 : Int32) &&& 0x3f).toInt64.toUInt64).toInt64).toInt32).toInt8.toInt32))), (.int (nar .byte ((((x0.toUInt64 >>> ((56 : Int32) &&& 0x3f).toInt64.toUInt64).toInt64).toInt32).toInt8.toInt32))), (.int (nar .byte ((((x0.toUInt64 >>> ((48 : Int32) &&& 0x3f).toInt64.toUInt64).toInt64).toInt32).toInt8.toInt32))), (.int (nar .byte ((((x0.toUInt64 >>> ((40 : Int32) &&& 0x3f).toInt64.toUInt64).toInt64).toInt32).toInt8.toInt32))), (.int (nar .byte ((((x0.toUInt64 >>> ((32 : Int32) &&& 0x3f).toInt64.toUInt64).toInt64).toInt32).toInt8.toInt32))), (.int (nar .byte ((((x3.toUInt64 >>> ((56 : Int32) &&& 0x3f).toInt64.toUInt64).toInt64).toInt32).toInt8.toInt32))), (.int (nar .byte ((((x3.toUInt64 >>> ((13 : Int32) &&& 0x3f).toInt64.toUInt64).toInt64).toInt32).toInt8.toInt32))), (.int (nar .byte ((((x3.toUInt64 >>> ((21 : Int32) &&& 0x3f).toInt64.toUInt64).toInt64).toInt32).toInt8.toInt32))), (.int (nar .byte ((((x3.toUInt64 >>> ((29 : Int32) &&& 0x3f).toInt64.toUInt64).toInt64).toInt32).toInt8.toInt32)))] (.int (0 : Int32)) := Arv.set Ar143 q143 S143 M143 H143 G143 (fits_nar_byte _) W143 6 rfl (Nat.le_of_ble_eq_true rfl)
    have N143 := Fr.snoc X143 N140 g4
    have f144 : n0 ≤ h143.size := Nat.le_trans f141 (Keep.of_wr W143).1
    have pre143 : Go p.tables e below (s₁.setTop (entryFrame m #[(.long x0), (.int x2), (.long x3)] maxLocals)) T143 (mkF m 173 #[.val (.long x0), .second, .val (.int x2), .val (.long x3), .second, .val (.int (3 : Int32)), .val (.ref b3)] []) := fun t k => pre142 t (st143 _ k)
    have pre145 : Go p.tables e below (s₁.setTop (entryFrame m #[(.long x0), (.int x2), (.long x3)] maxLocals)) T143 (mkF m 185 #[.val (.long x0), .second, .val (.int x2), .val (.long x3), .second, .val (.int (3 : Int32)), .val (.ref b3)] [(.int ((((x0.toUInt64 >>> ((24 : Int32) &&& 0x3f).toInt64.toUInt64).toInt64).toInt32).toInt8.toInt32)), (.int ((3 : Int32) + (4 : Int32))), (.ref b3)]) := fun t k => pre143 t (by
        refine XS.aload X143.here hx rfl (hb hby at_173) rfl rfl ?_
        show Steps p.tables e below (T143.setTop (mkF m 175 #[.val (.long x0), .second, .val (.int x2), .val (.long x3), .second, .val (.int (3 : Int32)), .val (.ref b3)] [(.ref b3)])) _
        refine XS.iload X143.here hx rfl (hb hby at_175) rfl ?_
        show Steps p.tables e below (T143.setTop (mkF m 177 #[.val (.long x0), .second, .val (.int x2), .val (.long x3), .second, .val (.int (3 : Int32)), .val (.ref b3)] [(.int (3 : Int32)), (.ref b3)])) _
        refine XS.iconst X143.here hx rfl (hb hby at_177) ?_
        show Steps p.tables e below (T143.setTop (mkF m 178 #[.val (.long x0), .second, .val (.int x2), .val (.long x3), .second, .val (.int (3 : Int32)), .val (.ref b3)] [(.int (4 : Int32)), (.int (3 : Int32)), (.ref b3)])) _
        refine XS.iadd X143.here hx rfl (hb hby at_178) rfl ?_
        show Steps p.tables e below (T143.setTop (mkF m 179 #[.val (.long x0), .second, .val (.int x2), .val (.long x3), .second, .val (.int (3 : Int32)), .val (.ref b3)] [(.int ((3 : Int32) + (4 : Int32))), (.ref b3)])) _
        refine XS.lloadN X143.here hx rfl (hb hby at_179) rfl ?_
        show Steps p.tables e below (T143.setTop (mkF m 180 #[.val (.long x0), .second, .val (.int x2), .val (.long x3), .second, .val (.int (3 : Int32)), .val (.ref b3)] [(.long x0), (.int ((3 : Int32) + (4 : Int32))), (.ref b3)])) _
        refine XS.bipush X143.here hx rfl (hb hby at_180) ?_
        show Steps p.tables e below (T143.setTop (mkF m 182 #[.val (.long x0), .second, .val (.int x2), .val (.long x3), .second, .val (.int (3 : Int32)), .val (.ref b3)] [(.int (24 : Int32)), (.long x0), (.int ((3 : Int32) + (4 : Int32))), (.ref b3)])) _
        refine XS.lushr X143.here hx rfl (hb hby at_182) rfl ?_
        show Steps p.tables e below (T143.setTop (mkF m 183 #[.val (.long x0), .second, .val (.int x2), .val (.long x3), .second, .val (.int (3 : Int32)), .val (.ref b3)] [(.long ((x0.toUInt64 >>> ((24 : Int32) &&& 0x3f).toInt64.toUInt64).toInt64)), (.int ((3 : Int32) + (4 : Int32))), (.ref b3)])) _
        refine XS.l2i X143.here hx rfl (hb hby at_183) rfl ?_
        show Steps p.tables e below (T143.setTop (mkF m 184 #[.val (.long x0), .second, .val (.int x2), .val (.long x3), .second, .val (.int (3 : Int32)), .val (.ref b3)] [(.int (((x0.toUInt64 >>> ((24 : Int32) &&& 0x3f).toInt64.toUInt64).toInt64).toInt32)), (.int ((3 : Int32) + (4 : Int32))), (.ref b3)])) _
        refine XS.i2b X143.here hx rfl (hb hby at_184) rfl ?_
        exact k)
    obtain ⟨c146, Ar146, q146, S146, M146, H146, G146⟩ := fa143
    have hin146 : ¬ (((3 : Int32) + (4 : Int32)) < 0 ∨ c146.slots.size ≤ (((3 : Int32) + (4 : Int32))).toNatClampNeg) := inb_of S146 ⟨by decide, by decide⟩
    obtain ⟨T146, h146, X146, e146, W146, st146⟩ := stB X143 hx hZ e143 Ar146 (j := ((3 : Int32) + (4 : Int32))) hin146 (g := (mkF m 185 #[.val (.long x0), .second, .val (.int x2), .val (.long x3), .second, .val (.int (3 : Int32)), .val (.ref b3)] [(.int ((((x0.toUInt64 >>> ((24 : Int32) &&& 0x3f).toInt64.toUInt64).toInt64).toInt32).toInt8.toInt32)), (.int ((3 : Int32) + (4 : Int32))), (.ref b3)])) rfl rfl (hb hby at_185)
    have fa146 : Arv Z h146 b3 k3 .byte (11 : Int32) [(.int (nar .byte ((x3.toInt32).toInt8.toInt32))), (.int (nar .byte ((((x3.toUInt64 >>> ((8 : Int32) &&& 0x3f).toInt64.toUInt64).toInt64).toInt32).toInt8.toInt32))), (.int (nar .byte ((((x3.toUInt64 >>> ((16 : Int32) &&& 0x3f).toInt64.toUInt64).toInt64).toInt32).toInt8.toInt32))), (.int (nar .byte ((((x0.toUInt64 >>> ((56 : Int32) &&& 0x3f).toInt64.toUInt64).toInt64).toInt32).toInt8.toInt32))), (.int (nar .byte ((((x0.toUInt64 >>> ((48 : Int32) &&& 0x3f).toInt64.toUInt64).toInt64).toInt32).toInt8.toInt32))), (.int (nar .byte ((((x0.toUInt64 >>> ((40 : Int32) &&& 0x3f).toInt64.toUInt64).toInt64).toInt32).toInt8.toInt32))), (.int (nar .byte ((((x0.toUInt64 >>> ((32 : Int32) &&& 0x3f).toInt64.toUInt64).toInt64).toInt32).toInt8.toInt32))), (.int (nar .byte ((((x0.toUInt64 >>> ((24 : Int32) &&& 0x3f).toInt64.toUInt64).toInt64).toInt32).toInt8.toInt32))), (.int (nar .byte ((((x3.toUInt64 >>> ((13 : Int32) &&& 0x3f).toInt64.toUInt64).toInt64).toInt32).toInt8.toInt32))), (.int (nar .byte ((((x3.toUInt64 >>> ((21 : Int32) &&& 0x3f).toInt64.toUInt64).toInt64).toInt32).toInt8.toInt32))), (.int (nar .byte ((((x3.toUInt64 >>> ((29 : Int32) &&& 0x3f).toInt64.toUInt64).toInt64).toInt32).toInt8.toInt32)))] (.int (0 : Int32)) := Arv.set Ar146 q146 S146 M146 H146 G146 (fits_nar_byte _) W146 7 rfl (Nat.le_of_ble_eq_true rfl)
    have N146 := Fr.snoc X146 N143 g4
    have f147 : n0 ≤ h146.size := Nat.le_trans f144 (Keep.of_wr W146).1
    have pre146 : Go p.tables e below (s₁.setTop (entryFrame m #[(.long x0), (.int x2), (.long x3)] maxLocals)) T146 (mkF m 186 #[.val (.long x0), .second, .val (.int x2), .val (.long x3), .second, .val (.int (3 : Int32)), .val (.ref b3)] []) := fun t k => pre145 t (st146 _ k)
    have pre148 : Go p.tables e below (s₁.setTop (entryFrame m #[(.long x0), (.int x2), (.long x3)] maxLocals)) T146 (mkF m 198 #[.val (.long x0), .second, .val (.int x2), .val (.long x3), .second, .val (.int (3 : Int32)), .val (.ref b3)] [(.int ((((x0.toUInt64 >>> ((16 : Int32) &&& 0x3f).toInt64.toUInt64).toInt64).toInt32).toInt8.toInt32)), (.int ((3 : Int32) + (5 : Int32))), (.ref b3)]) := fun t k => pre146 t (by
        refine XS.aload X146.here hx rfl (hb hby at_186) rfl rfl ?_
        show Steps p.tables e below (T146.setTop (mkF m 188 #[.val (.long x0), .second, .val (.int x2), .val (.long x3), .second, .val (.int (3 : Int32)), .val (.ref b3)] [(.ref b3)])) _
        refine XS.iload X146.here hx rfl (hb hby at_188) rfl ?_
        show Steps p.tables e below (T146.setTop (mkF m 190 #[.val (.long x0), .second, .val (.int x2), .val (.long x3), .second, .val (.int (3 : Int32)), .val (.ref b3)] [(.int (3 : Int32)), (.ref b3)])) _
        refine XS.iconst X146.here hx rfl (hb hby at_190) ?_
        show Steps p.tables e below (T146.setTop (mkF m 191 #[.val (.long x0), .second, .val (.int x2), .val (.long x3), .second, .val (.int (3 : Int32)), .val (.ref b3)] [(.int (5 : Int32)), (.int (3 : Int32)), (.ref b3)])) _
        refine XS.iadd X146.here hx rfl (hb hby at_191) rfl ?_
        show Steps p.tables e below (T146.setTop (mkF m 192 #[.val (.long x0), .second, .val (.int x2), .val (.long x3), .second, .val (.int (3 : Int32)), .val (.ref b3)] [(.int ((3 : Int32) + (5 : Int32))), (.ref b3)])) _
        refine XS.lloadN X146.here hx rfl (hb hby at_192) rfl ?_
        show Steps p.tables e below (T146.setTop (mkF m 193 #[.val (.long x0), .second, .val (.int x2), .val (.long x3), .second, .val (.int (3 : Int32)), .val (.ref b3)] [(.long x0), (.int ((3 : Int32) + (5 : Int32))), (.ref b3)])) _
        refine XS.bipush X146.here hx rfl (hb hby at_193) ?_
        show Steps p.tables e below (T146.setTop (mkF m 195 #[.val (.long x0), .second, .val (.int x2), .val (.long x3), .second, .val (.int (3 : Int32)), .val (.ref b3)] [(.int (16 : Int32)), (.long x0), (.int ((3 : Int32) + (5 : Int32))), (.ref b3)])) _
        refine XS.lushr X146.here hx rfl (hb hby at_195) rfl ?_
        show Steps p.tables e below (T146.setTop (mkF m 196 #[.val (.long x0), .second, .val (.int x2), .val (.long x3), .second, .val (.int (3 : Int32)), .val (.ref b3)] [(.long ((x0.toUInt64 >>> ((16 : Int32) &&& 0x3f).toInt64.toUInt64).toInt64)), (.int ((3 : Int32) + (5 : Int32))), (.ref b3)])) _
        refine XS.l2i X146.here hx rfl (hb hby at_196) rfl ?_
        show Steps p.tables e below (T146.setTop (mkF m 197 #[.val (.long x0), .second, .val (.int x2), .val (.long x3), .second, .val (.int (3 : Int32)), .val (.ref b3)] [(.int (((x0.toUInt64 >>> ((16 : Int32) &&& 0x3f).toInt64.toUInt64).toInt64).toInt32)), (.int ((3 : Int32) + (5 : Int32))), (.ref b3)])) _
        refine XS.i2b X146.here hx rfl (hb hby at_197) rfl ?_
        exact k)
    obtain ⟨c149, Ar149, q149, S149, M149, H149, G149⟩ := fa146
    have hin149 : ¬ (((3 : Int32) + (5 : Int32)) < 0 ∨ c149.slots.size ≤ (((3 : Int32) + (5 : Int32))).toNatClampNeg) := inb_of S149 ⟨by decide, by decide⟩
    obtain ⟨T149, h149, X149, e149, W149, st149⟩ := stB X146 hx hZ e146 Ar149 (j := ((3 : Int32) + (5 : Int32))) hin149 (g := (mkF m 198 #[.val (.long x0), .second, .val (.int x2), .val (.long x3), .second, .val (.int (3 : Int32)), .val (.ref b3)] [(.int ((((x0.toUInt64 >>> ((16 : Int32) &&& 0x3f).toInt64.toUInt64).toInt64).toInt32).toInt8.toInt32)), (.int ((3 : Int32) + (5 : Int32))), (.ref b3)])) rfl rfl (hb hby at_198)
    have fa149 : Arv Z h149 b3 k3 .byte (11 : Int32) [(.int (nar .byte ((x3.toInt32).toInt8.toInt32))), (.int (nar .byte ((((x3.toUInt64 >>> ((8 : Int32) &&& 0x3f).toInt64.toUInt64).toInt64).toInt32).toInt8.toInt32))), (.int (nar .byte ((((x3.toUInt64 >>> ((16 : Int32) &&& 0x3f).toInt64.toUInt64).toInt64).toInt32).toInt8.toInt32))), (.int (nar .byte ((((x0.toUInt64 >>> ((56 : Int32) &&& 0x3f).toInt64.toUInt64).toInt64).toInt32).toInt8.toInt32))), (.int (nar .byte ((((x0.toUInt64 >>> ((48 : Int32) &&& 0x3f).toInt64.toUInt64).toInt64).toInt32).toInt8.toInt32))), (.int (nar .byte ((((x0.toUInt64 >>> ((40 : Int32) &&& 0x3f).toInt64.toUInt64).toInt64).toInt32).toInt8.toInt32))), (.int (nar .byte ((((x0.toUInt64 >>> ((32 : Int32) &&& 0x3f).toInt64.toUInt64).toInt64).toInt32).toInt8.toInt32))), (.int (nar .byte ((((x0.toUInt64 >>> ((24 : Int32) &&& 0x3f).toInt64.toUInt64).toInt64).toInt32).toInt8.toInt32))), (.int (nar .byte ((((x0.toUInt64 >>> ((16 : Int32) &&& 0x3f).toInt64.toUInt64).toInt64).toInt32).toInt8.toInt32))), (.int (nar .byte ((((x3.toUInt64 >>> ((21 : Int32) &&& 0x3f).toInt64.toUInt64).toInt64).toInt32).toInt8.toInt32))), (.int (nar .byte ((((x3.toUInt64 >>> ((29 : Int32) &&& 0x3f).toInt64.toUInt64).toInt64).toInt32).toInt8.toInt32)))] (.int (0 : Int32)) := Arv.set Ar149 q149 S149 M149 H149 G149 (fits_nar_byte _) W149 8 rfl (Nat.le_of_ble_eq_true rfl)
    have N149 := Fr.snoc X149 N146 g4
    have f150 : n0 ≤ h149.size := Nat.le_trans f147 (Keep.of_wr W149).1
    have pre149 : Go p.tables e below (s₁.setTop (entryFrame m #[(.long x0), (.int x2), (.long x3)] maxLocals)) T149 (mkF m 199 #[.val (.long x0), .second, .val (.int x2), .val (.long x3), .second, .val (.int (3 : Int32)), .val (.ref b3)] []) := fun t k => pre148 t (st149 _ k)
    have pre151 : Go p.tables e below (s₁.setTop (entryFrame m #[(.long x0), (.int x2), (.long x3)] maxLocals)) T149 (mkF m 212 #[.val (.long x0), .second, .val (.int x2), .val (.long x3), .second, .val (.int (3 : Int32)), .val (.ref b3)] [(.int ((((x0.toUInt64 >>> ((8 : Int32) &&& 0x3f).toInt64.toUInt64).toInt64).toInt32).toInt8.toInt32)), (.int ((3 : Int32) + (6 : Int32))), (.ref b3)]) := fun t k => pre149 t (by
        refine XS.aload X149.here hx rfl (hb hby at_199) rfl rfl ?_
        show Steps p.tables e below (T149.setTop (mkF m 201 #[.val (.long x0), .second, .val (.int x2), .val (.long x3), .second, .val (.int (3 : Int32)), .val (.ref b3)] [(.ref b3)])) _
        refine XS.iload X149.here hx rfl (hb hby at_201) rfl ?_
        show Steps p.tables e below (T149.setTop (mkF m 203 #[.val (.long x0), .second, .val (.int x2), .val (.long x3), .second, .val (.int (3 : Int32)), .val (.ref b3)] [(.int (3 : Int32)), (.ref b3)])) _
        refine XS.bipush X149.here hx rfl (hb hby at_203) ?_
        show Steps p.tables e below (T149.setTop (mkF m 205 #[.val (.long x0), .second, .val (.int x2), .val (.long x3), .second, .val (.int (3 : Int32)), .val (.ref b3)] [(.int (6 : Int32)), (.int (3 : Int32)), (.ref b3)])) _
        refine XS.iadd X149.here hx rfl (hb hby at_205) rfl ?_
        show Steps p.tables e below (T149.setTop (mkF m 206 #[.val (.long x0), .second, .val (.int x2), .val (.long x3), .second, .val (.int (3 : Int32)), .val (.ref b3)] [(.int ((3 : Int32) + (6 : Int32))), (.ref b3)])) _
        refine XS.lloadN X149.here hx rfl (hb hby at_206) rfl ?_
        show Steps p.tables e below (T149.setTop (mkF m 207 #[.val (.long x0), .second, .val (.int x2), .val (.long x3), .second, .val (.int (3 : Int32)), .val (.ref b3)] [(.long x0), (.int ((3 : Int32) + (6 : Int32))), (.ref b3)])) _
        refine XS.bipush X149.here hx rfl (hb hby at_207) ?_
        show Steps p.tables e below (T149.setTop (mkF m 209 #[.val (.long x0), .second, .val (.int x2), .val (.long x3), .second, .val (.int (3 : Int32)), .val (.ref b3)] [(.int (8 : Int32)), (.long x0), (.int ((3 : Int32) + (6 : Int32))), (.ref b3)])) _
        refine XS.lushr X149.here hx rfl (hb hby at_209) rfl ?_
        show Steps p.tables e below (T149.setTop (mkF m 210 #[.val (.long x0), .second, .val (.int x2), .val (.long x3), .second, .val (.int (3 : Int32)), .val (.ref b3)] [(.long ((x0.toUInt64 >>> ((8 : Int32) &&& 0x3f).toInt64.toUInt64).toInt64)), (.int ((3 : Int32) + (6 : Int32))), (.ref b3)])) _
        refine XS.l2i X149.here hx rfl (hb hby at_210) rfl ?_
        show Steps p.tables e below (T149.setTop (mkF m 211 #[.val (.long x0), .second, .val (.int x2), .val (.long x3), .second, .val (.int (3 : Int32)), .val (.ref b3)] [(.int (((x0.toUInt64 >>> ((8 : Int32) &&& 0x3f).toInt64.toUInt64).toInt64).toInt32)), (.int ((3 : Int32) + (6 : Int32))), (.ref b3)])) _
        refine XS.i2b X149.here hx rfl (hb hby at_211) rfl ?_
        exact k)
    obtain ⟨c152, Ar152, q152, S152, M152, H152, G152⟩ := fa149
    have hin152 : ¬ (((3 : Int32) + (6 : Int32)) < 0 ∨ c152.slots.size ≤ (((3 : Int32) + (6 : Int32))).toNatClampNeg) := inb_of S152 ⟨by decide, by decide⟩
    obtain ⟨T152, h152, X152, e152, W152, st152⟩ := stB X149 hx hZ e149 Ar152 (j := ((3 : Int32) + (6 : Int32))) hin152 (g := (mkF m 212 #[.val (.long x0), .second, .val (.int x2), .val (.long x3), .second, .val (.int (3 : Int32)), .val (.ref b3)] [(.int ((((x0.toUInt64 >>> ((8 : Int32) &&& 0x3f).toInt64.toUInt64).toInt64).toInt32).toInt8.toInt32)), (.int ((3 : Int32) + (6 : Int32))), (.ref b3)])) rfl rfl (hb hby at_212)
    have fa152 : Arv Z h152 b3 k3 .byte (11 : Int32) [(.int (nar .byte ((x3.toInt32).toInt8.toInt32))), (.int (nar .byte ((((x3.toUInt64 >>> ((8 : Int32) &&& 0x3f).toInt64.toUInt64).toInt64).toInt32).toInt8.toInt32))), (.int (nar .byte ((((x3.toUInt64 >>> ((16 : Int32) &&& 0x3f).toInt64.toUInt64).toInt64).toInt32).toInt8.toInt32))), (.int (nar .byte ((((x0.toUInt64 >>> ((56 : Int32) &&& 0x3f).toInt64.toUInt64).toInt64).toInt32).toInt8.toInt32))), (.int (nar .byte ((((x0.toUInt64 >>> ((48 : Int32) &&& 0x3f).toInt64.toUInt64).toInt64).toInt32).toInt8.toInt32))), (.int (nar .byte ((((x0.toUInt64 >>> ((40 : Int32) &&& 0x3f).toInt64.toUInt64).toInt64).toInt32).toInt8.toInt32))), (.int (nar .byte ((((x0.toUInt64 >>> ((32 : Int32) &&& 0x3f).toInt64.toUInt64).toInt64).toInt32).toInt8.toInt32))), (.int (nar .byte ((((x0.toUInt64 >>> ((24 : Int32) &&& 0x3f).toInt64.toUInt64).toInt64).toInt32).toInt8.toInt32))), (.int (nar .byte ((((x0.toUInt64 >>> ((16 : Int32) &&& 0x3f).toInt64.toUInt64).toInt64).toInt32).toInt8.toInt32))), (.int (nar .byte ((((x0.toUInt64 >>> ((8 : Int32) &&& 0x3f).toInt64.toUInt64).toInt64).toInt32).toInt8.toInt32))), (.int (nar .byte ((((x3.toUInt64 >>> ((29 : Int32) &&& 0x3f).toInt64.toUInt64).toInt64).toInt32).toInt8.toInt32)))] (.int (0 : Int32)) := Arv.set Ar152 q152 S152 M152 H152 G152 (fits_nar_byte _) W152 9 rfl (Nat.le_of_ble_eq_true rfl)
    have N152 := Fr.snoc X152 N149 g4
    have f153 : n0 ≤ h152.size := Nat.le_trans f150 (Keep.of_wr W152).1
    have pre152 : Go p.tables e below (s₁.setTop (entryFrame m #[(.long x0), (.int x2), (.long x3)] maxLocals)) T152 (mkF m 213 #[.val (.long x0), .second, .val (.int x2), .val (.long x3), .second, .val (.int (3 : Int32)), .val (.ref b3)] []) := fun t k => pre151 t (st152 _ k)
    have pre154 : Go p.tables e below (s₁.setTop (entryFrame m #[(.long x0), (.int x2), (.long x3)] maxLocals)) T152 (mkF m 223 #[.val (.long x0), .second, .val (.int x2), .val (.long x3), .second, .val (.int (3 : Int32)), .val (.ref b3)] [(.int ((x0.toInt32).toInt8.toInt32)), (.int ((3 : Int32) + (7 : Int32))), (.ref b3)]) := fun t k => pre152 t (by
        refine XS.aload X152.here hx rfl (hb hby at_213) rfl rfl ?_
        show Steps p.tables e below (T152.setTop (mkF m 215 #[.val (.long x0), .second, .val (.int x2), .val (.long x3), .second, .val (.int (3 : Int32)), .val (.ref b3)] [(.ref b3)])) _
        refine XS.iload X152.here hx rfl (hb hby at_215) rfl ?_
        show Steps p.tables e below (T152.setTop (mkF m 217 #[.val (.long x0), .second, .val (.int x2), .val (.long x3), .second, .val (.int (3 : Int32)), .val (.ref b3)] [(.int (3 : Int32)), (.ref b3)])) _
        refine XS.bipush X152.here hx rfl (hb hby at_217) ?_
        show Steps p.tables e below (T152.setTop (mkF m 219 #[.val (.long x0), .second, .val (.int x2), .val (.long x3), .second, .val (.int (3 : Int32)), .val (.ref b3)] [(.int (7 : Int32)), (.int (3 : Int32)), (.ref b3)])) _
        refine XS.iadd X152.here hx rfl (hb hby at_219) rfl ?_
        show Steps p.tables e below (T152.setTop (mkF m 220 #[.val (.long x0), .second, .val (.int x2), .val (.long x3), .second, .val (.int (3 : Int32)), .val (.ref b3)] [(.int ((3 : Int32) + (7 : Int32))), (.ref b3)])) _
        refine XS.lloadN X152.here hx rfl (hb hby at_220) rfl ?_
        show Steps p.tables e below (T152.setTop (mkF m 221 #[.val (.long x0), .second, .val (.int x2), .val (.long x3), .second, .val (.int (3 : Int32)), .val (.ref b3)] [(.long x0), (.int ((3 : Int32) + (7 : Int32))), (.ref b3)])) _
        refine XS.l2i X152.here hx rfl (hb hby at_221) rfl ?_
        show Steps p.tables e below (T152.setTop (mkF m 222 #[.val (.long x0), .second, .val (.int x2), .val (.long x3), .second, .val (.int (3 : Int32)), .val (.ref b3)] [(.int (x0.toInt32)), (.int ((3 : Int32) + (7 : Int32))), (.ref b3)])) _
        refine XS.i2b X152.here hx rfl (hb hby at_222) rfl ?_
        exact k)
    obtain ⟨c155, Ar155, q155, S155, M155, H155, G155⟩ := fa152
    have hin155 : ¬ (((3 : Int32) + (7 : Int32)) < 0 ∨ c155.slots.size ≤ (((3 : Int32) + (7 : Int32))).toNatClampNeg) := inb_of S155 ⟨by decide, by decide⟩
    obtain ⟨T155, h155, X155, e155, W155, st155⟩ := stB X152 hx hZ e152 Ar155 (j := ((3 : Int32) + (7 : Int32))) hin155 (g := (mkF m 223 #[.val (.long x0), .second, .val (.int x2), .val (.long x3), .second, .val (.int (3 : Int32)), .val (.ref b3)] [(.int ((x0.toInt32).toInt8.toInt32)), (.int ((3 : Int32) + (7 : Int32))), (.ref b3)])) rfl rfl (hb hby at_223)
    have fa155 : Arv Z h155 b3 k3 .byte (11 : Int32) [(.int (nar .byte ((x3.toInt32).toInt8.toInt32))), (.int (nar .byte ((((x3.toUInt64 >>> ((8 : Int32) &&& 0x3f).toInt64.toUInt64).toInt64).toInt32).toInt8.toInt32))), (.int (nar .byte ((((x3.toUInt64 >>> ((16 : Int32) &&& 0x3f).toInt64.toUInt64).toInt64).toInt32).toInt8.toInt32))), (.int (nar .byte ((((x0.toUInt64 >>> ((56 : Int32) &&& 0x3f).toInt64.toUInt64).toInt64).toInt32).toInt8.toInt32))), (.int (nar .byte ((((x0.toUInt64 >>> ((48 : Int32) &&& 0x3f).toInt64.toUInt64).toInt64).toInt32).toInt8.toInt32))), (.int (nar .byte ((((x0.toUInt64 >>> ((40 : Int32) &&& 0x3f).toInt64.toUInt64).toInt64).toInt32).toInt8.toInt32))), (.int (nar .byte ((((x0.toUInt64 >>> ((32 : Int32) &&& 0x3f).toInt64.toUInt64).toInt64).toInt32).toInt8.toInt32))), (.int (nar .byte ((((x0.toUInt64 >>> ((24 : Int32) &&& 0x3f).toInt64.toUInt64).toInt64).toInt32).toInt8.toInt32))), (.int (nar .byte ((((x0.toUInt64 >>> ((16 : Int32) &&& 0x3f).toInt64.toUInt64).toInt64).toInt32).toInt8.toInt32))), (.int (nar .byte ((((x0.toUInt64 >>> ((8 : Int32) &&& 0x3f).toInt64.toUInt64).toInt64).toInt32).toInt8.toInt32))), (.int (nar .byte ((x0.toInt32).toInt8.toInt32)))] (.int (0 : Int32)) := Arv.set Ar155 q155 S155 M155 H155 G155 (fits_nar_byte _) W155 10 rfl (Nat.le_of_ble_eq_true rfl)
    have N155 := Fr.snoc X155 N152 g4
    have f156 : n0 ≤ h155.size := Nat.le_trans f153 (Keep.of_wr W155).1
    have pre155 : Go p.tables e below (s₁.setTop (entryFrame m #[(.long x0), (.int x2), (.long x3)] maxLocals)) T155 (mkF m 224 #[.val (.long x0), .second, .val (.int x2), .val (.long x3), .second, .val (.int (3 : Int32)), .val (.ref b3)] []) := fun t k => pre154 t (st155 _ k)
    have pre157 : Go p.tables e below (s₁.setTop (entryFrame m #[(.long x0), (.int x2), (.long x3)] maxLocals)) T155 (mkF m 228 #[.val (.long x0), .second, .val (.int x2), .val (.long x3), .second, .val (.int (3 : Int32)), .val (.ref b3)] [(.int (3 : Int32)), (.ref b3)]) := fun t k => pre155 t (by
        refine XS.aload X155.here hx rfl (hb hby at_224) rfl rfl ?_
        show Steps p.tables e below (T155.setTop (mkF m 226 #[.val (.long x0), .second, .val (.int x2), .val (.long x3), .second, .val (.int (3 : Int32)), .val (.ref b3)] [(.ref b3)])) _
        refine XS.iload X155.here hx rfl (hb hby at_226) rfl ?_
        exact k)
    obtain ⟨c159, Ar159, q159, S159, M159, H159, G159⟩ := fa155
    have hi159_0 : ¬ ((3 : Int32) < 0 ∨ c159.slots.size ≤ ((3 : Int32)).toNatClampNeg) := inb_of S159 ⟨by decide, by decide⟩
    have hi159_1 : ¬ (((3 : Int32) + (1 : Int32)) < 0 ∨ c159.slots.size ≤ (((3 : Int32) + (1 : Int32))).toNatClampNeg) := inb_of S159 ⟨by decide, by decide⟩
    have hi159_2 : ¬ (((3 : Int32) + (2 : Int32)) < 0 ∨ c159.slots.size ≤ (((3 : Int32) + (2 : Int32))).toNatClampNeg) := inb_of S159 ⟨by decide, by decide⟩
    have hi159_3 : ¬ (((3 : Int32) + (3 : Int32)) < 0 ∨ c159.slots.size ≤ (((3 : Int32) + (3 : Int32))).toNatClampNeg) := inb_of S159 ⟨by decide, by decide⟩
    have hi159_4 : ¬ (((3 : Int32) + (4 : Int32)) < 0 ∨ c159.slots.size ≤ (((3 : Int32) + (4 : Int32))).toNatClampNeg) := inb_of S159 ⟨by decide, by decide⟩
    have hi159_5 : ¬ (((3 : Int32) + (5 : Int32)) < 0 ∨ c159.slots.size ≤ (((3 : Int32) + (5 : Int32))).toNatClampNeg) := inb_of S159 ⟨by decide, by decide⟩
    have hi159_6 : ¬ (((3 : Int32) + (6 : Int32)) < 0 ∨ c159.slots.size ≤ (((3 : Int32) + (6 : Int32))).toNatClampNeg) := inb_of S159 ⟨by decide, by decide⟩
    have hi159_7 : ¬ (((3 : Int32) + (7 : Int32)) < 0 ∨ c159.slots.size ≤ (((3 : Int32) + (7 : Int32))).toNatClampNeg) := inb_of S159 ⟨by decide, by decide⟩
    obtain ⟨_, _, ⟨T158, L158, k158, n158⟩, -, X158, ⟨Lc158, hQ158, l158, y158, z158⟩, st158⟩ := Jvm.LawKit.callS X155 hx (y := (⟨"com/example/fence/fence/util/BigEndian", "longAt", "([BI)J"⟩ : MethodName)) hown (mvT hZ (hw _ (List.mem_of_getElem? (i := 1) rfl))) (mvT hZ (hw _ (List.mem_of_getElem? (i := 2) rfl))) (mvT hZ (hw _ (List.mem_of_getElem? (i := 3) rfl))) (mvT hZ (hw _ (List.mem_of_getElem? (i := 4) rfl))) (by decide) (backOf (W := 0) (rm_la l Z a0 hw [] b3 (3 : Int32) c159 (nar .byte ((((x0.toUInt64 >>> ((56 : Int32) &&& 0x3f).toInt64.toUInt64).toInt64).toInt32).toInt8.toInt32)) (nar .byte ((((x0.toUInt64 >>> ((48 : Int32) &&& 0x3f).toInt64.toUInt64).toInt64).toInt32).toInt8.toInt32)) (nar .byte ((((x0.toUInt64 >>> ((40 : Int32) &&& 0x3f).toInt64.toUInt64).toInt64).toInt32).toInt8.toInt32)) (nar .byte ((((x0.toUInt64 >>> ((32 : Int32) &&& 0x3f).toInt64.toUInt64).toInt64).toInt32).toInt8.toInt32)) (nar .byte ((((x0.toUInt64 >>> ((24 : Int32) &&& 0x3f).toInt64.toUInt64).toInt64).toInt32).toInt8.toInt32)) (nar .byte ((((x0.toUInt64 >>> ((16 : Int32) &&& 0x3f).toInt64.toUInt64).toInt64).toInt32).toInt8.toInt32)) (nar .byte ((((x0.toUInt64 >>> ((8 : Int32) &&& 0x3f).toInt64.toUInt64).toInt64).toInt32).toInt8.toInt32)) (nar .byte ((x0.toInt32).toInt8.toInt32)) h155 n0 Ar159 hi159_0 hi159_1 hi159_2 hi159_3 hi159_4 hi159_5 hi159_6 hi159_7 (H159.at hi159_0 rfl) (H159.at hi159_1 rfl) (H159.at hi159_2 rfl) (H159.at hi159_3 rfl) (H159.at hi159_4 rfl) (H159.at hi159_5 rfl) (H159.at hi159_6 rfl) (H159.at hi159_7 rfl)) hZ (hw _ (List.mem_of_getElem? (i := 4) rfl)) (hw _ (List.mem_of_getElem? (i := 3) rfl)) (by decide) (by decide)) (g := (mkF m 228 #[.val (.long x0), .second, .val (.int x2), .val (.long x3), .second, .val (.int (3 : Int32)), .val (.ref b3)] [(.int (3 : Int32)), (.ref b3)])) rfl (by rw [hml]; rfl) (argsL := [(.ref b3), (.int (3 : Int32))]) (rest := []) (lenOf pd_0 rfl) rfl (by show 2 * 0 + _ ≤ _; exact Nat.le_of_eq rfl) (hb hby at_228) (fun _ _ => ⟨rfl, e155, (by decide : 1 + 0 ≤ _), (by decide : 11 + 0 ≤ _)⟩)
    dsimp only [Pt.U, Pt.locs, Pt.cells, Pt.slots] at X158 l158 y158 z158 st158 hQ158
    subst l158 y158 z158
    obtain ⟨rfl, N158q, e158⟩ := hQ158
    have N158 := Fr.app N155 N158q
    have pre158 : Go p.tables e below (s₁.setTop (entryFrame m #[(.long x0), (.int x2), (.long x3)] maxLocals)) T158 (mkF m 231 #[.val (.long x0), .second, .val (.int x2), .val (.long x3), .second, .val (.int (3 : Int32)), .val (.ref b3)] [(.long (own_long (nar .byte ((((x0.toUInt64 >>> ((56 : Int32) &&& 0x3f).toInt64.toUInt64).toInt64).toInt32).toInt8.toInt32)) (nar .byte ((((x0.toUInt64 >>> ((48 : Int32) &&& 0x3f).toInt64.toUInt64).toInt64).toInt32).toInt8.toInt32)) (nar .byte ((((x0.toUInt64 >>> ((40 : Int32) &&& 0x3f).toInt64.toUInt64).toInt64).toInt32).toInt8.toInt32)) (nar .byte ((((x0.toUInt64 >>> ((32 : Int32) &&& 0x3f).toInt64.toUInt64).toInt64).toInt32).toInt8.toInt32)) (nar .byte ((((x0.toUInt64 >>> ((24 : Int32) &&& 0x3f).toInt64.toUInt64).toInt64).toInt32).toInt8.toInt32)) (nar .byte ((((x0.toUInt64 >>> ((16 : Int32) &&& 0x3f).toInt64.toUInt64).toInt64).toInt32).toInt8.toInt32)) (nar .byte ((((x0.toUInt64 >>> ((8 : Int32) &&& 0x3f).toInt64.toUInt64).toInt64).toInt32).toInt8.toInt32)) (nar .byte ((x0.toInt32).toInt8.toInt32))))]) := fun t k => pre157 t (st158 _ k)
    have pre160 : Go p.tables e below (s₁.setTop (entryFrame m #[(.long x0), (.int x2), (.long x3)] maxLocals)) T158 (mkF m 233 #[.val (.long x0), .second, .val (.int x2), .val (.long x3), .second, .val (.int (3 : Int32)), .val (.ref b3)] [(.int (lcmpW (own_long (nar .byte ((((x0.toUInt64 >>> ((56 : Int32) &&& 0x3f).toInt64.toUInt64).toInt64).toInt32).toInt8.toInt32)) (nar .byte ((((x0.toUInt64 >>> ((48 : Int32) &&& 0x3f).toInt64.toUInt64).toInt64).toInt32).toInt8.toInt32)) (nar .byte ((((x0.toUInt64 >>> ((40 : Int32) &&& 0x3f).toInt64.toUInt64).toInt64).toInt32).toInt8.toInt32)) (nar .byte ((((x0.toUInt64 >>> ((32 : Int32) &&& 0x3f).toInt64.toUInt64).toInt64).toInt32).toInt8.toInt32)) (nar .byte ((((x0.toUInt64 >>> ((24 : Int32) &&& 0x3f).toInt64.toUInt64).toInt64).toInt32).toInt8.toInt32)) (nar .byte ((((x0.toUInt64 >>> ((16 : Int32) &&& 0x3f).toInt64.toUInt64).toInt64).toInt32).toInt8.toInt32)) (nar .byte ((((x0.toUInt64 >>> ((8 : Int32) &&& 0x3f).toInt64.toUInt64).toInt64).toInt32).toInt8.toInt32)) (nar .byte ((x0.toInt32).toInt8.toInt32))) x0))]) := fun t k => pre158 t (by
        refine XS.lloadN X158.here hx rfl (hb hby at_231) rfl ?_
        show Steps p.tables e below (T158.setTop (mkF m 232 #[.val (.long x0), .second, .val (.int x2), .val (.long x3), .second, .val (.int (3 : Int32)), .val (.ref b3)] [(.long x0), (.long (own_long (nar .byte ((((x0.toUInt64 >>> ((56 : Int32) &&& 0x3f).toInt64.toUInt64).toInt64).toInt32).toInt8.toInt32)) (nar .byte ((((x0.toUInt64 >>> ((48 : Int32) &&& 0x3f).toInt64.toUInt64).toInt64).toInt32).toInt8.toInt32)) (nar .byte ((((x0.toUInt64 >>> ((40 : Int32) &&& 0x3f).toInt64.toUInt64).toInt64).toInt32).toInt8.toInt32)) (nar .byte ((((x0.toUInt64 >>> ((32 : Int32) &&& 0x3f).toInt64.toUInt64).toInt64).toInt32).toInt8.toInt32)) (nar .byte ((((x0.toUInt64 >>> ((24 : Int32) &&& 0x3f).toInt64.toUInt64).toInt64).toInt32).toInt8.toInt32)) (nar .byte ((((x0.toUInt64 >>> ((16 : Int32) &&& 0x3f).toInt64.toUInt64).toInt64).toInt32).toInt8.toInt32)) (nar .byte ((((x0.toUInt64 >>> ((8 : Int32) &&& 0x3f).toInt64.toUInt64).toInt64).toInt32).toInt8.toInt32)) (nar .byte ((x0.toInt32).toInt8.toInt32))))])) _
        refine XS.lcmp X158.here hx rfl (hb hby at_232) rfl ?_
        exact k)
    by_cases hc161 : (own_long (nar .byte ((((x0.toUInt64 >>> ((56 : Int32) &&& 0x3f).toInt64.toUInt64).toInt64).toInt32).toInt8.toInt32)) (nar .byte ((((x0.toUInt64 >>> ((48 : Int32) &&& 0x3f).toInt64.toUInt64).toInt64).toInt32).toInt8.toInt32)) (nar .byte ((((x0.toUInt64 >>> ((40 : Int32) &&& 0x3f).toInt64.toUInt64).toInt64).toInt32).toInt8.toInt32)) (nar .byte ((((x0.toUInt64 >>> ((32 : Int32) &&& 0x3f).toInt64.toUInt64).toInt64).toInt32).toInt8.toInt32)) (nar .byte ((((x0.toUInt64 >>> ((24 : Int32) &&& 0x3f).toInt64.toUInt64).toInt64).toInt32).toInt8.toInt32)) (nar .byte ((((x0.toUInt64 >>> ((16 : Int32) &&& 0x3f).toInt64.toUInt64).toInt64).toInt32).toInt8.toInt32)) (nar .byte ((((x0.toUInt64 >>> ((8 : Int32) &&& 0x3f).toInt64.toUInt64).toInt64).toInt32).toInt8.toInt32)) (nar .byte ((x0.toInt32).toInt8.toInt32))) = x0
    · -- hc161: True
      have pre162 : Go p.tables e below (s₁.setTop (entryFrame m #[(.long x0), (.int x2), (.long x3)] maxLocals)) T158 (mkF m 241 #[.val (.long x0), .second, .val (.int x2), .val (.long x3), .second, .val (.int (3 : Int32)), .val (.ref b3)] [(.int (1 : Int32))]) := fun t k => pre160 t (by
          refine XS.ifNo X158.here hx rfl (hb hby at_233) rfl ((if0 _ _).trans (teq ((lw_eq _ _).mpr hc161)).2) ?_
          show Steps p.tables e below (T158.setTop (mkF m 236 #[.val (.long x0), .second, .val (.int x2), .val (.long x3), .second, .val (.int (3 : Int32)), .val (.ref b3)] [])) _
          refine XS.iconst X158.here hx rfl (hb hby at_236) ?_
          show Steps p.tables e below (T158.setTop (mkF m 237 #[.val (.long x0), .second, .val (.int x2), .val (.long x3), .second, .val (.int (3 : Int32)), .val (.ref b3)] [(.int (1 : Int32))])) _
          refine XS.goto X158.here hx rfl (pc0 := 237) (pc' := 241) rfl (hb hby at_237) (by decide) (by decide) ?_
          exact k)
      obtain ⟨fs, hr, hrun, hended, hW, hsame⟩ := X158.leave (v := some (.int (1 : Int32))) (fun h => by rw [Bd.returns] at h; cases h) (BodyLoose.notSynchronized Bd)
      refine ⟨_, _, pre162 _ ?_, hrun, hended, _, _, rfl, ?_, ⟨_, rfl⟩, hW, hsame.mono (Nat.le_of_ble_eq_true rfl) (Nat.le_of_ble_eq_true rfl)⟩
      · exact retN X158 hx (t := .boolean) Bd.returns (by simp) (hb hby at_241) hr
      · show Q_law Z x0 x2 x3 h0 n0 _ T158.heap _
        rw [e158]
        exact ⟨rfl, N158⟩
    · -- hc161: False
      have pre163 : Go p.tables e below (s₁.setTop (entryFrame m #[(.long x0), (.int x2), (.long x3)] maxLocals)) T158 (mkF m 241 #[.val (.long x0), .second, .val (.int x2), .val (.long x3), .second, .val (.int (3 : Int32)), .val (.ref b3)] [(.int (0 : Int32))]) := fun t k => pre160 t (by
          refine XS.ifYes X158.here hx rfl (pc0 := 233) (pc' := 240) rfl (hb hby at_233) rfl ((if0 _ _).trans (feq (mt (lw_eq _ _).mp hc161)).2) (by decide) (by decide) ?_
          show Steps p.tables e below (T158.setTop (mkF m 240 #[.val (.long x0), .second, .val (.int x2), .val (.long x3), .second, .val (.int (3 : Int32)), .val (.ref b3)] [])) _
          refine XS.iconst X158.here hx rfl (hb hby at_240) ?_
          exact k)
      obtain ⟨fs, hr, hrun, hended, hW, hsame⟩ := X158.leave (v := some (.int (0 : Int32))) (fun h => by rw [Bd.returns] at h; cases h) (BodyLoose.notSynchronized Bd)
      refine ⟨_, _, pre163 _ ?_, hrun, hended, _, _, rfl, ?_, ⟨_, rfl⟩, hW, hsame.mono (Nat.le_of_ble_eq_true rfl) (Nat.le_of_ble_eq_true rfl)⟩
      · exact retN X158 hx (t := .boolean) Bd.returns (by simp) (hb hby at_241) hr
      · show Q_law Z x0 x2 x3 h0 n0 _ T158.heap _
        rw [e158]
        exact absurd (own_long_eq x0) hc161
set_option maxRecDepth 65536 in
set_option maxHeartbeats 40000000 in
theorem comes_1 {Post : Tables → Env → Array Value → State → Outcome → State → Prop} (hpost : ∀ tb e args s v u, (limb_1_1.after args s (.returned v) u = true ∧ limb_1_2.after args s (.returned v) u = true ∧ True) → FrameEnd s (.returned v) u (Jvm.fieldLocs frame_1_writes args s ++ Jvm.arrayLocs frame_1_arrays args s ++ Jvm.staticLocs frame_1_statics s) 16 128 → Post tb e args s (.returned v) u) :
    ArmFor flags0 classFile x code maxLocals ret World_1 tables_1 room_1 Calls_1 rest_1 Pre_1 Post := by
  intro l hfl _ _ p e ha hc hk s m args below hf hA hF happ hP
  obtain ⟨hcalls, hrest, hpre⟩ := hP
  obtain ⟨-, -, -, hnamed, -, -, -, hat⟩ := (Spec.applies_iff hf).mp happ
  obtain ⟨hg, hn⟩ := and_e (Cond.before_iff.mp (show (Jvm.Cond.and given_1 narrow_1).before args s = true from hpre))
  obtain ⟨gc, gt0⟩ := and_e hg
  obtain ⟨ga0, gt1⟩ := and_e gt0
  obtain ⟨ga1, gt2⟩ := and_e gt1
  obtain ⟨w0, w1, w2, rfl⟩ : ∃ w0 w1 w2 : Value, args = #[w0, w1, w2] := by
    have hs : args.size = 3 := by simpa [Cond.value, given_1] using gc
    obtain ⟨L⟩ := args
    match L, hs with
    | [w0, w1, w2], _ => exact ⟨w0, w1, w2, rfl⟩
  have hw := fun d (hd : d ∈ tables_1) => atoms_spec (ws := Jvm.Cond.code x code maxLocals ret :: tables_1) hat d (List.mem_cons_of_mem _ hd)
  have hfit : Fit s := fun {y c} hc i hi => by
    obtain ⟨ha, rfl⟩ := Array.getElem?_eq_some_iff.mp hc
    have q := List.all_eq_true.mp ((Array.all_eq_true_iff_forall_mem.mp hF) _ (Array.getElem_mem ha)) i (List.mem_range.mpr hi)
    simpa [Array.getElem?_eq_getElem hi] using q
  obtain ⟨i0, ei0⟩ := isL_v ga0
  obtain rfl : w0 = (.long i0) := Option.some.inj ei0
  obtain ⟨i1, ei1⟩ := is_v ga1
  obtain rfl : w1 = (.int i1) := Option.some.inj ei1
  obtain ⟨i2, ei2⟩ := isL_v gt2
  obtain rfl : w2 = (.long i2) := Option.some.inj ei2
  obtain ⟨n, o, h1, h2, h3, _, L, rfl, ⟨rfl, N⟩, hq⟩ := rm_law l s _ hw tables_1 i0 i1 i2  s.heap s.heap.size (Nat.le_refl _)  p e ha hc hk s m _ below hf ((Spec.applies_iff_loose hf).mp happ).1 ⟨rfl, State.Warmed39.refl s, rfl⟩ trivial
  refine ⟨n, _, h1, h2, h3, hpost _ _ _ _ _ _ ⟨Cond.after_iff.mpr rfl, Cond.after_iff.mpr (eq_i res_at (Term.int_eval (1)) rfl), trivial⟩ ⟨hq.1, hq.2.1, (hq.2.2.sift fun y hy => Or.inr (N y hy)).mono (by decide) (by decide)⟩⟩
theorem main_1_1 : Claimed_1_1 := comes_1 fun _ _ _ _ _ _ h hF => ⟨h.1, hF⟩
theorem main_1_2 : Claimed_1_2 := comes_1 fun _ _ _ _ _ _ h hF => ⟨h.2.1, hF⟩
end Jvm.Pilot.@@N@@
namespace Jvm.Pilot.@@N@@
open Jvm Jvm.ClassFile Sem Op Lib Jvm.Free Jvm.Stand Jvm.Pilot.@@N@@.Jvm.D
/-! MADE BY PROGRAM (witnessworld.py) out of the Statement's table words and the real class files: 9 classes; the members and pool entries that the words name. The judged class is class 1, her method 1. -/
namespace start1
open Jvm.ClassFile
def u (s : String) : CpInfo := .utf8 (stringToUtf16 s)
/-- a pool by its gaps: so many unusable entries, then the entry; so many at the end -/
def gap : Nat → List CpInfo → List CpInfo
  | 0, r => r
  | n + 1, r => .unusable :: gap n r
def poolList (es : List (Nat × CpInfo)) (last : Nat) : List CpInfo := es.foldr (fun e r => gap e.1 (e.2 :: r)) (gap last [])
def pool (es : List (Nat × CpInfo)) (last : Nat) : Array CpInfo := ⟨poolList es last⟩
def fileOf (pool : Array CpInfo) (this : Nat) (attrs : Array Attribute := #[]) (ms : Array MethodInfo := #[]) (fl : Nat := 33) (sup : Nat := 0) (ifs : Array Nat := #[]) (fds : Array FieldInfo := #[]) : ClassFile where
  minorVersion := 0
  majorVersion := 65
  constantPool := pool
  accessFlags := fl
  thisClass := this
  superClass := sup
  interfaces := ifs
  fields := fds
  methods := ms
  attributes := attrs
def plain (name : String) (sup : Option ClassId) : Class where
  name := name
  kind := .ordinary
  loader := none
  accessFlags := 33
  super := sup
  interfaces := #[]
  cf := none
  fields := #[]
  methods := #[]
  instanceTypes := #[]
  staticTypes := #[]
  resolved := #[]
  callSites := []
  init := .initialized
  statics := none
  mirror := none

def pool0 : Array CpInfo := pool [(5, u "<init>"), (0, u "()V"), (1, .class_ 10), (1, u "java/lang/Object")] 113

def k0m0 : Method := { name := "<init>", desc := "()V", sig := { parameters := [], returnType := none }, accessFlags := 1, code := none }
/-- java/lang/Object -/
def k0 : Class := { plain "java/lang/Object" none with
  accessFlags := 33
  interfaces := #[]
  cf := some (fileOf pool0 8 #[] #[{ accessFlags := 1, nameIndex := 5, descriptorIndex := 6, attributes := #[] }] 33 0 #[] #[])
  fields := #[]
  methods := #[k0m0]
  instanceTypes := #[]
  staticTypes := #[]
  resolved := Array.replicate 124 none
  statics := none }

def pool1 : Array CpInfo := pool [(2, .class_ 4), (1, u "java/lang/Object"), (0, u "<init>"), (0, u "()V"), (0, .methodref 8 9), (0, .class_ 10), (0, .nameAndType 11 12), (0, u "com/example/fence/fence/util/BigEndian"), (0, u "longAt"), (0, u "([BI)J"), (0, .class_ 14), (0, u "com/example/fence/fence/util/BigEndianLongAtPinLaw"), (2, u "law"), (0, u "(JIJ)Z")] 5

def k1m0 : Method := { name := "<init>", desc := "()V", sig := { parameters := [], returnType := none }, accessFlags := 2, code := none }
def k1c1 : Code := { maxStack := 5, maxLocals := 7, code := code, exceptionTable := #[], attributes := #[] }
def k1m1 : Method := { name := "law", desc := "(JIJ)Z", sig := { parameters := [.long, .int, .long], returnType := some .boolean }, accessFlags := 9, code := some k1c1 }
/-- com/example/fence/fence/util/BigEndianLongAtPinLaw -/
def k1 : Class := { plain "com/example/fence/fence/util/BigEndianLongAtPinLaw" (some 0) with
  accessFlags := 49
  interfaces := #[]
  cf := some (fileOf pool1 13 #[] #[{ accessFlags := 2, nameIndex := 5, descriptorIndex := 6, attributes := #[] }, { accessFlags := 9, nameIndex := 17, descriptorIndex := 18, attributes := #[] }] 49 2 #[] #[])
  fields := #[]
  methods := #[k1m0, k1m1]
  instanceTypes := #[]
  staticTypes := #[]
  resolved := Array.replicate 24 none
  statics := none }

def pool2 : Array CpInfo := pool [(2, .class_ 4), (1, u "java/lang/Object"), (0, u "<init>"), (0, u "()V"), (8, .long 255), (1, .class_ 18), (0, u "com/example/fence/fence/util/BigEndian"), (4, u "longAt"), (0, u "([BI)J")] 2

def k2m0 : Method := { name := "<init>", desc := "()V", sig := { parameters := [], returnType := none }, accessFlags := 2, code := none }
def k2c1 : Code := { maxStack := 6, maxLocals := 2, code := prog_51_method_3_code, exceptionTable := #[], attributes := #[] }
def k2m1 : Method := { name := "longAt", desc := "([BI)J", sig := { parameters := [(.array .byte), .int], returnType := some .long }, accessFlags := 9, code := some k2c1 }
/-- com/example/fence/fence/util/BigEndian -/
def k2 : Class := { plain "com/example/fence/fence/util/BigEndian" (some 0) with
  accessFlags := 49
  interfaces := #[]
  cf := some (fileOf pool2 17 #[] #[{ accessFlags := 2, nameIndex := 5, descriptorIndex := 6, attributes := #[] }, { accessFlags := 9, nameIndex := 23, descriptorIndex := 24, attributes := #[] }] 49 2 #[] #[])
  fields := #[]
  methods := #[k2m0, k2m1]
  instanceTypes := #[]
  staticTypes := #[]
  resolved := Array.replicate 27 none
  statics := none }

def pool3 : Array CpInfo := pool [(1, u "java/lang/Cloneable"), (0, .class_ 1), (0, u "java/lang/Object"), (0, .class_ 3)] 3

/-- java/lang/Cloneable -/
def k3 : Class := { plain "java/lang/Cloneable" (some 0) with
  accessFlags := 1537
  interfaces := #[]
  cf := some (fileOf pool3 2 #[] #[] 1537 4 #[] #[])
  fields := #[]
  methods := #[]
  instanceTypes := #[]
  staticTypes := #[]
  resolved := Array.replicate 8 none
  statics := none }

def pool4 : Array CpInfo := pool [(1, u "java/io/Serializable"), (0, .class_ 1), (0, u "java/lang/Object"), (0, .class_ 3)] 3

/-- java/io/Serializable -/
def k4 : Class := { plain "java/io/Serializable" (some 0) with
  accessFlags := 1537
  interfaces := #[]
  cf := some (fileOf pool4 2 #[] #[] 1537 4 #[] #[])
  fields := #[]
  methods := #[]
  instanceTypes := #[]
  staticTypes := #[]
  resolved := Array.replicate 8 none
  statics := none }

/-- the primitive byte -/
def k5 : Class := { plain "byte" none with kind := .primitive 'B', accessFlags := 0x411 }
/-- [B -/
def k6 : Class := { plain "[B" (some 0) with kind := .array 5 .byte, interfaces := #[3, 4], accessFlags := 1041 }

/-- the primitive int -/
def k7 : Class := { plain "int" none with kind := .primitive 'I', accessFlags := 0x411 }
/-- [I -/
def k8 : Class := { plain "[I" (some 0) with kind := .array 7 .int, interfaces := #[3, 4], accessFlags := 1041 }

def heap : Heap := #[]
def classes : Array Class := #[k0, k1, k2, k3, k4, k5, k6, k7, k8]
def interned : List (Array UInt16 × Addr) := []
def slotsUsed : Nat := 0
def theMethod : MethodId := ⟨1, 1⟩
def args0 : Array Value := #[.long 5, .int 6, .long 7]
def aboutOver (below : List Frame) : State where
  vm := { classes := classes, interned := interned.toArray }
  heap := heap
  slotsUsed := slotsUsed
  threads := #[{ frames := .invoking theMethod args0 :: below }]
def below0 : List Frame := [.native { method := ⟨0, 0⟩, args := #[] }]
def about1 : State := aboutOver below0
def p0 : Program := .bare "" "" ""
def e0 : Env := launch0.env 0 0 0
theorem w_frames : about1.frames = Frame.invoking theMethod args0 :: below0 := rfl
set_option maxRecDepth 65536 in
theorem w_args : argsFit about1.vm theMethod args0 = true := by decide +kernel
set_option maxRecDepth 65536 in
theorem w_heap : heapFits about1 = true := by decide +kernel
set_option maxRecDepth 65536 in
theorem w_runnable : about1.curStatus? = some .runnable := by decide +kernel
set_option maxRecDepth 65536 in
theorem w_alone : about1.alone = true := by decide +kernel
set_option maxRecDepth 65536 in
theorem w_named : about1.methodNamed? x = some theMethod := by decide +kernel
set_option maxRecDepth 65536 in
theorem w_hears : about1.hears theMethod below0 = true := by decide +kernel
set_option maxRecDepth 65536 in
theorem w_ripe : about1.ripe theMethod args0 below0 = true := by decide +kernel
theorem w_running : about1.status = .running := rfl
set_option maxRecDepth 65536 in
theorem w_room : about1.hasRoom e0.platform room_1 = true :=
  launch0.hasRoom_least _ room_1 (by decide +kernel) (by decide +kernel) (by decide +kernel) (by decide +kernel) (by decide +kernel) (by decide +kernel)
theorem allAtoms_all (ts : List Jvm.Cond) (a : Array Jvm.Value) (st : Jvm.State) : (allAtoms ts).before a st = ts.all (fun c => c.before a st) := by
  induction ts with
  | nil => rfl
  | cons c t ih =>
    show (Jvm.Cond.and c (allAtoms t)).before a st = _
    rw [Jvm.Cond.before_and, ih, List.all_cons]
def words1 : List Jvm.Cond := Jvm.Cond.code x code maxLocals ret :: tables_1
/-- a 'code' word, met by the world's own term for the bytes: nothing is compared byte by byte -/
theorem code_word {y : MethodName} {bytes : ByteArray} {mx : Nat} {rt : Option FieldType} {a : Array Value} {s : State} {m : MethodId} {meth : Method} {c : Code} (h1 : s.methodNamed? y = some m) (h2 : s.vm.method? m = some meth) (h3 : meth.code = some c) (h4 : c.code = bytes)
    (h5 : (c.maxLocals == mx && c.exceptionTable.isEmpty && decide (c.maxStack ≤ mostOperands) && decide (meth.sig.returnType = rt) && !meth.locks && decide (parseMethodDescriptor y.desc = some meth.sig)) = true) : (Jvm.Cond.code y bytes mx rt).before a s = true := by
  simp only [Bool.and_eq_true, beq_iff_eq, Bool.not_eq_true', decide_eq_true_eq] at h5
  obtain ⟨⟨⟨⟨⟨g1, g2⟩, g3⟩, g4⟩, g5⟩, g6⟩ := h5
  simp [Cond.before, Cond.holds, Cond.value, h1, h2, h3, h4, g1, g2, g3, g4, g5, g6]
def isCode : Jvm.Cond → Bool
  | .code _ _ _ _ => true
  | _ => false
theorem all_split {L : List Jvm.Cond} {P : Jvm.Cond → Bool} (h1 : L.all (fun c => isCode c || P c) = true) (h2 : ∀ c ∈ L.filter isCode, P c = true) : L.all P = true := by
  refine List.all_eq_true.mpr fun c hc => ?_
  have h := List.all_eq_true.mp h1 c hc
  rcases Bool.eq_false_or_eq_true (isCode c) with hi | hi
  · exact h2 c (List.mem_filter.mpr ⟨hc, hi⟩)
  · simpa [hi] using h
set_option maxRecDepth 65536 in
theorem w_c0 : (Jvm.Cond.code x code maxLocals ret).before args0 about1 = true := code_word (m := ⟨1, 1⟩) (meth := k1m1) (c := k1c1) (by decide +kernel) rfl rfl rfl (by decide +kernel)
set_option maxRecDepth 65536 in
theorem w_c1 : (Jvm.Cond.code ({ cls := "com/example/fence/fence/util/BigEndian", name := "longAt", desc := "([BI)J" } : Jvm.MethodName) prog_51_method_3_code (2 : Nat) (Option.some Jvm.ClassFile.FieldType.long)).before args0 about1 = true := code_word (m := ⟨2, 1⟩) (meth := k2m1) (c := k2c1) (by decide +kernel) rfl rfl rfl (by decide +kernel)
def codes1 : List Jvm.Cond := [Jvm.Cond.code x code maxLocals ret, Jvm.Cond.code ({ cls := "com/example/fence/fence/util/BigEndian", name := "longAt", desc := "([BI)J" } : Jvm.MethodName) prog_51_method_3_code (2 : Nat) (Option.some Jvm.ClassFile.FieldType.long)]
set_option maxRecDepth 65536 in
theorem codes_eq : words1.filter isCode = codes1 := rfl
theorem w_codes : ∀ c ∈ words1.filter isCode, c.before args0 about1 = true := by
  rw [codes_eq]
  intro c hc
  simp only [codes1, List.mem_cons, List.not_mem_nil, or_false] at hc
  rcases hc with rfl | rfl
  · exact w_c0
  · exact w_c1
set_option maxRecDepth 65536 in
theorem w_t1 : words1.all (fun c => isCode c || c.before args0 about1) = true := by decide +kernel
theorem w_tables : (allAtoms (Jvm.Cond.code x code maxLocals ret :: tables_1)).before args0 about1 = true := by
  rw [allAtoms_all]
  show words1.all (fun c => c.before args0 about1) = true
  refine all_split ?_ w_codes
  rw [w_t1]
set_option maxRecDepth 65536 in
theorem w_case : (Jvm.Cond.and given_1 narrow_1).before args0 about1 = true := by decide +kernel
theorem w_applies : (headSpec (Jvm.Cond.code x code maxLocals ret :: tables_1) room_1).applies x e0.platform about1 = true :=
  (Spec.applies_iff w_frames).mpr ⟨w_running, w_runnable, w_alone, w_named, w_hears, w_ripe, w_room, w_tables⟩
theorem atStart : AtStart classFile x code maxLocals ret World_1 tables_1 room_1 Calls_1 rest_1 Pre_1 launch0 p0 e0 about1 theMethod args0 below0 :=
  ⟨lists_1, trivial, launch0.admits_env _ _ _, launch0.least_env, fairChoices_fair.cas, fairChoices_fair.clock, w_frames, w_args, w_heap, w_applies, trivial, trivial, w_case⟩
end start1
theorem witness_1 : WitnessClaimed_1 := ⟨start1.p0, start1.e0, start1.about1, start1.theMethod, start1.args0, start1.below0, start1.atStart⟩
end Jvm.Pilot.@@N@@
