import JvmDerived
import JvmDerived.Pilot.@@N@@Statement
import JvmDerived.Pilot.@@N@@Code
set_option linter.unusedVariables false
set_option linter.unusedSimpArgs false
namespace Jvm.RoadKit
open Sem ClassFile Op Lib Jvm.Stand Jvm.Free Jvm.LawKit
section New
variable {p : Program} {l : Launch} {e : Env} {R : Room} {s : State} {m : MethodId} {args : Array Value} {below : List Frame} {meth : Method} {c : Code} {T : State} {locs : List Loc} {cells slots : Nat}
theorem retI (X : Stand p l e R s m args below meth c T locs cells slots) (hx : p.tables.exec = Jvm.exec) {pc : Nat} {Ls : Array Slot} {z : Int32} {rest : List Value} (hret : meth.sig.returnType = some .int) (hd : decode c.code pc = .ok (.ireturn, 1)) {fs : List Frame}
    (hl : ∀ (f : JFrame) (acts : List Action), f.method = m → f.locked = none → f.entered = [] → (doReturn e (T.setTop f) acts (some (.int z))).1 = T.setFrames fs) : Steps p.tables e below (T.setTop (mkF m pc Ls (.int z :: rest))) (T.setFrames fs) := by
  have hm' : T.vm.method? m = some meth := X.method'
  have hn : narrow .int (.int z) = .int z := rfl
  show Steps p.tables e below (T.setTop { method := m, pc := pc, locals := Ls, stack := _ :: rest, locked := none }) _
  jvm_step X.here [X.here.top, hx, hd, hm', hret, hn]
  first | (intro acts; rw [hl _ acts rfl rfl rfl]) | rw [hl _ _ rfl rfl rfl]
  exact Steps.refl _
end New
end Jvm.RoadKit
namespace Jvm.Pilot.@@N@@
open Jvm Jvm.ClassFile Sem Op Lib Jvm.Free Jvm.Stand Jvm.LawKit Jvm.RoadKit Bundle Jvm.Pilot.@@N@@.Jvm.D
/-- from the state A the run comes to the frame f over T -/
abbrev Go (tb : Tables) (e : Env) (below : List Frame) (A T : State) (f : JFrame) : Prop := ∀ t, Steps tb e below (T.setTop f) t → Steps tb e below A t

theorem own_sta {args : Array Value} {s : State} {C n d K : String} {a0 : Array Value} (h : (Jvm.Cond.exactly (Term.static C n d) K).value args s none s [] = some true) (hi : (Jvm.Cond.initialized C).before args s = true) (hl : (Jvm.Cond.laysStatic C n d).before args s = true) :
    ∃ a, Sta s s.heap C n d (.ref a) ∧ Exa s s.heap a K ∧ (Term.static C n d).eval args s none [] s = some (.ref a) := by
  obtain ⟨a, e⟩ := exa_v h
  exact ⟨a, Sta.start e (Or.inr ⟨hi, hl⟩), Exa.start e h, e⟩
theorem own_fld {args : Array Value} {s : State} {t : Term} {a : Addr} {C n d : String} {z : Int32} (et : t.eval args s none [] s = some (.ref a)) (h : (Jvm.Cond.eq (Term.field t C n d) (Term.int z)).value args s none s [] = some true) : Fld s s.heap a C n d (.int z) := by
  obtain ⟨x, y, e1, e2, k1, k2⟩ := cmp_v (Or.inl h)
  cases (Term.int_eval z).symm.trans e2
  obtain ⟨u, rfl⟩ : ∃ u, x = .int u := k2
  have q : u = z := gotT (Cond.eq_ints e1 (Term.int_eval z)) h
  subst q
  simp only [Term.eval, et] at e1
  exact Fld.start e1

section OwnPriv
variable {p : Program} {l : Launch} {e : Env} {R : Room} {s : State} {m : MethodId} {args : Array Value} {below : List Frame} {meth : Method} {c : Code} {T : State} {locs : List Loc} {cells slots : Nat}
/-- a private method called by invokevirtual, where the sheet's 'selects' speaks of another method of its class -/
theorem own_private (X : Stand p l e R s m args below meth c T locs cells slots) (hexec : p.tables.exec = Jvm.exec) {own C : String} {index : Nat} {y y' z' : MethodName} {bytes : ByteArray} {maxL : Nat} {ret : Option FieldType}
    (hown : s.vm.findClass own = some m.cls) (hlink : (Jvm.Cond.methodLink own index y).before args s = true) (hinst : (Jvm.Cond.instanceMethod y).before args s = true) (hsel : (Jvm.Cond.selects C y' z').before args s = true) (hzc : z'.cls = y.cls)
    (hpriv : s.PrivateAt y) (hcode : (Jvm.Cond.code y bytes maxL ret).before args s = true) (hy : y.cls ≠ "java/lang/invoke/MethodHandle" ∧ y.cls ≠ "java/lang/invoke/VarHandle")
    {W : Nat} {Pre : Pt → Array Value → Prop} {Post : Pt → Array Value → Option Value → Pt → Prop} (hK : Back l R p e below s args y 3 W Pre Post)
    {a : Addr} {cell : Cell} (hcell : T.heap[a]? = some cell) (hobj : ∀ q, cell.vm ≠ .statics q) {g : JFrame} (hg : g.method = m) (hsize : g.locals.size = c.maxLocals)
    {argsL rest : List Value} (hlen : ∀ sig, parseMethodDescriptor y.desc = some sig → argsL.length = sig.parameters.length)
    (hstack : g.stack = argsL.reverse ++ .ref a :: rest) (hW : 2 * g.monitorRoom + (rest.map fun v => v.category).sum ≤ W) (hdg : decode c.code g.pc = .ok (.invokevirtual index, 3))
    (hpre : ∀ vm₁, s.WarmedH vm₁ → Pre ⟨T.setVm vm₁, locs, cells, slots⟩ (.ref a :: argsL).toArray) :
    ∃ (v : Option Value) (vm₁ : Vm) (B : Pt), s.WarmedH vm₁ ∧ Stand p l e R s m args below meth c B.U B.locs B.cells B.slots ∧ Post ⟨T.setVm vm₁, locs, cells, slots⟩ (.ref a :: argsL).toArray v B ∧
      ∀ target, Steps p.tables e below (B.U.setTop { g with pc := g.pc + 3, stack := v.toList ++ rest }) target → Steps p.tables e below (T.setTop g) target := by
  obtain ⟨mk, methM, hnamed, hmethM, hstM, habM⟩ := Cond.instanceMethod_spec hinst
  obtain ⟨methC, cM, hmethC, -, -, -, -, -, -, hsigM⟩ := Cond.code_spec hnamed hcode
  cases hmethM.symm.trans hmethC
  obtain ⟨-, -, m2, -, -, hnz, -, kP, hkz, hki⟩ := Cond.selects_spec hsel
  have i1 := findClass_of_methodNamed hnamed
  have i2 := findClass_of_methodNamed hnz
  rw [hzc] at i2
  have i3 : mk.cls = m2.cls := Option.some.inj (i1.symm.trans i2)
  have hkP : s.vm.classes[mk.cls]? = some kP := by rw [i3]; exact hkz
  have hs1 : selectMethod e.platform s.vm cell.cls mk = .method mk := selectMethod_private hmethM (hpriv mk methM hnamed hmethM)
  obtain ⟨vm₁, X₁, go₁⟩ := X.invokevirtual hexec hown hlink hnamed hmethM hstM hkP hki hy (a := a) (cell := cell) hcell hobj hs1 hmethM habM hkP hki (g := g) hg (argsL := argsL) (rest := rest) (hlen _ hsigM) hstack hdg
  obtain ⟨v, B, X', hpost, hsteps⟩ := hK m meth c ⟨T.setVm vm₁, locs, cells, slots⟩ { g with stack := rest } (.invokevirtual index) mk (Value.ref a :: argsL).toArray X₁ hg hsize hdg hW (X₁.named hnamed) (hpre vm₁ X₁.warmed)
  exact ⟨v, vm₁, B, X₁.warmed, X', hpost, fun target h => go₁ _ fun acts => by rw [doInvoke_state]; exact hsteps.trans h⟩
end OwnPriv

theorem own_m (j : Nat) : (255#64).getLsbD j = decide (j < 8) := by
  by_cases h : j < 64
  · have : ∀ k : Fin 64, (255#64).getLsbD k.val = decide (k.val < 8) := by decide
    exact this ⟨j, h⟩
  · rw [BitVec.getLsbD_of_ge _ _ (by omega)]; exact (decide_eq_false (by omega)).symm
theorem own_asm (v : BitVec 64) : ((v >>> 56 &&& 255#64) <<< 56 ||| (v >>> 48 &&& 255#64) <<< 48 ||| (v >>> 40 &&& 255#64) <<< 40 ||| (v >>> 32 &&& 255#64) <<< 32 ||| (v >>> 24 &&& 255#64) <<< 24 ||| (v >>> 16 &&& 255#64) <<< 16 ||| (v >>> 8 &&& 255#64) <<< 8 ||| (v &&& 255#64)) = v := by
  apply BitVec.eq_of_getLsbD_eq
  intro i hi
  simp only [BitVec.getLsbD_or, BitVec.getLsbD_shiftLeft, BitVec.getLsbD_and, BitVec.getLsbD_ushiftRight, own_m, hi, decide_true, Bool.true_and]
  have key : ∀ n, (!decide (i < n) && (v.getLsbD (n + (i - n)) && decide (i - n < 8))) = (decide (n ≤ i ∧ i < n + 8) && v.getLsbD i) := by
    intro n
    by_cases h : i < n
    · rw [decide_eq_true h, decide_eq_false (p := n ≤ i ∧ i < n + 8) (by omega)]; rfl
    · rw [decide_eq_false h, show n + (i - n) = i by omega]
      by_cases h2 : i - n < 8
      · rw [decide_eq_true h2, decide_eq_true (p := n ≤ i ∧ i < n + 8) (by omega)]; cases v.getLsbD i <;> rfl
      · rw [decide_eq_false h2, decide_eq_false (p := n ≤ i ∧ i < n + 8) (by omega)]; cases v.getLsbD i <;> rfl
  simp only [key]
  cases v.getLsbD i
  · simp
  · simp only [Bool.and_true, Bool.true_and, ← Bool.decide_or, decide_eq_true_eq]
    omega
def own_b8 (x : Int64) : Int32 := x.toInt32.toInt8.toInt32.toInt8.toInt32
theorem own_b8_bits (x : Int64) : ((own_b8 x).toInt64 &&& 255).toBitVec = x.toBitVec &&& 255#64 := by
  rw [Int64.toBitVec_and]
  show ((own_b8 x).toInt64).toBitVec &&& 255#64 = _
  apply BitVec.eq_of_getLsbD_eq
  intro i hi
  rw [BitVec.getLsbD_and, BitVec.getLsbD_and, own_m]
  by_cases h : i < 8
  · rw [decide_eq_true h, Bool.and_true, Bool.and_true]
    unfold own_b8
    simp only [Int32.toBitVec_toInt64, Int8.toInt8_toInt32, Int8.toBitVec_toInt32, Int32.toBitVec_toInt8, Int64.toBitVec_toInt32]
    rw [BitVec.getLsbD_signExtend, decide_eq_true hi, Bool.true_and, if_pos (by omega), BitVec.getLsbD_signExtend, decide_eq_true (by omega), Bool.true_and, if_pos h, BitVec.getLsbD_signExtend, decide_eq_true h, Bool.true_and, if_pos (by omega), BitVec.getLsbD_signExtend, decide_eq_true (by omega), Bool.true_and, if_pos (by omega)]
  · rw [decide_eq_false h, Bool.and_false, Bool.and_false]
def own_sh (z : Int64) (k : Int32) : Int64 := (z.toUInt64 >>> (k &&& 0x3f).toInt64.toUInt64).toInt64
def own_lo (b : Int32) (k : Int32) : Int64 := (b.toInt64 &&& 255) <<< (k &&& 0x3f).toInt64
def own_long (b0 b1 b2 b3 b4 b5 b6 b7 : Int32) : Int64 := own_lo b0 56 ||| own_lo b1 48 ||| own_lo b2 40 ||| own_lo b3 32 ||| own_lo b4 24 ||| own_lo b5 16 ||| own_lo b6 8 ||| (b7.toInt64 &&& 255)
theorem own_long_eq (v : Int64) : own_long (own_b8 (own_sh v 56)) (own_b8 (own_sh v 48)) (own_b8 (own_sh v 40)) (own_b8 (own_sh v 32)) (own_b8 (own_sh v 24)) (own_b8 (own_sh v 16)) (own_b8 (own_sh v 8)) (own_b8 v) = v := by
  apply Int64.toBitVec_inj.mp
  have e : ∀ (b : Int32) (k : Int32) (n : Nat) (h : ((k &&& 0x3f).toInt64.toBitVec.smod 64).toNat = n), (own_lo b k).toBitVec = ((b.toInt64 &&& 255).toBitVec) <<< n := by
    intro b k n h
    unfold own_lo
    rw [Int64.toBitVec_shiftLeft, BitVec.shiftLeft_eq', h]
  unfold own_long
  simp only [Int64.toBitVec_or]
  rw [e _ 56 56 (by decide), e _ 48 48 (by decide), e _ 40 40 (by decide), e _ 32 32 (by decide), e _ 24 24 (by decide), e _ 16 16 (by decide), e _ 8 8 (by decide)]
  simp only [own_b8_bits]
  have f56 : (own_sh v 56).toBitVec = v.toBitVec >>> 56 := by simp [own_sh]
  have f48 : (own_sh v 48).toBitVec = v.toBitVec >>> 48 := by simp [own_sh]
  have f40 : (own_sh v 40).toBitVec = v.toBitVec >>> 40 := by simp [own_sh]
  have f32 : (own_sh v 32).toBitVec = v.toBitVec >>> 32 := by simp [own_sh]
  have f24 : (own_sh v 24).toBitVec = v.toBitVec >>> 24 := by simp [own_sh]
  have f16 : (own_sh v 16).toBitVec = v.toBitVec >>> 16 := by simp [own_sh]
  have f8 : (own_sh v 8).toBitVec = v.toBitVec >>> 8 := by simp [own_sh]
  rw [f56, f48, f40, f32, f24, f16, f8]
  exact own_asm v.toBitVec
theorem own_and3 (x : Int32) : (x &&& 3) = 0 ∨ (x &&& 3) = 1 ∨ (x &&& 3) = 2 ∨ (x &&& 3) = 3 := by
  have h := c_mask x 3 2 (by decide) (by decide)
  simp only [← Int32.toInt_inj, h, show (0 : Int32).toInt = 0 from rfl, show (1 : Int32).toInt = 1 from rfl, show (2 : Int32).toInt = 2 from rfl, show (3 : Int32).toInt = 3 from rfl]
  omega
def own_isC (z st : Int32) : Int32 := if z < st + 8 then 0 else 1
def own_of (v : Int64) (z : Int32) (rT rN : Addr) : Value := if z < 8 then .null else if v < (946684800000000000 : Int64) then (if own_isC z 8 = 0 then .null else .ref rN) else (if own_isC z 0 = 0 then .null else .ref rT)
def own_chk (a r : Addr) : Int32 := if a = r then 1 else 0
theorem own_add8 (z : Int32) (h0 : 0 ≤ z.toInt) (h1 : z.toInt ≤ 23) : ((8 : Int32) + z).toInt = 8 + z.toInt := by
  have a := c_iadd 8 z; have r := rng32 (8 + z)
  rw [show (8 : Int32).toInt = 8 from rfl] at a
  omega
theorem own_len8 (z : Int32) (h0 : 0 ≤ z.toInt) (h1 : z.toInt ≤ 23) : ¬ ((8 : Int32) + z) < 0 ∧ ((8 : Int32) + z).toNatClampNeg ≤ 31 ∧ ¬ z < 0 ∧ (8 : Int32).toNatClampNeg + z.toNatClampNeg ≤ ((8 : Int32) + z).toNatClampNeg ∧ (8 : Int32).toNatClampNeg + z.toNatClampNeg ≤ 31 := by
  have a := own_add8 z h0 h1
  have e8 : (8 : Int32).toNatClampNeg = 8 := rfl
  rw [e8]
  simp only [Int32.lt_iff_toInt_lt, Int32.toNatClampNeg, a, show (0 : Int32).toInt = 0 from rfl]
  omega
theorem own_lt8 (z : Int32) (h0 : 0 ≤ z.toInt) (h1 : z.toInt ≤ 23) {j : Int32} (hj : j < 8) : j < (8 : Int32) + z := by
  have a := own_add8 z h0 h1
  rw [Int32.lt_iff_toInt_lt] at hj ⊢
  rw [a]; rw [show (8 : Int32).toInt = 8 from rfl] at hj; omega

theorem pd_0 : parseMethodDescriptor "([BI)J" = some ⟨[(.array .byte), .int], some .long⟩ := by decide +kernel
theorem pd_1 : parseMethodDescriptor "([B)J" = some ⟨[(.array .byte)], some .long⟩ := by decide +kernel
theorem pd_2 : parseMethodDescriptor "([B)Z" = some ⟨[(.array .byte)], some .boolean⟩ := by decide +kernel
theorem pd_3 : parseMethodDescriptor "(J[B)[B" = some ⟨[.long, (.array .byte)], some (.array .byte)⟩ := by decide +kernel
theorem pd_4 : parseMethodDescriptor "([B)Lcom/example/fence/fence/service/ClaimFormat;" = some ⟨[(.array .byte)], some (.object "com/example/fence/fence/service/ClaimFormat")⟩ := by decide +kernel
theorem pd_5 : parseMethodDescriptor "()Z" = some ⟨[], some .boolean⟩ := by decide +kernel
theorem d5_0 : decode prog_52_method_3_code 0 = .ok (.aload_n 0, 1) := by decide +kernel
theorem d5_1 : decode prog_52_method_3_code 1 = .ok (.iload_n 1, 1) := by decide +kernel
theorem d5_2 : decode prog_52_method_3_code 2 = .ok (.baload, 1) := by decide +kernel
theorem d5_3 : decode prog_52_method_3_code 3 = .ok (.i2l, 1) := by decide +kernel
theorem d5_4 : decode prog_52_method_3_code 4 = .ok (.ldc2_w 15, 3) := by decide +kernel
theorem d5_7 : decode prog_52_method_3_code 7 = .ok (.land, 1) := by decide +kernel
theorem d5_8 : decode prog_52_method_3_code 8 = .ok (.bipush 56, 2) := by decide +kernel
theorem d5_10 : decode prog_52_method_3_code 10 = .ok (.lshl, 1) := by decide +kernel
theorem d5_11 : decode prog_52_method_3_code 11 = .ok (.aload_n 0, 1) := by decide +kernel
theorem d5_12 : decode prog_52_method_3_code 12 = .ok (.iload_n 1, 1) := by decide +kernel
theorem d5_13 : decode prog_52_method_3_code 13 = .ok (.iconst 1, 1) := by decide +kernel
theorem d5_14 : decode prog_52_method_3_code 14 = .ok (.iadd, 1) := by decide +kernel
theorem d5_15 : decode prog_52_method_3_code 15 = .ok (.baload, 1) := by decide +kernel
theorem d5_16 : decode prog_52_method_3_code 16 = .ok (.i2l, 1) := by decide +kernel
theorem d5_17 : decode prog_52_method_3_code 17 = .ok (.ldc2_w 15, 3) := by decide +kernel
theorem d5_20 : decode prog_52_method_3_code 20 = .ok (.land, 1) := by decide +kernel
theorem d5_21 : decode prog_52_method_3_code 21 = .ok (.bipush 48, 2) := by decide +kernel
theorem d5_23 : decode prog_52_method_3_code 23 = .ok (.lshl, 1) := by decide +kernel
theorem d5_24 : decode prog_52_method_3_code 24 = .ok (.lor, 1) := by decide +kernel
theorem d5_25 : decode prog_52_method_3_code 25 = .ok (.aload_n 0, 1) := by decide +kernel
theorem d5_26 : decode prog_52_method_3_code 26 = .ok (.iload_n 1, 1) := by decide +kernel
theorem d5_27 : decode prog_52_method_3_code 27 = .ok (.iconst 2, 1) := by decide +kernel
theorem d5_28 : decode prog_52_method_3_code 28 = .ok (.iadd, 1) := by decide +kernel
theorem d5_29 : decode prog_52_method_3_code 29 = .ok (.baload, 1) := by decide +kernel
theorem d5_30 : decode prog_52_method_3_code 30 = .ok (.i2l, 1) := by decide +kernel
theorem d5_31 : decode prog_52_method_3_code 31 = .ok (.ldc2_w 15, 3) := by decide +kernel
theorem d5_34 : decode prog_52_method_3_code 34 = .ok (.land, 1) := by decide +kernel
theorem d5_35 : decode prog_52_method_3_code 35 = .ok (.bipush 40, 2) := by decide +kernel
theorem d5_37 : decode prog_52_method_3_code 37 = .ok (.lshl, 1) := by decide +kernel
theorem d5_38 : decode prog_52_method_3_code 38 = .ok (.lor, 1) := by decide +kernel
theorem d5_39 : decode prog_52_method_3_code 39 = .ok (.aload_n 0, 1) := by decide +kernel
theorem d5_40 : decode prog_52_method_3_code 40 = .ok (.iload_n 1, 1) := by decide +kernel
theorem d5_41 : decode prog_52_method_3_code 41 = .ok (.iconst 3, 1) := by decide +kernel
theorem d5_42 : decode prog_52_method_3_code 42 = .ok (.iadd, 1) := by decide +kernel
theorem d5_43 : decode prog_52_method_3_code 43 = .ok (.baload, 1) := by decide +kernel
theorem d5_44 : decode prog_52_method_3_code 44 = .ok (.i2l, 1) := by decide +kernel
theorem d5_45 : decode prog_52_method_3_code 45 = .ok (.ldc2_w 15, 3) := by decide +kernel
theorem d5_48 : decode prog_52_method_3_code 48 = .ok (.land, 1) := by decide +kernel
theorem d5_49 : decode prog_52_method_3_code 49 = .ok (.bipush 32, 2) := by decide +kernel
theorem d5_51 : decode prog_52_method_3_code 51 = .ok (.lshl, 1) := by decide +kernel
theorem d5_52 : decode prog_52_method_3_code 52 = .ok (.lor, 1) := by decide +kernel
theorem d5_53 : decode prog_52_method_3_code 53 = .ok (.aload_n 0, 1) := by decide +kernel
theorem d5_54 : decode prog_52_method_3_code 54 = .ok (.iload_n 1, 1) := by decide +kernel
theorem d5_55 : decode prog_52_method_3_code 55 = .ok (.iconst 4, 1) := by decide +kernel
theorem d5_56 : decode prog_52_method_3_code 56 = .ok (.iadd, 1) := by decide +kernel
theorem d5_57 : decode prog_52_method_3_code 57 = .ok (.baload, 1) := by decide +kernel
theorem d5_58 : decode prog_52_method_3_code 58 = .ok (.i2l, 1) := by decide +kernel
theorem d5_59 : decode prog_52_method_3_code 59 = .ok (.ldc2_w 15, 3) := by decide +kernel
theorem d5_62 : decode prog_52_method_3_code 62 = .ok (.land, 1) := by decide +kernel
theorem d5_63 : decode prog_52_method_3_code 63 = .ok (.bipush 24, 2) := by decide +kernel
theorem d5_65 : decode prog_52_method_3_code 65 = .ok (.lshl, 1) := by decide +kernel
theorem d5_66 : decode prog_52_method_3_code 66 = .ok (.lor, 1) := by decide +kernel
theorem d5_67 : decode prog_52_method_3_code 67 = .ok (.aload_n 0, 1) := by decide +kernel
theorem d5_68 : decode prog_52_method_3_code 68 = .ok (.iload_n 1, 1) := by decide +kernel
theorem d5_69 : decode prog_52_method_3_code 69 = .ok (.iconst 5, 1) := by decide +kernel
theorem d5_70 : decode prog_52_method_3_code 70 = .ok (.iadd, 1) := by decide +kernel
theorem d5_71 : decode prog_52_method_3_code 71 = .ok (.baload, 1) := by decide +kernel
theorem d5_72 : decode prog_52_method_3_code 72 = .ok (.i2l, 1) := by decide +kernel
theorem d5_73 : decode prog_52_method_3_code 73 = .ok (.ldc2_w 15, 3) := by decide +kernel
theorem d5_76 : decode prog_52_method_3_code 76 = .ok (.land, 1) := by decide +kernel
theorem d5_77 : decode prog_52_method_3_code 77 = .ok (.bipush 16, 2) := by decide +kernel
theorem d5_79 : decode prog_52_method_3_code 79 = .ok (.lshl, 1) := by decide +kernel
theorem d5_80 : decode prog_52_method_3_code 80 = .ok (.lor, 1) := by decide +kernel
theorem d5_81 : decode prog_52_method_3_code 81 = .ok (.aload_n 0, 1) := by decide +kernel
theorem d5_82 : decode prog_52_method_3_code 82 = .ok (.iload_n 1, 1) := by decide +kernel
theorem d5_83 : decode prog_52_method_3_code 83 = .ok (.bipush 6, 2) := by decide +kernel
theorem d5_85 : decode prog_52_method_3_code 85 = .ok (.iadd, 1) := by decide +kernel
theorem d5_86 : decode prog_52_method_3_code 86 = .ok (.baload, 1) := by decide +kernel
theorem d5_87 : decode prog_52_method_3_code 87 = .ok (.i2l, 1) := by decide +kernel
theorem d5_88 : decode prog_52_method_3_code 88 = .ok (.ldc2_w 15, 3) := by decide +kernel
theorem d5_91 : decode prog_52_method_3_code 91 = .ok (.land, 1) := by decide +kernel
theorem d5_92 : decode prog_52_method_3_code 92 = .ok (.bipush 8, 2) := by decide +kernel
theorem d5_94 : decode prog_52_method_3_code 94 = .ok (.lshl, 1) := by decide +kernel
theorem d5_95 : decode prog_52_method_3_code 95 = .ok (.lor, 1) := by decide +kernel
theorem d5_96 : decode prog_52_method_3_code 96 = .ok (.aload_n 0, 1) := by decide +kernel
theorem d5_97 : decode prog_52_method_3_code 97 = .ok (.iload_n 1, 1) := by decide +kernel
theorem d5_98 : decode prog_52_method_3_code 98 = .ok (.bipush 7, 2) := by decide +kernel
theorem d5_100 : decode prog_52_method_3_code 100 = .ok (.iadd, 1) := by decide +kernel
theorem d5_101 : decode prog_52_method_3_code 101 = .ok (.baload, 1) := by decide +kernel
theorem d5_102 : decode prog_52_method_3_code 102 = .ok (.i2l, 1) := by decide +kernel
theorem d5_103 : decode prog_52_method_3_code 103 = .ok (.ldc2_w 15, 3) := by decide +kernel
theorem d5_106 : decode prog_52_method_3_code 106 = .ok (.land, 1) := by decide +kernel
theorem d5_107 : decode prog_52_method_3_code 107 = .ok (.lor, 1) := by decide +kernel
theorem d5_108 : decode prog_52_method_3_code 108 = .ok (.lreturn, 1) := by decide +kernel
theorem pn_la : plainName "com/example/fence/fence/util/BigEndian" = true := by first | (simp [plainName, overriddenIn]; done) | decide +kernel
theorem ef_la (m : MethodId) (a0 : Addr) (p1 : Int32) : entryFrame m #[(.ref a0), (.int p1)] 2 = mkF m 0 #[.val (.ref a0), .val (.int p1)] [] := by first | (simp [entryFrame, mkF, argsToLocals, Value.category]; done) | rfl
def Q_la (Z : State) (a0 : Addr) (p1 : Int32) (cl : Cell) (b0 : Int32) (b1 : Int32) (b2 : Int32) (b3 : Int32) (b4 : Int32) (b5 : Int32) (b6 : Int32) (b7 : Int32) (h0 : Heap) (n0 : Nat) (v : Option Value) (h : Heap) (L : List Loc) : Prop := v = some (.long (own_long b0 b1 b2 b3 b4 b5 b6 b7)) ∧ Fr n0 L ∧ h = h0
set_option maxRecDepth 65536 in
set_option maxHeartbeats 40000000 in
theorem rm_la (l : Launch) (Z : State) (av0 : Array Value) (hw : ∀ d ∈ tables_1, d.before av0 Z = true) (ws : List Jvm.Cond) (a0 : Addr) (p1 : Int32) (cl : Cell) (b0 : Int32) (b1 : Int32) (b2 : Int32) (b3 : Int32) (b4 : Int32) (b5 : Int32) (b6 : Int32) (b7 : Int32) (h0 : Heap) (n0 : Nat) (Ar : Arr Z h0 a0 cl .byte) (hi0 : ¬ (p1 < 0 ∨ cl.slots.size ≤ (p1).toNatClampNeg)) (hi1 : ¬ ((p1 + (1 : Int32)) < 0 ∨ cl.slots.size ≤ ((p1 + (1 : Int32))).toNatClampNeg)) (hi2 : ¬ ((p1 + (2 : Int32)) < 0 ∨ cl.slots.size ≤ ((p1 + (2 : Int32))).toNatClampNeg)) (hi3 : ¬ ((p1 + (3 : Int32)) < 0 ∨ cl.slots.size ≤ ((p1 + (3 : Int32))).toNatClampNeg)) (hi4 : ¬ ((p1 + (4 : Int32)) < 0 ∨ cl.slots.size ≤ ((p1 + (4 : Int32))).toNatClampNeg)) (hi5 : ¬ ((p1 + (5 : Int32)) < 0 ∨ cl.slots.size ≤ ((p1 + (5 : Int32))).toNatClampNeg)) (hi6 : ¬ ((p1 + (6 : Int32)) < 0 ∨ cl.slots.size ≤ ((p1 + (6 : Int32))).toNatClampNeg)) (hi7 : ¬ ((p1 + (7 : Int32)) < 0 ∨ cl.slots.size ≤ ((p1 + (7 : Int32))).toNatClampNeg)) (ha0 : cl.slots[(p1).toNatClampNeg]? = some (.int b0)) (ha1 : cl.slots[((p1 + (1 : Int32))).toNatClampNeg]? = some (.int b1)) (ha2 : cl.slots[((p1 + (2 : Int32))).toNatClampNeg]? = some (.int b2)) (ha3 : cl.slots[((p1 + (3 : Int32))).toNatClampNeg]? = some (.int b3)) (ha4 : cl.slots[((p1 + (4 : Int32))).toNatClampNeg]? = some (.int b4)) (ha5 : cl.slots[((p1 + (5 : Int32))).toNatClampNeg]? = some (.int b5)) (ha6 : cl.slots[((p1 + (6 : Int32))).toNatClampNeg]? = some (.int b6)) (ha7 : cl.slots[((p1 + (7 : Int32))).toNatClampNeg]? = some (.int b7)) :
    MetFree l (⟨"com/example/fence/fence/util/BigEndian", "longAt", "([BI)J"⟩ : MethodName) (head1 (Jvm.Cond.code (⟨"com/example/fence/fence/util/BigEndian", "longAt", "([BI)J"⟩ : MethodName) prog_52_method_3_code 2 (some .long) :: ws) ({ frames := 0, cells := 0, slots := 0, locals := 0 } : Room)) (fun a U => a = #[(.ref a0), (.int p1)] ∧ Z.Warmed39 U.vm ∧ U.heap = h0) (fun _ _ _ _ _ => True) (fun _ U o U' => ∃ v L, o = .returned v ∧ Q_la Z a0 p1 cl b0 b1 b2 b3 b4 b5 b6 b7 h0 n0 v U'.heap L ∧ FrameEnd U o U' L ({ frames := 0, cells := 0, slots := 0, locals := 0 } : Room).cells ({ frames := 0, cells := 0, slots := 0, locals := 0 } : Room).slots) := by
  refine MetFree.of_bodySF (plainFor_of_name pn_la) hisR ?_
  intro p e s m args below meth c s₁ Bd hml0 hP hK
  obtain ⟨rfl, hZ, hh⟩ := hP
  have hx := Bd.exec
  have hby := Bd.bytes
  have hml : c.maxLocals = 2 := hml0
  have hown : s.vm.findClass "com/example/fence/fence/util/BigEndian" = some m.cls := findClass_of_methodNamed Bd.named
  have hnm := (name_of_methodNamed Bd.named Bd.method).1
  have X0 : Stand p l e ({ frames := 0, cells := 0, slots := 0, locals := 0 } : Room) s m #[(.ref a0), (.int p1)] below meth c s₁ [] 0 0 := Stand.of_body Bd
  have e0 : s₁.heap = h0 := by rw [← hh, Bd.state]; rfl
  have N0 := Fr.nil n0
  have pre0 : Go p.tables e below (s₁.setTop (entryFrame m #[(.ref a0), (.int p1)] 2)) s₁ (mkF m 0 #[.val (.ref a0), .val (.int p1)] []) := fun t k => castTop (ef_la m a0 p1) k
  have pre1 : Go p.tables e below (s₁.setTop (entryFrame m #[(.ref a0), (.int p1)] 2)) s₁ (mkF m 2 #[.val (.ref a0), .val (.int p1)] [(.int p1), (.ref a0)]) := fun t k => pre0 t (by
      refine XS.aloadN X0.here hx rfl (hb hby d5_0) rfl rfl ?_
      show Steps p.tables e below (s₁.setTop (mkF m 1 #[.val (.ref a0), .val (.int p1)] [(.ref a0)])) _
      refine XS.iloadN X0.here hx rfl (hb hby d5_1) rfl ?_
      exact k)
  have pre2 : Go p.tables e below (s₁.setTop (entryFrame m #[(.ref a0), (.int p1)] 2)) s₁ (mkF m 3 #[.val (.ref a0), .val (.int p1)] [(.int b0)]) := fun t k => pre1 t (X0.baloadBytes hx (j := p1) (v := (.int b0)) (by rw [e0]; exact Ar.1) (State.isArrayOf_alike hZ.alike Ar.2.1) Ar.2.2 hi0 ha0 (g := (mkF m 2 #[.val (.ref a0), .val (.int p1)] [(.int p1), (.ref a0)])) rfl rfl (hb hby d5_2) _ k)
  have pre3 : Go p.tables e below (s₁.setTop (entryFrame m #[(.ref a0), (.int p1)] 2)) s₁ (mkF m 15 #[.val (.ref a0), .val (.int p1)] [(.int (p1 + (1 : Int32))), (.ref a0), (.long (((b0.toInt64) &&& (255 : Int64)) <<< ((56 : Int32) &&& 0x3f).toInt64))]) := fun t k => pre2 t (by
      refine XS.i2l X0.here hx rfl (hb hby d5_3) rfl ?_
      show Steps p.tables e below (s₁.setTop (mkF m 4 #[.val (.ref a0), .val (.int p1)] [(.long (b0.toInt64))])) _
      refine X0.ldc2Long hx hown (mvT hZ (hw _ (List.mem_of_getElem? (i := 22) rfl))) (g := (mkF m 4 #[.val (.ref a0), .val (.int p1)] [(.long (b0.toInt64))])) rfl (hb hby d5_4) _ ?_
      show Steps p.tables e below (s₁.setTop (mkF m 7 #[.val (.ref a0), .val (.int p1)] [(.long (255 : Int64)), (.long (b0.toInt64))])) _
      refine XS.land X0.here hx rfl (hb hby d5_7) rfl ?_
      show Steps p.tables e below (s₁.setTop (mkF m 8 #[.val (.ref a0), .val (.int p1)] [(.long ((b0.toInt64) &&& (255 : Int64)))])) _
      refine XS.bipush X0.here hx rfl (hb hby d5_8) ?_
      show Steps p.tables e below (s₁.setTop (mkF m 10 #[.val (.ref a0), .val (.int p1)] [(.int (56 : Int32)), (.long ((b0.toInt64) &&& (255 : Int64)))])) _
      refine XS.lshl X0.here hx rfl (hb hby d5_10) rfl ?_
      show Steps p.tables e below (s₁.setTop (mkF m 11 #[.val (.ref a0), .val (.int p1)] [(.long (((b0.toInt64) &&& (255 : Int64)) <<< ((56 : Int32) &&& 0x3f).toInt64))])) _
      refine XS.aloadN X0.here hx rfl (hb hby d5_11) rfl rfl ?_
      show Steps p.tables e below (s₁.setTop (mkF m 12 #[.val (.ref a0), .val (.int p1)] [(.ref a0), (.long (((b0.toInt64) &&& (255 : Int64)) <<< ((56 : Int32) &&& 0x3f).toInt64))])) _
      refine XS.iloadN X0.here hx rfl (hb hby d5_12) rfl ?_
      show Steps p.tables e below (s₁.setTop (mkF m 13 #[.val (.ref a0), .val (.int p1)] [(.int p1), (.ref a0), (.long (((b0.toInt64) &&& (255 : Int64)) <<< ((56 : Int32) &&& 0x3f).toInt64))])) _
      refine XS.iconst X0.here hx rfl (hb hby d5_13) ?_
      show Steps p.tables e below (s₁.setTop (mkF m 14 #[.val (.ref a0), .val (.int p1)] [(.int (1 : Int32)), (.int p1), (.ref a0), (.long (((b0.toInt64) &&& (255 : Int64)) <<< ((56 : Int32) &&& 0x3f).toInt64))])) _
      refine XS.iadd X0.here hx rfl (hb hby d5_14) rfl ?_
      exact k)
  have pre4 : Go p.tables e below (s₁.setTop (entryFrame m #[(.ref a0), (.int p1)] 2)) s₁ (mkF m 16 #[.val (.ref a0), .val (.int p1)] [(.int b1), (.long (((b0.toInt64) &&& (255 : Int64)) <<< ((56 : Int32) &&& 0x3f).toInt64))]) := fun t k => pre3 t (X0.baloadBytes hx (j := (p1 + (1 : Int32))) (v := (.int b1)) (by rw [e0]; exact Ar.1) (State.isArrayOf_alike hZ.alike Ar.2.1) Ar.2.2 hi1 ha1 (g := (mkF m 15 #[.val (.ref a0), .val (.int p1)] [(.int (p1 + (1 : Int32))), (.ref a0), (.long (((b0.toInt64) &&& (255 : Int64)) <<< ((56 : Int32) &&& 0x3f).toInt64))])) rfl rfl (hb hby d5_15) _ k)
  have pre5 : Go p.tables e below (s₁.setTop (entryFrame m #[(.ref a0), (.int p1)] 2)) s₁ (mkF m 29 #[.val (.ref a0), .val (.int p1)] [(.int (p1 + (2 : Int32))), (.ref a0), (.long ((((b0.toInt64) &&& (255 : Int64)) <<< ((56 : Int32) &&& 0x3f).toInt64) ||| (((b1.toInt64) &&& (255 : Int64)) <<< ((48 : Int32) &&& 0x3f).toInt64)))]) := fun t k => pre4 t (by
      refine XS.i2l X0.here hx rfl (hb hby d5_16) rfl ?_
      show Steps p.tables e below (s₁.setTop (mkF m 17 #[.val (.ref a0), .val (.int p1)] [(.long (b1.toInt64)), (.long (((b0.toInt64) &&& (255 : Int64)) <<< ((56 : Int32) &&& 0x3f).toInt64))])) _
      refine X0.ldc2Long hx hown (mvT hZ (hw _ (List.mem_of_getElem? (i := 22) rfl))) (g := (mkF m 17 #[.val (.ref a0), .val (.int p1)] [(.long (b1.toInt64)), (.long (((b0.toInt64) &&& (255 : Int64)) <<< ((56 : Int32) &&& 0x3f).toInt64))])) rfl (hb hby d5_17) _ ?_
      show Steps p.tables e below (s₁.setTop (mkF m 20 #[.val (.ref a0), .val (.int p1)] [(.long (255 : Int64)), (.long (b1.toInt64)), (.long (((b0.toInt64) &&& (255 : Int64)) <<< ((56 : Int32) &&& 0x3f).toInt64))])) _
      refine XS.land X0.here hx rfl (hb hby d5_20) rfl ?_
      show Steps p.tables e below (s₁.setTop (mkF m 21 #[.val (.ref a0), .val (.int p1)] [(.long ((b1.toInt64) &&& (255 : Int64))), (.long (((b0.toInt64) &&& (255 : Int64)) <<< ((56 : Int32) &&& 0x3f).toInt64))])) _
      refine XS.bipush X0.here hx rfl (hb hby d5_21) ?_
      show Steps p.tables e below (s₁.setTop (mkF m 23 #[.val (.ref a0), .val (.int p1)] [(.int (48 : Int32)), (.long ((b1.toInt64) &&& (255 : Int64))), (.long (((b0.toInt64) &&& (255 : Int64)) <<< ((56 : Int32) &&& 0x3f).toInt64))])) _
      refine XS.lshl X0.here hx rfl (hb hby d5_23) rfl ?_
      show Steps p.tables e below (s₁.setTop (mkF m 24 #[.val (.ref a0), .val (.int p1)] [(.long (((b1.toInt64) &&& (255 : Int64)) <<< ((48 : Int32) &&& 0x3f).toInt64)), (.long (((b0.toInt64) &&& (255 : Int64)) <<< ((56 : Int32) &&& 0x3f).toInt64))])) _
      refine XS.lor X0.here hx rfl (hb hby d5_24) rfl ?_
      show Steps p.tables e below (s₁.setTop (mkF m 25 #[.val (.ref a0), .val (.int p1)] [(.long ((((b0.toInt64) &&& (255 : Int64)) <<< ((56 : Int32) &&& 0x3f).toInt64) ||| (((b1.toInt64) &&& (255 : Int64)) <<< ((48 : Int32) &&& 0x3f).toInt64)))])) _
      refine XS.aloadN X0.here hx rfl (hb hby d5_25) rfl rfl ?_
      show Steps p.tables e below (s₁.setTop (mkF m 26 #[.val (.ref a0), .val (.int p1)] [(.ref a0), (.long ((((b0.toInt64) &&& (255 : Int64)) <<< ((56 : Int32) &&& 0x3f).toInt64) ||| (((b1.toInt64) &&& (255 : Int64)) <<< ((48 : Int32) &&& 0x3f).toInt64)))])) _
      refine XS.iloadN X0.here hx rfl (hb hby d5_26) rfl ?_
      show Steps p.tables e below (s₁.setTop (mkF m 27 #[.val (.ref a0), .val (.int p1)] [(.int p1), (.ref a0), (.long ((((b0.toInt64) &&& (255 : Int64)) <<< ((56 : Int32) &&& 0x3f).toInt64) ||| (((b1.toInt64) &&& (255 : Int64)) <<< ((48 : Int32) &&& 0x3f).toInt64)))])) _
      refine XS.iconst X0.here hx rfl (hb hby d5_27) ?_
      show Steps p.tables e below (s₁.setTop (mkF m 28 #[.val (.ref a0), .val (.int p1)] [(.int (2 : Int32)), (.int p1), (.ref a0), (.long ((((b0.toInt64) &&& (255 : Int64)) <<< ((56 : Int32) &&& 0x3f).toInt64) ||| (((b1.toInt64) &&& (255 : Int64)) <<< ((48 : Int32) &&& 0x3f).toInt64)))])) _
      refine XS.iadd X0.here hx rfl (hb hby d5_28) rfl ?_
      exact k)
  have pre6 : Go p.tables e below (s₁.setTop (entryFrame m #[(.ref a0), (.int p1)] 2)) s₁ (mkF m 30 #[.val (.ref a0), .val (.int p1)] [(.int b2), (.long ((((b0.toInt64) &&& (255 : Int64)) <<< ((56 : Int32) &&& 0x3f).toInt64) ||| (((b1.toInt64) &&& (255 : Int64)) <<< ((48 : Int32) &&& 0x3f).toInt64)))]) := fun t k => pre5 t (X0.baloadBytes hx (j := (p1 + (2 : Int32))) (v := (.int b2)) (by rw [e0]; exact Ar.1) (State.isArrayOf_alike hZ.alike Ar.2.1) Ar.2.2 hi2 ha2 (g := (mkF m 29 #[.val (.ref a0), .val (.int p1)] [(.int (p1 + (2 : Int32))), (.ref a0), (.long ((((b0.toInt64) &&& (255 : Int64)) <<< ((56 : Int32) &&& 0x3f).toInt64) ||| (((b1.toInt64) &&& (255 : Int64)) <<< ((48 : Int32) &&& 0x3f).toInt64)))])) rfl rfl (hb hby d5_29) _ k)
  have pre7 : Go p.tables e below (s₁.setTop (entryFrame m #[(.ref a0), (.int p1)] 2)) s₁ (mkF m 43 #[.val (.ref a0), .val (.int p1)] [(.int (p1 + (3 : Int32))), (.ref a0), (.long (((((b0.toInt64) &&& (255 : Int64)) <<< ((56 : Int32) &&& 0x3f).toInt64) ||| (((b1.toInt64) &&& (255 : Int64)) <<< ((48 : Int32) &&& 0x3f).toInt64)) ||| (((b2.toInt64) &&& (255 : Int64)) <<< ((40 : Int32) &&& 0x3f).toInt64)))]) := fun t k => pre6 t (by
      refine XS.i2l X0.here hx rfl (hb hby d5_30) rfl ?_
      show Steps p.tables e below (s₁.setTop (mkF m 31 #[.val (.ref a0), .val (.int p1)] [(.long (b2.toInt64)), (.long ((((b0.toInt64) &&& (255 : Int64)) <<< ((56 : Int32) &&& 0x3f).toInt64) ||| (((b1.toInt64) &&& (255 : Int64)) <<< ((48 : Int32) &&& 0x3f).toInt64)))])) _
      refine X0.ldc2Long hx hown (mvT hZ (hw _ (List.mem_of_getElem? (i := 22) rfl))) (g := (mkF m 31 #[.val (.ref a0), .val (.int p1)] [(.long (b2.toInt64)), (.long ((((b0.toInt64) &&& (255 : Int64)) <<< ((56 : Int32) &&& 0x3f).toInt64) ||| (((b1.toInt64) &&& (255 : Int64)) <<< ((48 : Int32) &&& 0x3f).toInt64)))])) rfl (hb hby d5_31) _ ?_
      show Steps p.tables e below (s₁.setTop (mkF m 34 #[.val (.ref a0), .val (.int p1)] [(.long (255 : Int64)), (.long (b2.toInt64)), (.long ((((b0.toInt64) &&& (255 : Int64)) <<< ((56 : Int32) &&& 0x3f).toInt64) ||| (((b1.toInt64) &&& (255 : Int64)) <<< ((48 : Int32) &&& 0x3f).toInt64)))])) _
      refine XS.land X0.here hx rfl (hb hby d5_34) rfl ?_
      show Steps p.tables e below (s₁.setTop (mkF m 35 #[.val (.ref a0), .val (.int p1)] [(.long ((b2.toInt64) &&& (255 : Int64))), (.long ((((b0.toInt64) &&& (255 : Int64)) <<< ((56 : Int32) &&& 0x3f).toInt64) ||| (((b1.toInt64) &&& (255 : Int64)) <<< ((48 : Int32) &&& 0x3f).toInt64)))])) _
      refine XS.bipush X0.here hx rfl (hb hby d5_35) ?_
      show Steps p.tables e below (s₁.setTop (mkF m 37 #[.val (.ref a0), .val (.int p1)] [(.int (40 : Int32)), (.long ((b2.toInt64) &&& (255 : Int64))), (.long ((((b0.toInt64) &&& (255 : Int64)) <<< ((56 : Int32) &&& 0x3f).toInt64) ||| (((b1.toInt64) &&& (255 : Int64)) <<< ((48 : Int32) &&& 0x3f).toInt64)))])) _
      refine XS.lshl X0.here hx rfl (hb hby d5_37) rfl ?_
      show Steps p.tables e below (s₁.setTop (mkF m 38 #[.val (.ref a0), .val (.int p1)] [(.long (((b2.toInt64) &&& (255 : Int64)) <<< ((40 : Int32) &&& 0x3f).toInt64)), (.long ((((b0.toInt64) &&& (255 : Int64)) <<< ((56 : Int32) &&& 0x3f).toInt64) ||| (((b1.toInt64) &&& (255 : Int64)) <<< ((48 : Int32) &&& 0x3f).toInt64)))])) _
      refine XS.lor X0.here hx rfl (hb hby d5_38) rfl ?_
      show Steps p.tables e below (s₁.setTop (mkF m 39 #[.val (.ref a0), .val (.int p1)] [(.long (((((b0.toInt64) &&& (255 : Int64)) <<< ((56 : Int32) &&& 0x3f).toInt64) ||| (((b1.toInt64) &&& (255 : Int64)) <<< ((48 : Int32) &&& 0x3f).toInt64)) ||| (((b2.toInt64) &&& (255 : Int64)) <<< ((40 : Int32) &&& 0x3f).toInt64)))])) _
      refine XS.aloadN X0.here hx rfl (hb hby d5_39) rfl rfl ?_
      show Steps p.tables e below (s₁.setTop (mkF m 40 #[.val (.ref a0), .val (.int p1)] [(.ref a0), (.long (((((b0.toInt64) &&& (255 : Int64)) <<< ((56 : Int32) &&& 0x3f).toInt64) ||| (((b1.toInt64) &&& (255 : Int64)) <<< ((48 : Int32) &&& 0x3f).toInt64)) ||| (((b2.toInt64) &&& (255 : Int64)) <<< ((40 : Int32) &&& 0x3f).toInt64)))])) _
      refine XS.iloadN X0.here hx rfl (hb hby d5_40) rfl ?_
      show Steps p.tables e below (s₁.setTop (mkF m 41 #[.val (.ref a0), .val (.int p1)] [(.int p1), (.ref a0), (.long (((((b0.toInt64) &&& (255 : Int64)) <<< ((56 : Int32) &&& 0x3f).toInt64) ||| (((b1.toInt64) &&& (255 : Int64)) <<< ((48 : Int32) &&& 0x3f).toInt64)) ||| (((b2.toInt64) &&& (255 : Int64)) <<< ((40 : Int32) &&& 0x3f).toInt64)))])) _
      refine XS.iconst X0.here hx rfl (hb hby d5_41) ?_
      show Steps p.tables e below (s₁.setTop (mkF m 42 #[.val (.ref a0), .val (.int p1)] [(.int (3 : Int32)), (.int p1), (.ref a0), (.long (((((b0.toInt64) &&& (255 : Int64)) <<< ((56 : Int32) &&& 0x3f).toInt64) ||| (((b1.toInt64) &&& (255 : Int64)) <<< ((48 : Int32) &&& 0x3f).toInt64)) ||| (((b2.toInt64) &&& (255 : Int64)) <<< ((40 : Int32) &&& 0x3f).toInt64)))])) _
      refine XS.iadd X0.here hx rfl (hb hby d5_42) rfl ?_
      exact k)
  have pre8 : Go p.tables e below (s₁.setTop (entryFrame m #[(.ref a0), (.int p1)] 2)) s₁ (mkF m 44 #[.val (.ref a0), .val (.int p1)] [(.int b3), (.long (((((b0.toInt64) &&& (255 : Int64)) <<< ((56 : Int32) &&& 0x3f).toInt64) ||| (((b1.toInt64) &&& (255 : Int64)) <<< ((48 : Int32) &&& 0x3f).toInt64)) ||| (((b2.toInt64) &&& (255 : Int64)) <<< ((40 : Int32) &&& 0x3f).toInt64)))]) := fun t k => pre7 t (X0.baloadBytes hx (j := (p1 + (3 : Int32))) (v := (.int b3)) (by rw [e0]; exact Ar.1) (State.isArrayOf_alike hZ.alike Ar.2.1) Ar.2.2 hi3 ha3 (g := (mkF m 43 #[.val (.ref a0), .val (.int p1)] [(.int (p1 + (3 : Int32))), (.ref a0), (.long (((((b0.toInt64) &&& (255 : Int64)) <<< ((56 : Int32) &&& 0x3f).toInt64) ||| (((b1.toInt64) &&& (255 : Int64)) <<< ((48 : Int32) &&& 0x3f).toInt64)) ||| (((b2.toInt64) &&& (255 : Int64)) <<< ((40 : Int32) &&& 0x3f).toInt64)))])) rfl rfl (hb hby d5_43) _ k)
  have pre9 : Go p.tables e below (s₁.setTop (entryFrame m #[(.ref a0), (.int p1)] 2)) s₁ (mkF m 57 #[.val (.ref a0), .val (.int p1)] [(.int (p1 + (4 : Int32))), (.ref a0), (.long ((((((b0.toInt64) &&& (255 : Int64)) <<< ((56 : Int32) &&& 0x3f).toInt64) ||| (((b1.toInt64) &&& (255 : Int64)) <<< ((48 : Int32) &&& 0x3f).toInt64)) ||| (((b2.toInt64) &&& (255 : Int64)) <<< ((40 : Int32) &&& 0x3f).toInt64)) ||| (((b3.toInt64) &&& (255 : Int64)) <<< ((32 : Int32) &&& 0x3f).toInt64)))]) := fun t k => pre8 t (by
      refine XS.i2l X0.here hx rfl (hb hby d5_44) rfl ?_
      show Steps p.tables e below (s₁.setTop (mkF m 45 #[.val (.ref a0), .val (.int p1)] [(.long (b3.toInt64)), (.long (((((b0.toInt64) &&& (255 : Int64)) <<< ((56 : Int32) &&& 0x3f).toInt64) ||| (((b1.toInt64) &&& (255 : Int64)) <<< ((48 : Int32) &&& 0x3f).toInt64)) ||| (((b2.toInt64) &&& (255 : Int64)) <<< ((40 : Int32) &&& 0x3f).toInt64)))])) _
      refine X0.ldc2Long hx hown (mvT hZ (hw _ (List.mem_of_getElem? (i := 22) rfl))) (g := (mkF m 45 #[.val (.ref a0), .val (.int p1)] [(.long (b3.toInt64)), (.long (((((b0.toInt64) &&& (255 : Int64)) <<< ((56 : Int32) &&& 0x3f).toInt64) ||| (((b1.toInt64) &&& (255 : Int64)) <<< ((48 : Int32) &&& 0x3f).toInt64)) ||| (((b2.toInt64) &&& (255 : Int64)) <<< ((40 : Int32) &&& 0x3f).toInt64)))])) rfl (hb hby d5_45) _ ?_
      show Steps p.tables e below (s₁.setTop (mkF m 48 #[.val (.ref a0), .val (.int p1)] [(.long (255 : Int64)), (.long (b3.toInt64)), (.long (((((b0.toInt64) &&& (255 : Int64)) <<< ((56 : Int32) &&& 0x3f).toInt64) ||| (((b1.toInt64) &&& (255 : Int64)) <<< ((48 : Int32) &&& 0x3f).toInt64)) ||| (((b2.toInt64) &&& (255 : Int64)) <<< ((40 : Int32) &&& 0x3f).toInt64)))])) _
      refine XS.land X0.here hx rfl (hb hby d5_48) rfl ?_
      show Steps p.tables e below (s₁.setTop (mkF m 49 #[.val (.ref a0), .val (.int p1)] [(.long ((b3.toInt64) &&& (255 : Int64))), (.long (((((b0.toInt64) &&& (255 : Int64)) <<< ((56 : Int32) &&& 0x3f).toInt64) ||| (((b1.toInt64) &&& (255 : Int64)) <<< ((48 : Int32) &&& 0x3f).toInt64)) ||| (((b2.toInt64) &&& (255 : Int64)) <<< ((40 : Int32) &&& 0x3f).toInt64)))])) _
      refine XS.bipush X0.here hx rfl (hb hby d5_49) ?_
      show Steps p.tables e below (s₁.setTop (mkF m 51 #[.val (.ref a0), .val (.int p1)] [(.int (32 : Int32)), (.long ((b3.toInt64) &&& (255 : Int64))), (.long (((((b0.toInt64) &&& (255 : Int64)) <<< ((56 : Int32) &&& 0x3f).toInt64) ||| (((b1.toInt64) &&& (255 : Int64)) <<< ((48 : Int32) &&& 0x3f).toInt64)) ||| (((b2.toInt64) &&& (255 : Int64)) <<< ((40 : Int32) &&& 0x3f).toInt64)))])) _
      refine XS.lshl X0.here hx rfl (hb hby d5_51) rfl ?_
      show Steps p.tables e below (s₁.setTop (mkF m 52 #[.val (.ref a0), .val (.int p1)] [(.long (((b3.toInt64) &&& (255 : Int64)) <<< ((32 : Int32) &&& 0x3f).toInt64)), (.long (((((b0.toInt64) &&& (255 : Int64)) <<< ((56 : Int32) &&& 0x3f).toInt64) ||| (((b1.toInt64) &&& (255 : Int64)) <<< ((48 : Int32) &&& 0x3f).toInt64)) ||| (((b2.toInt64) &&& (255 : Int64)) <<< ((40 : Int32) &&& 0x3f).toInt64)))])) _
      refine XS.lor X0.here hx rfl (hb hby d5_52) rfl ?_
      show Steps p.tables e below (s₁.setTop (mkF m 53 #[.val (.ref a0), .val (.int p1)] [(.long ((((((b0.toInt64) &&& (255 : Int64)) <<< ((56 : Int32) &&& 0x3f).toInt64) ||| (((b1.toInt64) &&& (255 : Int64)) <<< ((48 : Int32) &&& 0x3f).toInt64)) ||| (((b2.toInt64) &&& (255 : Int64)) <<< ((40 : Int32) &&& 0x3f).toInt64)) ||| (((b3.toInt64) &&& (255 : Int64)) <<< ((32 : Int32) &&& 0x3f).toInt64)))])) _
      refine XS.aloadN X0.here hx rfl (hb hby d5_53) rfl rfl ?_
      show Steps p.tables e below (s₁.setTop (mkF m 54 #[.val (.ref a0), .val (.int p1)] [(.ref a0), (.long ((((((b0.toInt64) &&& (255 : Int64)) <<< ((56 : Int32) &&& 0x3f).toInt64) ||| (((b1.toInt64) &&& (255 : Int64)) <<< ((48 : Int32) &&& 0x3f).toInt64)) ||| (((b2.toInt64) &&& (255 : Int64)) <<< ((40 : Int32) &&& 0x3f).toInt64)) ||| (((b3.toInt64) &&& (255 : Int64)) <<< ((32 : Int32) &&& 0x3f).toInt64)))])) _
      refine XS.iloadN X0.here hx rfl (hb hby d5_54) rfl ?_
      show Steps p.tables e below (s₁.setTop (mkF m 55 #[.val (.ref a0), .val (.int p1)] [(.int p1), (.ref a0), (.long ((((((b0.toInt64) &&& (255 : Int64)) <<< ((56 : Int32) &&& 0x3f).toInt64) ||| (((b1.toInt64) &&& (255 : Int64)) <<< ((48 : Int32) &&& 0x3f).toInt64)) ||| (((b2.toInt64) &&& (255 : Int64)) <<< ((40 : Int32) &&& 0x3f).toInt64)) ||| (((b3.toInt64) &&& (255 : Int64)) <<< ((32 : Int32) &&& 0x3f).toInt64)))])) _
      refine XS.iconst X0.here hx rfl (hb hby d5_55) ?_
      show Steps p.tables e below (s₁.setTop (mkF m 56 #[.val (.ref a0), .val (.int p1)] [(.int (4 : Int32)), (.int p1), (.ref a0), (.long ((((((b0.toInt64) &&& (255 : Int64)) <<< ((56 : Int32) &&& 0x3f).toInt64) ||| (((b1.toInt64) &&& (255 : Int64)) <<< ((48 : Int32) &&& 0x3f).toInt64)) ||| (((b2.toInt64) &&& (255 : Int64)) <<< ((40 : Int32) &&& 0x3f).toInt64)) ||| (((b3.toInt64) &&& (255 : Int64)) <<< ((32 : Int32) &&& 0x3f).toInt64)))])) _
      refine XS.iadd X0.here hx rfl (hb hby d5_56) rfl ?_
      exact k)
  have pre10 : Go p.tables e below (s₁.setTop (entryFrame m #[(.ref a0), (.int p1)] 2)) s₁ (mkF m 58 #[.val (.ref a0), .val (.int p1)] [(.int b4), (.long ((((((b0.toInt64) &&& (255 : Int64)) <<< ((56 : Int32) &&& 0x3f).toInt64) ||| (((b1.toInt64) &&& (255 : Int64)) <<< ((48 : Int32) &&& 0x3f).toInt64)) ||| (((b2.toInt64) &&& (255 : Int64)) <<< ((40 : Int32) &&& 0x3f).toInt64)) ||| (((b3.toInt64) &&& (255 : Int64)) <<< ((32 : Int32) &&& 0x3f).toInt64)))]) := fun t k => pre9 t (X0.baloadBytes hx (j := (p1 + (4 : Int32))) (v := (.int b4)) (by rw [e0]; exact Ar.1) (State.isArrayOf_alike hZ.alike Ar.2.1) Ar.2.2 hi4 ha4 (g := (mkF m 57 #[.val (.ref a0), .val (.int p1)] [(.int (p1 + (4 : Int32))), (.ref a0), (.long ((((((b0.toInt64) &&& (255 : Int64)) <<< ((56 : Int32) &&& 0x3f).toInt64) ||| (((b1.toInt64) &&& (255 : Int64)) <<< ((48 : Int32) &&& 0x3f).toInt64)) ||| (((b2.toInt64) &&& (255 : Int64)) <<< ((40 : Int32) &&& 0x3f).toInt64)) ||| (((b3.toInt64) &&& (255 : Int64)) <<< ((32 : Int32) &&& 0x3f).toInt64)))])) rfl rfl (hb hby d5_57) _ k)
  have pre11 : Go p.tables e below (s₁.setTop (entryFrame m #[(.ref a0), (.int p1)] 2)) s₁ (mkF m 71 #[.val (.ref a0), .val (.int p1)] [(.int (p1 + (5 : Int32))), (.ref a0), (.long (((((((b0.toInt64) &&& (255 : Int64)) <<< ((56 : Int32) &&& 0x3f).toInt64) ||| (((b1.toInt64) &&& (255 : Int64)) <<< ((48 : Int32) &&& 0x3f).toInt64)) ||| (((b2.toInt64) &&& (255 : Int64)) <<< ((40 : Int32) &&& 0x3f).toInt64)) ||| (((b3.toInt64) &&& (255 : Int64)) <<< ((32 : Int32) &&& 0x3f).toInt64)) ||| (((b4.toInt64) &&& (255 : Int64)) <<< ((24 : Int32) &&& 0x3f).toInt64)))]) := fun t k => pre10 t (by
      refine XS.i2l X0.here hx rfl (hb hby d5_58) rfl ?_
      show Steps p.tables e below (s₁.setTop (mkF m 59 #[.val (.ref a0), .val (.int p1)] [(.long (b4.toInt64)), (.long ((((((b0.toInt64) &&& (255 : Int64)) <<< ((56 : Int32) &&& 0x3f).toInt64) ||| (((b1.toInt64) &&& (255 : Int64)) <<< ((48 : Int32) &&& 0x3f).toInt64)) ||| (((b2.toInt64) &&& (255 : Int64)) <<< ((40 : Int32) &&& 0x3f).toInt64)) ||| (((b3.toInt64) &&& (255 : Int64)) <<< ((32 : Int32) &&& 0x3f).toInt64)))])) _
      refine X0.ldc2Long hx hown (mvT hZ (hw _ (List.mem_of_getElem? (i := 22) rfl))) (g := (mkF m 59 #[.val (.ref a0), .val (.int p1)] [(.long (b4.toInt64)), (.long ((((((b0.toInt64) &&& (255 : Int64)) <<< ((56 : Int32) &&& 0x3f).toInt64) ||| (((b1.toInt64) &&& (255 : Int64)) <<< ((48 : Int32) &&& 0x3f).toInt64)) ||| (((b2.toInt64) &&& (255 : Int64)) <<< ((40 : Int32) &&& 0x3f).toInt64)) ||| (((b3.toInt64) &&& (255 : Int64)) <<< ((32 : Int32) &&& 0x3f).toInt64)))])) rfl (hb hby d5_59) _ ?_
      show Steps p.tables e below (s₁.setTop (mkF m 62 #[.val (.ref a0), .val (.int p1)] [(.long (255 : Int64)), (.long (b4.toInt64)), (.long ((((((b0.toInt64) &&& (255 : Int64)) <<< ((56 : Int32) &&& 0x3f).toInt64) ||| (((b1.toInt64) &&& (255 : Int64)) <<< ((48 : Int32) &&& 0x3f).toInt64)) ||| (((b2.toInt64) &&& (255 : Int64)) <<< ((40 : Int32) &&& 0x3f).toInt64)) ||| (((b3.toInt64) &&& (255 : Int64)) <<< ((32 : Int32) &&& 0x3f).toInt64)))])) _
      refine XS.land X0.here hx rfl (hb hby d5_62) rfl ?_
      show Steps p.tables e below (s₁.setTop (mkF m 63 #[.val (.ref a0), .val (.int p1)] [(.long ((b4.toInt64) &&& (255 : Int64))), (.long ((((((b0.toInt64) &&& (255 : Int64)) <<< ((56 : Int32) &&& 0x3f).toInt64) ||| (((b1.toInt64) &&& (255 : Int64)) <<< ((48 : Int32) &&& 0x3f).toInt64)) ||| (((b2.toInt64) &&& (255 : Int64)) <<< ((40 : Int32) &&& 0x3f).toInt64)) ||| (((b3.toInt64) &&& (255 : Int64)) <<< ((32 : Int32) &&& 0x3f).toInt64)))])) _
      refine XS.bipush X0.here hx rfl (hb hby d5_63) ?_
      show Steps p.tables e below (s₁.setTop (mkF m 65 #[.val (.ref a0), .val (.int p1)] [(.int (24 : Int32)), (.long ((b4.toInt64) &&& (255 : Int64))), (.long ((((((b0.toInt64) &&& (255 : Int64)) <<< ((56 : Int32) &&& 0x3f).toInt64) ||| (((b1.toInt64) &&& (255 : Int64)) <<< ((48 : Int32) &&& 0x3f).toInt64)) ||| (((b2.toInt64) &&& (255 : Int64)) <<< ((40 : Int32) &&& 0x3f).toInt64)) ||| (((b3.toInt64) &&& (255 : Int64)) <<< ((32 : Int32) &&& 0x3f).toInt64)))])) _
      refine XS.lshl X0.here hx rfl (hb hby d5_65) rfl ?_
      show Steps p.tables e below (s₁.setTop (mkF m 66 #[.val (.ref a0), .val (.int p1)] [(.long (((b4.toInt64) &&& (255 : Int64)) <<< ((24 : Int32) &&& 0x3f).toInt64)), (.long ((((((b0.toInt64) &&& (255 : Int64)) <<< ((56 : Int32) &&& 0x3f).toInt64) ||| (((b1.toInt64) &&& (255 : Int64)) <<< ((48 : Int32) &&& 0x3f).toInt64)) ||| (((b2.toInt64) &&& (255 : Int64)) <<< ((40 : Int32) &&& 0x3f).toInt64)) ||| (((b3.toInt64) &&& (255 : Int64)) <<< ((32 : Int32) &&& 0x3f).toInt64)))])) _
      refine XS.lor X0.here hx rfl (hb hby d5_66) rfl ?_
      show Steps p.tables e below (s₁.setTop (mkF m 67 #[.val (.ref a0), .val (.int p1)] [(.long (((((((b0.toInt64) &&& (255 : Int64)) <<< ((56 : Int32) &&& 0x3f).toInt64) ||| (((b1.toInt64) &&& (255 : Int64)) <<< ((48 : Int32) &&& 0x3f).toInt64)) ||| (((b2.toInt64) &&& (255 : Int64)) <<< ((40 : Int32) &&& 0x3f).toInt64)) ||| (((b3.toInt64) &&& (255 : Int64)) <<< ((32 : Int32) &&& 0x3f).toInt64)) ||| (((b4.toInt64) &&& (255 : Int64)) <<< ((24 : Int32) &&& 0x3f).toInt64)))])) _
      refine XS.aloadN X0.here hx rfl (hb hby d5_67) rfl rfl ?_
      show Steps p.tables e below (s₁.setTop (mkF m 68 #[.val (.ref a0), .val (.int p1)] [(.ref a0), (.long (((((((b0.toInt64) &&& (255 : Int64)) <<< ((56 : Int32) &&& 0x3f).toInt64) ||| (((b1.toInt64) &&& (255 : Int64)) <<< ((48 : Int32) &&& 0x3f).toInt64)) ||| (((b2.toInt64) &&& (255 : Int64)) <<< ((40 : Int32) &&& 0x3f).toInt64)) ||| (((b3.toInt64) &&& (255 : Int64)) <<< ((32 : Int32) &&& 0x3f).toInt64)) ||| (((b4.toInt64) &&& (255 : Int64)) <<< ((24 : Int32) &&& 0x3f).toInt64)))])) _
      refine XS.iloadN X0.here hx rfl (hb hby d5_68) rfl ?_
      show Steps p.tables e below (s₁.setTop (mkF m 69 #[.val (.ref a0), .val (.int p1)] [(.int p1), (.ref a0), (.long (((((((b0.toInt64) &&& (255 : Int64)) <<< ((56 : Int32) &&& 0x3f).toInt64) ||| (((b1.toInt64) &&& (255 : Int64)) <<< ((48 : Int32) &&& 0x3f).toInt64)) ||| (((b2.toInt64) &&& (255 : Int64)) <<< ((40 : Int32) &&& 0x3f).toInt64)) ||| (((b3.toInt64) &&& (255 : Int64)) <<< ((32 : Int32) &&& 0x3f).toInt64)) ||| (((b4.toInt64) &&& (255 : Int64)) <<< ((24 : Int32) &&& 0x3f).toInt64)))])) _
      refine XS.iconst X0.here hx rfl (hb hby d5_69) ?_
      show Steps p.tables e below (s₁.setTop (mkF m 70 #[.val (.ref a0), .val (.int p1)] [(.int (5 : Int32)), (.int p1), (.ref a0), (.long (((((((b0.toInt64) &&& (255 : Int64)) <<< ((56 : Int32) &&& 0x3f).toInt64) ||| (((b1.toInt64) &&& (255 : Int64)) <<< ((48 : Int32) &&& 0x3f).toInt64)) ||| (((b2.toInt64) &&& (255 : Int64)) <<< ((40 : Int32) &&& 0x3f).toInt64)) ||| (((b3.toInt64) &&& (255 : Int64)) <<< ((32 : Int32) &&& 0x3f).toInt64)) ||| (((b4.toInt64) &&& (255 : Int64)) <<< ((24 : Int32) &&& 0x3f).toInt64)))])) _
      refine XS.iadd X0.here hx rfl (hb hby d5_70) rfl ?_
      exact k)
  have pre12 : Go p.tables e below (s₁.setTop (entryFrame m #[(.ref a0), (.int p1)] 2)) s₁ (mkF m 72 #[.val (.ref a0), .val (.int p1)] [(.int b5), (.long (((((((b0.toInt64) &&& (255 : Int64)) <<< ((56 : Int32) &&& 0x3f).toInt64) ||| (((b1.toInt64) &&& (255 : Int64)) <<< ((48 : Int32) &&& 0x3f).toInt64)) ||| (((b2.toInt64) &&& (255 : Int64)) <<< ((40 : Int32) &&& 0x3f).toInt64)) ||| (((b3.toInt64) &&& (255 : Int64)) <<< ((32 : Int32) &&& 0x3f).toInt64)) ||| (((b4.toInt64) &&& (255 : Int64)) <<< ((24 : Int32) &&& 0x3f).toInt64)))]) := fun t k => pre11 t (X0.baloadBytes hx (j := (p1 + (5 : Int32))) (v := (.int b5)) (by rw [e0]; exact Ar.1) (State.isArrayOf_alike hZ.alike Ar.2.1) Ar.2.2 hi5 ha5 (g := (mkF m 71 #[.val (.ref a0), .val (.int p1)] [(.int (p1 + (5 : Int32))), (.ref a0), (.long (((((((b0.toInt64) &&& (255 : Int64)) <<< ((56 : Int32) &&& 0x3f).toInt64) ||| (((b1.toInt64) &&& (255 : Int64)) <<< ((48 : Int32) &&& 0x3f).toInt64)) ||| (((b2.toInt64) &&& (255 : Int64)) <<< ((40 : Int32) &&& 0x3f).toInt64)) ||| (((b3.toInt64) &&& (255 : Int64)) <<< ((32 : Int32) &&& 0x3f).toInt64)) ||| (((b4.toInt64) &&& (255 : Int64)) <<< ((24 : Int32) &&& 0x3f).toInt64)))])) rfl rfl (hb hby d5_71) _ k)
  have pre13 : Go p.tables e below (s₁.setTop (entryFrame m #[(.ref a0), (.int p1)] 2)) s₁ (mkF m 86 #[.val (.ref a0), .val (.int p1)] [(.int (p1 + (6 : Int32))), (.ref a0), (.long ((((((((b0.toInt64) &&& (255 : Int64)) <<< ((56 : Int32) &&& 0x3f).toInt64) ||| (((b1.toInt64) &&& (255 : Int64)) <<< ((48 : Int32) &&& 0x3f).toInt64)) ||| (((b2.toInt64) &&& (255 : Int64)) <<< ((40 : Int32) &&& 0x3f).toInt64)) ||| (((b3.toInt64) &&& (255 : Int64)) <<< ((32 : Int32) &&& 0x3f).toInt64)) ||| (((b4.toInt64) &&& (255 : Int64)) <<< ((24 : Int32) &&& 0x3f).toInt64)) ||| (((b5.toInt64) &&& (255 : Int64)) <<< ((16 : Int32) &&& 0x3f).toInt64)))]) := fun t k => pre12 t (by
      refine XS.i2l X0.here hx rfl (hb hby d5_72) rfl ?_
      show Steps p.tables e below (s₁.setTop (mkF m 73 #[.val (.ref a0), .val (.int p1)] [(.long (b5.toInt64)), (.long (((((((b0.toInt64) &&& (255 : Int64)) <<< ((56 : Int32) &&& 0x3f).toInt64) ||| (((b1.toInt64) &&& (255 : Int64)) <<< ((48 : Int32) &&& 0x3f).toInt64)) ||| (((b2.toInt64) &&& (255 : Int64)) <<< ((40 : Int32) &&& 0x3f).toInt64)) ||| (((b3.toInt64) &&& (255 : Int64)) <<< ((32 : Int32) &&& 0x3f).toInt64)) ||| (((b4.toInt64) &&& (255 : Int64)) <<< ((24 : Int32) &&& 0x3f).toInt64)))])) _
      refine X0.ldc2Long hx hown (mvT hZ (hw _ (List.mem_of_getElem? (i := 22) rfl))) (g := (mkF m 73 #[.val (.ref a0), .val (.int p1)] [(.long (b5.toInt64)), (.long (((((((b0.toInt64) &&& (255 : Int64)) <<< ((56 : Int32) &&& 0x3f).toInt64) ||| (((b1.toInt64) &&& (255 : Int64)) <<< ((48 : Int32) &&& 0x3f).toInt64)) ||| (((b2.toInt64) &&& (255 : Int64)) <<< ((40 : Int32) &&& 0x3f).toInt64)) ||| (((b3.toInt64) &&& (255 : Int64)) <<< ((32 : Int32) &&& 0x3f).toInt64)) ||| (((b4.toInt64) &&& (255 : Int64)) <<< ((24 : Int32) &&& 0x3f).toInt64)))])) rfl (hb hby d5_73) _ ?_
      show Steps p.tables e below (s₁.setTop (mkF m 76 #[.val (.ref a0), .val (.int p1)] [(.long (255 : Int64)), (.long (b5.toInt64)), (.long (((((((b0.toInt64) &&& (255 : Int64)) <<< ((56 : Int32) &&& 0x3f).toInt64) ||| (((b1.toInt64) &&& (255 : Int64)) <<< ((48 : Int32) &&& 0x3f).toInt64)) ||| (((b2.toInt64) &&& (255 : Int64)) <<< ((40 : Int32) &&& 0x3f).toInt64)) ||| (((b3.toInt64) &&& (255 : Int64)) <<< ((32 : Int32) &&& 0x3f).toInt64)) ||| (((b4.toInt64) &&& (255 : Int64)) <<< ((24 : Int32) &&& 0x3f).toInt64)))])) _
      refine XS.land X0.here hx rfl (hb hby d5_76) rfl ?_
      show Steps p.tables e below (s₁.setTop (mkF m 77 #[.val (.ref a0), .val (.int p1)] [(.long ((b5.toInt64) &&& (255 : Int64))), (.long (((((((b0.toInt64) &&& (255 : Int64)) <<< ((56 : Int32) &&& 0x3f).toInt64) ||| (((b1.toInt64) &&& (255 : Int64)) <<< ((48 : Int32) &&& 0x3f).toInt64)) ||| (((b2.toInt64) &&& (255 : Int64)) <<< ((40 : Int32) &&& 0x3f).toInt64)) ||| (((b3.toInt64) &&& (255 : Int64)) <<< ((32 : Int32) &&& 0x3f).toInt64)) ||| (((b4.toInt64) &&& (255 : Int64)) <<< ((24 : Int32) &&& 0x3f).toInt64)))])) _
      refine XS.bipush X0.here hx rfl (hb hby d5_77) ?_
      show Steps p.tables e below (s₁.setTop (mkF m 79 #[.val (.ref a0), .val (.int p1)] [(.int (16 : Int32)), (.long ((b5.toInt64) &&& (255 : Int64))), (.long (((((((b0.toInt64) &&& (255 : Int64)) <<< ((56 : Int32) &&& 0x3f).toInt64) ||| (((b1.toInt64) &&& (255 : Int64)) <<< ((48 : Int32) &&& 0x3f).toInt64)) ||| (((b2.toInt64) &&& (255 : Int64)) <<< ((40 : Int32) &&& 0x3f).toInt64)) ||| (((b3.toInt64) &&& (255 : Int64)) <<< ((32 : Int32) &&& 0x3f).toInt64)) ||| (((b4.toInt64) &&& (255 : Int64)) <<< ((24 : Int32) &&& 0x3f).toInt64)))])) _
      refine XS.lshl X0.here hx rfl (hb hby d5_79) rfl ?_
      show Steps p.tables e below (s₁.setTop (mkF m 80 #[.val (.ref a0), .val (.int p1)] [(.long (((b5.toInt64) &&& (255 : Int64)) <<< ((16 : Int32) &&& 0x3f).toInt64)), (.long (((((((b0.toInt64) &&& (255 : Int64)) <<< ((56 : Int32) &&& 0x3f).toInt64) ||| (((b1.toInt64) &&& (255 : Int64)) <<< ((48 : Int32) &&& 0x3f).toInt64)) ||| (((b2.toInt64) &&& (255 : Int64)) <<< ((40 : Int32) &&& 0x3f).toInt64)) ||| (((b3.toInt64) &&& (255 : Int64)) <<< ((32 : Int32) &&& 0x3f).toInt64)) ||| (((b4.toInt64) &&& (255 : Int64)) <<< ((24 : Int32) &&& 0x3f).toInt64)))])) _
      refine XS.lor X0.here hx rfl (hb hby d5_80) rfl ?_
      show Steps p.tables e below (s₁.setTop (mkF m 81 #[.val (.ref a0), .val (.int p1)] [(.long ((((((((b0.toInt64) &&& (255 : Int64)) <<< ((56 : Int32) &&& 0x3f).toInt64) ||| (((b1.toInt64) &&& (255 : Int64)) <<< ((48 : Int32) &&& 0x3f).toInt64)) ||| (((b2.toInt64) &&& (255 : Int64)) <<< ((40 : Int32) &&& 0x3f).toInt64)) ||| (((b3.toInt64) &&& (255 : Int64)) <<< ((32 : Int32) &&& 0x3f).toInt64)) ||| (((b4.toInt64) &&& (255 : Int64)) <<< ((24 : Int32) &&& 0x3f).toInt64)) ||| (((b5.toInt64) &&& (255 : Int64)) <<< ((16 : Int32) &&& 0x3f).toInt64)))])) _
      refine XS.aloadN X0.here hx rfl (hb hby d5_81) rfl rfl ?_
      show Steps p.tables e below (s₁.setTop (mkF m 82 #[.val (.ref a0), .val (.int p1)] [(.ref a0), (.long ((((((((b0.toInt64) &&& (255 : Int64)) <<< ((56 : Int32) &&& 0x3f).toInt64) ||| (((b1.toInt64) &&& (255 : Int64)) <<< ((48 : Int32) &&& 0x3f).toInt64)) ||| (((b2.toInt64) &&& (255 : Int64)) <<< ((40 : Int32) &&& 0x3f).toInt64)) ||| (((b3.toInt64) &&& (255 : Int64)) <<< ((32 : Int32) &&& 0x3f).toInt64)) ||| (((b4.toInt64) &&& (255 : Int64)) <<< ((24 : Int32) &&& 0x3f).toInt64)) ||| (((b5.toInt64) &&& (255 : Int64)) <<< ((16 : Int32) &&& 0x3f).toInt64)))])) _
      refine XS.iloadN X0.here hx rfl (hb hby d5_82) rfl ?_
      show Steps p.tables e below (s₁.setTop (mkF m 83 #[.val (.ref a0), .val (.int p1)] [(.int p1), (.ref a0), (.long ((((((((b0.toInt64) &&& (255 : Int64)) <<< ((56 : Int32) &&& 0x3f).toInt64) ||| (((b1.toInt64) &&& (255 : Int64)) <<< ((48 : Int32) &&& 0x3f).toInt64)) ||| (((b2.toInt64) &&& (255 : Int64)) <<< ((40 : Int32) &&& 0x3f).toInt64)) ||| (((b3.toInt64) &&& (255 : Int64)) <<< ((32 : Int32) &&& 0x3f).toInt64)) ||| (((b4.toInt64) &&& (255 : Int64)) <<< ((24 : Int32) &&& 0x3f).toInt64)) ||| (((b5.toInt64) &&& (255 : Int64)) <<< ((16 : Int32) &&& 0x3f).toInt64)))])) _
      refine XS.bipush X0.here hx rfl (hb hby d5_83) ?_
      show Steps p.tables e below (s₁.setTop (mkF m 85 #[.val (.ref a0), .val (.int p1)] [(.int (6 : Int32)), (.int p1), (.ref a0), (.long ((((((((b0.toInt64) &&& (255 : Int64)) <<< ((56 : Int32) &&& 0x3f).toInt64) ||| (((b1.toInt64) &&& (255 : Int64)) <<< ((48 : Int32) &&& 0x3f).toInt64)) ||| (((b2.toInt64) &&& (255 : Int64)) <<< ((40 : Int32) &&& 0x3f).toInt64)) ||| (((b3.toInt64) &&& (255 : Int64)) <<< ((32 : Int32) &&& 0x3f).toInt64)) ||| (((b4.toInt64) &&& (255 : Int64)) <<< ((24 : Int32) &&& 0x3f).toInt64)) ||| (((b5.toInt64) &&& (255 : Int64)) <<< ((16 : Int32) &&& 0x3f).toInt64)))])) _
      refine XS.iadd X0.here hx rfl (hb hby d5_85) rfl ?_
      exact k)
  have pre14 : Go p.tables e below (s₁.setTop (entryFrame m #[(.ref a0), (.int p1)] 2)) s₁ (mkF m 87 #[.val (.ref a0), .val (.int p1)] [(.int b6), (.long ((((((((b0.toInt64) &&& (255 : Int64)) <<< ((56 : Int32) &&& 0x3f).toInt64) ||| (((b1.toInt64) &&& (255 : Int64)) <<< ((48 : Int32) &&& 0x3f).toInt64)) ||| (((b2.toInt64) &&& (255 : Int64)) <<< ((40 : Int32) &&& 0x3f).toInt64)) ||| (((b3.toInt64) &&& (255 : Int64)) <<< ((32 : Int32) &&& 0x3f).toInt64)) ||| (((b4.toInt64) &&& (255 : Int64)) <<< ((24 : Int32) &&& 0x3f).toInt64)) ||| (((b5.toInt64) &&& (255 : Int64)) <<< ((16 : Int32) &&& 0x3f).toInt64)))]) := fun t k => pre13 t (X0.baloadBytes hx (j := (p1 + (6 : Int32))) (v := (.int b6)) (by rw [e0]; exact Ar.1) (State.isArrayOf_alike hZ.alike Ar.2.1) Ar.2.2 hi6 ha6 (g := (mkF m 86 #[.val (.ref a0), .val (.int p1)] [(.int (p1 + (6 : Int32))), (.ref a0), (.long ((((((((b0.toInt64) &&& (255 : Int64)) <<< ((56 : Int32) &&& 0x3f).toInt64) ||| (((b1.toInt64) &&& (255 : Int64)) <<< ((48 : Int32) &&& 0x3f).toInt64)) ||| (((b2.toInt64) &&& (255 : Int64)) <<< ((40 : Int32) &&& 0x3f).toInt64)) ||| (((b3.toInt64) &&& (255 : Int64)) <<< ((32 : Int32) &&& 0x3f).toInt64)) ||| (((b4.toInt64) &&& (255 : Int64)) <<< ((24 : Int32) &&& 0x3f).toInt64)) ||| (((b5.toInt64) &&& (255 : Int64)) <<< ((16 : Int32) &&& 0x3f).toInt64)))])) rfl rfl (hb hby d5_86) _ k)
  have pre15 : Go p.tables e below (s₁.setTop (entryFrame m #[(.ref a0), (.int p1)] 2)) s₁ (mkF m 101 #[.val (.ref a0), .val (.int p1)] [(.int (p1 + (7 : Int32))), (.ref a0), (.long (((((((((b0.toInt64) &&& (255 : Int64)) <<< ((56 : Int32) &&& 0x3f).toInt64) ||| (((b1.toInt64) &&& (255 : Int64)) <<< ((48 : Int32) &&& 0x3f).toInt64)) ||| (((b2.toInt64) &&& (255 : Int64)) <<< ((40 : Int32) &&& 0x3f).toInt64)) ||| (((b3.toInt64) &&& (255 : Int64)) <<< ((32 : Int32) &&& 0x3f).toInt64)) ||| (((b4.toInt64) &&& (255 : Int64)) <<< ((24 : Int32) &&& 0x3f).toInt64)) ||| (((b5.toInt64) &&& (255 : Int64)) <<< ((16 : Int32) &&& 0x3f).toInt64)) ||| (((b6.toInt64) &&& (255 : Int64)) <<< ((8 : Int32) &&& 0x3f).toInt64)))]) := fun t k => pre14 t (by
      refine XS.i2l X0.here hx rfl (hb hby d5_87) rfl ?_
      show Steps p.tables e below (s₁.setTop (mkF m 88 #[.val (.ref a0), .val (.int p1)] [(.long (b6.toInt64)), (.long ((((((((b0.toInt64) &&& (255 : Int64)) <<< ((56 : Int32) &&& 0x3f).toInt64) ||| (((b1.toInt64) &&& (255 : Int64)) <<< ((48 : Int32) &&& 0x3f).toInt64)) ||| (((b2.toInt64) &&& (255 : Int64)) <<< ((40 : Int32) &&& 0x3f).toInt64)) ||| (((b3.toInt64) &&& (255 : Int64)) <<< ((32 : Int32) &&& 0x3f).toInt64)) ||| (((b4.toInt64) &&& (255 : Int64)) <<< ((24 : Int32) &&& 0x3f).toInt64)) ||| (((b5.toInt64) &&& (255 : Int64)) <<< ((16 : Int32) &&& 0x3f).toInt64)))])) _
      refine X0.ldc2Long hx hown (mvT hZ (hw _ (List.mem_of_getElem? (i := 22) rfl))) (g := (mkF m 88 #[.val (.ref a0), .val (.int p1)] [(.long (b6.toInt64)), (.long ((((((((b0.toInt64) &&& (255 : Int64)) <<< ((56 : Int32) &&& 0x3f).toInt64) ||| (((b1.toInt64) &&& (255 : Int64)) <<< ((48 : Int32) &&& 0x3f).toInt64)) ||| (((b2.toInt64) &&& (255 : Int64)) <<< ((40 : Int32) &&& 0x3f).toInt64)) ||| (((b3.toInt64) &&& (255 : Int64)) <<< ((32 : Int32) &&& 0x3f).toInt64)) ||| (((b4.toInt64) &&& (255 : Int64)) <<< ((24 : Int32) &&& 0x3f).toInt64)) ||| (((b5.toInt64) &&& (255 : Int64)) <<< ((16 : Int32) &&& 0x3f).toInt64)))])) rfl (hb hby d5_88) _ ?_
      show Steps p.tables e below (s₁.setTop (mkF m 91 #[.val (.ref a0), .val (.int p1)] [(.long (255 : Int64)), (.long (b6.toInt64)), (.long ((((((((b0.toInt64) &&& (255 : Int64)) <<< ((56 : Int32) &&& 0x3f).toInt64) ||| (((b1.toInt64) &&& (255 : Int64)) <<< ((48 : Int32) &&& 0x3f).toInt64)) ||| (((b2.toInt64) &&& (255 : Int64)) <<< ((40 : Int32) &&& 0x3f).toInt64)) ||| (((b3.toInt64) &&& (255 : Int64)) <<< ((32 : Int32) &&& 0x3f).toInt64)) ||| (((b4.toInt64) &&& (255 : Int64)) <<< ((24 : Int32) &&& 0x3f).toInt64)) ||| (((b5.toInt64) &&& (255 : Int64)) <<< ((16 : Int32) &&& 0x3f).toInt64)))])) _
      refine XS.land X0.here hx rfl (hb hby d5_91) rfl ?_
      show Steps p.tables e below (s₁.setTop (mkF m 92 #[.val (.ref a0), .val (.int p1)] [(.long ((b6.toInt64) &&& (255 : Int64))), (.long ((((((((b0.toInt64) &&& (255 : Int64)) <<< ((56 : Int32) &&& 0x3f).toInt64) ||| (((b1.toInt64) &&& (255 : Int64)) <<< ((48 : Int32) &&& 0x3f).toInt64)) ||| (((b2.toInt64) &&& (255 : Int64)) <<< ((40 : Int32) &&& 0x3f).toInt64)) ||| (((b3.toInt64) &&& (255 : Int64)) <<< ((32 : Int32) &&& 0x3f).toInt64)) ||| (((b4.toInt64) &&& (255 : Int64)) <<< ((24 : Int32) &&& 0x3f).toInt64)) ||| (((b5.toInt64) &&& (255 : Int64)) <<< ((16 : Int32) &&& 0x3f).toInt64)))])) _
      refine XS.bipush X0.here hx rfl (hb hby d5_92) ?_
      show Steps p.tables e below (s₁.setTop (mkF m 94 #[.val (.ref a0), .val (.int p1)] [(.int (8 : Int32)), (.long ((b6.toInt64) &&& (255 : Int64))), (.long ((((((((b0.toInt64) &&& (255 : Int64)) <<< ((56 : Int32) &&& 0x3f).toInt64) ||| (((b1.toInt64) &&& (255 : Int64)) <<< ((48 : Int32) &&& 0x3f).toInt64)) ||| (((b2.toInt64) &&& (255 : Int64)) <<< ((40 : Int32) &&& 0x3f).toInt64)) ||| (((b3.toInt64) &&& (255 : Int64)) <<< ((32 : Int32) &&& 0x3f).toInt64)) ||| (((b4.toInt64) &&& (255 : Int64)) <<< ((24 : Int32) &&& 0x3f).toInt64)) ||| (((b5.toInt64) &&& (255 : Int64)) <<< ((16 : Int32) &&& 0x3f).toInt64)))])) _
      refine XS.lshl X0.here hx rfl (hb hby d5_94) rfl ?_
      show Steps p.tables e below (s₁.setTop (mkF m 95 #[.val (.ref a0), .val (.int p1)] [(.long (((b6.toInt64) &&& (255 : Int64)) <<< ((8 : Int32) &&& 0x3f).toInt64)), (.long ((((((((b0.toInt64) &&& (255 : Int64)) <<< ((56 : Int32) &&& 0x3f).toInt64) ||| (((b1.toInt64) &&& (255 : Int64)) <<< ((48 : Int32) &&& 0x3f).toInt64)) ||| (((b2.toInt64) &&& (255 : Int64)) <<< ((40 : Int32) &&& 0x3f).toInt64)) ||| (((b3.toInt64) &&& (255 : Int64)) <<< ((32 : Int32) &&& 0x3f).toInt64)) ||| (((b4.toInt64) &&& (255 : Int64)) <<< ((24 : Int32) &&& 0x3f).toInt64)) ||| (((b5.toInt64) &&& (255 : Int64)) <<< ((16 : Int32) &&& 0x3f).toInt64)))])) _
      refine XS.lor X0.here hx rfl (hb hby d5_95) rfl ?_
      show Steps p.tables e below (s₁.setTop (mkF m 96 #[.val (.ref a0), .val (.int p1)] [(.long (((((((((b0.toInt64) &&& (255 : Int64)) <<< ((56 : Int32) &&& 0x3f).toInt64) ||| (((b1.toInt64) &&& (255 : Int64)) <<< ((48 : Int32) &&& 0x3f).toInt64)) ||| (((b2.toInt64) &&& (255 : Int64)) <<< ((40 : Int32) &&& 0x3f).toInt64)) ||| (((b3.toInt64) &&& (255 : Int64)) <<< ((32 : Int32) &&& 0x3f).toInt64)) ||| (((b4.toInt64) &&& (255 : Int64)) <<< ((24 : Int32) &&& 0x3f).toInt64)) ||| (((b5.toInt64) &&& (255 : Int64)) <<< ((16 : Int32) &&& 0x3f).toInt64)) ||| (((b6.toInt64) &&& (255 : Int64)) <<< ((8 : Int32) &&& 0x3f).toInt64)))])) _
      refine XS.aloadN X0.here hx rfl (hb hby d5_96) rfl rfl ?_
      show Steps p.tables e below (s₁.setTop (mkF m 97 #[.val (.ref a0), .val (.int p1)] [(.ref a0), (.long (((((((((b0.toInt64) &&& (255 : Int64)) <<< ((56 : Int32) &&& 0x3f).toInt64) ||| (((b1.toInt64) &&& (255 : Int64)) <<< ((48 : Int32) &&& 0x3f).toInt64)) ||| (((b2.toInt64) &&& (255 : Int64)) <<< ((40 : Int32) &&& 0x3f).toInt64)) ||| (((b3.toInt64) &&& (255 : Int64)) <<< ((32 : Int32) &&& 0x3f).toInt64)) ||| (((b4.toInt64) &&& (255 : Int64)) <<< ((24 : Int32) &&& 0x3f).toInt64)) ||| (((b5.toInt64) &&& (255 : Int64)) <<< ((16 : Int32) &&& 0x3f).toInt64)) ||| (((b6.toInt64) &&& (255 : Int64)) <<< ((8 : Int32) &&& 0x3f).toInt64)))])) _
      refine XS.iloadN X0.here hx rfl (hb hby d5_97) rfl ?_
      show Steps p.tables e below (s₁.setTop (mkF m 98 #[.val (.ref a0), .val (.int p1)] [(.int p1), (.ref a0), (.long (((((((((b0.toInt64) &&& (255 : Int64)) <<< ((56 : Int32) &&& 0x3f).toInt64) ||| (((b1.toInt64) &&& (255 : Int64)) <<< ((48 : Int32) &&& 0x3f).toInt64)) ||| (((b2.toInt64) &&& (255 : Int64)) <<< ((40 : Int32) &&& 0x3f).toInt64)) ||| (((b3.toInt64) &&& (255 : Int64)) <<< ((32 : Int32) &&& 0x3f).toInt64)) ||| (((b4.toInt64) &&& (255 : Int64)) <<< ((24 : Int32) &&& 0x3f).toInt64)) ||| (((b5.toInt64) &&& (255 : Int64)) <<< ((16 : Int32) &&& 0x3f).toInt64)) ||| (((b6.toInt64) &&& (255 : Int64)) <<< ((8 : Int32) &&& 0x3f).toInt64)))])) _
      refine XS.bipush X0.here hx rfl (hb hby d5_98) ?_
      show Steps p.tables e below (s₁.setTop (mkF m 100 #[.val (.ref a0), .val (.int p1)] [(.int (7 : Int32)), (.int p1), (.ref a0), (.long (((((((((b0.toInt64) &&& (255 : Int64)) <<< ((56 : Int32) &&& 0x3f).toInt64) ||| (((b1.toInt64) &&& (255 : Int64)) <<< ((48 : Int32) &&& 0x3f).toInt64)) ||| (((b2.toInt64) &&& (255 : Int64)) <<< ((40 : Int32) &&& 0x3f).toInt64)) ||| (((b3.toInt64) &&& (255 : Int64)) <<< ((32 : Int32) &&& 0x3f).toInt64)) ||| (((b4.toInt64) &&& (255 : Int64)) <<< ((24 : Int32) &&& 0x3f).toInt64)) ||| (((b5.toInt64) &&& (255 : Int64)) <<< ((16 : Int32) &&& 0x3f).toInt64)) ||| (((b6.toInt64) &&& (255 : Int64)) <<< ((8 : Int32) &&& 0x3f).toInt64)))])) _
      refine XS.iadd X0.here hx rfl (hb hby d5_100) rfl ?_
      exact k)
  have pre16 : Go p.tables e below (s₁.setTop (entryFrame m #[(.ref a0), (.int p1)] 2)) s₁ (mkF m 102 #[.val (.ref a0), .val (.int p1)] [(.int b7), (.long (((((((((b0.toInt64) &&& (255 : Int64)) <<< ((56 : Int32) &&& 0x3f).toInt64) ||| (((b1.toInt64) &&& (255 : Int64)) <<< ((48 : Int32) &&& 0x3f).toInt64)) ||| (((b2.toInt64) &&& (255 : Int64)) <<< ((40 : Int32) &&& 0x3f).toInt64)) ||| (((b3.toInt64) &&& (255 : Int64)) <<< ((32 : Int32) &&& 0x3f).toInt64)) ||| (((b4.toInt64) &&& (255 : Int64)) <<< ((24 : Int32) &&& 0x3f).toInt64)) ||| (((b5.toInt64) &&& (255 : Int64)) <<< ((16 : Int32) &&& 0x3f).toInt64)) ||| (((b6.toInt64) &&& (255 : Int64)) <<< ((8 : Int32) &&& 0x3f).toInt64)))]) := fun t k => pre15 t (X0.baloadBytes hx (j := (p1 + (7 : Int32))) (v := (.int b7)) (by rw [e0]; exact Ar.1) (State.isArrayOf_alike hZ.alike Ar.2.1) Ar.2.2 hi7 ha7 (g := (mkF m 101 #[.val (.ref a0), .val (.int p1)] [(.int (p1 + (7 : Int32))), (.ref a0), (.long (((((((((b0.toInt64) &&& (255 : Int64)) <<< ((56 : Int32) &&& 0x3f).toInt64) ||| (((b1.toInt64) &&& (255 : Int64)) <<< ((48 : Int32) &&& 0x3f).toInt64)) ||| (((b2.toInt64) &&& (255 : Int64)) <<< ((40 : Int32) &&& 0x3f).toInt64)) ||| (((b3.toInt64) &&& (255 : Int64)) <<< ((32 : Int32) &&& 0x3f).toInt64)) ||| (((b4.toInt64) &&& (255 : Int64)) <<< ((24 : Int32) &&& 0x3f).toInt64)) ||| (((b5.toInt64) &&& (255 : Int64)) <<< ((16 : Int32) &&& 0x3f).toInt64)) ||| (((b6.toInt64) &&& (255 : Int64)) <<< ((8 : Int32) &&& 0x3f).toInt64)))])) rfl rfl (hb hby d5_101) _ k)
  have pre17 : Go p.tables e below (s₁.setTop (entryFrame m #[(.ref a0), (.int p1)] 2)) s₁ (mkF m 108 #[.val (.ref a0), .val (.int p1)] [(.long ((((((((((b0.toInt64) &&& (255 : Int64)) <<< ((56 : Int32) &&& 0x3f).toInt64) ||| (((b1.toInt64) &&& (255 : Int64)) <<< ((48 : Int32) &&& 0x3f).toInt64)) ||| (((b2.toInt64) &&& (255 : Int64)) <<< ((40 : Int32) &&& 0x3f).toInt64)) ||| (((b3.toInt64) &&& (255 : Int64)) <<< ((32 : Int32) &&& 0x3f).toInt64)) ||| (((b4.toInt64) &&& (255 : Int64)) <<< ((24 : Int32) &&& 0x3f).toInt64)) ||| (((b5.toInt64) &&& (255 : Int64)) <<< ((16 : Int32) &&& 0x3f).toInt64)) ||| (((b6.toInt64) &&& (255 : Int64)) <<< ((8 : Int32) &&& 0x3f).toInt64)) ||| ((b7.toInt64) &&& (255 : Int64))))]) := fun t k => pre16 t (by
      refine XS.i2l X0.here hx rfl (hb hby d5_102) rfl ?_
      show Steps p.tables e below (s₁.setTop (mkF m 103 #[.val (.ref a0), .val (.int p1)] [(.long (b7.toInt64)), (.long (((((((((b0.toInt64) &&& (255 : Int64)) <<< ((56 : Int32) &&& 0x3f).toInt64) ||| (((b1.toInt64) &&& (255 : Int64)) <<< ((48 : Int32) &&& 0x3f).toInt64)) ||| (((b2.toInt64) &&& (255 : Int64)) <<< ((40 : Int32) &&& 0x3f).toInt64)) ||| (((b3.toInt64) &&& (255 : Int64)) <<< ((32 : Int32) &&& 0x3f).toInt64)) ||| (((b4.toInt64) &&& (255 : Int64)) <<< ((24 : Int32) &&& 0x3f).toInt64)) ||| (((b5.toInt64) &&& (255 : Int64)) <<< ((16 : Int32) &&& 0x3f).toInt64)) ||| (((b6.toInt64) &&& (255 : Int64)) <<< ((8 : Int32) &&& 0x3f).toInt64)))])) _
      refine X0.ldc2Long hx hown (mvT hZ (hw _ (List.mem_of_getElem? (i := 22) rfl))) (g := (mkF m 103 #[.val (.ref a0), .val (.int p1)] [(.long (b7.toInt64)), (.long (((((((((b0.toInt64) &&& (255 : Int64)) <<< ((56 : Int32) &&& 0x3f).toInt64) ||| (((b1.toInt64) &&& (255 : Int64)) <<< ((48 : Int32) &&& 0x3f).toInt64)) ||| (((b2.toInt64) &&& (255 : Int64)) <<< ((40 : Int32) &&& 0x3f).toInt64)) ||| (((b3.toInt64) &&& (255 : Int64)) <<< ((32 : Int32) &&& 0x3f).toInt64)) ||| (((b4.toInt64) &&& (255 : Int64)) <<< ((24 : Int32) &&& 0x3f).toInt64)) ||| (((b5.toInt64) &&& (255 : Int64)) <<< ((16 : Int32) &&& 0x3f).toInt64)) ||| (((b6.toInt64) &&& (255 : Int64)) <<< ((8 : Int32) &&& 0x3f).toInt64)))])) rfl (hb hby d5_103) _ ?_
      show Steps p.tables e below (s₁.setTop (mkF m 106 #[.val (.ref a0), .val (.int p1)] [(.long (255 : Int64)), (.long (b7.toInt64)), (.long (((((((((b0.toInt64) &&& (255 : Int64)) <<< ((56 : Int32) &&& 0x3f).toInt64) ||| (((b1.toInt64) &&& (255 : Int64)) <<< ((48 : Int32) &&& 0x3f).toInt64)) ||| (((b2.toInt64) &&& (255 : Int64)) <<< ((40 : Int32) &&& 0x3f).toInt64)) ||| (((b3.toInt64) &&& (255 : Int64)) <<< ((32 : Int32) &&& 0x3f).toInt64)) ||| (((b4.toInt64) &&& (255 : Int64)) <<< ((24 : Int32) &&& 0x3f).toInt64)) ||| (((b5.toInt64) &&& (255 : Int64)) <<< ((16 : Int32) &&& 0x3f).toInt64)) ||| (((b6.toInt64) &&& (255 : Int64)) <<< ((8 : Int32) &&& 0x3f).toInt64)))])) _
      refine XS.land X0.here hx rfl (hb hby d5_106) rfl ?_
      show Steps p.tables e below (s₁.setTop (mkF m 107 #[.val (.ref a0), .val (.int p1)] [(.long ((b7.toInt64) &&& (255 : Int64))), (.long (((((((((b0.toInt64) &&& (255 : Int64)) <<< ((56 : Int32) &&& 0x3f).toInt64) ||| (((b1.toInt64) &&& (255 : Int64)) <<< ((48 : Int32) &&& 0x3f).toInt64)) ||| (((b2.toInt64) &&& (255 : Int64)) <<< ((40 : Int32) &&& 0x3f).toInt64)) ||| (((b3.toInt64) &&& (255 : Int64)) <<< ((32 : Int32) &&& 0x3f).toInt64)) ||| (((b4.toInt64) &&& (255 : Int64)) <<< ((24 : Int32) &&& 0x3f).toInt64)) ||| (((b5.toInt64) &&& (255 : Int64)) <<< ((16 : Int32) &&& 0x3f).toInt64)) ||| (((b6.toInt64) &&& (255 : Int64)) <<< ((8 : Int32) &&& 0x3f).toInt64)))])) _
      refine XS.lor X0.here hx rfl (hb hby d5_107) rfl ?_
      exact k)
  obtain ⟨fs, hr, hrun, hended, hW, hsame⟩ := X0.leave (v := some (.long ((((((((((b0.toInt64) &&& (255 : Int64)) <<< ((56 : Int32) &&& 0x3f).toInt64) ||| (((b1.toInt64) &&& (255 : Int64)) <<< ((48 : Int32) &&& 0x3f).toInt64)) ||| (((b2.toInt64) &&& (255 : Int64)) <<< ((40 : Int32) &&& 0x3f).toInt64)) ||| (((b3.toInt64) &&& (255 : Int64)) <<< ((32 : Int32) &&& 0x3f).toInt64)) ||| (((b4.toInt64) &&& (255 : Int64)) <<< ((24 : Int32) &&& 0x3f).toInt64)) ||| (((b5.toInt64) &&& (255 : Int64)) <<< ((16 : Int32) &&& 0x3f).toInt64)) ||| (((b6.toInt64) &&& (255 : Int64)) <<< ((8 : Int32) &&& 0x3f).toInt64)) ||| ((b7.toInt64) &&& (255 : Int64))))) (fun h => by rw [Bd.returns] at h; cases h) (BodyLoose.notSynchronized Bd)
  refine ⟨_, _, pre17 _ ?_, hrun, hended, _, _, rfl, ?_, ⟨_, rfl⟩, hW, hsame.mono (Nat.le_of_ble_eq_true rfl) (Nat.le_of_ble_eq_true rfl)⟩
  · exact retOut X0 hx Bd.returns rfl (Or.inr (Or.inl ⟨rfl, rfl, _, rfl⟩)) (hb hby d5_108) hr
  · show Q_la Z a0 p1 cl b0 b1 b2 b3 b4 b5 b6 b7 h0 n0 _ s₁.heap _
    rw [e0]
    exact ⟨rfl, N0, rfl⟩
theorem d4_0 : decode prog_19_method_22_code 0 = .ok (.aload_n 0, 1) := by decide +kernel
theorem d4_1 : decode prog_19_method_22_code 1 = .ok (.iconst 0, 1) := by decide +kernel
theorem d4_2 : decode prog_19_method_22_code 2 = .ok (.invokestatic 64, 3) := by decide +kernel
theorem d4_5 : decode prog_19_method_22_code 5 = .ok (.lreturn, 1) := by decide +kernel
theorem pn_tok : plainName "com/example/fence/fence/service/ClaimFormat" = true := by first | (simp [plainName, overriddenIn]; done) | decide +kernel
theorem ef_tok (m : MethodId) (a0 : Addr) : entryFrame m #[(.ref a0)] 1 = mkF m 0 #[.val (.ref a0)] [] := by first | (simp [entryFrame, mkF, argsToLocals, Value.category]; done) | rfl
def Q_tok (Z : State) (a0 : Addr) (cl : Cell) (b0 : Int32) (b1 : Int32) (b2 : Int32) (b3 : Int32) (b4 : Int32) (b5 : Int32) (b6 : Int32) (b7 : Int32) (v0 : Int64) (h0 : Heap) (n0 : Nat) (v : Option Value) (h : Heap) (L : List Loc) : Prop := v = some (.long v0) ∧ Fr n0 L ∧ h = h0
set_option maxRecDepth 65536 in
set_option maxHeartbeats 40000000 in
theorem rm_tok (l : Launch) (Z : State) (av0 : Array Value) (hw : ∀ d ∈ tables_1, d.before av0 Z = true) (ws : List Jvm.Cond) (a0 : Addr) (cl : Cell) (b0 : Int32) (b1 : Int32) (b2 : Int32) (b3 : Int32) (b4 : Int32) (b5 : Int32) (b6 : Int32) (b7 : Int32) (v0 : Int64) (h0 : Heap) (n0 : Nat) (Ar : Arr Z h0 a0 cl .byte) (hi0 : ¬ ((0 : Int32) < 0 ∨ cl.slots.size ≤ ((0 : Int32)).toNatClampNeg)) (hi1 : ¬ (((0 : Int32) + (1 : Int32)) < 0 ∨ cl.slots.size ≤ (((0 : Int32) + (1 : Int32))).toNatClampNeg)) (hi2 : ¬ (((0 : Int32) + (2 : Int32)) < 0 ∨ cl.slots.size ≤ (((0 : Int32) + (2 : Int32))).toNatClampNeg)) (hi3 : ¬ (((0 : Int32) + (3 : Int32)) < 0 ∨ cl.slots.size ≤ (((0 : Int32) + (3 : Int32))).toNatClampNeg)) (hi4 : ¬ (((0 : Int32) + (4 : Int32)) < 0 ∨ cl.slots.size ≤ (((0 : Int32) + (4 : Int32))).toNatClampNeg)) (hi5 : ¬ (((0 : Int32) + (5 : Int32)) < 0 ∨ cl.slots.size ≤ (((0 : Int32) + (5 : Int32))).toNatClampNeg)) (hi6 : ¬ (((0 : Int32) + (6 : Int32)) < 0 ∨ cl.slots.size ≤ (((0 : Int32) + (6 : Int32))).toNatClampNeg)) (hi7 : ¬ (((0 : Int32) + (7 : Int32)) < 0 ∨ cl.slots.size ≤ (((0 : Int32) + (7 : Int32))).toNatClampNeg)) (ha0 : cl.slots[((0 : Int32)).toNatClampNeg]? = some (.int b0)) (ha1 : cl.slots[(((0 : Int32) + (1 : Int32))).toNatClampNeg]? = some (.int b1)) (ha2 : cl.slots[(((0 : Int32) + (2 : Int32))).toNatClampNeg]? = some (.int b2)) (ha3 : cl.slots[(((0 : Int32) + (3 : Int32))).toNatClampNeg]? = some (.int b3)) (ha4 : cl.slots[(((0 : Int32) + (4 : Int32))).toNatClampNeg]? = some (.int b4)) (ha5 : cl.slots[(((0 : Int32) + (5 : Int32))).toNatClampNeg]? = some (.int b5)) (ha6 : cl.slots[(((0 : Int32) + (6 : Int32))).toNatClampNeg]? = some (.int b6)) (ha7 : cl.slots[(((0 : Int32) + (7 : Int32))).toNatClampNeg]? = some (.int b7)) (hl : own_long b0 b1 b2 b3 b4 b5 b6 b7 = v0) :
    MetFree l (⟨"com/example/fence/fence/service/ClaimFormat", "token", "([B)J"⟩ : MethodName) (head1 (Jvm.Cond.code (⟨"com/example/fence/fence/service/ClaimFormat", "token", "([B)J"⟩ : MethodName) prog_19_method_22_code 1 (some .long) :: ws) ({ frames := 1, cells := 0, slots := 0, locals := 13 } : Room)) (fun a U => a = #[(.ref a0)] ∧ Z.Warmed39 U.vm ∧ U.heap = h0) (fun _ _ _ _ _ => True) (fun _ U o U' => ∃ v L, o = .returned v ∧ Q_tok Z a0 cl b0 b1 b2 b3 b4 b5 b6 b7 v0 h0 n0 v U'.heap L ∧ FrameEnd U o U' L ({ frames := 1, cells := 0, slots := 0, locals := 13 } : Room).cells ({ frames := 1, cells := 0, slots := 0, locals := 13 } : Room).slots) := by
  refine MetFree.of_bodySF (plainFor_of_name pn_tok) hisR ?_
  intro p e s m args below meth c s₁ Bd hml0 hP hK
  obtain ⟨rfl, hZ, hh⟩ := hP
  have hx := Bd.exec
  have hby := Bd.bytes
  have hml : c.maxLocals = 1 := hml0
  have hown : s.vm.findClass "com/example/fence/fence/service/ClaimFormat" = some m.cls := findClass_of_methodNamed Bd.named
  have hnm := (name_of_methodNamed Bd.named Bd.method).1
  have X0 : Stand p l e ({ frames := 1, cells := 0, slots := 0, locals := 13 } : Room) s m #[(.ref a0)] below meth c s₁ [] 0 0 := Stand.of_body Bd
  have e0 : s₁.heap = h0 := by rw [← hh, Bd.state]; rfl
  have N0 := Fr.nil n0
  have pre0 : Go p.tables e below (s₁.setTop (entryFrame m #[(.ref a0)] 1)) s₁ (mkF m 0 #[.val (.ref a0)] []) := fun t k => castTop (ef_tok m a0) k
  have pre1 : Go p.tables e below (s₁.setTop (entryFrame m #[(.ref a0)] 1)) s₁ (mkF m 2 #[.val (.ref a0)] [(.int (0 : Int32)), (.ref a0)]) := fun t k => pre0 t (by
      refine XS.aloadN X0.here hx rfl (hb hby d4_0) rfl rfl ?_
      show Steps p.tables e below (s₁.setTop (mkF m 1 #[.val (.ref a0)] [(.ref a0)])) _
      refine XS.iconst X0.here hx rfl (hb hby d4_1) ?_
      exact k)
  obtain ⟨_, _, ⟨T2, L2, k2, n2⟩, -, X2, ⟨Lc2, hQ2, l2, y2, z2⟩, st2⟩ := Jvm.LawKit.callS X0 hx (y := (⟨"com/example/fence/fence/util/BigEndian", "longAt", "([BI)J"⟩ : MethodName)) hown (mvT hZ (hw _ (List.mem_of_getElem? (i := 19) rfl))) (mvT hZ (hw _ (List.mem_of_getElem? (i := 20) rfl))) (mvT hZ (hw _ (List.mem_of_getElem? (i := 7) rfl))) (mvT hZ (hw _ (List.mem_of_getElem? (i := 21) rfl))) (by decide) (backOf (W := 0) (rm_la l Z av0 hw [] a0 (0 : Int32) cl b0 b1 b2 b3 b4 b5 b6 b7 h0 n0 Ar hi0 hi1 hi2 hi3 hi4 hi5 hi6 hi7 ha0 ha1 ha2 ha3 ha4 ha5 ha6 ha7) hZ (hw _ (List.mem_of_getElem? (i := 21) rfl)) (hw _ (List.mem_of_getElem? (i := 7) rfl)) (by decide) (by decide)) (g := (mkF m 2 #[.val (.ref a0)] [(.int (0 : Int32)), (.ref a0)])) rfl (by rw [hml]; rfl) (argsL := [(.ref a0), (.int (0 : Int32))]) (rest := []) (lenOf pd_0 rfl) rfl (by show 2 * 0 + _ ≤ _; exact Nat.le_of_eq rfl) (hb hby d4_2) (fun _ _ => ⟨rfl, e0, (by decide : 0 + 0 ≤ _), (by decide : 0 + 0 ≤ _)⟩)
  dsimp only [Pt.U, Pt.locs, Pt.cells, Pt.slots] at X2 l2 y2 z2 st2 hQ2
  subst l2 y2 z2
  obtain ⟨hv2, N2q, e2⟩ := hQ2
  rw [hl] at hv2
  subst hv2
  have N2 := Fr.app N0 N2q
  have pre2 : Go p.tables e below (s₁.setTop (entryFrame m #[(.ref a0)] 1)) T2 (mkF m 5 #[.val (.ref a0)] [(.long v0)]) := fun t k => pre1 t (st2 _ k)
  obtain ⟨fs, hr, hrun, hended, hW, hsame⟩ := X2.leave (v := some (.long v0)) (fun h => by rw [Bd.returns] at h; cases h) (BodyLoose.notSynchronized Bd)
  refine ⟨_, _, pre2 _ ?_, hrun, hended, _, _, rfl, ?_, ⟨_, rfl⟩, hW, hsame.mono (Nat.le_of_ble_eq_true rfl) (Nat.le_of_ble_eq_true rfl)⟩
  · exact retOut X2 hx Bd.returns rfl (Or.inr (Or.inl ⟨rfl, rfl, _, rfl⟩)) (hb hby d4_5) hr
  · show Q_tok Z a0 cl b0 b1 b2 b3 b4 b5 b6 b7 v0 h0 n0 _ T2.heap _
    rw [e2]
    exact ⟨rfl, N2, rfl⟩
theorem d6_0 : decode prog_19_method_15_code 0 = .ok (.aload_n 1, 1) := by decide +kernel
theorem d6_1 : decode prog_19_method_15_code 1 = .ok (.arraylength, 1) := by decide +kernel
theorem d6_2 : decode prog_19_method_15_code 2 = .ok (.aload_n 0, 1) := by decide +kernel
theorem d6_3 : decode prog_19_method_15_code 3 = .ok (.getfield 35, 3) := by decide +kernel
theorem d6_6 : decode prog_19_method_15_code 6 = .ok (.bipush 8, 2) := by decide +kernel
theorem d6_8 : decode prog_19_method_15_code 8 = .ok (.iadd, 1) := by decide +kernel
theorem d6_9 : decode prog_19_method_15_code 9 = .ok (.if_icmp .lt 7, 3) := by decide +kernel
theorem d6_12 : decode prog_19_method_15_code 12 = .ok (.iconst 1, 1) := by decide +kernel
theorem d6_13 : decode prog_19_method_15_code 13 = .ok (.goto 4, 3) := by decide +kernel
theorem d6_16 : decode prog_19_method_15_code 16 = .ok (.iconst 0, 1) := by decide +kernel
theorem d6_17 : decode prog_19_method_15_code 17 = .ok (.ireturn, 1) := by decide +kernel
theorem pn_isc : plainName "com/example/fence/fence/service/ClaimFormat" = true := by first | (simp [plainName, overriddenIn]; done) | decide +kernel
theorem ef_isc (m : MethodId) (a0 : Addr) (a1 : Addr) : entryFrame m #[(.ref a0), (.ref a1)] 2 = mkF m 0 #[.val (.ref a0), .val (.ref a1)] [] := by first | (simp [entryFrame, mkF, argsToLocals, Value.category]; done) | rfl
def Q_isc (Z : State) (a0 : Addr) (a1 : Addr) (st0 : Int32) (kk : ClassId) (z0 : Int32) (vs : List Value) (dv : Value) (h0 : Heap) (n0 : Nat) (v : Option Value) (h : Heap) (L : List Loc) : Prop := v = some (.int (own_isC z0 st0)) ∧ Fr n0 L ∧ h = h0
set_option maxRecDepth 65536 in
set_option maxHeartbeats 40000000 in
theorem rm_isc (l : Launch) (Z : State) (av0 : Array Value) (hw : ∀ d ∈ tables_1, d.before av0 Z = true) (ws : List Jvm.Cond) (a0 : Addr) (a1 : Addr) (st0 : Int32) (kk : ClassId) (z0 : Int32) (vs : List Value) (dv : Value) (h0 : Heap) (n0 : Nat) (F0 : Fld Z h0 a0 "com/example/fence/fence/service/ClaimFormat" "stampAt" "I" (.int st0)) (V0 : Arv Z h0 a1 kk .byte z0 vs dv) :
    MetFree l (⟨"com/example/fence/fence/service/ClaimFormat", "isClaim", "([B)Z"⟩ : MethodName) (head1 (Jvm.Cond.code (⟨"com/example/fence/fence/service/ClaimFormat", "isClaim", "([B)Z"⟩ : MethodName) prog_19_method_15_code 2 (some .boolean) :: ws) ({ frames := 0, cells := 0, slots := 0, locals := 0 } : Room)) (fun a U => a = #[(.ref a0), (.ref a1)] ∧ Z.Warmed39 U.vm ∧ U.heap = h0) (fun _ _ _ _ _ => True) (fun _ U o U' => ∃ v L, o = .returned v ∧ Q_isc Z a0 a1 st0 kk z0 vs dv h0 n0 v U'.heap L ∧ FrameEnd U o U' L ({ frames := 0, cells := 0, slots := 0, locals := 0 } : Room).cells ({ frames := 0, cells := 0, slots := 0, locals := 0 } : Room).slots) := by
  refine MetFree.of_bodySF (plainFor_of_name pn_isc) hisR ?_
  intro p e s m args below meth c s₁ Bd hml0 hP hK
  obtain ⟨rfl, hZ, hh⟩ := hP
  have hx := Bd.exec
  have hby := Bd.bytes
  have hml : c.maxLocals = 2 := hml0
  have hown : s.vm.findClass "com/example/fence/fence/service/ClaimFormat" = some m.cls := findClass_of_methodNamed Bd.named
  have hnm := (name_of_methodNamed Bd.named Bd.method).1
  have X0 : Stand p l e ({ frames := 0, cells := 0, slots := 0, locals := 0 } : Room) s m #[(.ref a0), (.ref a1)] below meth c s₁ [] 0 0 := Stand.of_body Bd
  have e0 : s₁.heap = h0 := by rw [← hh, Bd.state]; rfl
  have N0 := Fr.nil n0
  have pre0 : Go p.tables e below (s₁.setTop (entryFrame m #[(.ref a0), (.ref a1)] 2)) s₁ (mkF m 0 #[.val (.ref a0), .val (.ref a1)] []) := fun t k => castTop (ef_isc m a0 a1) k
  have pre1 : Go p.tables e below (s₁.setTop (entryFrame m #[(.ref a0), (.ref a1)] 2)) s₁ (mkF m 1 #[.val (.ref a0), .val (.ref a1)] [(.ref a1)]) := fun t k => pre0 t (by
      refine XS.aloadN X0.here hx rfl (hb hby d6_0) rfl rfl ?_
      exact k)
  obtain ⟨c2, Ar2, q2, S2, M2, H2, G2⟩ := (id V0)
  have pre2 : Go p.tables e below (s₁.setTop (entryFrame m #[(.ref a0), (.ref a1)] 2)) s₁ (mkF m 2 #[.val (.ref a0), .val (.ref a1)] [(.int z0)]) := fun t k => pre1 t (X0.arraylength hx (by rw [e0]; exact Ar2.1) (State.isArrayOf_alike hZ.alike Ar2.2.1) (g := (mkF m 1 #[.val (.ref a0), .val (.ref a1)] [(.ref a1)])) rfl rfl (hb hby d6_1) _ (by rw [len_of S2 M2]; exact k))
  have pre3 : Go p.tables e below (s₁.setTop (entryFrame m #[(.ref a0), (.ref a1)] 2)) s₁ (mkF m 3 #[.val (.ref a0), .val (.ref a1)] [(.ref a0), (.int z0)]) := fun t k => pre2 t (by
      refine XS.aloadN X0.here hx rfl (hb hby d6_2) rfl rfl ?_
      exact k)
  obtain ⟨T4, X4, e4, st4⟩ := getF X0 hx hZ hown (host := "") (Or.inl (hw _ (List.mem_of_getElem? (i := 30) rfl))) Via.refl e0 F0 (g := (mkF m 3 #[.val (.ref a0), .val (.ref a1)] [(.ref a0), (.int z0)])) rfl rfl (hb hby d6_3)
  have pre4 : Go p.tables e below (s₁.setTop (entryFrame m #[(.ref a0), (.ref a1)] 2)) T4 (mkF m 6 #[.val (.ref a0), .val (.ref a1)] [(.int st0), (.int z0)]) := fun t k => pre3 t (st4 _ k)
  have pre5 : Go p.tables e below (s₁.setTop (entryFrame m #[(.ref a0), (.ref a1)] 2)) T4 (mkF m 9 #[.val (.ref a0), .val (.ref a1)] [(.int (st0 + (8 : Int32))), (.int z0)]) := fun t k => pre4 t (by
      refine XS.bipush X4.here hx rfl (hb hby d6_6) ?_
      show Steps p.tables e below (T4.setTop (mkF m 8 #[.val (.ref a0), .val (.ref a1)] [(.int (8 : Int32)), (.int st0), (.int z0)])) _
      refine XS.iadd X4.here hx rfl (hb hby d6_8) rfl ?_
      exact k)
  by_cases hc6 : z0 < (st0 + (8 : Int32))
  · -- hc6: True
    have pre7 : Go p.tables e below (s₁.setTop (entryFrame m #[(.ref a0), (.ref a1)] 2)) T4 (mkF m 17 #[.val (.ref a0), .val (.ref a1)] [(.int (0 : Int32))]) := fun t k => pre5 t (by
        refine XS.icmpYes X4.here hx rfl (pc0 := 9) (pc' := 16) rfl (hb hby d6_9) rfl (tlt hc6).1 (by decide) (by decide) ?_
        show Steps p.tables e below (T4.setTop (mkF m 16 #[.val (.ref a0), .val (.ref a1)] [])) _
        refine XS.iconst X4.here hx rfl (hb hby d6_16) ?_
        exact k)
    obtain ⟨fs, hr, hrun, hended, hW, hsame⟩ := X4.leave (v := some (.int (0 : Int32))) (fun h => by rw [Bd.returns] at h; cases h) (BodyLoose.notSynchronized Bd)
    refine ⟨_, _, pre7 _ ?_, hrun, hended, _, _, rfl, ?_, ⟨_, rfl⟩, hW, hsame.mono (Nat.le_of_ble_eq_true rfl) (Nat.le_of_ble_eq_true rfl)⟩
    · exact retN X4 hx (t := .boolean) Bd.returns (by simp) (hb hby d6_17) hr
    · show Q_isc Z a0 a1 st0 kk z0 vs dv h0 n0 _ T4.heap _
      rw [e4]
      exact ⟨by simp [own_isC, hc6], N0, rfl⟩
  · -- hc6: False
    have pre8 : Go p.tables e below (s₁.setTop (entryFrame m #[(.ref a0), (.ref a1)] 2)) T4 (mkF m 17 #[.val (.ref a0), .val (.ref a1)] [(.int (1 : Int32))]) := fun t k => pre5 t (by
        refine XS.icmpNo X4.here hx rfl (hb hby d6_9) rfl (flt hc6).1 ?_
        show Steps p.tables e below (T4.setTop (mkF m 12 #[.val (.ref a0), .val (.ref a1)] [])) _
        refine XS.iconst X4.here hx rfl (hb hby d6_12) ?_
        show Steps p.tables e below (T4.setTop (mkF m 13 #[.val (.ref a0), .val (.ref a1)] [(.int (1 : Int32))])) _
        refine XS.goto X4.here hx rfl (pc0 := 13) (pc' := 17) rfl (hb hby d6_13) (by decide) (by decide) ?_
        exact k)
    obtain ⟨fs, hr, hrun, hended, hW, hsame⟩ := X4.leave (v := some (.int (1 : Int32))) (fun h => by rw [Bd.returns] at h; cases h) (BodyLoose.notSynchronized Bd)
    refine ⟨_, _, pre8 _ ?_, hrun, hended, _, _, rfl, ?_, ⟨_, rfl⟩, hW, hsame.mono (Nat.le_of_ble_eq_true rfl) (Nat.le_of_ble_eq_true rfl)⟩
    · exact retN X4 hx (t := .boolean) Bd.returns (by simp) (hb hby d6_17) hr
    · show Q_isc Z a0 a1 st0 kk z0 vs dv h0 n0 _ T4.heap _
      rw [e4]
      exact ⟨by simp [own_isC, hc6], N0, rfl⟩
theorem d3_0 : decode prog_19_method_5_code 0 = .ok (.aload_n 0, 1) := by decide +kernel
theorem d3_1 : decode prog_19_method_5_code 1 = .ok (.arraylength, 1) := by decide +kernel
theorem d3_2 : decode prog_19_method_5_code 2 = .ok (.bipush 8, 2) := by decide +kernel
theorem d3_4 : decode prog_19_method_5_code 4 = .ok (.if_icmp .ge 5, 3) := by decide +kernel
theorem d3_7 : decode prog_19_method_5_code 7 = .ok (.aconst_null, 1) := by decide +kernel
theorem d3_8 : decode prog_19_method_5_code 8 = .ok (.areturn, 1) := by decide +kernel
theorem d3_9 : decode prog_19_method_5_code 9 = .ok (.aload_n 0, 1) := by decide +kernel
theorem d3_10 : decode prog_19_method_5_code 10 = .ok (.invokestatic 48, 3) := by decide +kernel
theorem d3_13 : decode prog_19_method_5_code 13 = .ok (.ldc2_w 52, 3) := by decide +kernel
theorem d3_16 : decode prog_19_method_5_code 16 = .ok (.lcmp, 1) := by decide +kernel
theorem d3_17 : decode prog_19_method_5_code 17 = .ok (.ifCond .lt 9, 3) := by decide +kernel
theorem d3_20 : decode prog_19_method_5_code 20 = .ok (.getstatic 5, 3) := by decide +kernel
theorem d3_23 : decode prog_19_method_5_code 23 = .ok (.goto 6, 3) := by decide +kernel
theorem d3_26 : decode prog_19_method_5_code 26 = .ok (.getstatic 9, 3) := by decide +kernel
theorem d3_29 : decode prog_19_method_5_code 29 = .ok (.astore_n 1, 1) := by decide +kernel
theorem d3_30 : decode prog_19_method_5_code 30 = .ok (.aload_n 1, 1) := by decide +kernel
theorem d3_31 : decode prog_19_method_5_code 31 = .ok (.aload_n 0, 1) := by decide +kernel
theorem d3_32 : decode prog_19_method_5_code 32 = .ok (.invokevirtual 54, 3) := by decide +kernel
theorem d3_35 : decode prog_19_method_5_code 35 = .ok (.ifCond .eq 7, 3) := by decide +kernel
theorem d3_38 : decode prog_19_method_5_code 38 = .ok (.aload_n 1, 1) := by decide +kernel
theorem d3_39 : decode prog_19_method_5_code 39 = .ok (.goto 4, 3) := by decide +kernel
theorem d3_42 : decode prog_19_method_5_code 42 = .ok (.aconst_null, 1) := by decide +kernel
theorem d3_43 : decode prog_19_method_5_code 43 = .ok (.areturn, 1) := by decide +kernel
theorem pn_ofc : plainName "com/example/fence/fence/service/ClaimFormat" = true := by first | (simp [plainName, overriddenIn]; done) | decide +kernel
theorem ef_ofc (m : MethodId) (a0 : Addr) : entryFrame m #[(.ref a0)] 2 = mkF m 0 #[.val (.ref a0), .unset] [] := by first | (simp [entryFrame, mkF, argsToLocals, Value.category]; done) | rfl
def Q_ofc (Z : State) (a0 : Addr) (kk : ClassId) (z0 : Int32) (vs : List Value) (dv : Value) (b0 : Int32) (b1 : Int32) (b2 : Int32) (b3 : Int32) (b4 : Int32) (b5 : Int32) (b6 : Int32) (b7 : Int32) (v0 : Int64) (r_TIMESTAMPED : Addr) (r_NUMBERED : Addr) (h0 : Heap) (n0 : Nat) (v : Option Value) (h : Heap) (L : List Loc) : Prop := v = some (own_of v0 z0 r_TIMESTAMPED r_NUMBERED) ∧ Fr n0 L ∧ h = h0
set_option maxRecDepth 65536 in
set_option maxHeartbeats 40000000 in
theorem rm_ofc (l : Launch) (Z : State) (av0 : Array Value) (hw : ∀ d ∈ tables_1, d.before av0 Z = true) (ws : List Jvm.Cond) (a0 : Addr) (kk : ClassId) (z0 : Int32) (vs : List Value) (dv : Value) (b0 : Int32) (b1 : Int32) (b2 : Int32) (b3 : Int32) (b4 : Int32) (b5 : Int32) (b6 : Int32) (b7 : Int32) (v0 : Int64) (r_TIMESTAMPED : Addr) (r_NUMBERED : Addr) (h0 : Heap) (n0 : Nat) (O0 : Old Z n0 h0) (S_TIMESTAMPED : Sta Z Z.heap "com/example/fence/fence/service/ClaimFormat" "TIMESTAMPED" "Lcom/example/fence/fence/service/ClaimFormat;" (.ref r_TIMESTAMPED)) (S_NUMBERED : Sta Z Z.heap "com/example/fence/fence/service/ClaimFormat" "NUMBERED" "Lcom/example/fence/fence/service/ClaimFormat;" (.ref r_NUMBERED)) (E_TIMESTAMPED : Exa Z Z.heap r_TIMESTAMPED "com/example/fence/fence/service/ClaimFormat$1") (E_NUMBERED : Exa Z Z.heap r_NUMBERED "com/example/fence/fence/service/ClaimFormat$2") (F_TIMESTAMPED : Fld Z Z.heap r_TIMESTAMPED "com/example/fence/fence/service/ClaimFormat" "stampAt" "I" (.int (0 : Int32))) (F_NUMBERED : Fld Z Z.heap r_NUMBERED "com/example/fence/fence/service/ClaimFormat" "stampAt" "I" (.int (8 : Int32))) (V0 : Arv Z h0 a0 kk .byte z0 vs dv) (hb0 : vs.getD ((0 : Int32)).toNatClampNeg dv = .int b0) (hb1 : vs.getD (((0 : Int32) + (1 : Int32))).toNatClampNeg dv = .int b1) (hb2 : vs.getD (((0 : Int32) + (2 : Int32))).toNatClampNeg dv = .int b2) (hb3 : vs.getD (((0 : Int32) + (3 : Int32))).toNatClampNeg dv = .int b3) (hb4 : vs.getD (((0 : Int32) + (4 : Int32))).toNatClampNeg dv = .int b4) (hb5 : vs.getD (((0 : Int32) + (5 : Int32))).toNatClampNeg dv = .int b5) (hb6 : vs.getD (((0 : Int32) + (6 : Int32))).toNatClampNeg dv = .int b6) (hb7 : vs.getD (((0 : Int32) + (7 : Int32))).toNatClampNeg dv = .int b7) (hl : own_long b0 b1 b2 b3 b4 b5 b6 b7 = v0) :
    MetFree l (⟨"com/example/fence/fence/service/ClaimFormat", "ofColumn", "([B)Lcom/example/fence/fence/service/ClaimFormat;"⟩ : MethodName) (head1 (Jvm.Cond.code (⟨"com/example/fence/fence/service/ClaimFormat", "ofColumn", "([B)Lcom/example/fence/fence/service/ClaimFormat;"⟩ : MethodName) prog_19_method_5_code 2 (some (.object "com/example/fence/fence/service/ClaimFormat")) :: ws) ({ frames := 2, cells := 0, slots := 0, locals := 25 } : Room)) (fun a U => a = #[(.ref a0)] ∧ Z.Warmed39 U.vm ∧ U.heap = h0) (fun _ _ _ _ _ => True) (fun _ U o U' => ∃ v L, o = .returned v ∧ Q_ofc Z a0 kk z0 vs dv b0 b1 b2 b3 b4 b5 b6 b7 v0 r_TIMESTAMPED r_NUMBERED h0 n0 v U'.heap L ∧ FrameEnd U o U' L ({ frames := 2, cells := 0, slots := 0, locals := 25 } : Room).cells ({ frames := 2, cells := 0, slots := 0, locals := 25 } : Room).slots) := by
  refine MetFree.of_bodySF (plainFor_of_name pn_ofc) hisR ?_
  intro p e s m args below meth c s₁ Bd hml0 hP hK
  obtain ⟨rfl, hZ, hh⟩ := hP
  have hx := Bd.exec
  have hby := Bd.bytes
  have hml : c.maxLocals = 2 := hml0
  have hown : s.vm.findClass "com/example/fence/fence/service/ClaimFormat" = some m.cls := findClass_of_methodNamed Bd.named
  have hnm := (name_of_methodNamed Bd.named Bd.method).1
  have X0 : Stand p l e ({ frames := 2, cells := 0, slots := 0, locals := 25 } : Room) s m #[(.ref a0)] below meth c s₁ [] 0 0 := Stand.of_body Bd
  have e0 : s₁.heap = h0 := by rw [← hh, Bd.state]; rfl
  have N0 := Fr.nil n0
  have pre0 : Go p.tables e below (s₁.setTop (entryFrame m #[(.ref a0)] 2)) s₁ (mkF m 0 #[.val (.ref a0), .unset] []) := fun t k => castTop (ef_ofc m a0) k
  have pre1 : Go p.tables e below (s₁.setTop (entryFrame m #[(.ref a0)] 2)) s₁ (mkF m 1 #[.val (.ref a0), .unset] [(.ref a0)]) := fun t k => pre0 t (by
      refine XS.aloadN X0.here hx rfl (hb hby d3_0) rfl rfl ?_
      exact k)
  obtain ⟨c2, Ar2, q2, S2, M2, H2, G2⟩ := (id V0)
  have pre2 : Go p.tables e below (s₁.setTop (entryFrame m #[(.ref a0)] 2)) s₁ (mkF m 2 #[.val (.ref a0), .unset] [(.int z0)]) := fun t k => pre1 t (X0.arraylength hx (by rw [e0]; exact Ar2.1) (State.isArrayOf_alike hZ.alike Ar2.2.1) (g := (mkF m 1 #[.val (.ref a0), .unset] [(.ref a0)])) rfl rfl (hb hby d3_1) _ (by rw [len_of S2 M2]; exact k))
  have pre3 : Go p.tables e below (s₁.setTop (entryFrame m #[(.ref a0)] 2)) s₁ (mkF m 4 #[.val (.ref a0), .unset] [(.int (8 : Int32)), (.int z0)]) := fun t k => pre2 t (by
      refine XS.bipush X0.here hx rfl (hb hby d3_2) ?_
      exact k)
  by_cases hc4 : z0 < (8 : Int32)
  · -- hc4: True
    have pre5 : Go p.tables e below (s₁.setTop (entryFrame m #[(.ref a0)] 2)) s₁ (mkF m 8 #[.val (.ref a0), .unset] [.null]) := fun t k => pre3 t (by
        refine XS.icmpNo X0.here hx rfl (hb hby d3_4) rfl (tlt hc4).2.1 ?_
        show Steps p.tables e below (s₁.setTop (mkF m 7 #[.val (.ref a0), .unset] [])) _
        refine XS.aconstNull X0.here hx rfl (hb hby d3_7) ?_
        exact k)
    obtain ⟨fs, hr, hrun, hended, hW, hsame⟩ := X0.leave (v := some .null) (fun h => by rw [Bd.returns] at h; cases h) (BodyLoose.notSynchronized Bd)
    refine ⟨_, _, pre5 _ ?_, hrun, hended, _, _, rfl, ?_, ⟨_, rfl⟩, hW, hsame.mono (Nat.le_of_ble_eq_true rfl) (Nat.le_of_ble_eq_true rfl)⟩
    · exact retOut X0 hx Bd.returns rfl (Or.inr (Or.inr (Or.inr (Or.inr ⟨rfl, rfl, rfl⟩)))) (hb hby d3_8) hr
    · show Q_ofc Z a0 kk z0 vs dv b0 b1 b2 b3 b4 b5 b6 b7 v0 r_TIMESTAMPED r_NUMBERED h0 n0 _ s₁.heap _
      rw [e0]
      exact ⟨by simp [own_of, hc4], N0, rfl⟩
  · -- hc4: False
    have pre6 : Go p.tables e below (s₁.setTop (entryFrame m #[(.ref a0)] 2)) s₁ (mkF m 10 #[.val (.ref a0), .unset] [(.ref a0)]) := fun t k => pre3 t (by
        refine XS.icmpYes X0.here hx rfl (pc0 := 4) (pc' := 9) rfl (hb hby d3_4) rfl (flt hc4).2.1 (by decide) (by decide) ?_
        show Steps p.tables e below (s₁.setTop (mkF m 9 #[.val (.ref a0), .unset] [])) _
        refine XS.aloadN X0.here hx rfl (hb hby d3_9) rfl rfl ?_
        exact k)
    obtain ⟨c8, Ar8, q8, S8, M8, H8, G8⟩ := (id V0)
    have hi8_0 : ¬ ((0 : Int32) < 0 ∨ c8.slots.size ≤ ((0 : Int32)).toNatClampNeg) := inb_of S8 ⟨by decide, Int32.lt_of_lt_of_le (by decide) (Int32.not_lt.mp hc4)⟩
    have hi8_1 : ¬ (((0 : Int32) + (1 : Int32)) < 0 ∨ c8.slots.size ≤ (((0 : Int32) + (1 : Int32))).toNatClampNeg) := inb_of S8 ⟨by decide, Int32.lt_of_lt_of_le (by decide) (Int32.not_lt.mp hc4)⟩
    have hi8_2 : ¬ (((0 : Int32) + (2 : Int32)) < 0 ∨ c8.slots.size ≤ (((0 : Int32) + (2 : Int32))).toNatClampNeg) := inb_of S8 ⟨by decide, Int32.lt_of_lt_of_le (by decide) (Int32.not_lt.mp hc4)⟩
    have hi8_3 : ¬ (((0 : Int32) + (3 : Int32)) < 0 ∨ c8.slots.size ≤ (((0 : Int32) + (3 : Int32))).toNatClampNeg) := inb_of S8 ⟨by decide, Int32.lt_of_lt_of_le (by decide) (Int32.not_lt.mp hc4)⟩
    have hi8_4 : ¬ (((0 : Int32) + (4 : Int32)) < 0 ∨ c8.slots.size ≤ (((0 : Int32) + (4 : Int32))).toNatClampNeg) := inb_of S8 ⟨by decide, Int32.lt_of_lt_of_le (by decide) (Int32.not_lt.mp hc4)⟩
    have hi8_5 : ¬ (((0 : Int32) + (5 : Int32)) < 0 ∨ c8.slots.size ≤ (((0 : Int32) + (5 : Int32))).toNatClampNeg) := inb_of S8 ⟨by decide, Int32.lt_of_lt_of_le (by decide) (Int32.not_lt.mp hc4)⟩
    have hi8_6 : ¬ (((0 : Int32) + (6 : Int32)) < 0 ∨ c8.slots.size ≤ (((0 : Int32) + (6 : Int32))).toNatClampNeg) := inb_of S8 ⟨by decide, Int32.lt_of_lt_of_le (by decide) (Int32.not_lt.mp hc4)⟩
    have hi8_7 : ¬ (((0 : Int32) + (7 : Int32)) < 0 ∨ c8.slots.size ≤ (((0 : Int32) + (7 : Int32))).toNatClampNeg) := inb_of S8 ⟨by decide, Int32.lt_of_lt_of_le (by decide) (Int32.not_lt.mp hc4)⟩
    obtain ⟨_, _, ⟨T7, L7, k7, n7⟩, -, X7, ⟨Lc7, hQ7, l7, y7, z7⟩, st7⟩ := Jvm.LawKit.callS X0 hx (y := (⟨"com/example/fence/fence/service/ClaimFormat", "token", "([B)J"⟩ : MethodName)) hown (mvT hZ (hw _ (List.mem_of_getElem? (i := 16) rfl))) (mvT hZ (hw _ (List.mem_of_getElem? (i := 17) rfl))) (mvT hZ (hw _ (List.mem_of_getElem? (i := 3) rfl))) (mvT hZ (hw _ (List.mem_of_getElem? (i := 18) rfl))) (by decide) (backOf (W := 0) (rm_tok l Z av0 hw [] a0 c8 b0 b1 b2 b3 b4 b5 b6 b7 v0 h0 n0 Ar8 hi8_0 hi8_1 hi8_2 hi8_3 hi8_4 hi8_5 hi8_6 hi8_7 (H8.at hi8_0 hb0) (H8.at hi8_1 hb1) (H8.at hi8_2 hb2) (H8.at hi8_3 hb3) (H8.at hi8_4 hb4) (H8.at hi8_5 hb5) (H8.at hi8_6 hb6) (H8.at hi8_7 hb7) hl) hZ (hw _ (List.mem_of_getElem? (i := 18) rfl)) (hw _ (List.mem_of_getElem? (i := 3) rfl)) (by decide) (by decide)) (g := (mkF m 10 #[.val (.ref a0), .unset] [(.ref a0)])) rfl (by rw [hml]; rfl) (argsL := [(.ref a0)]) (rest := []) (lenOf pd_1 rfl) rfl (by show 2 * 0 + _ ≤ _; exact Nat.le_of_eq rfl) (hb hby d3_10) (fun _ _ => ⟨rfl, e0, (by decide : 0 + 0 ≤ _), (by decide : 0 + 0 ≤ _)⟩)
    dsimp only [Pt.U, Pt.locs, Pt.cells, Pt.slots] at X7 l7 y7 z7 st7 hQ7
    subst l7 y7 z7
    obtain ⟨rfl, N7q, e7⟩ := hQ7
    have N7 := Fr.app N0 N7q
    have pre7 : Go p.tables e below (s₁.setTop (entryFrame m #[(.ref a0)] 2)) T7 (mkF m 13 #[.val (.ref a0), .unset] [(.long v0)]) := fun t k => pre6 t (st7 _ k)
    have pre9 : Go p.tables e below (s₁.setTop (entryFrame m #[(.ref a0)] 2)) T7 (mkF m 17 #[.val (.ref a0), .unset] [(.int (lcmpW v0 (946684800000000000 : Int64)))]) := fun t k => pre7 t (by
        refine X7.ldc2Long hx hown (mvT hZ (hw _ (List.mem_of_getElem? (i := 23) rfl))) (g := (mkF m 13 #[.val (.ref a0), .unset] [(.long v0)])) rfl (hb hby d3_13) _ ?_
        show Steps p.tables e below (T7.setTop (mkF m 16 #[.val (.ref a0), .unset] [(.long (946684800000000000 : Int64)), (.long v0)])) _
        refine XS.lcmp X7.here hx rfl (hb hby d3_16) rfl ?_
        exact k)
    by_cases hc10 : v0 < (946684800000000000 : Int64)
    · -- hc10: True
      have pre11 : Go p.tables e below (s₁.setTop (entryFrame m #[(.ref a0)] 2)) T7 (mkF m 26 #[.val (.ref a0), .unset] []) := fun t k => pre9 t (by
          refine XS.ifYes X7.here hx rfl (pc0 := 17) (pc' := 26) rfl (hb hby d3_17) rfl ((if0 _ _).trans (tlt ((lw_lt _ _).mpr hc10)).1) (by decide) (by decide) ?_
          exact k)
      obtain ⟨T12, X12, e12, st12⟩ := getS2 X7 hx hZ hown (host := "") (Or.inl (hw _ (List.mem_of_getElem? (i := 24) rfl))) Via.refl e7 (S_NUMBERED.ext O0.2) (g := (mkF m 26 #[.val (.ref a0), .unset] [])) rfl (hb hby d3_26)
      have pre12 : Go p.tables e below (s₁.setTop (entryFrame m #[(.ref a0)] 2)) T12 (mkF m 29 #[.val (.ref a0), .unset] [(.ref r_NUMBERED)]) := fun t k => pre11 t (st12 _ k)
      have pre13 : Go p.tables e below (s₁.setTop (entryFrame m #[(.ref a0)] 2)) T12 (mkF m 32 #[.val (.ref a0), .val (.ref r_NUMBERED)] [(.ref a0), (.ref r_NUMBERED)]) := fun t k => pre12 t (by
          refine XS.astoreN X12.here hx rfl (hb hby d3_29) rfl rfl (l' := #[.val (.ref a0), .val (.ref r_NUMBERED)]) rfl ?_
          show Steps p.tables e below (T12.setTop (mkF m 30 #[.val (.ref a0), .val (.ref r_NUMBERED)] [])) _
          refine XS.aloadN X12.here hx rfl (hb hby d3_30) rfl rfl ?_
          show Steps p.tables e below (T12.setTop (mkF m 31 #[.val (.ref a0), .val (.ref r_NUMBERED)] [(.ref r_NUMBERED)])) _
          refine XS.aloadN X12.here hx rfl (hb hby d3_31) rfl rfl ?_
          exact k)
      obtain ⟨cq14, q14, q14'⟩ := (E_NUMBERED.ext O0.2).cell
      obtain ⟨_, _, ⟨T14, L14, k14, n14⟩, -, X14, ⟨Lc14, hQ14, l14, y14, z14⟩, st14⟩ := own_private X12 hx (y := (⟨"com/example/fence/fence/service/ClaimFormat", "isClaim", "([B)Z"⟩ : MethodName)) hown (mvT hZ (hw _ (List.mem_of_getElem? (i := 26) rfl))) (mvT hZ (hw _ (List.mem_of_getElem? (i := 27) rfl))) (mvT hZ (hw _ (List.mem_of_getElem? (i := 36) rfl))) rfl (Cond.privateMethod_at (mvP hZ (hw _ (List.mem_of_getElem? (i := 28) rfl)) (args := #[]))) (mvT hZ (hw _ (List.mem_of_getElem? (i := 29) rfl))) (by decide) (backOf (W := 0) (rm_isc l Z av0 hw [] r_NUMBERED a0 (8 : Int32) kk z0 vs dv h0 n0 (F_NUMBERED.ext O0.2) V0) hZ (hw _ (List.mem_of_getElem? (i := 29) rfl)) (hw _ (List.mem_of_getElem? (i := 3) rfl)) (by decide) (by decide)) (a := r_NUMBERED) (by rw [e12]; exact q14) q14' (g := (mkF m 32 #[.val (.ref a0), .val (.ref r_NUMBERED)] [(.ref a0), (.ref r_NUMBERED)])) rfl (by rw [hml]; rfl) (argsL := [(.ref a0)]) (rest := []) (lenOf pd_2 rfl) rfl (by show 2 * 0 + _ ≤ _; exact Nat.le_of_eq rfl) (hb hby d3_32) (fun _ _ => ⟨rfl, e12, (by decide : 0 + 0 ≤ _), (by decide : 0 + 0 ≤ _)⟩)
      dsimp only [Pt.U, Pt.locs, Pt.cells, Pt.slots] at X14 l14 y14 z14 st14 hQ14
      subst l14 y14 z14
      obtain ⟨rfl, N14q, e14⟩ := hQ14
      have N14 := Fr.app N7 N14q
      have pre14 : Go p.tables e below (s₁.setTop (entryFrame m #[(.ref a0)] 2)) T14 (mkF m 35 #[.val (.ref a0), .val (.ref r_NUMBERED)] [(.int (own_isC z0 (8 : Int32)))]) := fun t k => pre13 t (st14 _ k)
      by_cases hc15 : (own_isC z0 (8 : Int32)) = (0 : Int32)
      · -- hc15: True
        have pre16 : Go p.tables e below (s₁.setTop (entryFrame m #[(.ref a0)] 2)) T14 (mkF m 43 #[.val (.ref a0), .val (.ref r_NUMBERED)] [.null]) := fun t k => pre14 t (by
            refine XS.ifYes X14.here hx rfl (pc0 := 35) (pc' := 42) rfl (hb hby d3_35) rfl ((if0 _ _).trans (teq hc15).1) (by decide) (by decide) ?_
            show Steps p.tables e below (T14.setTop (mkF m 42 #[.val (.ref a0), .val (.ref r_NUMBERED)] [])) _
            refine XS.aconstNull X14.here hx rfl (hb hby d3_42) ?_
            exact k)
        obtain ⟨fs, hr, hrun, hended, hW, hsame⟩ := X14.leave (v := some .null) (fun h => by rw [Bd.returns] at h; cases h) (BodyLoose.notSynchronized Bd)
        refine ⟨_, _, pre16 _ ?_, hrun, hended, _, _, rfl, ?_, ⟨_, rfl⟩, hW, hsame.mono (Nat.le_of_ble_eq_true rfl) (Nat.le_of_ble_eq_true rfl)⟩
        · exact retOut X14 hx Bd.returns rfl (Or.inr (Or.inr (Or.inr (Or.inr ⟨rfl, rfl, rfl⟩)))) (hb hby d3_43) hr
        · show Q_ofc Z a0 kk z0 vs dv b0 b1 b2 b3 b4 b5 b6 b7 v0 r_TIMESTAMPED r_NUMBERED h0 n0 _ T14.heap _
          rw [e14]
          exact ⟨by simp [own_of, hc4, hc10, hc15], N14, rfl⟩
      · -- hc15: False
        have pre17 : Go p.tables e below (s₁.setTop (entryFrame m #[(.ref a0)] 2)) T14 (mkF m 43 #[.val (.ref a0), .val (.ref r_NUMBERED)] [(.ref r_NUMBERED)]) := fun t k => pre14 t (by
            refine XS.ifNo X14.here hx rfl (hb hby d3_35) rfl ((if0 _ _).trans (feq hc15).1) ?_
            show Steps p.tables e below (T14.setTop (mkF m 38 #[.val (.ref a0), .val (.ref r_NUMBERED)] [])) _
            refine XS.aloadN X14.here hx rfl (hb hby d3_38) rfl rfl ?_
            show Steps p.tables e below (T14.setTop (mkF m 39 #[.val (.ref a0), .val (.ref r_NUMBERED)] [(.ref r_NUMBERED)])) _
            refine XS.goto X14.here hx rfl (pc0 := 39) (pc' := 43) rfl (hb hby d3_39) (by decide) (by decide) ?_
            exact k)
        obtain ⟨fs, hr, hrun, hended, hW, hsame⟩ := X14.leave (v := some (.ref r_NUMBERED)) (fun h => by rw [Bd.returns] at h; cases h) (BodyLoose.notSynchronized Bd)
        refine ⟨_, _, pre17 _ ?_, hrun, hended, _, _, rfl, ?_, ⟨_, rfl⟩, hW, hsame.mono (Nat.le_of_ble_eq_true rfl) (Nat.le_of_ble_eq_true rfl)⟩
        · exact retOut X14 hx Bd.returns rfl (Or.inr (Or.inr (Or.inr (Or.inr ⟨rfl, rfl, rfl⟩)))) (hb hby d3_43) hr
        · show Q_ofc Z a0 kk z0 vs dv b0 b1 b2 b3 b4 b5 b6 b7 v0 r_TIMESTAMPED r_NUMBERED h0 n0 _ T14.heap _
          rw [e14]
          exact ⟨by simp [own_of, hc4, hc10, hc15], N14, rfl⟩
    · -- hc10: False
      have pre18 : Go p.tables e below (s₁.setTop (entryFrame m #[(.ref a0)] 2)) T7 (mkF m 20 #[.val (.ref a0), .unset] []) := fun t k => pre9 t (by
          refine XS.ifNo X7.here hx rfl (hb hby d3_17) rfl ((if0 _ _).trans (flt (mt (lw_lt _ _).mp hc10)).1) ?_
          exact k)
      obtain ⟨T19, X19, e19, st19⟩ := getS2 X7 hx hZ hown (host := "") (Or.inl (hw _ (List.mem_of_getElem? (i := 46) rfl))) Via.refl e7 (S_TIMESTAMPED.ext O0.2) (g := (mkF m 20 #[.val (.ref a0), .unset] [])) rfl (hb hby d3_20)
      have pre19 : Go p.tables e below (s₁.setTop (entryFrame m #[(.ref a0)] 2)) T19 (mkF m 23 #[.val (.ref a0), .unset] [(.ref r_TIMESTAMPED)]) := fun t k => pre18 t (st19 _ k)
      have pre20 : Go p.tables e below (s₁.setTop (entryFrame m #[(.ref a0)] 2)) T19 (mkF m 32 #[.val (.ref a0), .val (.ref r_TIMESTAMPED)] [(.ref a0), (.ref r_TIMESTAMPED)]) := fun t k => pre19 t (by
          refine XS.goto X19.here hx rfl (pc0 := 23) (pc' := 29) rfl (hb hby d3_23) (by decide) (by decide) ?_
          show Steps p.tables e below (T19.setTop (mkF m 29 #[.val (.ref a0), .unset] [(.ref r_TIMESTAMPED)])) _
          refine XS.astoreN X19.here hx rfl (hb hby d3_29) rfl rfl (l' := #[.val (.ref a0), .val (.ref r_TIMESTAMPED)]) rfl ?_
          show Steps p.tables e below (T19.setTop (mkF m 30 #[.val (.ref a0), .val (.ref r_TIMESTAMPED)] [])) _
          refine XS.aloadN X19.here hx rfl (hb hby d3_30) rfl rfl ?_
          show Steps p.tables e below (T19.setTop (mkF m 31 #[.val (.ref a0), .val (.ref r_TIMESTAMPED)] [(.ref r_TIMESTAMPED)])) _
          refine XS.aloadN X19.here hx rfl (hb hby d3_31) rfl rfl ?_
          exact k)
      obtain ⟨cq21, q21, q21'⟩ := (E_TIMESTAMPED.ext O0.2).cell
      obtain ⟨_, _, ⟨T21, L21, k21, n21⟩, -, X21, ⟨Lc21, hQ21, l21, y21, z21⟩, st21⟩ := own_private X19 hx (y := (⟨"com/example/fence/fence/service/ClaimFormat", "isClaim", "([B)Z"⟩ : MethodName)) hown (mvT hZ (hw _ (List.mem_of_getElem? (i := 26) rfl))) (mvT hZ (hw _ (List.mem_of_getElem? (i := 27) rfl))) (mvT hZ (hw _ (List.mem_of_getElem? (i := 36) rfl))) rfl (Cond.privateMethod_at (mvP hZ (hw _ (List.mem_of_getElem? (i := 28) rfl)) (args := #[]))) (mvT hZ (hw _ (List.mem_of_getElem? (i := 29) rfl))) (by decide) (backOf (W := 0) (rm_isc l Z av0 hw [] r_TIMESTAMPED a0 (0 : Int32) kk z0 vs dv h0 n0 (F_TIMESTAMPED.ext O0.2) V0) hZ (hw _ (List.mem_of_getElem? (i := 29) rfl)) (hw _ (List.mem_of_getElem? (i := 3) rfl)) (by decide) (by decide)) (a := r_TIMESTAMPED) (by rw [e19]; exact q21) q21' (g := (mkF m 32 #[.val (.ref a0), .val (.ref r_TIMESTAMPED)] [(.ref a0), (.ref r_TIMESTAMPED)])) rfl (by rw [hml]; rfl) (argsL := [(.ref a0)]) (rest := []) (lenOf pd_2 rfl) rfl (by show 2 * 0 + _ ≤ _; exact Nat.le_of_eq rfl) (hb hby d3_32) (fun _ _ => ⟨rfl, e19, (by decide : 0 + 0 ≤ _), (by decide : 0 + 0 ≤ _)⟩)
      dsimp only [Pt.U, Pt.locs, Pt.cells, Pt.slots] at X21 l21 y21 z21 st21 hQ21
      subst l21 y21 z21
      obtain ⟨rfl, N21q, e21⟩ := hQ21
      have N21 := Fr.app N7 N21q
      have pre21 : Go p.tables e below (s₁.setTop (entryFrame m #[(.ref a0)] 2)) T21 (mkF m 35 #[.val (.ref a0), .val (.ref r_TIMESTAMPED)] [(.int (own_isC z0 (0 : Int32)))]) := fun t k => pre20 t (st21 _ k)
      by_cases hc22 : (own_isC z0 (0 : Int32)) = (0 : Int32)
      · -- hc22: True
        have pre23 : Go p.tables e below (s₁.setTop (entryFrame m #[(.ref a0)] 2)) T21 (mkF m 43 #[.val (.ref a0), .val (.ref r_TIMESTAMPED)] [.null]) := fun t k => pre21 t (by
            refine XS.ifYes X21.here hx rfl (pc0 := 35) (pc' := 42) rfl (hb hby d3_35) rfl ((if0 _ _).trans (teq hc22).1) (by decide) (by decide) ?_
            show Steps p.tables e below (T21.setTop (mkF m 42 #[.val (.ref a0), .val (.ref r_TIMESTAMPED)] [])) _
            refine XS.aconstNull X21.here hx rfl (hb hby d3_42) ?_
            exact k)
        obtain ⟨fs, hr, hrun, hended, hW, hsame⟩ := X21.leave (v := some .null) (fun h => by rw [Bd.returns] at h; cases h) (BodyLoose.notSynchronized Bd)
        refine ⟨_, _, pre23 _ ?_, hrun, hended, _, _, rfl, ?_, ⟨_, rfl⟩, hW, hsame.mono (Nat.le_of_ble_eq_true rfl) (Nat.le_of_ble_eq_true rfl)⟩
        · exact retOut X21 hx Bd.returns rfl (Or.inr (Or.inr (Or.inr (Or.inr ⟨rfl, rfl, rfl⟩)))) (hb hby d3_43) hr
        · show Q_ofc Z a0 kk z0 vs dv b0 b1 b2 b3 b4 b5 b6 b7 v0 r_TIMESTAMPED r_NUMBERED h0 n0 _ T21.heap _
          rw [e21]
          exact ⟨by simp [own_of, hc4, hc10, hc22], N21, rfl⟩
      · -- hc22: False
        have pre24 : Go p.tables e below (s₁.setTop (entryFrame m #[(.ref a0)] 2)) T21 (mkF m 43 #[.val (.ref a0), .val (.ref r_TIMESTAMPED)] [(.ref r_TIMESTAMPED)]) := fun t k => pre21 t (by
            refine XS.ifNo X21.here hx rfl (hb hby d3_35) rfl ((if0 _ _).trans (feq hc22).1) ?_
            show Steps p.tables e below (T21.setTop (mkF m 38 #[.val (.ref a0), .val (.ref r_TIMESTAMPED)] [])) _
            refine XS.aloadN X21.here hx rfl (hb hby d3_38) rfl rfl ?_
            show Steps p.tables e below (T21.setTop (mkF m 39 #[.val (.ref a0), .val (.ref r_TIMESTAMPED)] [(.ref r_TIMESTAMPED)])) _
            refine XS.goto X21.here hx rfl (pc0 := 39) (pc' := 43) rfl (hb hby d3_39) (by decide) (by decide) ?_
            exact k)
        obtain ⟨fs, hr, hrun, hended, hW, hsame⟩ := X21.leave (v := some (.ref r_TIMESTAMPED)) (fun h => by rw [Bd.returns] at h; cases h) (BodyLoose.notSynchronized Bd)
        refine ⟨_, _, pre24 _ ?_, hrun, hended, _, _, rfl, ?_, ⟨_, rfl⟩, hW, hsame.mono (Nat.le_of_ble_eq_true rfl) (Nat.le_of_ble_eq_true rfl)⟩
        · exact retOut X21 hx Bd.returns rfl (Or.inr (Or.inr (Or.inr (Or.inr ⟨rfl, rfl, rfl⟩)))) (hb hby d3_43) hr
        · show Q_ofc Z a0 kk z0 vs dv b0 b1 b2 b3 b4 b5 b6 b7 v0 r_TIMESTAMPED r_NUMBERED h0 n0 _ T21.heap _
          rw [e21]
          exact ⟨by simp [own_of, hc4, hc10, hc22], N21, rfl⟩
theorem d2_0 : decode prog_52_method_2_code 0 = .ok (.bipush 8, 2) := by decide +kernel
theorem d2_2 : decode prog_52_method_2_code 2 = .ok (.aload_n 2, 1) := by decide +kernel
theorem d2_3 : decode prog_52_method_2_code 3 = .ok (.arraylength, 1) := by decide +kernel
theorem d2_4 : decode prog_52_method_2_code 4 = .ok (.iadd, 1) := by decide +kernel
theorem d2_5 : decode prog_52_method_2_code 5 = .ok (.newarray .byte, 2) := by decide +kernel
theorem d2_7 : decode prog_52_method_2_code 7 = .ok (.astore_n 3, 1) := by decide +kernel
theorem d2_8 : decode prog_52_method_2_code 8 = .ok (.aload_n 3, 1) := by decide +kernel
theorem d2_9 : decode prog_52_method_2_code 9 = .ok (.iconst 0, 1) := by decide +kernel
theorem d2_10 : decode prog_52_method_2_code 10 = .ok (.lload_n 0, 1) := by decide +kernel
theorem d2_11 : decode prog_52_method_2_code 11 = .ok (.bipush 56, 2) := by decide +kernel
theorem d2_13 : decode prog_52_method_2_code 13 = .ok (.lushr, 1) := by decide +kernel
theorem d2_14 : decode prog_52_method_2_code 14 = .ok (.l2i, 1) := by decide +kernel
theorem d2_15 : decode prog_52_method_2_code 15 = .ok (.i2b, 1) := by decide +kernel
theorem d2_16 : decode prog_52_method_2_code 16 = .ok (.bastore, 1) := by decide +kernel
theorem d2_17 : decode prog_52_method_2_code 17 = .ok (.aload_n 3, 1) := by decide +kernel
theorem d2_18 : decode prog_52_method_2_code 18 = .ok (.iconst 1, 1) := by decide +kernel
theorem d2_19 : decode prog_52_method_2_code 19 = .ok (.lload_n 0, 1) := by decide +kernel
theorem d2_20 : decode prog_52_method_2_code 20 = .ok (.bipush 48, 2) := by decide +kernel
theorem d2_22 : decode prog_52_method_2_code 22 = .ok (.lushr, 1) := by decide +kernel
theorem d2_23 : decode prog_52_method_2_code 23 = .ok (.l2i, 1) := by decide +kernel
theorem d2_24 : decode prog_52_method_2_code 24 = .ok (.i2b, 1) := by decide +kernel
theorem d2_25 : decode prog_52_method_2_code 25 = .ok (.bastore, 1) := by decide +kernel
theorem d2_26 : decode prog_52_method_2_code 26 = .ok (.aload_n 3, 1) := by decide +kernel
theorem d2_27 : decode prog_52_method_2_code 27 = .ok (.iconst 2, 1) := by decide +kernel
theorem d2_28 : decode prog_52_method_2_code 28 = .ok (.lload_n 0, 1) := by decide +kernel
theorem d2_29 : decode prog_52_method_2_code 29 = .ok (.bipush 40, 2) := by decide +kernel
theorem d2_31 : decode prog_52_method_2_code 31 = .ok (.lushr, 1) := by decide +kernel
theorem d2_32 : decode prog_52_method_2_code 32 = .ok (.l2i, 1) := by decide +kernel
theorem d2_33 : decode prog_52_method_2_code 33 = .ok (.i2b, 1) := by decide +kernel
theorem d2_34 : decode prog_52_method_2_code 34 = .ok (.bastore, 1) := by decide +kernel
theorem d2_35 : decode prog_52_method_2_code 35 = .ok (.aload_n 3, 1) := by decide +kernel
theorem d2_36 : decode prog_52_method_2_code 36 = .ok (.iconst 3, 1) := by decide +kernel
theorem d2_37 : decode prog_52_method_2_code 37 = .ok (.lload_n 0, 1) := by decide +kernel
theorem d2_38 : decode prog_52_method_2_code 38 = .ok (.bipush 32, 2) := by decide +kernel
theorem d2_40 : decode prog_52_method_2_code 40 = .ok (.lushr, 1) := by decide +kernel
theorem d2_41 : decode prog_52_method_2_code 41 = .ok (.l2i, 1) := by decide +kernel
theorem d2_42 : decode prog_52_method_2_code 42 = .ok (.i2b, 1) := by decide +kernel
theorem d2_43 : decode prog_52_method_2_code 43 = .ok (.bastore, 1) := by decide +kernel
theorem d2_44 : decode prog_52_method_2_code 44 = .ok (.aload_n 3, 1) := by decide +kernel
theorem d2_45 : decode prog_52_method_2_code 45 = .ok (.iconst 4, 1) := by decide +kernel
theorem d2_46 : decode prog_52_method_2_code 46 = .ok (.lload_n 0, 1) := by decide +kernel
theorem d2_47 : decode prog_52_method_2_code 47 = .ok (.bipush 24, 2) := by decide +kernel
theorem d2_49 : decode prog_52_method_2_code 49 = .ok (.lushr, 1) := by decide +kernel
theorem d2_50 : decode prog_52_method_2_code 50 = .ok (.l2i, 1) := by decide +kernel
theorem d2_51 : decode prog_52_method_2_code 51 = .ok (.i2b, 1) := by decide +kernel
theorem d2_52 : decode prog_52_method_2_code 52 = .ok (.bastore, 1) := by decide +kernel
theorem d2_53 : decode prog_52_method_2_code 53 = .ok (.aload_n 3, 1) := by decide +kernel
theorem d2_54 : decode prog_52_method_2_code 54 = .ok (.iconst 5, 1) := by decide +kernel
theorem d2_55 : decode prog_52_method_2_code 55 = .ok (.lload_n 0, 1) := by decide +kernel
theorem d2_56 : decode prog_52_method_2_code 56 = .ok (.bipush 16, 2) := by decide +kernel
theorem d2_58 : decode prog_52_method_2_code 58 = .ok (.lushr, 1) := by decide +kernel
theorem d2_59 : decode prog_52_method_2_code 59 = .ok (.l2i, 1) := by decide +kernel
theorem d2_60 : decode prog_52_method_2_code 60 = .ok (.i2b, 1) := by decide +kernel
theorem d2_61 : decode prog_52_method_2_code 61 = .ok (.bastore, 1) := by decide +kernel
theorem d2_62 : decode prog_52_method_2_code 62 = .ok (.aload_n 3, 1) := by decide +kernel
theorem d2_63 : decode prog_52_method_2_code 63 = .ok (.bipush 6, 2) := by decide +kernel
theorem d2_65 : decode prog_52_method_2_code 65 = .ok (.lload_n 0, 1) := by decide +kernel
theorem d2_66 : decode prog_52_method_2_code 66 = .ok (.bipush 8, 2) := by decide +kernel
theorem d2_68 : decode prog_52_method_2_code 68 = .ok (.lushr, 1) := by decide +kernel
theorem d2_69 : decode prog_52_method_2_code 69 = .ok (.l2i, 1) := by decide +kernel
theorem d2_70 : decode prog_52_method_2_code 70 = .ok (.i2b, 1) := by decide +kernel
theorem d2_71 : decode prog_52_method_2_code 71 = .ok (.bastore, 1) := by decide +kernel
theorem d2_72 : decode prog_52_method_2_code 72 = .ok (.aload_n 3, 1) := by decide +kernel
theorem d2_73 : decode prog_52_method_2_code 73 = .ok (.bipush 7, 2) := by decide +kernel
theorem d2_75 : decode prog_52_method_2_code 75 = .ok (.lload_n 0, 1) := by decide +kernel
theorem d2_76 : decode prog_52_method_2_code 76 = .ok (.l2i, 1) := by decide +kernel
theorem d2_77 : decode prog_52_method_2_code 77 = .ok (.i2b, 1) := by decide +kernel
theorem d2_78 : decode prog_52_method_2_code 78 = .ok (.bastore, 1) := by decide +kernel
theorem d2_79 : decode prog_52_method_2_code 79 = .ok (.aload_n 2, 1) := by decide +kernel
theorem d2_80 : decode prog_52_method_2_code 80 = .ok (.iconst 0, 1) := by decide +kernel
theorem d2_81 : decode prog_52_method_2_code 81 = .ok (.aload_n 3, 1) := by decide +kernel
theorem d2_82 : decode prog_52_method_2_code 82 = .ok (.bipush 8, 2) := by decide +kernel
theorem d2_84 : decode prog_52_method_2_code 84 = .ok (.aload_n 2, 1) := by decide +kernel
theorem d2_85 : decode prog_52_method_2_code 85 = .ok (.arraylength, 1) := by decide +kernel
theorem d2_86 : decode prog_52_method_2_code 86 = .ok (.invokestatic 9, 3) := by decide +kernel
theorem d2_89 : decode prog_52_method_2_code 89 = .ok (.aload_n 3, 1) := by decide +kernel
theorem d2_90 : decode prog_52_method_2_code 90 = .ok (.areturn, 1) := by decide +kernel
theorem pn_pre : plainName "com/example/fence/fence/util/BigEndian" = true := by first | (simp [plainName, overriddenIn]; done) | decide +kernel
theorem ef_pre (m : MethodId) (q0 : Int64) (a1 : Addr) : entryFrame m #[(.long q0), (.ref a1)] 4 = mkF m 0 #[.val (.long q0), .second, .val (.ref a1), .unset] [] := by first | (simp [entryFrame, mkF, argsToLocals, Value.category]; done) | rfl
def Q_pre (Z : State) (q0 : Int64) (a1 : Addr) (kk : ClassId) (z0 : Int32) (vs : List Value) (dv : Value) (h0 : Heap) (n0 : Nat) (v : Option Value) (h : Heap) (L : List Loc) : Prop := ∃ b k ws, v = some (.ref b) ∧ Fr n0 L ∧ Keep h0 h [] ∧ n0 ≤ b ∧ h0.size ≤ b ∧ Arv Z h b k .byte ((8 : Int32) + z0) ([(.int (own_b8 (own_sh q0 56))), (.int (own_b8 (own_sh q0 48))), (.int (own_b8 (own_sh q0 40))), (.int (own_b8 (own_sh q0 32))), (.int (own_b8 (own_sh q0 24))), (.int (own_b8 (own_sh q0 16))), (.int (own_b8 (own_sh q0 8))), (.int (own_b8 q0))] ++ ws) (.int (0 : Int32))
set_option maxRecDepth 65536 in
set_option maxHeartbeats 40000000 in
theorem rm_pre (l : Launch) (Z : State) (av0 : Array Value) (hw : ∀ d ∈ tables_1, d.before av0 Z = true) (ws : List Jvm.Cond) (q0 : Int64) (a1 : Addr) (kk : ClassId) (z0 : Int32) (vs : List Value) (dv : Value) (h0 : Heap) (n0 : Nat) (Z0 : n0 ≤ h0.size) (V0 : Arv Z h0 a1 kk .byte z0 vs dv) (hz0 : 0 ≤ z0.toInt) (hz1 : z0.toInt ≤ 23) :
    MetFree l (⟨"com/example/fence/fence/util/BigEndian", "prefixed", "(J[B)[B"⟩ : MethodName) (head1 (Jvm.Cond.code (⟨"com/example/fence/fence/util/BigEndian", "prefixed", "(J[B)[B"⟩ : MethodName) prog_52_method_2_code 4 (some (.array .byte)) :: ws) ({ frames := 1, cells := 1, slots := 31, locals := 40 } : Room)) (fun a U => a = #[(.long q0), (.ref a1)] ∧ Z.Warmed39 U.vm ∧ U.heap = h0) (fun _ _ _ _ _ => True) (fun _ U o U' => ∃ v L, o = .returned v ∧ Q_pre Z q0 a1 kk z0 vs dv h0 n0 v U'.heap L ∧ FrameEnd U o U' L ({ frames := 1, cells := 1, slots := 31, locals := 40 } : Room).cells ({ frames := 1, cells := 1, slots := 31, locals := 40 } : Room).slots) := by
  refine MetFree.of_bodySF (plainFor_of_name pn_pre) hisR ?_
  intro p e s m args below meth c s₁ Bd hml0 hP hK
  obtain ⟨rfl, hZ, hh⟩ := hP
  have hx := Bd.exec
  have hby := Bd.bytes
  have hml : c.maxLocals = 4 := hml0
  have hown : s.vm.findClass "com/example/fence/fence/util/BigEndian" = some m.cls := findClass_of_methodNamed Bd.named
  have hnm := (name_of_methodNamed Bd.named Bd.method).1
  have X0 : Stand p l e ({ frames := 1, cells := 1, slots := 31, locals := 40 } : Room) s m #[(.long q0), (.ref a1)] below meth c s₁ [] 0 0 := Stand.of_body Bd
  have e0 : s₁.heap = h0 := by rw [← hh, Bd.state]; rfl
  have N0 := Fr.nil n0
  have pre0 : Go p.tables e below (s₁.setTop (entryFrame m #[(.long q0), (.ref a1)] 4)) s₁ (mkF m 0 #[.val (.long q0), .second, .val (.ref a1), .unset] []) := fun t k => castTop (ef_pre m q0 a1) k
  have K0 : Keep h0 h0 [] := Keep.refl _ _
  have pre1 : Go p.tables e below (s₁.setTop (entryFrame m #[(.long q0), (.ref a1)] 4)) s₁ (mkF m 3 #[.val (.long q0), .second, .val (.ref a1), .unset] [(.ref a1), (.int (8 : Int32))]) := fun t k => pre0 t (by
      refine XS.bipush X0.here hx rfl (hb hby d2_0) ?_
      show Steps p.tables e below (s₁.setTop (mkF m 2 #[.val (.long q0), .second, .val (.ref a1), .unset] [(.int (8 : Int32))])) _
      refine XS.aloadN X0.here hx rfl (hb hby d2_2) rfl rfl ?_
      exact k)
  obtain ⟨c2, Ar2, q2, S2, M2, H2, G2⟩ := (id V0)
  have pre2 : Go p.tables e below (s₁.setTop (entryFrame m #[(.long q0), (.ref a1)] 4)) s₁ (mkF m 4 #[.val (.long q0), .second, .val (.ref a1), .unset] [(.int z0), (.int (8 : Int32))]) := fun t k => pre1 t (X0.arraylength hx (by rw [e0]; exact Ar2.1) (State.isArrayOf_alike hZ.alike Ar2.2.1) (g := (mkF m 3 #[.val (.long q0), .second, .val (.ref a1), .unset] [(.ref a1), (.int (8 : Int32))])) rfl rfl (hb hby d2_3) _ (by rw [len_of S2 M2]; exact k))
  have pre3 : Go p.tables e below (s₁.setTop (entryFrame m #[(.long q0), (.ref a1)] 4)) s₁ (mkF m 5 #[.val (.long q0), .second, .val (.ref a1), .unset] [(.int ((8 : Int32) + z0))]) := fun t k => pre2 t (by
      refine XS.iadd X0.here hx rfl (hb hby d2_4) rfl ?_
      exact k)
  obtain ⟨T4, h4, k4, X4, e4, E4, A4, st4⟩ := newP X0 hx hZ (hw _ (List.mem_of_getElem? (i := 0) rfl)) e0 (g := (mkF m 5 #[.val (.long q0), .second, .val (.ref a1), .unset] [(.int ((8 : Int32) + z0))])) rfl (hb hby d2_5) rfl (own_len8 z0 hz0 hz1).1 (cap := 31) (own_len8 z0 hz0 hz1).2.1 (by decide) (by decide) (by decide)
  obtain ⟨b4, ga4⟩ : ∃ z, z = h0.size := ⟨_, rfl⟩
  rw [← ga4] at A4 st4
  have ne5 : a1 ≠ b4 := Nat.ne_of_lt (Nat.lt_of_lt_of_le V0.lt (Nat.le_of_eq ga4.symm))
  have g6 : n0 ≤ b4 := Nat.le_trans Z0 (Nat.le_of_eq ga4.symm)
  have sz7 : h0.size ≤ b4 := Nat.le_trans K0.1 (Nat.le_of_eq ga4.symm)
  have f8 : n0 ≤ h4.size := Nat.le_trans Z0 E4.1
  have f9 : Arv Z h4 a1 kk .byte z0 vs dv := V0.ext E4
  have f10 : Keep h0 h4 [] := K0.ext E4
  have f11 : Arv Z h4 b4 k4 .byte ((8 : Int32) + z0) [] (.int (0 : Int32)) := Arv.new A4 (own_len8 z0 hz0 hz1).1
  have pre4 : Go p.tables e below (s₁.setTop (entryFrame m #[(.long q0), (.ref a1)] 4)) T4 (mkF m 7 #[.val (.long q0), .second, .val (.ref a1), .unset] [(.ref b4)]) := fun t k => pre3 t (st4 _ k)
  have fp12 : Arv Z h4 b4 k4 .byte ((8 : Int32) + z0) [(.int (0 : Int32)), (.int (0 : Int32)), (.int (0 : Int32)), (.int (0 : Int32)), (.int (0 : Int32)), (.int (0 : Int32)), (.int (0 : Int32)), (.int (0 : Int32))] (.int (0 : Int32)) := f11.pad (pad_rep [] (.int (0 : Int32)) 8)
  have pre13 : Go p.tables e below (s₁.setTop (entryFrame m #[(.long q0), (.ref a1)] 4)) T4 (mkF m 16 #[.val (.long q0), .second, .val (.ref a1), .val (.ref b4)] [(.int ((((q0.toUInt64 >>> ((56 : Int32) &&& 0x3f).toInt64.toUInt64).toInt64).toInt32).toInt8.toInt32)), (.int (0 : Int32)), (.ref b4)]) := fun t k => pre4 t (by
      refine XS.astoreN X4.here hx rfl (hb hby d2_7) rfl rfl (l' := #[.val (.long q0), .second, .val (.ref a1), .val (.ref b4)]) rfl ?_
      show Steps p.tables e below (T4.setTop (mkF m 8 #[.val (.long q0), .second, .val (.ref a1), .val (.ref b4)] [])) _
      refine XS.aloadN X4.here hx rfl (hb hby d2_8) rfl rfl ?_
      show Steps p.tables e below (T4.setTop (mkF m 9 #[.val (.long q0), .second, .val (.ref a1), .val (.ref b4)] [(.ref b4)])) _
      refine XS.iconst X4.here hx rfl (hb hby d2_9) ?_
      show Steps p.tables e below (T4.setTop (mkF m 10 #[.val (.long q0), .second, .val (.ref a1), .val (.ref b4)] [(.int (0 : Int32)), (.ref b4)])) _
      refine XS.lloadN X4.here hx rfl (hb hby d2_10) rfl ?_
      show Steps p.tables e below (T4.setTop (mkF m 11 #[.val (.long q0), .second, .val (.ref a1), .val (.ref b4)] [(.long q0), (.int (0 : Int32)), (.ref b4)])) _
      refine XS.bipush X4.here hx rfl (hb hby d2_11) ?_
      show Steps p.tables e below (T4.setTop (mkF m 13 #[.val (.long q0), .second, .val (.ref a1), .val (.ref b4)] [(.int (56 : Int32)), (.long q0), (.int (0 : Int32)), (.ref b4)])) _
      refine XS.lushr X4.here hx rfl (hb hby d2_13) rfl ?_
      show Steps p.tables e below (T4.setTop (mkF m 14 #[.val (.long q0), .second, .val (.ref a1), .val (.ref b4)] [(.long ((q0.toUInt64 >>> ((56 : Int32) &&& 0x3f).toInt64.toUInt64).toInt64)), (.int (0 : Int32)), (.ref b4)])) _
      refine XS.l2i X4.here hx rfl (hb hby d2_14) rfl ?_
      show Steps p.tables e below (T4.setTop (mkF m 15 #[.val (.long q0), .second, .val (.ref a1), .val (.ref b4)] [(.int (((q0.toUInt64 >>> ((56 : Int32) &&& 0x3f).toInt64.toUInt64).toInt64).toInt32)), (.int (0 : Int32)), (.ref b4)])) _
      refine XS.i2b X4.here hx rfl (hb hby d2_15) rfl ?_
      exact k)
  obtain ⟨c14, Ar14, q14, S14, M14, H14, G14⟩ := (id fp12)
  have hin14 : ¬ ((0 : Int32) < 0 ∨ c14.slots.size ≤ ((0 : Int32)).toNatClampNeg) := inb_of S14 ⟨by decide, own_lt8 z0 hz0 hz1 (by decide)⟩
  obtain ⟨T14, h14, X14, e14, W14, st14⟩ := stB X4 hx hZ e4 Ar14 (j := (0 : Int32)) hin14 (g := (mkF m 16 #[.val (.long q0), .second, .val (.ref a1), .val (.ref b4)] [(.int ((((q0.toUInt64 >>> ((56 : Int32) &&& 0x3f).toInt64.toUInt64).toInt64).toInt32).toInt8.toInt32)), (.int (0 : Int32)), (.ref b4)])) rfl rfl (hb hby d2_16)
  have fa14 : Arv Z h14 b4 k4 .byte ((8 : Int32) + z0) [(.int (nar .byte ((((q0.toUInt64 >>> ((56 : Int32) &&& 0x3f).toInt64.toUInt64).toInt64).toInt32).toInt8.toInt32))), (.int (0 : Int32)), (.int (0 : Int32)), (.int (0 : Int32)), (.int (0 : Int32)), (.int (0 : Int32)), (.int (0 : Int32)), (.int (0 : Int32))] (.int (0 : Int32)) := Arv.set Ar14 q14 S14 M14 H14 G14 (fits_nar_byte _) W14 0 rfl (Nat.le_of_ble_eq_true rfl)
  have N14 := Fr.snoc X14 N0 g6
  have f15 : n0 ≤ h14.size := Nat.le_trans f8 (Keep.of_wr W14).1
  have f16 : Arv Z h14 a1 kk .byte z0 vs dv := f9.other W14 ne5
  have f17 : Keep h0 h14 [] := f10.wr W14 (Or.inr sz7)
  have pre14 : Go p.tables e below (s₁.setTop (entryFrame m #[(.long q0), (.ref a1)] 4)) T14 (mkF m 17 #[.val (.long q0), .second, .val (.ref a1), .val (.ref b4)] []) := fun t k => pre13 t (st14 _ k)
  have pre18 : Go p.tables e below (s₁.setTop (entryFrame m #[(.long q0), (.ref a1)] 4)) T14 (mkF m 25 #[.val (.long q0), .second, .val (.ref a1), .val (.ref b4)] [(.int ((((q0.toUInt64 >>> ((48 : Int32) &&& 0x3f).toInt64.toUInt64).toInt64).toInt32).toInt8.toInt32)), (.int (1 : Int32)), (.ref b4)]) := fun t k => pre14 t (by
      refine XS.aloadN X14.here hx rfl (hb hby d2_17) rfl rfl ?_
      show Steps p.tables e below (T14.setTop (mkF m 18 #[.val (.long q0), .second, .val (.ref a1), .val (.ref b4)] [(.ref b4)])) _
      refine XS.iconst X14.here hx rfl (hb hby d2_18) ?_
      show Steps p.tables e below (T14.setTop (mkF m 19 #[.val (.long q0), .second, .val (.ref a1), .val (.ref b4)] [(.int (1 : Int32)), (.ref b4)])) _
      refine XS.lloadN X14.here hx rfl (hb hby d2_19) rfl ?_
      show Steps p.tables e below (T14.setTop (mkF m 20 #[.val (.long q0), .second, .val (.ref a1), .val (.ref b4)] [(.long q0), (.int (1 : Int32)), (.ref b4)])) _
      refine XS.bipush X14.here hx rfl (hb hby d2_20) ?_
      show Steps p.tables e below (T14.setTop (mkF m 22 #[.val (.long q0), .second, .val (.ref a1), .val (.ref b4)] [(.int (48 : Int32)), (.long q0), (.int (1 : Int32)), (.ref b4)])) _
      refine XS.lushr X14.here hx rfl (hb hby d2_22) rfl ?_
      show Steps p.tables e below (T14.setTop (mkF m 23 #[.val (.long q0), .second, .val (.ref a1), .val (.ref b4)] [(.long ((q0.toUInt64 >>> ((48 : Int32) &&& 0x3f).toInt64.toUInt64).toInt64)), (.int (1 : Int32)), (.ref b4)])) _
      refine XS.l2i X14.here hx rfl (hb hby d2_23) rfl ?_
      show Steps p.tables e below (T14.setTop (mkF m 24 #[.val (.long q0), .second, .val (.ref a1), .val (.ref b4)] [(.int (((q0.toUInt64 >>> ((48 : Int32) &&& 0x3f).toInt64.toUInt64).toInt64).toInt32)), (.int (1 : Int32)), (.ref b4)])) _
      refine XS.i2b X14.here hx rfl (hb hby d2_24) rfl ?_
      exact k)
  obtain ⟨c19, Ar19, q19, S19, M19, H19, G19⟩ := (id fa14)
  have hin19 : ¬ ((1 : Int32) < 0 ∨ c19.slots.size ≤ ((1 : Int32)).toNatClampNeg) := inb_of S19 ⟨by decide, own_lt8 z0 hz0 hz1 (by decide)⟩
  obtain ⟨T19, h19, X19, e19, W19, st19⟩ := stB X14 hx hZ e14 Ar19 (j := (1 : Int32)) hin19 (g := (mkF m 25 #[.val (.long q0), .second, .val (.ref a1), .val (.ref b4)] [(.int ((((q0.toUInt64 >>> ((48 : Int32) &&& 0x3f).toInt64.toUInt64).toInt64).toInt32).toInt8.toInt32)), (.int (1 : Int32)), (.ref b4)])) rfl rfl (hb hby d2_25)
  have fa19 : Arv Z h19 b4 k4 .byte ((8 : Int32) + z0) [(.int (nar .byte ((((q0.toUInt64 >>> ((56 : Int32) &&& 0x3f).toInt64.toUInt64).toInt64).toInt32).toInt8.toInt32))), (.int (nar .byte ((((q0.toUInt64 >>> ((48 : Int32) &&& 0x3f).toInt64.toUInt64).toInt64).toInt32).toInt8.toInt32))), (.int (0 : Int32)), (.int (0 : Int32)), (.int (0 : Int32)), (.int (0 : Int32)), (.int (0 : Int32)), (.int (0 : Int32))] (.int (0 : Int32)) := Arv.set Ar19 q19 S19 M19 H19 G19 (fits_nar_byte _) W19 1 rfl (Nat.le_of_ble_eq_true rfl)
  have N19 := Fr.snoc X19 N14 g6
  have f20 : n0 ≤ h19.size := Nat.le_trans f15 (Keep.of_wr W19).1
  have f21 : Arv Z h19 a1 kk .byte z0 vs dv := f16.other W19 ne5
  have f22 : Keep h0 h19 [] := f17.wr W19 (Or.inr sz7)
  have pre19 : Go p.tables e below (s₁.setTop (entryFrame m #[(.long q0), (.ref a1)] 4)) T19 (mkF m 26 #[.val (.long q0), .second, .val (.ref a1), .val (.ref b4)] []) := fun t k => pre18 t (st19 _ k)
  have pre23 : Go p.tables e below (s₁.setTop (entryFrame m #[(.long q0), (.ref a1)] 4)) T19 (mkF m 34 #[.val (.long q0), .second, .val (.ref a1), .val (.ref b4)] [(.int ((((q0.toUInt64 >>> ((40 : Int32) &&& 0x3f).toInt64.toUInt64).toInt64).toInt32).toInt8.toInt32)), (.int (2 : Int32)), (.ref b4)]) := fun t k => pre19 t (by
      refine XS.aloadN X19.here hx rfl (hb hby d2_26) rfl rfl ?_
      show Steps p.tables e below (T19.setTop (mkF m 27 #[.val (.long q0), .second, .val (.ref a1), .val (.ref b4)] [(.ref b4)])) _
      refine XS.iconst X19.here hx rfl (hb hby d2_27) ?_
      show Steps p.tables e below (T19.setTop (mkF m 28 #[.val (.long q0), .second, .val (.ref a1), .val (.ref b4)] [(.int (2 : Int32)), (.ref b4)])) _
      refine XS.lloadN X19.here hx rfl (hb hby d2_28) rfl ?_
      show Steps p.tables e below (T19.setTop (mkF m 29 #[.val (.long q0), .second, .val (.ref a1), .val (.ref b4)] [(.long q0), (.int (2 : Int32)), (.ref b4)])) _
      refine XS.bipush X19.here hx rfl (hb hby d2_29) ?_
      show Steps p.tables e below (T19.setTop (mkF m 31 #[.val (.long q0), .second, .val (.ref a1), .val (.ref b4)] [(.int (40 : Int32)), (.long q0), (.int (2 : Int32)), (.ref b4)])) _
      refine XS.lushr X19.here hx rfl (hb hby d2_31) rfl ?_
      show Steps p.tables e below (T19.setTop (mkF m 32 #[.val (.long q0), .second, .val (.ref a1), .val (.ref b4)] [(.long ((q0.toUInt64 >>> ((40 : Int32) &&& 0x3f).toInt64.toUInt64).toInt64)), (.int (2 : Int32)), (.ref b4)])) _
      refine XS.l2i X19.here hx rfl (hb hby d2_32) rfl ?_
      show Steps p.tables e below (T19.setTop (mkF m 33 #[.val (.long q0), .second, .val (.ref a1), .val (.ref b4)] [(.int (((q0.toUInt64 >>> ((40 : Int32) &&& 0x3f).toInt64.toUInt64).toInt64).toInt32)), (.int (2 : Int32)), (.ref b4)])) _
      refine XS.i2b X19.here hx rfl (hb hby d2_33) rfl ?_
      exact k)
  obtain ⟨c24, Ar24, q24, S24, M24, H24, G24⟩ := (id fa19)
  have hin24 : ¬ ((2 : Int32) < 0 ∨ c24.slots.size ≤ ((2 : Int32)).toNatClampNeg) := inb_of S24 ⟨by decide, own_lt8 z0 hz0 hz1 (by decide)⟩
  obtain ⟨T24, h24, X24, e24, W24, st24⟩ := stB X19 hx hZ e19 Ar24 (j := (2 : Int32)) hin24 (g := (mkF m 34 #[.val (.long q0), .second, .val (.ref a1), .val (.ref b4)] [(.int ((((q0.toUInt64 >>> ((40 : Int32) &&& 0x3f).toInt64.toUInt64).toInt64).toInt32).toInt8.toInt32)), (.int (2 : Int32)), (.ref b4)])) rfl rfl (hb hby d2_34)
  have fa24 : Arv Z h24 b4 k4 .byte ((8 : Int32) + z0) [(.int (nar .byte ((((q0.toUInt64 >>> ((56 : Int32) &&& 0x3f).toInt64.toUInt64).toInt64).toInt32).toInt8.toInt32))), (.int (nar .byte ((((q0.toUInt64 >>> ((48 : Int32) &&& 0x3f).toInt64.toUInt64).toInt64).toInt32).toInt8.toInt32))), (.int (nar .byte ((((q0.toUInt64 >>> ((40 : Int32) &&& 0x3f).toInt64.toUInt64).toInt64).toInt32).toInt8.toInt32))), (.int (0 : Int32)), (.int (0 : Int32)), (.int (0 : Int32)), (.int (0 : Int32)), (.int (0 : Int32))] (.int (0 : Int32)) := Arv.set Ar24 q24 S24 M24 H24 G24 (fits_nar_byte _) W24 2 rfl (Nat.le_of_ble_eq_true rfl)
  have N24 := Fr.snoc X24 N19 g6
  have f25 : n0 ≤ h24.size := Nat.le_trans f20 (Keep.of_wr W24).1
  have f26 : Arv Z h24 a1 kk .byte z0 vs dv := f21.other W24 ne5
  have f27 : Keep h0 h24 [] := f22.wr W24 (Or.inr sz7)
  have pre24 : Go p.tables e below (s₁.setTop (entryFrame m #[(.long q0), (.ref a1)] 4)) T24 (mkF m 35 #[.val (.long q0), .second, .val (.ref a1), .val (.ref b4)] []) := fun t k => pre23 t (st24 _ k)
  have pre28 : Go p.tables e below (s₁.setTop (entryFrame m #[(.long q0), (.ref a1)] 4)) T24 (mkF m 43 #[.val (.long q0), .second, .val (.ref a1), .val (.ref b4)] [(.int ((((q0.toUInt64 >>> ((32 : Int32) &&& 0x3f).toInt64.toUInt64).toInt64).toInt32).toInt8.toInt32)), (.int (3 : Int32)), (.ref b4)]) := fun t k => pre24 t (by
      refine XS.aloadN X24.here hx rfl (hb hby d2_35) rfl rfl ?_
      show Steps p.tables e below (T24.setTop (mkF m 36 #[.val (.long q0), .second, .val (.ref a1), .val (.ref b4)] [(.ref b4)])) _
      refine XS.iconst X24.here hx rfl (hb hby d2_36) ?_
      show Steps p.tables e below (T24.setTop (mkF m 37 #[.val (.long q0), .second, .val (.ref a1), .val (.ref b4)] [(.int (3 : Int32)), (.ref b4)])) _
      refine XS.lloadN X24.here hx rfl (hb hby d2_37) rfl ?_
      show Steps p.tables e below (T24.setTop (mkF m 38 #[.val (.long q0), .second, .val (.ref a1), .val (.ref b4)] [(.long q0), (.int (3 : Int32)), (.ref b4)])) _
      refine XS.bipush X24.here hx rfl (hb hby d2_38) ?_
      show Steps p.tables e below (T24.setTop (mkF m 40 #[.val (.long q0), .second, .val (.ref a1), .val (.ref b4)] [(.int (32 : Int32)), (.long q0), (.int (3 : Int32)), (.ref b4)])) _
      refine XS.lushr X24.here hx rfl (hb hby d2_40) rfl ?_
      show Steps p.tables e below (T24.setTop (mkF m 41 #[.val (.long q0), .second, .val (.ref a1), .val (.ref b4)] [(.long ((q0.toUInt64 >>> ((32 : Int32) &&& 0x3f).toInt64.toUInt64).toInt64)), (.int (3 : Int32)), (.ref b4)])) _
      refine XS.l2i X24.here hx rfl (hb hby d2_41) rfl ?_
      show Steps p.tables e below (T24.setTop (mkF m 42 #[.val (.long q0), .second, .val (.ref a1), .val (.ref b4)] [(.int (((q0.toUInt64 >>> ((32 : Int32) &&& 0x3f).toInt64.toUInt64).toInt64).toInt32)), (.int (3 : Int32)), (.ref b4)])) _
      refine XS.i2b X24.here hx rfl (hb hby d2_42) rfl ?_
      exact k)
  obtain ⟨c29, Ar29, q29, S29, M29, H29, G29⟩ := (id fa24)
  have hin29 : ¬ ((3 : Int32) < 0 ∨ c29.slots.size ≤ ((3 : Int32)).toNatClampNeg) := inb_of S29 ⟨by decide, own_lt8 z0 hz0 hz1 (by decide)⟩
  obtain ⟨T29, h29, X29, e29, W29, st29⟩ := stB X24 hx hZ e24 Ar29 (j := (3 : Int32)) hin29 (g := (mkF m 43 #[.val (.long q0), .second, .val (.ref a1), .val (.ref b4)] [(.int ((((q0.toUInt64 >>> ((32 : Int32) &&& 0x3f).toInt64.toUInt64).toInt64).toInt32).toInt8.toInt32)), (.int (3 : Int32)), (.ref b4)])) rfl rfl (hb hby d2_43)
  have fa29 : Arv Z h29 b4 k4 .byte ((8 : Int32) + z0) [(.int (nar .byte ((((q0.toUInt64 >>> ((56 : Int32) &&& 0x3f).toInt64.toUInt64).toInt64).toInt32).toInt8.toInt32))), (.int (nar .byte ((((q0.toUInt64 >>> ((48 : Int32) &&& 0x3f).toInt64.toUInt64).toInt64).toInt32).toInt8.toInt32))), (.int (nar .byte ((((q0.toUInt64 >>> ((40 : Int32) &&& 0x3f).toInt64.toUInt64).toInt64).toInt32).toInt8.toInt32))), (.int (nar .byte ((((q0.toUInt64 >>> ((32 : Int32) &&& 0x3f).toInt64.toUInt64).toInt64).toInt32).toInt8.toInt32))), (.int (0 : Int32)), (.int (0 : Int32)), (.int (0 : Int32)), (.int (0 : Int32))] (.int (0 : Int32)) := Arv.set Ar29 q29 S29 M29 H29 G29 (fits_nar_byte _) W29 3 rfl (Nat.le_of_ble_eq_true rfl)
  have N29 := Fr.snoc X29 N24 g6
  have f30 : n0 ≤ h29.size := Nat.le_trans f25 (Keep.of_wr W29).1
  have f31 : Arv Z h29 a1 kk .byte z0 vs dv := f26.other W29 ne5
  have f32 : Keep h0 h29 [] := f27.wr W29 (Or.inr sz7)
  have pre29 : Go p.tables e below (s₁.setTop (entryFrame m #[(.long q0), (.ref a1)] 4)) T29 (mkF m 44 #[.val (.long q0), .second, .val (.ref a1), .val (.ref b4)] []) := fun t k => pre28 t (st29 _ k)
  have pre33 : Go p.tables e below (s₁.setTop (entryFrame m #[(.long q0), (.ref a1)] 4)) T29 (mkF m 52 #[.val (.long q0), .second, .val (.ref a1), .val (.ref b4)] [(.int ((((q0.toUInt64 >>> ((24 : Int32) &&& 0x3f).toInt64.toUInt64).toInt64).toInt32).toInt8.toInt32)), (.int (4 : Int32)), (.ref b4)]) := fun t k => pre29 t (by
      refine XS.aloadN X29.here hx rfl (hb hby d2_44) rfl rfl ?_
      show Steps p.tables e below (T29.setTop (mkF m 45 #[.val (.long q0), .second, .val (.ref a1), .val (.ref b4)] [(.ref b4)])) _
      refine XS.iconst X29.here hx rfl (hb hby d2_45) ?_
      show Steps p.tables e below (T29.setTop (mkF m 46 #[.val (.long q0), .second, .val (.ref a1), .val (.ref b4)] [(.int (4 : Int32)), (.ref b4)])) _
      refine XS.lloadN X29.here hx rfl (hb hby d2_46) rfl ?_
      show Steps p.tables e below (T29.setTop (mkF m 47 #[.val (.long q0), .second, .val (.ref a1), .val (.ref b4)] [(.long q0), (.int (4 : Int32)), (.ref b4)])) _
      refine XS.bipush X29.here hx rfl (hb hby d2_47) ?_
      show Steps p.tables e below (T29.setTop (mkF m 49 #[.val (.long q0), .second, .val (.ref a1), .val (.ref b4)] [(.int (24 : Int32)), (.long q0), (.int (4 : Int32)), (.ref b4)])) _
      refine XS.lushr X29.here hx rfl (hb hby d2_49) rfl ?_
      show Steps p.tables e below (T29.setTop (mkF m 50 #[.val (.long q0), .second, .val (.ref a1), .val (.ref b4)] [(.long ((q0.toUInt64 >>> ((24 : Int32) &&& 0x3f).toInt64.toUInt64).toInt64)), (.int (4 : Int32)), (.ref b4)])) _
      refine XS.l2i X29.here hx rfl (hb hby d2_50) rfl ?_
      show Steps p.tables e below (T29.setTop (mkF m 51 #[.val (.long q0), .second, .val (.ref a1), .val (.ref b4)] [(.int (((q0.toUInt64 >>> ((24 : Int32) &&& 0x3f).toInt64.toUInt64).toInt64).toInt32)), (.int (4 : Int32)), (.ref b4)])) _
      refine XS.i2b X29.here hx rfl (hb hby d2_51) rfl ?_
      exact k)
  obtain ⟨c34, Ar34, q34, S34, M34, H34, G34⟩ := (id fa29)
  have hin34 : ¬ ((4 : Int32) < 0 ∨ c34.slots.size ≤ ((4 : Int32)).toNatClampNeg) := inb_of S34 ⟨by decide, own_lt8 z0 hz0 hz1 (by decide)⟩
  obtain ⟨T34, h34, X34, e34, W34, st34⟩ := stB X29 hx hZ e29 Ar34 (j := (4 : Int32)) hin34 (g := (mkF m 52 #[.val (.long q0), .second, .val (.ref a1), .val (.ref b4)] [(.int ((((q0.toUInt64 >>> ((24 : Int32) &&& 0x3f).toInt64.toUInt64).toInt64).toInt32).toInt8.toInt32)), (.int (4 : Int32)), (.ref b4)])) rfl rfl (hb hby d2_52)
  have fa34 : Arv Z h34 b4 k4 .byte ((8 : Int32) + z0) [(.int (nar .byte ((((q0.toUInt64 >>> ((56 : Int32) &&& 0x3f).toInt64.toUInt64).toInt64).toInt32).toInt8.toInt32))), (.int (nar .byte ((((q0.toUInt64 >>> ((48 : Int32) &&& 0x3f).toInt64.toUInt64).toInt64).toInt32).toInt8.toInt32))), (.int (nar .byte ((((q0.toUInt64 >>> ((40 : Int32) &&& 0x3f).toInt64.toUInt64).toInt64).toInt32).toInt8.toInt32))), (.int (nar .byte ((((q0.toUInt64 >>> ((32 : Int32) &&& 0x3f).toInt64.toUInt64).toInt64).toInt32).toInt8.toInt32))), (.int (nar .byte ((((q0.toUInt64 >>> ((24 : Int32) &&& 0x3f).toInt64.toUInt64).toInt64).toInt32).toInt8.toInt32))), (.int (0 : Int32)), (.int (0 : Int32)), (.int (0 : Int32))] (.int (0 : Int32)) := Arv.set Ar34 q34 S34 M34 H34 G34 (fits_nar_byte _) W34 4 rfl (Nat.le_of_ble_eq_true rfl)
  have N34 := Fr.snoc X34 N29 g6
  have f35 : n0 ≤ h34.size := Nat.le_trans f30 (Keep.of_wr W34).1
  have f36 : Arv Z h34 a1 kk .byte z0 vs dv := f31.other W34 ne5
  have f37 : Keep h0 h34 [] := f32.wr W34 (Or.inr sz7)
  have pre34 : Go p.tables e below (s₁.setTop (entryFrame m #[(.long q0), (.ref a1)] 4)) T34 (mkF m 53 #[.val (.long q0), .second, .val (.ref a1), .val (.ref b4)] []) := fun t k => pre33 t (st34 _ k)
  have pre38 : Go p.tables e below (s₁.setTop (entryFrame m #[(.long q0), (.ref a1)] 4)) T34 (mkF m 61 #[.val (.long q0), .second, .val (.ref a1), .val (.ref b4)] [(.int ((((q0.toUInt64 >>> ((16 : Int32) &&& 0x3f).toInt64.toUInt64).toInt64).toInt32).toInt8.toInt32)), (.int (5 : Int32)), (.ref b4)]) := fun t k => pre34 t (by
      refine XS.aloadN X34.here hx rfl (hb hby d2_53) rfl rfl ?_
      show Steps p.tables e below (T34.setTop (mkF m 54 #[.val (.long q0), .second, .val (.ref a1), .val (.ref b4)] [(.ref b4)])) _
      refine XS.iconst X34.here hx rfl (hb hby d2_54) ?_
      show Steps p.tables e below (T34.setTop (mkF m 55 #[.val (.long q0), .second, .val (.ref a1), .val (.ref b4)] [(.int (5 : Int32)), (.ref b4)])) _
      refine XS.lloadN X34.here hx rfl (hb hby d2_55) rfl ?_
      show Steps p.tables e below (T34.setTop (mkF m 56 #[.val (.long q0), .second, .val (.ref a1), .val (.ref b4)] [(.long q0), (.int (5 : Int32)), (.ref b4)])) _
      refine XS.bipush X34.here hx rfl (hb hby d2_56) ?_
      show Steps p.tables e below (T34.setTop (mkF m 58 #[.val (.long q0), .second, .val (.ref a1), .val (.ref b4)] [(.int (16 : Int32)), (.long q0), (.int (5 : Int32)), (.ref b4)])) _
      refine XS.lushr X34.here hx rfl (hb hby d2_58) rfl ?_
      show Steps p.tables e below (T34.setTop (mkF m 59 #[.val (.long q0), .second, .val (.ref a1), .val (.ref b4)] [(.long ((q0.toUInt64 >>> ((16 : Int32) &&& 0x3f).toInt64.toUInt64).toInt64)), (.int (5 : Int32)), (.ref b4)])) _
      refine XS.l2i X34.here hx rfl (hb hby d2_59) rfl ?_
      show Steps p.tables e below (T34.setTop (mkF m 60 #[.val (.long q0), .second, .val (.ref a1), .val (.ref b4)] [(.int (((q0.toUInt64 >>> ((16 : Int32) &&& 0x3f).toInt64.toUInt64).toInt64).toInt32)), (.int (5 : Int32)), (.ref b4)])) _
      refine XS.i2b X34.here hx rfl (hb hby d2_60) rfl ?_
      exact k)
  obtain ⟨c39, Ar39, q39, S39, M39, H39, G39⟩ := (id fa34)
  have hin39 : ¬ ((5 : Int32) < 0 ∨ c39.slots.size ≤ ((5 : Int32)).toNatClampNeg) := inb_of S39 ⟨by decide, own_lt8 z0 hz0 hz1 (by decide)⟩
  obtain ⟨T39, h39, X39, e39, W39, st39⟩ := stB X34 hx hZ e34 Ar39 (j := (5 : Int32)) hin39 (g := (mkF m 61 #[.val (.long q0), .second, .val (.ref a1), .val (.ref b4)] [(.int ((((q0.toUInt64 >>> ((16 : Int32) &&& 0x3f).toInt64.toUInt64).toInt64).toInt32).toInt8.toInt32)), (.int (5 : Int32)), (.ref b4)])) rfl rfl (hb hby d2_61)
  have fa39 : Arv Z h39 b4 k4 .byte ((8 : Int32) + z0) [(.int (nar .byte ((((q0.toUInt64 >>> ((56 : Int32) &&& 0x3f).toInt64.toUInt64).toInt64).toInt32).toInt8.toInt32))), (.int (nar .byte ((((q0.toUInt64 >>> ((48 : Int32) &&& 0x3f).toInt64.toUInt64).toInt64).toInt32).toInt8.toInt32))), (.int (nar .byte ((((q0.toUInt64 >>> ((40 : Int32) &&& 0x3f).toInt64.toUInt64).toInt64).toInt32).toInt8.toInt32))), (.int (nar .byte ((((q0.toUInt64 >>> ((32 : Int32) &&& 0x3f).toInt64.toUInt64).toInt64).toInt32).toInt8.toInt32))), (.int (nar .byte ((((q0.toUInt64 >>> ((24 : Int32) &&& 0x3f).toInt64.toUInt64).toInt64).toInt32).toInt8.toInt32))), (.int (nar .byte ((((q0.toUInt64 >>> ((16 : Int32) &&& 0x3f).toInt64.toUInt64).toInt64).toInt32).toInt8.toInt32))), (.int (0 : Int32)), (.int (0 : Int32))] (.int (0 : Int32)) := Arv.set Ar39 q39 S39 M39 H39 G39 (fits_nar_byte _) W39 5 rfl (Nat.le_of_ble_eq_true rfl)
  have N39 := Fr.snoc X39 N34 g6
  have f40 : n0 ≤ h39.size := Nat.le_trans f35 (Keep.of_wr W39).1
  have f41 : Arv Z h39 a1 kk .byte z0 vs dv := f36.other W39 ne5
  have f42 : Keep h0 h39 [] := f37.wr W39 (Or.inr sz7)
  have pre39 : Go p.tables e below (s₁.setTop (entryFrame m #[(.long q0), (.ref a1)] 4)) T39 (mkF m 62 #[.val (.long q0), .second, .val (.ref a1), .val (.ref b4)] []) := fun t k => pre38 t (st39 _ k)
  have pre43 : Go p.tables e below (s₁.setTop (entryFrame m #[(.long q0), (.ref a1)] 4)) T39 (mkF m 71 #[.val (.long q0), .second, .val (.ref a1), .val (.ref b4)] [(.int ((((q0.toUInt64 >>> ((8 : Int32) &&& 0x3f).toInt64.toUInt64).toInt64).toInt32).toInt8.toInt32)), (.int (6 : Int32)), (.ref b4)]) := fun t k => pre39 t (by
      refine XS.aloadN X39.here hx rfl (hb hby d2_62) rfl rfl ?_
      show Steps p.tables e below (T39.setTop (mkF m 63 #[.val (.long q0), .second, .val (.ref a1), .val (.ref b4)] [(.ref b4)])) _
      refine XS.bipush X39.here hx rfl (hb hby d2_63) ?_
      show Steps p.tables e below (T39.setTop (mkF m 65 #[.val (.long q0), .second, .val (.ref a1), .val (.ref b4)] [(.int (6 : Int32)), (.ref b4)])) _
      refine XS.lloadN X39.here hx rfl (hb hby d2_65) rfl ?_
      show Steps p.tables e below (T39.setTop (mkF m 66 #[.val (.long q0), .second, .val (.ref a1), .val (.ref b4)] [(.long q0), (.int (6 : Int32)), (.ref b4)])) _
      refine XS.bipush X39.here hx rfl (hb hby d2_66) ?_
      show Steps p.tables e below (T39.setTop (mkF m 68 #[.val (.long q0), .second, .val (.ref a1), .val (.ref b4)] [(.int (8 : Int32)), (.long q0), (.int (6 : Int32)), (.ref b4)])) _
      refine XS.lushr X39.here hx rfl (hb hby d2_68) rfl ?_
      show Steps p.tables e below (T39.setTop (mkF m 69 #[.val (.long q0), .second, .val (.ref a1), .val (.ref b4)] [(.long ((q0.toUInt64 >>> ((8 : Int32) &&& 0x3f).toInt64.toUInt64).toInt64)), (.int (6 : Int32)), (.ref b4)])) _
      refine XS.l2i X39.here hx rfl (hb hby d2_69) rfl ?_
      show Steps p.tables e below (T39.setTop (mkF m 70 #[.val (.long q0), .second, .val (.ref a1), .val (.ref b4)] [(.int (((q0.toUInt64 >>> ((8 : Int32) &&& 0x3f).toInt64.toUInt64).toInt64).toInt32)), (.int (6 : Int32)), (.ref b4)])) _
      refine XS.i2b X39.here hx rfl (hb hby d2_70) rfl ?_
      exact k)
  obtain ⟨c44, Ar44, q44, S44, M44, H44, G44⟩ := (id fa39)
  have hin44 : ¬ ((6 : Int32) < 0 ∨ c44.slots.size ≤ ((6 : Int32)).toNatClampNeg) := inb_of S44 ⟨by decide, own_lt8 z0 hz0 hz1 (by decide)⟩
  obtain ⟨T44, h44, X44, e44, W44, st44⟩ := stB X39 hx hZ e39 Ar44 (j := (6 : Int32)) hin44 (g := (mkF m 71 #[.val (.long q0), .second, .val (.ref a1), .val (.ref b4)] [(.int ((((q0.toUInt64 >>> ((8 : Int32) &&& 0x3f).toInt64.toUInt64).toInt64).toInt32).toInt8.toInt32)), (.int (6 : Int32)), (.ref b4)])) rfl rfl (hb hby d2_71)
  have fa44 : Arv Z h44 b4 k4 .byte ((8 : Int32) + z0) [(.int (nar .byte ((((q0.toUInt64 >>> ((56 : Int32) &&& 0x3f).toInt64.toUInt64).toInt64).toInt32).toInt8.toInt32))), (.int (nar .byte ((((q0.toUInt64 >>> ((48 : Int32) &&& 0x3f).toInt64.toUInt64).toInt64).toInt32).toInt8.toInt32))), (.int (nar .byte ((((q0.toUInt64 >>> ((40 : Int32) &&& 0x3f).toInt64.toUInt64).toInt64).toInt32).toInt8.toInt32))), (.int (nar .byte ((((q0.toUInt64 >>> ((32 : Int32) &&& 0x3f).toInt64.toUInt64).toInt64).toInt32).toInt8.toInt32))), (.int (nar .byte ((((q0.toUInt64 >>> ((24 : Int32) &&& 0x3f).toInt64.toUInt64).toInt64).toInt32).toInt8.toInt32))), (.int (nar .byte ((((q0.toUInt64 >>> ((16 : Int32) &&& 0x3f).toInt64.toUInt64).toInt64).toInt32).toInt8.toInt32))), (.int (nar .byte ((((q0.toUInt64 >>> ((8 : Int32) &&& 0x3f).toInt64.toUInt64).toInt64).toInt32).toInt8.toInt32))), (.int (0 : Int32))] (.int (0 : Int32)) := Arv.set Ar44 q44 S44 M44 H44 G44 (fits_nar_byte _) W44 6 rfl (Nat.le_of_ble_eq_true rfl)
  have N44 := Fr.snoc X44 N39 g6
  have f45 : n0 ≤ h44.size := Nat.le_trans f40 (Keep.of_wr W44).1
  have f46 : Arv Z h44 a1 kk .byte z0 vs dv := f41.other W44 ne5
  have f47 : Keep h0 h44 [] := f42.wr W44 (Or.inr sz7)
  have pre44 : Go p.tables e below (s₁.setTop (entryFrame m #[(.long q0), (.ref a1)] 4)) T44 (mkF m 72 #[.val (.long q0), .second, .val (.ref a1), .val (.ref b4)] []) := fun t k => pre43 t (st44 _ k)
  have pre48 : Go p.tables e below (s₁.setTop (entryFrame m #[(.long q0), (.ref a1)] 4)) T44 (mkF m 78 #[.val (.long q0), .second, .val (.ref a1), .val (.ref b4)] [(.int ((q0.toInt32).toInt8.toInt32)), (.int (7 : Int32)), (.ref b4)]) := fun t k => pre44 t (by
      refine XS.aloadN X44.here hx rfl (hb hby d2_72) rfl rfl ?_
      show Steps p.tables e below (T44.setTop (mkF m 73 #[.val (.long q0), .second, .val (.ref a1), .val (.ref b4)] [(.ref b4)])) _
      refine XS.bipush X44.here hx rfl (hb hby d2_73) ?_
      show Steps p.tables e below (T44.setTop (mkF m 75 #[.val (.long q0), .second, .val (.ref a1), .val (.ref b4)] [(.int (7 : Int32)), (.ref b4)])) _
      refine XS.lloadN X44.here hx rfl (hb hby d2_75) rfl ?_
      show Steps p.tables e below (T44.setTop (mkF m 76 #[.val (.long q0), .second, .val (.ref a1), .val (.ref b4)] [(.long q0), (.int (7 : Int32)), (.ref b4)])) _
      refine XS.l2i X44.here hx rfl (hb hby d2_76) rfl ?_
      show Steps p.tables e below (T44.setTop (mkF m 77 #[.val (.long q0), .second, .val (.ref a1), .val (.ref b4)] [(.int (q0.toInt32)), (.int (7 : Int32)), (.ref b4)])) _
      refine XS.i2b X44.here hx rfl (hb hby d2_77) rfl ?_
      exact k)
  obtain ⟨c49, Ar49, q49, S49, M49, H49, G49⟩ := (id fa44)
  have hin49 : ¬ ((7 : Int32) < 0 ∨ c49.slots.size ≤ ((7 : Int32)).toNatClampNeg) := inb_of S49 ⟨by decide, own_lt8 z0 hz0 hz1 (by decide)⟩
  obtain ⟨T49, h49, X49, e49, W49, st49⟩ := stB X44 hx hZ e44 Ar49 (j := (7 : Int32)) hin49 (g := (mkF m 78 #[.val (.long q0), .second, .val (.ref a1), .val (.ref b4)] [(.int ((q0.toInt32).toInt8.toInt32)), (.int (7 : Int32)), (.ref b4)])) rfl rfl (hb hby d2_78)
  have fa49 : Arv Z h49 b4 k4 .byte ((8 : Int32) + z0) [(.int (nar .byte ((((q0.toUInt64 >>> ((56 : Int32) &&& 0x3f).toInt64.toUInt64).toInt64).toInt32).toInt8.toInt32))), (.int (nar .byte ((((q0.toUInt64 >>> ((48 : Int32) &&& 0x3f).toInt64.toUInt64).toInt64).toInt32).toInt8.toInt32))), (.int (nar .byte ((((q0.toUInt64 >>> ((40 : Int32) &&& 0x3f).toInt64.toUInt64).toInt64).toInt32).toInt8.toInt32))), (.int (nar .byte ((((q0.toUInt64 >>> ((32 : Int32) &&& 0x3f).toInt64.toUInt64).toInt64).toInt32).toInt8.toInt32))), (.int (nar .byte ((((q0.toUInt64 >>> ((24 : Int32) &&& 0x3f).toInt64.toUInt64).toInt64).toInt32).toInt8.toInt32))), (.int (nar .byte ((((q0.toUInt64 >>> ((16 : Int32) &&& 0x3f).toInt64.toUInt64).toInt64).toInt32).toInt8.toInt32))), (.int (nar .byte ((((q0.toUInt64 >>> ((8 : Int32) &&& 0x3f).toInt64.toUInt64).toInt64).toInt32).toInt8.toInt32))), (.int (nar .byte ((q0.toInt32).toInt8.toInt32)))] (.int (0 : Int32)) := Arv.set Ar49 q49 S49 M49 H49 G49 (fits_nar_byte _) W49 7 rfl (Nat.le_of_ble_eq_true rfl)
  have N49 := Fr.snoc X49 N44 g6
  have f50 : n0 ≤ h49.size := Nat.le_trans f45 (Keep.of_wr W49).1
  have f51 : Arv Z h49 a1 kk .byte z0 vs dv := f46.other W49 ne5
  have f52 : Keep h0 h49 [] := f47.wr W49 (Or.inr sz7)
  have pre49 : Go p.tables e below (s₁.setTop (entryFrame m #[(.long q0), (.ref a1)] 4)) T49 (mkF m 79 #[.val (.long q0), .second, .val (.ref a1), .val (.ref b4)] []) := fun t k => pre48 t (st49 _ k)
  have pre53 : Go p.tables e below (s₁.setTop (entryFrame m #[(.long q0), (.ref a1)] 4)) T49 (mkF m 85 #[.val (.long q0), .second, .val (.ref a1), .val (.ref b4)] [(.ref a1), (.int (8 : Int32)), (.ref b4), (.int (0 : Int32)), (.ref a1)]) := fun t k => pre49 t (by
      refine XS.aloadN X49.here hx rfl (hb hby d2_79) rfl rfl ?_
      show Steps p.tables e below (T49.setTop (mkF m 80 #[.val (.long q0), .second, .val (.ref a1), .val (.ref b4)] [(.ref a1)])) _
      refine XS.iconst X49.here hx rfl (hb hby d2_80) ?_
      show Steps p.tables e below (T49.setTop (mkF m 81 #[.val (.long q0), .second, .val (.ref a1), .val (.ref b4)] [(.int (0 : Int32)), (.ref a1)])) _
      refine XS.aloadN X49.here hx rfl (hb hby d2_81) rfl rfl ?_
      show Steps p.tables e below (T49.setTop (mkF m 82 #[.val (.long q0), .second, .val (.ref a1), .val (.ref b4)] [(.ref b4), (.int (0 : Int32)), (.ref a1)])) _
      refine XS.bipush X49.here hx rfl (hb hby d2_82) ?_
      show Steps p.tables e below (T49.setTop (mkF m 84 #[.val (.long q0), .second, .val (.ref a1), .val (.ref b4)] [(.int (8 : Int32)), (.ref b4), (.int (0 : Int32)), (.ref a1)])) _
      refine XS.aloadN X49.here hx rfl (hb hby d2_84) rfl rfl ?_
      exact k)
  obtain ⟨c54, Ar54, q54, S54, M54, H54, G54⟩ := (id f51)
  have pre54 : Go p.tables e below (s₁.setTop (entryFrame m #[(.long q0), (.ref a1)] 4)) T49 (mkF m 86 #[.val (.long q0), .second, .val (.ref a1), .val (.ref b4)] [(.int z0), (.int (8 : Int32)), (.ref b4), (.int (0 : Int32)), (.ref a1)]) := fun t k => pre53 t (X49.arraylength hx (by rw [e49]; exact Ar54.1) (State.isArrayOf_alike hZ.alike Ar54.2.1) (g := (mkF m 85 #[.val (.long q0), .second, .val (.ref a1), .val (.ref b4)] [(.ref a1), (.int (8 : Int32)), (.ref b4), (.int (0 : Int32)), (.ref a1)])) rfl rfl (hb hby d2_85) _ (by rw [len_of S54 M54]; exact k))
  have fq55 := fa49.pad (pad_rep [(.int (nar .byte ((((q0.toUInt64 >>> ((56 : Int32) &&& 0x3f).toInt64.toUInt64).toInt64).toInt32).toInt8.toInt32))), (.int (nar .byte ((((q0.toUInt64 >>> ((48 : Int32) &&& 0x3f).toInt64.toUInt64).toInt64).toInt32).toInt8.toInt32))), (.int (nar .byte ((((q0.toUInt64 >>> ((40 : Int32) &&& 0x3f).toInt64.toUInt64).toInt64).toInt32).toInt8.toInt32))), (.int (nar .byte ((((q0.toUInt64 >>> ((32 : Int32) &&& 0x3f).toInt64.toUInt64).toInt64).toInt32).toInt8.toInt32))), (.int (nar .byte ((((q0.toUInt64 >>> ((24 : Int32) &&& 0x3f).toInt64.toUInt64).toInt64).toInt32).toInt8.toInt32))), (.int (nar .byte ((((q0.toUInt64 >>> ((16 : Int32) &&& 0x3f).toInt64.toUInt64).toInt64).toInt32).toInt8.toInt32))), (.int (nar .byte ((((q0.toUInt64 >>> ((8 : Int32) &&& 0x3f).toInt64.toUInt64).toInt64).toInt32).toInt8.toInt32))), (.int (nar .byte ((q0.toInt32).toInt8.toInt32)))] (.int (0 : Int32)) 23)
  obtain ⟨T55, h55, L55, X55, e55, N55, K55, V55, st55⟩ := cpA X49 hx hZ hown (hw _ (List.mem_of_getElem? (i := 9) rfl)) (hw _ (List.mem_of_getElem? (i := 12) rfl)) (hw _ (List.mem_of_getElem? (i := 10) rfl)) (hw _ (List.mem_of_getElem? (i := 11) rfl)) e49 f51 fq55 (us := _) (Or.inl ⟨rfl, rfl⟩) (by decide) (by decide) (own_len8 z0 hz0 hz1).2.2.1 (Nat.le_of_eq (Nat.zero_add _)) (own_len8 z0 hz0 hz1).2.2.2.1 rfl (own_len8 z0 hz0 hz1).2.2.2.2 N49 g6 (g := (mkF m 86 #[.val (.long q0), .second, .val (.ref a1), .val (.ref b4)] [(.int z0), (.int (8 : Int32)), (.ref b4), (.int (0 : Int32)), (.ref a1)])) rfl (by rw [hml]; rfl) rfl (hb hby d2_86) (by decide) (W := 0) (by show 2 * 0 + _ ≤ _; exact Nat.le_of_eq rfl) (by decide)
  have f56 : n0 ≤ h55.size := Nat.le_trans f50 K55.1
  have f57 : Arv Z h55 a1 kk .byte z0 vs dv := f51.keep K55 (ninS ne5 nin0)
  have f58 : Keep h0 h55 [] := f52.trans K55 (allS (Or.inr sz7) all0)
  obtain ⟨ws55, Vw55⟩ : ∃ ws, Arv Z h55 b4 k4 .byte ((8 : Int32) + z0) ([(.int (nar .byte ((((q0.toUInt64 >>> ((56 : Int32) &&& 0x3f).toInt64.toUInt64).toInt64).toInt32).toInt8.toInt32))), (.int (nar .byte ((((q0.toUInt64 >>> ((48 : Int32) &&& 0x3f).toInt64.toUInt64).toInt64).toInt32).toInt8.toInt32))), (.int (nar .byte ((((q0.toUInt64 >>> ((40 : Int32) &&& 0x3f).toInt64.toUInt64).toInt64).toInt32).toInt8.toInt32))), (.int (nar .byte ((((q0.toUInt64 >>> ((32 : Int32) &&& 0x3f).toInt64.toUInt64).toInt64).toInt32).toInt8.toInt32))), (.int (nar .byte ((((q0.toUInt64 >>> ((24 : Int32) &&& 0x3f).toInt64.toUInt64).toInt64).toInt32).toInt8.toInt32))), (.int (nar .byte ((((q0.toUInt64 >>> ((16 : Int32) &&& 0x3f).toInt64.toUInt64).toInt64).toInt32).toInt8.toInt32))), (.int (nar .byte ((((q0.toUInt64 >>> ((8 : Int32) &&& 0x3f).toInt64.toUInt64).toInt64).toInt32).toInt8.toInt32))), (.int (nar .byte ((q0.toInt32).toInt8.toInt32)))] ++ ws) (.int (0 : Int32)) := ⟨_, by rw [← List.append_assoc]; exact V55⟩
  have pre55 : Go p.tables e below (s₁.setTop (entryFrame m #[(.long q0), (.ref a1)] 4)) T55 (mkF m 89 #[.val (.long q0), .second, .val (.ref a1), .val (.ref b4)] []) := fun t k => pre54 t (st55 _ k)
  have pre59 : Go p.tables e below (s₁.setTop (entryFrame m #[(.long q0), (.ref a1)] 4)) T55 (mkF m 90 #[.val (.long q0), .second, .val (.ref a1), .val (.ref b4)] [(.ref b4)]) := fun t k => pre55 t (by
      refine XS.aloadN X55.here hx rfl (hb hby d2_89) rfl rfl ?_
      exact k)
  obtain ⟨fs, hr, hrun, hended, hW, hsame⟩ := X55.leave (v := some (.ref b4)) (fun h => by rw [Bd.returns] at h; cases h) (BodyLoose.notSynchronized Bd)
  refine ⟨_, _, pre59 _ ?_, hrun, hended, _, _, rfl, ?_, ⟨_, rfl⟩, hW, hsame.mono (Nat.le_of_ble_eq_true rfl) (Nat.le_of_ble_eq_true rfl)⟩
  · exact retOut X55 hx Bd.returns rfl (Or.inr (Or.inr (Or.inr (Or.inr ⟨rfl, rfl, rfl⟩)))) (hb hby d2_90) hr
  · show Q_pre Z q0 a1 kk z0 vs dv h0 n0 _ T55.heap _
    rw [e55]
    exact ⟨b4, k4, _, rfl, N55, f58, g6, sz7, Vw55⟩
theorem d1_0 : decode prog_19_method_6_code 0 = .ok (.lload_n 0, 1) := by decide +kernel
theorem d1_1 : decode prog_19_method_6_code 1 = .ok (.aload_n 2, 1) := by decide +kernel
theorem d1_2 : decode prog_19_method_6_code 2 = .ok (.invokestatic 58, 3) := by decide +kernel
theorem d1_5 : decode prog_19_method_6_code 5 = .ok (.areturn, 1) := by decide +kernel
theorem pn_stp : plainName "com/example/fence/fence/service/ClaimFormat" = true := by first | (simp [plainName, overriddenIn]; done) | decide +kernel
theorem ef_stp (m : MethodId) (q0 : Int64) (a1 : Addr) : entryFrame m #[(.long q0), (.ref a1)] 3 = mkF m 0 #[.val (.long q0), .second, .val (.ref a1)] [] := by first | (simp [entryFrame, mkF, argsToLocals, Value.category]; done) | rfl
def Q_stp (Z : State) (q0 : Int64) (a1 : Addr) (kk : ClassId) (z0 : Int32) (vs : List Value) (dv : Value) (h0 : Heap) (n0 : Nat) (v : Option Value) (h : Heap) (L : List Loc) : Prop := ∃ b k ws, v = some (.ref b) ∧ Fr n0 L ∧ Keep h0 h [] ∧ n0 ≤ b ∧ h0.size ≤ b ∧ Arv Z h b k .byte ((8 : Int32) + z0) ([(.int (own_b8 (own_sh q0 56))), (.int (own_b8 (own_sh q0 48))), (.int (own_b8 (own_sh q0 40))), (.int (own_b8 (own_sh q0 32))), (.int (own_b8 (own_sh q0 24))), (.int (own_b8 (own_sh q0 16))), (.int (own_b8 (own_sh q0 8))), (.int (own_b8 q0))] ++ ws) (.int (0 : Int32))
set_option maxRecDepth 65536 in
set_option maxHeartbeats 40000000 in
theorem rm_stp (l : Launch) (Z : State) (av0 : Array Value) (hw : ∀ d ∈ tables_1, d.before av0 Z = true) (ws : List Jvm.Cond) (q0 : Int64) (a1 : Addr) (kk : ClassId) (z0 : Int32) (vs : List Value) (dv : Value) (h0 : Heap) (n0 : Nat) (Z0 : n0 ≤ h0.size) (V0 : Arv Z h0 a1 kk .byte z0 vs dv) (hz0 : 0 ≤ z0.toInt) (hz1 : z0.toInt ≤ 23) :
    MetFree l (⟨"com/example/fence/fence/service/ClaimFormat", "stamp", "(J[B)[B"⟩ : MethodName) (head1 (Jvm.Cond.code (⟨"com/example/fence/fence/service/ClaimFormat", "stamp", "(J[B)[B"⟩ : MethodName) prog_19_method_6_code 3 (some (.array .byte)) :: ws) ({ frames := 2, cells := 1, slots := 31, locals := 55 } : Room)) (fun a U => a = #[(.long q0), (.ref a1)] ∧ Z.Warmed39 U.vm ∧ U.heap = h0) (fun _ _ _ _ _ => True) (fun _ U o U' => ∃ v L, o = .returned v ∧ Q_stp Z q0 a1 kk z0 vs dv h0 n0 v U'.heap L ∧ FrameEnd U o U' L ({ frames := 2, cells := 1, slots := 31, locals := 55 } : Room).cells ({ frames := 2, cells := 1, slots := 31, locals := 55 } : Room).slots) := by
  refine MetFree.of_bodySF (plainFor_of_name pn_stp) hisR ?_
  intro p e s m args below meth c s₁ Bd hml0 hP hK
  obtain ⟨rfl, hZ, hh⟩ := hP
  have hx := Bd.exec
  have hby := Bd.bytes
  have hml : c.maxLocals = 3 := hml0
  have hown : s.vm.findClass "com/example/fence/fence/service/ClaimFormat" = some m.cls := findClass_of_methodNamed Bd.named
  have hnm := (name_of_methodNamed Bd.named Bd.method).1
  have X0 : Stand p l e ({ frames := 2, cells := 1, slots := 31, locals := 55 } : Room) s m #[(.long q0), (.ref a1)] below meth c s₁ [] 0 0 := Stand.of_body Bd
  have e0 : s₁.heap = h0 := by rw [← hh, Bd.state]; rfl
  have N0 := Fr.nil n0
  have pre0 : Go p.tables e below (s₁.setTop (entryFrame m #[(.long q0), (.ref a1)] 3)) s₁ (mkF m 0 #[.val (.long q0), .second, .val (.ref a1)] []) := fun t k => castTop (ef_stp m q0 a1) k
  have K0 : Keep h0 h0 [] := Keep.refl _ _
  have pre1 : Go p.tables e below (s₁.setTop (entryFrame m #[(.long q0), (.ref a1)] 3)) s₁ (mkF m 2 #[.val (.long q0), .second, .val (.ref a1)] [(.ref a1), (.long q0)]) := fun t k => pre0 t (by
      refine XS.lloadN X0.here hx rfl (hb hby d1_0) rfl ?_
      show Steps p.tables e below (s₁.setTop (mkF m 1 #[.val (.long q0), .second, .val (.ref a1)] [(.long q0)])) _
      refine XS.aloadN X0.here hx rfl (hb hby d1_1) rfl rfl ?_
      exact k)
  obtain ⟨_, _, ⟨T2, L2, k2, n2⟩, -, X2, ⟨Lc2, hQ2, l2, y2, z2⟩, st2⟩ := Jvm.LawKit.callS X0 hx (y := (⟨"com/example/fence/fence/util/BigEndian", "prefixed", "(J[B)[B"⟩ : MethodName)) hown (mvT hZ (hw _ (List.mem_of_getElem? (i := 5) rfl))) (mvT hZ (hw _ (List.mem_of_getElem? (i := 6) rfl))) (mvT hZ (hw _ (List.mem_of_getElem? (i := 7) rfl))) (mvT hZ (hw _ (List.mem_of_getElem? (i := 8) rfl))) (by decide) (backOf (W := 0) (rm_pre l Z av0 hw [] q0 a1 kk z0 vs dv h0 n0 Z0 V0 hz0 hz1) hZ (hw _ (List.mem_of_getElem? (i := 8) rfl)) (hw _ (List.mem_of_getElem? (i := 7) rfl)) (by decide) (by decide)) (g := (mkF m 2 #[.val (.long q0), .second, .val (.ref a1)] [(.ref a1), (.long q0)])) rfl (by rw [hml]; rfl) (argsL := [(.long q0), (.ref a1)]) (rest := []) (lenOf pd_3 rfl) rfl (by show 2 * 0 + _ ≤ _; exact Nat.le_of_eq rfl) (hb hby d1_2) (fun _ _ => ⟨rfl, e0, (by decide : 0 + 1 ≤ _), (by decide : 0 + 31 ≤ _)⟩)
  dsimp only [Pt.U, Pt.locs, Pt.cells, Pt.slots] at X2 l2 y2 z2 st2 hQ2
  subst l2 y2 z2
  obtain ⟨b2, kc2, ws2, rfl, N2q, K2, gb2, sb2, V2⟩ := hQ2
  have ne3 : a1 ≠ b2 := Nat.ne_of_lt (Nat.lt_of_lt_of_le V0.lt sb2)
  have g4 : n0 ≤ b2 := Nat.le_trans Z0 sb2
  have sz5 : h0.size ≤ b2 := Nat.le_trans K0.1 sb2
  have f6 : n0 ≤ T2.heap.size := Nat.le_trans Z0 K2.1
  have f7 : Arv Z T2.heap a1 kk .byte z0 vs dv := V0.keep K2 nin0
  have f8 : Keep h0 T2.heap [] := K0.trans K2 all0
  have N2 := Fr.app N0 N2q
  have pre2 : Go p.tables e below (s₁.setTop (entryFrame m #[(.long q0), (.ref a1)] 3)) T2 (mkF m 5 #[.val (.long q0), .second, .val (.ref a1)] [(.ref b2)]) := fun t k => pre1 t (st2 _ k)
  obtain ⟨fs, hr, hrun, hended, hW, hsame⟩ := X2.leave (v := some (.ref b2)) (fun h => by rw [Bd.returns] at h; cases h) (BodyLoose.notSynchronized Bd)
  refine ⟨_, _, pre2 _ ?_, hrun, hended, _, _, rfl, ?_, ⟨_, rfl⟩, hW, hsame.mono (Nat.le_of_ble_eq_true rfl) (Nat.le_of_ble_eq_true rfl)⟩
  · exact retOut X2 hx Bd.returns rfl (Or.inr (Or.inr (Or.inr (Or.inr ⟨rfl, rfl, rfl⟩)))) (hb hby d1_5) hr
  · show Q_stp Z q0 a1 kk z0 vs dv h0 n0 _ T2.heap _
    exact ⟨b2, kc2, _, rfl, N2, f8, gb2, sz5, V2⟩
theorem d7_0 : decode prog_19_method_11_code 0 = .ok (.aload_n 0, 1) := by decide +kernel
theorem d7_1 : decode prog_19_method_11_code 1 = .ok (.getstatic 9, 3) := by decide +kernel
theorem d7_4 : decode prog_19_method_11_code 4 = .ok (.if_acmp .ne 7, 3) := by decide +kernel
theorem d7_7 : decode prog_19_method_11_code 7 = .ok (.iconst 1, 1) := by decide +kernel
theorem d7_8 : decode prog_19_method_11_code 8 = .ok (.goto 4, 3) := by decide +kernel
theorem d7_11 : decode prog_19_method_11_code 11 = .ok (.iconst 0, 1) := by decide +kernel
theorem d7_12 : decode prog_19_method_11_code 12 = .ok (.ireturn, 1) := by decide +kernel
theorem pn_chk : plainName "com/example/fence/fence/service/ClaimFormat" = true := by first | (simp [plainName, overriddenIn]; done) | decide +kernel
theorem ef_chk (m : MethodId) (a0 : Addr) : entryFrame m #[(.ref a0)] 1 = mkF m 0 #[.val (.ref a0)] [] := by first | (simp [entryFrame, mkF, argsToLocals, Value.category]; done) | rfl
def Q_chk (Z : State) (a0 : Addr) (r_NUMBERED : Addr) (h0 : Heap) (n0 : Nat) (v : Option Value) (h : Heap) (L : List Loc) : Prop := v = some (.int (own_chk a0 r_NUMBERED)) ∧ Fr n0 L ∧ h = h0
set_option maxRecDepth 65536 in
set_option maxHeartbeats 40000000 in
theorem rm_chk (l : Launch) (Z : State) (av0 : Array Value) (hw : ∀ d ∈ tables_1, d.before av0 Z = true) (ws : List Jvm.Cond) (a0 : Addr) (r_NUMBERED : Addr) (h0 : Heap) (n0 : Nat) (S_NUMBERED : Sta Z h0 "com/example/fence/fence/service/ClaimFormat" "NUMBERED" "Lcom/example/fence/fence/service/ClaimFormat;" (.ref r_NUMBERED)) :
    MetFree l (⟨"com/example/fence/fence/service/ClaimFormat", "checksInWrite", "()Z"⟩ : MethodName) (head1 (Jvm.Cond.code (⟨"com/example/fence/fence/service/ClaimFormat", "checksInWrite", "()Z"⟩ : MethodName) prog_19_method_11_code 1 (some .boolean) :: ws) ({ frames := 0, cells := 0, slots := 0, locals := 0 } : Room)) (fun a U => a = #[(.ref a0)] ∧ Z.Warmed39 U.vm ∧ U.heap = h0) (fun _ _ _ _ _ => True) (fun _ U o U' => ∃ v L, o = .returned v ∧ Q_chk Z a0 r_NUMBERED h0 n0 v U'.heap L ∧ FrameEnd U o U' L ({ frames := 0, cells := 0, slots := 0, locals := 0 } : Room).cells ({ frames := 0, cells := 0, slots := 0, locals := 0 } : Room).slots) := by
  refine MetFree.of_bodySF (plainFor_of_name pn_chk) hisR ?_
  intro p e s m args below meth c s₁ Bd hml0 hP hK
  obtain ⟨rfl, hZ, hh⟩ := hP
  have hx := Bd.exec
  have hby := Bd.bytes
  have hml : c.maxLocals = 1 := hml0
  have hown : s.vm.findClass "com/example/fence/fence/service/ClaimFormat" = some m.cls := findClass_of_methodNamed Bd.named
  have hnm := (name_of_methodNamed Bd.named Bd.method).1
  have X0 : Stand p l e ({ frames := 0, cells := 0, slots := 0, locals := 0 } : Room) s m #[(.ref a0)] below meth c s₁ [] 0 0 := Stand.of_body Bd
  have e0 : s₁.heap = h0 := by rw [← hh, Bd.state]; rfl
  have N0 := Fr.nil n0
  have pre0 : Go p.tables e below (s₁.setTop (entryFrame m #[(.ref a0)] 1)) s₁ (mkF m 0 #[.val (.ref a0)] []) := fun t k => castTop (ef_chk m a0) k
  have pre1 : Go p.tables e below (s₁.setTop (entryFrame m #[(.ref a0)] 1)) s₁ (mkF m 1 #[.val (.ref a0)] [(.ref a0)]) := fun t k => pre0 t (by
      refine XS.aloadN X0.here hx rfl (hb hby d7_0) rfl rfl ?_
      exact k)
  obtain ⟨T2, X2, e2, st2⟩ := getS2 X0 hx hZ hown (host := "") (Or.inl (hw _ (List.mem_of_getElem? (i := 24) rfl))) Via.refl e0 S_NUMBERED (g := (mkF m 1 #[.val (.ref a0)] [(.ref a0)])) rfl (hb hby d7_1)
  have pre2 : Go p.tables e below (s₁.setTop (entryFrame m #[(.ref a0)] 1)) T2 (mkF m 4 #[.val (.ref a0)] [(.ref r_NUMBERED), (.ref a0)]) := fun t k => pre1 t (st2 _ k)
  by_cases hc3 : a0 = r_NUMBERED
  · -- hc3: True
    have pre4 : Go p.tables e below (s₁.setTop (entryFrame m #[(.ref a0)] 1)) T2 (mkF m 12 #[.val (.ref a0)] [(.int (1 : Int32))]) := fun t k => pre2 t (by
        refine Jvm.RoadKit.acmp (g := (mkF m 4 #[.val (.ref a0)] [(.ref r_NUMBERED), (.ref a0)])) X2 hx rfl rfl rfl (pc0 := 4) (pc' := 7) (same := true) rfl (hb hby d7_4) rfl (decide_eq_true (congrArg Value.ref hc3)) (by decide) (by decide) ?_
        show Steps p.tables e below (T2.setTop (mkF m 7 #[.val (.ref a0)] [])) _
        refine XS.iconst X2.here hx rfl (hb hby d7_7) ?_
        show Steps p.tables e below (T2.setTop (mkF m 8 #[.val (.ref a0)] [(.int (1 : Int32))])) _
        refine XS.goto X2.here hx rfl (pc0 := 8) (pc' := 12) rfl (hb hby d7_8) (by decide) (by decide) ?_
        exact k)
    obtain ⟨fs, hr, hrun, hended, hW, hsame⟩ := X2.leave (v := some (.int (1 : Int32))) (fun h => by rw [Bd.returns] at h; cases h) (BodyLoose.notSynchronized Bd)
    refine ⟨_, _, pre4 _ ?_, hrun, hended, _, _, rfl, ?_, ⟨_, rfl⟩, hW, hsame.mono (Nat.le_of_ble_eq_true rfl) (Nat.le_of_ble_eq_true rfl)⟩
    · exact retN X2 hx (t := .boolean) Bd.returns (by simp) (hb hby d7_12) hr
    · show Q_chk Z a0 r_NUMBERED h0 n0 _ T2.heap _
      rw [e2]
      exact ⟨by simp [own_chk, hc3], N0, rfl⟩
  · -- hc3: False
    have pre5 : Go p.tables e below (s₁.setTop (entryFrame m #[(.ref a0)] 1)) T2 (mkF m 12 #[.val (.ref a0)] [(.int (0 : Int32))]) := fun t k => pre2 t (by
        refine Jvm.RoadKit.acmp (g := (mkF m 4 #[.val (.ref a0)] [(.ref r_NUMBERED), (.ref a0)])) X2 hx rfl rfl rfl (pc0 := 4) (pc' := 11) (same := false) rfl (hb hby d7_4) rfl (decide_eq_false fun q => hc3 (Value.ref.inj q)) (by decide) (by decide) ?_
        show Steps p.tables e below (T2.setTop (mkF m 11 #[.val (.ref a0)] [])) _
        refine XS.iconst X2.here hx rfl (hb hby d7_11) ?_
        exact k)
    obtain ⟨fs, hr, hrun, hended, hW, hsame⟩ := X2.leave (v := some (.int (0 : Int32))) (fun h => by rw [Bd.returns] at h; cases h) (BodyLoose.notSynchronized Bd)
    refine ⟨_, _, pre5 _ ?_, hrun, hended, _, _, rfl, ?_, ⟨_, rfl⟩, hW, hsame.mono (Nat.le_of_ble_eq_true rfl) (Nat.le_of_ble_eq_true rfl)⟩
    · exact retN X2 hx (t := .boolean) Bd.returns (by simp) (hb hby d7_12) hr
    · show Q_chk Z a0 r_NUMBERED h0 n0 _ T2.heap _
      rw [e2]
      exact ⟨by simp [own_chk, hc3], N0, rfl⟩
theorem d8_0 : decode prog_19_method_10_code 0 = .ok (.aload_n 0, 1) := by decide +kernel
theorem d8_1 : decode prog_19_method_10_code 1 = .ok (.getstatic 5, 3) := by decide +kernel
theorem d8_4 : decode prog_19_method_10_code 4 = .ok (.if_acmp .ne 7, 3) := by decide +kernel
theorem d8_7 : decode prog_19_method_10_code 7 = .ok (.iconst 1, 1) := by decide +kernel
theorem d8_8 : decode prog_19_method_10_code 8 = .ok (.goto 4, 3) := by decide +kernel
theorem d8_11 : decode prog_19_method_10_code 11 = .ok (.iconst 0, 1) := by decide +kernel
theorem d8_12 : decode prog_19_method_10_code 12 = .ok (.ireturn, 1) := by decide +kernel
theorem pn_wai : plainName "com/example/fence/fence/service/ClaimFormat" = true := by first | (simp [plainName, overriddenIn]; done) | decide +kernel
theorem ef_wai (m : MethodId) (a0 : Addr) : entryFrame m #[(.ref a0)] 1 = mkF m 0 #[.val (.ref a0)] [] := by first | (simp [entryFrame, mkF, argsToLocals, Value.category]; done) | rfl
def Q_wai (Z : State) (a0 : Addr) (r_TIMESTAMPED : Addr) (h0 : Heap) (n0 : Nat) (v : Option Value) (h : Heap) (L : List Loc) : Prop := v = some (.int (own_chk a0 r_TIMESTAMPED)) ∧ Fr n0 L ∧ h = h0
set_option maxRecDepth 65536 in
set_option maxHeartbeats 40000000 in
theorem rm_wai (l : Launch) (Z : State) (av0 : Array Value) (hw : ∀ d ∈ tables_1, d.before av0 Z = true) (ws : List Jvm.Cond) (a0 : Addr) (r_TIMESTAMPED : Addr) (h0 : Heap) (n0 : Nat) (S_TIMESTAMPED : Sta Z h0 "com/example/fence/fence/service/ClaimFormat" "TIMESTAMPED" "Lcom/example/fence/fence/service/ClaimFormat;" (.ref r_TIMESTAMPED)) :
    MetFree l (⟨"com/example/fence/fence/service/ClaimFormat", "waitsLockWait", "()Z"⟩ : MethodName) (head1 (Jvm.Cond.code (⟨"com/example/fence/fence/service/ClaimFormat", "waitsLockWait", "()Z"⟩ : MethodName) prog_19_method_10_code 1 (some .boolean) :: ws) ({ frames := 0, cells := 0, slots := 0, locals := 0 } : Room)) (fun a U => a = #[(.ref a0)] ∧ Z.Warmed39 U.vm ∧ U.heap = h0) (fun _ _ _ _ _ => True) (fun _ U o U' => ∃ v L, o = .returned v ∧ Q_wai Z a0 r_TIMESTAMPED h0 n0 v U'.heap L ∧ FrameEnd U o U' L ({ frames := 0, cells := 0, slots := 0, locals := 0 } : Room).cells ({ frames := 0, cells := 0, slots := 0, locals := 0 } : Room).slots) := by
  refine MetFree.of_bodySF (plainFor_of_name pn_wai) hisR ?_
  intro p e s m args below meth c s₁ Bd hml0 hP hK
  obtain ⟨rfl, hZ, hh⟩ := hP
  have hx := Bd.exec
  have hby := Bd.bytes
  have hml : c.maxLocals = 1 := hml0
  have hown : s.vm.findClass "com/example/fence/fence/service/ClaimFormat" = some m.cls := findClass_of_methodNamed Bd.named
  have hnm := (name_of_methodNamed Bd.named Bd.method).1
  have X0 : Stand p l e ({ frames := 0, cells := 0, slots := 0, locals := 0 } : Room) s m #[(.ref a0)] below meth c s₁ [] 0 0 := Stand.of_body Bd
  have e0 : s₁.heap = h0 := by rw [← hh, Bd.state]; rfl
  have N0 := Fr.nil n0
  have pre0 : Go p.tables e below (s₁.setTop (entryFrame m #[(.ref a0)] 1)) s₁ (mkF m 0 #[.val (.ref a0)] []) := fun t k => castTop (ef_wai m a0) k
  have pre1 : Go p.tables e below (s₁.setTop (entryFrame m #[(.ref a0)] 1)) s₁ (mkF m 1 #[.val (.ref a0)] [(.ref a0)]) := fun t k => pre0 t (by
      refine XS.aloadN X0.here hx rfl (hb hby d8_0) rfl rfl ?_
      exact k)
  obtain ⟨T2, X2, e2, st2⟩ := getS2 X0 hx hZ hown (host := "") (Or.inl (hw _ (List.mem_of_getElem? (i := 46) rfl))) Via.refl e0 S_TIMESTAMPED (g := (mkF m 1 #[.val (.ref a0)] [(.ref a0)])) rfl (hb hby d8_1)
  have pre2 : Go p.tables e below (s₁.setTop (entryFrame m #[(.ref a0)] 1)) T2 (mkF m 4 #[.val (.ref a0)] [(.ref r_TIMESTAMPED), (.ref a0)]) := fun t k => pre1 t (st2 _ k)
  by_cases hc3 : a0 = r_TIMESTAMPED
  · -- hc3: True
    have pre4 : Go p.tables e below (s₁.setTop (entryFrame m #[(.ref a0)] 1)) T2 (mkF m 12 #[.val (.ref a0)] [(.int (1 : Int32))]) := fun t k => pre2 t (by
        refine Jvm.RoadKit.acmp (g := (mkF m 4 #[.val (.ref a0)] [(.ref r_TIMESTAMPED), (.ref a0)])) X2 hx rfl rfl rfl (pc0 := 4) (pc' := 7) (same := true) rfl (hb hby d8_4) rfl (decide_eq_true (congrArg Value.ref hc3)) (by decide) (by decide) ?_
        show Steps p.tables e below (T2.setTop (mkF m 7 #[.val (.ref a0)] [])) _
        refine XS.iconst X2.here hx rfl (hb hby d8_7) ?_
        show Steps p.tables e below (T2.setTop (mkF m 8 #[.val (.ref a0)] [(.int (1 : Int32))])) _
        refine XS.goto X2.here hx rfl (pc0 := 8) (pc' := 12) rfl (hb hby d8_8) (by decide) (by decide) ?_
        exact k)
    obtain ⟨fs, hr, hrun, hended, hW, hsame⟩ := X2.leave (v := some (.int (1 : Int32))) (fun h => by rw [Bd.returns] at h; cases h) (BodyLoose.notSynchronized Bd)
    refine ⟨_, _, pre4 _ ?_, hrun, hended, _, _, rfl, ?_, ⟨_, rfl⟩, hW, hsame.mono (Nat.le_of_ble_eq_true rfl) (Nat.le_of_ble_eq_true rfl)⟩
    · exact retN X2 hx (t := .boolean) Bd.returns (by simp) (hb hby d8_12) hr
    · show Q_wai Z a0 r_TIMESTAMPED h0 n0 _ T2.heap _
      rw [e2]
      exact ⟨by simp [own_chk, hc3], N0, rfl⟩
  · -- hc3: False
    have pre5 : Go p.tables e below (s₁.setTop (entryFrame m #[(.ref a0)] 1)) T2 (mkF m 12 #[.val (.ref a0)] [(.int (0 : Int32))]) := fun t k => pre2 t (by
        refine Jvm.RoadKit.acmp (g := (mkF m 4 #[.val (.ref a0)] [(.ref r_TIMESTAMPED), (.ref a0)])) X2 hx rfl rfl rfl (pc0 := 4) (pc' := 11) (same := false) rfl (hb hby d8_4) rfl (decide_eq_false fun q => hc3 (Value.ref.inj q)) (by decide) (by decide) ?_
        show Steps p.tables e below (T2.setTop (mkF m 11 #[.val (.ref a0)] [])) _
        refine XS.iconst X2.here hx rfl (hb hby d8_11) ?_
        exact k)
    obtain ⟨fs, hr, hrun, hended, hW, hsame⟩ := X2.leave (v := some (.int (0 : Int32))) (fun h => by rw [Bd.returns] at h; cases h) (BodyLoose.notSynchronized Bd)
    refine ⟨_, _, pre5 _ ?_, hrun, hended, _, _, rfl, ?_, ⟨_, rfl⟩, hW, hsame.mono (Nat.le_of_ble_eq_true rfl) (Nat.le_of_ble_eq_true rfl)⟩
    · exact retN X2 hx (t := .boolean) Bd.returns (by simp) (hb hby d8_12) hr
    · show Q_wai Z a0 r_TIMESTAMPED h0 n0 _ T2.heap _
      rw [e2]
      exact ⟨by simp [own_chk, hc3], N0, rfl⟩
theorem pn_law : plainName "com/example/fence/fence/service/ClaimFormatChecksInWritePinLaw" = true := by first | (simp [plainName, overriddenIn]; done) | decide +kernel
theorem ef_law (m : MethodId) (x0 : Int64) (x2 : Int32) : entryFrame m #[(.long x0), (.int x2)] maxLocals = mkF m 0 #[.val (.long x0), .second, .val (.int x2), .unset, .unset, .unset, .unset, .unset] [] := by first | (simp [entryFrame, mkF, argsToLocals, Value.category, maxLocals]; done) | rfl
def Q_law (Z : State) (x0 : Int64) (x2 : Int32) (r_TIMESTAMPED : Addr) (r_NUMBERED : Addr) (h0 : Heap) (n0 : Nat) (v : Option Value) (h : Heap) (L : List Loc) : Prop := v = some (.int 1) ∧ Fr n0 L
set_option maxRecDepth 65536 in
set_option maxHeartbeats 40000000 in
theorem rm_law (l : Launch) (Z : State) (av0 : Array Value) (hw : ∀ d ∈ tables_1, d.before av0 Z = true) (ws : List Jvm.Cond) (x0 : Int64) (x2 : Int32) (r_TIMESTAMPED : Addr) (r_NUMBERED : Addr) (h0 : Heap) (n0 : Nat) (Z0 : n0 ≤ h0.size) (O0 : Old Z n0 h0) (S_TIMESTAMPED : Sta Z Z.heap "com/example/fence/fence/service/ClaimFormat" "TIMESTAMPED" "Lcom/example/fence/fence/service/ClaimFormat;" (.ref r_TIMESTAMPED)) (S_NUMBERED : Sta Z Z.heap "com/example/fence/fence/service/ClaimFormat" "NUMBERED" "Lcom/example/fence/fence/service/ClaimFormat;" (.ref r_NUMBERED)) (E_TIMESTAMPED : Exa Z Z.heap r_TIMESTAMPED "com/example/fence/fence/service/ClaimFormat$1") (E_NUMBERED : Exa Z Z.heap r_NUMBERED "com/example/fence/fence/service/ClaimFormat$2") (F_TIMESTAMPED : Fld Z Z.heap r_TIMESTAMPED "com/example/fence/fence/service/ClaimFormat" "stampAt" "I" (.int (0 : Int32))) (F_NUMBERED : Fld Z Z.heap r_NUMBERED "com/example/fence/fence/service/ClaimFormat" "stampAt" "I" (.int (8 : Int32))) :
    MetFree l x (head1 (Jvm.Cond.code x code maxLocals ret :: ws) room_1) (fun a U => a = #[(.long x0), (.int x2)] ∧ Z.Warmed39 U.vm ∧ U.heap = h0) (fun _ _ _ _ _ => True) (fun _ U o U' => ∃ v L, o = .returned v ∧ Q_law Z x0 x2 r_TIMESTAMPED r_NUMBERED h0 n0 v U'.heap L ∧ FrameEnd U o U' L room_1.cells room_1.slots) := by
  refine MetFree.of_bodySF (plainFor_of_name pn_law) hisR ?_
  intro p e s m args below meth c s₁ Bd hml0 hP hK
  obtain ⟨rfl, hZ, hh⟩ := hP
  have hx := Bd.exec
  have hby := Bd.bytes
  have hml : c.maxLocals = 8 := hml0
  have hown : s.vm.findClass "com/example/fence/fence/service/ClaimFormatChecksInWritePinLaw" = some m.cls := findClass_of_methodNamed Bd.named
  have hnm := (name_of_methodNamed Bd.named Bd.method).1
  have X0 : Stand p l e room_1 s m #[(.long x0), (.int x2)] below meth c s₁ [] 0 0 := Stand.of_body Bd
  have e0 : s₁.heap = h0 := by rw [← hh, Bd.state]; rfl
  have N0 := Fr.nil n0
  have pre0 : Go p.tables e below (s₁.setTop (entryFrame m #[(.long x0), (.int x2)] maxLocals)) s₁ (mkF m 0 #[.val (.long x0), .second, .val (.int x2), .unset, .unset, .unset, .unset, .unset] []) := fun t k => castTop (ef_law m x0 x2) k
  by_cases hT : x0 < (946684800000000000 : Int64)
  · -- True
    have pre1 : Go p.tables e below (s₁.setTop (entryFrame m #[(.long x0), (.int x2)] maxLocals)) s₁ (mkF m 2 #[.val (.long x0), .second, .val (.int x2), .unset, .unset, .unset, .unset, .unset] [(.int (8 : Int32))]) := fun t k => pre0 t (by
        refine XS.bipush X0.here hx rfl (hb hby at_0) ?_
        exact k)
    obtain ⟨T2, h2, k2, X2, e2, E2, A2, st2⟩ := newP X0 hx hZ (hw _ (List.mem_of_getElem? (i := 0) rfl)) e0 (g := (mkF m 2 #[.val (.long x0), .second, .val (.int x2), .unset, .unset, .unset, .unset, .unset] [(.int (8 : Int32))])) rfl (hb hby at_2) rfl (by decide) (cap := 8) (by decide) (by decide) (by decide) (by decide)
    obtain ⟨b2, ga2⟩ : ∃ z, z = h0.size := ⟨_, rfl⟩
    rw [← ga2] at A2 st2
    have g3 : n0 ≤ b2 := Nat.le_trans Z0 (Nat.le_of_eq ga2.symm)
    have f4 : n0 ≤ h2.size := Nat.le_trans Z0 E2.1
    have f5 : Old Z n0 h2 := O0.ext E2
    have f6 : Arv Z h2 b2 k2 .byte (8 : Int32) [(.int (0 : Int32)), (.int (0 : Int32)), (.int (0 : Int32)), (.int (0 : Int32)), (.int (0 : Int32)), (.int (0 : Int32)), (.int (0 : Int32)), (.int (0 : Int32))] (.int (0 : Int32)) := (Arv.new A2 (by decide)).pad (pad_rep [] (.int (0 : Int32)) 8)
    have pre2 : Go p.tables e below (s₁.setTop (entryFrame m #[(.long x0), (.int x2)] maxLocals)) T2 (mkF m 4 #[.val (.long x0), .second, .val (.int x2), .unset, .unset, .unset, .unset, .unset] [(.ref b2)]) := fun t k => pre1 t (st2 _ k)
    have pre7 : Go p.tables e below (s₁.setTop (entryFrame m #[(.long x0), (.int x2)] maxLocals)) T2 (mkF m 7 #[.val (.long x0), .second, .val (.int x2), .val (.ref b2), .unset, .unset, .unset, .unset] [(.ref b2), (.long x0)]) := fun t k => pre2 t (by
        refine XS.astoreN X2.here hx rfl (hb hby at_4) rfl rfl (l' := #[.val (.long x0), .second, .val (.int x2), .val (.ref b2), .unset, .unset, .unset, .unset]) rfl ?_
        show Steps p.tables e below (T2.setTop (mkF m 5 #[.val (.long x0), .second, .val (.int x2), .val (.ref b2), .unset, .unset, .unset, .unset] [])) _
        refine XS.lloadN X2.here hx rfl (hb hby at_5) rfl ?_
        show Steps p.tables e below (T2.setTop (mkF m 6 #[.val (.long x0), .second, .val (.int x2), .val (.ref b2), .unset, .unset, .unset, .unset] [(.long x0)])) _
        refine XS.aloadN X2.here hx rfl (hb hby at_6) rfl rfl ?_
        exact k)
    obtain ⟨_, _, ⟨T8, L8, k8, n8⟩, -, X8, ⟨Lc8, hQ8, l8, y8, z8⟩, st8⟩ := Jvm.LawKit.callS X2 hx (y := (⟨"com/example/fence/fence/service/ClaimFormat", "stamp", "(J[B)[B"⟩ : MethodName)) hown (mvT hZ (hw _ (List.mem_of_getElem? (i := 1) rfl))) (mvT hZ (hw _ (List.mem_of_getElem? (i := 2) rfl))) (mvT hZ (hw _ (List.mem_of_getElem? (i := 3) rfl))) (mvT hZ (hw _ (List.mem_of_getElem? (i := 4) rfl))) (by decide) (backOf (W := 0) (rm_stp l Z av0 hw [] x0 b2 k2 (8 : Int32) [(.int (0 : Int32)), (.int (0 : Int32)), (.int (0 : Int32)), (.int (0 : Int32)), (.int (0 : Int32)), (.int (0 : Int32)), (.int (0 : Int32)), (.int (0 : Int32))] (.int (0 : Int32)) h2 n0 f4 f6 (by decide) (by decide)) hZ (hw _ (List.mem_of_getElem? (i := 4) rfl)) (hw _ (List.mem_of_getElem? (i := 3) rfl)) (by decide) (by decide)) (g := (mkF m 7 #[.val (.long x0), .second, .val (.int x2), .val (.ref b2), .unset, .unset, .unset, .unset] [(.ref b2), (.long x0)])) rfl (by rw [hml]; rfl) (argsL := [(.long x0), (.ref b2)]) (rest := []) (lenOf pd_3 rfl) rfl (by show 2 * 0 + _ ≤ _; exact Nat.le_of_eq rfl) (hb hby at_7) (fun _ _ => ⟨rfl, e2, (by decide : 1 + 1 ≤ _), (by decide : 8 + 31 ≤ _)⟩)
    dsimp only [Pt.U, Pt.locs, Pt.cells, Pt.slots] at X8 l8 y8 z8 st8 hQ8
    subst l8 y8 z8
    obtain ⟨b8, kc8, ws8, rfl, N8q, K8, gb8, sb8, V8⟩ := hQ8
    have ne9 : b2 ≠ b8 := Nat.ne_of_lt (Nat.lt_of_lt_of_le f6.lt sb8)
    have g10 : n0 ≤ b8 := Nat.le_trans f4 sb8
    have f11 : n0 ≤ T8.heap.size := Nat.le_trans f4 K8.1
    have f12 : Old Z n0 T8.heap := f5.keep K8 all0
    have f13 : Arv Z T8.heap b2 k2 .byte (8 : Int32) [(.int (0 : Int32)), (.int (0 : Int32)), (.int (0 : Int32)), (.int (0 : Int32)), (.int (0 : Int32)), (.int (0 : Int32)), (.int (0 : Int32)), (.int (0 : Int32))] (.int (0 : Int32)) := f6.keep K8 nin0
    have N8 := Fr.app N0 N8q
    have pre8 : Go p.tables e below (s₁.setTop (entryFrame m #[(.long x0), (.int x2)] maxLocals)) T8 (mkF m 10 #[.val (.long x0), .second, .val (.int x2), .val (.ref b2), .unset, .unset, .unset, .unset] [(.ref b8)]) := fun t k => pre7 t (st8 _ k)
    have pre14 : Go p.tables e below (s₁.setTop (entryFrame m #[(.long x0), (.int x2)] maxLocals)) T8 (mkF m 14 #[.val (.long x0), .second, .val (.int x2), .val (.ref b2), .val (.ref b8), .unset, .unset, .unset] [(.ref b8)]) := fun t k => pre8 t (by
        refine XS.astore X8.here hx rfl (hb hby at_10) rfl rfl (l' := #[.val (.long x0), .second, .val (.int x2), .val (.ref b2), .val (.ref b8), .unset, .unset, .unset]) rfl ?_
        show Steps p.tables e below (T8.setTop (mkF m 12 #[.val (.long x0), .second, .val (.int x2), .val (.ref b2), .val (.ref b8), .unset, .unset, .unset] [])) _
        refine XS.aload X8.here hx rfl (hb hby at_12) rfl rfl ?_
        exact k)
    obtain ⟨_, _, ⟨T15, L15, k15, n15⟩, -, X15, ⟨Lc15, hQ15, l15, y15, z15⟩, st15⟩ := Jvm.LawKit.callS X8 hx (y := (⟨"com/example/fence/fence/service/ClaimFormat", "ofColumn", "([B)Lcom/example/fence/fence/service/ClaimFormat;"⟩ : MethodName)) hown (mvT hZ (hw _ (List.mem_of_getElem? (i := 13) rfl))) (mvT hZ (hw _ (List.mem_of_getElem? (i := 14) rfl))) (mvT hZ (hw _ (List.mem_of_getElem? (i := 3) rfl))) (mvT hZ (hw _ (List.mem_of_getElem? (i := 15) rfl))) (by decide) (backOf (W := 0) (rm_ofc l Z av0 hw [] b8 kc8 ((8 : Int32) + (8 : Int32)) ([(.int (own_b8 (own_sh x0 56))), (.int (own_b8 (own_sh x0 48))), (.int (own_b8 (own_sh x0 40))), (.int (own_b8 (own_sh x0 32))), (.int (own_b8 (own_sh x0 24))), (.int (own_b8 (own_sh x0 16))), (.int (own_b8 (own_sh x0 8))), (.int (own_b8 x0))] ++ ws8) (.int (0 : Int32)) (own_b8 (own_sh x0 56)) (own_b8 (own_sh x0 48)) (own_b8 (own_sh x0 40)) (own_b8 (own_sh x0 32)) (own_b8 (own_sh x0 24)) (own_b8 (own_sh x0 16)) (own_b8 (own_sh x0 8)) (own_b8 x0) x0 r_TIMESTAMPED r_NUMBERED T8.heap n0 f12 S_TIMESTAMPED S_NUMBERED E_TIMESTAMPED E_NUMBERED F_TIMESTAMPED F_NUMBERED V8 rfl rfl rfl rfl rfl rfl rfl rfl (own_long_eq x0)) hZ (hw _ (List.mem_of_getElem? (i := 15) rfl)) (hw _ (List.mem_of_getElem? (i := 3) rfl)) (by decide) (by decide)) (g := (mkF m 14 #[.val (.long x0), .second, .val (.int x2), .val (.ref b2), .val (.ref b8), .unset, .unset, .unset] [(.ref b8)])) rfl (by rw [hml]; rfl) (argsL := [(.ref b8)]) (rest := []) (lenOf pd_4 rfl) rfl (by show 2 * 0 + _ ≤ _; exact Nat.le_of_eq rfl) (hb hby at_14) (fun _ _ => ⟨rfl, rfl, (by decide : 2 + 0 ≤ _), (by decide : 39 + 0 ≤ _)⟩)
    dsimp only [Pt.U, Pt.locs, Pt.cells, Pt.slots] at X15 l15 y15 z15 st15 hQ15
    subst l15 y15 z15
    obtain ⟨hv15, N15q, e15⟩ := hQ15
    rw [show own_of x0 ((8 : Int32) + (8 : Int32)) r_TIMESTAMPED r_NUMBERED = .ref r_NUMBERED from by rw [own_of, if_neg (by decide), if_pos hT, if_neg (by decide)]] at hv15
    subst hv15
    have N15 := Fr.app N8 N15q
    have pre15 : Go p.tables e below (s₁.setTop (entryFrame m #[(.long x0), (.int x2)] maxLocals)) T15 (mkF m 17 #[.val (.long x0), .second, .val (.int x2), .val (.ref b2), .val (.ref b8), .unset, .unset, .unset] [(.ref r_NUMBERED)]) := fun t k => pre14 t (st15 _ k)
    have pre16 : Go p.tables e below (s₁.setTop (entryFrame m #[(.long x0), (.int x2)] maxLocals)) T15 (mkF m 43 #[.val (.long x0), .second, .val (.int x2), .val (.ref b2), .val (.ref b8), .val (.ref r_NUMBERED), .val (.int (1 : Int32)), .unset] [(.ref r_NUMBERED)]) := fun t k => pre15 t (by
        refine XS.astore X15.here hx rfl (hb hby at_17) rfl rfl (l' := #[.val (.long x0), .second, .val (.int x2), .val (.ref b2), .val (.ref b8), .val (.ref r_NUMBERED), .unset, .unset]) rfl ?_
        show Steps p.tables e below (T15.setTop (mkF m 19 #[.val (.long x0), .second, .val (.int x2), .val (.ref b2), .val (.ref b8), .val (.ref r_NUMBERED), .unset, .unset] [])) _
        refine XS.aload X15.here hx rfl (hb hby at_19) rfl rfl ?_
        show Steps p.tables e below (T15.setTop (mkF m 21 #[.val (.long x0), .second, .val (.int x2), .val (.ref b2), .val (.ref b8), .val (.ref r_NUMBERED), .unset, .unset] [(.ref r_NUMBERED)])) _
        refine XS.ifnonnullYes X15.here hx rfl (pc0 := 21) (pc' := 26) rfl (hb hby at_21) rfl (by decide) (by decide) ?_
        show Steps p.tables e below (T15.setTop (mkF m 26 #[.val (.long x0), .second, .val (.int x2), .val (.ref b2), .val (.ref b8), .val (.ref r_NUMBERED), .unset, .unset] [])) _
        refine XS.lloadN X15.here hx rfl (hb hby at_26) rfl ?_
        show Steps p.tables e below (T15.setTop (mkF m 27 #[.val (.long x0), .second, .val (.int x2), .val (.ref b2), .val (.ref b8), .val (.ref r_NUMBERED), .unset, .unset] [(.long x0)])) _
        refine X15.ldc2Long hx hown (mvT hZ (hw _ (List.mem_of_getElem? (i := 32) rfl))) (g := (mkF m 27 #[.val (.long x0), .second, .val (.int x2), .val (.ref b2), .val (.ref b8), .val (.ref r_NUMBERED), .unset, .unset] [(.long x0)])) rfl (hb hby at_27) _ ?_
        show Steps p.tables e below (T15.setTop (mkF m 30 #[.val (.long x0), .second, .val (.int x2), .val (.ref b2), .val (.ref b8), .val (.ref r_NUMBERED), .unset, .unset] [(.long (946684800000000000 : Int64)), (.long x0)])) _
        refine XS.lcmp X15.here hx rfl (hb hby at_30) rfl ?_
        show Steps p.tables e below (T15.setTop (mkF m 31 #[.val (.long x0), .second, .val (.int x2), .val (.ref b2), .val (.ref b8), .val (.ref r_NUMBERED), .unset, .unset] [(.int (lcmpW x0 (946684800000000000 : Int64)))])) _
        refine XS.ifNo X15.here hx rfl (hb hby at_31) rfl ((if0 _ _).trans (tlt ((lw_lt _ _).mpr hT)).2.1) ?_
        show Steps p.tables e below (T15.setTop (mkF m 34 #[.val (.long x0), .second, .val (.int x2), .val (.ref b2), .val (.ref b8), .val (.ref r_NUMBERED), .unset, .unset] [])) _
        refine XS.iconst X15.here hx rfl (hb hby at_34) ?_
        show Steps p.tables e below (T15.setTop (mkF m 35 #[.val (.long x0), .second, .val (.int x2), .val (.ref b2), .val (.ref b8), .val (.ref r_NUMBERED), .unset, .unset] [(.int (1 : Int32))])) _
        refine XS.goto X15.here hx rfl (pc0 := 35) (pc' := 39) rfl (hb hby at_35) (by decide) (by decide) ?_
        show Steps p.tables e below (T15.setTop (mkF m 39 #[.val (.long x0), .second, .val (.int x2), .val (.ref b2), .val (.ref b8), .val (.ref r_NUMBERED), .unset, .unset] [(.int (1 : Int32))])) _
        refine XS.istore X15.here hx rfl (hb hby at_39) rfl (l' := #[.val (.long x0), .second, .val (.int x2), .val (.ref b2), .val (.ref b8), .val (.ref r_NUMBERED), .val (.int (1 : Int32)), .unset]) rfl ?_
        show Steps p.tables e below (T15.setTop (mkF m 41 #[.val (.long x0), .second, .val (.int x2), .val (.ref b2), .val (.ref b8), .val (.ref r_NUMBERED), .val (.int (1 : Int32)), .unset] [])) _
        refine XS.aload X15.here hx rfl (hb hby at_41) rfl rfl ?_
        exact k)
    obtain ⟨cq17, kq17, q17a, q17b, q17c⟩ := isOf hZ e15 (E_NUMBERED.ext f12.2)
    obtain ⟨_, _, ⟨T17, L17, k17, n17⟩, -, X17, ⟨Lc17, hQ17, l17, y17, z17⟩, st17⟩ := X15.virtualBack hx (y := (⟨"com/example/fence/fence/service/ClaimFormat", "checksInWrite", "()Z"⟩ : MethodName)) (z := (⟨"com/example/fence/fence/service/ClaimFormat", "checksInWrite", "()Z"⟩ : MethodName)) hown (mvT hZ (hw _ (List.mem_of_getElem? (i := 33) rfl))) (mvT hZ (hw _ (List.mem_of_getElem? (i := 34) rfl))) (notFace_of_selects (args := #[]) (mvT hZ (hw _ (List.mem_of_getElem? (i := 36) rfl)))) (mvT hZ (hw _ (List.mem_of_getElem? (i := 36) rfl))) (mvT hZ (hw _ (List.mem_of_getElem? (i := 35) rfl))) (by decide) (backOf (W := 0) (rm_chk l Z av0 hw [] r_NUMBERED r_NUMBERED T8.heap n0 (S_NUMBERED.ext f12.2)) hZ (hw _ (List.mem_of_getElem? (i := 37) rfl)) (hw _ (List.mem_of_getElem? (i := 3) rfl)) (by decide) (by decide)) q17a q17c (g := (mkF m 43 #[.val (.long x0), .second, .val (.int x2), .val (.ref b2), .val (.ref b8), .val (.ref r_NUMBERED), .val (.int (1 : Int32)), .unset] [(.ref r_NUMBERED)])) rfl (by rw [hml]; rfl) (Steps.refl _) (argsL := []) (rest := []) (lenOf pd_5 rfl) rfl (by show 2 * 0 + _ ≤ _; exact Nat.le_of_eq rfl) (hb hby at_43) (fun _ _ => ⟨rfl, e15, (by decide : 2 + 0 ≤ _), (by decide : 39 + 0 ≤ _)⟩)
    dsimp only [Pt.U, Pt.locs, Pt.cells, Pt.slots] at X17 l17 y17 z17 st17 hQ17
    subst l17 y17 z17
    obtain ⟨hv17, N17q, e17⟩ := hQ17
    rw [show own_chk r_NUMBERED r_NUMBERED = (1 : Int32) from if_pos rfl] at hv17
    subst hv17
    have N17 := Fr.app N15 N17q
    have pre17 : Go p.tables e below (s₁.setTop (entryFrame m #[(.long x0), (.int x2)] maxLocals)) T17 (mkF m 46 #[.val (.long x0), .second, .val (.int x2), .val (.ref b2), .val (.ref b8), .val (.ref r_NUMBERED), .val (.int (1 : Int32)), .unset] [(.int (1 : Int32))]) := fun t k => pre16 t (st17.trans k)
    have pre18 : Go p.tables e below (s₁.setTop (entryFrame m #[(.long x0), (.int x2)] maxLocals)) T17 (mkF m 56 #[.val (.long x0), .second, .val (.int x2), .val (.ref b2), .val (.ref b8), .val (.ref r_NUMBERED), .val (.int (1 : Int32)), .unset] [(.int (x2 &&& (1 : Int32)))]) := fun t k => pre17 t (by
        refine XS.iload X17.here hx rfl (hb hby at_46) rfl ?_
        show Steps p.tables e below (T17.setTop (mkF m 48 #[.val (.long x0), .second, .val (.int x2), .val (.ref b2), .val (.ref b8), .val (.ref r_NUMBERED), .val (.int (1 : Int32)), .unset] [(.int (1 : Int32)), (.int (1 : Int32))])) _
        refine XS.icmpYes X17.here hx rfl (pc0 := 48) (pc' := 53) rfl (hb hby at_48) rfl (teq (by decide)).1 (by decide) (by decide) ?_
        show Steps p.tables e below (T17.setTop (mkF m 53 #[.val (.long x0), .second, .val (.int x2), .val (.ref b2), .val (.ref b8), .val (.ref r_NUMBERED), .val (.int (1 : Int32)), .unset] [])) _
        refine XS.iloadN X17.here hx rfl (hb hby at_53) rfl ?_
        show Steps p.tables e below (T17.setTop (mkF m 54 #[.val (.long x0), .second, .val (.int x2), .val (.ref b2), .val (.ref b8), .val (.ref r_NUMBERED), .val (.int (1 : Int32)), .unset] [(.int x2)])) _
        refine XS.iconst X17.here hx rfl (hb hby at_54) ?_
        show Steps p.tables e below (T17.setTop (mkF m 55 #[.val (.long x0), .second, .val (.int x2), .val (.ref b2), .val (.ref b8), .val (.ref r_NUMBERED), .val (.int (1 : Int32)), .unset] [(.int (1 : Int32)), (.int x2)])) _
        refine XS.iand X17.here hx rfl (hb hby at_55) rfl ?_
        exact k)
    by_cases hc19 : (x2 &&& (1 : Int32)) = (0 : Int32)
    · -- hc19: True
      have pre20 : Go p.tables e below (s₁.setTop (entryFrame m #[(.long x0), (.int x2)] maxLocals)) T17 (mkF m 59 #[.val (.long x0), .second, .val (.int x2), .val (.ref b2), .val (.ref b8), .val (.ref r_NUMBERED), .val (.int (1 : Int32)), .unset] []) := fun t k => pre18 t (by
          refine XS.ifNo X17.here hx rfl (hb hby at_56) rfl ((if0 _ _).trans (teq hc19).2) ?_
          exact k)
      obtain ⟨T21, X21, e21, st21⟩ := getS2 X17 hx hZ hown (host := "") (Or.inl (hw _ (List.mem_of_getElem? (i := 38) rfl))) Via.refl e17 (S_TIMESTAMPED.ext f12.2) (g := (mkF m 59 #[.val (.long x0), .second, .val (.int x2), .val (.ref b2), .val (.ref b8), .val (.ref r_NUMBERED), .val (.int (1 : Int32)), .unset] [])) rfl (hb hby at_59)
      have pre21 : Go p.tables e below (s₁.setTop (entryFrame m #[(.long x0), (.int x2)] maxLocals)) T21 (mkF m 62 #[.val (.long x0), .second, .val (.int x2), .val (.ref b2), .val (.ref b8), .val (.ref r_NUMBERED), .val (.int (1 : Int32)), .unset] [(.ref r_TIMESTAMPED)]) := fun t k => pre20 t (st21 _ k)
      have pre22 : Go p.tables e below (s₁.setTop (entryFrame m #[(.long x0), (.int x2)] maxLocals)) T21 (mkF m 72 #[.val (.long x0), .second, .val (.int x2), .val (.ref b2), .val (.ref b8), .val (.ref r_NUMBERED), .val (.int (1 : Int32)), .val (.ref r_TIMESTAMPED)] [(.ref r_TIMESTAMPED)]) := fun t k => pre21 t (by
          refine XS.goto X21.here hx rfl (pc0 := 62) (pc' := 68) rfl (hb hby at_62) (by decide) (by decide) ?_
          show Steps p.tables e below (T21.setTop (mkF m 68 #[.val (.long x0), .second, .val (.int x2), .val (.ref b2), .val (.ref b8), .val (.ref r_NUMBERED), .val (.int (1 : Int32)), .unset] [(.ref r_TIMESTAMPED)])) _
          refine XS.astore X21.here hx rfl (hb hby at_68) rfl rfl (l' := #[.val (.long x0), .second, .val (.int x2), .val (.ref b2), .val (.ref b8), .val (.ref r_NUMBERED), .val (.int (1 : Int32)), .val (.ref r_TIMESTAMPED)]) rfl ?_
          show Steps p.tables e below (T21.setTop (mkF m 70 #[.val (.long x0), .second, .val (.int x2), .val (.ref b2), .val (.ref b8), .val (.ref r_NUMBERED), .val (.int (1 : Int32)), .val (.ref r_TIMESTAMPED)] [])) _
          refine XS.aload X21.here hx rfl (hb hby at_70) rfl rfl ?_
          exact k)
      obtain ⟨cq23, kq23, q23a, q23b, q23c⟩ := isOf hZ e21 (E_TIMESTAMPED.ext f12.2)
      obtain ⟨_, _, ⟨T23, L23, k23, n23⟩, -, X23, ⟨Lc23, hQ23, l23, y23, z23⟩, st23⟩ := X21.virtualBack hx (y := (⟨"com/example/fence/fence/service/ClaimFormat", "checksInWrite", "()Z"⟩ : MethodName)) (z := (⟨"com/example/fence/fence/service/ClaimFormat", "checksInWrite", "()Z"⟩ : MethodName)) hown (mvT hZ (hw _ (List.mem_of_getElem? (i := 33) rfl))) (mvT hZ (hw _ (List.mem_of_getElem? (i := 34) rfl))) (notFace_of_selects (args := #[]) (mvT hZ (hw _ (List.mem_of_getElem? (i := 40) rfl)))) (mvT hZ (hw _ (List.mem_of_getElem? (i := 40) rfl))) (mvT hZ (hw _ (List.mem_of_getElem? (i := 35) rfl))) (by decide) (backOf (W := 0) (rm_chk l Z av0 hw [] r_TIMESTAMPED r_NUMBERED T8.heap n0 (S_NUMBERED.ext f12.2)) hZ (hw _ (List.mem_of_getElem? (i := 37) rfl)) (hw _ (List.mem_of_getElem? (i := 3) rfl)) (by decide) (by decide)) q23a q23c (g := (mkF m 72 #[.val (.long x0), .second, .val (.int x2), .val (.ref b2), .val (.ref b8), .val (.ref r_NUMBERED), .val (.int (1 : Int32)), .val (.ref r_TIMESTAMPED)] [(.ref r_TIMESTAMPED)])) rfl (by rw [hml]; rfl) (Steps.refl _) (argsL := []) (rest := []) (lenOf pd_5 rfl) rfl (by show 2 * 0 + _ ≤ _; exact Nat.le_of_eq rfl) (hb hby at_72) (fun _ _ => ⟨rfl, e21, (by decide : 2 + 0 ≤ _), (by decide : 39 + 0 ≤ _)⟩)
      dsimp only [Pt.U, Pt.locs, Pt.cells, Pt.slots] at X23 l23 y23 z23 st23 hQ23
      subst l23 y23 z23
      obtain ⟨hv23, N23q, e23⟩ := hQ23
      rw [show own_chk r_TIMESTAMPED r_NUMBERED = (0 : Int32) from if_neg (ne_exa E_TIMESTAMPED E_NUMBERED (by decide))] at hv23
      subst hv23
      have N23 := Fr.app N17 N23q
      have pre23 : Go p.tables e below (s₁.setTop (entryFrame m #[(.long x0), (.int x2)] maxLocals)) T23 (mkF m 75 #[.val (.long x0), .second, .val (.int x2), .val (.ref b2), .val (.ref b8), .val (.ref r_NUMBERED), .val (.int (1 : Int32)), .val (.ref r_TIMESTAMPED)] [(.int (0 : Int32))]) := fun t k => pre22 t (st23.trans k)
      have pre24 : Go p.tables e below (s₁.setTop (entryFrame m #[(.long x0), (.int x2)] maxLocals)) T23 (mkF m 77 #[.val (.long x0), .second, .val (.int x2), .val (.ref b2), .val (.ref b8), .val (.ref r_NUMBERED), .val (.int (1 : Int32)), .val (.ref r_TIMESTAMPED)] [(.ref r_TIMESTAMPED), (.int (0 : Int32))]) := fun t k => pre23 t (by
          refine XS.aload X23.here hx rfl (hb hby at_75) rfl rfl ?_
          exact k)
      obtain ⟨cq25, kq25, q25a, q25b, q25c⟩ := isOf hZ e23 (E_TIMESTAMPED.ext f12.2)
      obtain ⟨_, _, ⟨T25, L25, k25, n25⟩, -, X25, ⟨Lc25, hQ25, l25, y25, z25⟩, st25⟩ := X23.virtualBack hx (y := (⟨"com/example/fence/fence/service/ClaimFormat", "waitsLockWait", "()Z"⟩ : MethodName)) (z := (⟨"com/example/fence/fence/service/ClaimFormat", "waitsLockWait", "()Z"⟩ : MethodName)) hown (mvT hZ (hw _ (List.mem_of_getElem? (i := 41) rfl))) (mvT hZ (hw _ (List.mem_of_getElem? (i := 42) rfl))) (notFace_of_selects (args := #[]) (mvT hZ (hw _ (List.mem_of_getElem? (i := 44) rfl)))) (mvT hZ (hw _ (List.mem_of_getElem? (i := 44) rfl))) (mvT hZ (hw _ (List.mem_of_getElem? (i := 43) rfl))) (by decide) (backOf (W := 1) (rm_wai l Z av0 hw [] r_TIMESTAMPED r_TIMESTAMPED T8.heap n0 (S_TIMESTAMPED.ext f12.2)) hZ (hw _ (List.mem_of_getElem? (i := 45) rfl)) (hw _ (List.mem_of_getElem? (i := 3) rfl)) (by decide) (by decide)) q25a q25c (g := (mkF m 77 #[.val (.long x0), .second, .val (.int x2), .val (.ref b2), .val (.ref b8), .val (.ref r_NUMBERED), .val (.int (1 : Int32)), .val (.ref r_TIMESTAMPED)] [(.ref r_TIMESTAMPED), (.int (0 : Int32))])) rfl (by rw [hml]; rfl) (Steps.refl _) (argsL := []) (rest := [(.int (0 : Int32))]) (lenOf pd_5 rfl) rfl (by show 2 * 0 + _ ≤ _; exact Nat.le_of_eq rfl) (hb hby at_77) (fun _ _ => ⟨rfl, e23, (by decide : 2 + 0 ≤ _), (by decide : 39 + 0 ≤ _)⟩)
      dsimp only [Pt.U, Pt.locs, Pt.cells, Pt.slots] at X25 l25 y25 z25 st25 hQ25
      subst l25 y25 z25
      obtain ⟨hv25, N25q, e25⟩ := hQ25
      rw [show own_chk r_TIMESTAMPED r_TIMESTAMPED = (1 : Int32) from if_pos rfl] at hv25
      subst hv25
      have N25 := Fr.app N23 N25q
      have pre25 : Go p.tables e below (s₁.setTop (entryFrame m #[(.long x0), (.int x2)] maxLocals)) T25 (mkF m 80 #[.val (.long x0), .second, .val (.int x2), .val (.ref b2), .val (.ref b8), .val (.ref r_NUMBERED), .val (.int (1 : Int32)), .val (.ref r_TIMESTAMPED)] [(.int (1 : Int32)), (.int (0 : Int32))]) := fun t k => pre24 t (st25.trans k)
      have pre26 : Go p.tables e below (s₁.setTop (entryFrame m #[(.long x0), (.int x2)] maxLocals)) T25 (mkF m 88 #[.val (.long x0), .second, .val (.int x2), .val (.ref b2), .val (.ref b8), .val (.ref r_NUMBERED), .val (.int (1 : Int32)), .val (.ref r_TIMESTAMPED)] [(.int (1 : Int32))]) := fun t k => pre25 t (by
          refine XS.icmpNo X25.here hx rfl (hb hby at_80) rfl (feq (by decide)).1 ?_
          show Steps p.tables e below (T25.setTop (mkF m 83 #[.val (.long x0), .second, .val (.int x2), .val (.ref b2), .val (.ref b8), .val (.ref r_NUMBERED), .val (.int (1 : Int32)), .val (.ref r_TIMESTAMPED)] [])) _
          refine XS.iconst X25.here hx rfl (hb hby at_83) ?_
          show Steps p.tables e below (T25.setTop (mkF m 84 #[.val (.long x0), .second, .val (.int x2), .val (.ref b2), .val (.ref b8), .val (.ref r_NUMBERED), .val (.int (1 : Int32)), .val (.ref r_TIMESTAMPED)] [(.int (1 : Int32))])) _
          refine XS.goto X25.here hx rfl (pc0 := 84) (pc' := 88) rfl (hb hby at_84) (by decide) (by decide) ?_
          exact k)
      obtain ⟨fs, hr, hrun, hended, hW, hsame⟩ := X25.leave (v := some (.int (1 : Int32))) (fun h => by rw [Bd.returns] at h; cases h) (BodyLoose.notSynchronized Bd)
      refine ⟨_, _, pre26 _ ?_, hrun, hended, _, _, rfl, ?_, ⟨_, rfl⟩, hW, hsame.mono (Nat.le_of_ble_eq_true rfl) (Nat.le_of_ble_eq_true rfl)⟩
      · exact retN X25 hx (t := .boolean) Bd.returns (by simp) (hb hby at_88) hr
      · show Q_law Z x0 x2 r_TIMESTAMPED r_NUMBERED h0 n0 _ T25.heap _
        rw [e25]
        exact ⟨rfl, N25⟩
    · -- hc19: False
      have pre27 : Go p.tables e below (s₁.setTop (entryFrame m #[(.long x0), (.int x2)] maxLocals)) T17 (mkF m 65 #[.val (.long x0), .second, .val (.int x2), .val (.ref b2), .val (.ref b8), .val (.ref r_NUMBERED), .val (.int (1 : Int32)), .unset] []) := fun t k => pre18 t (by
          refine XS.ifYes X17.here hx rfl (pc0 := 56) (pc' := 65) rfl (hb hby at_56) rfl ((if0 _ _).trans (feq hc19).2) (by decide) (by decide) ?_
          exact k)
      obtain ⟨T28, X28, e28, st28⟩ := getS2 X17 hx hZ hown (host := "") (Or.inl (hw _ (List.mem_of_getElem? (i := 47) rfl))) Via.refl e17 (S_NUMBERED.ext f12.2) (g := (mkF m 65 #[.val (.long x0), .second, .val (.int x2), .val (.ref b2), .val (.ref b8), .val (.ref r_NUMBERED), .val (.int (1 : Int32)), .unset] [])) rfl (hb hby at_65)
      have pre28 : Go p.tables e below (s₁.setTop (entryFrame m #[(.long x0), (.int x2)] maxLocals)) T28 (mkF m 68 #[.val (.long x0), .second, .val (.int x2), .val (.ref b2), .val (.ref b8), .val (.ref r_NUMBERED), .val (.int (1 : Int32)), .unset] [(.ref r_NUMBERED)]) := fun t k => pre27 t (st28 _ k)
      have pre29 : Go p.tables e below (s₁.setTop (entryFrame m #[(.long x0), (.int x2)] maxLocals)) T28 (mkF m 72 #[.val (.long x0), .second, .val (.int x2), .val (.ref b2), .val (.ref b8), .val (.ref r_NUMBERED), .val (.int (1 : Int32)), .val (.ref r_NUMBERED)] [(.ref r_NUMBERED)]) := fun t k => pre28 t (by
          refine XS.astore X28.here hx rfl (hb hby at_68) rfl rfl (l' := #[.val (.long x0), .second, .val (.int x2), .val (.ref b2), .val (.ref b8), .val (.ref r_NUMBERED), .val (.int (1 : Int32)), .val (.ref r_NUMBERED)]) rfl ?_
          show Steps p.tables e below (T28.setTop (mkF m 70 #[.val (.long x0), .second, .val (.int x2), .val (.ref b2), .val (.ref b8), .val (.ref r_NUMBERED), .val (.int (1 : Int32)), .val (.ref r_NUMBERED)] [])) _
          refine XS.aload X28.here hx rfl (hb hby at_70) rfl rfl ?_
          exact k)
      obtain ⟨cq30, kq30, q30a, q30b, q30c⟩ := isOf hZ e28 (E_NUMBERED.ext f12.2)
      obtain ⟨_, _, ⟨T30, L30, k30, n30⟩, -, X30, ⟨Lc30, hQ30, l30, y30, z30⟩, st30⟩ := X28.virtualBack hx (y := (⟨"com/example/fence/fence/service/ClaimFormat", "checksInWrite", "()Z"⟩ : MethodName)) (z := (⟨"com/example/fence/fence/service/ClaimFormat", "checksInWrite", "()Z"⟩ : MethodName)) hown (mvT hZ (hw _ (List.mem_of_getElem? (i := 33) rfl))) (mvT hZ (hw _ (List.mem_of_getElem? (i := 34) rfl))) (notFace_of_selects (args := #[]) (mvT hZ (hw _ (List.mem_of_getElem? (i := 36) rfl)))) (mvT hZ (hw _ (List.mem_of_getElem? (i := 36) rfl))) (mvT hZ (hw _ (List.mem_of_getElem? (i := 35) rfl))) (by decide) (backOf (W := 0) (rm_chk l Z av0 hw [] r_NUMBERED r_NUMBERED T8.heap n0 (S_NUMBERED.ext f12.2)) hZ (hw _ (List.mem_of_getElem? (i := 37) rfl)) (hw _ (List.mem_of_getElem? (i := 3) rfl)) (by decide) (by decide)) q30a q30c (g := (mkF m 72 #[.val (.long x0), .second, .val (.int x2), .val (.ref b2), .val (.ref b8), .val (.ref r_NUMBERED), .val (.int (1 : Int32)), .val (.ref r_NUMBERED)] [(.ref r_NUMBERED)])) rfl (by rw [hml]; rfl) (Steps.refl _) (argsL := []) (rest := []) (lenOf pd_5 rfl) rfl (by show 2 * 0 + _ ≤ _; exact Nat.le_of_eq rfl) (hb hby at_72) (fun _ _ => ⟨rfl, e28, (by decide : 2 + 0 ≤ _), (by decide : 39 + 0 ≤ _)⟩)
      dsimp only [Pt.U, Pt.locs, Pt.cells, Pt.slots] at X30 l30 y30 z30 st30 hQ30
      subst l30 y30 z30
      obtain ⟨hv30, N30q, e30⟩ := hQ30
      rw [show own_chk r_NUMBERED r_NUMBERED = (1 : Int32) from if_pos rfl] at hv30
      subst hv30
      have N30 := Fr.app N17 N30q
      have pre30 : Go p.tables e below (s₁.setTop (entryFrame m #[(.long x0), (.int x2)] maxLocals)) T30 (mkF m 75 #[.val (.long x0), .second, .val (.int x2), .val (.ref b2), .val (.ref b8), .val (.ref r_NUMBERED), .val (.int (1 : Int32)), .val (.ref r_NUMBERED)] [(.int (1 : Int32))]) := fun t k => pre29 t (st30.trans k)
      have pre31 : Go p.tables e below (s₁.setTop (entryFrame m #[(.long x0), (.int x2)] maxLocals)) T30 (mkF m 77 #[.val (.long x0), .second, .val (.int x2), .val (.ref b2), .val (.ref b8), .val (.ref r_NUMBERED), .val (.int (1 : Int32)), .val (.ref r_NUMBERED)] [(.ref r_NUMBERED), (.int (1 : Int32))]) := fun t k => pre30 t (by
          refine XS.aload X30.here hx rfl (hb hby at_75) rfl rfl ?_
          exact k)
      obtain ⟨cq32, kq32, q32a, q32b, q32c⟩ := isOf hZ e30 (E_NUMBERED.ext f12.2)
      obtain ⟨_, _, ⟨T32, L32, k32, n32⟩, -, X32, ⟨Lc32, hQ32, l32, y32, z32⟩, st32⟩ := X30.virtualBack hx (y := (⟨"com/example/fence/fence/service/ClaimFormat", "waitsLockWait", "()Z"⟩ : MethodName)) (z := (⟨"com/example/fence/fence/service/ClaimFormat", "waitsLockWait", "()Z"⟩ : MethodName)) hown (mvT hZ (hw _ (List.mem_of_getElem? (i := 41) rfl))) (mvT hZ (hw _ (List.mem_of_getElem? (i := 42) rfl))) (notFace_of_selects (args := #[]) (mvT hZ (hw _ (List.mem_of_getElem? (i := 48) rfl)))) (mvT hZ (hw _ (List.mem_of_getElem? (i := 48) rfl))) (mvT hZ (hw _ (List.mem_of_getElem? (i := 43) rfl))) (by decide) (backOf (W := 1) (rm_wai l Z av0 hw [] r_NUMBERED r_TIMESTAMPED T8.heap n0 (S_TIMESTAMPED.ext f12.2)) hZ (hw _ (List.mem_of_getElem? (i := 45) rfl)) (hw _ (List.mem_of_getElem? (i := 3) rfl)) (by decide) (by decide)) q32a q32c (g := (mkF m 77 #[.val (.long x0), .second, .val (.int x2), .val (.ref b2), .val (.ref b8), .val (.ref r_NUMBERED), .val (.int (1 : Int32)), .val (.ref r_NUMBERED)] [(.ref r_NUMBERED), (.int (1 : Int32))])) rfl (by rw [hml]; rfl) (Steps.refl _) (argsL := []) (rest := [(.int (1 : Int32))]) (lenOf pd_5 rfl) rfl (by show 2 * 0 + _ ≤ _; exact Nat.le_of_eq rfl) (hb hby at_77) (fun _ _ => ⟨rfl, e30, (by decide : 2 + 0 ≤ _), (by decide : 39 + 0 ≤ _)⟩)
      dsimp only [Pt.U, Pt.locs, Pt.cells, Pt.slots] at X32 l32 y32 z32 st32 hQ32
      subst l32 y32 z32
      obtain ⟨hv32, N32q, e32⟩ := hQ32
      rw [show own_chk r_NUMBERED r_TIMESTAMPED = (0 : Int32) from if_neg (ne_exa E_NUMBERED E_TIMESTAMPED (by decide))] at hv32
      subst hv32
      have N32 := Fr.app N30 N32q
      have pre32 : Go p.tables e below (s₁.setTop (entryFrame m #[(.long x0), (.int x2)] maxLocals)) T32 (mkF m 80 #[.val (.long x0), .second, .val (.int x2), .val (.ref b2), .val (.ref b8), .val (.ref r_NUMBERED), .val (.int (1 : Int32)), .val (.ref r_NUMBERED)] [(.int (0 : Int32)), (.int (1 : Int32))]) := fun t k => pre31 t (st32.trans k)
      have pre33 : Go p.tables e below (s₁.setTop (entryFrame m #[(.long x0), (.int x2)] maxLocals)) T32 (mkF m 88 #[.val (.long x0), .second, .val (.int x2), .val (.ref b2), .val (.ref b8), .val (.ref r_NUMBERED), .val (.int (1 : Int32)), .val (.ref r_NUMBERED)] [(.int (1 : Int32))]) := fun t k => pre32 t (by
          refine XS.icmpNo X32.here hx rfl (hb hby at_80) rfl (feq (by decide)).1 ?_
          show Steps p.tables e below (T32.setTop (mkF m 83 #[.val (.long x0), .second, .val (.int x2), .val (.ref b2), .val (.ref b8), .val (.ref r_NUMBERED), .val (.int (1 : Int32)), .val (.ref r_NUMBERED)] [])) _
          refine XS.iconst X32.here hx rfl (hb hby at_83) ?_
          show Steps p.tables e below (T32.setTop (mkF m 84 #[.val (.long x0), .second, .val (.int x2), .val (.ref b2), .val (.ref b8), .val (.ref r_NUMBERED), .val (.int (1 : Int32)), .val (.ref r_NUMBERED)] [(.int (1 : Int32))])) _
          refine XS.goto X32.here hx rfl (pc0 := 84) (pc' := 88) rfl (hb hby at_84) (by decide) (by decide) ?_
          exact k)
      obtain ⟨fs, hr, hrun, hended, hW, hsame⟩ := X32.leave (v := some (.int (1 : Int32))) (fun h => by rw [Bd.returns] at h; cases h) (BodyLoose.notSynchronized Bd)
      refine ⟨_, _, pre33 _ ?_, hrun, hended, _, _, rfl, ?_, ⟨_, rfl⟩, hW, hsame.mono (Nat.le_of_ble_eq_true rfl) (Nat.le_of_ble_eq_true rfl)⟩
      · exact retN X32 hx (t := .boolean) Bd.returns (by simp) (hb hby at_88) hr
      · show Q_law Z x0 x2 r_TIMESTAMPED r_NUMBERED h0 n0 _ T32.heap _
        rw [e32]
        exact ⟨rfl, N32⟩
  · -- False
    have pre34 : Go p.tables e below (s₁.setTop (entryFrame m #[(.long x0), (.int x2)] maxLocals)) s₁ (mkF m 2 #[.val (.long x0), .second, .val (.int x2), .unset, .unset, .unset, .unset, .unset] [(.int (8 : Int32))]) := fun t k => pre0 t (by
        refine XS.bipush X0.here hx rfl (hb hby at_0) ?_
        exact k)
    obtain ⟨T35, h35, k35, X35, e35, E35, A35, st35⟩ := newP X0 hx hZ (hw _ (List.mem_of_getElem? (i := 0) rfl)) e0 (g := (mkF m 2 #[.val (.long x0), .second, .val (.int x2), .unset, .unset, .unset, .unset, .unset] [(.int (8 : Int32))])) rfl (hb hby at_2) rfl (by decide) (cap := 8) (by decide) (by decide) (by decide) (by decide)
    obtain ⟨b35, ga35⟩ : ∃ z, z = h0.size := ⟨_, rfl⟩
    rw [← ga35] at A35 st35
    have g36 : n0 ≤ b35 := Nat.le_trans Z0 (Nat.le_of_eq ga35.symm)
    have f37 : n0 ≤ h35.size := Nat.le_trans Z0 E35.1
    have f38 : Old Z n0 h35 := O0.ext E35
    have f39 : Arv Z h35 b35 k35 .byte (8 : Int32) [(.int (0 : Int32)), (.int (0 : Int32)), (.int (0 : Int32)), (.int (0 : Int32)), (.int (0 : Int32)), (.int (0 : Int32)), (.int (0 : Int32)), (.int (0 : Int32))] (.int (0 : Int32)) := (Arv.new A35 (by decide)).pad (pad_rep [] (.int (0 : Int32)) 8)
    have pre35 : Go p.tables e below (s₁.setTop (entryFrame m #[(.long x0), (.int x2)] maxLocals)) T35 (mkF m 4 #[.val (.long x0), .second, .val (.int x2), .unset, .unset, .unset, .unset, .unset] [(.ref b35)]) := fun t k => pre34 t (st35 _ k)
    have pre40 : Go p.tables e below (s₁.setTop (entryFrame m #[(.long x0), (.int x2)] maxLocals)) T35 (mkF m 7 #[.val (.long x0), .second, .val (.int x2), .val (.ref b35), .unset, .unset, .unset, .unset] [(.ref b35), (.long x0)]) := fun t k => pre35 t (by
        refine XS.astoreN X35.here hx rfl (hb hby at_4) rfl rfl (l' := #[.val (.long x0), .second, .val (.int x2), .val (.ref b35), .unset, .unset, .unset, .unset]) rfl ?_
        show Steps p.tables e below (T35.setTop (mkF m 5 #[.val (.long x0), .second, .val (.int x2), .val (.ref b35), .unset, .unset, .unset, .unset] [])) _
        refine XS.lloadN X35.here hx rfl (hb hby at_5) rfl ?_
        show Steps p.tables e below (T35.setTop (mkF m 6 #[.val (.long x0), .second, .val (.int x2), .val (.ref b35), .unset, .unset, .unset, .unset] [(.long x0)])) _
        refine XS.aloadN X35.here hx rfl (hb hby at_6) rfl rfl ?_
        exact k)
    obtain ⟨_, _, ⟨T41, L41, k41, n41⟩, -, X41, ⟨Lc41, hQ41, l41, y41, z41⟩, st41⟩ := Jvm.LawKit.callS X35 hx (y := (⟨"com/example/fence/fence/service/ClaimFormat", "stamp", "(J[B)[B"⟩ : MethodName)) hown (mvT hZ (hw _ (List.mem_of_getElem? (i := 1) rfl))) (mvT hZ (hw _ (List.mem_of_getElem? (i := 2) rfl))) (mvT hZ (hw _ (List.mem_of_getElem? (i := 3) rfl))) (mvT hZ (hw _ (List.mem_of_getElem? (i := 4) rfl))) (by decide) (backOf (W := 0) (rm_stp l Z av0 hw [] x0 b35 k35 (8 : Int32) [(.int (0 : Int32)), (.int (0 : Int32)), (.int (0 : Int32)), (.int (0 : Int32)), (.int (0 : Int32)), (.int (0 : Int32)), (.int (0 : Int32)), (.int (0 : Int32))] (.int (0 : Int32)) h35 n0 f37 f39 (by decide) (by decide)) hZ (hw _ (List.mem_of_getElem? (i := 4) rfl)) (hw _ (List.mem_of_getElem? (i := 3) rfl)) (by decide) (by decide)) (g := (mkF m 7 #[.val (.long x0), .second, .val (.int x2), .val (.ref b35), .unset, .unset, .unset, .unset] [(.ref b35), (.long x0)])) rfl (by rw [hml]; rfl) (argsL := [(.long x0), (.ref b35)]) (rest := []) (lenOf pd_3 rfl) rfl (by show 2 * 0 + _ ≤ _; exact Nat.le_of_eq rfl) (hb hby at_7) (fun _ _ => ⟨rfl, e35, (by decide : 1 + 1 ≤ _), (by decide : 8 + 31 ≤ _)⟩)
    dsimp only [Pt.U, Pt.locs, Pt.cells, Pt.slots] at X41 l41 y41 z41 st41 hQ41
    subst l41 y41 z41
    obtain ⟨b41, kc41, ws41, rfl, N41q, K41, gb41, sb41, V41⟩ := hQ41
    have ne42 : b35 ≠ b41 := Nat.ne_of_lt (Nat.lt_of_lt_of_le f39.lt sb41)
    have g43 : n0 ≤ b41 := Nat.le_trans f37 sb41
    have f44 : n0 ≤ T41.heap.size := Nat.le_trans f37 K41.1
    have f45 : Old Z n0 T41.heap := f38.keep K41 all0
    have f46 : Arv Z T41.heap b35 k35 .byte (8 : Int32) [(.int (0 : Int32)), (.int (0 : Int32)), (.int (0 : Int32)), (.int (0 : Int32)), (.int (0 : Int32)), (.int (0 : Int32)), (.int (0 : Int32)), (.int (0 : Int32))] (.int (0 : Int32)) := f39.keep K41 nin0
    have N41 := Fr.app N0 N41q
    have pre41 : Go p.tables e below (s₁.setTop (entryFrame m #[(.long x0), (.int x2)] maxLocals)) T41 (mkF m 10 #[.val (.long x0), .second, .val (.int x2), .val (.ref b35), .unset, .unset, .unset, .unset] [(.ref b41)]) := fun t k => pre40 t (st41 _ k)
    have pre47 : Go p.tables e below (s₁.setTop (entryFrame m #[(.long x0), (.int x2)] maxLocals)) T41 (mkF m 14 #[.val (.long x0), .second, .val (.int x2), .val (.ref b35), .val (.ref b41), .unset, .unset, .unset] [(.ref b41)]) := fun t k => pre41 t (by
        refine XS.astore X41.here hx rfl (hb hby at_10) rfl rfl (l' := #[.val (.long x0), .second, .val (.int x2), .val (.ref b35), .val (.ref b41), .unset, .unset, .unset]) rfl ?_
        show Steps p.tables e below (T41.setTop (mkF m 12 #[.val (.long x0), .second, .val (.int x2), .val (.ref b35), .val (.ref b41), .unset, .unset, .unset] [])) _
        refine XS.aload X41.here hx rfl (hb hby at_12) rfl rfl ?_
        exact k)
    obtain ⟨_, _, ⟨T48, L48, k48, n48⟩, -, X48, ⟨Lc48, hQ48, l48, y48, z48⟩, st48⟩ := Jvm.LawKit.callS X41 hx (y := (⟨"com/example/fence/fence/service/ClaimFormat", "ofColumn", "([B)Lcom/example/fence/fence/service/ClaimFormat;"⟩ : MethodName)) hown (mvT hZ (hw _ (List.mem_of_getElem? (i := 13) rfl))) (mvT hZ (hw _ (List.mem_of_getElem? (i := 14) rfl))) (mvT hZ (hw _ (List.mem_of_getElem? (i := 3) rfl))) (mvT hZ (hw _ (List.mem_of_getElem? (i := 15) rfl))) (by decide) (backOf (W := 0) (rm_ofc l Z av0 hw [] b41 kc41 ((8 : Int32) + (8 : Int32)) ([(.int (own_b8 (own_sh x0 56))), (.int (own_b8 (own_sh x0 48))), (.int (own_b8 (own_sh x0 40))), (.int (own_b8 (own_sh x0 32))), (.int (own_b8 (own_sh x0 24))), (.int (own_b8 (own_sh x0 16))), (.int (own_b8 (own_sh x0 8))), (.int (own_b8 x0))] ++ ws41) (.int (0 : Int32)) (own_b8 (own_sh x0 56)) (own_b8 (own_sh x0 48)) (own_b8 (own_sh x0 40)) (own_b8 (own_sh x0 32)) (own_b8 (own_sh x0 24)) (own_b8 (own_sh x0 16)) (own_b8 (own_sh x0 8)) (own_b8 x0) x0 r_TIMESTAMPED r_NUMBERED T41.heap n0 f45 S_TIMESTAMPED S_NUMBERED E_TIMESTAMPED E_NUMBERED F_TIMESTAMPED F_NUMBERED V41 rfl rfl rfl rfl rfl rfl rfl rfl (own_long_eq x0)) hZ (hw _ (List.mem_of_getElem? (i := 15) rfl)) (hw _ (List.mem_of_getElem? (i := 3) rfl)) (by decide) (by decide)) (g := (mkF m 14 #[.val (.long x0), .second, .val (.int x2), .val (.ref b35), .val (.ref b41), .unset, .unset, .unset] [(.ref b41)])) rfl (by rw [hml]; rfl) (argsL := [(.ref b41)]) (rest := []) (lenOf pd_4 rfl) rfl (by show 2 * 0 + _ ≤ _; exact Nat.le_of_eq rfl) (hb hby at_14) (fun _ _ => ⟨rfl, rfl, (by decide : 2 + 0 ≤ _), (by decide : 39 + 0 ≤ _)⟩)
    dsimp only [Pt.U, Pt.locs, Pt.cells, Pt.slots] at X48 l48 y48 z48 st48 hQ48
    subst l48 y48 z48
    obtain ⟨hv48, N48q, e48⟩ := hQ48
    rw [show own_of x0 ((8 : Int32) + (8 : Int32)) r_TIMESTAMPED r_NUMBERED = .ref r_TIMESTAMPED from by rw [own_of, if_neg (by decide), if_neg hT, if_neg (by decide)]] at hv48
    subst hv48
    have N48 := Fr.app N41 N48q
    have pre48 : Go p.tables e below (s₁.setTop (entryFrame m #[(.long x0), (.int x2)] maxLocals)) T48 (mkF m 17 #[.val (.long x0), .second, .val (.int x2), .val (.ref b35), .val (.ref b41), .unset, .unset, .unset] [(.ref r_TIMESTAMPED)]) := fun t k => pre47 t (st48 _ k)
    have pre49 : Go p.tables e below (s₁.setTop (entryFrame m #[(.long x0), (.int x2)] maxLocals)) T48 (mkF m 43 #[.val (.long x0), .second, .val (.int x2), .val (.ref b35), .val (.ref b41), .val (.ref r_TIMESTAMPED), .val (.int (0 : Int32)), .unset] [(.ref r_TIMESTAMPED)]) := fun t k => pre48 t (by
        refine XS.astore X48.here hx rfl (hb hby at_17) rfl rfl (l' := #[.val (.long x0), .second, .val (.int x2), .val (.ref b35), .val (.ref b41), .val (.ref r_TIMESTAMPED), .unset, .unset]) rfl ?_
        show Steps p.tables e below (T48.setTop (mkF m 19 #[.val (.long x0), .second, .val (.int x2), .val (.ref b35), .val (.ref b41), .val (.ref r_TIMESTAMPED), .unset, .unset] [])) _
        refine XS.aload X48.here hx rfl (hb hby at_19) rfl rfl ?_
        show Steps p.tables e below (T48.setTop (mkF m 21 #[.val (.long x0), .second, .val (.int x2), .val (.ref b35), .val (.ref b41), .val (.ref r_TIMESTAMPED), .unset, .unset] [(.ref r_TIMESTAMPED)])) _
        refine XS.ifnonnullYes X48.here hx rfl (pc0 := 21) (pc' := 26) rfl (hb hby at_21) rfl (by decide) (by decide) ?_
        show Steps p.tables e below (T48.setTop (mkF m 26 #[.val (.long x0), .second, .val (.int x2), .val (.ref b35), .val (.ref b41), .val (.ref r_TIMESTAMPED), .unset, .unset] [])) _
        refine XS.lloadN X48.here hx rfl (hb hby at_26) rfl ?_
        show Steps p.tables e below (T48.setTop (mkF m 27 #[.val (.long x0), .second, .val (.int x2), .val (.ref b35), .val (.ref b41), .val (.ref r_TIMESTAMPED), .unset, .unset] [(.long x0)])) _
        refine X48.ldc2Long hx hown (mvT hZ (hw _ (List.mem_of_getElem? (i := 32) rfl))) (g := (mkF m 27 #[.val (.long x0), .second, .val (.int x2), .val (.ref b35), .val (.ref b41), .val (.ref r_TIMESTAMPED), .unset, .unset] [(.long x0)])) rfl (hb hby at_27) _ ?_
        show Steps p.tables e below (T48.setTop (mkF m 30 #[.val (.long x0), .second, .val (.int x2), .val (.ref b35), .val (.ref b41), .val (.ref r_TIMESTAMPED), .unset, .unset] [(.long (946684800000000000 : Int64)), (.long x0)])) _
        refine XS.lcmp X48.here hx rfl (hb hby at_30) rfl ?_
        show Steps p.tables e below (T48.setTop (mkF m 31 #[.val (.long x0), .second, .val (.int x2), .val (.ref b35), .val (.ref b41), .val (.ref r_TIMESTAMPED), .unset, .unset] [(.int (lcmpW x0 (946684800000000000 : Int64)))])) _
        refine XS.ifYes X48.here hx rfl (pc0 := 31) (pc' := 38) rfl (hb hby at_31) rfl ((if0 _ _).trans (flt (mt (lw_lt _ _).mp hT)).2.1) (by decide) (by decide) ?_
        show Steps p.tables e below (T48.setTop (mkF m 38 #[.val (.long x0), .second, .val (.int x2), .val (.ref b35), .val (.ref b41), .val (.ref r_TIMESTAMPED), .unset, .unset] [])) _
        refine XS.iconst X48.here hx rfl (hb hby at_38) ?_
        show Steps p.tables e below (T48.setTop (mkF m 39 #[.val (.long x0), .second, .val (.int x2), .val (.ref b35), .val (.ref b41), .val (.ref r_TIMESTAMPED), .unset, .unset] [(.int (0 : Int32))])) _
        refine XS.istore X48.here hx rfl (hb hby at_39) rfl (l' := #[.val (.long x0), .second, .val (.int x2), .val (.ref b35), .val (.ref b41), .val (.ref r_TIMESTAMPED), .val (.int (0 : Int32)), .unset]) rfl ?_
        show Steps p.tables e below (T48.setTop (mkF m 41 #[.val (.long x0), .second, .val (.int x2), .val (.ref b35), .val (.ref b41), .val (.ref r_TIMESTAMPED), .val (.int (0 : Int32)), .unset] [])) _
        refine XS.aload X48.here hx rfl (hb hby at_41) rfl rfl ?_
        exact k)
    obtain ⟨cq50, kq50, q50a, q50b, q50c⟩ := isOf hZ e48 (E_TIMESTAMPED.ext f45.2)
    obtain ⟨_, _, ⟨T50, L50, k50, n50⟩, -, X50, ⟨Lc50, hQ50, l50, y50, z50⟩, st50⟩ := X48.virtualBack hx (y := (⟨"com/example/fence/fence/service/ClaimFormat", "checksInWrite", "()Z"⟩ : MethodName)) (z := (⟨"com/example/fence/fence/service/ClaimFormat", "checksInWrite", "()Z"⟩ : MethodName)) hown (mvT hZ (hw _ (List.mem_of_getElem? (i := 33) rfl))) (mvT hZ (hw _ (List.mem_of_getElem? (i := 34) rfl))) (notFace_of_selects (args := #[]) (mvT hZ (hw _ (List.mem_of_getElem? (i := 40) rfl)))) (mvT hZ (hw _ (List.mem_of_getElem? (i := 40) rfl))) (mvT hZ (hw _ (List.mem_of_getElem? (i := 35) rfl))) (by decide) (backOf (W := 0) (rm_chk l Z av0 hw [] r_TIMESTAMPED r_NUMBERED T41.heap n0 (S_NUMBERED.ext f45.2)) hZ (hw _ (List.mem_of_getElem? (i := 37) rfl)) (hw _ (List.mem_of_getElem? (i := 3) rfl)) (by decide) (by decide)) q50a q50c (g := (mkF m 43 #[.val (.long x0), .second, .val (.int x2), .val (.ref b35), .val (.ref b41), .val (.ref r_TIMESTAMPED), .val (.int (0 : Int32)), .unset] [(.ref r_TIMESTAMPED)])) rfl (by rw [hml]; rfl) (Steps.refl _) (argsL := []) (rest := []) (lenOf pd_5 rfl) rfl (by show 2 * 0 + _ ≤ _; exact Nat.le_of_eq rfl) (hb hby at_43) (fun _ _ => ⟨rfl, e48, (by decide : 2 + 0 ≤ _), (by decide : 39 + 0 ≤ _)⟩)
    dsimp only [Pt.U, Pt.locs, Pt.cells, Pt.slots] at X50 l50 y50 z50 st50 hQ50
    subst l50 y50 z50
    obtain ⟨hv50, N50q, e50⟩ := hQ50
    rw [show own_chk r_TIMESTAMPED r_NUMBERED = (0 : Int32) from if_neg (ne_exa E_TIMESTAMPED E_NUMBERED (by decide))] at hv50
    subst hv50
    have N50 := Fr.app N48 N50q
    have pre50 : Go p.tables e below (s₁.setTop (entryFrame m #[(.long x0), (.int x2)] maxLocals)) T50 (mkF m 46 #[.val (.long x0), .second, .val (.int x2), .val (.ref b35), .val (.ref b41), .val (.ref r_TIMESTAMPED), .val (.int (0 : Int32)), .unset] [(.int (0 : Int32))]) := fun t k => pre49 t (st50.trans k)
    have pre51 : Go p.tables e below (s₁.setTop (entryFrame m #[(.long x0), (.int x2)] maxLocals)) T50 (mkF m 56 #[.val (.long x0), .second, .val (.int x2), .val (.ref b35), .val (.ref b41), .val (.ref r_TIMESTAMPED), .val (.int (0 : Int32)), .unset] [(.int (x2 &&& (1 : Int32)))]) := fun t k => pre50 t (by
        refine XS.iload X50.here hx rfl (hb hby at_46) rfl ?_
        show Steps p.tables e below (T50.setTop (mkF m 48 #[.val (.long x0), .second, .val (.int x2), .val (.ref b35), .val (.ref b41), .val (.ref r_TIMESTAMPED), .val (.int (0 : Int32)), .unset] [(.int (0 : Int32)), (.int (0 : Int32))])) _
        refine XS.icmpYes X50.here hx rfl (pc0 := 48) (pc' := 53) rfl (hb hby at_48) rfl (teq (by decide)).1 (by decide) (by decide) ?_
        show Steps p.tables e below (T50.setTop (mkF m 53 #[.val (.long x0), .second, .val (.int x2), .val (.ref b35), .val (.ref b41), .val (.ref r_TIMESTAMPED), .val (.int (0 : Int32)), .unset] [])) _
        refine XS.iloadN X50.here hx rfl (hb hby at_53) rfl ?_
        show Steps p.tables e below (T50.setTop (mkF m 54 #[.val (.long x0), .second, .val (.int x2), .val (.ref b35), .val (.ref b41), .val (.ref r_TIMESTAMPED), .val (.int (0 : Int32)), .unset] [(.int x2)])) _
        refine XS.iconst X50.here hx rfl (hb hby at_54) ?_
        show Steps p.tables e below (T50.setTop (mkF m 55 #[.val (.long x0), .second, .val (.int x2), .val (.ref b35), .val (.ref b41), .val (.ref r_TIMESTAMPED), .val (.int (0 : Int32)), .unset] [(.int (1 : Int32)), (.int x2)])) _
        refine XS.iand X50.here hx rfl (hb hby at_55) rfl ?_
        exact k)
    by_cases hc52 : (x2 &&& (1 : Int32)) = (0 : Int32)
    · -- hc52: True
      have pre53 : Go p.tables e below (s₁.setTop (entryFrame m #[(.long x0), (.int x2)] maxLocals)) T50 (mkF m 59 #[.val (.long x0), .second, .val (.int x2), .val (.ref b35), .val (.ref b41), .val (.ref r_TIMESTAMPED), .val (.int (0 : Int32)), .unset] []) := fun t k => pre51 t (by
          refine XS.ifNo X50.here hx rfl (hb hby at_56) rfl ((if0 _ _).trans (teq hc52).2) ?_
          exact k)
      obtain ⟨T54, X54, e54, st54⟩ := getS2 X50 hx hZ hown (host := "") (Or.inl (hw _ (List.mem_of_getElem? (i := 38) rfl))) Via.refl e50 (S_TIMESTAMPED.ext f45.2) (g := (mkF m 59 #[.val (.long x0), .second, .val (.int x2), .val (.ref b35), .val (.ref b41), .val (.ref r_TIMESTAMPED), .val (.int (0 : Int32)), .unset] [])) rfl (hb hby at_59)
      have pre54 : Go p.tables e below (s₁.setTop (entryFrame m #[(.long x0), (.int x2)] maxLocals)) T54 (mkF m 62 #[.val (.long x0), .second, .val (.int x2), .val (.ref b35), .val (.ref b41), .val (.ref r_TIMESTAMPED), .val (.int (0 : Int32)), .unset] [(.ref r_TIMESTAMPED)]) := fun t k => pre53 t (st54 _ k)
      have pre55 : Go p.tables e below (s₁.setTop (entryFrame m #[(.long x0), (.int x2)] maxLocals)) T54 (mkF m 72 #[.val (.long x0), .second, .val (.int x2), .val (.ref b35), .val (.ref b41), .val (.ref r_TIMESTAMPED), .val (.int (0 : Int32)), .val (.ref r_TIMESTAMPED)] [(.ref r_TIMESTAMPED)]) := fun t k => pre54 t (by
          refine XS.goto X54.here hx rfl (pc0 := 62) (pc' := 68) rfl (hb hby at_62) (by decide) (by decide) ?_
          show Steps p.tables e below (T54.setTop (mkF m 68 #[.val (.long x0), .second, .val (.int x2), .val (.ref b35), .val (.ref b41), .val (.ref r_TIMESTAMPED), .val (.int (0 : Int32)), .unset] [(.ref r_TIMESTAMPED)])) _
          refine XS.astore X54.here hx rfl (hb hby at_68) rfl rfl (l' := #[.val (.long x0), .second, .val (.int x2), .val (.ref b35), .val (.ref b41), .val (.ref r_TIMESTAMPED), .val (.int (0 : Int32)), .val (.ref r_TIMESTAMPED)]) rfl ?_
          show Steps p.tables e below (T54.setTop (mkF m 70 #[.val (.long x0), .second, .val (.int x2), .val (.ref b35), .val (.ref b41), .val (.ref r_TIMESTAMPED), .val (.int (0 : Int32)), .val (.ref r_TIMESTAMPED)] [])) _
          refine XS.aload X54.here hx rfl (hb hby at_70) rfl rfl ?_
          exact k)
      obtain ⟨cq56, kq56, q56a, q56b, q56c⟩ := isOf hZ e54 (E_TIMESTAMPED.ext f45.2)
      obtain ⟨_, _, ⟨T56, L56, k56, n56⟩, -, X56, ⟨Lc56, hQ56, l56, y56, z56⟩, st56⟩ := X54.virtualBack hx (y := (⟨"com/example/fence/fence/service/ClaimFormat", "checksInWrite", "()Z"⟩ : MethodName)) (z := (⟨"com/example/fence/fence/service/ClaimFormat", "checksInWrite", "()Z"⟩ : MethodName)) hown (mvT hZ (hw _ (List.mem_of_getElem? (i := 33) rfl))) (mvT hZ (hw _ (List.mem_of_getElem? (i := 34) rfl))) (notFace_of_selects (args := #[]) (mvT hZ (hw _ (List.mem_of_getElem? (i := 40) rfl)))) (mvT hZ (hw _ (List.mem_of_getElem? (i := 40) rfl))) (mvT hZ (hw _ (List.mem_of_getElem? (i := 35) rfl))) (by decide) (backOf (W := 0) (rm_chk l Z av0 hw [] r_TIMESTAMPED r_NUMBERED T41.heap n0 (S_NUMBERED.ext f45.2)) hZ (hw _ (List.mem_of_getElem? (i := 37) rfl)) (hw _ (List.mem_of_getElem? (i := 3) rfl)) (by decide) (by decide)) q56a q56c (g := (mkF m 72 #[.val (.long x0), .second, .val (.int x2), .val (.ref b35), .val (.ref b41), .val (.ref r_TIMESTAMPED), .val (.int (0 : Int32)), .val (.ref r_TIMESTAMPED)] [(.ref r_TIMESTAMPED)])) rfl (by rw [hml]; rfl) (Steps.refl _) (argsL := []) (rest := []) (lenOf pd_5 rfl) rfl (by show 2 * 0 + _ ≤ _; exact Nat.le_of_eq rfl) (hb hby at_72) (fun _ _ => ⟨rfl, e54, (by decide : 2 + 0 ≤ _), (by decide : 39 + 0 ≤ _)⟩)
      dsimp only [Pt.U, Pt.locs, Pt.cells, Pt.slots] at X56 l56 y56 z56 st56 hQ56
      subst l56 y56 z56
      obtain ⟨hv56, N56q, e56⟩ := hQ56
      rw [show own_chk r_TIMESTAMPED r_NUMBERED = (0 : Int32) from if_neg (ne_exa E_TIMESTAMPED E_NUMBERED (by decide))] at hv56
      subst hv56
      have N56 := Fr.app N50 N56q
      have pre56 : Go p.tables e below (s₁.setTop (entryFrame m #[(.long x0), (.int x2)] maxLocals)) T56 (mkF m 75 #[.val (.long x0), .second, .val (.int x2), .val (.ref b35), .val (.ref b41), .val (.ref r_TIMESTAMPED), .val (.int (0 : Int32)), .val (.ref r_TIMESTAMPED)] [(.int (0 : Int32))]) := fun t k => pre55 t (st56.trans k)
      have pre57 : Go p.tables e below (s₁.setTop (entryFrame m #[(.long x0), (.int x2)] maxLocals)) T56 (mkF m 77 #[.val (.long x0), .second, .val (.int x2), .val (.ref b35), .val (.ref b41), .val (.ref r_TIMESTAMPED), .val (.int (0 : Int32)), .val (.ref r_TIMESTAMPED)] [(.ref r_TIMESTAMPED), (.int (0 : Int32))]) := fun t k => pre56 t (by
          refine XS.aload X56.here hx rfl (hb hby at_75) rfl rfl ?_
          exact k)
      obtain ⟨cq58, kq58, q58a, q58b, q58c⟩ := isOf hZ e56 (E_TIMESTAMPED.ext f45.2)
      obtain ⟨_, _, ⟨T58, L58, k58, n58⟩, -, X58, ⟨Lc58, hQ58, l58, y58, z58⟩, st58⟩ := X56.virtualBack hx (y := (⟨"com/example/fence/fence/service/ClaimFormat", "waitsLockWait", "()Z"⟩ : MethodName)) (z := (⟨"com/example/fence/fence/service/ClaimFormat", "waitsLockWait", "()Z"⟩ : MethodName)) hown (mvT hZ (hw _ (List.mem_of_getElem? (i := 41) rfl))) (mvT hZ (hw _ (List.mem_of_getElem? (i := 42) rfl))) (notFace_of_selects (args := #[]) (mvT hZ (hw _ (List.mem_of_getElem? (i := 44) rfl)))) (mvT hZ (hw _ (List.mem_of_getElem? (i := 44) rfl))) (mvT hZ (hw _ (List.mem_of_getElem? (i := 43) rfl))) (by decide) (backOf (W := 1) (rm_wai l Z av0 hw [] r_TIMESTAMPED r_TIMESTAMPED T41.heap n0 (S_TIMESTAMPED.ext f45.2)) hZ (hw _ (List.mem_of_getElem? (i := 45) rfl)) (hw _ (List.mem_of_getElem? (i := 3) rfl)) (by decide) (by decide)) q58a q58c (g := (mkF m 77 #[.val (.long x0), .second, .val (.int x2), .val (.ref b35), .val (.ref b41), .val (.ref r_TIMESTAMPED), .val (.int (0 : Int32)), .val (.ref r_TIMESTAMPED)] [(.ref r_TIMESTAMPED), (.int (0 : Int32))])) rfl (by rw [hml]; rfl) (Steps.refl _) (argsL := []) (rest := [(.int (0 : Int32))]) (lenOf pd_5 rfl) rfl (by show 2 * 0 + _ ≤ _; exact Nat.le_of_eq rfl) (hb hby at_77) (fun _ _ => ⟨rfl, e56, (by decide : 2 + 0 ≤ _), (by decide : 39 + 0 ≤ _)⟩)
      dsimp only [Pt.U, Pt.locs, Pt.cells, Pt.slots] at X58 l58 y58 z58 st58 hQ58
      subst l58 y58 z58
      obtain ⟨hv58, N58q, e58⟩ := hQ58
      rw [show own_chk r_TIMESTAMPED r_TIMESTAMPED = (1 : Int32) from if_pos rfl] at hv58
      subst hv58
      have N58 := Fr.app N56 N58q
      have pre58 : Go p.tables e below (s₁.setTop (entryFrame m #[(.long x0), (.int x2)] maxLocals)) T58 (mkF m 80 #[.val (.long x0), .second, .val (.int x2), .val (.ref b35), .val (.ref b41), .val (.ref r_TIMESTAMPED), .val (.int (0 : Int32)), .val (.ref r_TIMESTAMPED)] [(.int (1 : Int32)), (.int (0 : Int32))]) := fun t k => pre57 t (st58.trans k)
      have pre59 : Go p.tables e below (s₁.setTop (entryFrame m #[(.long x0), (.int x2)] maxLocals)) T58 (mkF m 88 #[.val (.long x0), .second, .val (.int x2), .val (.ref b35), .val (.ref b41), .val (.ref r_TIMESTAMPED), .val (.int (0 : Int32)), .val (.ref r_TIMESTAMPED)] [(.int (1 : Int32))]) := fun t k => pre58 t (by
          refine XS.icmpNo X58.here hx rfl (hb hby at_80) rfl (feq (by decide)).1 ?_
          show Steps p.tables e below (T58.setTop (mkF m 83 #[.val (.long x0), .second, .val (.int x2), .val (.ref b35), .val (.ref b41), .val (.ref r_TIMESTAMPED), .val (.int (0 : Int32)), .val (.ref r_TIMESTAMPED)] [])) _
          refine XS.iconst X58.here hx rfl (hb hby at_83) ?_
          show Steps p.tables e below (T58.setTop (mkF m 84 #[.val (.long x0), .second, .val (.int x2), .val (.ref b35), .val (.ref b41), .val (.ref r_TIMESTAMPED), .val (.int (0 : Int32)), .val (.ref r_TIMESTAMPED)] [(.int (1 : Int32))])) _
          refine XS.goto X58.here hx rfl (pc0 := 84) (pc' := 88) rfl (hb hby at_84) (by decide) (by decide) ?_
          exact k)
      obtain ⟨fs, hr, hrun, hended, hW, hsame⟩ := X58.leave (v := some (.int (1 : Int32))) (fun h => by rw [Bd.returns] at h; cases h) (BodyLoose.notSynchronized Bd)
      refine ⟨_, _, pre59 _ ?_, hrun, hended, _, _, rfl, ?_, ⟨_, rfl⟩, hW, hsame.mono (Nat.le_of_ble_eq_true rfl) (Nat.le_of_ble_eq_true rfl)⟩
      · exact retN X58 hx (t := .boolean) Bd.returns (by simp) (hb hby at_88) hr
      · show Q_law Z x0 x2 r_TIMESTAMPED r_NUMBERED h0 n0 _ T58.heap _
        rw [e58]
        exact ⟨rfl, N58⟩
    · -- hc52: False
      have pre60 : Go p.tables e below (s₁.setTop (entryFrame m #[(.long x0), (.int x2)] maxLocals)) T50 (mkF m 65 #[.val (.long x0), .second, .val (.int x2), .val (.ref b35), .val (.ref b41), .val (.ref r_TIMESTAMPED), .val (.int (0 : Int32)), .unset] []) := fun t k => pre51 t (by
          refine XS.ifYes X50.here hx rfl (pc0 := 56) (pc' := 65) rfl (hb hby at_56) rfl ((if0 _ _).trans (feq hc52).2) (by decide) (by decide) ?_
          exact k)
      obtain ⟨T61, X61, e61, st61⟩ := getS2 X50 hx hZ hown (host := "") (Or.inl (hw _ (List.mem_of_getElem? (i := 47) rfl))) Via.refl e50 (S_NUMBERED.ext f45.2) (g := (mkF m 65 #[.val (.long x0), .second, .val (.int x2), .val (.ref b35), .val (.ref b41), .val (.ref r_TIMESTAMPED), .val (.int (0 : Int32)), .unset] [])) rfl (hb hby at_65)
      have pre61 : Go p.tables e below (s₁.setTop (entryFrame m #[(.long x0), (.int x2)] maxLocals)) T61 (mkF m 68 #[.val (.long x0), .second, .val (.int x2), .val (.ref b35), .val (.ref b41), .val (.ref r_TIMESTAMPED), .val (.int (0 : Int32)), .unset] [(.ref r_NUMBERED)]) := fun t k => pre60 t (st61 _ k)
      have pre62 : Go p.tables e below (s₁.setTop (entryFrame m #[(.long x0), (.int x2)] maxLocals)) T61 (mkF m 72 #[.val (.long x0), .second, .val (.int x2), .val (.ref b35), .val (.ref b41), .val (.ref r_TIMESTAMPED), .val (.int (0 : Int32)), .val (.ref r_NUMBERED)] [(.ref r_NUMBERED)]) := fun t k => pre61 t (by
          refine XS.astore X61.here hx rfl (hb hby at_68) rfl rfl (l' := #[.val (.long x0), .second, .val (.int x2), .val (.ref b35), .val (.ref b41), .val (.ref r_TIMESTAMPED), .val (.int (0 : Int32)), .val (.ref r_NUMBERED)]) rfl ?_
          show Steps p.tables e below (T61.setTop (mkF m 70 #[.val (.long x0), .second, .val (.int x2), .val (.ref b35), .val (.ref b41), .val (.ref r_TIMESTAMPED), .val (.int (0 : Int32)), .val (.ref r_NUMBERED)] [])) _
          refine XS.aload X61.here hx rfl (hb hby at_70) rfl rfl ?_
          exact k)
      obtain ⟨cq63, kq63, q63a, q63b, q63c⟩ := isOf hZ e61 (E_NUMBERED.ext f45.2)
      obtain ⟨_, _, ⟨T63, L63, k63, n63⟩, -, X63, ⟨Lc63, hQ63, l63, y63, z63⟩, st63⟩ := X61.virtualBack hx (y := (⟨"com/example/fence/fence/service/ClaimFormat", "checksInWrite", "()Z"⟩ : MethodName)) (z := (⟨"com/example/fence/fence/service/ClaimFormat", "checksInWrite", "()Z"⟩ : MethodName)) hown (mvT hZ (hw _ (List.mem_of_getElem? (i := 33) rfl))) (mvT hZ (hw _ (List.mem_of_getElem? (i := 34) rfl))) (notFace_of_selects (args := #[]) (mvT hZ (hw _ (List.mem_of_getElem? (i := 36) rfl)))) (mvT hZ (hw _ (List.mem_of_getElem? (i := 36) rfl))) (mvT hZ (hw _ (List.mem_of_getElem? (i := 35) rfl))) (by decide) (backOf (W := 0) (rm_chk l Z av0 hw [] r_NUMBERED r_NUMBERED T41.heap n0 (S_NUMBERED.ext f45.2)) hZ (hw _ (List.mem_of_getElem? (i := 37) rfl)) (hw _ (List.mem_of_getElem? (i := 3) rfl)) (by decide) (by decide)) q63a q63c (g := (mkF m 72 #[.val (.long x0), .second, .val (.int x2), .val (.ref b35), .val (.ref b41), .val (.ref r_TIMESTAMPED), .val (.int (0 : Int32)), .val (.ref r_NUMBERED)] [(.ref r_NUMBERED)])) rfl (by rw [hml]; rfl) (Steps.refl _) (argsL := []) (rest := []) (lenOf pd_5 rfl) rfl (by show 2 * 0 + _ ≤ _; exact Nat.le_of_eq rfl) (hb hby at_72) (fun _ _ => ⟨rfl, e61, (by decide : 2 + 0 ≤ _), (by decide : 39 + 0 ≤ _)⟩)
      dsimp only [Pt.U, Pt.locs, Pt.cells, Pt.slots] at X63 l63 y63 z63 st63 hQ63
      subst l63 y63 z63
      obtain ⟨hv63, N63q, e63⟩ := hQ63
      rw [show own_chk r_NUMBERED r_NUMBERED = (1 : Int32) from if_pos rfl] at hv63
      subst hv63
      have N63 := Fr.app N50 N63q
      have pre63 : Go p.tables e below (s₁.setTop (entryFrame m #[(.long x0), (.int x2)] maxLocals)) T63 (mkF m 75 #[.val (.long x0), .second, .val (.int x2), .val (.ref b35), .val (.ref b41), .val (.ref r_TIMESTAMPED), .val (.int (0 : Int32)), .val (.ref r_NUMBERED)] [(.int (1 : Int32))]) := fun t k => pre62 t (st63.trans k)
      have pre64 : Go p.tables e below (s₁.setTop (entryFrame m #[(.long x0), (.int x2)] maxLocals)) T63 (mkF m 77 #[.val (.long x0), .second, .val (.int x2), .val (.ref b35), .val (.ref b41), .val (.ref r_TIMESTAMPED), .val (.int (0 : Int32)), .val (.ref r_NUMBERED)] [(.ref r_NUMBERED), (.int (1 : Int32))]) := fun t k => pre63 t (by
          refine XS.aload X63.here hx rfl (hb hby at_75) rfl rfl ?_
          exact k)
      obtain ⟨cq65, kq65, q65a, q65b, q65c⟩ := isOf hZ e63 (E_NUMBERED.ext f45.2)
      obtain ⟨_, _, ⟨T65, L65, k65, n65⟩, -, X65, ⟨Lc65, hQ65, l65, y65, z65⟩, st65⟩ := X63.virtualBack hx (y := (⟨"com/example/fence/fence/service/ClaimFormat", "waitsLockWait", "()Z"⟩ : MethodName)) (z := (⟨"com/example/fence/fence/service/ClaimFormat", "waitsLockWait", "()Z"⟩ : MethodName)) hown (mvT hZ (hw _ (List.mem_of_getElem? (i := 41) rfl))) (mvT hZ (hw _ (List.mem_of_getElem? (i := 42) rfl))) (notFace_of_selects (args := #[]) (mvT hZ (hw _ (List.mem_of_getElem? (i := 48) rfl)))) (mvT hZ (hw _ (List.mem_of_getElem? (i := 48) rfl))) (mvT hZ (hw _ (List.mem_of_getElem? (i := 43) rfl))) (by decide) (backOf (W := 1) (rm_wai l Z av0 hw [] r_NUMBERED r_TIMESTAMPED T41.heap n0 (S_TIMESTAMPED.ext f45.2)) hZ (hw _ (List.mem_of_getElem? (i := 45) rfl)) (hw _ (List.mem_of_getElem? (i := 3) rfl)) (by decide) (by decide)) q65a q65c (g := (mkF m 77 #[.val (.long x0), .second, .val (.int x2), .val (.ref b35), .val (.ref b41), .val (.ref r_TIMESTAMPED), .val (.int (0 : Int32)), .val (.ref r_NUMBERED)] [(.ref r_NUMBERED), (.int (1 : Int32))])) rfl (by rw [hml]; rfl) (Steps.refl _) (argsL := []) (rest := [(.int (1 : Int32))]) (lenOf pd_5 rfl) rfl (by show 2 * 0 + _ ≤ _; exact Nat.le_of_eq rfl) (hb hby at_77) (fun _ _ => ⟨rfl, e63, (by decide : 2 + 0 ≤ _), (by decide : 39 + 0 ≤ _)⟩)
      dsimp only [Pt.U, Pt.locs, Pt.cells, Pt.slots] at X65 l65 y65 z65 st65 hQ65
      subst l65 y65 z65
      obtain ⟨hv65, N65q, e65⟩ := hQ65
      rw [show own_chk r_NUMBERED r_TIMESTAMPED = (0 : Int32) from if_neg (ne_exa E_NUMBERED E_TIMESTAMPED (by decide))] at hv65
      subst hv65
      have N65 := Fr.app N63 N65q
      have pre65 : Go p.tables e below (s₁.setTop (entryFrame m #[(.long x0), (.int x2)] maxLocals)) T65 (mkF m 80 #[.val (.long x0), .second, .val (.int x2), .val (.ref b35), .val (.ref b41), .val (.ref r_TIMESTAMPED), .val (.int (0 : Int32)), .val (.ref r_NUMBERED)] [(.int (0 : Int32)), (.int (1 : Int32))]) := fun t k => pre64 t (st65.trans k)
      have pre66 : Go p.tables e below (s₁.setTop (entryFrame m #[(.long x0), (.int x2)] maxLocals)) T65 (mkF m 88 #[.val (.long x0), .second, .val (.int x2), .val (.ref b35), .val (.ref b41), .val (.ref r_TIMESTAMPED), .val (.int (0 : Int32)), .val (.ref r_NUMBERED)] [(.int (1 : Int32))]) := fun t k => pre65 t (by
          refine XS.icmpNo X65.here hx rfl (hb hby at_80) rfl (feq (by decide)).1 ?_
          show Steps p.tables e below (T65.setTop (mkF m 83 #[.val (.long x0), .second, .val (.int x2), .val (.ref b35), .val (.ref b41), .val (.ref r_TIMESTAMPED), .val (.int (0 : Int32)), .val (.ref r_NUMBERED)] [])) _
          refine XS.iconst X65.here hx rfl (hb hby at_83) ?_
          show Steps p.tables e below (T65.setTop (mkF m 84 #[.val (.long x0), .second, .val (.int x2), .val (.ref b35), .val (.ref b41), .val (.ref r_TIMESTAMPED), .val (.int (0 : Int32)), .val (.ref r_NUMBERED)] [(.int (1 : Int32))])) _
          refine XS.goto X65.here hx rfl (pc0 := 84) (pc' := 88) rfl (hb hby at_84) (by decide) (by decide) ?_
          exact k)
      obtain ⟨fs, hr, hrun, hended, hW, hsame⟩ := X65.leave (v := some (.int (1 : Int32))) (fun h => by rw [Bd.returns] at h; cases h) (BodyLoose.notSynchronized Bd)
      refine ⟨_, _, pre66 _ ?_, hrun, hended, _, _, rfl, ?_, ⟨_, rfl⟩, hW, hsame.mono (Nat.le_of_ble_eq_true rfl) (Nat.le_of_ble_eq_true rfl)⟩
      · exact retN X65 hx (t := .boolean) Bd.returns (by simp) (hb hby at_88) hr
      · show Q_law Z x0 x2 r_TIMESTAMPED r_NUMBERED h0 n0 _ T65.heap _
        rw [e65]
        exact ⟨rfl, N65⟩
set_option maxRecDepth 65536 in
set_option maxHeartbeats 40000000 in
theorem comes_1 {Post : Tables → Env → Array Value → State → Outcome → State → Prop} (hpost : ∀ tb e args s v u, (limb_1_1.after args s (.returned v) u = true ∧ limb_1_2.after args s (.returned v) u = true ∧ True) → FrameEnd s (.returned v) u (Jvm.fieldLocs frame_1_writes args s ++ Jvm.arrayLocs frame_1_arrays args s ++ Jvm.staticLocs frame_1_statics s) 16 128 → Post tb e args s (.returned v) u) :
    ArmFor flags0 classFile x code maxLocals ret World_1 tables_1 room_1 Calls_1 rest_1 Pre_1 Post := by
  intro l hfl _ _ p e ha hc hk s m args below hf hA hF happ hP
  obtain ⟨hcalls, hrest, hpre⟩ := hP
  obtain ⟨-, -, -, hnamed, -, -, -, hat⟩ := (Spec.applies_iff hf).mp happ
  obtain ⟨hg, hn⟩ := and_e (Cond.before_iff.mp (show (Jvm.Cond.and given_1 narrow_1).before args s = true from hpre))
  obtain ⟨gc, gt0⟩ := and_e hg
  obtain ⟨ga0, gt1⟩ := and_e gt0
  obtain ⟨w0, w1, rfl⟩ : ∃ w0 w1 : Value, args = #[w0, w1] := by
    have hs : args.size = 2 := by simpa [Cond.value, given_1] using gc
    obtain ⟨L⟩ := args
    match L, hs with
    | [w0, w1], _ => exact ⟨w0, w1, rfl⟩
  have hw := fun d (hd : d ∈ tables_1) => atoms_spec (ws := Jvm.Cond.code x code maxLocals ret :: tables_1) hat d (List.mem_cons_of_mem _ hd)
  have hfit : Fit s := fun {y c} hc i hi => by
    obtain ⟨ha, rfl⟩ := Array.getElem?_eq_some_iff.mp hc
    have q := List.all_eq_true.mp ((Array.all_eq_true_iff_forall_mem.mp hF) _ (Array.getElem_mem ha)) i (List.mem_range.mpr hi)
    simpa [Array.getElem?_eq_getElem hi] using q
  obtain ⟨i0, ei0⟩ := isL_v ga0
  obtain rfl : w0 = (.long i0) := Option.some.inj ei0
  obtain ⟨i1, ei1⟩ := is_v gt1
  obtain rfl : w1 = (.int i1) := Option.some.inj ei1
  obtain ⟨nc0, nt0⟩ := and_e hn
  obtain ⟨nc1, nt1⟩ := and_e nt0
  obtain ⟨nc2, nt2⟩ := and_e nt1
  obtain ⟨r_NUMBERED, S_NUMBERED, E_NUMBERED, ev_NUMBERED⟩ := own_sta (a0 := #[]) nc0 (hw _ (List.mem_of_getElem? (i := 3) rfl)) (hw _ (List.mem_of_getElem? (i := 25) rfl))
  obtain ⟨r_TIMESTAMPED, S_TIMESTAMPED, E_TIMESTAMPED, ev_TIMESTAMPED⟩ := own_sta (a0 := #[]) nc2 (hw _ (List.mem_of_getElem? (i := 3) rfl)) (hw _ (List.mem_of_getElem? (i := 39) rfl))
  have F_NUMBERED_stampAt := own_fld ev_NUMBERED nc1
  have F_TIMESTAMPED_stampAt := own_fld ev_TIMESTAMPED nt2
  obtain ⟨n, o, h1, h2, h3, _, L, rfl, ⟨rfl, N⟩, hq⟩ := rm_law l s _ hw tables_1 i0 i1 r_TIMESTAMPED r_NUMBERED s.heap s.heap.size (Nat.le_refl _) (Old.start s) S_TIMESTAMPED S_NUMBERED E_TIMESTAMPED E_NUMBERED F_TIMESTAMPED_stampAt F_NUMBERED_stampAt p e ha hc hk s m _ below hf ((Spec.applies_iff_loose hf).mp happ).1 ⟨rfl, State.Warmed39.refl s, rfl⟩ trivial
  refine ⟨n, _, h1, h2, h3, hpost _ _ _ _ _ _ ⟨Cond.after_iff.mpr rfl, Cond.after_iff.mpr (eq_i res_at (Term.int_eval (1)) rfl), trivial⟩ ⟨hq.1, hq.2.1, (hq.2.2.sift fun y hy => Or.inr (N y hy)).mono (by decide) (by decide)⟩⟩
theorem main_1_1 : Claimed_1_1 := comes_1 fun _ _ _ _ _ _ h hF => ⟨h.1, hF⟩
theorem main_1_2 : Claimed_1_2 := comes_1 fun _ _ _ _ _ _ h hF => ⟨h.2.1, hF⟩
end Jvm.Pilot.@@N@@
namespace Jvm.Pilot.@@N@@
open Jvm Jvm.ClassFile Sem Op Lib Jvm.Free Jvm.Stand Jvm.Pilot.@@N@@.Jvm.D
/-! MADE BY PROGRAM (witnessworld.py) out of the Statement's table words and the real class files: 16 classes; the members and pool entries that the words name. The judged class is class 1, her method 1. -/
namespace start1
open Jvm.ClassFile
def u (s : String) : CpInfo := .utf8 (stringToUtf16 s)
/-- a pool by its gaps: so many unusable entries, then the entry; so many at the end -/
def gap : Nat → List CpInfo → List CpInfo
  | 0, r => r
  | n + 1, r => .unusable :: gap n r
def poolList (es : List (Nat × CpInfo)) (last : Nat) : List CpInfo := es.foldr (fun e r => gap e.1 (e.2 :: r)) (gap last [])
def pool (es : List (Nat × CpInfo)) (last : Nat) : Array CpInfo := ⟨poolList es last⟩
def fileOf (pool : Array CpInfo) (this : Nat) (attrs : Array Attribute := #[]) (ms : Array MethodInfo := #[]) (fl : Nat := 33) (sup : Nat := 0) (ifs : Array Nat := #[]) (fds : Array FieldInfo := #[]) : ClassFile where
  minorVersion := 0
  majorVersion := 65
  constantPool := pool
  accessFlags := fl
  thisClass := this
  superClass := sup
  interfaces := ifs
  fields := fds
  methods := ms
  attributes := attrs
def plain (name : String) (sup : Option ClassId) : Class where
  name := name
  kind := .ordinary
  loader := none
  accessFlags := 33
  super := sup
  interfaces := #[]
  cf := none
  fields := #[]
  methods := #[]
  instanceTypes := #[]
  staticTypes := #[]
  resolved := #[]
  callSites := []
  init := .initialized
  statics := none
  mirror := none

def pool0 : Array CpInfo := pool [(5, u "<init>"), (0, u "()V"), (1, .class_ 10), (1, u "java/lang/Object")] 113

def k0m0 : Method := { name := "<init>", desc := "()V", sig := { parameters := [], returnType := none }, accessFlags := 1, code := none }
/-- java/lang/Object -/
def k0 : Class := { plain "java/lang/Object" none with
  accessFlags := 33
  interfaces := #[]
  cf := some (fileOf pool0 8 #[] #[{ accessFlags := 1, nameIndex := 5, descriptorIndex := 6, attributes := #[] }] 33 0 #[] #[])
  fields := #[]
  methods := #[k0m0]
  instanceTypes := #[]
  staticTypes := #[]
  resolved := Array.replicate 124 none
  statics := none }

def pool1 : Array CpInfo := pool [(2, .class_ 4), (1, u "java/lang/Object"), (0, u "<init>"), (0, u "()V"), (0, .methodref 8 9), (0, .class_ 10), (0, .nameAndType 11 12), (0, u "com/example/fence/fence/service/ClaimFormat"), (0, u "stamp"), (0, u "(J[B)[B"), (0, .methodref 8 14), (0, .nameAndType 15 16), (0, u "ofColumn"), (0, u "([B)Lcom/example/fence/fence/service/ClaimFormat;"), (0, .long 946684800000000000), (1, .methodref 8 20), (0, .nameAndType 21 22), (0, u "checksInWrite"), (0, u "()Z"), (0, .fieldref 8 24), (0, .nameAndType 25 26), (0, u "TIMESTAMPED"), (0, u "Lcom/example/fence/fence/service/ClaimFormat;"), (0, .fieldref 8 28), (0, .nameAndType 29 26), (0, u "NUMBERED"), (0, .methodref 8 31), (0, .nameAndType 32 22), (0, u "waitsLockWait"), (0, .class_ 34), (0, u "com/example/fence/fence/service/ClaimFormatChecksInWritePinLaw"), (2, u "law"), (0, u "(JI)Z")] 5

def k1m0 : Method := { name := "<init>", desc := "()V", sig := { parameters := [], returnType := none }, accessFlags := 2, code := none }
def k1c1 : Code := { maxStack := 4, maxLocals := 8, code := code, exceptionTable := #[], attributes := #[] }
def k1m1 : Method := { name := "law", desc := "(JI)Z", sig := { parameters := [.long, .int], returnType := some .boolean }, accessFlags := 9, code := some k1c1 }
/-- com/example/fence/fence/service/ClaimFormatChecksInWritePinLaw -/
def k1 : Class := { plain "com/example/fence/fence/service/ClaimFormatChecksInWritePinLaw" (some 0) with
  accessFlags := 49
  interfaces := #[]
  cf := some (fileOf pool1 33 #[] #[{ accessFlags := 2, nameIndex := 5, descriptorIndex := 6, attributes := #[] }, { accessFlags := 9, nameIndex := 37, descriptorIndex := 38, attributes := #[] }] 49 2 #[] #[])
  fields := #[]
  methods := #[k1m0, k1m1]
  instanceTypes := #[]
  staticTypes := #[]
  resolved := Array.replicate 44 none
  statics := none }

def pool2 : Array CpInfo := pool [(1, .class_ 2), (0, u "java/lang/constant/Constable"), (0, .class_ 4), (0, u "java/lang/Object")] 6

/-- java/lang/constant/Constable -/
def k2 : Class := { plain "java/lang/constant/Constable" (some 0) with
  accessFlags := 1537
  interfaces := #[]
  cf := some (fileOf pool2 1 #[] #[] 1537 3 #[] #[])
  fields := #[]
  methods := #[]
  instanceTypes := #[]
  staticTypes := #[]
  resolved := Array.replicate 11 none
  statics := none }

def pool3 : Array CpInfo := pool [(1, .class_ 2), (0, u "java/lang/Comparable"), (0, .class_ 4), (0, u "java/lang/Object")] 7

/-- java/lang/Comparable -/
def k3 : Class := { plain "java/lang/Comparable" (some 0) with
  accessFlags := 1537
  interfaces := #[]
  cf := some (fileOf pool3 1 #[] #[] 1537 3 #[] #[])
  fields := #[]
  methods := #[]
  instanceTypes := #[]
  staticTypes := #[]
  resolved := Array.replicate 12 none
  statics := none }

def pool4 : Array CpInfo := pool [(1, .class_ 2), (0, u "java/io/Serializable"), (0, .class_ 4), (0, u "java/lang/Object")] 2

/-- java/io/Serializable -/
def k4 : Class := { plain "java/io/Serializable" (some 0) with
  accessFlags := 1537
  interfaces := #[]
  cf := some (fileOf pool4 1 #[] #[] 1537 3 #[] #[])
  fields := #[]
  methods := #[]
  instanceTypes := #[]
  staticTypes := #[]
  resolved := Array.replicate 7 none
  statics := none }

def pool5 : Array CpInfo := pool [(2, .class_ 4), (1, u "java/lang/Enum"), (0, u "name"), (0, u "Ljava/lang/String;"), (2, u "ordinal"), (0, u "I"), (1, .class_ 14), (1, u "java/lang/Object"), (4, u "hash"), (86, .class_ 108), (1, u "java/lang/Enum$EnumDesc"), (2, .class_ 112), (0, u "java/lang/constant/Constable"), (0, .class_ 114), (0, u "java/lang/Comparable"), (0, .class_ 116), (0, u "java/io/Serializable")] 87

/-- java/lang/Enum -/
def k5 : Class := { plain "java/lang/Enum" (some 0) with
  accessFlags := 1057
  interfaces := #[2, 3, 4]
  cf := some (fileOf pool5 2 #[.nestMembers #[106]] #[] 1057 12 #[111, 113, 115] #[{ accessFlags := 18, nameIndex := 5, descriptorIndex := 6, attributes := #[] }, { accessFlags := 18, nameIndex := 9, descriptorIndex := 10, attributes := #[] }, { accessFlags := 2, nameIndex := 19, descriptorIndex := 10, attributes := #[] }])
  fields := #[{ name := "name", type := (.object "java/lang/String"), accessFlags := 18, slot := 0, constantValue := 0 }, { name := "ordinal", type := .int, accessFlags := 18, slot := 1, constantValue := 0 }, { name := "hash", type := .int, accessFlags := 2, slot := 2, constantValue := 0 }]
  methods := #[]
  instanceTypes := #[(.object "java/lang/String"), .int, .int]
  staticTypes := #[]
  resolved := Array.replicate 204 none
  statics := none }

def pool6 : Array CpInfo := pool [(3, .class_ 4), (0, u "com/example/fence/fence/service/ClaimFormat"), (0, .fieldref 3 6), (0, .nameAndType 7 8), (0, u "TIMESTAMPED"), (0, u "Lcom/example/fence/fence/service/ClaimFormat;"), (0, .fieldref 3 10), (0, .nameAndType 11 8), (0, u "NUMBERED"), (2, u "$VALUES"), (0, u "[Lcom/example/fence/fence/service/ClaimFormat;"), (6, .class_ 24), (1, u "java/lang/Enum"), (8, u "version"), (0, u "I"), (0, .fieldref 3 36), (0, .nameAndType 37 34), (0, u "stampAt"), (2, u "numbering"), (0, u "Ljava/lang/String;"), (5, u "()Z"), (0, .methodref 3 49), (0, .nameAndType 50 51), (0, u "token"), (0, u "([B)J"), (0, .long 946684800000000000), (1, .methodref 3 55), (0, .nameAndType 56 57), (0, u "isClaim"), (0, u "([B)Z"), (0, .methodref 59 60), (0, .class_ 61), (0, .nameAndType 62 63), (0, u "com/example/fence/fence/util/BigEndian"), (0, u "prefixed"), (0, u "(J[B)[B"), (0, .methodref 59 65), (0, .nameAndType 66 67), (0, u "longAt"), (0, u "([BI)J"), (35, .class_ 104), (0, u "com/example/fence/fence/service/ClaimFormat$1"), (6, .class_ 112), (0, u "com/example/fence/fence/service/ClaimFormat$2"), (10, u "CLAIM_VALUE"), (0, u "[B"), (0, u "TIMESTAMP_BYTES"), (2, u "FIRST_TIMESTAMP"), (0, u "J"), (10, u "ofColumn"), (0, u "([B)Lcom/example/fence/fence/service/ClaimFormat;"), (0, u "stamp"), (9, u "waitsLockWait"), (0, u "checksInWrite")] 36

def k6c0 : Code := { maxStack := 4, maxLocals := 2, code := prog_19_method_5_code, exceptionTable := #[], attributes := #[] }
def k6m0 : Method := { name := "ofColumn", desc := "([B)Lcom/example/fence/fence/service/ClaimFormat;", sig := { parameters := [(.array .byte)], returnType := some (.object "com/example/fence/fence/service/ClaimFormat") }, accessFlags := 8, code := some k6c0 }
def k6c1 : Code := { maxStack := 3, maxLocals := 3, code := prog_19_method_6_code, exceptionTable := #[], attributes := #[] }
def k6m1 : Method := { name := "stamp", desc := "(J[B)[B", sig := { parameters := [.long, (.array .byte)], returnType := some (.array .byte) }, accessFlags := 8, code := some k6c1 }
def k6c2 : Code := { maxStack := 2, maxLocals := 1, code := prog_19_method_10_code, exceptionTable := #[], attributes := #[] }
def k6m2 : Method := { name := "waitsLockWait", desc := "()Z", sig := { parameters := [], returnType := some .boolean }, accessFlags := 0, code := some k6c2 }
def k6c3 : Code := { maxStack := 2, maxLocals := 1, code := prog_19_method_11_code, exceptionTable := #[], attributes := #[] }
def k6m3 : Method := { name := "checksInWrite", desc := "()Z", sig := { parameters := [], returnType := some .boolean }, accessFlags := 0, code := some k6c3 }
def k6c4 : Code := { maxStack := 3, maxLocals := 2, code := prog_19_method_15_code, exceptionTable := #[], attributes := #[] }
def k6m4 : Method := { name := "isClaim", desc := "([B)Z", sig := { parameters := [(.array .byte)], returnType := some .boolean }, accessFlags := 2, code := some k6c4 }
def k6c5 : Code := { maxStack := 2, maxLocals := 1, code := prog_19_method_22_code, exceptionTable := #[], attributes := #[] }
def k6m5 : Method := { name := "token", desc := "([B)J", sig := { parameters := [(.array .byte)], returnType := some .long }, accessFlags := 8, code := some k6c5 }
/-- com/example/fence/fence/service/ClaimFormat -/
def k6 : Class := { plain "com/example/fence/fence/service/ClaimFormat" (some 5) with
  accessFlags := 17440
  interfaces := #[]
  cf := some (fileOf pool6 3 #[.nestMembers #[111, 103]] #[{ accessFlags := 8, nameIndex := 140, descriptorIndex := 141, attributes := #[] }, { accessFlags := 8, nameIndex := 142, descriptorIndex := 63, attributes := #[] }, { accessFlags := 0, nameIndex := 152, descriptorIndex := 47, attributes := #[] }, { accessFlags := 0, nameIndex := 153, descriptorIndex := 47, attributes := #[] }, { accessFlags := 2, nameIndex := 56, descriptorIndex := 57, attributes := #[] }, { accessFlags := 8, nameIndex := 50, descriptorIndex := 51, attributes := #[] }] 17440 22 #[] #[{ accessFlags := 16409, nameIndex := 7, descriptorIndex := 8, attributes := #[] }, { accessFlags := 16409, nameIndex := 11, descriptorIndex := 8, attributes := #[] }, { accessFlags := 26, nameIndex := 125, descriptorIndex := 34, attributes := #[] }, { accessFlags := 26, nameIndex := 123, descriptorIndex := 124, attributes := #[] }, { accessFlags := 26, nameIndex := 128, descriptorIndex := 129, attributes := #[] }, { accessFlags := 18, nameIndex := 33, descriptorIndex := 34, attributes := #[] }, { accessFlags := 18, nameIndex := 37, descriptorIndex := 34, attributes := #[] }, { accessFlags := 18, nameIndex := 40, descriptorIndex := 41, attributes := #[] }, { accessFlags := 4122, nameIndex := 14, descriptorIndex := 15, attributes := #[] }])
  fields := #[{ name := "TIMESTAMPED", type := (.object "com/example/fence/fence/service/ClaimFormat"), accessFlags := 16409, slot := 0, constantValue := 0 }, { name := "NUMBERED", type := (.object "com/example/fence/fence/service/ClaimFormat"), accessFlags := 16409, slot := 1, constantValue := 0 }, { name := "TIMESTAMP_BYTES", type := .int, accessFlags := 26, slot := 2, constantValue := 0 }, { name := "CLAIM_VALUE", type := (.array .byte), accessFlags := 26, slot := 3, constantValue := 0 }, { name := "FIRST_TIMESTAMP", type := .long, accessFlags := 26, slot := 4, constantValue := 0 }, { name := "version", type := .int, accessFlags := 18, slot := 3, constantValue := 0 }, { name := "stampAt", type := .int, accessFlags := 18, slot := 4, constantValue := 0 }, { name := "numbering", type := (.object "java/lang/String"), accessFlags := 18, slot := 5, constantValue := 0 }, { name := "$VALUES", type := (.array (.object "com/example/fence/fence/service/ClaimFormat")), accessFlags := 4122, slot := 5, constantValue := 0 }]
  methods := #[k6m0, k6m1, k6m2, k6m3, k6m4, k6m5]
  instanceTypes := #[(.object "java/lang/String"), .int, .int, .int, .int, (.object "java/lang/String")]
  staticTypes := #[(.object "com/example/fence/fence/service/ClaimFormat"), (.object "com/example/fence/fence/service/ClaimFormat"), .int, (.array .byte), .long, (.array (.object "com/example/fence/fence/service/ClaimFormat"))]
  resolved := Array.replicate 190 none
  statics := some 0 }

def pool7 : Array CpInfo := pool [(2, .class_ 4), (1, u "java/lang/Object"), (0, u "<init>"), (0, u "()V"), (2, .methodref 10 11), (0, .class_ 12), (0, .nameAndType 13 14), (0, u "java/lang/System"), (0, u "arraycopy"), (0, u "(Ljava/lang/Object;ILjava/lang/Object;II)V"), (0, .long 255), (1, .class_ 18), (0, u "com/example/fence/fence/util/BigEndian"), (2, u "prefixed"), (0, u "(J[B)[B"), (0, u "longAt"), (0, u "([BI)J")] 2

def k7m0 : Method := { name := "<init>", desc := "()V", sig := { parameters := [], returnType := none }, accessFlags := 2, code := none }
def k7c1 : Code := { maxStack := 5, maxLocals := 4, code := prog_52_method_2_code, exceptionTable := #[], attributes := #[] }
def k7m1 : Method := { name := "prefixed", desc := "(J[B)[B", sig := { parameters := [.long, (.array .byte)], returnType := some (.array .byte) }, accessFlags := 9, code := some k7c1 }
def k7c2 : Code := { maxStack := 6, maxLocals := 2, code := prog_52_method_3_code, exceptionTable := #[], attributes := #[] }
def k7m2 : Method := { name := "longAt", desc := "([BI)J", sig := { parameters := [(.array .byte), .int], returnType := some .long }, accessFlags := 9, code := some k7c2 }
/-- com/example/fence/fence/util/BigEndian -/
def k7 : Class := { plain "com/example/fence/fence/util/BigEndian" (some 0) with
  accessFlags := 49
  interfaces := #[]
  cf := some (fileOf pool7 17 #[] #[{ accessFlags := 2, nameIndex := 5, descriptorIndex := 6, attributes := #[] }, { accessFlags := 9, nameIndex := 21, descriptorIndex := 22, attributes := #[] }, { accessFlags := 9, nameIndex := 23, descriptorIndex := 24, attributes := #[] }] 49 2 #[] #[])
  fields := #[]
  methods := #[k7m0, k7m1, k7m2]
  instanceTypes := #[]
  staticTypes := #[]
  resolved := Array.replicate 27 none
  statics := none }

def pool8 : Array CpInfo := pool [(2, .class_ 4), (1, u "java/lang/Object"), (0, u "<init>"), (0, u "()V"), (1, .class_ 10), (1, u "java/lang/System"), (0, u "allowSecurityManager"), (0, u "I"), (16, u "cons"), (0, u "Ljava/io/Console;"), (77, .class_ 110), (1, u "java/lang/System$CallersHolder"), (43, u "initialErrStream"), (0, u "Ljava/io/PrintStream;"), (19, u "security"), (0, u "Ljava/lang/SecurityManager;"), (31, .class_ 209), (0, u "java/lang/System$1"), (7, u "props"), (0, u "Ljava/util/Properties;"), (2, u "lineSeparator"), (0, u "Ljava/lang/String;"), (96, .class_ 321), (1, u "java/lang/System$LoggerFinder"), (5, .class_ 328), (0, u "java/lang/System$Logger"), (67, u "err"), (2, u "out"), (91, u "notSupportedJnuEncoding"), (15, u "in"), (17, u "initialIn"), (0, u "Ljava/io/InputStream;"), (35, u "bootLayer"), (0, u "Ljava/lang/ModuleLayer;"), (99, .class_ 664), (0, u "java/lang/System$2"), (9, u "NEVER"), (2, u "MAYBE"), (49, u "arraycopy"), (0, u "(Ljava/lang/Object;ILjava/lang/Object;II)V"), (72, .class_ 802), (0, u "java/lang/System$Logger$Level")] 31

def k8m0 : Method := { name := "<init>", desc := "()V", sig := { parameters := [], returnType := none }, accessFlags := 2, code := none }
def k8m1 : Method := { name := "arraycopy", desc := "(Ljava/lang/Object;ILjava/lang/Object;II)V", sig := { parameters := [(.object "java/lang/Object"), .int, (.object "java/lang/Object"), .int, .int], returnType := none }, accessFlags := 265, code := none }
/-- java/lang/System -/
def k8 : Class := { plain "java/lang/System" (some 0) with
  accessFlags := 49
  interfaces := #[]
  cf := some (fileOf pool8 8 #[.nestMembers #[319, 327, 801, 108, 663, 208]] #[{ accessFlags := 2, nameIndex := 5, descriptorIndex := 6, attributes := #[] }, { accessFlags := 265, nameIndex := 727, descriptorIndex := 728, attributes := #[] }] 49 2 #[] #[{ accessFlags := 25, nameIndex := 507, descriptorIndex := 526, attributes := #[] }, { accessFlags := 25, nameIndex := 399, descriptorIndex := 155, attributes := #[] }, { accessFlags := 25, nameIndex := 396, descriptorIndex := 155, attributes := #[] }, { accessFlags := 10, nameIndex := 525, descriptorIndex := 526, attributes := #[] }, { accessFlags := 26, nameIndex := 674, descriptorIndex := 12, attributes := #[] }, { accessFlags := 26, nameIndex := 677, descriptorIndex := 12, attributes := #[] }, { accessFlags := 10, nameIndex := 11, descriptorIndex := 12, attributes := #[] }, { accessFlags := 74, nameIndex := 175, descriptorIndex := 176, attributes := #[] }, { accessFlags := 10, nameIndex := 491, descriptorIndex := 222, attributes := #[] }, { accessFlags := 74, nameIndex := 29, descriptorIndex := 30, attributes := #[] }, { accessFlags := 74, nameIndex := 154, descriptorIndex := 155, attributes := #[] }, { accessFlags := 10, nameIndex := 217, descriptorIndex := 218, attributes := #[] }, { accessFlags := 10, nameIndex := 221, descriptorIndex := 222, attributes := #[] }, { accessFlags := 8, nameIndex := 562, descriptorIndex := 563, attributes := #[] }])
  fields := #[{ name := "in", type := (.object "java/io/InputStream"), accessFlags := 25, slot := 0, constantValue := 0 }, { name := "out", type := (.object "java/io/PrintStream"), accessFlags := 25, slot := 1, constantValue := 0 }, { name := "err", type := (.object "java/io/PrintStream"), accessFlags := 25, slot := 2, constantValue := 0 }, { name := "initialIn", type := (.object "java/io/InputStream"), accessFlags := 10, slot := 3, constantValue := 0 }, { name := "NEVER", type := .int, accessFlags := 26, slot := 4, constantValue := 0 }, { name := "MAYBE", type := .int, accessFlags := 26, slot := 5, constantValue := 0 }, { name := "allowSecurityManager", type := .int, accessFlags := 10, slot := 6, constantValue := 0 }, { name := "security", type := (.object "java/lang/SecurityManager"), accessFlags := 74, slot := 7, constantValue := 0 }, { name := "notSupportedJnuEncoding", type := (.object "java/lang/String"), accessFlags := 10, slot := 8, constantValue := 0 }, { name := "cons", type := (.object "java/io/Console"), accessFlags := 74, slot := 9, constantValue := 0 }, { name := "initialErrStream", type := (.object "java/io/PrintStream"), accessFlags := 74, slot := 10, constantValue := 0 }, { name := "props", type := (.object "java/util/Properties"), accessFlags := 10, slot := 11, constantValue := 0 }, { name := "lineSeparator", type := (.object "java/lang/String"), accessFlags := 10, slot := 12, constantValue := 0 }, { name := "bootLayer", type := (.object "java/lang/ModuleLayer"), accessFlags := 8, slot := 13, constantValue := 0 }]
  methods := #[k8m0, k8m1]
  instanceTypes := #[]
  staticTypes := #[(.object "java/io/InputStream"), (.object "java/io/PrintStream"), (.object "java/io/PrintStream"), (.object "java/io/InputStream"), .int, .int, .int, (.object "java/lang/SecurityManager"), (.object "java/lang/String"), (.object "java/io/Console"), (.object "java/io/PrintStream"), (.object "java/util/Properties"), (.object "java/lang/String"), (.object "java/lang/ModuleLayer")]
  resolved := Array.replicate 834 none
  statics := none }

def pool9 : Array CpInfo := pool [(2, .class_ 4), (1, u "com/example/fence/fence/service/ClaimFormat"), (34, .class_ 40), (0, u "com/example/fence/fence/service/ClaimFormat$2")] 20

/-- com/example/fence/fence/service/ClaimFormat$2 -/
def k9 : Class := { plain "com/example/fence/fence/service/ClaimFormat$2" (some 6) with
  accessFlags := 16432
  interfaces := #[]
  cf := some (fileOf pool9 39 #[.nestHost 2] #[] 16432 2 #[] #[])
  fields := #[]
  methods := #[]
  instanceTypes := #[(.object "java/lang/String"), .int, .int, .int, .int, (.object "java/lang/String")]
  staticTypes := #[]
  resolved := Array.replicate 61 none
  statics := none }

def pool10 : Array CpInfo := pool [(2, .class_ 4), (1, u "com/example/fence/fence/service/ClaimFormat"), (41, .class_ 47), (0, u "com/example/fence/fence/service/ClaimFormat$1")] 32

/-- com/example/fence/fence/service/ClaimFormat$1 -/
def k10 : Class := { plain "com/example/fence/fence/service/ClaimFormat$1" (some 6) with
  accessFlags := 16432
  interfaces := #[]
  cf := some (fileOf pool10 46 #[.nestHost 2] #[] 16432 2 #[] #[])
  fields := #[]
  methods := #[]
  instanceTypes := #[(.object "java/lang/String"), .int, .int, .int, .int, (.object "java/lang/String")]
  staticTypes := #[]
  resolved := Array.replicate 80 none
  statics := none }

def pool11 : Array CpInfo := pool [(1, u "java/lang/Cloneable"), (0, .class_ 1), (0, u "java/lang/Object"), (0, .class_ 3)] 3

/-- java/lang/Cloneable -/
def k11 : Class := { plain "java/lang/Cloneable" (some 0) with
  accessFlags := 1537
  interfaces := #[]
  cf := some (fileOf pool11 2 #[] #[] 1537 4 #[] #[])
  fields := #[]
  methods := #[]
  instanceTypes := #[]
  staticTypes := #[]
  resolved := Array.replicate 8 none
  statics := none }

/-- the primitive byte -/
def k12 : Class := { plain "byte" none with kind := .primitive 'B', accessFlags := 0x411 }
/-- [B -/
def k13 : Class := { plain "[B" (some 0) with kind := .array 12 .byte, interfaces := #[11, 4], accessFlags := 1041 }

/-- the primitive int -/
def k14 : Class := { plain "int" none with kind := .primitive 'I', accessFlags := 0x411 }
/-- [I -/
def k15 : Class := { plain "[I" (some 0) with kind := .array 14 .int, interfaces := #[11, 4], accessFlags := 1041 }

def heap : Heap := #[{ cls := 6, slots := #[.ref 1, .ref 2, .int 0, .null, .long 0, .null], vm := .statics 6 },
  { cls := 10, slots := #[.null, .int 0, .int 0, .int 1, .int 0, .null], vm := .none },
  { cls := 9, slots := #[.null, .int 1, .int 0, .int 2, .int 8, .null], vm := .none }]
def classes : Array Class := #[k0, k1, k2, k3, k4, k5, k6, k7, k8, k9, k10, k11, k12, k13, k14, k15]
def interned : List (Array UInt16 × Addr) := []
def slotsUsed : Nat := 18
def theMethod : MethodId := ⟨1, 1⟩
def args0 : Array Value := #[.long 5, .int 6]
def aboutOver (below : List Frame) : State where
  vm := { classes := classes, interned := interned.toArray }
  heap := heap
  slotsUsed := slotsUsed
  threads := #[{ frames := .invoking theMethod args0 :: below }]
def below0 : List Frame := [.native { method := ⟨0, 0⟩, args := #[] }]
def about1 : State := aboutOver below0
def p0 : Program := .bare "" "" ""
def e0 : Env := launch0.env 0 0 0
theorem w_frames : about1.frames = Frame.invoking theMethod args0 :: below0 := rfl
set_option maxRecDepth 65536 in
theorem w_args : argsFit about1.vm theMethod args0 = true := by decide +kernel
set_option maxRecDepth 65536 in
theorem w_heap : heapFits about1 = true := by decide +kernel
set_option maxRecDepth 65536 in
theorem w_runnable : about1.curStatus? = some .runnable := by decide +kernel
set_option maxRecDepth 65536 in
theorem w_alone : about1.alone = true := by decide +kernel
set_option maxRecDepth 65536 in
theorem w_named : about1.methodNamed? x = some theMethod := by decide +kernel
set_option maxRecDepth 65536 in
theorem w_hears : about1.hears theMethod below0 = true := by decide +kernel
set_option maxRecDepth 65536 in
theorem w_ripe : about1.ripe theMethod args0 below0 = true := by decide +kernel
theorem w_running : about1.status = .running := rfl
set_option maxRecDepth 65536 in
theorem w_room : about1.hasRoom e0.platform room_1 = true :=
  launch0.hasRoom_least _ room_1 (by decide +kernel) (by decide +kernel) (by decide +kernel) (by decide +kernel) (by decide +kernel) (by decide +kernel)
theorem allAtoms_all (ts : List Jvm.Cond) (a : Array Jvm.Value) (st : Jvm.State) : (allAtoms ts).before a st = ts.all (fun c => c.before a st) := by
  induction ts with
  | nil => rfl
  | cons c t ih =>
    show (Jvm.Cond.and c (allAtoms t)).before a st = _
    rw [Jvm.Cond.before_and, ih, List.all_cons]
def words1 : List Jvm.Cond := Jvm.Cond.code x code maxLocals ret :: tables_1
/-- a 'code' word, met by the world's own term for the bytes: nothing is compared byte by byte -/
theorem code_word {y : MethodName} {bytes : ByteArray} {mx : Nat} {rt : Option FieldType} {a : Array Value} {s : State} {m : MethodId} {meth : Method} {c : Code} (h1 : s.methodNamed? y = some m) (h2 : s.vm.method? m = some meth) (h3 : meth.code = some c) (h4 : c.code = bytes)
    (h5 : (c.maxLocals == mx && c.exceptionTable.isEmpty && decide (c.maxStack ≤ mostOperands) && decide (meth.sig.returnType = rt) && !meth.locks && decide (parseMethodDescriptor y.desc = some meth.sig)) = true) : (Jvm.Cond.code y bytes mx rt).before a s = true := by
  simp only [Bool.and_eq_true, beq_iff_eq, Bool.not_eq_true', decide_eq_true_eq] at h5
  obtain ⟨⟨⟨⟨⟨g1, g2⟩, g3⟩, g4⟩, g5⟩, g6⟩ := h5
  simp [Cond.before, Cond.holds, Cond.value, h1, h2, h3, h4, g1, g2, g3, g4, g5, g6]
def isCode : Jvm.Cond → Bool
  | .code _ _ _ _ => true
  | _ => false
theorem all_split {L : List Jvm.Cond} {P : Jvm.Cond → Bool} (h1 : L.all (fun c => isCode c || P c) = true) (h2 : ∀ c ∈ L.filter isCode, P c = true) : L.all P = true := by
  refine List.all_eq_true.mpr fun c hc => ?_
  have h := List.all_eq_true.mp h1 c hc
  rcases Bool.eq_false_or_eq_true (isCode c) with hi | hi
  · exact h2 c (List.mem_filter.mpr ⟨hc, hi⟩)
  · simpa [hi] using h
set_option maxRecDepth 65536 in
theorem w_c0 : (Jvm.Cond.code x code maxLocals ret).before args0 about1 = true := code_word (m := ⟨1, 1⟩) (meth := k1m1) (c := k1c1) (by decide +kernel) rfl rfl rfl (by decide +kernel)
set_option maxRecDepth 65536 in
theorem w_c1 : (Jvm.Cond.code ({ cls := "com/example/fence/fence/service/ClaimFormat", name := "stamp", desc := "(J[B)[B" } : Jvm.MethodName) prog_19_method_6_code (3 : Nat) (Option.some (Jvm.ClassFile.FieldType.array Jvm.ClassFile.FieldType.byte))).before args0 about1 = true := code_word (m := ⟨6, 1⟩) (meth := k6m1) (c := k6c1) (by decide +kernel) rfl rfl rfl (by decide +kernel)
set_option maxRecDepth 65536 in
theorem w_c2 : (Jvm.Cond.code ({ cls := "com/example/fence/fence/util/BigEndian", name := "prefixed", desc := "(J[B)[B" } : Jvm.MethodName) prog_52_method_2_code (4 : Nat) (Option.some (Jvm.ClassFile.FieldType.array Jvm.ClassFile.FieldType.byte))).before args0 about1 = true := code_word (m := ⟨7, 1⟩) (meth := k7m1) (c := k7c1) (by decide +kernel) rfl rfl rfl (by decide +kernel)
set_option maxRecDepth 65536 in
theorem w_c3 : (Jvm.Cond.code ({ cls := "com/example/fence/fence/service/ClaimFormat", name := "ofColumn", desc := "([B)Lcom/example/fence/fence/service/ClaimFormat;" } : Jvm.MethodName) prog_19_method_5_code (2 : Nat) (Option.some (Jvm.ClassFile.FieldType.object "com/example/fence/fence/service/ClaimFormat"))).before args0 about1 = true := code_word (m := ⟨6, 0⟩) (meth := k6m0) (c := k6c0) (by decide +kernel) rfl rfl rfl (by decide +kernel)
set_option maxRecDepth 65536 in
theorem w_c4 : (Jvm.Cond.code ({ cls := "com/example/fence/fence/service/ClaimFormat", name := "token", desc := "([B)J" } : Jvm.MethodName) prog_19_method_22_code (1 : Nat) (Option.some Jvm.ClassFile.FieldType.long)).before args0 about1 = true := code_word (m := ⟨6, 5⟩) (meth := k6m5) (c := k6c5) (by decide +kernel) rfl rfl rfl (by decide +kernel)
set_option maxRecDepth 65536 in
theorem w_c5 : (Jvm.Cond.code ({ cls := "com/example/fence/fence/util/BigEndian", name := "longAt", desc := "([BI)J" } : Jvm.MethodName) prog_52_method_3_code (2 : Nat) (Option.some Jvm.ClassFile.FieldType.long)).before args0 about1 = true := code_word (m := ⟨7, 2⟩) (meth := k7m2) (c := k7c2) (by decide +kernel) rfl rfl rfl (by decide +kernel)
set_option maxRecDepth 65536 in
theorem w_c6 : (Jvm.Cond.code ({ cls := "com/example/fence/fence/service/ClaimFormat", name := "isClaim", desc := "([B)Z" } : Jvm.MethodName) prog_19_method_15_code (2 : Nat) (Option.some Jvm.ClassFile.FieldType.boolean)).before args0 about1 = true := code_word (m := ⟨6, 4⟩) (meth := k6m4) (c := k6c4) (by decide +kernel) rfl rfl rfl (by decide +kernel)
set_option maxRecDepth 65536 in
theorem w_c7 : (Jvm.Cond.code ({ cls := "com/example/fence/fence/service/ClaimFormat", name := "checksInWrite", desc := "()Z" } : Jvm.MethodName) prog_19_method_11_code (1 : Nat) (Option.some Jvm.ClassFile.FieldType.boolean)).before args0 about1 = true := code_word (m := ⟨6, 3⟩) (meth := k6m3) (c := k6c3) (by decide +kernel) rfl rfl rfl (by decide +kernel)
set_option maxRecDepth 65536 in
theorem w_c8 : (Jvm.Cond.code ({ cls := "com/example/fence/fence/service/ClaimFormat", name := "waitsLockWait", desc := "()Z" } : Jvm.MethodName) prog_19_method_10_code (1 : Nat) (Option.some Jvm.ClassFile.FieldType.boolean)).before args0 about1 = true := code_word (m := ⟨6, 2⟩) (meth := k6m2) (c := k6c2) (by decide +kernel) rfl rfl rfl (by decide +kernel)
def codes1 : List Jvm.Cond := [Jvm.Cond.code x code maxLocals ret, Jvm.Cond.code ({ cls := "com/example/fence/fence/service/ClaimFormat", name := "stamp", desc := "(J[B)[B" } : Jvm.MethodName) prog_19_method_6_code (3 : Nat) (Option.some (Jvm.ClassFile.FieldType.array Jvm.ClassFile.FieldType.byte)), Jvm.Cond.code ({ cls := "com/example/fence/fence/util/BigEndian", name := "prefixed", desc := "(J[B)[B" } : Jvm.MethodName) prog_52_method_2_code (4 : Nat) (Option.some (Jvm.ClassFile.FieldType.array Jvm.ClassFile.FieldType.byte)), Jvm.Cond.code ({ cls := "com/example/fence/fence/service/ClaimFormat", name := "ofColumn", desc := "([B)Lcom/example/fence/fence/service/ClaimFormat;" } : Jvm.MethodName) prog_19_method_5_code (2 : Nat) (Option.some (Jvm.ClassFile.FieldType.object "com/example/fence/fence/service/ClaimFormat")), Jvm.Cond.code ({ cls := "com/example/fence/fence/service/ClaimFormat", name := "token", desc := "([B)J" } : Jvm.MethodName) prog_19_method_22_code (1 : Nat) (Option.some Jvm.ClassFile.FieldType.long), Jvm.Cond.code ({ cls := "com/example/fence/fence/util/BigEndian", name := "longAt", desc := "([BI)J" } : Jvm.MethodName) prog_52_method_3_code (2 : Nat) (Option.some Jvm.ClassFile.FieldType.long), Jvm.Cond.code ({ cls := "com/example/fence/fence/service/ClaimFormat", name := "isClaim", desc := "([B)Z" } : Jvm.MethodName) prog_19_method_15_code (2 : Nat) (Option.some Jvm.ClassFile.FieldType.boolean), Jvm.Cond.code ({ cls := "com/example/fence/fence/service/ClaimFormat", name := "checksInWrite", desc := "()Z" } : Jvm.MethodName) prog_19_method_11_code (1 : Nat) (Option.some Jvm.ClassFile.FieldType.boolean), Jvm.Cond.code ({ cls := "com/example/fence/fence/service/ClaimFormat", name := "waitsLockWait", desc := "()Z" } : Jvm.MethodName) prog_19_method_10_code (1 : Nat) (Option.some Jvm.ClassFile.FieldType.boolean)]
set_option maxRecDepth 65536 in
theorem codes_eq : words1.filter isCode = codes1 := rfl
theorem w_codes : ∀ c ∈ words1.filter isCode, c.before args0 about1 = true := by
  rw [codes_eq]
  intro c hc
  simp only [codes1, List.mem_cons, List.not_mem_nil, or_false] at hc
  rcases hc with rfl | rfl | rfl | rfl | rfl | rfl | rfl | rfl | rfl
  · exact w_c0
  · exact w_c1
  · exact w_c2
  · exact w_c3
  · exact w_c4
  · exact w_c5
  · exact w_c6
  · exact w_c7
  · exact w_c8
set_option maxRecDepth 65536 in
theorem w_t1 : (words1.take 24).all (fun c => isCode c || c.before args0 about1) = true := by decide +kernel
set_option maxRecDepth 65536 in
theorem w_t2 : ((words1.drop 24).take 24).all (fun c => isCode c || c.before args0 about1) = true := by decide +kernel
set_option maxRecDepth 65536 in
theorem w_t3 : ((words1.drop 24).drop 24).all (fun c => isCode c || c.before args0 about1) = true := by decide +kernel
theorem w_tables : (allAtoms (Jvm.Cond.code x code maxLocals ret :: tables_1)).before args0 about1 = true := by
  rw [allAtoms_all]
  show words1.all (fun c => c.before args0 about1) = true
  refine all_split ?_ w_codes
  rw [← List.take_append_drop 24 words1, List.all_append, w_t1, ← List.take_append_drop 24 (words1.drop 24), List.all_append, w_t2, w_t3]
  rfl
set_option maxRecDepth 65536 in
theorem w_case : (Jvm.Cond.and given_1 narrow_1).before args0 about1 = true := by decide +kernel
theorem w_applies : (headSpec (Jvm.Cond.code x code maxLocals ret :: tables_1) room_1).applies x e0.platform about1 = true :=
  (Spec.applies_iff w_frames).mpr ⟨w_running, w_runnable, w_alone, w_named, w_hears, w_ripe, w_room, w_tables⟩
theorem atStart : AtStart classFile x code maxLocals ret World_1 tables_1 room_1 Calls_1 rest_1 Pre_1 launch0 p0 e0 about1 theMethod args0 below0 :=
  ⟨lists_1, trivial, launch0.admits_env _ _ _, launch0.least_env, fairChoices_fair.cas, fairChoices_fair.clock, w_frames, w_args, w_heap, w_applies, trivial, trivial, w_case⟩
end start1
theorem witness_1 : WitnessClaimed_1 := ⟨start1.p0, start1.e0, start1.about1, start1.theMethod, start1.args0, start1.below0, start1.atStart⟩
end Jvm.Pilot.@@N@@
