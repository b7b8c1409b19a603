import JvmDerived
import JvmDerived.Pilot.@@N@@Statement
import JvmDerived.Pilot.@@N@@Code
set_option linter.unusedVariables false
set_option linter.unusedSimpArgs false
namespace Jvm.RoadKit
open Sem ClassFile Op Lib Jvm.Stand Jvm.Free Jvm.LawKit
section New
variable {p : Program} {l : Launch} {e : Env} {R : Room} {s : State} {m : MethodId} {args : Array Value} {below : List Frame} {meth : Method} {c : Code} {T : State} {locs : List Loc} {cells slots : Nat}
theorem retI (X : Stand p l e R s m args below meth c T locs cells slots) (hx : p.tables.exec = Jvm.exec) {pc : Nat} {Ls : Array Slot} {z : Int32} {rest : List Value} (hret : meth.sig.returnType = some .int) (hd : decode c.code pc = .ok (.ireturn, 1)) {fs : List Frame}
    (hl : ∀ (f : JFrame) (acts : List Action), f.method = m → f.locked = none → f.entered = [] → (doReturn e (T.setTop f) acts (some (.int z))).1 = T.setFrames fs) : Steps p.tables e below (T.setTop (mkF m pc Ls (.int z :: rest))) (T.setFrames fs) := by
  have hm' : T.vm.method? m = some meth := X.method'
  have hn : narrow .int (.int z) = .int z := rfl
  show Steps p.tables e below (T.setTop { method := m, pc := pc, locals := Ls, stack := _ :: rest, locked := none }) _
  jvm_step X.here [X.here.top, hx, hd, hm', hret, hn]
  first | (intro acts; rw [hl _ acts rfl rfl rfl]) | rw [hl _ _ rfl rfl rfl]
  exact Steps.refl _
end New
end Jvm.RoadKit
namespace Jvm.Pilot.@@N@@
open Jvm Jvm.ClassFile Sem Op Lib Jvm.Free Jvm.Stand Jvm.LawKit Jvm.RoadKit Bundle Jvm.Pilot.@@N@@.Jvm.D
/-- from the state A the run comes to the frame f over T -/
abbrev Go (tb : Tables) (e : Env) (below : List Frame) (A T : State) (f : JFrame) : Prop := ∀ t, Steps tb e below (T.setTop f) t → Steps tb e below A t

theorem own_sta {args : Array Value} {s : State} {C n d K : String} {a0 : Array Value} (h : (Jvm.Cond.exactly (Term.static C n d) K).value args s none s [] = some true) (hi : (Jvm.Cond.initialized C).before args s = true) (hl : (Jvm.Cond.laysStatic C n d).before args s = true) :
    ∃ a, Sta s s.heap C n d (.ref a) ∧ Exa s s.heap a K ∧ (Term.static C n d).eval args s none [] s = some (.ref a) := by
  obtain ⟨a, e⟩ := exa_v h
  exact ⟨a, Sta.start e (Or.inr ⟨hi, hl⟩), Exa.start e h, e⟩
theorem own_fld {args : Array Value} {s : State} {t : Term} {a : Addr} {C n d : String} {z : Int32} (et : t.eval args s none [] s = some (.ref a)) (h : (Jvm.Cond.eq (Term.field t C n d) (Term.int z)).value args s none s [] = some true) : Fld s s.heap a C n d (.int z) := by
  obtain ⟨x, y, e1, e2, k1, k2⟩ := cmp_v (Or.inl h)
  cases (Term.int_eval z).symm.trans e2
  obtain ⟨u, rfl⟩ : ∃ u, x = .int u := k2
  have q : u = z := gotT (Cond.eq_ints e1 (Term.int_eval z)) h
  subst q
  simp only [Term.eval, et] at e1
  exact Fld.start e1

section OwnPriv
variable {p : Program} {l : Launch} {e : Env} {R : Room} {s : State} {m : MethodId} {args : Array Value} {below : List Frame} {meth : Method} {c : Code} {T : State} {locs : List Loc} {cells slots : Nat}
/-- a private method called by invokevirtual, where the sheet's 'selects' speaks of another method of its class -/
theorem own_private (X : Stand p l e R s m args below meth c T locs cells slots) (hexec : p.tables.exec = Jvm.exec) {own C : String} {index : Nat} {y y' z' : MethodName} {bytes : ByteArray} {maxL : Nat} {ret : Option FieldType}
    (hown : s.vm.findClass own = some m.cls) (hlink : (Jvm.Cond.methodLink own index y).before args s = true) (hinst : (Jvm.Cond.instanceMethod y).before args s = true) (hsel : (Jvm.Cond.selects C y' z').before args s = true) (hzc : z'.cls = y.cls)
    (hpriv : s.PrivateAt y) (hcode : (Jvm.Cond.code y bytes maxL ret).before args s = true) (hy : y.cls ≠ "java/lang/invoke/MethodHandle" ∧ y.cls ≠ "java/lang/invoke/VarHandle")
    {W : Nat} {Pre : Pt → Array Value → Prop} {Post : Pt → Array Value → Option Value → Pt → Prop} (hK : Back l R p e below s args y 3 W Pre Post)
    {a : Addr} {cell : Cell} (hcell : T.heap[a]? = some cell) (hobj : ∀ q, cell.vm ≠ .statics q) {g : JFrame} (hg : g.method = m) (hsize : g.locals.size = c.maxLocals)
    {argsL rest : List Value} (hlen : ∀ sig, parseMethodDescriptor y.desc = some sig → argsL.length = sig.parameters.length)
    (hstack : g.stack = argsL.reverse ++ .ref a :: rest) (hW : 2 * g.monitorRoom + (rest.map fun v => v.category).sum ≤ W) (hdg : decode c.code g.pc = .ok (.invokevirtual index, 3))
    (hpre : ∀ vm₁, s.WarmedH vm₁ → Pre ⟨T.setVm vm₁, locs, cells, slots⟩ (.ref a :: argsL).toArray) :
    ∃ (v : Option Value) (vm₁ : Vm) (B : Pt), s.WarmedH vm₁ ∧ Stand p l e R s m args below meth c B.U B.locs B.cells B.slots ∧ Post ⟨T.setVm vm₁, locs, cells, slots⟩ (.ref a :: argsL).toArray v B ∧
      ∀ target, Steps p.tables e below (B.U.setTop { g with pc := g.pc + 3, stack := v.toList ++ rest }) target → Steps p.tables e below (T.setTop g) target := by
  obtain ⟨mk, methM, hnamed, hmethM, hstM, habM⟩ := Cond.instanceMethod_spec hinst
  obtain ⟨methC, cM, hmethC, -, -, -, -, -, -, hsigM⟩ := Cond.code_spec hnamed hcode
  cases hmethM.symm.trans hmethC
  obtain ⟨-, -, m2, -, -, hnz, -, kP, hkz, hki⟩ := Cond.selects_spec hsel
  have i1 := findClass_of_methodNamed hnamed
  have i2 := findClass_of_methodNamed hnz
  rw [hzc] at i2
  have i3 : mk.cls = m2.cls := Option.some.inj (i1.symm.trans i2)
  have hkP : s.vm.classes[mk.cls]? = some kP := by rw [i3]; exact hkz
  have hs1 : selectMethod e.platform s.vm cell.cls mk = .method mk := selectMethod_private hmethM (hpriv mk methM hnamed hmethM)
  obtain ⟨vm₁, X₁, go₁⟩ := X.invokevirtual hexec hown hlink hnamed hmethM hstM hkP hki hy (a := a) (cell := cell) hcell hobj hs1 hmethM habM hkP hki (g := g) hg (argsL := argsL) (rest := rest) (hlen _ hsigM) hstack hdg
  obtain ⟨v, B, X', hpost, hsteps⟩ := hK m meth c ⟨T.setVm vm₁, locs, cells, slots⟩ { g with stack := rest } (.invokevirtual index) mk (Value.ref a :: argsL).toArray X₁ hg hsize hdg hW (X₁.named hnamed) (hpre vm₁ X₁.warmed)
  exact ⟨v, vm₁, B, X₁.warmed, X', hpost, fun target h => go₁ _ fun acts => by rw [doInvoke_state]; exact hsteps.trans h⟩
end OwnPriv

theorem own_m (j : Nat) : (255#64).getLsbD j = decide (j < 8) := by
  by_cases h : j < 64
  · have : ∀ k : Fin 64, (255#64).getLsbD k.val = decide (k.val < 8) := by decide
    exact this ⟨j, h⟩
  · rw [BitVec.getLsbD_of_ge _ _ (by omega)]; exact (decide_eq_false (by omega)).symm
theorem own_asm (v : BitVec 64) : ((v >>> 56 &&& 255#64) <<< 56 ||| (v >>> 48 &&& 255#64) <<< 48 ||| (v >>> 40 &&& 255#64) <<< 40 ||| (v >>> 32 &&& 255#64) <<< 32 ||| (v >>> 24 &&& 255#64) <<< 24 ||| (v >>> 16 &&& 255#64) <<< 16 ||| (v >>> 8 &&& 255#64) <<< 8 ||| (v &&& 255#64)) = v := by
  apply BitVec.eq_of_getLsbD_eq
  intro i hi
  simp only [BitVec.getLsbD_or, BitVec.getLsbD_shiftLeft, BitVec.getLsbD_and, BitVec.getLsbD_ushiftRight, own_m, hi, decide_true, Bool.true_and]
  have key : ∀ n, (!decide (i < n) && (v.getLsbD (n + (i - n)) && decide (i - n < 8))) = (decide (n ≤ i ∧ i < n + 8) && v.getLsbD i) := by
    intro n
    by_cases h : i < n
    · rw [decide_eq_true h, decide_eq_false (p := n ≤ i ∧ i < n + 8) (by omega)]; rfl
    · rw [decide_eq_false h, show n + (i - n) = i by omega]
      by_cases h2 : i - n < 8
      · rw [decide_eq_true h2, decide_eq_true (p := n ≤ i ∧ i < n + 8) (by omega)]; cases v.getLsbD i <;> rfl
      · rw [decide_eq_false h2, decide_eq_false (p := n ≤ i ∧ i < n + 8) (by omega)]; cases v.getLsbD i <;> rfl
  simp only [key]
  cases v.getLsbD i
  · simp
  · simp only [Bool.and_true, Bool.true_and, ← Bool.decide_or, decide_eq_true_eq]
    omega
def own_b8 (x : Int64) : Int32 := x.toInt32.toInt8.toInt32.toInt8.toInt32
theorem own_b8_bits (x : Int64) : ((own_b8 x).toInt64 &&& 255).toBitVec = x.toBitVec &&& 255#64 := by
  rw [Int64.toBitVec_and]
  show ((own_b8 x).toInt64).toBitVec &&& 255#64 = _
  apply BitVec.eq_of_getLsbD_eq
  intro i hi
  rw [BitVec.getLsbD_and, BitVec.getLsbD_and, own_m]
  by_cases h : i < 8
  · rw [decide_eq_true h, Bool.and_true, Bool.and_true]
    unfold own_b8
    simp only [Int32.toBitVec_toInt64, Int8.toInt8_toInt32, Int8.toBitVec_toInt32, Int32.toBitVec_toInt8, Int64.toBitVec_toInt32]
    rw [BitVec.getLsbD_signExtend, decide_eq_true hi, Bool.true_and, if_pos (by omega), BitVec.getLsbD_signExtend, decide_eq_true (by omega), Bool.true_and, if_pos h, BitVec.getLsbD_signExtend, decide_eq_true h, Bool.true_and, if_pos (by omega), BitVec.getLsbD_signExtend, decide_eq_true (by omega), Bool.true_and, if_pos (by omega)]
  · rw [decide_eq_false h, Bool.and_false, Bool.and_false]
def own_sh (z : Int64) (k : Int32) : Int64 := (z.toUInt64 >>> (k &&& 0x3f).toInt64.toUInt64).toInt64
def own_lo (b : Int32) (k : Int32) : Int64 := (b.toInt64 &&& 255) <<< (k &&& 0x3f).toInt64
def own_long (b0 b1 b2 b3 b4 b5 b6 b7 : Int32) : Int64 := own_lo b0 56 ||| own_lo b1 48 ||| own_lo b2 40 ||| own_lo b3 32 ||| own_lo b4 24 ||| own_lo b5 16 ||| own_lo b6 8 ||| (b7.toInt64 &&& 255)
theorem own_long_eq (v : Int64) : own_long (own_b8 (own_sh v 56)) (own_b8 (own_sh v 48)) (own_b8 (own_sh v 40)) (own_b8 (own_sh v 32)) (own_b8 (own_sh v 24)) (own_b8 (own_sh v 16)) (own_b8 (own_sh v 8)) (own_b8 v) = v := by
  apply Int64.toBitVec_inj.mp
  have e : ∀ (b : Int32) (k : Int32) (n : Nat) (h : ((k &&& 0x3f).toInt64.toBitVec.smod 64).toNat = n), (own_lo b k).toBitVec = ((b.toInt64 &&& 255).toBitVec) <<< n := by
    intro b k n h
    unfold own_lo
    rw [Int64.toBitVec_shiftLeft, BitVec.shiftLeft_eq', h]
  unfold own_long
  simp only [Int64.toBitVec_or]
  rw [e _ 56 56 (by decide), e _ 48 48 (by decide), e _ 40 40 (by decide), e _ 32 32 (by decide), e _ 24 24 (by decide), e _ 16 16 (by decide), e _ 8 8 (by decide)]
  simp only [own_b8_bits]
  have f56 : (own_sh v 56).toBitVec = v.toBitVec >>> 56 := by simp [own_sh]
  have f48 : (own_sh v 48).toBitVec = v.toBitVec >>> 48 := by simp [own_sh]
  have f40 : (own_sh v 40).toBitVec = v.toBitVec >>> 40 := by simp [own_sh]
  have f32 : (own_sh v 32).toBitVec = v.toBitVec >>> 32 := by simp [own_sh]
  have f24 : (own_sh v 24).toBitVec = v.toBitVec >>> 24 := by simp [own_sh]
  have f16 : (own_sh v 16).toBitVec = v.toBitVec >>> 16 := by simp [own_sh]
  have f8 : (own_sh v 8).toBitVec = v.toBitVec >>> 8 := by simp [own_sh]
  rw [f56, f48, f40, f32, f24, f16, f8]
  exact own_asm v.toBitVec
theorem own_and3 (x : Int32) : (x &&& 3) = 0 ∨ (x &&& 3) = 1 ∨ (x &&& 3) = 2 ∨ (x &&& 3) = 3 := by
  have h := c_mask x 3 2 (by decide) (by decide)
  simp only [← Int32.toInt_inj, h, show (0 : Int32).toInt = 0 from rfl, show (1 : Int32).toInt = 1 from rfl, show (2 : Int32).toInt = 2 from rfl, show (3 : Int32).toInt = 3 from rfl]
  omega
def own_isC (z st : Int32) : Int32 := if z < st + 8 then 0 else 1
def own_of (v : Int64) (z : Int32) (rT rN : Addr) : Value := if z < 8 then .null else if v < (946684800000000000 : Int64) then (if own_isC z 8 = 0 then .null else .ref rN) else (if own_isC z 0 = 0 then .null else .ref rT)
def own_chk (a r : Addr) : Int32 := if a = r then 1 else 0
theorem own_add8 (z : Int32) (h0 : 0 ≤ z.toInt) (h1 : z.toInt ≤ 23) : ((8 : Int32) + z).toInt = 8 + z.toInt := by
  have a := c_iadd 8 z; have r := rng32 (8 + z)
  rw [show (8 : Int32).toInt = 8 from rfl] at a
  omega
theorem own_len8 (z : Int32) (h0 : 0 ≤ z.toInt) (h1 : z.toInt ≤ 23) : ¬ ((8 : Int32) + z) < 0 ∧ ((8 : Int32) + z).toNatClampNeg ≤ 31 ∧ ¬ z < 0 ∧ (8 : Int32).toNatClampNeg + z.toNatClampNeg ≤ ((8 : Int32) + z).toNatClampNeg ∧ (8 : Int32).toNatClampNeg + z.toNatClampNeg ≤ 31 := by
  have a := own_add8 z h0 h1
  have e8 : (8 : Int32).toNatClampNeg = 8 := rfl
  rw [e8]
  simp only [Int32.lt_iff_toInt_lt, Int32.toNatClampNeg, a, show (0 : Int32).toInt = 0 from rfl]
  omega
theorem own_lt8 (z : Int32) (h0 : 0 ≤ z.toInt) (h1 : z.toInt ≤ 23) {j : Int32} (hj : j < 8) : j < (8 : Int32) + z := by
  have a := own_add8 z h0 h1
  rw [Int32.lt_iff_toInt_lt] at hj ⊢
  rw [a]; rw [show (8 : Int32).toInt = 8 from rfl] at hj; omega

def own_car (a r : Addr) (v : Int64) : Int32 := if a = r then (if v < (946684800000000000 : Int64) then 0 else 1) else 1
theorem own_and15 {z x : Int32} (h : z = (x &&& (15 : Int32))) : 0 ≤ z.toInt ∧ z.toInt ≤ 15 := by
  subst h; exact c_and x 15 (by decide)
theorem own_le15 (z : Int32) (h0 : 0 ≤ z.toInt) (h1 : z.toInt ≤ 15) : ¬ z < 0 ∧ z.toNatClampNeg ≤ 15 := by
  simp only [Int32.lt_iff_toInt_lt, Int32.toNatClampNeg, show (0 : Int32).toInt = 0 from rfl]; omega
theorem own_le23 {z : Int32} (h1 : z.toInt ≤ 15) : z.toInt ≤ 23 := by omega
theorem own_hz8 (z : Int32) (h0 : 0 ≤ z.toInt) (h1 : z.toInt ≤ 15) : 0 ≤ ((8 : Int32) + z).toInt ∧ ((8 : Int32) + z).toInt ≤ 23 := by
  rw [own_add8 z h0 (by omega)]; omega
theorem own_rem {w n : Int64} (hw : w = n - n / (946684800000000000 : Int64) * (946684800000000000 : Int64)) (h : ¬ n < (946684800000000000 : Int64)) : w < (946684800000000000 : Int64) := by
  rw [Int64.lt_iff_toInt_lt, show (946684800000000000 : Int64).toInt = 946684800000000000 from rfl] at h ⊢
  rw [hw, (c_lrem n 946684800000000000 946684800000000000 rfl).1 (by omega)]
  omega
theorem own_of_num {x : Int64} {rT rN : Addr} (z : Int32) (h0 : 0 ≤ z.toInt) (h1 : z.toInt ≤ 15) (h : x < (946684800000000000 : Int64)) : own_of x ((8 : Int32) + ((8 : Int32) + z)) rT rN = .ref rN := by
  have a := own_add8 z h0 (by omega)
  have b := own_add8 ((8 : Int32) + z) (by omega) (by omega)
  have c1 : ¬ ((8 : Int32) + ((8 : Int32) + z)) < 8 := by rw [Int32.lt_iff_toInt_lt, b, a, show (8 : Int32).toInt = 8 from rfl]; omega
  have c2 : ¬ ((8 : Int32) + ((8 : Int32) + z)) < (8 : Int32) + 8 := by rw [Int32.lt_iff_toInt_lt, b, a, show ((8 : Int32) + 8).toInt = 16 from rfl]; omega
  rw [own_of, if_neg c1, if_pos h, own_isC, if_neg c2, if_neg (by decide)]
theorem own_of_lo {x : Int64} {rT rN : Addr} (z : Int32) (h0 : 0 ≤ z.toInt) (h1 : z.toInt ≤ 15) (h : x < (946684800000000000 : Int64)) (hI : own_isC ((8 : Int32) + z) (8 : Int32) = 0) : own_of x ((8 : Int32) + z) rT rN = .null := by
  have a := own_add8 z h0 (by omega)
  have c1 : ¬ ((8 : Int32) + z) < 8 := by rw [Int32.lt_iff_toInt_lt, a, show (8 : Int32).toInt = 8 from rfl]; omega
  rw [own_of, if_neg c1, if_pos h, if_pos hI]
theorem own_of_hi {x : Int64} {rT rN : Addr} (z : Int32) (h0 : 0 ≤ z.toInt) (h1 : z.toInt ≤ 15) (h : x < (946684800000000000 : Int64)) (hI : ¬ own_isC ((8 : Int32) + z) (8 : Int32) = 0) : own_of x ((8 : Int32) + z) rT rN = .ref rN := by
  have a := own_add8 z h0 (by omega)
  have c1 : ¬ ((8 : Int32) + z) < 8 := by rw [Int32.lt_iff_toInt_lt, a, show (8 : Int32).toInt = 8 from rfl]; omega
  rw [own_of, if_neg c1, if_pos h, if_neg hI]
theorem own_of_ts {x : Int64} {rT rN : Addr} (z : Int32) (h0 : 0 ≤ z.toInt) (h1 : z.toInt ≤ 15) (h : ¬ x < (946684800000000000 : Int64)) : own_of x ((8 : Int32) + z) rT rN = .ref rT := by
  have a := own_add8 z h0 (by omega)
  have c1 : ¬ ((8 : Int32) + z) < 8 := by rw [Int32.lt_iff_toInt_lt, a, show (8 : Int32).toInt = 8 from rfl]; omega
  have c2 : ¬ ((8 : Int32) + z) < (0 : Int32) + 8 := by rw [Int32.lt_iff_toInt_lt, a, show ((0 : Int32) + 8).toInt = 8 from rfl]; omega
  rw [own_of, if_neg c1, if_neg h, own_isC, if_neg c2, if_neg (by decide)]

theorem pd_0 : parseMethodDescriptor "([BI)J" = some ⟨[(.array .byte), .int], some .long⟩ := by decide +kernel
theorem pd_1 : parseMethodDescriptor "([B)J" = some ⟨[(.array .byte)], some .long⟩ := by decide +kernel
theorem pd_2 : parseMethodDescriptor "([B)Z" = some ⟨[(.array .byte)], some .boolean⟩ := by decide +kernel
theorem pd_3 : parseMethodDescriptor "(J[B)[B" = some ⟨[.long, (.array .byte)], some (.array .byte)⟩ := by decide +kernel
theorem pd_4 : parseMethodDescriptor "([B)Lcom/example/fence/fence/service/ClaimFormat;" = some ⟨[(.array .byte)], some (.object "com/example/fence/fence/service/ClaimFormat")⟩ := by decide +kernel
theorem pd_5 : parseMethodDescriptor "(J)Z" = some ⟨[.long], some .boolean⟩ := by decide +kernel
theorem d5_0 : decode prog_52_method_3_code 0 = .ok (.aload_n 0, 1) := by decide +kernel
theorem d5_1 : decode prog_52_method_3_code 1 = .ok (.iload_n 1, 1) := by decide +kernel
theorem d5_2 : decode prog_52_method_3_code 2 = .ok (.baload, 1) := by decide +kernel
theorem d5_3 : decode prog_52_method_3_code 3 = .ok (.i2l, 1) := by decide +kernel
theorem d5_4 : decode prog_52_method_3_code 4 = .ok (.ldc2_w 15, 3) := by decide +kernel
theorem d5_7 : decode prog_52_method_3_code 7 = .ok (.land, 1) := by decide +kernel
theorem d5_8 : decode prog_52_method_3_code 8 = .ok (.bipush 56, 2) := by decide +kernel
theorem d5_10 : decode prog_52_method_3_code 10 = .ok (.lshl, 1) := by decide +kernel
theorem d5_11 : decode prog_52_method_3_code 11 = .ok (.aload_n 0, 1) := by decide +kernel
theorem d5_12 : decode prog_52_method_3_code 12 = .ok (.iload_n 1, 1) := by decide +kernel
theorem d5_13 : decode prog_52_method_3_code 13 = .ok (.iconst 1, 1) := by decide +kernel
theorem d5_14 : decode prog_52_method_3_code 14 = .ok (.iadd, 1) := by decide +kernel
theorem d5_15 : decode prog_52_method_3_code 15 = .ok (.baload, 1) := by decide +kernel
theorem d5_16 : decode prog_52_method_3_code 16 = .ok (.i2l, 1) := by decide +kernel
theorem d5_17 : decode prog_52_method_3_code 17 = .ok (.ldc2_w 15, 3) := by decide +kernel
theorem d5_20 : decode prog_52_method_3_code 20 = .ok (.land, 1) := by decide +kernel
theorem d5_21 : decode prog_52_method_3_code 21 = .ok (.bipush 48, 2) := by decide +kernel
theorem d5_23 : decode prog_52_method_3_code 23 = .ok (.lshl, 1) := by decide +kernel
theorem d5_24 : decode prog_52_method_3_code 24 = .ok (.lor, 1) := by decide +kernel
theorem d5_25 : decode prog_52_method_3_code 25 = .ok (.aload_n 0, 1) := by decide +kernel
theorem d5_26 : decode prog_52_method_3_code 26 = .ok (.iload_n 1, 1) := by decide +kernel
theorem d5_27 : decode prog_52_method_3_code 27 = .ok (.iconst 2, 1) := by decide +kernel
theorem d5_28 : decode prog_52_method_3_code 28 = .ok (.iadd, 1) := by decide +kernel
theorem d5_29 : decode prog_52_method_3_code 29 = .ok (.baload, 1) := by decide +kernel
theorem d5_30 : decode prog_52_method_3_code 30 = .ok (.i2l, 1) := by decide +kernel
theorem d5_31 : decode prog_52_method_3_code 31 = .ok (.ldc2_w 15, 3) := by decide +kernel
theorem d5_34 : decode prog_52_method_3_code 34 = .ok (.land, 1) := by decide +kernel
theorem d5_35 : decode prog_52_method_3_code 35 = .ok (.bipush 40, 2) := by decide +kernel
theorem d5_37 : decode prog_52_method_3_code 37 = .ok (.lshl, 1) := by decide +kernel
theorem d5_38 : decode prog_52_method_3_code 38 = .ok (.lor, 1) := by decide +kernel
theorem d5_39 : decode prog_52_method_3_code 39 = .ok (.aload_n 0, 1) := by decide +kernel
theorem d5_40 : decode prog_52_method_3_code 40 = .ok (.iload_n 1, 1) := by decide +kernel
theorem d5_41 : decode prog_52_method_3_code 41 = .ok (.iconst 3, 1) := by decide +kernel
theorem d5_42 : decode prog_52_method_3_code 42 = .ok (.iadd, 1) := by decide +kernel
theorem d5_43 : decode prog_52_method_3_code 43 = .ok (.baload, 1) := by decide +kernel
theorem d5_44 : decode prog_52_method_3_code 44 = .ok (.i2l, 1) := by decide +kernel
theorem d5_45 : decode prog_52_method_3_code 45 = .ok (.ldc2_w 15, 3) := by decide +kernel
theorem d5_48 : decode prog_52_method_3_code 48 = .ok (.land, 1) := by decide +kernel
theorem d5_49 : decode prog_52_method_3_code 49 = .ok (.bipush 32, 2) := by decide +kernel
theorem d5_51 : decode prog_52_method_3_code 51 = .ok (.lshl, 1) := by decide +kernel
theorem d5_52 : decode prog_52_method_3_code 52 = .ok (.lor, 1) := by decide +kernel
theorem d5_53 : decode prog_52_method_3_code 53 = .ok (.aload_n 0, 1) := by decide +kernel
theorem d5_54 : decode prog_52_method_3_code 54 = .ok (.iload_n 1, 1) := by decide +kernel
theorem d5_55 : decode prog_52_method_3_code 55 = .ok (.iconst 4, 1) := by decide +kernel
theorem d5_56 : decode prog_52_method_3_code 56 = .ok (.iadd, 1) := by decide +kernel
theorem d5_57 : decode prog_52_method_3_code 57 = .ok (.baload, 1) := by decide +kernel
theorem d5_58 : decode prog_52_method_3_code 58 = .ok (.i2l, 1) := by decide +kernel
theorem d5_59 : decode prog_52_method_3_code 59 = .ok (.ldc2_w 15, 3) := by decide +kernel
theorem d5_62 : decode prog_52_method_3_code 62 = .ok (.land, 1) := by decide +kernel
theorem d5_63 : decode prog_52_method_3_code 63 = .ok (.bipush 24, 2) := by decide +kernel
theorem d5_65 : decode prog_52_method_3_code 65 = .ok (.lshl, 1) := by decide +kernel
theorem d5_66 : decode prog_52_method_3_code 66 = .ok (.lor, 1) := by decide +kernel
theorem d5_67 : decode prog_52_method_3_code 67 = .ok (.aload_n 0, 1) := by decide +kernel
theorem d5_68 : decode prog_52_method_3_code 68 = .ok (.iload_n 1, 1) := by decide +kernel
theorem d5_69 : decode prog_52_method_3_code 69 = .ok (.iconst 5, 1) := by decide +kernel
theorem d5_70 : decode prog_52_method_3_code 70 = .ok (.iadd, 1) := by decide +kernel
theorem d5_71 : decode prog_52_method_3_code 71 = .ok (.baload, 1) := by decide +kernel
theorem d5_72 : decode prog_52_method_3_code 72 = .ok (.i2l, 1) := by decide +kernel
theorem d5_73 : decode prog_52_method_3_code 73 = .ok (.ldc2_w 15, 3) := by decide +kernel
theorem d5_76 : decode prog_52_method_3_code 76 = .ok (.land, 1) := by decide +kernel
theorem d5_77 : decode prog_52_method_3_code 77 = .ok (.bipush 16, 2) := by decide +kernel
theorem d5_79 : decode prog_52_method_3_code 79 = .ok (.lshl, 1) := by decide +kernel
theorem d5_80 : decode prog_52_method_3_code 80 = .ok (.lor, 1) := by decide +kernel
theorem d5_81 : decode prog_52_method_3_code 81 = .ok (.aload_n 0, 1) := by decide +kernel
theorem d5_82 : decode prog_52_method_3_code 82 = .ok (.iload_n 1, 1) := by decide +kernel
theorem d5_83 : decode prog_52_method_3_code 83 = .ok (.bipush 6, 2) := by decide +kernel
theorem d5_85 : decode prog_52_method_3_code 85 = .ok (.iadd, 1) := by decide +kernel
theorem d5_86 : decode prog_52_method_3_code 86 = .ok (.baload, 1) := by decide +kernel
theorem d5_87 : decode prog_52_method_3_code 87 = .ok (.i2l, 1) := by decide +kernel
theorem d5_88 : decode prog_52_method_3_code 88 = .ok (.ldc2_w 15, 3) := by decide +kernel
theorem d5_91 : decode prog_52_method_3_code 91 = .ok (.land, 1) := by decide +kernel
theorem d5_92 : decode prog_52_method_3_code 92 = .ok (.bipush 8, 2) := by decide +kernel
theorem d5_94 : decode prog_52_method_3_code 94 = .ok (.lshl, 1) := by decide +kernel
theorem d5_95 : decode prog_52_method_3_code 95 = .ok (.lor, 1) := by decide +kernel
theorem d5_96 : decode prog_52_method_3_code 96 = .ok (.aload_n 0, 1) := by decide +kernel
theorem d5_97 : decode prog_52_method_3_code 97 = .ok (.iload_n 1, 1) := by decide +kernel
theorem d5_98 : decode prog_52_method_3_code 98 = .ok (.bipush 7, 2) := by decide +kernel
theorem d5_100 : decode prog_52_method_3_code 100 = .ok (.iadd, 1) := by decide +kernel
theorem d5_101 : decode prog_52_method_3_code 101 = .ok (.baload, 1) := by decide +kernel
theorem d5_102 : decode prog_52_method_3_code 102 = .ok (.i2l, 1) := by decide +kernel
theorem d5_103 : decode prog_52_method_3_code 103 = .ok (.ldc2_w 15, 3) := by decide +kernel
theorem d5_106 : decode prog_52_method_3_code 106 = .ok (.land, 1) := by decide +kernel
theorem d5_107 : decode prog_52_method_3_code 107 = .ok (.lor, 1) := by decide +kernel
theorem d5_108 : decode prog_52_method_3_code 108 = .ok (.lreturn, 1) := by decide +kernel
theorem pn_la : plainName "com/example/fence/fence/util/BigEndian" = true := by first | (simp [plainName, overriddenIn]; done) | decide +kernel
theorem ef_la (m : MethodId) (a0 : Addr) (p1 : Int32) : entryFrame m #[(.ref a0), (.int p1)] 2 = mkF m 0 #[.val (.ref a0), .val (.int p1)] [] := by first | (simp [entryFrame, mkF, argsToLocals, Value.category]; done) | rfl
def Q_la (Z : State) (a0 : Addr) (p1 : Int32) (cl : Cell) (b0 : Int32) (b1 : Int32) (b2 : Int32) (b3 : Int32) (b4 : Int32) (b5 : Int32) (b6 : Int32) (b7 : Int32) (h0 : Heap) (n0 : Nat) (v : Option Value) (h : Heap) (L : List Loc) : Prop := v = some (.long (own_long b0 b1 b2 b3 b4 b5 b6 b7)) ∧ Fr n0 L ∧ h = h0
set_option maxRecDepth 65536 in
set_option maxHeartbeats 40000000 in
theorem rm_la (l : Launch) (Z : State) (av0 : Array Value) (hw : ∀ d ∈ tables_1, d.before av0 Z = true) (ws : List Jvm.Cond) (a0 : Addr) (p1 : Int32) (cl : Cell) (b0 : Int32) (b1 : Int32) (b2 : Int32) (b3 : Int32) (b4 : Int32) (b5 : Int32) (b6 : Int32) (b7 : Int32) (h0 : Heap) (n0 : Nat) (Ar : Arr Z h0 a0 cl .byte) (hi0 : ¬ (p1 < 0 ∨ cl.slots.size ≤ (p1).toNatClampNeg)) (hi1 : ¬ ((p1 + (1 : Int32)) < 0 ∨ cl.slots.size ≤ ((p1 + (1 : Int32))).toNatClampNeg)) (hi2 : ¬ ((p1 + (2 : Int32)) < 0 ∨ cl.slots.size ≤ ((p1 + (2 : Int32))).toNatClampNeg)) (hi3 : ¬ ((p1 + (3 : Int32)) < 0 ∨ cl.slots.size ≤ ((p1 + (3 : Int32))).toNatClampNeg)) (hi4 : ¬ ((p1 + (4 : Int32)) < 0 ∨ cl.slots.size ≤ ((p1 + (4 : Int32))).toNatClampNeg)) (hi5 : ¬ ((p1 + (5 : Int32)) < 0 ∨ cl.slots.size ≤ ((p1 + (5 : Int32))).toNatClampNeg)) (hi6 : ¬ ((p1 + (6 : Int32)) < 0 ∨ cl.slots.size ≤ ((p1 + (6 : Int32))).toNatClampNeg)) (hi7 : ¬ ((p1 + (7 : Int32)) < 0 ∨ cl.slots.size ≤ ((p1 + (7 : Int32))).toNatClampNeg)) (ha0 : cl.slots[(p1).toNatClampNeg]? = some (.int b0)) (ha1 : cl.slots[((p1 + (1 : Int32))).toNatClampNeg]? = some (.int b1)) (ha2 : cl.slots[((p1 + (2 : Int32))).toNatClampNeg]? = some (.int b2)) (ha3 : cl.slots[((p1 + (3 : Int32))).toNatClampNeg]? = some (.int b3)) (ha4 : cl.slots[((p1 + (4 : Int32))).toNatClampNeg]? = some (.int b4)) (ha5 : cl.slots[((p1 + (5 : Int32))).toNatClampNeg]? = some (.int b5)) (ha6 : cl.slots[((p1 + (6 : Int32))).toNatClampNeg]? = some (.int b6)) (ha7 : cl.slots[((p1 + (7 : Int32))).toNatClampNeg]? = some (.int b7)) :
    MetFree l (⟨"com/example/fence/fence/util/BigEndian", "longAt", "([BI)J"⟩ : MethodName) (head1 (Jvm.Cond.code (⟨"com/example/fence/fence/util/BigEndian", "longAt", "([BI)J"⟩ : MethodName) prog_52_method_3_code 2 (some .long) :: ws) ({ frames := 0, cells := 0, slots := 0, locals := 0 } : Room)) (fun a U => a = #[(.ref a0), (.int p1)] ∧ Z.Warmed39 U.vm ∧ U.heap = h0) (fun _ _ _ _ _ => True) (fun _ U o U' => ∃ v L, o = .returned v ∧ Q_la Z a0 p1 cl b0 b1 b2 b3 b4 b5 b6 b7 h0 n0 v U'.heap L ∧ FrameEnd U o U' L ({ frames := 0, cells := 0, slots := 0, locals := 0 } : Room).cells ({ frames := 0, cells := 0, slots := 0, locals := 0 } : Room).slots) := by
  refine MetFree.of_bodySF (plainFor_of_name pn_la) hisR ?_
  intro p e s m args below meth c s₁ Bd hml0 hP hK
  obtain ⟨rfl, hZ, hh⟩ := hP
  have hx := Bd.exec
  have hby := Bd.bytes
  have hml : c.maxLocals = 2 := hml0
  have hown : s.vm.findClass "com/example/fence/fence/util/BigEndian" = some m.cls := findClass_of_methodNamed Bd.named
  have hnm := (name_of_methodNamed Bd.named Bd.method).1
  have X0 : Stand p l e ({ frames := 0, cells := 0, slots := 0, locals := 0 } : Room) s m #[(.ref a0), (.int p1)] below meth c s₁ [] 0 0 := Stand.of_body Bd
  have e0 : s₁.heap = h0 := by rw [← hh, Bd.state]; rfl
  have N0 := Fr.nil n0
  have pre0 : Go p.tables e below (s₁.setTop (entryFrame m #[(.ref a0), (.int p1)] 2)) s₁ (mkF m 0 #[.val (.ref a0), .val (.int p1)] []) := fun t k => castTop (ef_la m a0 p1) k
  have pre1 : Go p.tables e below (s₁.setTop (entryFrame m #[(.ref a0), (.int p1)] 2)) s₁ (mkF m 2 #[.val (.ref a0), .val (.int p1)] [(.int p1), (.ref a0)]) := fun t k => pre0 t (by
      refine XS.aloadN X0.here hx rfl (hb hby d5_0) rfl rfl ?_
      show Steps p.tables e below (s₁.setTop (mkF m 1 #[.val (.ref a0), .val (.int p1)] [(.ref a0)])) _
      refine XS.iloadN X0.here hx rfl (hb hby d5_1) rfl ?_
      exact k)
  have pre2 : Go p.tables e below (s₁.setTop (entryFrame m #[(.ref a0), (.int p1)] 2)) s₁ (mkF m 3 #[.val (.ref a0), .val (.int p1)] [(.int b0)]) := fun t k => pre1 t (X0.baloadBytes hx (j := p1) (v := (.int b0)) (by rw [e0]; exact Ar.1) (State.isArrayOf_alike hZ.alike Ar.2.1) Ar.2.2 hi0 ha0 (g := (mkF m 2 #[.val (.ref a0), .val (.int p1)] [(.int p1), (.ref a0)])) rfl rfl (hb hby d5_2) _ k)
  have pre3 : Go p.tables e below (s₁.setTop (entryFrame m #[(.ref a0), (.int p1)] 2)) s₁ (mkF m 15 #[.val (.ref a0), .val (.int p1)] [(.int (p1 + (1 : Int32))), (.ref a0), (.long (((b0.toInt64) &&& (255 : Int64)) <<< ((56 : Int32) &&& 0x3f).toInt64))]) := fun t k => pre2 t (by
      refine XS.i2l X0.here hx rfl (hb hby d5_3) rfl ?_
      show Steps p.tables e below (s₁.setTop (mkF m 4 #[.val (.ref a0), .val (.int p1)] [(.long (b0.toInt64))])) _
      refine X0.ldc2Long hx hown (mvT hZ (hw _ (List.mem_of_getElem? (i := 25) rfl))) (g := (mkF m 4 #[.val (.ref a0), .val (.int p1)] [(.long (b0.toInt64))])) rfl (hb hby d5_4) _ ?_
      show Steps p.tables e below (s₁.setTop (mkF m 7 #[.val (.ref a0), .val (.int p1)] [(.long (255 : Int64)), (.long (b0.toInt64))])) _
      refine XS.land X0.here hx rfl (hb hby d5_7) rfl ?_
      show Steps p.tables e below (s₁.setTop (mkF m 8 #[.val (.ref a0), .val (.int p1)] [(.long ((b0.toInt64) &&& (255 : Int64)))])) _
      refine XS.bipush X0.here hx rfl (hb hby d5_8) ?_
      show Steps p.tables e below (s₁.setTop (mkF m 10 #[.val (.ref a0), .val (.int p1)] [(.int (56 : Int32)), (.long ((b0.toInt64) &&& (255 : Int64)))])) _
      refine XS.lshl X0.here hx rfl (hb hby d5_10) rfl ?_
      show Steps p.tables e below (s₁.setTop (mkF m 11 #[.val (.ref a0), .val (.int p1)] [(.long (((b0.toInt64) &&& (255 : Int64)) <<< ((56 : Int32) &&& 0x3f).toInt64))])) _
      refine XS.aloadN X0.here hx rfl (hb hby d5_11) rfl rfl ?_
      show Steps p.tables e below (s₁.setTop (mkF m 12 #[.val (.ref a0), .val (.int p1)] [(.ref a0), (.long (((b0.toInt64) &&& (255 : Int64)) <<< ((56 : Int32) &&& 0x3f).toInt64))])) _
      refine XS.iloadN X0.here hx rfl (hb hby d5_12) rfl ?_
      show Steps p.tables e below (s₁.setTop (mkF m 13 #[.val (.ref a0), .val (.int p1)] [(.int p1), (.ref a0), (.long (((b0.toInt64) &&& (255 : Int64)) <<< ((56 : Int32) &&& 0x3f).toInt64))])) _
      refine XS.iconst X0.here hx rfl (hb hby d5_13) ?_
      show Steps p.tables e below (s₁.setTop (mkF m 14 #[.val (.ref a0), .val (.int p1)] [(.int (1 : Int32)), (.int p1), (.ref a0), (.long (((b0.toInt64) &&& (255 : Int64)) <<< ((56 : Int32) &&& 0x3f).toInt64))])) _
      refine XS.iadd X0.here hx rfl (hb hby d5_14) rfl ?_
      exact k)
  have pre4 : Go p.tables e below (s₁.setTop (entryFrame m #[(.ref a0), (.int p1)] 2)) s₁ (mkF m 16 #[.val (.ref a0), .val (.int p1)] [(.int b1), (.long (((b0.toInt64) &&& (255 : Int64)) <<< ((56 : Int32) &&& 0x3f).toInt64))]) := fun t k => pre3 t (X0.baloadBytes hx (j := (p1 + (1 : Int32))) (v := (.int b1)) (by rw [e0]; exact Ar.1) (State.isArrayOf_alike hZ.alike Ar.2.1) Ar.2.2 hi1 ha1 (g := (mkF m 15 #[.val (.ref a0), .val (.int p1)] [(.int (p1 + (1 : Int32))), (.ref a0), (.long (((b0.toInt64) &&& (255 : Int64)) <<< ((56 : Int32) &&& 0x3f).toInt64))])) rfl rfl (hb hby d5_15) _ k)
  have pre5 : Go p.tables e below (s₁.setTop (entryFrame m #[(.ref a0), (.int p1)] 2)) s₁ (mkF m 29 #[.val (.ref a0), .val (.int p1)] [(.int (p1 + (2 : Int32))), (.ref a0), (.long ((((b0.toInt64) &&& (255 : Int64)) <<< ((56 : Int32) &&& 0x3f).toInt64) ||| (((b1.toInt64) &&& (255 : Int64)) <<< ((48 : Int32) &&& 0x3f).toInt64)))]) := fun t k => pre4 t (by
      refine XS.i2l X0.here hx rfl (hb hby d5_16) rfl ?_
      show Steps p.tables e below (s₁.setTop (mkF m 17 #[.val (.ref a0), .val (.int p1)] [(.long (b1.toInt64)), (.long (((b0.toInt64) &&& (255 : Int64)) <<< ((56 : Int32) &&& 0x3f).toInt64))])) _
      refine X0.ldc2Long hx hown (mvT hZ (hw _ (List.mem_of_getElem? (i := 25) rfl))) (g := (mkF m 17 #[.val (.ref a0), .val (.int p1)] [(.long (b1.toInt64)), (.long (((b0.toInt64) &&& (255 : Int64)) <<< ((56 : Int32) &&& 0x3f).toInt64))])) rfl (hb hby d5_17) _ ?_
      show Steps p.tables e below (s₁.setTop (mkF m 20 #[.val (.ref a0), .val (.int p1)] [(.long (255 : Int64)), (.long (b1.toInt64)), (.long (((b0.toInt64) &&& (255 : Int64)) <<< ((56 : Int32) &&& 0x3f).toInt64))])) _
      refine XS.land X0.here hx rfl (hb hby d5_20) rfl ?_
      show Steps p.tables e below (s₁.setTop (mkF m 21 #[.val (.ref a0), .val (.int p1)] [(.long ((b1.toInt64) &&& (255 : Int64))), (.long (((b0.toInt64) &&& (255 : Int64)) <<< ((56 : Int32) &&& 0x3f).toInt64))])) _
      refine XS.bipush X0.here hx rfl (hb hby d5_21) ?_
      show Steps p.tables e below (s₁.setTop (mkF m 23 #[.val (.ref a0), .val (.int p1)] [(.int (48 : Int32)), (.long ((b1.toInt64) &&& (255 : Int64))), (.long (((b0.toInt64) &&& (255 : Int64)) <<< ((56 : Int32) &&& 0x3f).toInt64))])) _
      refine XS.lshl X0.here hx rfl (hb hby d5_23) rfl ?_
      show Steps p.tables e below (s₁.setTop (mkF m 24 #[.val (.ref a0), .val (.int p1)] [(.long (((b1.toInt64) &&& (255 : Int64)) <<< ((48 : Int32) &&& 0x3f).toInt64)), (.long (((b0.toInt64) &&& (255 : Int64)) <<< ((56 : Int32) &&& 0x3f).toInt64))])) _
      refine XS.lor X0.here hx rfl (hb hby d5_24) rfl ?_
      show Steps p.tables e below (s₁.setTop (mkF m 25 #[.val (.ref a0), .val (.int p1)] [(.long ((((b0.toInt64) &&& (255 : Int64)) <<< ((56 : Int32) &&& 0x3f).toInt64) ||| (((b1.toInt64) &&& (255 : Int64)) <<< ((48 : Int32) &&& 0x3f).toInt64)))])) _
      refine XS.aloadN X0.here hx rfl (hb hby d5_25) rfl rfl ?_
      show Steps p.tables e below (s₁.setTop (mkF m 26 #[.val (.ref a0), .val (.int p1)] [(.ref a0), (.long ((((b0.toInt64) &&& (255 : Int64)) <<< ((56 : Int32) &&& 0x3f).toInt64) ||| (((b1.toInt64) &&& (255 : Int64)) <<< ((48 : Int32) &&& 0x3f).toInt64)))])) _
      refine XS.iloadN X0.here hx rfl (hb hby d5_26) rfl ?_
      show Steps p.tables e below (s₁.setTop (mkF m 27 #[.val (.ref a0), .val (.int p1)] [(.int p1), (.ref a0), (.long ((((b0.toInt64) &&& (255 : Int64)) <<< ((56 : Int32) &&& 0x3f).toInt64) ||| (((b1.toInt64) &&& (255 : Int64)) <<< ((48 : Int32) &&& 0x3f).toInt64)))])) _
      refine XS.iconst X0.here hx rfl (hb hby d5_27) ?_
      show Steps p.tables e below (s₁.setTop (mkF m 28 #[.val (.ref a0), .val (.int p1)] [(.int (2 : Int32)), (.int p1), (.ref a0), (.long ((((b0.toInt64) &&& (255 : Int64)) <<< ((56 : Int32) &&& 0x3f).toInt64) ||| (((b1.toInt64) &&& (255 : Int64)) <<< ((48 : Int32) &&& 0x3f).toInt64)))])) _
      refine XS.iadd X0.here hx rfl (hb hby d5_28) rfl ?_
      exact k)
  have pre6 : Go p.tables e below (s₁.setTop (entryFrame m #[(.ref a0), (.int p1)] 2)) s₁ (mkF m 30 #[.val (.ref a0), .val (.int p1)] [(.int b2), (.long ((((b0.toInt64) &&& (255 : Int64)) <<< ((56 : Int32) &&& 0x3f).toInt64) ||| (((b1.toInt64) &&& (255 : Int64)) <<< ((48 : Int32) &&& 0x3f).toInt64)))]) := fun t k => pre5 t (X0.baloadBytes hx (j := (p1 + (2 : Int32))) (v := (.int b2)) (by rw [e0]; exact Ar.1) (State.isArrayOf_alike hZ.alike Ar.2.1) Ar.2.2 hi2 ha2 (g := (mkF m 29 #[.val (.ref a0), .val (.int p1)] [(.int (p1 + (2 : Int32))), (.ref a0), (.long ((((b0.toInt64) &&& (255 : Int64)) <<< ((56 : Int32) &&& 0x3f).toInt64) ||| (((b1.toInt64) &&& (255 : Int64)) <<< ((48 : Int32) &&& 0x3f).toInt64)))])) rfl rfl (hb hby d5_29) _ k)
  have pre7 : Go p.tables e below (s₁.setTop (entryFrame m #[(.ref a0), (.int p1)] 2)) s₁ (mkF m 43 #[.val (.ref a0), .val (.int p1)] [(.int (p1 + (3 : Int32))), (.ref a0), (.long (((((b0.toInt64) &&& (255 : Int64)) <<< ((56 : Int32) &&& 0x3f).toInt64) ||| (((b1.toInt64) &&& (255 : Int64)) <<< ((48 : Int32) &&& 0x3f).toInt64)) ||| (((b2.toInt64) &&& (255 : Int64)) <<< ((40 : Int32) &&& 0x3f).toInt64)))]) := fun t k => pre6 t (by
      refine XS.i2l X0.here hx rfl (hb hby d5_30) rfl ?_
      show Steps p.tables e below (s₁.setTop (mkF m 31 #[.val (.ref a0), .val (.int p1)] [(.long (b2.toInt64)), (.long ((((b0.toInt64) &&& (255 : Int64)) <<< ((56 : Int32) &&& 0x3f).toInt64) ||| (((b1.toInt64) &&& (255 : Int64)) <<< ((48 : Int32) &&& 0x3f).toInt64)))])) _
      refine X0.ldc2Long hx hown (mvT hZ (hw _ (List.mem_of_getElem? (i := 25) rfl))) (g := (mkF m 31 #[.val (.ref a0), .val (.int p1)] [(.long (b2.toInt64)), (.long ((((b0.toInt64) &&& (255 : Int64)) <<< ((56 : Int32) &&& 0x3f).toInt64) ||| (((b1.toInt64) &&& (255 : Int64)) <<< ((48 : Int32) &&& 0x3f).toInt64)))])) rfl (hb hby d5_31) _ ?_
      show Steps p.tables e below (s₁.setTop (mkF m 34 #[.val (.ref a0), .val (.int p1)] [(.long (255 : Int64)), (.long (b2.toInt64)), (.long ((((b0.toInt64) &&& (255 : Int64)) <<< ((56 : Int32) &&& 0x3f).toInt64) ||| (((b1.toInt64) &&& (255 : Int64)) <<< ((48 : Int32) &&& 0x3f).toInt64)))])) _
      refine XS.land X0.here hx rfl (hb hby d5_34) rfl ?_
      show Steps p.tables e below (s₁.setTop (mkF m 35 #[.val (.ref a0), .val (.int p1)] [(.long ((b2.toInt64) &&& (255 : Int64))), (.long ((((b0.toInt64) &&& (255 : Int64)) <<< ((56 : Int32) &&& 0x3f).toInt64) ||| (((b1.toInt64) &&& (255 : Int64)) <<< ((48 : Int32) &&& 0x3f).toInt64)))])) _
      refine XS.bipush X0.here hx rfl (hb hby d5_35) ?_
      show Steps p.tables e below (s₁.setTop (mkF m 37 #[.val (.ref a0), .val (.int p1)] [(.int (40 : Int32)), (.long ((b2.toInt64) &&& (255 : Int64))), (.long ((((b0.toInt64) &&& (255 : Int64)) <<< ((56 : Int32) &&& 0x3f).toInt64) ||| (((b1.toInt64) &&& (255 : Int64)) <<< ((48 : Int32) &&& 0x3f).toInt64)))])) _
      refine XS.lshl X0.here hx rfl (hb hby d5_37) rfl ?_
      show Steps p.tables e below (s₁.setTop (mkF m 38 #[.val (.ref a0), .val (.int p1)] [(.long (((b2.toInt64) &&& (255 : Int64)) <<< ((40 : Int32) &&& 0x3f).toInt64)), (.long ((((b0.toInt64) &&& (255 : Int64)) <<< ((56 : Int32) &&& 0x3f).toInt64) ||| (((b1.toInt64) &&& (255 : Int64)) <<< ((48 : Int32) &&& 0x3f).toInt64)))])) _
      refine XS.lor X0.here hx rfl (hb hby d5_38) rfl ?_
      show Steps p.tables e below (s₁.setTop (mkF m 39 #[.val (.ref a0), .val (.int p1)] [(.long (((((b0.toInt64) &&& (255 : Int64)) <<< ((56 : Int32) &&& 0x3f).toInt64) ||| (((b1.toInt64) &&& (255 : Int64)) <<< ((48 : Int32) &&& 0x3f).toInt64)) ||| (((b2.toInt64) &&& (255 : Int64)) <<< ((40 : Int32) &&& 0x3f).toInt64)))])) _
      refine XS.aloadN X0.here hx rfl (hb hby d5_39) rfl rfl ?_
      show Steps p.tables e below (s₁.setTop (mkF m 40 #[.val (.ref a0), .val (.int p1)] [(.ref a0), (.long (((((b0.toInt64) &&& (255 : Int64)) <<< ((56 : Int32) &&& 0x3f).toInt64) ||| (((b1.toInt64) &&& (255 : Int64)) <<< ((48 : Int32) &&& 0x3f).toInt64)) ||| (((b2.toInt64) &&& (255 : Int64)) <<< ((40 : Int32) &&& 0x3f).toInt64)))])) _
      refine XS.iloadN X0.here hx rfl (hb hby d5_40) rfl ?_
      show Steps p.tables e below (s₁.setTop (mkF m 41 #[.val (.ref a0), .val (.int p1)] [(.int p1), (.ref a0), (.long (((((b0.toInt64) &&& (255 : Int64)) <<< ((56 : Int32) &&& 0x3f).toInt64) ||| (((b1.toInt64) &&& (255 : Int64)) <<< ((48 : Int32) &&& 0x3f).toInt64)) ||| (((b2.toInt64) &&& (255 : Int64)) <<< ((40 : Int32) &&& 0x3f).toInt64)))])) _
      refine XS.iconst X0.here hx rfl (hb hby d5_41) ?_
      show Steps p.tables e below (s₁.setTop (mkF m 42 #[.val (.ref a0), .val (.int p1)] [(.int (3 : Int32)), (.int p1), (.ref a0), (.long (((((b0.toInt64) &&& (255 : Int64)) <<< ((56 : Int32) &&& 0x3f).toInt64) ||| (((b1.toInt64) &&& (255 : Int64)) <<< ((48 : Int32) &&& 0x3f).toInt64)) ||| (((b2.toInt64) &&& (255 : Int64)) <<< ((40 : Int32) &&& 0x3f).toInt64)))])) _
      refine XS.iadd X0.here hx rfl (hb hby d5_42) rfl ?_
      exact k)
  have pre8 : Go p.tables e below (s₁.setTop (entryFrame m #[(.ref a0), (.int p1)] 2)) s₁ (mkF m 44 #[.val (.ref a0), .val (.int p1)] [(.int b3), (.long (((((b0.toInt64) &&& (255 : Int64)) <<< ((56 : Int32) &&& 0x3f).toInt64) ||| (((b1.toInt64) &&& (255 : Int64)) <<< ((48 : Int32) &&& 0x3f).toInt64)) ||| (((b2.toInt64) &&& (255 : Int64)) <<< ((40 : Int32) &&& 0x3f).toInt64)))]) := fun t k => pre7 t (X0.baloadBytes hx (j := (p1 + (3 : Int32))) (v := (.int b3)) (by rw [e0]; exact Ar.1) (State.isArrayOf_alike hZ.alike Ar.2.1) Ar.2.2 hi3 ha3 (g := (mkF m 43 #[.val (.ref a0), .val (.int p1)] [(.int (p1 + (3 : Int32))), (.ref a0), (.long (((((b0.toInt64) &&& (255 : Int64)) <<< ((56 : Int32) &&& 0x3f).toInt64) ||| (((b1.toInt64) &&& (255 : Int64)) <<< ((48 : Int32) &&& 0x3f).toInt64)) ||| (((b2.toInt64) &&& (255 : Int64)) <<< ((40 : Int32) &&& 0x3f).toInt64)))])) rfl rfl (hb hby d5_43) _ k)
  have pre9 : Go p.tables e below (s₁.setTop (entryFrame m #[(.ref a0), (.int p1)] 2)) s₁ (mkF m 57 #[.val (.ref a0), .val (.int p1)] [(.int (p1 + (4 : Int32))), (.ref a0), (.long ((((((b0.toInt64) &&& (255 : Int64)) <<< ((56 : Int32) &&& 0x3f).toInt64) ||| (((b1.toInt64) &&& (255 : Int64)) <<< ((48 : Int32) &&& 0x3f).toInt64)) ||| (((b2.toInt64) &&& (255 : Int64)) <<< ((40 : Int32) &&& 0x3f).toInt64)) ||| (((b3.toInt64) &&& (255 : Int64)) <<< ((32 : Int32) &&& 0x3f).toInt64)))]) := fun t k => pre8 t (by
      refine XS.i2l X0.here hx rfl (hb hby d5_44) rfl ?_
      show Steps p.tables e below (s₁.setTop (mkF m 45 #[.val (.ref a0), .val (.int p1)] [(.long (b3.toInt64)), (.long (((((b0.toInt64) &&& (255 : Int64)) <<< ((56 : Int32) &&& 0x3f).toInt64) ||| (((b1.toInt64) &&& (255 : Int64)) <<< ((48 : Int32) &&& 0x3f).toInt64)) ||| (((b2.toInt64) &&& (255 : Int64)) <<< ((40 : Int32) &&& 0x3f).toInt64)))])) _
      refine X0.ldc2Long hx hown (mvT hZ (hw _ (List.mem_of_getElem? (i := 25) rfl))) (g := (mkF m 45 #[.val (.ref a0), .val (.int p1)] [(.long (b3.toInt64)), (.long (((((b0.toInt64) &&& (255 : Int64)) <<< ((56 : Int32) &&& 0x3f).toInt64) ||| (((b1.toInt64) &&& (255 : Int64)) <<< ((48 : Int32) &&& 0x3f).toInt64)) ||| (((b2.toInt64) &&& (255 : Int64)) <<< ((40 : Int32) &&& 0x3f).toInt64)))])) rfl (hb hby d5_45) _ ?_
      show Steps p.tables e below (s₁.setTop (mkF m 48 #[.val (.ref a0), .val (.int p1)] [(.long (255 : Int64)), (.long (b3.toInt64)), (.long (((((b0.toInt64) &&& (255 : Int64)) <<< ((56 : Int32) &&& 0x3f).toInt64) ||| (((b1.toInt64) &&& (255 : Int64)) <<< ((48 : Int32) &&& 0x3f).toInt64)) ||| (((b2.toInt64) &&& (255 : Int64)) <<< ((40 : Int32) &&& 0x3f).toInt64)))])) _
      refine XS.land X0.here hx rfl (hb hby d5_48) rfl ?_
      show Steps p.tables e below (s₁.setTop (mkF m 49 #[.val (.ref a0), .val (.int p1)] [(.long ((b3.toInt64) &&& (255 : Int64))), (.long (((((b0.toInt64) &&& (255 : Int64)) <<< ((56 : Int32) &&& 0x3f).toInt64) ||| (((b1.toInt64) &&& (255 : Int64)) <<< ((48 : Int32) &&& 0x3f).toInt64)) ||| (((b2.toInt64) &&& (255 : Int64)) <<< ((40 : Int32) &&& 0x3f).toInt64)))])) _
      refine XS.bipush X0.here hx rfl (hb hby d5_49) ?_
      show Steps p.tables e below (s₁.setTop (mkF m 51 #[.val (.ref a0), .val (.int p1)] [(.int (32 : Int32)), (.long ((b3.toInt64) &&& (255 : Int64))), (.long (((((b0.toInt64) &&& (255 : Int64)) <<< ((56 : Int32) &&& 0x3f).toInt64) ||| (((b1.toInt64) &&& (255 : Int64)) <<< ((48 : Int32) &&& 0x3f).toInt64)) ||| (((b2.toInt64) &&& (255 : Int64)) <<< ((40 : Int32) &&& 0x3f).toInt64)))])) _
      refine XS.lshl X0.here hx rfl (hb hby d5_51) rfl ?_
      show Steps p.tables e below (s₁.setTop (mkF m 52 #[.val (.ref a0), .val (.int p1)] [(.long (((b3.toInt64) &&& (255 : Int64)) <<< ((32 : Int32) &&& 0x3f).toInt64)), (.long (((((b0.toInt64) &&& (255 : Int64)) <<< ((56 : Int32) &&& 0x3f).toInt64) ||| (((b1.toInt64) &&& (255 : Int64)) <<< ((48 : Int32) &&& 0x3f).toInt64)) ||| (((b2.toInt64) &&& (255 : Int64)) <<< ((40 : Int32) &&& 0x3f).toInt64)))])) _
      refine XS.lor X0.here hx rfl (hb hby d5_52) rfl ?_
      show Steps p.tables e below (s₁.setTop (mkF m 53 #[.val (.ref a0), .val (.int p1)] [(.long ((((((b0.toInt64) &&& (255 : Int64)) <<< ((56 : Int32) &&& 0x3f).toInt64) ||| (((b1.toInt64) &&& (255 : Int64)) <<< ((48 : Int32) &&& 0x3f).toInt64)) ||| (((b2.toInt64) &&& (255 : Int64)) <<< ((40 : Int32) &&& 0x3f).toInt64)) ||| (((b3.toInt64) &&& (255 : Int64)) <<< ((32 : Int32) &&& 0x3f).toInt64)))])) _
      refine XS.aloadN X0.here hx rfl (hb hby d5_53) rfl rfl ?_
      show Steps p.tables e below (s₁.setTop (mkF m 54 #[.val (.ref a0), .val (.int p1)] [(.ref a0), (.long ((((((b0.toInt64) &&& (255 : Int64)) <<< ((56 : Int32) &&& 0x3f).toInt64) ||| (((b1.toInt64) &&& (255 : Int64)) <<< ((48 : Int32) &&& 0x3f).toInt64)) ||| (((b2.toInt64) &&& (255 : Int64)) <<< ((40 : Int32) &&& 0x3f).toInt64)) ||| (((b3.toInt64) &&& (255 : Int64)) <<< ((32 : Int32) &&& 0x3f).toInt64)))])) _
      refine XS.iloadN X0.here hx rfl (hb hby d5_54) rfl ?_
      show Steps p.tables e below (s₁.setTop (mkF m 55 #[.val (.ref a0), .val (.int p1)] [(.int p1), (.ref a0), (.long ((((((b0.toInt64) &&& (255 : Int64)) <<< ((56 : Int32) &&& 0x3f).toInt64) ||| (((b1.toInt64) &&& (255 : Int64)) <<< ((48 : Int32) &&& 0x3f).toInt64)) ||| (((b2.toInt64) &&& (255 : Int64)) <<< ((40 : Int32) &&& 0x3f).toInt64)) ||| (((b3.toInt64) &&& (255 : Int64)) <<< ((32 : Int32) &&& 0x3f).toInt64)))])) _
      refine XS.iconst X0.here hx rfl (hb hby d5_55) ?_
      show Steps p.tables e below (s₁.setTop (mkF m 56 #[.val (.ref a0), .val (.int p1)] [(.int (4 : Int32)), (.int p1), (.ref a0), (.long ((((((b0.toInt64) &&& (255 : Int64)) <<< ((56 : Int32) &&& 0x3f).toInt64) ||| (((b1.toInt64) &&& (255 : Int64)) <<< ((48 : Int32) &&& 0x3f).toInt64)) ||| (((b2.toInt64) &&& (255 : Int64)) <<< ((40 : Int32) &&& 0x3f).toInt64)) ||| (((b3.toInt64) &&& (255 : Int64)) <<< ((32 : Int32) &&& 0x3f).toInt64)))])) _
      refine XS.iadd X0.here hx rfl (hb hby d5_56) rfl ?_
      exact k)
  have pre10 : Go p.tables e below (s₁.setTop (entryFrame m #[(.ref a0), (.int p1)] 2)) s₁ (mkF m 58 #[.val (.ref a0), .val (.int p1)] [(.int b4), (.long ((((((b0.toInt64) &&& (255 : Int64)) <<< ((56 : Int32) &&& 0x3f).toInt64) ||| (((b1.toInt64) &&& (255 : Int64)) <<< ((48 : Int32) &&& 0x3f).toInt64)) ||| (((b2.toInt64) &&& (255 : Int64)) <<< ((40 : Int32) &&& 0x3f).toInt64)) ||| (((b3.toInt64) &&& (255 : Int64)) <<< ((32 : Int32) &&& 0x3f).toInt64)))]) := fun t k => pre9 t (X0.baloadBytes hx (j := (p1 + (4 : Int32))) (v := (.int b4)) (by rw [e0]; exact Ar.1) (State.isArrayOf_alike hZ.alike Ar.2.1) Ar.2.2 hi4 ha4 (g := (mkF m 57 #[.val (.ref a0), .val (.int p1)] [(.int (p1 + (4 : Int32))), (.ref a0), (.long ((((((b0.toInt64) &&& (255 : Int64)) <<< ((56 : Int32) &&& 0x3f).toInt64) ||| (((b1.toInt64) &&& (255 : Int64)) <<< ((48 : Int32) &&& 0x3f).toInt64)) ||| (((b2.toInt64) &&& (255 : Int64)) <<< ((40 : Int32) &&& 0x3f).toInt64)) ||| (((b3.toInt64) &&& (255 : Int64)) <<< ((32 : Int32) &&& 0x3f).toInt64)))])) rfl rfl (hb hby d5_57) _ k)
  have pre11 : Go p.tables e below (s₁.setTop (entryFrame m #[(.ref a0), (.int p1)] 2)) s₁ (mkF m 71 #[.val (.ref a0), .val (.int p1)] [(.int (p1 + (5 : Int32))), (.ref a0), (.long (((((((b0.toInt64) &&& (255 : Int64)) <<< ((56 : Int32) &&& 0x3f).toInt64) ||| (((b1.toInt64) &&& (255 : Int64)) <<< ((48 : Int32) &&& 0x3f).toInt64)) ||| (((b2.toInt64) &&& (255 : Int64)) <<< ((40 : Int32) &&& 0x3f).toInt64)) ||| (((b3.toInt64) &&& (255 : Int64)) <<< ((32 : Int32) &&& 0x3f).toInt64)) ||| (((b4.toInt64) &&& (255 : Int64)) <<< ((24 : Int32) &&& 0x3f).toInt64)))]) := fun t k => pre10 t (by
      refine XS.i2l X0.here hx rfl (hb hby d5_58) rfl ?_
      show Steps p.tables e below (s₁.setTop (mkF m 59 #[.val (.ref a0), .val (.int p1)] [(.long (b4.toInt64)), (.long ((((((b0.toInt64) &&& (255 : Int64)) <<< ((56 : Int32) &&& 0x3f).toInt64) ||| (((b1.toInt64) &&& (255 : Int64)) <<< ((48 : Int32) &&& 0x3f).toInt64)) ||| (((b2.toInt64) &&& (255 : Int64)) <<< ((40 : Int32) &&& 0x3f).toInt64)) ||| (((b3.toInt64) &&& (255 : Int64)) <<< ((32 : Int32) &&& 0x3f).toInt64)))])) _
      refine X0.ldc2Long hx hown (mvT hZ (hw _ (List.mem_of_getElem? (i := 25) rfl))) (g := (mkF m 59 #[.val (.ref a0), .val (.int p1)] [(.long (b4.toInt64)), (.long ((((((b0.toInt64) &&& (255 : Int64)) <<< ((56 : Int32) &&& 0x3f).toInt64) ||| (((b1.toInt64) &&& (255 : Int64)) <<< ((48 : Int32) &&& 0x3f).toInt64)) ||| (((b2.toInt64) &&& (255 : Int64)) <<< ((40 : Int32) &&& 0x3f).toInt64)) ||| (((b3.toInt64) &&& (255 : Int64)) <<< ((32 : Int32) &&& 0x3f).toInt64)))])) rfl (hb hby d5_59) _ ?_
      show Steps p.tables e below (s₁.setTop (mkF m 62 #[.val (.ref a0), .val (.int p1)] [(.long (255 : Int64)), (.long (b4.toInt64)), (.long ((((((b0.toInt64) &&& (255 : Int64)) <<< ((56 : Int32) &&& 0x3f).toInt64) ||| (((b1.toInt64) &&& (255 : Int64)) <<< ((48 : Int32) &&& 0x3f).toInt64)) ||| (((b2.toInt64) &&& (255 : Int64)) <<< ((40 : Int32) &&& 0x3f).toInt64)) ||| (((b3.toInt64) &&& (255 : Int64)) <<< ((32 : Int32) &&& 0x3f).toInt64)))])) _
      refine XS.land X0.here hx rfl (hb hby d5_62) rfl ?_
      show Steps p.tables e below (s₁.setTop (mkF m 63 #[.val (.ref a0), .val (.int p1)] [(.long ((b4.toInt64) &&& (255 : Int64))), (.long ((((((b0.toInt64) &&& (255 : Int64)) <<< ((56 : Int32) &&& 0x3f).toInt64) ||| (((b1.toInt64) &&& (255 : Int64)) <<< ((48 : Int32) &&& 0x3f).toInt64)) ||| (((b2.toInt64) &&& (255 : Int64)) <<< ((40 : Int32) &&& 0x3f).toInt64)) ||| (((b3.toInt64) &&& (255 : Int64)) <<< ((32 : Int32) &&& 0x3f).toInt64)))])) _
      refine XS.bipush X0.here hx rfl (hb hby d5_63) ?_
      show Steps p.tables e below (s₁.setTop (mkF m 65 #[.val (.ref a0), .val (.int p1)] [(.int (24 : Int32)), (.long ((b4.toInt64) &&& (255 : Int64))), (.long ((((((b0.toInt64) &&& (255 : Int64)) <<< ((56 : Int32) &&& 0x3f).toInt64) ||| (((b1.toInt64) &&& (255 : Int64)) <<< ((48 : Int32) &&& 0x3f).toInt64)) ||| (((b2.toInt64) &&& (255 : Int64)) <<< ((40 : Int32) &&& 0x3f).toInt64)) ||| (((b3.toInt64) &&& (255 : Int64)) <<< ((32 : Int32) &&& 0x3f).toInt64)))])) _
      refine XS.lshl X0.here hx rfl (hb hby d5_65) rfl ?_
      show Steps p.tables e below (s₁.setTop (mkF m 66 #[.val (.ref a0), .val (.int p1)] [(.long (((b4.toInt64) &&& (255 : Int64)) <<< ((24 : Int32) &&& 0x3f).toInt64)), (.long ((((((b0.toInt64) &&& (255 : Int64)) <<< ((56 : Int32) &&& 0x3f).toInt64) ||| (((b1.toInt64) &&& (255 : Int64)) <<< ((48 : Int32) &&& 0x3f).toInt64)) ||| (((b2.toInt64) &&& (255 : Int64)) <<< ((40 : Int32) &&& 0x3f).toInt64)) ||| (((b3.toInt64) &&& (255 : Int64)) <<< ((32 : Int32) &&& 0x3f).toInt64)))])) _
      refine XS.lor X0.here hx rfl (hb hby d5_66) rfl ?_
      show Steps p.tables e below (s₁.setTop (mkF m 67 #[.val (.ref a0), .val (.int p1)] [(.long (((((((b0.toInt64) &&& (255 : Int64)) <<< ((56 : Int32) &&& 0x3f).toInt64) ||| (((b1.toInt64) &&& (255 : Int64)) <<< ((48 : Int32) &&& 0x3f).toInt64)) ||| (((b2.toInt64) &&& (255 : Int64)) <<< ((40 : Int32) &&& 0x3f).toInt64)) ||| (((b3.toInt64) &&& (255 : Int64)) <<< ((32 : Int32) &&& 0x3f).toInt64)) ||| (((b4.toInt64) &&& (255 : Int64)) <<< ((24 : Int32) &&& 0x3f).toInt64)))])) _
      refine XS.aloadN X0.here hx rfl (hb hby d5_67) rfl rfl ?_
      show Steps p.tables e below (s₁.setTop (mkF m 68 #[.val (.ref a0), .val (.int p1)] [(.ref a0), (.long (((((((b0.toInt64) &&& (255 : Int64)) <<< ((56 : Int32) &&& 0x3f).toInt64) ||| (((b1.toInt64) &&& (255 : Int64)) <<< ((48 : Int32) &&& 0x3f).toInt64)) ||| (((b2.toInt64) &&& (255 : Int64)) <<< ((40 : Int32) &&& 0x3f).toInt64)) ||| (((b3.toInt64) &&& (255 : Int64)) <<< ((32 : Int32) &&& 0x3f).toInt64)) ||| (((b4.toInt64) &&& (255 : Int64)) <<< ((24 : Int32) &&& 0x3f).toInt64)))])) _
      refine XS.iloadN X0.here hx rfl (hb hby d5_68) rfl ?_
      show Steps p.tables e below (s₁.setTop (mkF m 69 #[.val (.ref a0), .val (.int p1)] [(.int p1), (.ref a0), (.long (((((((b0.toInt64) &&& (255 : Int64)) <<< ((56 : Int32) &&& 0x3f).toInt64) ||| (((b1.toInt64) &&& (255 : Int64)) <<< ((48 : Int32) &&& 0x3f).toInt64)) ||| (((b2.toInt64) &&& (255 : Int64)) <<< ((40 : Int32) &&& 0x3f).toInt64)) ||| (((b3.toInt64) &&& (255 : Int64)) <<< ((32 : Int32) &&& 0x3f).toInt64)) ||| (((b4.toInt64) &&& (255 : Int64)) <<< ((24 : Int32) &&& 0x3f).toInt64)))])) _
      refine XS.iconst X0.here hx rfl (hb hby d5_69) ?_
      show Steps p.tables e below (s₁.setTop (mkF m 70 #[.val (.ref a0), .val (.int p1)] [(.int (5 : Int32)), (.int p1), (.ref a0), (.long (((((((b0.toInt64) &&& (255 : Int64)) <<< ((56 : Int32) &&& 0x3f).toInt64) ||| (((b1.toInt64) &&& (255 : Int64)) <<< ((48 : Int32) &&& 0x3f).toInt64)) ||| (((b2.toInt64) &&& (255 : Int64)) <<< ((40 : Int32) &&& 0x3f).toInt64)) ||| (((b3.toInt64) &&& (255 : Int64)) <<< ((32 : Int32) &&& 0x3f).toInt64)) ||| (((b4.toInt64) &&& (255 : Int64)) <<< ((24 : Int32) &&& 0x3f).toInt64)))])) _
      refine XS.iadd X0.here hx rfl (hb hby d5_70) rfl ?_
      exact k)
  have pre12 : Go p.tables e below (s₁.setTop (entryFrame m #[(.ref a0), (.int p1)] 2)) s₁ (mkF m 72 #[.val (.ref a0), .val (.int p1)] [(.int b5), (.long (((((((b0.toInt64) &&& (255 : Int64)) <<< ((56 : Int32) &&& 0x3f).toInt64) ||| (((b1.toInt64) &&& (255 : Int64)) <<< ((48 : Int32) &&& 0x3f).toInt64)) ||| (((b2.toInt64) &&& (255 : Int64)) <<< ((40 : Int32) &&& 0x3f).toInt64)) ||| (((b3.toInt64) &&& (255 : Int64)) <<< ((32 : Int32) &&& 0x3f).toInt64)) ||| (((b4.toInt64) &&& (255 : Int64)) <<< ((24 : Int32) &&& 0x3f).toInt64)))]) := fun t k => pre11 t (X0.baloadBytes hx (j := (p1 + (5 : Int32))) (v := (.int b5)) (by rw [e0]; exact Ar.1) (State.isArrayOf_alike hZ.alike Ar.2.1) Ar.2.2 hi5 ha5 (g := (mkF m 71 #[.val (.ref a0), .val (.int p1)] [(.int (p1 + (5 : Int32))), (.ref a0), (.long (((((((b0.toInt64) &&& (255 : Int64)) <<< ((56 : Int32) &&& 0x3f).toInt64) ||| (((b1.toInt64) &&& (255 : Int64)) <<< ((48 : Int32) &&& 0x3f).toInt64)) ||| (((b2.toInt64) &&& (255 : Int64)) <<< ((40 : Int32) &&& 0x3f).toInt64)) ||| (((b3.toInt64) &&& (255 : Int64)) <<< ((32 : Int32) &&& 0x3f).toInt64)) ||| (((b4.toInt64) &&& (255 : Int64)) <<< ((24 : Int32) &&& 0x3f).toInt64)))])) rfl rfl (hb hby d5_71) _ k)
  have pre13 : Go p.tables e below (s₁.setTop (entryFrame m #[(.ref a0), (.int p1)] 2)) s₁ (mkF m 86 #[.val (.ref a0), .val (.int p1)] [(.int (p1 + (6 : Int32))), (.ref a0), (.long ((((((((b0.toInt64) &&& (255 : Int64)) <<< ((56 : Int32) &&& 0x3f).toInt64) ||| (((b1.toInt64) &&& (255 : Int64)) <<< ((48 : Int32) &&& 0x3f).toInt64)) ||| (((b2.toInt64) &&& (255 : Int64)) <<< ((40 : Int32) &&& 0x3f).toInt64)) ||| (((b3.toInt64) &&& (255 : Int64)) <<< ((32 : Int32) &&& 0x3f).toInt64)) ||| (((b4.toInt64) &&& (255 : Int64)) <<< ((24 : Int32) &&& 0x3f).toInt64)) ||| (((b5.toInt64) &&& (255 : Int64)) <<< ((16 : Int32) &&& 0x3f).toInt64)))]) := fun t k => pre12 t (by
      refine XS.i2l X0.here hx rfl (hb hby d5_72) rfl ?_
      show Steps p.tables e below (s₁.setTop (mkF m 73 #[.val (.ref a0), .val (.int p1)] [(.long (b5.toInt64)), (.long (((((((b0.toInt64) &&& (255 : Int64)) <<< ((56 : Int32) &&& 0x3f).toInt64) ||| (((b1.toInt64) &&& (255 : Int64)) <<< ((48 : Int32) &&& 0x3f).toInt64)) ||| (((b2.toInt64) &&& (255 : Int64)) <<< ((40 : Int32) &&& 0x3f).toInt64)) ||| (((b3.toInt64) &&& (255 : Int64)) <<< ((32 : Int32) &&& 0x3f).toInt64)) ||| (((b4.toInt64) &&& (255 : Int64)) <<< ((24 : Int32) &&& 0x3f).toInt64)))])) _
      refine X0.ldc2Long hx hown (mvT hZ (hw _ (List.mem_of_getElem? (i := 25) rfl))) (g := (mkF m 73 #[.val (.ref a0), .val (.int p1)] [(.long (b5.toInt64)), (.long (((((((b0.toInt64) &&& (255 : Int64)) <<< ((56 : Int32) &&& 0x3f).toInt64) ||| (((b1.toInt64) &&& (255 : Int64)) <<< ((48 : Int32) &&& 0x3f).toInt64)) ||| (((b2.toInt64) &&& (255 : Int64)) <<< ((40 : Int32) &&& 0x3f).toInt64)) ||| (((b3.toInt64) &&& (255 : Int64)) <<< ((32 : Int32) &&& 0x3f).toInt64)) ||| (((b4.toInt64) &&& (255 : Int64)) <<< ((24 : Int32) &&& 0x3f).toInt64)))])) rfl (hb hby d5_73) _ ?_
      show Steps p.tables e below (s₁.setTop (mkF m 76 #[.val (.ref a0), .val (.int p1)] [(.long (255 : Int64)), (.long (b5.toInt64)), (.long (((((((b0.toInt64) &&& (255 : Int64)) <<< ((56 : Int32) &&& 0x3f).toInt64) ||| (((b1.toInt64) &&& (255 : Int64)) <<< ((48 : Int32) &&& 0x3f).toInt64)) ||| (((b2.toInt64) &&& (255 : Int64)) <<< ((40 : Int32) &&& 0x3f).toInt64)) ||| (((b3.toInt64) &&& (255 : Int64)) <<< ((32 : Int32) &&& 0x3f).toInt64)) ||| (((b4.toInt64) &&& (255 : Int64)) <<< ((24 : Int32) &&& 0x3f).toInt64)))])) _
      refine XS.land X0.here hx rfl (hb hby d5_76) rfl ?_
      show Steps p.tables e below (s₁.setTop (mkF m 77 #[.val (.ref a0), .val (.int p1)] [(.long ((b5.toInt64) &&& (255 : Int64))), (.long (((((((b0.toInt64) &&& (255 : Int64)) <<< ((56 : Int32) &&& 0x3f).toInt64) ||| (((b1.toInt64) &&& (255 : Int64)) <<< ((48 : Int32) &&& 0x3f).toInt64)) ||| (((b2.toInt64) &&& (255 : Int64)) <<< ((40 : Int32) &&& 0x3f).toInt64)) ||| (((b3.toInt64) &&& (255 : Int64)) <<< ((32 : Int32) &&& 0x3f).toInt64)) ||| (((b4.toInt64) &&& (255 : Int64)) <<< ((24 : Int32) &&& 0x3f).toInt64)))])) _
      refine XS.bipush X0.here hx rfl (hb hby d5_77) ?_
      show Steps p.tables e below (s₁.setTop (mkF m 79 #[.val (.ref a0), .val (.int p1)] [(.int (16 : Int32)), (.long ((b5.toInt64) &&& (255 : Int64))), (.long (((((((b0.toInt64) &&& (255 : Int64)) <<< ((56 : Int32) &&& 0x3f).toInt64) ||| (((b1.toInt64) &&& (255 : Int64)) <<< ((48 : Int32) &&& 0x3f).toInt64)) ||| (((b2.toInt64) &&& (255 : Int64)) <<< ((40 : Int32) &&& 0x3f).toInt64)) ||| (((b3.toInt64) &&& (255 : Int64)) <<< ((32 : Int32) &&& 0x3f).toInt64)) ||| (((b4.toInt64) &&& (255 : Int64)) <<< ((24 : Int32) &&& 0x3f).toInt64)))])) _
      refine XS.lshl X0.here hx rfl (hb hby d5_79) rfl ?_
      show Steps p.tables e below (s₁.setTop (mkF m 80 #[.val (.ref a0), .val (.int p1)] [(.long (((b5.toInt64) &&& (255 : Int64)) <<< ((16 : Int32) &&& 0x3f).toInt64)), (.long (((((((b0.toInt64) &&& (255 : Int64)) <<< ((56 : Int32) &&& 0x3f).toInt64) ||| (((b1.toInt64) &&& (255 : Int64)) <<< ((48 : Int32) &&& 0x3f).toInt64)) ||| (((b2.toInt64) &&& (255 : Int64)) <<< ((40 : Int32) &&& 0x3f).toInt64)) ||| (((b3.toInt64) &&& (255 : Int64)) <<< ((32 : Int32) &&& 0x3f).toInt64)) ||| (((b4.toInt64) &&& (255 : Int64)) <<< ((24 : Int32) &&& 0x3f).toInt64)))])) _
      refine XS.lor X0.here hx rfl (hb hby d5_80) rfl ?_
      show Steps p.tables e below (s₁.setTop (mkF m 81 #[.val (.ref a0), .val (.int p1)] [(.long ((((((((b0.toInt64) &&& (255 : Int64)) <<< ((56 : Int32) &&& 0x3f).toInt64) ||| (((b1.toInt64) &&& (255 : Int64)) <<< ((48 : Int32) &&& 0x3f).toInt64)) ||| (((b2.toInt64) &&& (255 : Int64)) <<< ((40 : Int32) &&& 0x3f).toInt64)) ||| (((b3.toInt64) &&& (255 : Int64)) <<< ((32 : Int32) &&& 0x3f).toInt64)) ||| (((b4.toInt64) &&& (255 : Int64)) <<< ((24 : Int32) &&& 0x3f).toInt64)) ||| (((b5.toInt64) &&& (255 : Int64)) <<< ((16 : Int32) &&& 0x3f).toInt64)))])) _
      refine XS.aloadN X0.here hx rfl (hb hby d5_81) rfl rfl ?_
      show Steps p.tables e below (s₁.setTop (mkF m 82 #[.val (.ref a0), .val (.int p1)] [(.ref a0), (.long ((((((((b0.toInt64) &&& (255 : Int64)) <<< ((56 : Int32) &&& 0x3f).toInt64) ||| (((b1.toInt64) &&& (255 : Int64)) <<< ((48 : Int32) &&& 0x3f).toInt64)) ||| (((b2.toInt64) &&& (255 : Int64)) <<< ((40 : Int32) &&& 0x3f).toInt64)) ||| (((b3.toInt64) &&& (255 : Int64)) <<< ((32 : Int32) &&& 0x3f).toInt64)) ||| (((b4.toInt64) &&& (255 : Int64)) <<< ((24 : Int32) &&& 0x3f).toInt64)) ||| (((b5.toInt64) &&& (255 : Int64)) <<< ((16 : Int32) &&& 0x3f).toInt64)))])) _
      refine XS.iloadN X0.here hx rfl (hb hby d5_82) rfl ?_
      show Steps p.tables e below (s₁.setTop (mkF m 83 #[.val (.ref a0), .val (.int p1)] [(.int p1), (.ref a0), (.long ((((((((b0.toInt64) &&& (255 : Int64)) <<< ((56 : Int32) &&& 0x3f).toInt64) ||| (((b1.toInt64) &&& (255 : Int64)) <<< ((48 : Int32) &&& 0x3f).toInt64)) ||| (((b2.toInt64) &&& (255 : Int64)) <<< ((40 : Int32) &&& 0x3f).toInt64)) ||| (((b3.toInt64) &&& (255 : Int64)) <<< ((32 : Int32) &&& 0x3f).toInt64)) ||| (((b4.toInt64) &&& (255 : Int64)) <<< ((24 : Int32) &&& 0x3f).toInt64)) ||| (((b5.toInt64) &&& (255 : Int64)) <<< ((16 : Int32) &&& 0x3f).toInt64)))])) _
      refine XS.bipush X0.here hx rfl (hb hby d5_83) ?_
      show Steps p.tables e below (s₁.setTop (mkF m 85 #[.val (.ref a0), .val (.int p1)] [(.int (6 : Int32)), (.int p1), (.ref a0), (.long ((((((((b0.toInt64) &&& (255 : Int64)) <<< ((56 : Int32) &&& 0x3f).toInt64) ||| (((b1.toInt64) &&& (255 : Int64)) <<< ((48 : Int32) &&& 0x3f).toInt64)) ||| (((b2.toInt64) &&& (255 : Int64)) <<< ((40 : Int32) &&& 0x3f).toInt64)) ||| (((b3.toInt64) &&& (255 : Int64)) <<< ((32 : Int32) &&& 0x3f).toInt64)) ||| (((b4.toInt64) &&& (255 : Int64)) <<< ((24 : Int32) &&& 0x3f).toInt64)) ||| (((b5.toInt64) &&& (255 : Int64)) <<< ((16 : Int32) &&& 0x3f).toInt64)))])) _
      refine XS.iadd X0.here hx rfl (hb hby d5_85) rfl ?_
      exact k)
  have pre14 : Go p.tables e below (s₁.setTop (entryFrame m #[(.ref a0), (.int p1)] 2)) s₁ (mkF m 87 #[.val (.ref a0), .val (.int p1)] [(.int b6), (.long ((((((((b0.toInt64) &&& (255 : Int64)) <<< ((56 : Int32) &&& 0x3f).toInt64) ||| (((b1.toInt64) &&& (255 : Int64)) <<< ((48 : Int32) &&& 0x3f).toInt64)) ||| (((b2.toInt64) &&& (255 : Int64)) <<< ((40 : Int32) &&& 0x3f).toInt64)) ||| (((b3.toInt64) &&& (255 : Int64)) <<< ((32 : Int32) &&& 0x3f).toInt64)) ||| (((b4.toInt64) &&& (255 : Int64)) <<< ((24 : Int32) &&& 0x3f).toInt64)) ||| (((b5.toInt64) &&& (255 : Int64)) <<< ((16 : Int32) &&& 0x3f).toInt64)))]) := fun t k => pre13 t (X0.baloadBytes hx (j := (p1 + (6 : Int32))) (v := (.int b6)) (by rw [e0]; exact Ar.1) (State.isArrayOf_alike hZ.alike Ar.2.1) Ar.2.2 hi6 ha6 (g := (mkF m 86 #[.val (.ref a0), .val (.int p1)] [(.int (p1 + (6 : Int32))), (.ref a0), (.long ((((((((b0.toInt64) &&& (255 : Int64)) <<< ((56 : Int32) &&& 0x3f).toInt64) ||| (((b1.toInt64) &&& (255 : Int64)) <<< ((48 : Int32) &&& 0x3f).toInt64)) ||| (((b2.toInt64) &&& (255 : Int64)) <<< ((40 : Int32) &&& 0x3f).toInt64)) ||| (((b3.toInt64) &&& (255 : Int64)) <<< ((32 : Int32) &&& 0x3f).toInt64)) ||| (((b4.toInt64) &&& (255 : Int64)) <<< ((24 : Int32) &&& 0x3f).toInt64)) ||| (((b5.toInt64) &&& (255 : Int64)) <<< ((16 : Int32) &&& 0x3f).toInt64)))])) rfl rfl (hb hby d5_86) _ k)
  have pre15 : Go p.tables e below (s₁.setTop (entryFrame m #[(.ref a0), (.int p1)] 2)) s₁ (mkF m 101 #[.val (.ref a0), .val (.int p1)] [(.int (p1 + (7 : Int32))), (.ref a0), (.long (((((((((b0.toInt64) &&& (255 : Int64)) <<< ((56 : Int32) &&& 0x3f).toInt64) ||| (((b1.toInt64) &&& (255 : Int64)) <<< ((48 : Int32) &&& 0x3f).toInt64)) ||| (((b2.toInt64) &&& (255 : Int64)) <<< ((40 : Int32) &&& 0x3f).toInt64)) ||| (((b3.toInt64) &&& (255 : Int64)) <<< ((32 : Int32) &&& 0x3f).toInt64)) ||| (((b4.toInt64) &&& (255 : Int64)) <<< ((24 : Int32) &&& 0x3f).toInt64)) ||| (((b5.toInt64) &&& (255 : Int64)) <<< ((16 : Int32) &&& 0x3f).toInt64)) ||| (((b6.toInt64) &&& (255 : Int64)) <<< ((8 : Int32) &&& 0x3f).toInt64)))]) := fun t k => pre14 t (by
      refine XS.i2l X0.here hx rfl (hb hby d5_87) rfl ?_
      show Steps p.tables e below (s₁.setTop (mkF m 88 #[.val (.ref a0), .val (.int p1)] [(.long (b6.toInt64)), (.long ((((((((b0.toInt64) &&& (255 : Int64)) <<< ((56 : Int32) &&& 0x3f).toInt64) ||| (((b1.toInt64) &&& (255 : Int64)) <<< ((48 : Int32) &&& 0x3f).toInt64)) ||| (((b2.toInt64) &&& (255 : Int64)) <<< ((40 : Int32) &&& 0x3f).toInt64)) ||| (((b3.toInt64) &&& (255 : Int64)) <<< ((32 : Int32) &&& 0x3f).toInt64)) ||| (((b4.toInt64) &&& (255 : Int64)) <<< ((24 : Int32) &&& 0x3f).toInt64)) ||| (((b5.toInt64) &&& (255 : Int64)) <<< ((16 : Int32) &&& 0x3f).toInt64)))])) _
      refine X0.ldc2Long hx hown (mvT hZ (hw _ (List.mem_of_getElem? (i := 25) rfl))) (g := (mkF m 88 #[.val (.ref a0), .val (.int p1)] [(.long (b6.toInt64)), (.long ((((((((b0.toInt64) &&& (255 : Int64)) <<< ((56 : Int32) &&& 0x3f).toInt64) ||| (((b1.toInt64) &&& (255 : Int64)) <<< ((48 : Int32) &&& 0x3f).toInt64)) ||| (((b2.toInt64) &&& (255 : Int64)) <<< ((40 : Int32) &&& 0x3f).toInt64)) ||| (((b3.toInt64) &&& (255 : Int64)) <<< ((32 : Int32) &&& 0x3f).toInt64)) ||| (((b4.toInt64) &&& (255 : Int64)) <<< ((24 : Int32) &&& 0x3f).toInt64)) ||| (((b5.toInt64) &&& (255 : Int64)) <<< ((16 : Int32) &&& 0x3f).toInt64)))])) rfl (hb hby d5_88) _ ?_
      show Steps p.tables e below (s₁.setTop (mkF m 91 #[.val (.ref a0), .val (.int p1)] [(.long (255 : Int64)), (.long (b6.toInt64)), (.long ((((((((b0.toInt64) &&& (255 : Int64)) <<< ((56 : Int32) &&& 0x3f).toInt64) ||| (((b1.toInt64) &&& (255 : Int64)) <<< ((48 : Int32) &&& 0x3f).toInt64)) ||| (((b2.toInt64) &&& (255 : Int64)) <<< ((40 : Int32) &&& 0x3f).toInt64)) ||| (((b3.toInt64) &&& (255 : Int64)) <<< ((32 : Int32) &&& 0x3f).toInt64)) ||| (((b4.toInt64) &&& (255 : Int64)) <<< ((24 : Int32) &&& 0x3f).toInt64)) ||| (((b5.toInt64) &&& (255 : Int64)) <<< ((16 : Int32) &&& 0x3f).toInt64)))])) _
      refine XS.land X0.here hx rfl (hb hby d5_91) rfl ?_
      show Steps p.tables e below (s₁.setTop (mkF m 92 #[.val (.ref a0), .val (.int p1)] [(.long ((b6.toInt64) &&& (255 : Int64))), (.long ((((((((b0.toInt64) &&& (255 : Int64)) <<< ((56 : Int32) &&& 0x3f).toInt64) ||| (((b1.toInt64) &&& (255 : Int64)) <<< ((48 : Int32) &&& 0x3f).toInt64)) ||| (((b2.toInt64) &&& (255 : Int64)) <<< ((40 : Int32) &&& 0x3f).toInt64)) ||| (((b3.toInt64) &&& (255 : Int64)) <<< ((32 : Int32) &&& 0x3f).toInt64)) ||| (((b4.toInt64) &&& (255 : Int64)) <<< ((24 : Int32) &&& 0x3f).toInt64)) ||| (((b5.toInt64) &&& (255 : Int64)) <<< ((16 : Int32) &&& 0x3f).toInt64)))])) _
      refine XS.bipush X0.here hx rfl (hb hby d5_92) ?_
      show Steps p.tables e below (s₁.setTop (mkF m 94 #[.val (.ref a0), .val (.int p1)] [(.int (8 : Int32)), (.long ((b6.toInt64) &&& (255 : Int64))), (.long ((((((((b0.toInt64) &&& (255 : Int64)) <<< ((56 : Int32) &&& 0x3f).toInt64) ||| (((b1.toInt64) &&& (255 : Int64)) <<< ((48 : Int32) &&& 0x3f).toInt64)) ||| (((b2.toInt64) &&& (255 : Int64)) <<< ((40 : Int32) &&& 0x3f).toInt64)) ||| (((b3.toInt64) &&& (255 : Int64)) <<< ((32 : Int32) &&& 0x3f).toInt64)) ||| (((b4.toInt64) &&& (255 : Int64)) <<< ((24 : Int32) &&& 0x3f).toInt64)) ||| (((b5.toInt64) &&& (255 : Int64)) <<< ((16 : Int32) &&& 0x3f).toInt64)))])) _
      refine XS.lshl X0.here hx rfl (hb hby d5_94) rfl ?_
      show Steps p.tables e below (s₁.setTop (mkF m 95 #[.val (.ref a0), .val (.int p1)] [(.long (((b6.toInt64) &&& (255 : Int64)) <<< ((8 : Int32) &&& 0x3f).toInt64)), (.long ((((((((b0.toInt64) &&& (255 : Int64)) <<< ((56 : Int32) &&& 0x3f).toInt64) ||| (((b1.toInt64) &&& (255 : Int64)) <<< ((48 : Int32) &&& 0x3f).toInt64)) ||| (((b2.toInt64) &&& (255 : Int64)) <<< ((40 : Int32) &&& 0x3f).toInt64)) ||| (((b3.toInt64) &&& (255 : Int64)) <<< ((32 : Int32) &&& 0x3f).toInt64)) ||| (((b4.toInt64) &&& (255 : Int64)) <<< ((24 : Int32) &&& 0x3f).toInt64)) ||| (((b5.toInt64) &&& (255 : Int64)) <<< ((16 : Int32) &&& 0x3f).toInt64)))])) _
      refine XS.lor X0.here hx rfl (hb hby d5_95) rfl ?_
      show Steps p.tables e below (s₁.setTop (mkF m 96 #[.val (.ref a0), .val (.int p1)] [(.long (((((((((b0.toInt64) &&& (255 : Int64)) <<< ((56 : Int32) &&& 0x3f).toInt64) ||| (((b1.toInt64) &&& (255 : Int64)) <<< ((48 : Int32) &&& 0x3f).toInt64)) ||| (((b2.toInt64) &&& (255 : Int64)) <<< ((40 : Int32) &&& 0x3f).toInt64)) ||| (((b3.toInt64) &&& (255 : Int64)) <<< ((32 : Int32) &&& 0x3f).toInt64)) ||| (((b4.toInt64) &&& (255 : Int64)) <<< ((24 : Int32) &&& 0x3f).toInt64)) ||| (((b5.toInt64) &&& (255 : Int64)) <<< ((16 : Int32) &&& 0x3f).toInt64)) ||| (((b6.toInt64) &&& (255 : Int64)) <<< ((8 : Int32) &&& 0x3f).toInt64)))])) _
      refine XS.aloadN X0.here hx rfl (hb hby d5_96) rfl rfl ?_
      show Steps p.tables e below (s₁.setTop (mkF m 97 #[.val (.ref a0), .val (.int p1)] [(.ref a0), (.long (((((((((b0.toInt64) &&& (255 : Int64)) <<< ((56 : Int32) &&& 0x3f).toInt64) ||| (((b1.toInt64) &&& (255 : Int64)) <<< ((48 : Int32) &&& 0x3f).toInt64)) ||| (((b2.toInt64) &&& (255 : Int64)) <<< ((40 : Int32) &&& 0x3f).toInt64)) ||| (((b3.toInt64) &&& (255 : Int64)) <<< ((32 : Int32) &&& 0x3f).toInt64)) ||| (((b4.toInt64) &&& (255 : Int64)) <<< ((24 : Int32) &&& 0x3f).toInt64)) ||| (((b5.toInt64) &&& (255 : Int64)) <<< ((16 : Int32) &&& 0x3f).toInt64)) ||| (((b6.toInt64) &&& (255 : Int64)) <<< ((8 : Int32) &&& 0x3f).toInt64)))])) _
      refine XS.iloadN X0.here hx rfl (hb hby d5_97) rfl ?_
      show Steps p.tables e below (s₁.setTop (mkF m 98 #[.val (.ref a0), .val (.int p1)] [(.int p1), (.ref a0), (.long (((((((((b0.toInt64) &&& (255 : Int64)) <<< ((56 : Int32) &&& 0x3f).toInt64) ||| (((b1.toInt64) &&& (255 : Int64)) <<< ((48 : Int32) &&& 0x3f).toInt64)) ||| (((b2.toInt64) &&& (255 : Int64)) <<< ((40 : Int32) &&& 0x3f).toInt64)) ||| (((b3.toInt64) &&& (255 : Int64)) <<< ((32 : Int32) &&& 0x3f).toInt64)) ||| (((b4.toInt64) &&& (255 : Int64)) <<< ((24 : Int32) &&& 0x3f).toInt64)) ||| (((b5.toInt64) &&& (255 : Int64)) <<< ((16 : Int32) &&& 0x3f).toInt64)) ||| (((b6.toInt64) &&& (255 : Int64)) <<< ((8 : Int32) &&& 0x3f).toInt64)))])) _
      refine XS.bipush X0.here hx rfl (hb hby d5_98) ?_
      show Steps p.tables e below (s₁.setTop (mkF m 100 #[.val (.ref a0), .val (.int p1)] [(.int (7 : Int32)), (.int p1), (.ref a0), (.long (((((((((b0.toInt64) &&& (255 : Int64)) <<< ((56 : Int32) &&& 0x3f).toInt64) ||| (((b1.toInt64) &&& (255 : Int64)) <<< ((48 : Int32) &&& 0x3f).toInt64)) ||| (((b2.toInt64) &&& (255 : Int64)) <<< ((40 : Int32) &&& 0x3f).toInt64)) ||| (((b3.toInt64) &&& (255 : Int64)) <<< ((32 : Int32) &&& 0x3f).toInt64)) ||| (((b4.toInt64) &&& (255 : Int64)) <<< ((24 : Int32) &&& 0x3f).toInt64)) ||| (((b5.toInt64) &&& (255 : Int64)) <<< ((16 : Int32) &&& 0x3f).toInt64)) ||| (((b6.toInt64) &&& (255 : Int64)) <<< ((8 : Int32) &&& 0x3f).toInt64)))])) _
      refine XS.iadd X0.here hx rfl (hb hby d5_100) rfl ?_
      exact k)
  have pre16 : Go p.tables e below (s₁.setTop (entryFrame m #[(.ref a0), (.int p1)] 2)) s₁ (mkF m 102 #[.val (.ref a0), .val (.int p1)] [(.int b7), (.long (((((((((b0.toInt64) &&& (255 : Int64)) <<< ((56 : Int32) &&& 0x3f).toInt64) ||| (((b1.toInt64) &&& (255 : Int64)) <<< ((48 : Int32) &&& 0x3f).toInt64)) ||| (((b2.toInt64) &&& (255 : Int64)) <<< ((40 : Int32) &&& 0x3f).toInt64)) ||| (((b3.toInt64) &&& (255 : Int64)) <<< ((32 : Int32) &&& 0x3f).toInt64)) ||| (((b4.toInt64) &&& (255 : Int64)) <<< ((24 : Int32) &&& 0x3f).toInt64)) ||| (((b5.toInt64) &&& (255 : Int64)) <<< ((16 : Int32) &&& 0x3f).toInt64)) ||| (((b6.toInt64) &&& (255 : Int64)) <<< ((8 : Int32) &&& 0x3f).toInt64)))]) := fun t k => pre15 t (X0.baloadBytes hx (j := (p1 + (7 : Int32))) (v := (.int b7)) (by rw [e0]; exact Ar.1) (State.isArrayOf_alike hZ.alike Ar.2.1) Ar.2.2 hi7 ha7 (g := (mkF m 101 #[.val (.ref a0), .val (.int p1)] [(.int (p1 + (7 : Int32))), (.ref a0), (.long (((((((((b0.toInt64) &&& (255 : Int64)) <<< ((56 : Int32) &&& 0x3f).toInt64) ||| (((b1.toInt64) &&& (255 : Int64)) <<< ((48 : Int32) &&& 0x3f).toInt64)) ||| (((b2.toInt64) &&& (255 : Int64)) <<< ((40 : Int32) &&& 0x3f).toInt64)) ||| (((b3.toInt64) &&& (255 : Int64)) <<< ((32 : Int32) &&& 0x3f).toInt64)) ||| (((b4.toInt64) &&& (255 : Int64)) <<< ((24 : Int32) &&& 0x3f).toInt64)) ||| (((b5.toInt64) &&& (255 : Int64)) <<< ((16 : Int32) &&& 0x3f).toInt64)) ||| (((b6.toInt64) &&& (255 : Int64)) <<< ((8 : Int32) &&& 0x3f).toInt64)))])) rfl rfl (hb hby d5_101) _ k)
  have pre17 : Go p.tables e below (s₁.setTop (entryFrame m #[(.ref a0), (.int p1)] 2)) s₁ (mkF m 108 #[.val (.ref a0), .val (.int p1)] [(.long ((((((((((b0.toInt64) &&& (255 : Int64)) <<< ((56 : Int32) &&& 0x3f).toInt64) ||| (((b1.toInt64) &&& (255 : Int64)) <<< ((48 : Int32) &&& 0x3f).toInt64)) ||| (((b2.toInt64) &&& (255 : Int64)) <<< ((40 : Int32) &&& 0x3f).toInt64)) ||| (((b3.toInt64) &&& (255 : Int64)) <<< ((32 : Int32) &&& 0x3f).toInt64)) ||| (((b4.toInt64) &&& (255 : Int64)) <<< ((24 : Int32) &&& 0x3f).toInt64)) ||| (((b5.toInt64) &&& (255 : Int64)) <<< ((16 : Int32) &&& 0x3f).toInt64)) ||| (((b6.toInt64) &&& (255 : Int64)) <<< ((8 : Int32) &&& 0x3f).toInt64)) ||| ((b7.toInt64) &&& (255 : Int64))))]) := fun t k => pre16 t (by
      refine XS.i2l X0.here hx rfl (hb hby d5_102) rfl ?_
      show Steps p.tables e below (s₁.setTop (mkF m 103 #[.val (.ref a0), .val (.int p1)] [(.long (b7.toInt64)), (.long (((((((((b0.toInt64) &&& (255 : Int64)) <<< ((56 : Int32) &&& 0x3f).toInt64) ||| (((b1.toInt64) &&& (255 : Int64)) <<< ((48 : Int32) &&& 0x3f).toInt64)) ||| (((b2.toInt64) &&& (255 : Int64)) <<< ((40 : Int32) &&& 0x3f).toInt64)) ||| (((b3.toInt64) &&& (255 : Int64)) <<< ((32 : Int32) &&& 0x3f).toInt64)) ||| (((b4.toInt64) &&& (255 : Int64)) <<< ((24 : Int32) &&& 0x3f).toInt64)) ||| (((b5.toInt64) &&& (255 : Int64)) <<< ((16 : Int32) &&& 0x3f).toInt64)) ||| (((b6.toInt64) &&& (255 : Int64)) <<< ((8 : Int32) &&& 0x3f).toInt64)))])) _
      refine X0.ldc2Long hx hown (mvT hZ (hw _ (List.mem_of_getElem? (i := 25) rfl))) (g := (mkF m 103 #[.val (.ref a0), .val (.int p1)] [(.long (b7.toInt64)), (.long (((((((((b0.toInt64) &&& (255 : Int64)) <<< ((56 : Int32) &&& 0x3f).toInt64) ||| (((b1.toInt64) &&& (255 : Int64)) <<< ((48 : Int32) &&& 0x3f).toInt64)) ||| (((b2.toInt64) &&& (255 : Int64)) <<< ((40 : Int32) &&& 0x3f).toInt64)) ||| (((b3.toInt64) &&& (255 : Int64)) <<< ((32 : Int32) &&& 0x3f).toInt64)) ||| (((b4.toInt64) &&& (255 : Int64)) <<< ((24 : Int32) &&& 0x3f).toInt64)) ||| (((b5.toInt64) &&& (255 : Int64)) <<< ((16 : Int32) &&& 0x3f).toInt64)) ||| (((b6.toInt64) &&& (255 : Int64)) <<< ((8 : Int32) &&& 0x3f).toInt64)))])) rfl (hb hby d5_103) _ ?_
      show Steps p.tables e below (s₁.setTop (mkF m 106 #[.val (.ref a0), .val (.int p1)] [(.long (255 : Int64)), (.long (b7.toInt64)), (.long (((((((((b0.toInt64) &&& (255 : Int64)) <<< ((56 : Int32) &&& 0x3f).toInt64) ||| (((b1.toInt64) &&& (255 : Int64)) <<< ((48 : Int32) &&& 0x3f).toInt64)) ||| (((b2.toInt64) &&& (255 : Int64)) <<< ((40 : Int32) &&& 0x3f).toInt64)) ||| (((b3.toInt64) &&& (255 : Int64)) <<< ((32 : Int32) &&& 0x3f).toInt64)) ||| (((b4.toInt64) &&& (255 : Int64)) <<< ((24 : Int32) &&& 0x3f).toInt64)) ||| (((b5.toInt64) &&& (255 : Int64)) <<< ((16 : Int32) &&& 0x3f).toInt64)) ||| (((b6.toInt64) &&& (255 : Int64)) <<< ((8 : Int32) &&& 0x3f).toInt64)))])) _
      refine XS.land X0.here hx rfl (hb hby d5_106) rfl ?_
      show Steps p.tables e below (s₁.setTop (mkF m 107 #[.val (.ref a0), .val (.int p1)] [(.long ((b7.toInt64) &&& (255 : Int64))), (.long (((((((((b0.toInt64) &&& (255 : Int64)) <<< ((56 : Int32) &&& 0x3f).toInt64) ||| (((b1.toInt64) &&& (255 : Int64)) <<< ((48 : Int32) &&& 0x3f).toInt64)) ||| (((b2.toInt64) &&& (255 : Int64)) <<< ((40 : Int32) &&& 0x3f).toInt64)) ||| (((b3.toInt64) &&& (255 : Int64)) <<< ((32 : Int32) &&& 0x3f).toInt64)) ||| (((b4.toInt64) &&& (255 : Int64)) <<< ((24 : Int32) &&& 0x3f).toInt64)) ||| (((b5.toInt64) &&& (255 : Int64)) <<< ((16 : Int32) &&& 0x3f).toInt64)) ||| (((b6.toInt64) &&& (255 : Int64)) <<< ((8 : Int32) &&& 0x3f).toInt64)))])) _
      refine XS.lor X0.here hx rfl (hb hby d5_107) rfl ?_
      exact k)
  obtain ⟨fs, hr, hrun, hended, hW, hsame⟩ := X0.leave (v := some (.long ((((((((((b0.toInt64) &&& (255 : Int64)) <<< ((56 : Int32) &&& 0x3f).toInt64) ||| (((b1.toInt64) &&& (255 : Int64)) <<< ((48 : Int32) &&& 0x3f).toInt64)) ||| (((b2.toInt64) &&& (255 : Int64)) <<< ((40 : Int32) &&& 0x3f).toInt64)) ||| (((b3.toInt64) &&& (255 : Int64)) <<< ((32 : Int32) &&& 0x3f).toInt64)) ||| (((b4.toInt64) &&& (255 : Int64)) <<< ((24 : Int32) &&& 0x3f).toInt64)) ||| (((b5.toInt64) &&& (255 : Int64)) <<< ((16 : Int32) &&& 0x3f).toInt64)) ||| (((b6.toInt64) &&& (255 : Int64)) <<< ((8 : Int32) &&& 0x3f).toInt64)) ||| ((b7.toInt64) &&& (255 : Int64))))) (fun h => by rw [Bd.returns] at h; cases h) (BodyLoose.notSynchronized Bd)
  refine ⟨_, _, pre17 _ ?_, hrun, hended, _, _, rfl, ?_, ⟨_, rfl⟩, hW, hsame.mono (Nat.le_of_ble_eq_true rfl) (Nat.le_of_ble_eq_true rfl)⟩
  · exact retOut X0 hx Bd.returns rfl (Or.inr (Or.inl ⟨rfl, rfl, _, rfl⟩)) (hb hby d5_108) hr
  · show Q_la Z a0 p1 cl b0 b1 b2 b3 b4 b5 b6 b7 h0 n0 _ s₁.heap _
    rw [e0]
    exact ⟨rfl, N0, rfl⟩
theorem d4_0 : decode prog_19_method_22_code 0 = .ok (.aload_n 0, 1) := by decide +kernel
theorem d4_1 : decode prog_19_method_22_code 1 = .ok (.iconst 0, 1) := by decide +kernel
theorem d4_2 : decode prog_19_method_22_code 2 = .ok (.invokestatic 64, 3) := by decide +kernel
theorem d4_5 : decode prog_19_method_22_code 5 = .ok (.lreturn, 1) := by decide +kernel
theorem pn_tok : plainName "com/example/fence/fence/service/ClaimFormat" = true := by first | (simp [plainName, overriddenIn]; done) | decide +kernel
theorem ef_tok (m : MethodId) (a0 : Addr) : entryFrame m #[(.ref a0)] 1 = mkF m 0 #[.val (.ref a0)] [] := by first | (simp [entryFrame, mkF, argsToLocals, Value.category]; done) | rfl
def Q_tok (Z : State) (a0 : Addr) (cl : Cell) (b0 : Int32) (b1 : Int32) (b2 : Int32) (b3 : Int32) (b4 : Int32) (b5 : Int32) (b6 : Int32) (b7 : Int32) (v0 : Int64) (h0 : Heap) (n0 : Nat) (v : Option Value) (h : Heap) (L : List Loc) : Prop := v = some (.long v0) ∧ Fr n0 L ∧ h = h0
set_option maxRecDepth 65536 in
set_option maxHeartbeats 40000000 in
theorem rm_tok (l : Launch) (Z : State) (av0 : Array Value) (hw : ∀ d ∈ tables_1, d.before av0 Z = true) (ws : List Jvm.Cond) (a0 : Addr) (cl : Cell) (b0 : Int32) (b1 : Int32) (b2 : Int32) (b3 : Int32) (b4 : Int32) (b5 : Int32) (b6 : Int32) (b7 : Int32) (v0 : Int64) (h0 : Heap) (n0 : Nat) (Ar : Arr Z h0 a0 cl .byte) (hi0 : ¬ ((0 : Int32) < 0 ∨ cl.slots.size ≤ ((0 : Int32)).toNatClampNeg)) (hi1 : ¬ (((0 : Int32) + (1 : Int32)) < 0 ∨ cl.slots.size ≤ (((0 : Int32) + (1 : Int32))).toNatClampNeg)) (hi2 : ¬ (((0 : Int32) + (2 : Int32)) < 0 ∨ cl.slots.size ≤ (((0 : Int32) + (2 : Int32))).toNatClampNeg)) (hi3 : ¬ (((0 : Int32) + (3 : Int32)) < 0 ∨ cl.slots.size ≤ (((0 : Int32) + (3 : Int32))).toNatClampNeg)) (hi4 : ¬ (((0 : Int32) + (4 : Int32)) < 0 ∨ cl.slots.size ≤ (((0 : Int32) + (4 : Int32))).toNatClampNeg)) (hi5 : ¬ (((0 : Int32) + (5 : Int32)) < 0 ∨ cl.slots.size ≤ (((0 : Int32) + (5 : Int32))).toNatClampNeg)) (hi6 : ¬ (((0 : Int32) + (6 : Int32)) < 0 ∨ cl.slots.size ≤ (((0 : Int32) + (6 : Int32))).toNatClampNeg)) (hi7 : ¬ (((0 : Int32) + (7 : Int32)) < 0 ∨ cl.slots.size ≤ (((0 : Int32) + (7 : Int32))).toNatClampNeg)) (ha0 : cl.slots[((0 : Int32)).toNatClampNeg]? = some (.int b0)) (ha1 : cl.slots[(((0 : Int32) + (1 : Int32))).toNatClampNeg]? = some (.int b1)) (ha2 : cl.slots[(((0 : Int32) + (2 : Int32))).toNatClampNeg]? = some (.int b2)) (ha3 : cl.slots[(((0 : Int32) + (3 : Int32))).toNatClampNeg]? = some (.int b3)) (ha4 : cl.slots[(((0 : Int32) + (4 : Int32))).toNatClampNeg]? = some (.int b4)) (ha5 : cl.slots[(((0 : Int32) + (5 : Int32))).toNatClampNeg]? = some (.int b5)) (ha6 : cl.slots[(((0 : Int32) + (6 : Int32))).toNatClampNeg]? = some (.int b6)) (ha7 : cl.slots[(((0 : Int32) + (7 : Int32))).toNatClampNeg]? = some (.int b7)) (hl : own_long b0 b1 b2 b3 b4 b5 b6 b7 = v0) :
    MetFree l (⟨"com/example/fence/fence/service/ClaimFormat", "token", "([B)J"⟩ : MethodName) (head1 (Jvm.Cond.code (⟨"com/example/fence/fence/service/ClaimFormat", "token", "([B)J"⟩ : MethodName) prog_19_method_22_code 1 (some .long) :: ws) ({ frames := 1, cells := 0, slots := 0, locals := 13 } : Room)) (fun a U => a = #[(.ref a0)] ∧ Z.Warmed39 U.vm ∧ U.heap = h0) (fun _ _ _ _ _ => True) (fun _ U o U' => ∃ v L, o = .returned v ∧ Q_tok Z a0 cl b0 b1 b2 b3 b4 b5 b6 b7 v0 h0 n0 v U'.heap L ∧ FrameEnd U o U' L ({ frames := 1, cells := 0, slots := 0, locals := 13 } : Room).cells ({ frames := 1, cells := 0, slots := 0, locals := 13 } : Room).slots) := by
  refine MetFree.of_bodySF (plainFor_of_name pn_tok) hisR ?_
  intro p e s m args below meth c s₁ Bd hml0 hP hK
  obtain ⟨rfl, hZ, hh⟩ := hP
  have hx := Bd.exec
  have hby := Bd.bytes
  have hml : c.maxLocals = 1 := hml0
  have hown : s.vm.findClass "com/example/fence/fence/service/ClaimFormat" = some m.cls := findClass_of_methodNamed Bd.named
  have hnm := (name_of_methodNamed Bd.named Bd.method).1
  have X0 : Stand p l e ({ frames := 1, cells := 0, slots := 0, locals := 13 } : Room) s m #[(.ref a0)] below meth c s₁ [] 0 0 := Stand.of_body Bd
  have e0 : s₁.heap = h0 := by rw [← hh, Bd.state]; rfl
  have N0 := Fr.nil n0
  have pre0 : Go p.tables e below (s₁.setTop (entryFrame m #[(.ref a0)] 1)) s₁ (mkF m 0 #[.val (.ref a0)] []) := fun t k => castTop (ef_tok m a0) k
  have pre1 : Go p.tables e below (s₁.setTop (entryFrame m #[(.ref a0)] 1)) s₁ (mkF m 2 #[.val (.ref a0)] [(.int (0 : Int32)), (.ref a0)]) := fun t k => pre0 t (by
      refine XS.aloadN X0.here hx rfl (hb hby d4_0) rfl rfl ?_
      show Steps p.tables e below (s₁.setTop (mkF m 1 #[.val (.ref a0)] [(.ref a0)])) _
      refine XS.iconst X0.here hx rfl (hb hby d4_1) ?_
      exact k)
  obtain ⟨_, _, ⟨T2, L2, k2, n2⟩, -, X2, ⟨Lc2, hQ2, l2, y2, z2⟩, st2⟩ := Jvm.LawKit.callS X0 hx (y := (⟨"com/example/fence/fence/util/BigEndian", "longAt", "([BI)J"⟩ : MethodName)) hown (mvT hZ (hw _ (List.mem_of_getElem? (i := 22) rfl))) (mvT hZ (hw _ (List.mem_of_getElem? (i := 23) rfl))) (mvT hZ (hw _ (List.mem_of_getElem? (i := 9) rfl))) (mvT hZ (hw _ (List.mem_of_getElem? (i := 24) rfl))) (by decide) (backOf (W := 0) (rm_la l Z av0 hw [] a0 (0 : Int32) cl b0 b1 b2 b3 b4 b5 b6 b7 h0 n0 Ar hi0 hi1 hi2 hi3 hi4 hi5 hi6 hi7 ha0 ha1 ha2 ha3 ha4 ha5 ha6 ha7) hZ (hw _ (List.mem_of_getElem? (i := 24) rfl)) (hw _ (List.mem_of_getElem? (i := 9) rfl)) (by decide) (by decide)) (g := (mkF m 2 #[.val (.ref a0)] [(.int (0 : Int32)), (.ref a0)])) rfl (by rw [hml]; rfl) (argsL := [(.ref a0), (.int (0 : Int32))]) (rest := []) (lenOf pd_0 rfl) rfl (by show 2 * 0 + _ ≤ _; exact Nat.le_of_eq rfl) (hb hby d4_2) (fun _ _ => ⟨rfl, e0, (by decide : 0 + 0 ≤ _), (by decide : 0 + 0 ≤ _)⟩)
  dsimp only [Pt.U, Pt.locs, Pt.cells, Pt.slots] at X2 l2 y2 z2 st2 hQ2
  subst l2 y2 z2
  obtain ⟨hv2, N2q, e2⟩ := hQ2
  rw [hl] at hv2
  subst hv2
  have N2 := Fr.app N0 N2q
  have pre2 : Go p.tables e below (s₁.setTop (entryFrame m #[(.ref a0)] 1)) T2 (mkF m 5 #[.val (.ref a0)] [(.long v0)]) := fun t k => pre1 t (st2 _ k)
  obtain ⟨fs, hr, hrun, hended, hW, hsame⟩ := X2.leave (v := some (.long v0)) (fun h => by rw [Bd.returns] at h; cases h) (BodyLoose.notSynchronized Bd)
  refine ⟨_, _, pre2 _ ?_, hrun, hended, _, _, rfl, ?_, ⟨_, rfl⟩, hW, hsame.mono (Nat.le_of_ble_eq_true rfl) (Nat.le_of_ble_eq_true rfl)⟩
  · exact retOut X2 hx Bd.returns rfl (Or.inr (Or.inl ⟨rfl, rfl, _, rfl⟩)) (hb hby d4_5) hr
  · show Q_tok Z a0 cl b0 b1 b2 b3 b4 b5 b6 b7 v0 h0 n0 _ T2.heap _
    rw [e2]
    exact ⟨rfl, N2, rfl⟩
theorem d6_0 : decode prog_19_method_15_code 0 = .ok (.aload_n 1, 1) := by decide +kernel
theorem d6_1 : decode prog_19_method_15_code 1 = .ok (.arraylength, 1) := by decide +kernel
theorem d6_2 : decode prog_19_method_15_code 2 = .ok (.aload_n 0, 1) := by decide +kernel
theorem d6_3 : decode prog_19_method_15_code 3 = .ok (.getfield 35, 3) := by decide +kernel
theorem d6_6 : decode prog_19_method_15_code 6 = .ok (.bipush 8, 2) := by decide +kernel
theorem d6_8 : decode prog_19_method_15_code 8 = .ok (.iadd, 1) := by decide +kernel
theorem d6_9 : decode prog_19_method_15_code 9 = .ok (.if_icmp .lt 7, 3) := by decide +kernel
theorem d6_12 : decode prog_19_method_15_code 12 = .ok (.iconst 1, 1) := by decide +kernel
theorem d6_13 : decode prog_19_method_15_code 13 = .ok (.goto 4, 3) := by decide +kernel
theorem d6_16 : decode prog_19_method_15_code 16 = .ok (.iconst 0, 1) := by decide +kernel
theorem d6_17 : decode prog_19_method_15_code 17 = .ok (.ireturn, 1) := by decide +kernel
theorem pn_isc : plainName "com/example/fence/fence/service/ClaimFormat" = true := by first | (simp [plainName, overriddenIn]; done) | decide +kernel
theorem ef_isc (m : MethodId) (a0 : Addr) (a1 : Addr) : entryFrame m #[(.ref a0), (.ref a1)] 2 = mkF m 0 #[.val (.ref a0), .val (.ref a1)] [] := by first | (simp [entryFrame, mkF, argsToLocals, Value.category]; done) | rfl
def Q_isc (Z : State) (a0 : Addr) (a1 : Addr) (st0 : Int32) (kk : ClassId) (z0 : Int32) (vs : List Value) (dv : Value) (h0 : Heap) (n0 : Nat) (v : Option Value) (h : Heap) (L : List Loc) : Prop := v = some (.int (own_isC z0 st0)) ∧ Fr n0 L ∧ h = h0
set_option maxRecDepth 65536 in
set_option maxHeartbeats 40000000 in
theorem rm_isc (l : Launch) (Z : State) (av0 : Array Value) (hw : ∀ d ∈ tables_1, d.before av0 Z = true) (ws : List Jvm.Cond) (a0 : Addr) (a1 : Addr) (st0 : Int32) (kk : ClassId) (z0 : Int32) (vs : List Value) (dv : Value) (h0 : Heap) (n0 : Nat) (F0 : Fld Z h0 a0 "com/example/fence/fence/service/ClaimFormat" "stampAt" "I" (.int st0)) (V0 : Arv Z h0 a1 kk .byte z0 vs dv) :
    MetFree l (⟨"com/example/fence/fence/service/ClaimFormat", "isClaim", "([B)Z"⟩ : MethodName) (head1 (Jvm.Cond.code (⟨"com/example/fence/fence/service/ClaimFormat", "isClaim", "([B)Z"⟩ : MethodName) prog_19_method_15_code 2 (some .boolean) :: ws) ({ frames := 0, cells := 0, slots := 0, locals := 0 } : Room)) (fun a U => a = #[(.ref a0), (.ref a1)] ∧ Z.Warmed39 U.vm ∧ U.heap = h0) (fun _ _ _ _ _ => True) (fun _ U o U' => ∃ v L, o = .returned v ∧ Q_isc Z a0 a1 st0 kk z0 vs dv h0 n0 v U'.heap L ∧ FrameEnd U o U' L ({ frames := 0, cells := 0, slots := 0, locals := 0 } : Room).cells ({ frames := 0, cells := 0, slots := 0, locals := 0 } : Room).slots) := by
  refine MetFree.of_bodySF (plainFor_of_name pn_isc) hisR ?_
  intro p e s m args below meth c s₁ Bd hml0 hP hK
  obtain ⟨rfl, hZ, hh⟩ := hP
  have hx := Bd.exec
  have hby := Bd.bytes
  have hml : c.maxLocals = 2 := hml0
  have hown : s.vm.findClass "com/example/fence/fence/service/ClaimFormat" = some m.cls := findClass_of_methodNamed Bd.named
  have hnm := (name_of_methodNamed Bd.named Bd.method).1
  have X0 : Stand p l e ({ frames := 0, cells := 0, slots := 0, locals := 0 } : Room) s m #[(.ref a0), (.ref a1)] below meth c s₁ [] 0 0 := Stand.of_body Bd
  have e0 : s₁.heap = h0 := by rw [← hh, Bd.state]; rfl
  have N0 := Fr.nil n0
  have pre0 : Go p.tables e below (s₁.setTop (entryFrame m #[(.ref a0), (.ref a1)] 2)) s₁ (mkF m 0 #[.val (.ref a0), .val (.ref a1)] []) := fun t k => castTop (ef_isc m a0 a1) k
  have pre1 : Go p.tables e below (s₁.setTop (entryFrame m #[(.ref a0), (.ref a1)] 2)) s₁ (mkF m 1 #[.val (.ref a0), .val (.ref a1)] [(.ref a1)]) := fun t k => pre0 t (by
      refine XS.aloadN X0.here hx rfl (hb hby d6_0) rfl rfl ?_
      exact k)
  obtain ⟨c2, Ar2, q2, S2, M2, H2, G2⟩ := (id V0)
  have pre2 : Go p.tables e below (s₁.setTop (entryFrame m #[(.ref a0), (.ref a1)] 2)) s₁ (mkF m 2 #[.val (.ref a0), .val (.ref a1)] [(.int z0)]) := fun t k => pre1 t (X0.arraylength hx (by rw [e0]; exact Ar2.1) (State.isArrayOf_alike hZ.alike Ar2.2.1) (g := (mkF m 1 #[.val (.ref a0), .val (.ref a1)] [(.ref a1)])) rfl rfl (hb hby d6_1) _ (by rw [len_of S2 M2]; exact k))
  have pre3 : Go p.tables e below (s₁.setTop (entryFrame m #[(.ref a0), (.ref a1)] 2)) s₁ (mkF m 3 #[.val (.ref a0), .val (.ref a1)] [(.ref a0), (.int z0)]) := fun t k => pre2 t (by
      refine XS.aloadN X0.here hx rfl (hb hby d6_2) rfl rfl ?_
      exact k)
  obtain ⟨T4, X4, e4, st4⟩ := getF X0 hx hZ hown (host := "") (Or.inl (hw _ (List.mem_of_getElem? (i := 33) rfl))) Via.refl e0 F0 (g := (mkF m 3 #[.val (.ref a0), .val (.ref a1)] [(.ref a0), (.int z0)])) rfl rfl (hb hby d6_3)
  have pre4 : Go p.tables e below (s₁.setTop (entryFrame m #[(.ref a0), (.ref a1)] 2)) T4 (mkF m 6 #[.val (.ref a0), .val (.ref a1)] [(.int st0), (.int z0)]) := fun t k => pre3 t (st4 _ k)
  have pre5 : Go p.tables e below (s₁.setTop (entryFrame m #[(.ref a0), (.ref a1)] 2)) T4 (mkF m 9 #[.val (.ref a0), .val (.ref a1)] [(.int (st0 + (8 : Int32))), (.int z0)]) := fun t k => pre4 t (by
      refine XS.bipush X4.here hx rfl (hb hby d6_6) ?_
      show Steps p.tables e below (T4.setTop (mkF m 8 #[.val (.ref a0), .val (.ref a1)] [(.int (8 : Int32)), (.int st0), (.int z0)])) _
      refine XS.iadd X4.here hx rfl (hb hby d6_8) rfl ?_
      exact k)
  by_cases hc6 : z0 < (st0 + (8 : Int32))
  · -- hc6: True
    have pre7 : Go p.tables e below (s₁.setTop (entryFrame m #[(.ref a0), (.ref a1)] 2)) T4 (mkF m 17 #[.val (.ref a0), .val (.ref a1)] [(.int (0 : Int32))]) := fun t k => pre5 t (by
        refine XS.icmpYes X4.here hx rfl (pc0 := 9) (pc' := 16) rfl (hb hby d6_9) rfl (tlt hc6).1 (by decide) (by decide) ?_
        show Steps p.tables e below (T4.setTop (mkF m 16 #[.val (.ref a0), .val (.ref a1)] [])) _
        refine XS.iconst X4.here hx rfl (hb hby d6_16) ?_
        exact k)
    obtain ⟨fs, hr, hrun, hended, hW, hsame⟩ := X4.leave (v := some (.int (0 : Int32))) (fun h => by rw [Bd.returns] at h; cases h) (BodyLoose.notSynchronized Bd)
    refine ⟨_, _, pre7 _ ?_, hrun, hended, _, _, rfl, ?_, ⟨_, rfl⟩, hW, hsame.mono (Nat.le_of_ble_eq_true rfl) (Nat.le_of_ble_eq_true rfl)⟩
    · exact retN X4 hx (t := .boolean) Bd.returns (by simp) (hb hby d6_17) hr
    · show Q_isc Z a0 a1 st0 kk z0 vs dv h0 n0 _ T4.heap _
      rw [e4]
      exact ⟨by simp [own_isC, hc6], N0, rfl⟩
  · -- hc6: False
    have pre8 : Go p.tables e below (s₁.setTop (entryFrame m #[(.ref a0), (.ref a1)] 2)) T4 (mkF m 17 #[.val (.ref a0), .val (.ref a1)] [(.int (1 : Int32))]) := fun t k => pre5 t (by
        refine XS.icmpNo X4.here hx rfl (hb hby d6_9) rfl (flt hc6).1 ?_
        show Steps p.tables e below (T4.setTop (mkF m 12 #[.val (.ref a0), .val (.ref a1)] [])) _
        refine XS.iconst X4.here hx rfl (hb hby d6_12) ?_
        show Steps p.tables e below (T4.setTop (mkF m 13 #[.val (.ref a0), .val (.ref a1)] [(.int (1 : Int32))])) _
        refine XS.goto X4.here hx rfl (pc0 := 13) (pc' := 17) rfl (hb hby d6_13) (by decide) (by decide) ?_
        exact k)
    obtain ⟨fs, hr, hrun, hended, hW, hsame⟩ := X4.leave (v := some (.int (1 : Int32))) (fun h => by rw [Bd.returns] at h; cases h) (BodyLoose.notSynchronized Bd)
    refine ⟨_, _, pre8 _ ?_, hrun, hended, _, _, rfl, ?_, ⟨_, rfl⟩, hW, hsame.mono (Nat.le_of_ble_eq_true rfl) (Nat.le_of_ble_eq_true rfl)⟩
    · exact retN X4 hx (t := .boolean) Bd.returns (by simp) (hb hby d6_17) hr
    · show Q_isc Z a0 a1 st0 kk z0 vs dv h0 n0 _ T4.heap _
      rw [e4]
      exact ⟨by simp [own_isC, hc6], N0, rfl⟩
theorem d3_0 : decode prog_19_method_5_code 0 = .ok (.aload_n 0, 1) := by decide +kernel
theorem d3_1 : decode prog_19_method_5_code 1 = .ok (.arraylength, 1) := by decide +kernel
theorem d3_2 : decode prog_19_method_5_code 2 = .ok (.bipush 8, 2) := by decide +kernel
theorem d3_4 : decode prog_19_method_5_code 4 = .ok (.if_icmp .ge 5, 3) := by decide +kernel
theorem d3_7 : decode prog_19_method_5_code 7 = .ok (.aconst_null, 1) := by decide +kernel
theorem d3_8 : decode prog_19_method_5_code 8 = .ok (.areturn, 1) := by decide +kernel
theorem d3_9 : decode prog_19_method_5_code 9 = .ok (.aload_n 0, 1) := by decide +kernel
theorem d3_10 : decode prog_19_method_5_code 10 = .ok (.invokestatic 48, 3) := by decide +kernel
theorem d3_13 : decode prog_19_method_5_code 13 = .ok (.ldc2_w 52, 3) := by decide +kernel
theorem d3_16 : decode prog_19_method_5_code 16 = .ok (.lcmp, 1) := by decide +kernel
theorem d3_17 : decode prog_19_method_5_code 17 = .ok (.ifCond .lt 9, 3) := by decide +kernel
theorem d3_20 : decode prog_19_method_5_code 20 = .ok (.getstatic 5, 3) := by decide +kernel
theorem d3_23 : decode prog_19_method_5_code 23 = .ok (.goto 6, 3) := by decide +kernel
theorem d3_26 : decode prog_19_method_5_code 26 = .ok (.getstatic 9, 3) := by decide +kernel
theorem d3_29 : decode prog_19_method_5_code 29 = .ok (.astore_n 1, 1) := by decide +kernel
theorem d3_30 : decode prog_19_method_5_code 30 = .ok (.aload_n 1, 1) := by decide +kernel
theorem d3_31 : decode prog_19_method_5_code 31 = .ok (.aload_n 0, 1) := by decide +kernel
theorem d3_32 : decode prog_19_method_5_code 32 = .ok (.invokevirtual 54, 3) := by decide +kernel
theorem d3_35 : decode prog_19_method_5_code 35 = .ok (.ifCond .eq 7, 3) := by decide +kernel
theorem d3_38 : decode prog_19_method_5_code 38 = .ok (.aload_n 1, 1) := by decide +kernel
theorem d3_39 : decode prog_19_method_5_code 39 = .ok (.goto 4, 3) := by decide +kernel
theorem d3_42 : decode prog_19_method_5_code 42 = .ok (.aconst_null, 1) := by decide +kernel
theorem d3_43 : decode prog_19_method_5_code 43 = .ok (.areturn, 1) := by decide +kernel
theorem pn_ofc : plainName "com/example/fence/fence/service/ClaimFormat" = true := by first | (simp [plainName, overriddenIn]; done) | decide +kernel
theorem ef_ofc (m : MethodId) (a0 : Addr) : entryFrame m #[(.ref a0)] 2 = mkF m 0 #[.val (.ref a0), .unset] [] := by first | (simp [entryFrame, mkF, argsToLocals, Value.category]; done) | rfl
def Q_ofc (Z : State) (a0 : Addr) (kk : ClassId) (z0 : Int32) (vs : List Value) (dv : Value) (b0 : Int32) (b1 : Int32) (b2 : Int32) (b3 : Int32) (b4 : Int32) (b5 : Int32) (b6 : Int32) (b7 : Int32) (v0 : Int64) (r_TIMESTAMPED : Addr) (r_NUMBERED : Addr) (h0 : Heap) (n0 : Nat) (v : Option Value) (h : Heap) (L : List Loc) : Prop := v = some (own_of v0 z0 r_TIMESTAMPED r_NUMBERED) ∧ Fr n0 L ∧ h = h0
set_option maxRecDepth 65536 in
set_option maxHeartbeats 40000000 in
theorem rm_ofc (l : Launch) (Z : State) (av0 : Array Value) (hw : ∀ d ∈ tables_1, d.before av0 Z = true) (ws : List Jvm.Cond) (a0 : Addr) (kk : ClassId) (z0 : Int32) (vs : List Value) (dv : Value) (b0 : Int32) (b1 : Int32) (b2 : Int32) (b3 : Int32) (b4 : Int32) (b5 : Int32) (b6 : Int32) (b7 : Int32) (v0 : Int64) (r_TIMESTAMPED : Addr) (r_NUMBERED : Addr) (h0 : Heap) (n0 : Nat) (O0 : Old Z n0 h0) (S_TIMESTAMPED : Sta Z Z.heap "com/example/fence/fence/service/ClaimFormat" "TIMESTAMPED" "Lcom/example/fence/fence/service/ClaimFormat;" (.ref r_TIMESTAMPED)) (S_NUMBERED : Sta Z Z.heap "com/example/fence/fence/service/ClaimFormat" "NUMBERED" "Lcom/example/fence/fence/service/ClaimFormat;" (.ref r_NUMBERED)) (E_TIMESTAMPED : Exa Z Z.heap r_TIMESTAMPED "com/example/fence/fence/service/ClaimFormat$1") (E_NUMBERED : Exa Z Z.heap r_NUMBERED "com/example/fence/fence/service/ClaimFormat$2") (F_TIMESTAMPED : Fld Z Z.heap r_TIMESTAMPED "com/example/fence/fence/service/ClaimFormat" "stampAt" "I" (.int (0 : Int32))) (F_NUMBERED : Fld Z Z.heap r_NUMBERED "com/example/fence/fence/service/ClaimFormat" "stampAt" "I" (.int (8 : Int32))) (V0 : Arv Z h0 a0 kk .byte z0 vs dv) (hb0 : vs.getD ((0 : Int32)).toNatClampNeg dv = .int b0) (hb1 : vs.getD (((0 : Int32) + (1 : Int32))).toNatClampNeg dv = .int b1) (hb2 : vs.getD (((0 : Int32) + (2 : Int32))).toNatClampNeg dv = .int b2) (hb3 : vs.getD (((0 : Int32) + (3 : Int32))).toNatClampNeg dv = .int b3) (hb4 : vs.getD (((0 : Int32) + (4 : Int32))).toNatClampNeg dv = .int b4) (hb5 : vs.getD (((0 : Int32) + (5 : Int32))).toNatClampNeg dv = .int b5) (hb6 : vs.getD (((0 : Int32) + (6 : Int32))).toNatClampNeg dv = .int b6) (hb7 : vs.getD (((0 : Int32) + (7 : Int32))).toNatClampNeg dv = .int b7) (hl : own_long b0 b1 b2 b3 b4 b5 b6 b7 = v0) :
    MetFree l (⟨"com/example/fence/fence/service/ClaimFormat", "ofColumn", "([B)Lcom/example/fence/fence/service/ClaimFormat;"⟩ : MethodName) (head1 (Jvm.Cond.code (⟨"com/example/fence/fence/service/ClaimFormat", "ofColumn", "([B)Lcom/example/fence/fence/service/ClaimFormat;"⟩ : MethodName) prog_19_method_5_code 2 (some (.object "com/example/fence/fence/service/ClaimFormat")) :: ws) ({ frames := 2, cells := 0, slots := 0, locals := 25 } : Room)) (fun a U => a = #[(.ref a0)] ∧ Z.Warmed39 U.vm ∧ U.heap = h0) (fun _ _ _ _ _ => True) (fun _ U o U' => ∃ v L, o = .returned v ∧ Q_ofc Z a0 kk z0 vs dv b0 b1 b2 b3 b4 b5 b6 b7 v0 r_TIMESTAMPED r_NUMBERED h0 n0 v U'.heap L ∧ FrameEnd U o U' L ({ frames := 2, cells := 0, slots := 0, locals := 25 } : Room).cells ({ frames := 2, cells := 0, slots := 0, locals := 25 } : Room).slots) := by
  refine MetFree.of_bodySF (plainFor_of_name pn_ofc) hisR ?_
  intro p e s m args below meth c s₁ Bd hml0 hP hK
  obtain ⟨rfl, hZ, hh⟩ := hP
  have hx := Bd.exec
  have hby := Bd.bytes
  have hml : c.maxLocals = 2 := hml0
  have hown : s.vm.findClass "com/example/fence/fence/service/ClaimFormat" = some m.cls := findClass_of_methodNamed Bd.named
  have hnm := (name_of_methodNamed Bd.named Bd.method).1
  have X0 : Stand p l e ({ frames := 2, cells := 0, slots := 0, locals := 25 } : Room) s m #[(.ref a0)] below meth c s₁ [] 0 0 := Stand.of_body Bd
  have e0 : s₁.heap = h0 := by rw [← hh, Bd.state]; rfl
  have N0 := Fr.nil n0
  have pre0 : Go p.tables e below (s₁.setTop (entryFrame m #[(.ref a0)] 2)) s₁ (mkF m 0 #[.val (.ref a0), .unset] []) := fun t k => castTop (ef_ofc m a0) k
  have pre1 : Go p.tables e below (s₁.setTop (entryFrame m #[(.ref a0)] 2)) s₁ (mkF m 1 #[.val (.ref a0), .unset] [(.ref a0)]) := fun t k => pre0 t (by
      refine XS.aloadN X0.here hx rfl (hb hby d3_0) rfl rfl ?_
      exact k)
  obtain ⟨c2, Ar2, q2, S2, M2, H2, G2⟩ := (id V0)
  have pre2 : Go p.tables e below (s₁.setTop (entryFrame m #[(.ref a0)] 2)) s₁ (mkF m 2 #[.val (.ref a0), .unset] [(.int z0)]) := fun t k => pre1 t (X0.arraylength hx (by rw [e0]; exact Ar2.1) (State.isArrayOf_alike hZ.alike Ar2.2.1) (g := (mkF m 1 #[.val (.ref a0), .unset] [(.ref a0)])) rfl rfl (hb hby d3_1) _ (by rw [len_of S2 M2]; exact k))
  have pre3 : Go p.tables e below (s₁.setTop (entryFrame m #[(.ref a0)] 2)) s₁ (mkF m 4 #[.val (.ref a0), .unset] [(.int (8 : Int32)), (.int z0)]) := fun t k => pre2 t (by
      refine XS.bipush X0.here hx rfl (hb hby d3_2) ?_
      exact k)
  by_cases hc4 : z0 < (8 : Int32)
  · -- hc4: True
    have pre5 : Go p.tables e below (s₁.setTop (entryFrame m #[(.ref a0)] 2)) s₁ (mkF m 8 #[.val (.ref a0), .unset] [.null]) := fun t k => pre3 t (by
        refine XS.icmpNo X0.here hx rfl (hb hby d3_4) rfl (tlt hc4).2.1 ?_
        show Steps p.tables e below (s₁.setTop (mkF m 7 #[.val (.ref a0), .unset] [])) _
        refine XS.aconstNull X0.here hx rfl (hb hby d3_7) ?_
        exact k)
    obtain ⟨fs, hr, hrun, hended, hW, hsame⟩ := X0.leave (v := some .null) (fun h => by rw [Bd.returns] at h; cases h) (BodyLoose.notSynchronized Bd)
    refine ⟨_, _, pre5 _ ?_, hrun, hended, _, _, rfl, ?_, ⟨_, rfl⟩, hW, hsame.mono (Nat.le_of_ble_eq_true rfl) (Nat.le_of_ble_eq_true rfl)⟩
    · exact retOut X0 hx Bd.returns rfl (Or.inr (Or.inr (Or.inr (Or.inr ⟨rfl, rfl, rfl⟩)))) (hb hby d3_8) hr
    · show Q_ofc Z a0 kk z0 vs dv b0 b1 b2 b3 b4 b5 b6 b7 v0 r_TIMESTAMPED r_NUMBERED h0 n0 _ s₁.heap _
      rw [e0]
      exact ⟨by simp [own_of, hc4], N0, rfl⟩
  · -- hc4: False
    have pre6 : Go p.tables e below (s₁.setTop (entryFrame m #[(.ref a0)] 2)) s₁ (mkF m 10 #[.val (.ref a0), .unset] [(.ref a0)]) := fun t k => pre3 t (by
        refine XS.icmpYes X0.here hx rfl (pc0 := 4) (pc' := 9) rfl (hb hby d3_4) rfl (flt hc4).2.1 (by decide) (by decide) ?_
        show Steps p.tables e below (s₁.setTop (mkF m 9 #[.val (.ref a0), .unset] [])) _
        refine XS.aloadN X0.here hx rfl (hb hby d3_9) rfl rfl ?_
        exact k)
    obtain ⟨c8, Ar8, q8, S8, M8, H8, G8⟩ := (id V0)
    have hi8_0 : ¬ ((0 : Int32) < 0 ∨ c8.slots.size ≤ ((0 : Int32)).toNatClampNeg) := inb_of S8 ⟨by decide, Int32.lt_of_lt_of_le (by decide) (Int32.not_lt.mp hc4)⟩
    have hi8_1 : ¬ (((0 : Int32) + (1 : Int32)) < 0 ∨ c8.slots.size ≤ (((0 : Int32) + (1 : Int32))).toNatClampNeg) := inb_of S8 ⟨by decide, Int32.lt_of_lt_of_le (by decide) (Int32.not_lt.mp hc4)⟩
    have hi8_2 : ¬ (((0 : Int32) + (2 : Int32)) < 0 ∨ c8.slots.size ≤ (((0 : Int32) + (2 : Int32))).toNatClampNeg) := inb_of S8 ⟨by decide, Int32.lt_of_lt_of_le (by decide) (Int32.not_lt.mp hc4)⟩
    have hi8_3 : ¬ (((0 : Int32) + (3 : Int32)) < 0 ∨ c8.slots.size ≤ (((0 : Int32) + (3 : Int32))).toNatClampNeg) := inb_of S8 ⟨by decide, Int32.lt_of_lt_of_le (by decide) (Int32.not_lt.mp hc4)⟩
    have hi8_4 : ¬ (((0 : Int32) + (4 : Int32)) < 0 ∨ c8.slots.size ≤ (((0 : Int32) + (4 : Int32))).toNatClampNeg) := inb_of S8 ⟨by decide, Int32.lt_of_lt_of_le (by decide) (Int32.not_lt.mp hc4)⟩
    have hi8_5 : ¬ (((0 : Int32) + (5 : Int32)) < 0 ∨ c8.slots.size ≤ (((0 : Int32) + (5 : Int32))).toNatClampNeg) := inb_of S8 ⟨by decide, Int32.lt_of_lt_of_le (by decide) (Int32.not_lt.mp hc4)⟩
    have hi8_6 : ¬ (((0 : Int32) + (6 : Int32)) < 0 ∨ c8.slots.size ≤ (((0 : Int32) + (6 : Int32))).toNatClampNeg) := inb_of S8 ⟨by decide, Int32.lt_of_lt_of_le (by decide) (Int32.not_lt.mp hc4)⟩
    have hi8_7 : ¬ (((0 : Int32) + (7 : Int32)) < 0 ∨ c8.slots.size ≤ (((0 : Int32) + (7 : Int32))).toNatClampNeg) := inb_of S8 ⟨by decide, Int32.lt_of_lt_of_le (by decide) (Int32.not_lt.mp hc4)⟩
    obtain ⟨_, _, ⟨T7, L7, k7, n7⟩, -, X7, ⟨Lc7, hQ7, l7, y7, z7⟩, st7⟩ := Jvm.LawKit.callS X0 hx (y := (⟨"com/example/fence/fence/service/ClaimFormat", "token", "([B)J"⟩ : MethodName)) hown (mvT hZ (hw _ (List.mem_of_getElem? (i := 19) rfl))) (mvT hZ (hw _ (List.mem_of_getElem? (i := 20) rfl))) (mvT hZ (hw _ (List.mem_of_getElem? (i := 1) rfl))) (mvT hZ (hw _ (List.mem_of_getElem? (i := 21) rfl))) (by decide) (backOf (W := 0) (rm_tok l Z av0 hw [] a0 c8 b0 b1 b2 b3 b4 b5 b6 b7 v0 h0 n0 Ar8 hi8_0 hi8_1 hi8_2 hi8_3 hi8_4 hi8_5 hi8_6 hi8_7 (H8.at hi8_0 hb0) (H8.at hi8_1 hb1) (H8.at hi8_2 hb2) (H8.at hi8_3 hb3) (H8.at hi8_4 hb4) (H8.at hi8_5 hb5) (H8.at hi8_6 hb6) (H8.at hi8_7 hb7) hl) hZ (hw _ (List.mem_of_getElem? (i := 21) rfl)) (hw _ (List.mem_of_getElem? (i := 1) rfl)) (by decide) (by decide)) (g := (mkF m 10 #[.val (.ref a0), .unset] [(.ref a0)])) rfl (by rw [hml]; rfl) (argsL := [(.ref a0)]) (rest := []) (lenOf pd_1 rfl) rfl (by show 2 * 0 + _ ≤ _; exact Nat.le_of_eq rfl) (hb hby d3_10) (fun _ _ => ⟨rfl, e0, (by decide : 0 + 0 ≤ _), (by decide : 0 + 0 ≤ _)⟩)
    dsimp only [Pt.U, Pt.locs, Pt.cells, Pt.slots] at X7 l7 y7 z7 st7 hQ7
    subst l7 y7 z7
    obtain ⟨rfl, N7q, e7⟩ := hQ7
    have N7 := Fr.app N0 N7q
    have pre7 : Go p.tables e below (s₁.setTop (entryFrame m #[(.ref a0)] 2)) T7 (mkF m 13 #[.val (.ref a0), .unset] [(.long v0)]) := fun t k => pre6 t (st7 _ k)
    have pre9 : Go p.tables e below (s₁.setTop (entryFrame m #[(.ref a0)] 2)) T7 (mkF m 17 #[.val (.ref a0), .unset] [(.int (lcmpW v0 (946684800000000000 : Int64)))]) := fun t k => pre7 t (by
        refine X7.ldc2Long hx hown (mvT hZ (hw _ (List.mem_of_getElem? (i := 26) rfl))) (g := (mkF m 13 #[.val (.ref a0), .unset] [(.long v0)])) rfl (hb hby d3_13) _ ?_
        show Steps p.tables e below (T7.setTop (mkF m 16 #[.val (.ref a0), .unset] [(.long (946684800000000000 : Int64)), (.long v0)])) _
        refine XS.lcmp X7.here hx rfl (hb hby d3_16) rfl ?_
        exact k)
    by_cases hc10 : v0 < (946684800000000000 : Int64)
    · -- hc10: True
      have pre11 : Go p.tables e below (s₁.setTop (entryFrame m #[(.ref a0)] 2)) T7 (mkF m 26 #[.val (.ref a0), .unset] []) := fun t k => pre9 t (by
          refine XS.ifYes X7.here hx rfl (pc0 := 17) (pc' := 26) rfl (hb hby d3_17) rfl ((if0 _ _).trans (tlt ((lw_lt _ _).mpr hc10)).1) (by decide) (by decide) ?_
          exact k)
      obtain ⟨T12, X12, e12, st12⟩ := getS2 X7 hx hZ hown (host := "") (Or.inl (hw _ (List.mem_of_getElem? (i := 27) rfl))) Via.refl e7 (S_NUMBERED.ext O0.2) (g := (mkF m 26 #[.val (.ref a0), .unset] [])) rfl (hb hby d3_26)
      have pre12 : Go p.tables e below (s₁.setTop (entryFrame m #[(.ref a0)] 2)) T12 (mkF m 29 #[.val (.ref a0), .unset] [(.ref r_NUMBERED)]) := fun t k => pre11 t (st12 _ k)
      have pre13 : Go p.tables e below (s₁.setTop (entryFrame m #[(.ref a0)] 2)) T12 (mkF m 32 #[.val (.ref a0), .val (.ref r_NUMBERED)] [(.ref a0), (.ref r_NUMBERED)]) := fun t k => pre12 t (by
          refine XS.astoreN X12.here hx rfl (hb hby d3_29) rfl rfl (l' := #[.val (.ref a0), .val (.ref r_NUMBERED)]) rfl ?_
          show Steps p.tables e below (T12.setTop (mkF m 30 #[.val (.ref a0), .val (.ref r_NUMBERED)] [])) _
          refine XS.aloadN X12.here hx rfl (hb hby d3_30) rfl rfl ?_
          show Steps p.tables e below (T12.setTop (mkF m 31 #[.val (.ref a0), .val (.ref r_NUMBERED)] [(.ref r_NUMBERED)])) _
          refine XS.aloadN X12.here hx rfl (hb hby d3_31) rfl rfl ?_
          exact k)
      obtain ⟨cq14, q14, q14'⟩ := (E_NUMBERED.ext O0.2).cell
      obtain ⟨_, _, ⟨T14, L14, k14, n14⟩, -, X14, ⟨Lc14, hQ14, l14, y14, z14⟩, st14⟩ := own_private X12 hx (y := (⟨"com/example/fence/fence/service/ClaimFormat", "isClaim", "([B)Z"⟩ : MethodName)) hown (mvT hZ (hw _ (List.mem_of_getElem? (i := 29) rfl))) (mvT hZ (hw _ (List.mem_of_getElem? (i := 30) rfl))) (mvT hZ (hw _ (List.mem_of_getElem? (i := 38) rfl))) rfl (Cond.privateMethod_at (mvP hZ (hw _ (List.mem_of_getElem? (i := 31) rfl)) (args := #[]))) (mvT hZ (hw _ (List.mem_of_getElem? (i := 32) rfl))) (by decide) (backOf (W := 0) (rm_isc l Z av0 hw [] r_NUMBERED a0 (8 : Int32) kk z0 vs dv h0 n0 (F_NUMBERED.ext O0.2) V0) hZ (hw _ (List.mem_of_getElem? (i := 32) rfl)) (hw _ (List.mem_of_getElem? (i := 1) rfl)) (by decide) (by decide)) (a := r_NUMBERED) (by rw [e12]; exact q14) q14' (g := (mkF m 32 #[.val (.ref a0), .val (.ref r_NUMBERED)] [(.ref a0), (.ref r_NUMBERED)])) rfl (by rw [hml]; rfl) (argsL := [(.ref a0)]) (rest := []) (lenOf pd_2 rfl) rfl (by show 2 * 0 + _ ≤ _; exact Nat.le_of_eq rfl) (hb hby d3_32) (fun _ _ => ⟨rfl, e12, (by decide : 0 + 0 ≤ _), (by decide : 0 + 0 ≤ _)⟩)
      dsimp only [Pt.U, Pt.locs, Pt.cells, Pt.slots] at X14 l14 y14 z14 st14 hQ14
      subst l14 y14 z14
      obtain ⟨rfl, N14q, e14⟩ := hQ14
      have N14 := Fr.app N7 N14q
      have pre14 : Go p.tables e below (s₁.setTop (entryFrame m #[(.ref a0)] 2)) T14 (mkF m 35 #[.val (.ref a0), .val (.ref r_NUMBERED)] [(.int (own_isC z0 (8 : Int32)))]) := fun t k => pre13 t (st14 _ k)
      by_cases hc15 : (own_isC z0 (8 : Int32)) = (0 : Int32)
      · -- hc15: True
        have pre16 : Go p.tables e below (s₁.setTop (entryFrame m #[(.ref a0)] 2)) T14 (mkF m 43 #[.val (.ref a0), .val (.ref r_NUMBERED)] [.null]) := fun t k => pre14 t (by
            refine XS.ifYes X14.here hx rfl (pc0 := 35) (pc' := 42) rfl (hb hby d3_35) rfl ((if0 _ _).trans (teq hc15).1) (by decide) (by decide) ?_
            show Steps p.tables e below (T14.setTop (mkF m 42 #[.val (.ref a0), .val (.ref r_NUMBERED)] [])) _
            refine XS.aconstNull X14.here hx rfl (hb hby d3_42) ?_
            exact k)
        obtain ⟨fs, hr, hrun, hended, hW, hsame⟩ := X14.leave (v := some .null) (fun h => by rw [Bd.returns] at h; cases h) (BodyLoose.notSynchronized Bd)
        refine ⟨_, _, pre16 _ ?_, hrun, hended, _, _, rfl, ?_, ⟨_, rfl⟩, hW, hsame.mono (Nat.le_of_ble_eq_true rfl) (Nat.le_of_ble_eq_true rfl)⟩
        · exact retOut X14 hx Bd.returns rfl (Or.inr (Or.inr (Or.inr (Or.inr ⟨rfl, rfl, rfl⟩)))) (hb hby d3_43) hr
        · show Q_ofc Z a0 kk z0 vs dv b0 b1 b2 b3 b4 b5 b6 b7 v0 r_TIMESTAMPED r_NUMBERED h0 n0 _ T14.heap _
          rw [e14]
          exact ⟨by simp [own_of, hc4, hc10, hc15], N14, rfl⟩
      · -- hc15: False
        have pre17 : Go p.tables e below (s₁.setTop (entryFrame m #[(.ref a0)] 2)) T14 (mkF m 43 #[.val (.ref a0), .val (.ref r_NUMBERED)] [(.ref r_NUMBERED)]) := fun t k => pre14 t (by
            refine XS.ifNo X14.here hx rfl (hb hby d3_35) rfl ((if0 _ _).trans (feq hc15).1) ?_
            show Steps p.tables e below (T14.setTop (mkF m 38 #[.val (.ref a0), .val (.ref r_NUMBERED)] [])) _
            refine XS.aloadN X14.here hx rfl (hb hby d3_38) rfl rfl ?_
            show Steps p.tables e below (T14.setTop (mkF m 39 #[.val (.ref a0), .val (.ref r_NUMBERED)] [(.ref r_NUMBERED)])) _
            refine XS.goto X14.here hx rfl (pc0 := 39) (pc' := 43) rfl (hb hby d3_39) (by decide) (by decide) ?_
            exact k)
        obtain ⟨fs, hr, hrun, hended, hW, hsame⟩ := X14.leave (v := some (.ref r_NUMBERED)) (fun h => by rw [Bd.returns] at h; cases h) (BodyLoose.notSynchronized Bd)
        refine ⟨_, _, pre17 _ ?_, hrun, hended, _, _, rfl, ?_, ⟨_, rfl⟩, hW, hsame.mono (Nat.le_of_ble_eq_true rfl) (Nat.le_of_ble_eq_true rfl)⟩
        · exact retOut X14 hx Bd.returns rfl (Or.inr (Or.inr (Or.inr (Or.inr ⟨rfl, rfl, rfl⟩)))) (hb hby d3_43) hr
        · show Q_ofc Z a0 kk z0 vs dv b0 b1 b2 b3 b4 b5 b6 b7 v0 r_TIMESTAMPED r_NUMBERED h0 n0 _ T14.heap _
          rw [e14]
          exact ⟨by simp [own_of, hc4, hc10, hc15], N14, rfl⟩
    · -- hc10: False
      have pre18 : Go p.tables e below (s₁.setTop (entryFrame m #[(.ref a0)] 2)) T7 (mkF m 20 #[.val (.ref a0), .unset] []) := fun t k => pre9 t (by
          refine XS.ifNo X7.here hx rfl (hb hby d3_17) rfl ((if0 _ _).trans (flt (mt (lw_lt _ _).mp hc10)).1) ?_
          exact k)
      obtain ⟨T19, X19, e19, st19⟩ := getS2 X7 hx hZ hown (host := "") (Or.inl (hw _ (List.mem_of_getElem? (i := 40) rfl))) Via.refl e7 (S_TIMESTAMPED.ext O0.2) (g := (mkF m 20 #[.val (.ref a0), .unset] [])) rfl (hb hby d3_20)
      have pre19 : Go p.tables e below (s₁.setTop (entryFrame m #[(.ref a0)] 2)) T19 (mkF m 23 #[.val (.ref a0), .unset] [(.ref r_TIMESTAMPED)]) := fun t k => pre18 t (st19 _ k)
      have pre20 : Go p.tables e below (s₁.setTop (entryFrame m #[(.ref a0)] 2)) T19 (mkF m 32 #[.val (.ref a0), .val (.ref r_TIMESTAMPED)] [(.ref a0), (.ref r_TIMESTAMPED)]) := fun t k => pre19 t (by
          refine XS.goto X19.here hx rfl (pc0 := 23) (pc' := 29) rfl (hb hby d3_23) (by decide) (by decide) ?_
          show Steps p.tables e below (T19.setTop (mkF m 29 #[.val (.ref a0), .unset] [(.ref r_TIMESTAMPED)])) _
          refine XS.astoreN X19.here hx rfl (hb hby d3_29) rfl rfl (l' := #[.val (.ref a0), .val (.ref r_TIMESTAMPED)]) rfl ?_
          show Steps p.tables e below (T19.setTop (mkF m 30 #[.val (.ref a0), .val (.ref r_TIMESTAMPED)] [])) _
          refine XS.aloadN X19.here hx rfl (hb hby d3_30) rfl rfl ?_
          show Steps p.tables e below (T19.setTop (mkF m 31 #[.val (.ref a0), .val (.ref r_TIMESTAMPED)] [(.ref r_TIMESTAMPED)])) _
          refine XS.aloadN X19.here hx rfl (hb hby d3_31) rfl rfl ?_
          exact k)
      obtain ⟨cq21, q21, q21'⟩ := (E_TIMESTAMPED.ext O0.2).cell
      obtain ⟨_, _, ⟨T21, L21, k21, n21⟩, -, X21, ⟨Lc21, hQ21, l21, y21, z21⟩, st21⟩ := own_private X19 hx (y := (⟨"com/example/fence/fence/service/ClaimFormat", "isClaim", "([B)Z"⟩ : MethodName)) hown (mvT hZ (hw _ (List.mem_of_getElem? (i := 29) rfl))) (mvT hZ (hw _ (List.mem_of_getElem? (i := 30) rfl))) (mvT hZ (hw _ (List.mem_of_getElem? (i := 38) rfl))) rfl (Cond.privateMethod_at (mvP hZ (hw _ (List.mem_of_getElem? (i := 31) rfl)) (args := #[]))) (mvT hZ (hw _ (List.mem_of_getElem? (i := 32) rfl))) (by decide) (backOf (W := 0) (rm_isc l Z av0 hw [] r_TIMESTAMPED a0 (0 : Int32) kk z0 vs dv h0 n0 (F_TIMESTAMPED.ext O0.2) V0) hZ (hw _ (List.mem_of_getElem? (i := 32) rfl)) (hw _ (List.mem_of_getElem? (i := 1) rfl)) (by decide) (by decide)) (a := r_TIMESTAMPED) (by rw [e19]; exact q21) q21' (g := (mkF m 32 #[.val (.ref a0), .val (.ref r_TIMESTAMPED)] [(.ref a0), (.ref r_TIMESTAMPED)])) rfl (by rw [hml]; rfl) (argsL := [(.ref a0)]) (rest := []) (lenOf pd_2 rfl) rfl (by show 2 * 0 + _ ≤ _; exact Nat.le_of_eq rfl) (hb hby d3_32) (fun _ _ => ⟨rfl, e19, (by decide : 0 + 0 ≤ _), (by decide : 0 + 0 ≤ _)⟩)
      dsimp only [Pt.U, Pt.locs, Pt.cells, Pt.slots] at X21 l21 y21 z21 st21 hQ21
      subst l21 y21 z21
      obtain ⟨rfl, N21q, e21⟩ := hQ21
      have N21 := Fr.app N7 N21q
      have pre21 : Go p.tables e below (s₁.setTop (entryFrame m #[(.ref a0)] 2)) T21 (mkF m 35 #[.val (.ref a0), .val (.ref r_TIMESTAMPED)] [(.int (own_isC z0 (0 : Int32)))]) := fun t k => pre20 t (st21 _ k)
      by_cases hc22 : (own_isC z0 (0 : Int32)) = (0 : Int32)
      · -- hc22: True
        have pre23 : Go p.tables e below (s₁.setTop (entryFrame m #[(.ref a0)] 2)) T21 (mkF m 43 #[.val (.ref a0), .val (.ref r_TIMESTAMPED)] [.null]) := fun t k => pre21 t (by
            refine XS.ifYes X21.here hx rfl (pc0 := 35) (pc' := 42) rfl (hb hby d3_35) rfl ((if0 _ _).trans (teq hc22).1) (by decide) (by decide) ?_
            show Steps p.tables e below (T21.setTop (mkF m 42 #[.val (.ref a0), .val (.ref r_TIMESTAMPED)] [])) _
            refine XS.aconstNull X21.here hx rfl (hb hby d3_42) ?_
            exact k)
        obtain ⟨fs, hr, hrun, hended, hW, hsame⟩ := X21.leave (v := some .null) (fun h => by rw [Bd.returns] at h; cases h) (BodyLoose.notSynchronized Bd)
        refine ⟨_, _, pre23 _ ?_, hrun, hended, _, _, rfl, ?_, ⟨_, rfl⟩, hW, hsame.mono (Nat.le_of_ble_eq_true rfl) (Nat.le_of_ble_eq_true rfl)⟩
        · exact retOut X21 hx Bd.returns rfl (Or.inr (Or.inr (Or.inr (Or.inr ⟨rfl, rfl, rfl⟩)))) (hb hby d3_43) hr
        · show Q_ofc Z a0 kk z0 vs dv b0 b1 b2 b3 b4 b5 b6 b7 v0 r_TIMESTAMPED r_NUMBERED h0 n0 _ T21.heap _
          rw [e21]
          exact ⟨by simp [own_of, hc4, hc10, hc22], N21, rfl⟩
      · -- hc22: False
        have pre24 : Go p.tables e below (s₁.setTop (entryFrame m #[(.ref a0)] 2)) T21 (mkF m 43 #[.val (.ref a0), .val (.ref r_TIMESTAMPED)] [(.ref r_TIMESTAMPED)]) := fun t k => pre21 t (by
            refine XS.ifNo X21.here hx rfl (hb hby d3_35) rfl ((if0 _ _).trans (feq hc22).1) ?_
            show Steps p.tables e below (T21.setTop (mkF m 38 #[.val (.ref a0), .val (.ref r_TIMESTAMPED)] [])) _
            refine XS.aloadN X21.here hx rfl (hb hby d3_38) rfl rfl ?_
            show Steps p.tables e below (T21.setTop (mkF m 39 #[.val (.ref a0), .val (.ref r_TIMESTAMPED)] [(.ref r_TIMESTAMPED)])) _
            refine XS.goto X21.here hx rfl (pc0 := 39) (pc' := 43) rfl (hb hby d3_39) (by decide) (by decide) ?_
            exact k)
        obtain ⟨fs, hr, hrun, hended, hW, hsame⟩ := X21.leave (v := some (.ref r_TIMESTAMPED)) (fun h => by rw [Bd.returns] at h; cases h) (BodyLoose.notSynchronized Bd)
        refine ⟨_, _, pre24 _ ?_, hrun, hended, _, _, rfl, ?_, ⟨_, rfl⟩, hW, hsame.mono (Nat.le_of_ble_eq_true rfl) (Nat.le_of_ble_eq_true rfl)⟩
        · exact retOut X21 hx Bd.returns rfl (Or.inr (Or.inr (Or.inr (Or.inr ⟨rfl, rfl, rfl⟩)))) (hb hby d3_43) hr
        · show Q_ofc Z a0 kk z0 vs dv b0 b1 b2 b3 b4 b5 b6 b7 v0 r_TIMESTAMPED r_NUMBERED h0 n0 _ T21.heap _
          rw [e21]
          exact ⟨by simp [own_of, hc4, hc10, hc22], N21, rfl⟩
theorem d2_0 : decode prog_52_method_2_code 0 = .ok (.bipush 8, 2) := by decide +kernel
theorem d2_2 : decode prog_52_method_2_code 2 = .ok (.aload_n 2, 1) := by decide +kernel
theorem d2_3 : decode prog_52_method_2_code 3 = .ok (.arraylength, 1) := by decide +kernel
theorem d2_4 : decode prog_52_method_2_code 4 = .ok (.iadd, 1) := by decide +kernel
theorem d2_5 : decode prog_52_method_2_code 5 = .ok (.newarray .byte, 2) := by decide +kernel
theorem d2_7 : decode prog_52_method_2_code 7 = .ok (.astore_n 3, 1) := by decide +kernel
theorem d2_8 : decode prog_52_method_2_code 8 = .ok (.aload_n 3, 1) := by decide +kernel
theorem d2_9 : decode prog_52_method_2_code 9 = .ok (.iconst 0, 1) := by decide +kernel
theorem d2_10 : decode prog_52_method_2_code 10 = .ok (.lload_n 0, 1) := by decide +kernel
theorem d2_11 : decode prog_52_method_2_code 11 = .ok (.bipush 56, 2) := by decide +kernel
theorem d2_13 : decode prog_52_method_2_code 13 = .ok (.lushr, 1) := by decide +kernel
theorem d2_14 : decode prog_52_method_2_code 14 = .ok (.l2i, 1) := by decide +kernel
theorem d2_15 : decode prog_52_method_2_code 15 = .ok (.i2b, 1) := by decide +kernel
theorem d2_16 : decode prog_52_method_2_code 16 = .ok (.bastore, 1) := by decide +kernel
theorem d2_17 : decode prog_52_method_2_code 17 = .ok (.aload_n 3, 1) := by decide +kernel
theorem d2_18 : decode prog_52_method_2_code 18 = .ok (.iconst 1, 1) := by decide +kernel
theorem d2_19 : decode prog_52_method_2_code 19 = .ok (.lload_n 0, 1) := by decide +kernel
theorem d2_20 : decode prog_52_method_2_code 20 = .ok (.bipush 48, 2) := by decide +kernel
theorem d2_22 : decode prog_52_method_2_code 22 = .ok (.lushr, 1) := by decide +kernel
theorem d2_23 : decode prog_52_method_2_code 23 = .ok (.l2i, 1) := by decide +kernel
theorem d2_24 : decode prog_52_method_2_code 24 = .ok (.i2b, 1) := by decide +kernel
theorem d2_25 : decode prog_52_method_2_code 25 = .ok (.bastore, 1) := by decide +kernel
theorem d2_26 : decode prog_52_method_2_code 26 = .ok (.aload_n 3, 1) := by decide +kernel
theorem d2_27 : decode prog_52_method_2_code 27 = .ok (.iconst 2, 1) := by decide +kernel
theorem d2_28 : decode prog_52_method_2_code 28 = .ok (.lload_n 0, 1) := by decide +kernel
theorem d2_29 : decode prog_52_method_2_code 29 = .ok (.bipush 40, 2) := by decide +kernel
theorem d2_31 : decode prog_52_method_2_code 31 = .ok (.lushr, 1) := by decide +kernel
theorem d2_32 : decode prog_52_method_2_code 32 = .ok (.l2i, 1) := by decide +kernel
theorem d2_33 : decode prog_52_method_2_code 33 = .ok (.i2b, 1) := by decide +kernel
theorem d2_34 : decode prog_52_method_2_code 34 = .ok (.bastore, 1) := by decide +kernel
theorem d2_35 : decode prog_52_method_2_code 35 = .ok (.aload_n 3, 1) := by decide +kernel
theorem d2_36 : decode prog_52_method_2_code 36 = .ok (.iconst 3, 1) := by decide +kernel
theorem d2_37 : decode prog_52_method_2_code 37 = .ok (.lload_n 0, 1) := by decide +kernel
theorem d2_38 : decode prog_52_method_2_code 38 = .ok (.bipush 32, 2) := by decide +kernel
theorem d2_40 : decode prog_52_method_2_code 40 = .ok (.lushr, 1) := by decide +kernel
theorem d2_41 : decode prog_52_method_2_code 41 = .ok (.l2i, 1) := by decide +kernel
theorem d2_42 : decode prog_52_method_2_code 42 = .ok (.i2b, 1) := by decide +kernel
theorem d2_43 : decode prog_52_method_2_code 43 = .ok (.bastore, 1) := by decide +kernel
theorem d2_44 : decode prog_52_method_2_code 44 = .ok (.aload_n 3, 1) := by decide +kernel
theorem d2_45 : decode prog_52_method_2_code 45 = .ok (.iconst 4, 1) := by decide +kernel
theorem d2_46 : decode prog_52_method_2_code 46 = .ok (.lload_n 0, 1) := by decide +kernel
theorem d2_47 : decode prog_52_method_2_code 47 = .ok (.bipush 24, 2) := by decide +kernel
theorem d2_49 : decode prog_52_method_2_code 49 = .ok (.lushr, 1) := by decide +kernel
theorem d2_50 : decode prog_52_method_2_code 50 = .ok (.l2i, 1) := by decide +kernel
theorem d2_51 : decode prog_52_method_2_code 51 = .ok (.i2b, 1) := by decide +kernel
theorem d2_52 : decode prog_52_method_2_code 52 = .ok (.bastore, 1) := by decide +kernel
theorem d2_53 : decode prog_52_method_2_code 53 = .ok (.aload_n 3, 1) := by decide +kernel
theorem d2_54 : decode prog_52_method_2_code 54 = .ok (.iconst 5, 1) := by decide +kernel
theorem d2_55 : decode prog_52_method_2_code 55 = .ok (.lload_n 0, 1) := by decide +kernel
theorem d2_56 : decode prog_52_method_2_code 56 = .ok (.bipush 16, 2) := by decide +kernel
theorem d2_58 : decode prog_52_method_2_code 58 = .ok (.lushr, 1) := by decide +kernel
theorem d2_59 : decode prog_52_method_2_code 59 = .ok (.l2i, 1) := by decide +kernel
theorem d2_60 : decode prog_52_method_2_code 60 = .ok (.i2b, 1) := by decide +kernel
theorem d2_61 : decode prog_52_method_2_code 61 = .ok (.bastore, 1) := by decide +kernel
theorem d2_62 : decode prog_52_method_2_code 62 = .ok (.aload_n 3, 1) := by decide +kernel
theorem d2_63 : decode prog_52_method_2_code 63 = .ok (.bipush 6, 2) := by decide +kernel
theorem d2_65 : decode prog_52_method_2_code 65 = .ok (.lload_n 0, 1) := by decide +kernel
theorem d2_66 : decode prog_52_method_2_code 66 = .ok (.bipush 8, 2) := by decide +kernel
theorem d2_68 : decode prog_52_method_2_code 68 = .ok (.lushr, 1) := by decide +kernel
theorem d2_69 : decode prog_52_method_2_code 69 = .ok (.l2i, 1) := by decide +kernel
theorem d2_70 : decode prog_52_method_2_code 70 = .ok (.i2b, 1) := by decide +kernel
theorem d2_71 : decode prog_52_method_2_code 71 = .ok (.bastore, 1) := by decide +kernel
theorem d2_72 : decode prog_52_method_2_code 72 = .ok (.aload_n 3, 1) := by decide +kernel
theorem d2_73 : decode prog_52_method_2_code 73 = .ok (.bipush 7, 2) := by decide +kernel
theorem d2_75 : decode prog_52_method_2_code 75 = .ok (.lload_n 0, 1) := by decide +kernel
theorem d2_76 : decode prog_52_method_2_code 76 = .ok (.l2i, 1) := by decide +kernel
theorem d2_77 : decode prog_52_method_2_code 77 = .ok (.i2b, 1) := by decide +kernel
theorem d2_78 : decode prog_52_method_2_code 78 = .ok (.bastore, 1) := by decide +kernel
theorem d2_79 : decode prog_52_method_2_code 79 = .ok (.aload_n 2, 1) := by decide +kernel
theorem d2_80 : decode prog_52_method_2_code 80 = .ok (.iconst 0, 1) := by decide +kernel
theorem d2_81 : decode prog_52_method_2_code 81 = .ok (.aload_n 3, 1) := by decide +kernel
theorem d2_82 : decode prog_52_method_2_code 82 = .ok (.bipush 8, 2) := by decide +kernel
theorem d2_84 : decode prog_52_method_2_code 84 = .ok (.aload_n 2, 1) := by decide +kernel
theorem d2_85 : decode prog_52_method_2_code 85 = .ok (.arraylength, 1) := by decide +kernel
theorem d2_86 : decode prog_52_method_2_code 86 = .ok (.invokestatic 9, 3) := by decide +kernel
theorem d2_89 : decode prog_52_method_2_code 89 = .ok (.aload_n 3, 1) := by decide +kernel
theorem d2_90 : decode prog_52_method_2_code 90 = .ok (.areturn, 1) := by decide +kernel
theorem pn_pre : plainName "com/example/fence/fence/util/BigEndian" = true := by first | (simp [plainName, overriddenIn]; done) | decide +kernel
theorem ef_pre (m : MethodId) (q0 : Int64) (a1 : Addr) : entryFrame m #[(.long q0), (.ref a1)] 4 = mkF m 0 #[.val (.long q0), .second, .val (.ref a1), .unset] [] := by first | (simp [entryFrame, mkF, argsToLocals, Value.category]; done) | rfl
def Q_pre (Z : State) (q0 : Int64) (a1 : Addr) (kk : ClassId) (z0 : Int32) (vs : List Value) (dv : Value) (h0 : Heap) (n0 : Nat) (v : Option Value) (h : Heap) (L : List Loc) : Prop := ∃ b k ws, v = some (.ref b) ∧ Fr n0 L ∧ Keep h0 h [] ∧ n0 ≤ b ∧ h0.size ≤ b ∧ Arv Z h b k .byte ((8 : Int32) + z0) ([(.int (own_b8 (own_sh q0 56))), (.int (own_b8 (own_sh q0 48))), (.int (own_b8 (own_sh q0 40))), (.int (own_b8 (own_sh q0 32))), (.int (own_b8 (own_sh q0 24))), (.int (own_b8 (own_sh q0 16))), (.int (own_b8 (own_sh q0 8))), (.int (own_b8 q0))] ++ ws) (.int (0 : Int32))
set_option maxRecDepth 65536 in
set_option maxHeartbeats 40000000 in
theorem rm_pre (l : Launch) (Z : State) (av0 : Array Value) (hw : ∀ d ∈ tables_1, d.before av0 Z = true) (ws : List Jvm.Cond) (q0 : Int64) (a1 : Addr) (kk : ClassId) (z0 : Int32) (vs : List Value) (dv : Value) (h0 : Heap) (n0 : Nat) (Z0 : n0 ≤ h0.size) (V0 : Arv Z h0 a1 kk .byte z0 vs dv) (hz0 : 0 ≤ z0.toInt) (hz1 : z0.toInt ≤ 23) :
    MetFree l (⟨"com/example/fence/fence/util/BigEndian", "prefixed", "(J[B)[B"⟩ : MethodName) (head1 (Jvm.Cond.code (⟨"com/example/fence/fence/util/BigEndian", "prefixed", "(J[B)[B"⟩ : MethodName) prog_52_method_2_code 4 (some (.array .byte)) :: ws) ({ frames := 1, cells := 1, slots := 31, locals := 40 } : Room)) (fun a U => a = #[(.long q0), (.ref a1)] ∧ Z.Warmed39 U.vm ∧ U.heap = h0) (fun _ _ _ _ _ => True) (fun _ U o U' => ∃ v L, o = .returned v ∧ Q_pre Z q0 a1 kk z0 vs dv h0 n0 v U'.heap L ∧ FrameEnd U o U' L ({ frames := 1, cells := 1, slots := 31, locals := 40 } : Room).cells ({ frames := 1, cells := 1, slots := 31, locals := 40 } : Room).slots) := by
  refine MetFree.of_bodySF (plainFor_of_name pn_pre) hisR ?_
  intro p e s m args below meth c s₁ Bd hml0 hP hK
  obtain ⟨rfl, hZ, hh⟩ := hP
  have hx := Bd.exec
  have hby := Bd.bytes
  have hml : c.maxLocals = 4 := hml0
  have hown : s.vm.findClass "com/example/fence/fence/util/BigEndian" = some m.cls := findClass_of_methodNamed Bd.named
  have hnm := (name_of_methodNamed Bd.named Bd.method).1
  have X0 : Stand p l e ({ frames := 1, cells := 1, slots := 31, locals := 40 } : Room) s m #[(.long q0), (.ref a1)] below meth c s₁ [] 0 0 := Stand.of_body Bd
  have e0 : s₁.heap = h0 := by rw [← hh, Bd.state]; rfl
  have N0 := Fr.nil n0
  have pre0 : Go p.tables e below (s₁.setTop (entryFrame m #[(.long q0), (.ref a1)] 4)) s₁ (mkF m 0 #[.val (.long q0), .second, .val (.ref a1), .unset] []) := fun t k => castTop (ef_pre m q0 a1) k
  have K0 : Keep h0 h0 [] := Keep.refl _ _
  have pre1 : Go p.tables e below (s₁.setTop (entryFrame m #[(.long q0), (.ref a1)] 4)) s₁ (mkF m 3 #[.val (.long q0), .second, .val (.ref a1), .unset] [(.ref a1), (.int (8 : Int32))]) := fun t k => pre0 t (by
      refine XS.bipush X0.here hx rfl (hb hby d2_0) ?_
      show Steps p.tables e below (s₁.setTop (mkF m 2 #[.val (.long q0), .second, .val (.ref a1), .unset] [(.int (8 : Int32))])) _
      refine XS.aloadN X0.here hx rfl (hb hby d2_2) rfl rfl ?_
      exact k)
  obtain ⟨c2, Ar2, q2, S2, M2, H2, G2⟩ := (id V0)
  have pre2 : Go p.tables e below (s₁.setTop (entryFrame m #[(.long q0), (.ref a1)] 4)) s₁ (mkF m 4 #[.val (.long q0), .second, .val (.ref a1), .unset] [(.int z0), (.int (8 : Int32))]) := fun t k => pre1 t (X0.arraylength hx (by rw [e0]; exact Ar2.1) (State.isArrayOf_alike hZ.alike Ar2.2.1) (g := (mkF m 3 #[.val (.long q0), .second, .val (.ref a1), .unset] [(.ref a1), (.int (8 : Int32))])) rfl rfl (hb hby d2_3) _ (by rw [len_of S2 M2]; exact k))
  have pre3 : Go p.tables e below (s₁.setTop (entryFrame m #[(.long q0), (.ref a1)] 4)) s₁ (mkF m 5 #[.val (.long q0), .second, .val (.ref a1), .unset] [(.int ((8 : Int32) + z0))]) := fun t k => pre2 t (by
      refine XS.iadd X0.here hx rfl (hb hby d2_4) rfl ?_
      exact k)
  obtain ⟨T4, h4, k4, X4, e4, E4, A4, st4⟩ := newP X0 hx hZ (hw _ (List.mem_of_getElem? (i := 3) rfl)) e0 (g := (mkF m 5 #[.val (.long q0), .second, .val (.ref a1), .unset] [(.int ((8 : Int32) + z0))])) rfl (hb hby d2_5) rfl (own_len8 z0 hz0 hz1).1 (cap := 31) (own_len8 z0 hz0 hz1).2.1 (by decide) (by decide) (by decide)
  obtain ⟨b4, ga4⟩ : ∃ z, z = h0.size := ⟨_, rfl⟩
  rw [← ga4] at A4 st4
  have ne5 : a1 ≠ b4 := Nat.ne_of_lt (Nat.lt_of_lt_of_le V0.lt (Nat.le_of_eq ga4.symm))
  have g6 : n0 ≤ b4 := Nat.le_trans Z0 (Nat.le_of_eq ga4.symm)
  have sz7 : h0.size ≤ b4 := Nat.le_trans K0.1 (Nat.le_of_eq ga4.symm)
  have f8 : n0 ≤ h4.size := Nat.le_trans Z0 E4.1
  have f9 : Arv Z h4 a1 kk .byte z0 vs dv := V0.ext E4
  have f10 : Keep h0 h4 [] := K0.ext E4
  have f11 : Arv Z h4 b4 k4 .byte ((8 : Int32) + z0) [] (.int (0 : Int32)) := Arv.new A4 (own_len8 z0 hz0 hz1).1
  have pre4 : Go p.tables e below (s₁.setTop (entryFrame m #[(.long q0), (.ref a1)] 4)) T4 (mkF m 7 #[.val (.long q0), .second, .val (.ref a1), .unset] [(.ref b4)]) := fun t k => pre3 t (st4 _ k)
  have fp12 : Arv Z h4 b4 k4 .byte ((8 : Int32) + z0) [(.int (0 : Int32)), (.int (0 : Int32)), (.int (0 : Int32)), (.int (0 : Int32)), (.int (0 : Int32)), (.int (0 : Int32)), (.int (0 : Int32)), (.int (0 : Int32))] (.int (0 : Int32)) := f11.pad (pad_rep [] (.int (0 : Int32)) 8)
  have pre13 : Go p.tables e below (s₁.setTop (entryFrame m #[(.long q0), (.ref a1)] 4)) T4 (mkF m 16 #[.val (.long q0), .second, .val (.ref a1), .val (.ref b4)] [(.int ((((q0.toUInt64 >>> ((56 : Int32) &&& 0x3f).toInt64.toUInt64).toInt64).toInt32).toInt8.toInt32)), (.int (0 : Int32)), (.ref b4)]) := fun t k => pre4 t (by
      refine XS.astoreN X4.here hx rfl (hb hby d2_7) rfl rfl (l' := #[.val (.long q0), .second, .val (.ref a1), .val (.ref b4)]) rfl ?_
      show Steps p.tables e below (T4.setTop (mkF m 8 #[.val (.long q0), .second, .val (.ref a1), .val (.ref b4)] [])) _
      refine XS.aloadN X4.here hx rfl (hb hby d2_8) rfl rfl ?_
      show Steps p.tables e below (T4.setTop (mkF m 9 #[.val (.long q0), .second, .val (.ref a1), .val (.ref b4)] [(.ref b4)])) _
      refine XS.iconst X4.here hx rfl (hb hby d2_9) ?_
      show Steps p.tables e below (T4.setTop (mkF m 10 #[.val (.long q0), .second, .val (.ref a1), .val (.ref b4)] [(.int (0 : Int32)), (.ref b4)])) _
      refine XS.lloadN X4.here hx rfl (hb hby d2_10) rfl ?_
      show Steps p.tables e below (T4.setTop (mkF m 11 #[.val (.long q0), .second, .val (.ref a1), .val (.ref b4)] [(.long q0), (.int (0 : Int32)), (.ref b4)])) _
      refine XS.bipush X4.here hx rfl (hb hby d2_11) ?_
      show Steps p.tables e below (T4.setTop (mkF m 13 #[.val (.long q0), .second, .val (.ref a1), .val (.ref b4)] [(.int (56 : Int32)), (.long q0), (.int (0 : Int32)), (.ref b4)])) _
      refine XS.lushr X4.here hx rfl (hb hby d2_13) rfl ?_
      show Steps p.tables e below (T4.setTop (mkF m 14 #[.val (.long q0), .second, .val (.ref a1), .val (.ref b4)] [(.long ((q0.toUInt64 >>> ((56 : Int32) &&& 0x3f).toInt64.toUInt64).toInt64)), (.int (0 : Int32)), (.ref b4)])) _
      refine XS.l2i X4.here hx rfl (hb hby d2_14) rfl ?_
      show Steps p.tables e below (T4.setTop (mkF m 15 #[.val (.long q0), .second, .val (.ref a1), .val (.ref b4)] [(.int (((q0.toUInt64 >>> ((56 : Int32) &&& 0x3f).toInt64.toUInt64).toInt64).toInt32)), (.int (0 : Int32)), (.ref b4)])) _
      refine XS.i2b X4.here hx rfl (hb hby d2_15) rfl ?_
      exact k)
  obtain ⟨c14, Ar14, q14, S14, M14, H14, G14⟩ := (id fp12)
  have hin14 : ¬ ((0 : Int32) < 0 ∨ c14.slots.size ≤ ((0 : Int32)).toNatClampNeg) := inb_of S14 ⟨by decide, own_lt8 z0 hz0 hz1 (by decide)⟩
  obtain ⟨T14, h14, X14, e14, W14, st14⟩ := stB X4 hx hZ e4 Ar14 (j := (0 : Int32)) hin14 (g := (mkF m 16 #[.val (.long q0), .second, .val (.ref a1), .val (.ref b4)] [(.int ((((q0.toUInt64 >>> ((56 : Int32) &&& 0x3f).toInt64.toUInt64).toInt64).toInt32).toInt8.toInt32)), (.int (0 : Int32)), (.ref b4)])) rfl rfl (hb hby d2_16)
  have fa14 : Arv Z h14 b4 k4 .byte ((8 : Int32) + z0) [(.int (nar .byte ((((q0.toUInt64 >>> ((56 : Int32) &&& 0x3f).toInt64.toUInt64).toInt64).toInt32).toInt8.toInt32))), (.int (0 : Int32)), (.int (0 : Int32)), (.int (0 : Int32)), (.int (0 : Int32)), (.int (0 : Int32)), (.int (0 : Int32)), (.int (0 : Int32))] (.int (0 : Int32)) := Arv.set Ar14 q14 S14 M14 H14 G14 (fits_nar_byte _) W14 0 rfl (Nat.le_of_ble_eq_true rfl)
  have N14 := Fr.snoc X14 N0 g6
  have f15 : n0 ≤ h14.size := Nat.le_trans f8 (Keep.of_wr W14).1
  have f16 : Arv Z h14 a1 kk .byte z0 vs dv := f9.other W14 ne5
  have f17 : Keep h0 h14 [] := f10.wr W14 (Or.inr sz7)
  have pre14 : Go p.tables e below (s₁.setTop (entryFrame m #[(.long q0), (.ref a1)] 4)) T14 (mkF m 17 #[.val (.long q0), .second, .val (.ref a1), .val (.ref b4)] []) := fun t k => pre13 t (st14 _ k)
  have pre18 : Go p.tables e below (s₁.setTop (entryFrame m #[(.long q0), (.ref a1)] 4)) T14 (mkF m 25 #[.val (.long q0), .second, .val (.ref a1), .val (.ref b4)] [(.int ((((q0.toUInt64 >>> ((48 : Int32) &&& 0x3f).toInt64.toUInt64).toInt64).toInt32).toInt8.toInt32)), (.int (1 : Int32)), (.ref b4)]) := fun t k => pre14 t (by
      refine XS.aloadN X14.here hx rfl (hb hby d2_17) rfl rfl ?_
      show Steps p.tables e below (T14.setTop (mkF m 18 #[.val (.long q0), .second, .val (.ref a1), .val (.ref b4)] [(.ref b4)])) _
      refine XS.iconst X14.here hx rfl (hb hby d2_18) ?_
      show Steps p.tables e below (T14.setTop (mkF m 19 #[.val (.long q0), .second, .val (.ref a1), .val (.ref b4)] [(.int (1 : Int32)), (.ref b4)])) _
      refine XS.lloadN X14.here hx rfl (hb hby d2_19) rfl ?_
      show Steps p.tables e below (T14.setTop (mkF m 20 #[.val (.long q0), .second, .val (.ref a1), .val (.ref b4)] [(.long q0), (.int (1 : Int32)), (.ref b4)])) _
      refine XS.bipush X14.here hx rfl (hb hby d2_20) ?_
      show Steps p.tables e below (T14.setTop (mkF m 22 #[.val (.long q0), .second, .val (.ref a1), .val (.ref b4)] [(.int (48 : Int32)), (.long q0), (.int (1 : Int32)), (.ref b4)])) _
      refine XS.lushr X14.here hx rfl (hb hby d2_22) rfl ?_
      show Steps p.tables e below (T14.setTop (mkF m 23 #[.val (.long q0), .second, .val (.ref a1), .val (.ref b4)] [(.long ((q0.toUInt64 >>> ((48 : Int32) &&& 0x3f).toInt64.toUInt64).toInt64)), (.int (1 : Int32)), (.ref b4)])) _
      refine XS.l2i X14.here hx rfl (hb hby d2_23) rfl ?_
      show Steps p.tables e below (T14.setTop (mkF m 24 #[.val (.long q0), .second, .val (.ref a1), .val (.ref b4)] [(.int (((q0.toUInt64 >>> ((48 : Int32) &&& 0x3f).toInt64.toUInt64).toInt64).toInt32)), (.int (1 : Int32)), (.ref b4)])) _
      refine XS.i2b X14.here hx rfl (hb hby d2_24) rfl ?_
      exact k)
  obtain ⟨c19, Ar19, q19, S19, M19, H19, G19⟩ := (id fa14)
  have hin19 : ¬ ((1 : Int32) < 0 ∨ c19.slots.size ≤ ((1 : Int32)).toNatClampNeg) := inb_of S19 ⟨by decide, own_lt8 z0 hz0 hz1 (by decide)⟩
  obtain ⟨T19, h19, X19, e19, W19, st19⟩ := stB X14 hx hZ e14 Ar19 (j := (1 : Int32)) hin19 (g := (mkF m 25 #[.val (.long q0), .second, .val (.ref a1), .val (.ref b4)] [(.int ((((q0.toUInt64 >>> ((48 : Int32) &&& 0x3f).toInt64.toUInt64).toInt64).toInt32).toInt8.toInt32)), (.int (1 : Int32)), (.ref b4)])) rfl rfl (hb hby d2_25)
  have fa19 : Arv Z h19 b4 k4 .byte ((8 : Int32) + z0) [(.int (nar .byte ((((q0.toUInt64 >>> ((56 : Int32) &&& 0x3f).toInt64.toUInt64).toInt64).toInt32).toInt8.toInt32))), (.int (nar .byte ((((q0.toUInt64 >>> ((48 : Int32) &&& 0x3f).toInt64.toUInt64).toInt64).toInt32).toInt8.toInt32))), (.int (0 : Int32)), (.int (0 : Int32)), (.int (0 : Int32)), (.int (0 : Int32)), (.int (0 : Int32)), (.int (0 : Int32))] (.int (0 : Int32)) := Arv.set Ar19 q19 S19 M19 H19 G19 (fits_nar_byte _) W19 1 rfl (Nat.le_of_ble_eq_true rfl)
  have N19 := Fr.snoc X19 N14 g6
  have f20 : n0 ≤ h19.size := Nat.le_trans f15 (Keep.of_wr W19).1
  have f21 : Arv Z h19 a1 kk .byte z0 vs dv := f16.other W19 ne5
  have f22 : Keep h0 h19 [] := f17.wr W19 (Or.inr sz7)
  have pre19 : Go p.tables e below (s₁.setTop (entryFrame m #[(.long q0), (.ref a1)] 4)) T19 (mkF m 26 #[.val (.long q0), .second, .val (.ref a1), .val (.ref b4)] []) := fun t k => pre18 t (st19 _ k)
  have pre23 : Go p.tables e below (s₁.setTop (entryFrame m #[(.long q0), (.ref a1)] 4)) T19 (mkF m 34 #[.val (.long q0), .second, .val (.ref a1), .val (.ref b4)] [(.int ((((q0.toUInt64 >>> ((40 : Int32) &&& 0x3f).toInt64.toUInt64).toInt64).toInt32).toInt8.toInt32)), (.int (2 : Int32)), (.ref b4)]) := fun t k => pre19 t (by
      refine XS.aloadN X19.here hx rfl (hb hby d2_26) rfl rfl ?_
      show Steps p.tables e below (T19.setTop (mkF m 27 #[.val (.long q0), .second, .val (.ref a1), .val (.ref b4)] [(.ref b4)])) _
      refine XS.iconst X19.here hx rfl (hb hby d2_27) ?_
      show Steps p.tables e below (T19.setTop (mkF m 28 #[.val (.long q0), .second, .val (.ref a1), .val (.ref b4)] [(.int (2 : Int32)), (.ref b4)])) _
      refine XS.lloadN X19.here hx rfl (hb hby d2_28) rfl ?_
      show Steps p.tables e below (T19.setTop (mkF m 29 #[.val (.long q0), .second, .val (.ref a1), .val (.ref b4)] [(.long q0), (.int (2 : Int32)), (.ref b4)])) _
      refine XS.bipush X19.here hx rfl (hb hby d2_29) ?_
      show Steps p.tables e below (T19.setTop (mkF m 31 #[.val (.long q0), .second, .val (.ref a1), .val (.ref b4)] [(.int (40 : Int32)), (.long q0), (.int (2 : Int32)), (.ref b4)])) _
      refine XS.lushr X19.here hx rfl (hb hby d2_31) rfl ?_
      show Steps p.tables e below (T19.setTop (mkF m 32 #[.val (.long q0), .second, .val (.ref a1), .val (.ref b4)] [(.long ((q0.toUInt64 >>> ((40 : Int32) &&& 0x3f).toInt64.toUInt64).toInt64)), (.int (2 : Int32)), (.ref b4)])) _
      refine XS.l2i X19.here hx rfl (hb hby d2_32) rfl ?_
      show Steps p.tables e below (T19.setTop (mkF m 33 #[.val (.long q0), .second, .val (.ref a1), .val (.ref b4)] [(.int (((q0.toUInt64 >>> ((40 : Int32) &&& 0x3f).toInt64.toUInt64).toInt64).toInt32)), (.int (2 : Int32)), (.ref b4)])) _
      refine XS.i2b X19.here hx rfl (hb hby d2_33) rfl ?_
      exact k)
  obtain ⟨c24, Ar24, q24, S24, M24, H24, G24⟩ := (id fa19)
  have hin24 : ¬ ((2 : Int32) < 0 ∨ c24.slots.size ≤ ((2 : Int32)).toNatClampNeg) := inb_of S24 ⟨by decide, own_lt8 z0 hz0 hz1 (by decide)⟩
  obtain ⟨T24, h24, X24, e24, W24, st24⟩ := stB X19 hx hZ e19 Ar24 (j := (2 : Int32)) hin24 (g := (mkF m 34 #[.val (.long q0), .second, .val (.ref a1), .val (.ref b4)] [(.int ((((q0.toUInt64 >>> ((40 : Int32) &&& 0x3f).toInt64.toUInt64).toInt64).toInt32).toInt8.toInt32)), (.int (2 : Int32)), (.ref b4)])) rfl rfl (hb hby d2_34)
  have fa24 : Arv Z h24 b4 k4 .byte ((8 : Int32) + z0) [(.int (nar .byte ((((q0.toUInt64 >>> ((56 : Int32) &&& 0x3f).toInt64.toUInt64).toInt64).toInt32).toInt8.toInt32))), (.int (nar .byte ((((q0.toUInt64 >>> ((48 : Int32) &&& 0x3f).toInt64.toUInt64).toInt64).toInt32).toInt8.toInt32))), (.int (nar .byte ((((q0.toUInt64 >>> ((40 : Int32) &&& 0x3f).toInt64.toUInt64).toInt64).toInt32).toInt8.toInt32))), (.int (0 : Int32)), (.int (0 : Int32)), (.int (0 : Int32)), (.int (0 : Int32)), (.int (0 : Int32))] (.int (0 : Int32)) := Arv.set Ar24 q24 S24 M24 H24 G24 (fits_nar_byte _) W24 2 rfl (Nat.le_of_ble_eq_true rfl)
  have N24 := Fr.snoc X24 N19 g6
  have f25 : n0 ≤ h24.size := Nat.le_trans f20 (Keep.of_wr W24).1
  have f26 : Arv Z h24 a1 kk .byte z0 vs dv := f21.other W24 ne5
  have f27 : Keep h0 h24 [] := f22.wr W24 (Or.inr sz7)
  have pre24 : Go p.tables e below (s₁.setTop (entryFrame m #[(.long q0), (.ref a1)] 4)) T24 (mkF m 35 #[.val (.long q0), .second, .val (.ref a1), .val (.ref b4)] []) := fun t k => pre23 t (st24 _ k)
  have pre28 : Go p.tables e below (s₁.setTop (entryFrame m #[(.long q0), (.ref a1)] 4)) T24 (mkF m 43 #[.val (.long q0), .second, .val (.ref a1), .val (.ref b4)] [(.int ((((q0.toUInt64 >>> ((32 : Int32) &&& 0x3f).toInt64.toUInt64).toInt64).toInt32).toInt8.toInt32)), (.int (3 : Int32)), (.ref b4)]) := fun t k => pre24 t (by
      refine XS.aloadN X24.here hx rfl (hb hby d2_35) rfl rfl ?_
      show Steps p.tables e below (T24.setTop (mkF m 36 #[.val (.long q0), .second, .val (.ref a1), .val (.ref b4)] [(.ref b4)])) _
      refine XS.iconst X24.here hx rfl (hb hby d2_36) ?_
      show Steps p.tables e below (T24.setTop (mkF m 37 #[.val (.long q0), .second, .val (.ref a1), .val (.ref b4)] [(.int (3 : Int32)), (.ref b4)])) _
      refine XS.lloadN X24.here hx rfl (hb hby d2_37) rfl ?_
      show Steps p.tables e below (T24.setTop (mkF m 38 #[.val (.long q0), .second, .val (.ref a1), .val (.ref b4)] [(.long q0), (.int (3 : Int32)), (.ref b4)])) _
      refine XS.bipush X24.here hx rfl (hb hby d2_38) ?_
      show Steps p.tables e below (T24.setTop (mkF m 40 #[.val (.long q0), .second, .val (.ref a1), .val (.ref b4)] [(.int (32 : Int32)), (.long q0), (.int (3 : Int32)), (.ref b4)])) _
      refine XS.lushr X24.here hx rfl (hb hby d2_40) rfl ?_
      show Steps p.tables e below (T24.setTop (mkF m 41 #[.val (.long q0), .second, .val (.ref a1), .val (.ref b4)] [(.long ((q0.toUInt64 >>> ((32 : Int32) &&& 0x3f).toInt64.toUInt64).toInt64)), (.int (3 : Int32)), (.ref b4)])) _
      refine XS.l2i X24.here hx rfl (hb hby d2_41) rfl ?_
      show Steps p.tables e below (T24.setTop (mkF m 42 #[.val (.long q0), .second, .val (.ref a1), .val (.ref b4)] [(.int (((q0.toUInt64 >>> ((32 : Int32) &&& 0x3f).toInt64.toUInt64).toInt64).toInt32)), (.int (3 : Int32)), (.ref b4)])) _
      refine XS.i2b X24.here hx rfl (hb hby d2_42) rfl ?_
      exact k)
  obtain ⟨c29, Ar29, q29, S29, M29, H29, G29⟩ := (id fa24)
  have hin29 : ¬ ((3 : Int32) < 0 ∨ c29.slots.size ≤ ((3 : Int32)).toNatClampNeg) := inb_of S29 ⟨by decide, own_lt8 z0 hz0 hz1 (by decide)⟩
  obtain ⟨T29, h29, X29, e29, W29, st29⟩ := stB X24 hx hZ e24 Ar29 (j := (3 : Int32)) hin29 (g := (mkF m 43 #[.val (.long q0), .second, .val (.ref a1), .val (.ref b4)] [(.int ((((q0.toUInt64 >>> ((32 : Int32) &&& 0x3f).toInt64.toUInt64).toInt64).toInt32).toInt8.toInt32)), (.int (3 : Int32)), (.ref b4)])) rfl rfl (hb hby d2_43)
  have fa29 : Arv Z h29 b4 k4 .byte ((8 : Int32) + z0) [(.int (nar .byte ((((q0.toUInt64 >>> ((56 : Int32) &&& 0x3f).toInt64.toUInt64).toInt64).toInt32).toInt8.toInt32))), (.int (nar .byte ((((q0.toUInt64 >>> ((48 : Int32) &&& 0x3f).toInt64.toUInt64).toInt64).toInt32).toInt8.toInt32))), (.int (nar .byte ((((q0.toUInt64 >>> ((40 : Int32) &&& 0x3f).toInt64.toUInt64).toInt64).toInt32).toInt8.toInt32))), (.int (nar .byte ((((q0.toUInt64 >>> ((32 : Int32) &&& 0x3f).toInt64.toUInt64).toInt64).toInt32).toInt8.toInt32))), (.int (0 : Int32)), (.int (0 : Int32)), (.int (0 : Int32)), (.int (0 : Int32))] (.int (0 : Int32)) := Arv.set Ar29 q29 S29 M29 H29 G29 (fits_nar_byte _) W29 3 rfl (Nat.le_of_ble_eq_true rfl)
  have N29 := Fr.snoc X29 N24 g6
  have f30 : n0 ≤ h29.size := Nat.le_trans f25 (Keep.of_wr W29).1
  have f31 : Arv Z h29 a1 kk .byte z0 vs dv := f26.other W29 ne5
  have f32 : Keep h0 h29 [] := f27.wr W29 (Or.inr sz7)
  have pre29 : Go p.tables e below (s₁.setTop (entryFrame m #[(.long q0), (.ref a1)] 4)) T29 (mkF m 44 #[.val (.long q0), .second, .val (.ref a1), .val (.ref b4)] []) := fun t k => pre28 t (st29 _ k)
  have pre33 : Go p.tables e below (s₁.setTop (entryFrame m #[(.long q0), (.ref a1)] 4)) T29 (mkF m 52 #[.val (.long q0), .second, .val (.ref a1), .val (.ref b4)] [(.int ((((q0.toUInt64 >>> ((24 : Int32) &&& 0x3f).toInt64.toUInt64).toInt64).toInt32).toInt8.toInt32)), (.int (4 : Int32)), (.ref b4)]) := fun t k => pre29 t (by
      refine XS.aloadN X29.here hx rfl (hb hby d2_44) rfl rfl ?_
      show Steps p.tables e below (T29.setTop (mkF m 45 #[.val (.long q0), .second, .val (.ref a1), .val (.ref b4)] [(.ref b4)])) _
      refine XS.iconst X29.here hx rfl (hb hby d2_45) ?_
      show Steps p.tables e below (T29.setTop (mkF m 46 #[.val (.long q0), .second, .val (.ref a1), .val (.ref b4)] [(.int (4 : Int32)), (.ref b4)])) _
      refine XS.lloadN X29.here hx rfl (hb hby d2_46) rfl ?_
      show Steps p.tables e below (T29.setTop (mkF m 47 #[.val (.long q0), .second, .val (.ref a1), .val (.ref b4)] [(.long q0), (.int (4 : Int32)), (.ref b4)])) _
      refine XS.bipush X29.here hx rfl (hb hby d2_47) ?_
      show Steps p.tables e below (T29.setTop (mkF m 49 #[.val (.long q0), .second, .val (.ref a1), .val (.ref b4)] [(.int (24 : Int32)), (.long q0), (.int (4 : Int32)), (.ref b4)])) _
      refine XS.lushr X29.here hx rfl (hb hby d2_49) rfl ?_
      show Steps p.tables e below (T29.setTop (mkF m 50 #[.val (.long q0), .second, .val (.ref a1), .val (.ref b4)] [(.long ((q0.toUInt64 >>> ((24 : Int32) &&& 0x3f).toInt64.toUInt64).toInt64)), (.int (4 : Int32)), (.ref b4)])) _
      refine XS.l2i X29.here hx rfl (hb hby d2_50) rfl ?_
      show Steps p.tables e below (T29.setTop (mkF m 51 #[.val (.long q0), .second, .val (.ref a1), .val (.ref b4)] [(.int (((q0.toUInt64 >>> ((24 : Int32) &&& 0x3f).toInt64.toUInt64).toInt64).toInt32)), (.int (4 : Int32)), (.ref b4)])) _
      refine XS.i2b X29.here hx rfl (hb hby d2_51) rfl ?_
      exact k)
  obtain ⟨c34, Ar34, q34, S34, M34, H34, G34⟩ := (id fa29)
  have hin34 : ¬ ((4 : Int32) < 0 ∨ c34.slots.size ≤ ((4 : Int32)).toNatClampNeg) := inb_of S34 ⟨by decide, own_lt8 z0 hz0 hz1 (by decide)⟩
  obtain ⟨T34, h34, X34, e34, W34, st34⟩ := stB X29 hx hZ e29 Ar34 (j := (4 : Int32)) hin34 (g := (mkF m 52 #[.val (.long q0), .second, .val (.ref a1), .val (.ref b4)] [(.int ((((q0.toUInt64 >>> ((24 : Int32) &&& 0x3f).toInt64.toUInt64).toInt64).toInt32).toInt8.toInt32)), (.int (4 : Int32)), (.ref b4)])) rfl rfl (hb hby d2_52)
  have fa34 : Arv Z h34 b4 k4 .byte ((8 : Int32) + z0) [(.int (nar .byte ((((q0.toUInt64 >>> ((56 : Int32) &&& 0x3f).toInt64.toUInt64).toInt64).toInt32).toInt8.toInt32))), (.int (nar .byte ((((q0.toUInt64 >>> ((48 : Int32) &&& 0x3f).toInt64.toUInt64).toInt64).toInt32).toInt8.toInt32))), (.int (nar .byte ((((q0.toUInt64 >>> ((40 : Int32) &&& 0x3f).toInt64.toUInt64).toInt64).toInt32).toInt8.toInt32))), (.int (nar .byte ((((q0.toUInt64 >>> ((32 : Int32) &&& 0x3f).toInt64.toUInt64).toInt64).toInt32).toInt8.toInt32))), (.int (nar .byte ((((q0.toUInt64 >>> ((24 : Int32) &&& 0x3f).toInt64.toUInt64).toInt64).toInt32).toInt8.toInt32))), (.int (0 : Int32)), (.int (0 : Int32)), (.int (0 : Int32))] (.int (0 : Int32)) := Arv.set Ar34 q34 S34 M34 H34 G34 (fits_nar_byte _) W34 4 rfl (Nat.le_of_ble_eq_true rfl)
  have N34 := Fr.snoc X34 N29 g6
  have f35 : n0 ≤ h34.size := Nat.le_trans f30 (Keep.of_wr W34).1
  have f36 : Arv Z h34 a1 kk .byte z0 vs dv := f31.other W34 ne5
  have f37 : Keep h0 h34 [] := f32.wr W34 (Or.inr sz7)
  have pre34 : Go p.tables e below (s₁.setTop (entryFrame m #[(.long q0), (.ref a1)] 4)) T34 (mkF m 53 #[.val (.long q0), .second, .val (.ref a1), .val (.ref b4)] []) := fun t k => pre33 t (st34 _ k)
  have pre38 : Go p.tables e below (s₁.setTop (entryFrame m #[(.long q0), (.ref a1)] 4)) T34 (mkF m 61 #[.val (.long q0), .second, .val (.ref a1), .val (.ref b4)] [(.int ((((q0.toUInt64 >>> ((16 : Int32) &&& 0x3f).toInt64.toUInt64).toInt64).toInt32).toInt8.toInt32)), (.int (5 : Int32)), (.ref b4)]) := fun t k => pre34 t (by
      refine XS.aloadN X34.here hx rfl (hb hby d2_53) rfl rfl ?_
      show Steps p.tables e below (T34.setTop (mkF m 54 #[.val (.long q0), .second, .val (.ref a1), .val (.ref b4)] [(.ref b4)])) _
      refine XS.iconst X34.here hx rfl (hb hby d2_54) ?_
      show Steps p.tables e below (T34.setTop (mkF m 55 #[.val (.long q0), .second, .val (.ref a1), .val (.ref b4)] [(.int (5 : Int32)), (.ref b4)])) _
      refine XS.lloadN X34.here hx rfl (hb hby d2_55) rfl ?_
      show Steps p.tables e below (T34.setTop (mkF m 56 #[.val (.long q0), .second, .val (.ref a1), .val (.ref b4)] [(.long q0), (.int (5 : Int32)), (.ref b4)])) _
      refine XS.bipush X34.here hx rfl (hb hby d2_56) ?_
      show Steps p.tables e below (T34.setTop (mkF m 58 #[.val (.long q0), .second, .val (.ref a1), .val (.ref b4)] [(.int (16 : Int32)), (.long q0), (.int (5 : Int32)), (.ref b4)])) _
      refine XS.lushr X34.here hx rfl (hb hby d2_58) rfl ?_
      show Steps p.tables e below (T34.setTop (mkF m 59 #[.val (.long q0), .second, .val (.ref a1), .val (.ref b4)] [(.long ((q0.toUInt64 >>> ((16 : Int32) &&& 0x3f).toInt64.toUInt64).toInt64)), (.int (5 : Int32)), (.ref b4)])) _
      refine XS.l2i X34.here hx rfl (hb hby d2_59) rfl ?_
      show Steps p.tables e below (T34.setTop (mkF m 60 #[.val (.long q0), .second, .val (.ref a1), .val (.ref b4)] [(.int (((q0.toUInt64 >>> ((16 : Int32) &&& 0x3f).toInt64.toUInt64).toInt64).toInt32)), (.int (5 : Int32)), (.ref b4)])) _
      refine XS.i2b X34.here hx rfl (hb hby d2_60) rfl ?_
      exact k)
  obtain ⟨c39, Ar39, q39, S39, M39, H39, G39⟩ := (id fa34)
  have hin39 : ¬ ((5 : Int32) < 0 ∨ c39.slots.size ≤ ((5 : Int32)).toNatClampNeg) := inb_of S39 ⟨by decide, own_lt8 z0 hz0 hz1 (by decide)⟩
  obtain ⟨T39, h39, X39, e39, W39, st39⟩ := stB X34 hx hZ e34 Ar39 (j := (5 : Int32)) hin39 (g := (mkF m 61 #[.val (.long q0), .second, .val (.ref a1), .val (.ref b4)] [(.int ((((q0.toUInt64 >>> ((16 : Int32) &&& 0x3f).toInt64.toUInt64).toInt64).toInt32).toInt8.toInt32)), (.int (5 : Int32)), (.ref b4)])) rfl rfl (hb hby d2_61)
  have fa39 : Arv Z h39 b4 k4 .byte ((8 : Int32) + z0) [(.int (nar .byte ((((q0.toUInt64 >>> ((56 : Int32) &&& 0x3f).toInt64.toUInt64).toInt64).toInt32).toInt8.toInt32))), (.int (nar .byte ((((q0.toUInt64 >>> ((48 : Int32) &&& 0x3f).toInt64.toUInt64).toInt64).toInt32).toInt8.toInt32))), (.int (nar .byte ((((q0.toUInt64 >>> ((40 : Int32) &&& 0x3f).toInt64.toUInt64).toInt64).toInt32).toInt8.toInt32))), (.int (nar .byte ((((q0.toUInt64 >>> ((32 : Int32) &&& 0x3f).toInt64.toUInt64).toInt64).toInt32).toInt8.toInt32))), (.int (nar .byte ((((q0.toUInt64 >>> ((24 : Int32) &&& 0x3f).toInt64.toUInt64).toInt64).toInt32).toInt8.toInt32))), (.int (nar .byte ((((q0.toUInt64 >>> ((16 : Int32) &&& 0x3f).toInt64.toUInt64).toInt64).toInt32).toInt8.toInt32))), (.int (0 : Int32)), (.int (0 : Int32))] (.int (0 : Int32)) := Arv.set Ar39 q39 S39 M39 H39 G39 (fits_nar_byte _) W39 5 rfl (Nat.le_of_ble_eq_true rfl)
  have N39 := Fr.snoc X39 N34 g6
  have f40 : n0 ≤ h39.size := Nat.le_trans f35 (Keep.of_wr W39).1
  have f41 : Arv Z h39 a1 kk .byte z0 vs dv := f36.other W39 ne5
  have f42 : Keep h0 h39 [] := f37.wr W39 (Or.inr sz7)
  have pre39 : Go p.tables e below (s₁.setTop (entryFrame m #[(.long q0), (.ref a1)] 4)) T39 (mkF m 62 #[.val (.long q0), .second, .val (.ref a1), .val (.ref b4)] []) := fun t k => pre38 t (st39 _ k)
  have pre43 : Go p.tables e below (s₁.setTop (entryFrame m #[(.long q0), (.ref a1)] 4)) T39 (mkF m 71 #[.val (.long q0), .second, .val (.ref a1), .val (.ref b4)] [(.int ((((q0.toUInt64 >>> ((8 : Int32) &&& 0x3f).toInt64.toUInt64).toInt64).toInt32).toInt8.toInt32)), (.int (6 : Int32)), (.ref b4)]) := fun t k => pre39 t (by
      refine XS.aloadN X39.here hx rfl (hb hby d2_62) rfl rfl ?_
      show Steps p.tables e below (T39.setTop (mkF m 63 #[.val (.long q0), .second, .val (.ref a1), .val (.ref b4)] [(.ref b4)])) _
      refine XS.bipush X39.here hx rfl (hb hby d2_63) ?_
      show Steps p.tables e below (T39.setTop (mkF m 65 #[.val (.long q0), .second, .val (.ref a1), .val (.ref b4)] [(.int (6 : Int32)), (.ref b4)])) _
      refine XS.lloadN X39.here hx rfl (hb hby d2_65) rfl ?_
      show Steps p.tables e below (T39.setTop (mkF m 66 #[.val (.long q0), .second, .val (.ref a1), .val (.ref b4)] [(.long q0), (.int (6 : Int32)), (.ref b4)])) _
      refine XS.bipush X39.here hx rfl (hb hby d2_66) ?_
      show Steps p.tables e below (T39.setTop (mkF m 68 #[.val (.long q0), .second, .val (.ref a1), .val (.ref b4)] [(.int (8 : Int32)), (.long q0), (.int (6 : Int32)), (.ref b4)])) _
      refine XS.lushr X39.here hx rfl (hb hby d2_68) rfl ?_
      show Steps p.tables e below (T39.setTop (mkF m 69 #[.val (.long q0), .second, .val (.ref a1), .val (.ref b4)] [(.long ((q0.toUInt64 >>> ((8 : Int32) &&& 0x3f).toInt64.toUInt64).toInt64)), (.int (6 : Int32)), (.ref b4)])) _
      refine XS.l2i X39.here hx rfl (hb hby d2_69) rfl ?_
      show Steps p.tables e below (T39.setTop (mkF m 70 #[.val (.long q0), .second, .val (.ref a1), .val (.ref b4)] [(.int (((q0.toUInt64 >>> ((8 : Int32) &&& 0x3f).toInt64.toUInt64).toInt64).toInt32)), (.int (6 : Int32)), (.ref b4)])) _
      refine XS.i2b X39.here hx rfl (hb hby d2_70) rfl ?_
      exact k)
  obtain ⟨c44, Ar44, q44, S44, M44, H44, G44⟩ := (id fa39)
  have hin44 : ¬ ((6 : Int32) < 0 ∨ c44.slots.size ≤ ((6 : Int32)).toNatClampNeg) := inb_of S44 ⟨by decide, own_lt8 z0 hz0 hz1 (by decide)⟩
  obtain ⟨T44, h44, X44, e44, W44, st44⟩ := stB X39 hx hZ e39 Ar44 (j := (6 : Int32)) hin44 (g := (mkF m 71 #[.val (.long q0), .second, .val (.ref a1), .val (.ref b4)] [(.int ((((q0.toUInt64 >>> ((8 : Int32) &&& 0x3f).toInt64.toUInt64).toInt64).toInt32).toInt8.toInt32)), (.int (6 : Int32)), (.ref b4)])) rfl rfl (hb hby d2_71)
  have fa44 : Arv Z h44 b4 k4 .byte ((8 : Int32) + z0) [(.int (nar .byte ((((q0.toUInt64 >>> ((56 : Int32) &&& 0x3f).toInt64.toUInt64).toInt64).toInt32).toInt8.toInt32))), (.int (nar .byte ((((q0.toUInt64 >>> ((48 : Int32) &&& 0x3f).toInt64.toUInt64).toInt64).toInt32).toInt8.toInt32))), (.int (nar .byte ((((q0.toUInt64 >>> ((40 : Int32) &&& 0x3f).toInt64.toUInt64).toInt64).toInt32).toInt8.toInt32))), (.int (nar .byte ((((q0.toUInt64 >>> ((32 : Int32) &&& 0x3f).toInt64.toUInt64).toInt64).toInt32).toInt8.toInt32))), (.int (nar .byte ((((q0.toUInt64 >>> ((24 : Int32) &&& 0x3f).toInt64.toUInt64).toInt64).toInt32).toInt8.toInt32))), (.int (nar .byte ((((q0.toUInt64 >>> ((16 : Int32) &&& 0x3f).toInt64.toUInt64).toInt64).toInt32).toInt8.toInt32))), (.int (nar .byte ((((q0.toUInt64 >>> ((8 : Int32) &&& 0x3f).toInt64.toUInt64).toInt64).toInt32).toInt8.toInt32))), (.int (0 : Int32))] (.int (0 : Int32)) := Arv.set Ar44 q44 S44 M44 H44 G44 (fits_nar_byte _) W44 6 rfl (Nat.le_of_ble_eq_true rfl)
  have N44 := Fr.snoc X44 N39 g6
  have f45 : n0 ≤ h44.size := Nat.le_trans f40 (Keep.of_wr W44).1
  have f46 : Arv Z h44 a1 kk .byte z0 vs dv := f41.other W44 ne5
  have f47 : Keep h0 h44 [] := f42.wr W44 (Or.inr sz7)
  have pre44 : Go p.tables e below (s₁.setTop (entryFrame m #[(.long q0), (.ref a1)] 4)) T44 (mkF m 72 #[.val (.long q0), .second, .val (.ref a1), .val (.ref b4)] []) := fun t k => pre43 t (st44 _ k)
  have pre48 : Go p.tables e below (s₁.setTop (entryFrame m #[(.long q0), (.ref a1)] 4)) T44 (mkF m 78 #[.val (.long q0), .second, .val (.ref a1), .val (.ref b4)] [(.int ((q0.toInt32).toInt8.toInt32)), (.int (7 : Int32)), (.ref b4)]) := fun t k => pre44 t (by
      refine XS.aloadN X44.here hx rfl (hb hby d2_72) rfl rfl ?_
      show Steps p.tables e below (T44.setTop (mkF m 73 #[.val (.long q0), .second, .val (.ref a1), .val (.ref b4)] [(.ref b4)])) _
      refine XS.bipush X44.here hx rfl (hb hby d2_73) ?_
      show Steps p.tables e below (T44.setTop (mkF m 75 #[.val (.long q0), .second, .val (.ref a1), .val (.ref b4)] [(.int (7 : Int32)), (.ref b4)])) _
      refine XS.lloadN X44.here hx rfl (hb hby d2_75) rfl ?_
      show Steps p.tables e below (T44.setTop (mkF m 76 #[.val (.long q0), .second, .val (.ref a1), .val (.ref b4)] [(.long q0), (.int (7 : Int32)), (.ref b4)])) _
      refine XS.l2i X44.here hx rfl (hb hby d2_76) rfl ?_
      show Steps p.tables e below (T44.setTop (mkF m 77 #[.val (.long q0), .second, .val (.ref a1), .val (.ref b4)] [(.int (q0.toInt32)), (.int (7 : Int32)), (.ref b4)])) _
      refine XS.i2b X44.here hx rfl (hb hby d2_77) rfl ?_
      exact k)
  obtain ⟨c49, Ar49, q49, S49, M49, H49, G49⟩ := (id fa44)
  have hin49 : ¬ ((7 : Int32) < 0 ∨ c49.slots.size ≤ ((7 : Int32)).toNatClampNeg) := inb_of S49 ⟨by decide, own_lt8 z0 hz0 hz1 (by decide)⟩
  obtain ⟨T49, h49, X49, e49, W49, st49⟩ := stB X44 hx hZ e44 Ar49 (j := (7 : Int32)) hin49 (g := (mkF m 78 #[.val (.long q0), .second, .val (.ref a1), .val (.ref b4)] [(.int ((q0.toInt32).toInt8.toInt32)), (.int (7 : Int32)), (.ref b4)])) rfl rfl (hb hby d2_78)
  have fa49 : Arv Z h49 b4 k4 .byte ((8 : Int32) + z0) [(.int (nar .byte ((((q0.toUInt64 >>> ((56 : Int32) &&& 0x3f).toInt64.toUInt64).toInt64).toInt32).toInt8.toInt32))), (.int (nar .byte ((((q0.toUInt64 >>> ((48 : Int32) &&& 0x3f).toInt64.toUInt64).toInt64).toInt32).toInt8.toInt32))), (.int (nar .byte ((((q0.toUInt64 >>> ((40 : Int32) &&& 0x3f).toInt64.toUInt64).toInt64).toInt32).toInt8.toInt32))), (.int (nar .byte ((((q0.toUInt64 >>> ((32 : Int32) &&& 0x3f).toInt64.toUInt64).toInt64).toInt32).toInt8.toInt32))), (.int (nar .byte ((((q0.toUInt64 >>> ((24 : Int32) &&& 0x3f).toInt64.toUInt64).toInt64).toInt32).toInt8.toInt32))), (.int (nar .byte ((((q0.toUInt64 >>> ((16 : Int32) &&& 0x3f).toInt64.toUInt64).toInt64).toInt32).toInt8.toInt32))), (.int (nar .byte ((((q0.toUInt64 >>> ((8 : Int32) &&& 0x3f).toInt64.toUInt64).toInt64).toInt32).toInt8.toInt32))), (.int (nar .byte ((q0.toInt32).toInt8.toInt32)))] (.int (0 : Int32)) := Arv.set Ar49 q49 S49 M49 H49 G49 (fits_nar_byte _) W49 7 rfl (Nat.le_of_ble_eq_true rfl)
  have N49 := Fr.snoc X49 N44 g6
  have f50 : n0 ≤ h49.size := Nat.le_trans f45 (Keep.of_wr W49).1
  have f51 : Arv Z h49 a1 kk .byte z0 vs dv := f46.other W49 ne5
  have f52 : Keep h0 h49 [] := f47.wr W49 (Or.inr sz7)
  have pre49 : Go p.tables e below (s₁.setTop (entryFrame m #[(.long q0), (.ref a1)] 4)) T49 (mkF m 79 #[.val (.long q0), .second, .val (.ref a1), .val (.ref b4)] []) := fun t k => pre48 t (st49 _ k)
  have pre53 : Go p.tables e below (s₁.setTop (entryFrame m #[(.long q0), (.ref a1)] 4)) T49 (mkF m 85 #[.val (.long q0), .second, .val (.ref a1), .val (.ref b4)] [(.ref a1), (.int (8 : Int32)), (.ref b4), (.int (0 : Int32)), (.ref a1)]) := fun t k => pre49 t (by
      refine XS.aloadN X49.here hx rfl (hb hby d2_79) rfl rfl ?_
      show Steps p.tables e below (T49.setTop (mkF m 80 #[.val (.long q0), .second, .val (.ref a1), .val (.ref b4)] [(.ref a1)])) _
      refine XS.iconst X49.here hx rfl (hb hby d2_80) ?_
      show Steps p.tables e below (T49.setTop (mkF m 81 #[.val (.long q0), .second, .val (.ref a1), .val (.ref b4)] [(.int (0 : Int32)), (.ref a1)])) _
      refine XS.aloadN X49.here hx rfl (hb hby d2_81) rfl rfl ?_
      show Steps p.tables e below (T49.setTop (mkF m 82 #[.val (.long q0), .second, .val (.ref a1), .val (.ref b4)] [(.ref b4), (.int (0 : Int32)), (.ref a1)])) _
      refine XS.bipush X49.here hx rfl (hb hby d2_82) ?_
      show Steps p.tables e below (T49.setTop (mkF m 84 #[.val (.long q0), .second, .val (.ref a1), .val (.ref b4)] [(.int (8 : Int32)), (.ref b4), (.int (0 : Int32)), (.ref a1)])) _
      refine XS.aloadN X49.here hx rfl (hb hby d2_84) rfl rfl ?_
      exact k)
  obtain ⟨c54, Ar54, q54, S54, M54, H54, G54⟩ := (id f51)
  have pre54 : Go p.tables e below (s₁.setTop (entryFrame m #[(.long q0), (.ref a1)] 4)) T49 (mkF m 86 #[.val (.long q0), .second, .val (.ref a1), .val (.ref b4)] [(.int z0), (.int (8 : Int32)), (.ref b4), (.int (0 : Int32)), (.ref a1)]) := fun t k => pre53 t (X49.arraylength hx (by rw [e49]; exact Ar54.1) (State.isArrayOf_alike hZ.alike Ar54.2.1) (g := (mkF m 85 #[.val (.long q0), .second, .val (.ref a1), .val (.ref b4)] [(.ref a1), (.int (8 : Int32)), (.ref b4), (.int (0 : Int32)), (.ref a1)])) rfl rfl (hb hby d2_85) _ (by rw [len_of S54 M54]; exact k))
  have fq55 := fa49.pad (pad_rep [(.int (nar .byte ((((q0.toUInt64 >>> ((56 : Int32) &&& 0x3f).toInt64.toUInt64).toInt64).toInt32).toInt8.toInt32))), (.int (nar .byte ((((q0.toUInt64 >>> ((48 : Int32) &&& 0x3f).toInt64.toUInt64).toInt64).toInt32).toInt8.toInt32))), (.int (nar .byte ((((q0.toUInt64 >>> ((40 : Int32) &&& 0x3f).toInt64.toUInt64).toInt64).toInt32).toInt8.toInt32))), (.int (nar .byte ((((q0.toUInt64 >>> ((32 : Int32) &&& 0x3f).toInt64.toUInt64).toInt64).toInt32).toInt8.toInt32))), (.int (nar .byte ((((q0.toUInt64 >>> ((24 : Int32) &&& 0x3f).toInt64.toUInt64).toInt64).toInt32).toInt8.toInt32))), (.int (nar .byte ((((q0.toUInt64 >>> ((16 : Int32) &&& 0x3f).toInt64.toUInt64).toInt64).toInt32).toInt8.toInt32))), (.int (nar .byte ((((q0.toUInt64 >>> ((8 : Int32) &&& 0x3f).toInt64.toUInt64).toInt64).toInt32).toInt8.toInt32))), (.int (nar .byte ((q0.toInt32).toInt8.toInt32)))] (.int (0 : Int32)) 23)
  obtain ⟨T55, h55, L55, X55, e55, N55, K55, V55, st55⟩ := cpA X49 hx hZ hown (hw _ (List.mem_of_getElem? (i := 11) rfl)) (hw _ (List.mem_of_getElem? (i := 14) rfl)) (hw _ (List.mem_of_getElem? (i := 12) rfl)) (hw _ (List.mem_of_getElem? (i := 13) rfl)) e49 f51 fq55 (us := _) (Or.inl ⟨rfl, rfl⟩) (by decide) (by decide) (own_len8 z0 hz0 hz1).2.2.1 (Nat.le_of_eq (Nat.zero_add _)) (own_len8 z0 hz0 hz1).2.2.2.1 rfl (own_len8 z0 hz0 hz1).2.2.2.2 N49 g6 (g := (mkF m 86 #[.val (.long q0), .second, .val (.ref a1), .val (.ref b4)] [(.int z0), (.int (8 : Int32)), (.ref b4), (.int (0 : Int32)), (.ref a1)])) rfl (by rw [hml]; rfl) rfl (hb hby d2_86) (by decide) (W := 0) (by show 2 * 0 + _ ≤ _; exact Nat.le_of_eq rfl) (by decide)
  have f56 : n0 ≤ h55.size := Nat.le_trans f50 K55.1
  have f57 : Arv Z h55 a1 kk .byte z0 vs dv := f51.keep K55 (ninS ne5 nin0)
  have f58 : Keep h0 h55 [] := f52.trans K55 (allS (Or.inr sz7) all0)
  obtain ⟨ws55, Vw55⟩ : ∃ ws, Arv Z h55 b4 k4 .byte ((8 : Int32) + z0) ([(.int (nar .byte ((((q0.toUInt64 >>> ((56 : Int32) &&& 0x3f).toInt64.toUInt64).toInt64).toInt32).toInt8.toInt32))), (.int (nar .byte ((((q0.toUInt64 >>> ((48 : Int32) &&& 0x3f).toInt64.toUInt64).toInt64).toInt32).toInt8.toInt32))), (.int (nar .byte ((((q0.toUInt64 >>> ((40 : Int32) &&& 0x3f).toInt64.toUInt64).toInt64).toInt32).toInt8.toInt32))), (.int (nar .byte ((((q0.toUInt64 >>> ((32 : Int32) &&& 0x3f).toInt64.toUInt64).toInt64).toInt32).toInt8.toInt32))), (.int (nar .byte ((((q0.toUInt64 >>> ((24 : Int32) &&& 0x3f).toInt64.toUInt64).toInt64).toInt32).toInt8.toInt32))), (.int (nar .byte ((((q0.toUInt64 >>> ((16 : Int32) &&& 0x3f).toInt64.toUInt64).toInt64).toInt32).toInt8.toInt32))), (.int (nar .byte ((((q0.toUInt64 >>> ((8 : Int32) &&& 0x3f).toInt64.toUInt64).toInt64).toInt32).toInt8.toInt32))), (.int (nar .byte ((q0.toInt32).toInt8.toInt32)))] ++ ws) (.int (0 : Int32)) := ⟨_, by rw [← List.append_assoc]; exact V55⟩
  have pre55 : Go p.tables e below (s₁.setTop (entryFrame m #[(.long q0), (.ref a1)] 4)) T55 (mkF m 89 #[.val (.long q0), .second, .val (.ref a1), .val (.ref b4)] []) := fun t k => pre54 t (st55 _ k)
  have pre59 : Go p.tables e below (s₁.setTop (entryFrame m #[(.long q0), (.ref a1)] 4)) T55 (mkF m 90 #[.val (.long q0), .second, .val (.ref a1), .val (.ref b4)] [(.ref b4)]) := fun t k => pre55 t (by
      refine XS.aloadN X55.here hx rfl (hb hby d2_89) rfl rfl ?_
      exact k)
  obtain ⟨fs, hr, hrun, hended, hW, hsame⟩ := X55.leave (v := some (.ref b4)) (fun h => by rw [Bd.returns] at h; cases h) (BodyLoose.notSynchronized Bd)
  refine ⟨_, _, pre59 _ ?_, hrun, hended, _, _, rfl, ?_, ⟨_, rfl⟩, hW, hsame.mono (Nat.le_of_ble_eq_true rfl) (Nat.le_of_ble_eq_true rfl)⟩
  · exact retOut X55 hx Bd.returns rfl (Or.inr (Or.inr (Or.inr (Or.inr ⟨rfl, rfl, rfl⟩)))) (hb hby d2_90) hr
  · show Q_pre Z q0 a1 kk z0 vs dv h0 n0 _ T55.heap _
    rw [e55]
    exact ⟨b4, k4, _, rfl, N55, f58, g6, sz7, Vw55⟩
theorem d1_0 : decode prog_19_method_6_code 0 = .ok (.lload_n 0, 1) := by decide +kernel
theorem d1_1 : decode prog_19_method_6_code 1 = .ok (.aload_n 2, 1) := by decide +kernel
theorem d1_2 : decode prog_19_method_6_code 2 = .ok (.invokestatic 58, 3) := by decide +kernel
theorem d1_5 : decode prog_19_method_6_code 5 = .ok (.areturn, 1) := by decide +kernel
theorem pn_stp : plainName "com/example/fence/fence/service/ClaimFormat" = true := by first | (simp [plainName, overriddenIn]; done) | decide +kernel
theorem ef_stp (m : MethodId) (q0 : Int64) (a1 : Addr) : entryFrame m #[(.long q0), (.ref a1)] 3 = mkF m 0 #[.val (.long q0), .second, .val (.ref a1)] [] := by first | (simp [entryFrame, mkF, argsToLocals, Value.category]; done) | rfl
def Q_stp (Z : State) (q0 : Int64) (a1 : Addr) (kk : ClassId) (z0 : Int32) (vs : List Value) (dv : Value) (h0 : Heap) (n0 : Nat) (v : Option Value) (h : Heap) (L : List Loc) : Prop := ∃ b k ws, v = some (.ref b) ∧ Fr n0 L ∧ Keep h0 h [] ∧ n0 ≤ b ∧ h0.size ≤ b ∧ Arv Z h b k .byte ((8 : Int32) + z0) ([(.int (own_b8 (own_sh q0 56))), (.int (own_b8 (own_sh q0 48))), (.int (own_b8 (own_sh q0 40))), (.int (own_b8 (own_sh q0 32))), (.int (own_b8 (own_sh q0 24))), (.int (own_b8 (own_sh q0 16))), (.int (own_b8 (own_sh q0 8))), (.int (own_b8 q0))] ++ ws) (.int (0 : Int32))
set_option maxRecDepth 65536 in
set_option maxHeartbeats 40000000 in
theorem rm_stp (l : Launch) (Z : State) (av0 : Array Value) (hw : ∀ d ∈ tables_1, d.before av0 Z = true) (ws : List Jvm.Cond) (q0 : Int64) (a1 : Addr) (kk : ClassId) (z0 : Int32) (vs : List Value) (dv : Value) (h0 : Heap) (n0 : Nat) (Z0 : n0 ≤ h0.size) (V0 : Arv Z h0 a1 kk .byte z0 vs dv) (hz0 : 0 ≤ z0.toInt) (hz1 : z0.toInt ≤ 23) :
    MetFree l (⟨"com/example/fence/fence/service/ClaimFormat", "stamp", "(J[B)[B"⟩ : MethodName) (head1 (Jvm.Cond.code (⟨"com/example/fence/fence/service/ClaimFormat", "stamp", "(J[B)[B"⟩ : MethodName) prog_19_method_6_code 3 (some (.array .byte)) :: ws) ({ frames := 2, cells := 1, slots := 31, locals := 55 } : Room)) (fun a U => a = #[(.long q0), (.ref a1)] ∧ Z.Warmed39 U.vm ∧ U.heap = h0) (fun _ _ _ _ _ => True) (fun _ U o U' => ∃ v L, o = .returned v ∧ Q_stp Z q0 a1 kk z0 vs dv h0 n0 v U'.heap L ∧ FrameEnd U o U' L ({ frames := 2, cells := 1, slots := 31, locals := 55 } : Room).cells ({ frames := 2, cells := 1, slots := 31, locals := 55 } : Room).slots) := by
  refine MetFree.of_bodySF (plainFor_of_name pn_stp) hisR ?_
  intro p e s m args below meth c s₁ Bd hml0 hP hK
  obtain ⟨rfl, hZ, hh⟩ := hP
  have hx := Bd.exec
  have hby := Bd.bytes
  have hml : c.maxLocals = 3 := hml0
  have hown : s.vm.findClass "com/example/fence/fence/service/ClaimFormat" = some m.cls := findClass_of_methodNamed Bd.named
  have hnm := (name_of_methodNamed Bd.named Bd.method).1
  have X0 : Stand p l e ({ frames := 2, cells := 1, slots := 31, locals := 55 } : Room) s m #[(.long q0), (.ref a1)] below meth c s₁ [] 0 0 := Stand.of_body Bd
  have e0 : s₁.heap = h0 := by rw [← hh, Bd.state]; rfl
  have N0 := Fr.nil n0
  have pre0 : Go p.tables e below (s₁.setTop (entryFrame m #[(.long q0), (.ref a1)] 3)) s₁ (mkF m 0 #[.val (.long q0), .second, .val (.ref a1)] []) := fun t k => castTop (ef_stp m q0 a1) k
  have K0 : Keep h0 h0 [] := Keep.refl _ _
  have pre1 : Go p.tables e below (s₁.setTop (entryFrame m #[(.long q0), (.ref a1)] 3)) s₁ (mkF m 2 #[.val (.long q0), .second, .val (.ref a1)] [(.ref a1), (.long q0)]) := fun t k => pre0 t (by
      refine XS.lloadN X0.here hx rfl (hb hby d1_0) rfl ?_
      show Steps p.tables e below (s₁.setTop (mkF m 1 #[.val (.long q0), .second, .val (.ref a1)] [(.long q0)])) _
      refine XS.aloadN X0.here hx rfl (hb hby d1_1) rfl rfl ?_
      exact k)
  obtain ⟨_, _, ⟨T2, L2, k2, n2⟩, -, X2, ⟨Lc2, hQ2, l2, y2, z2⟩, st2⟩ := Jvm.LawKit.callS X0 hx (y := (⟨"com/example/fence/fence/util/BigEndian", "prefixed", "(J[B)[B"⟩ : MethodName)) hown (mvT hZ (hw _ (List.mem_of_getElem? (i := 7) rfl))) (mvT hZ (hw _ (List.mem_of_getElem? (i := 8) rfl))) (mvT hZ (hw _ (List.mem_of_getElem? (i := 9) rfl))) (mvT hZ (hw _ (List.mem_of_getElem? (i := 10) rfl))) (by decide) (backOf (W := 0) (rm_pre l Z av0 hw [] q0 a1 kk z0 vs dv h0 n0 Z0 V0 hz0 hz1) hZ (hw _ (List.mem_of_getElem? (i := 10) rfl)) (hw _ (List.mem_of_getElem? (i := 9) rfl)) (by decide) (by decide)) (g := (mkF m 2 #[.val (.long q0), .second, .val (.ref a1)] [(.ref a1), (.long q0)])) rfl (by rw [hml]; rfl) (argsL := [(.long q0), (.ref a1)]) (rest := []) (lenOf pd_3 rfl) rfl (by show 2 * 0 + _ ≤ _; exact Nat.le_of_eq rfl) (hb hby d1_2) (fun _ _ => ⟨rfl, e0, (by decide : 0 + 1 ≤ _), (by decide : 0 + 31 ≤ _)⟩)
  dsimp only [Pt.U, Pt.locs, Pt.cells, Pt.slots] at X2 l2 y2 z2 st2 hQ2
  subst l2 y2 z2
  obtain ⟨b2, kc2, ws2, rfl, N2q, K2, gb2, sb2, V2⟩ := hQ2
  have ne3 : a1 ≠ b2 := Nat.ne_of_lt (Nat.lt_of_lt_of_le V0.lt sb2)
  have g4 : n0 ≤ b2 := Nat.le_trans Z0 sb2
  have sz5 : h0.size ≤ b2 := Nat.le_trans K0.1 sb2
  have f6 : n0 ≤ T2.heap.size := Nat.le_trans Z0 K2.1
  have f7 : Arv Z T2.heap a1 kk .byte z0 vs dv := V0.keep K2 nin0
  have f8 : Keep h0 T2.heap [] := K0.trans K2 all0
  have N2 := Fr.app N0 N2q
  have pre2 : Go p.tables e below (s₁.setTop (entryFrame m #[(.long q0), (.ref a1)] 3)) T2 (mkF m 5 #[.val (.long q0), .second, .val (.ref a1)] [(.ref b2)]) := fun t k => pre1 t (st2 _ k)
  obtain ⟨fs, hr, hrun, hended, hW, hsame⟩ := X2.leave (v := some (.ref b2)) (fun h => by rw [Bd.returns] at h; cases h) (BodyLoose.notSynchronized Bd)
  refine ⟨_, _, pre2 _ ?_, hrun, hended, _, _, rfl, ?_, ⟨_, rfl⟩, hW, hsame.mono (Nat.le_of_ble_eq_true rfl) (Nat.le_of_ble_eq_true rfl)⟩
  · exact retOut X2 hx Bd.returns rfl (Or.inr (Or.inr (Or.inr (Or.inr ⟨rfl, rfl, rfl⟩)))) (hb hby d1_5) hr
  · show Q_stp Z q0 a1 kk z0 vs dv h0 n0 _ T2.heap _
    exact ⟨b2, kc2, _, rfl, N2, f8, gb2, sz5, V2⟩
theorem d8_0 : decode prog_10_method_8_code 0 = .ok (.lload_n 0, 1) := by decide +kernel
theorem d8_1 : decode prog_10_method_8_code 1 = .ok (.aload_n 2, 1) := by decide +kernel
theorem d8_2 : decode prog_10_method_8_code 2 = .ok (.invokestatic 23, 3) := by decide +kernel
theorem d8_5 : decode prog_10_method_8_code 5 = .ok (.areturn, 1) := by decide +kernel
theorem pn_num : plainName "com/example/fence/fence/io/KeyColumnStore" = true := by first | (simp [plainName, overriddenIn]; done) | decide +kernel
theorem ef_num (m : MethodId) (q0 : Int64) (a1 : Addr) : entryFrame m #[(.long q0), (.ref a1)] 3 = mkF m 0 #[.val (.long q0), .second, .val (.ref a1)] [] := by first | (simp [entryFrame, mkF, argsToLocals, Value.category]; done) | rfl
def Q_num (Z : State) (q0 : Int64) (a1 : Addr) (kk : ClassId) (z0 : Int32) (vs : List Value) (dv : Value) (h0 : Heap) (n0 : Nat) (v : Option Value) (h : Heap) (L : List Loc) : Prop := ∃ b k ws, v = some (.ref b) ∧ Fr n0 L ∧ Keep h0 h [] ∧ n0 ≤ b ∧ h0.size ≤ b ∧ Arv Z h b k .byte ((8 : Int32) + z0) ([(.int (own_b8 (own_sh q0 56))), (.int (own_b8 (own_sh q0 48))), (.int (own_b8 (own_sh q0 40))), (.int (own_b8 (own_sh q0 32))), (.int (own_b8 (own_sh q0 24))), (.int (own_b8 (own_sh q0 16))), (.int (own_b8 (own_sh q0 8))), (.int (own_b8 q0))] ++ ws) (.int (0 : Int32))
set_option maxRecDepth 65536 in
set_option maxHeartbeats 40000000 in
theorem rm_num (l : Launch) (Z : State) (av0 : Array Value) (hw : ∀ d ∈ tables_1, d.before av0 Z = true) (ws : List Jvm.Cond) (q0 : Int64) (a1 : Addr) (kk : ClassId) (z0 : Int32) (vs : List Value) (dv : Value) (h0 : Heap) (n0 : Nat) (Z0 : n0 ≤ h0.size) (V0 : Arv Z h0 a1 kk .byte z0 vs dv) (hz0 : 0 ≤ z0.toInt) (hz1 : z0.toInt ≤ 23) :
    MetFree l (⟨"com/example/fence/fence/io/KeyColumnStore", "numberedColumn", "(J[B)[B"⟩ : MethodName) (head1 (Jvm.Cond.code (⟨"com/example/fence/fence/io/KeyColumnStore", "numberedColumn", "(J[B)[B"⟩ : MethodName) prog_10_method_8_code 3 (some (.array .byte)) :: ws) ({ frames := 2, cells := 1, slots := 31, locals := 55 } : Room)) (fun a U => a = #[(.long q0), (.ref a1)] ∧ Z.Warmed39 U.vm ∧ U.heap = h0) (fun _ _ _ _ _ => True) (fun _ U o U' => ∃ v L, o = .returned v ∧ Q_num Z q0 a1 kk z0 vs dv h0 n0 v U'.heap L ∧ FrameEnd U o U' L ({ frames := 2, cells := 1, slots := 31, locals := 55 } : Room).cells ({ frames := 2, cells := 1, slots := 31, locals := 55 } : Room).slots) := by
  refine MetFree.of_bodySF (plainFor_of_name pn_num) hisR ?_
  intro p e s m args below meth c s₁ Bd hml0 hP hK
  obtain ⟨rfl, hZ, hh⟩ := hP
  have hx := Bd.exec
  have hby := Bd.bytes
  have hml : c.maxLocals = 3 := hml0
  have hown : s.vm.findClass "com/example/fence/fence/io/KeyColumnStore" = some m.cls := findClass_of_methodNamed Bd.named
  have hnm := (name_of_methodNamed Bd.named Bd.method).1
  have X0 : Stand p l e ({ frames := 2, cells := 1, slots := 31, locals := 55 } : Room) s m #[(.long q0), (.ref a1)] below meth c s₁ [] 0 0 := Stand.of_body Bd
  have e0 : s₁.heap = h0 := by rw [← hh, Bd.state]; rfl
  have N0 := Fr.nil n0
  have pre0 : Go p.tables e below (s₁.setTop (entryFrame m #[(.long q0), (.ref a1)] 3)) s₁ (mkF m 0 #[.val (.long q0), .second, .val (.ref a1)] []) := fun t k => castTop (ef_num m q0 a1) k
  have K0 : Keep h0 h0 [] := Keep.refl _ _
  have pre1 : Go p.tables e below (s₁.setTop (entryFrame m #[(.long q0), (.ref a1)] 3)) s₁ (mkF m 2 #[.val (.long q0), .second, .val (.ref a1)] [(.ref a1), (.long q0)]) := fun t k => pre0 t (by
      refine XS.lloadN X0.here hx rfl (hb hby d8_0) rfl ?_
      show Steps p.tables e below (s₁.setTop (mkF m 1 #[.val (.long q0), .second, .val (.ref a1)] [(.long q0)])) _
      refine XS.aloadN X0.here hx rfl (hb hby d8_1) rfl rfl ?_
      exact k)
  obtain ⟨_, _, ⟨T2, L2, k2, n2⟩, -, X2, ⟨Lc2, hQ2, l2, y2, z2⟩, st2⟩ := Jvm.LawKit.callS X0 hx (y := (⟨"com/example/fence/fence/util/BigEndian", "prefixed", "(J[B)[B"⟩ : MethodName)) hown (mvT hZ (hw _ (List.mem_of_getElem? (i := 46) rfl))) (mvT hZ (hw _ (List.mem_of_getElem? (i := 8) rfl))) (mvT hZ (hw _ (List.mem_of_getElem? (i := 9) rfl))) (mvT hZ (hw _ (List.mem_of_getElem? (i := 10) rfl))) (by decide) (backOf (W := 0) (rm_pre l Z av0 hw [] q0 a1 kk z0 vs dv h0 n0 Z0 V0 hz0 hz1) hZ (hw _ (List.mem_of_getElem? (i := 10) rfl)) (hw _ (List.mem_of_getElem? (i := 9) rfl)) (by decide) (by decide)) (g := (mkF m 2 #[.val (.long q0), .second, .val (.ref a1)] [(.ref a1), (.long q0)])) rfl (by rw [hml]; rfl) (argsL := [(.long q0), (.ref a1)]) (rest := []) (lenOf pd_3 rfl) rfl (by show 2 * 0 + _ ≤ _; exact Nat.le_of_eq rfl) (hb hby d8_2) (fun _ _ => ⟨rfl, e0, (by decide : 0 + 1 ≤ _), (by decide : 0 + 31 ≤ _)⟩)
  dsimp only [Pt.U, Pt.locs, Pt.cells, Pt.slots] at X2 l2 y2 z2 st2 hQ2
  subst l2 y2 z2
  obtain ⟨b2, kc2, ws2, rfl, N2q, K2, gb2, sb2, V2⟩ := hQ2
  have ne3 : a1 ≠ b2 := Nat.ne_of_lt (Nat.lt_of_lt_of_le V0.lt sb2)
  have g4 : n0 ≤ b2 := Nat.le_trans Z0 sb2
  have sz5 : h0.size ≤ b2 := Nat.le_trans K0.1 sb2
  have f6 : n0 ≤ T2.heap.size := Nat.le_trans Z0 K2.1
  have f7 : Arv Z T2.heap a1 kk .byte z0 vs dv := V0.keep K2 nin0
  have f8 : Keep h0 T2.heap [] := K0.trans K2 all0
  have N2 := Fr.app N0 N2q
  have pre2 : Go p.tables e below (s₁.setTop (entryFrame m #[(.long q0), (.ref a1)] 3)) T2 (mkF m 5 #[.val (.long q0), .second, .val (.ref a1)] [(.ref b2)]) := fun t k => pre1 t (st2 _ k)
  obtain ⟨fs, hr, hrun, hended, hW, hsame⟩ := X2.leave (v := some (.ref b2)) (fun h => by rw [Bd.returns] at h; cases h) (BodyLoose.notSynchronized Bd)
  refine ⟨_, _, pre2 _ ?_, hrun, hended, _, _, rfl, ?_, ⟨_, rfl⟩, hW, hsame.mono (Nat.le_of_ble_eq_true rfl) (Nat.le_of_ble_eq_true rfl)⟩
  · exact retOut X2 hx Bd.returns rfl (Or.inr (Or.inr (Or.inr (Or.inr ⟨rfl, rfl, rfl⟩)))) (hb hby d8_5) hr
  · show Q_num Z q0 a1 kk z0 vs dv h0 n0 _ T2.heap _
    exact ⟨b2, kc2, _, rfl, N2, f8, gb2, sz5, V2⟩
theorem d7_0 : decode prog_19_method_13_code 0 = .ok (.aload_n 0, 1) := by decide +kernel
theorem d7_1 : decode prog_19_method_13_code 1 = .ok (.getstatic 5, 3) := by decide +kernel
theorem d7_4 : decode prog_19_method_13_code 4 = .ok (.if_acmp .ne 11, 3) := by decide +kernel
theorem d7_7 : decode prog_19_method_13_code 7 = .ok (.lload_n 1, 1) := by decide +kernel
theorem d7_8 : decode prog_19_method_13_code 8 = .ok (.ldc2_w 52, 3) := by decide +kernel
theorem d7_11 : decode prog_19_method_13_code 11 = .ok (.lcmp, 1) := by decide +kernel
theorem d7_12 : decode prog_19_method_13_code 12 = .ok (.ifCond .lt 7, 3) := by decide +kernel
theorem d7_15 : decode prog_19_method_13_code 15 = .ok (.iconst 1, 1) := by decide +kernel
theorem d7_16 : decode prog_19_method_13_code 16 = .ok (.goto 4, 3) := by decide +kernel
theorem d7_19 : decode prog_19_method_13_code 19 = .ok (.iconst 0, 1) := by decide +kernel
theorem d7_20 : decode prog_19_method_13_code 20 = .ok (.ireturn, 1) := by decide +kernel
theorem pn_car : plainName "com/example/fence/fence/service/ClaimFormat" = true := by first | (simp [plainName, overriddenIn]; done) | decide +kernel
theorem ef_car (m : MethodId) (a0 : Addr) (q1 : Int64) : entryFrame m #[(.ref a0), (.long q1)] 3 = mkF m 0 #[.val (.ref a0), .val (.long q1), .second] [] := by first | (simp [entryFrame, mkF, argsToLocals, Value.category]; done) | rfl
def Q_car (Z : State) (a0 : Addr) (q1 : Int64) (r_TIMESTAMPED : Addr) (h0 : Heap) (n0 : Nat) (v : Option Value) (h : Heap) (L : List Loc) : Prop := v = some (.int (own_car a0 r_TIMESTAMPED q1)) ∧ Fr n0 L ∧ h = h0
set_option maxRecDepth 65536 in
set_option maxHeartbeats 40000000 in
theorem rm_car (l : Launch) (Z : State) (av0 : Array Value) (hw : ∀ d ∈ tables_1, d.before av0 Z = true) (ws : List Jvm.Cond) (a0 : Addr) (q1 : Int64) (r_TIMESTAMPED : Addr) (h0 : Heap) (n0 : Nat) (S_TIMESTAMPED : Sta Z h0 "com/example/fence/fence/service/ClaimFormat" "TIMESTAMPED" "Lcom/example/fence/fence/service/ClaimFormat;" (.ref r_TIMESTAMPED)) :
    MetFree l (⟨"com/example/fence/fence/service/ClaimFormat", "carries", "(J)Z"⟩ : MethodName) (head1 (Jvm.Cond.code (⟨"com/example/fence/fence/service/ClaimFormat", "carries", "(J)Z"⟩ : MethodName) prog_19_method_13_code 3 (some .boolean) :: ws) ({ frames := 0, cells := 0, slots := 0, locals := 0 } : Room)) (fun a U => a = #[(.ref a0), (.long q1)] ∧ Z.Warmed39 U.vm ∧ U.heap = h0) (fun _ _ _ _ _ => True) (fun _ U o U' => ∃ v L, o = .returned v ∧ Q_car Z a0 q1 r_TIMESTAMPED h0 n0 v U'.heap L ∧ FrameEnd U o U' L ({ frames := 0, cells := 0, slots := 0, locals := 0 } : Room).cells ({ frames := 0, cells := 0, slots := 0, locals := 0 } : Room).slots) := by
  refine MetFree.of_bodySF (plainFor_of_name pn_car) hisR ?_
  intro p e s m args below meth c s₁ Bd hml0 hP hK
  obtain ⟨rfl, hZ, hh⟩ := hP
  have hx := Bd.exec
  have hby := Bd.bytes
  have hml : c.maxLocals = 3 := hml0
  have hown : s.vm.findClass "com/example/fence/fence/service/ClaimFormat" = some m.cls := findClass_of_methodNamed Bd.named
  have hnm := (name_of_methodNamed Bd.named Bd.method).1
  have X0 : Stand p l e ({ frames := 0, cells := 0, slots := 0, locals := 0 } : Room) s m #[(.ref a0), (.long q1)] below meth c s₁ [] 0 0 := Stand.of_body Bd
  have e0 : s₁.heap = h0 := by rw [← hh, Bd.state]; rfl
  have N0 := Fr.nil n0
  have pre0 : Go p.tables e below (s₁.setTop (entryFrame m #[(.ref a0), (.long q1)] 3)) s₁ (mkF m 0 #[.val (.ref a0), .val (.long q1), .second] []) := fun t k => castTop (ef_car m a0 q1) k
  have pre1 : Go p.tables e below (s₁.setTop (entryFrame m #[(.ref a0), (.long q1)] 3)) s₁ (mkF m 1 #[.val (.ref a0), .val (.long q1), .second] [(.ref a0)]) := fun t k => pre0 t (by
      refine XS.aloadN X0.here hx rfl (hb hby d7_0) rfl rfl ?_
      exact k)
  obtain ⟨T2, X2, e2, st2⟩ := getS2 X0 hx hZ hown (host := "") (Or.inl (hw _ (List.mem_of_getElem? (i := 40) rfl))) Via.refl e0 S_TIMESTAMPED (g := (mkF m 1 #[.val (.ref a0), .val (.long q1), .second] [(.ref a0)])) rfl (hb hby d7_1)
  have pre2 : Go p.tables e below (s₁.setTop (entryFrame m #[(.ref a0), (.long q1)] 3)) T2 (mkF m 4 #[.val (.ref a0), .val (.long q1), .second] [(.ref r_TIMESTAMPED), (.ref a0)]) := fun t k => pre1 t (st2 _ k)
  by_cases hc3 : a0 = r_TIMESTAMPED
  · -- hc3: True
    have pre4 : Go p.tables e below (s₁.setTop (entryFrame m #[(.ref a0), (.long q1)] 3)) T2 (mkF m 12 #[.val (.ref a0), .val (.long q1), .second] [(.int (lcmpW q1 (946684800000000000 : Int64)))]) := fun t k => pre2 t (by
        refine Jvm.RoadKit.acmp (g := (mkF m 4 #[.val (.ref a0), .val (.long q1), .second] [(.ref r_TIMESTAMPED), (.ref a0)])) X2 hx rfl rfl rfl (pc0 := 4) (pc' := 7) (same := true) rfl (hb hby d7_4) rfl (decide_eq_true (congrArg Value.ref hc3)) (by decide) (by decide) ?_
        show Steps p.tables e below (T2.setTop (mkF m 7 #[.val (.ref a0), .val (.long q1), .second] [])) _
        refine XS.lloadN X2.here hx rfl (hb hby d7_7) rfl ?_
        show Steps p.tables e below (T2.setTop (mkF m 8 #[.val (.ref a0), .val (.long q1), .second] [(.long q1)])) _
        refine X2.ldc2Long hx hown (mvT hZ (hw _ (List.mem_of_getElem? (i := 26) rfl))) (g := (mkF m 8 #[.val (.ref a0), .val (.long q1), .second] [(.long q1)])) rfl (hb hby d7_8) _ ?_
        show Steps p.tables e below (T2.setTop (mkF m 11 #[.val (.ref a0), .val (.long q1), .second] [(.long (946684800000000000 : Int64)), (.long q1)])) _
        refine XS.lcmp X2.here hx rfl (hb hby d7_11) rfl ?_
        exact k)
    by_cases hc5 : q1 < (946684800000000000 : Int64)
    · -- hc5: True
      have pre6 : Go p.tables e below (s₁.setTop (entryFrame m #[(.ref a0), (.long q1)] 3)) T2 (mkF m 20 #[.val (.ref a0), .val (.long q1), .second] [(.int (0 : Int32))]) := fun t k => pre4 t (by
          refine XS.ifYes X2.here hx rfl (pc0 := 12) (pc' := 19) rfl (hb hby d7_12) rfl ((if0 _ _).trans (tlt ((lw_lt _ _).mpr hc5)).1) (by decide) (by decide) ?_
          show Steps p.tables e below (T2.setTop (mkF m 19 #[.val (.ref a0), .val (.long q1), .second] [])) _
          refine XS.iconst X2.here hx rfl (hb hby d7_19) ?_
          exact k)
      obtain ⟨fs, hr, hrun, hended, hW, hsame⟩ := X2.leave (v := some (.int (0 : Int32))) (fun h => by rw [Bd.returns] at h; cases h) (BodyLoose.notSynchronized Bd)
      refine ⟨_, _, pre6 _ ?_, hrun, hended, _, _, rfl, ?_, ⟨_, rfl⟩, hW, hsame.mono (Nat.le_of_ble_eq_true rfl) (Nat.le_of_ble_eq_true rfl)⟩
      · exact retN X2 hx (t := .boolean) Bd.returns (by simp) (hb hby d7_20) hr
      · show Q_car Z a0 q1 r_TIMESTAMPED h0 n0 _ T2.heap _
        rw [e2]
        exact ⟨by simp [own_car, hc3, hc5], N0, rfl⟩
    · -- hc5: False
      have pre7 : Go p.tables e below (s₁.setTop (entryFrame m #[(.ref a0), (.long q1)] 3)) T2 (mkF m 20 #[.val (.ref a0), .val (.long q1), .second] [(.int (1 : Int32))]) := fun t k => pre4 t (by
          refine XS.ifNo X2.here hx rfl (hb hby d7_12) rfl ((if0 _ _).trans (flt (mt (lw_lt _ _).mp hc5)).1) ?_
          show Steps p.tables e below (T2.setTop (mkF m 15 #[.val (.ref a0), .val (.long q1), .second] [])) _
          refine XS.iconst X2.here hx rfl (hb hby d7_15) ?_
          show Steps p.tables e below (T2.setTop (mkF m 16 #[.val (.ref a0), .val (.long q1), .second] [(.int (1 : Int32))])) _
          refine XS.goto X2.here hx rfl (pc0 := 16) (pc' := 20) rfl (hb hby d7_16) (by decide) (by decide) ?_
          exact k)
      obtain ⟨fs, hr, hrun, hended, hW, hsame⟩ := X2.leave (v := some (.int (1 : Int32))) (fun h => by rw [Bd.returns] at h; cases h) (BodyLoose.notSynchronized Bd)
      refine ⟨_, _, pre7 _ ?_, hrun, hended, _, _, rfl, ?_, ⟨_, rfl⟩, hW, hsame.mono (Nat.le_of_ble_eq_true rfl) (Nat.le_of_ble_eq_true rfl)⟩
      · exact retN X2 hx (t := .boolean) Bd.returns (by simp) (hb hby d7_20) hr
      · show Q_car Z a0 q1 r_TIMESTAMPED h0 n0 _ T2.heap _
        rw [e2]
        exact ⟨by simp [own_car, hc3, hc5], N0, rfl⟩
  · -- hc3: False
    have pre8 : Go p.tables e below (s₁.setTop (entryFrame m #[(.ref a0), (.long q1)] 3)) T2 (mkF m 20 #[.val (.ref a0), .val (.long q1), .second] [(.int (1 : Int32))]) := fun t k => pre2 t (by
        refine Jvm.RoadKit.acmp (g := (mkF m 4 #[.val (.ref a0), .val (.long q1), .second] [(.ref r_TIMESTAMPED), (.ref a0)])) X2 hx rfl rfl rfl (pc0 := 4) (pc' := 15) (same := false) rfl (hb hby d7_4) rfl (decide_eq_false fun q => hc3 (Value.ref.inj q)) (by decide) (by decide) ?_
        show Steps p.tables e below (T2.setTop (mkF m 15 #[.val (.ref a0), .val (.long q1), .second] [])) _
        refine XS.iconst X2.here hx rfl (hb hby d7_15) ?_
        show Steps p.tables e below (T2.setTop (mkF m 16 #[.val (.ref a0), .val (.long q1), .second] [(.int (1 : Int32))])) _
        refine XS.goto X2.here hx rfl (pc0 := 16) (pc' := 20) rfl (hb hby d7_16) (by decide) (by decide) ?_
        exact k)
    obtain ⟨fs, hr, hrun, hended, hW, hsame⟩ := X2.leave (v := some (.int (1 : Int32))) (fun h => by rw [Bd.returns] at h; cases h) (BodyLoose.notSynchronized Bd)
    refine ⟨_, _, pre8 _ ?_, hrun, hended, _, _, rfl, ?_, ⟨_, rfl⟩, hW, hsame.mono (Nat.le_of_ble_eq_true rfl) (Nat.le_of_ble_eq_true rfl)⟩
    · exact retN X2 hx (t := .boolean) Bd.returns (by simp) (hb hby d7_20) hr
    · show Q_car Z a0 q1 r_TIMESTAMPED h0 n0 _ T2.heap _
      rw [e2]
      exact ⟨by simp [own_car, hc3], N0, rfl⟩
theorem pn_law : plainName "com/example/fence/fence/service/ClaimFormatCarriesPinLaw" = true := by first | (simp [plainName, overriddenIn]; done) | decide +kernel
theorem ef_law (m : MethodId) (x0 : Int64) (x1 : Int64) (x2 : Int32) : entryFrame m #[(.long x0), (.long x1), (.int x2)] maxLocals = mkF m 0 #[.val (.long x0), .second, .val (.long x1), .second, .val (.int x2), .unset, .unset, .unset, .unset, .unset, .unset, .unset, .unset] [] := by first | (simp [entryFrame, mkF, argsToLocals, Value.category, maxLocals]; done) | rfl
def Q_law (Z : State) (x0 : Int64) (x1 : Int64) (x2 : Int32) (r_TIMESTAMPED : Addr) (r_NUMBERED : Addr) (h0 : Heap) (n0 : Nat) (v : Option Value) (h : Heap) (L : List Loc) : Prop := v = some (.int 1) ∧ Fr n0 L
set_option maxRecDepth 65536 in
set_option maxHeartbeats 40000000 in
theorem rm_law (l : Launch) (Z : State) (av0 : Array Value) (hw : ∀ d ∈ tables_1, d.before av0 Z = true) (ws : List Jvm.Cond) (x0 : Int64) (x1 : Int64) (x2 : Int32) (r_TIMESTAMPED : Addr) (r_NUMBERED : Addr) (h0 : Heap) (n0 : Nat) (Z0 : n0 ≤ h0.size) (O0 : Old Z n0 h0) (S_TIMESTAMPED : Sta Z Z.heap "com/example/fence/fence/service/ClaimFormat" "TIMESTAMPED" "Lcom/example/fence/fence/service/ClaimFormat;" (.ref r_TIMESTAMPED)) (S_NUMBERED : Sta Z Z.heap "com/example/fence/fence/service/ClaimFormat" "NUMBERED" "Lcom/example/fence/fence/service/ClaimFormat;" (.ref r_NUMBERED)) (E_TIMESTAMPED : Exa Z Z.heap r_TIMESTAMPED "com/example/fence/fence/service/ClaimFormat$1") (E_NUMBERED : Exa Z Z.heap r_NUMBERED "com/example/fence/fence/service/ClaimFormat$2") (F_TIMESTAMPED : Fld Z Z.heap r_TIMESTAMPED "com/example/fence/fence/service/ClaimFormat" "stampAt" "I" (.int (0 : Int32))) (F_NUMBERED : Fld Z Z.heap r_NUMBERED "com/example/fence/fence/service/ClaimFormat" "stampAt" "I" (.int (8 : Int32))) :
    MetFree l x (head1 (Jvm.Cond.code x code maxLocals ret :: ws) room_1) (fun a U => a = #[(.long x0), (.long x1), (.int x2)] ∧ Z.Warmed39 U.vm ∧ U.heap = h0) (fun _ _ _ _ _ => True) (fun _ U o U' => ∃ v L, o = .returned v ∧ Q_law Z x0 x1 x2 r_TIMESTAMPED r_NUMBERED h0 n0 v U'.heap L ∧ FrameEnd U o U' L room_1.cells room_1.slots) := by
  refine MetFree.of_bodySF (plainFor_of_name pn_law) hisR ?_
  intro p e s m args below meth c s₁ Bd hml0 hP hK
  obtain ⟨rfl, hZ, hh⟩ := hP
  have hx := Bd.exec
  have hby := Bd.bytes
  have hml : c.maxLocals = 13 := hml0
  have hown : s.vm.findClass "com/example/fence/fence/service/ClaimFormatCarriesPinLaw" = some m.cls := findClass_of_methodNamed Bd.named
  have hnm := (name_of_methodNamed Bd.named Bd.method).1
  have X0 : Stand p l e room_1 s m #[(.long x0), (.long x1), (.int x2)] below meth c s₁ [] 0 0 := Stand.of_body Bd
  have e0 : s₁.heap = h0 := by rw [← hh, Bd.state]; rfl
  have N0 := Fr.nil n0
  have pre0 : Go p.tables e below (s₁.setTop (entryFrame m #[(.long x0), (.long x1), (.int x2)] maxLocals)) s₁ (mkF m 0 #[.val (.long x0), .second, .val (.long x1), .second, .val (.int x2), .unset, .unset, .unset, .unset, .unset, .unset, .unset, .unset] []) := fun t k => castTop (ef_law m x0 x1 x2) k
  have pre1 : Go p.tables e below (s₁.setTop (entryFrame m #[(.long x0), (.long x1), (.int x2)] maxLocals)) s₁ (mkF m 4 #[.val (.long x0), .second, .val (.long x1), .second, .val (.int x2), .unset, .unset, .unset, .unset, .unset, .unset, .unset, .unset] [(.int (x2 &&& (1 : Int32)))]) := fun t k => pre0 t (by
      refine XS.iload X0.here hx rfl (hb hby at_0) rfl ?_
      show Steps p.tables e below (s₁.setTop (mkF m 2 #[.val (.long x0), .second, .val (.long x1), .second, .val (.int x2), .unset, .unset, .unset, .unset, .unset, .unset, .unset, .unset] [(.int x2)])) _
      refine XS.iconst X0.here hx rfl (hb hby at_2) ?_
      show Steps p.tables e below (s₁.setTop (mkF m 3 #[.val (.long x0), .second, .val (.long x1), .second, .val (.int x2), .unset, .unset, .unset, .unset, .unset, .unset, .unset, .unset] [(.int (1 : Int32)), (.int x2)])) _
      refine XS.iand X0.here hx rfl (hb hby at_3) rfl ?_
      exact k)
  by_cases hc2 : (x2 &&& (1 : Int32)) = (0 : Int32)
  · -- hc2: True
    have pre3 : Go p.tables e below (s₁.setTop (entryFrame m #[(.long x0), (.long x1), (.int x2)] maxLocals)) s₁ (mkF m 25 #[.val (.long x0), .second, .val (.long x1), .second, .val (.int x2), .val (.int (0 : Int32)), .unset, .unset, .unset, .unset, .unset, .unset, .unset] []) := fun t k => pre1 t (by
        refine XS.ifYes X0.here hx rfl (pc0 := 4) (pc' := 11) rfl (hb hby at_4) rfl ((if0 _ _).trans (teq hc2).1) (by decide) (by decide) ?_
        show Steps p.tables e below (s₁.setTop (mkF m 11 #[.val (.long x0), .second, .val (.long x1), .second, .val (.int x2), .unset, .unset, .unset, .unset, .unset, .unset, .unset, .unset] [])) _
        refine XS.iconst X0.here hx rfl (hb hby at_11) ?_
        show Steps p.tables e below (s₁.setTop (mkF m 12 #[.val (.long x0), .second, .val (.long x1), .second, .val (.int x2), .unset, .unset, .unset, .unset, .unset, .unset, .unset, .unset] [(.int (0 : Int32))])) _
        refine XS.istore X0.here hx rfl (hb hby at_12) rfl (l' := #[.val (.long x0), .second, .val (.long x1), .second, .val (.int x2), .val (.int (0 : Int32)), .unset, .unset, .unset, .unset, .unset, .unset, .unset]) rfl ?_
        show Steps p.tables e below (s₁.setTop (mkF m 14 #[.val (.long x0), .second, .val (.long x1), .second, .val (.int x2), .val (.int (0 : Int32)), .unset, .unset, .unset, .unset, .unset, .unset, .unset] [])) _
        refine XS.iload X0.here hx rfl (hb hby at_14) rfl ?_
        show Steps p.tables e below (s₁.setTop (mkF m 16 #[.val (.long x0), .second, .val (.long x1), .second, .val (.int x2), .val (.int (0 : Int32)), .unset, .unset, .unset, .unset, .unset, .unset, .unset] [(.int (0 : Int32))])) _
        refine XS.ifYes X0.here hx rfl (pc0 := 16) (pc' := 25) rfl (hb hby at_16) rfl ((if0 _ _).trans (teq (by decide)).1) (by decide) (by decide) ?_
        exact k)
    obtain ⟨T4, X4, e4, st4⟩ := getS2 X0 hx hZ hown (host := "") (Or.inl (hw _ (List.mem_of_getElem? (i := 0) rfl))) Via.refl e0 (S_TIMESTAMPED.ext O0.2) (g := (mkF m 25 #[.val (.long x0), .second, .val (.long x1), .second, .val (.int x2), .val (.int (0 : Int32)), .unset, .unset, .unset, .unset, .unset, .unset, .unset] [])) rfl (hb hby at_25)
    have pre4 : Go p.tables e below (s₁.setTop (entryFrame m #[(.long x0), (.long x1), (.int x2)] maxLocals)) T4 (mkF m 28 #[.val (.long x0), .second, .val (.long x1), .second, .val (.int x2), .val (.int (0 : Int32)), .unset, .unset, .unset, .unset, .unset, .unset, .unset] [(.ref r_TIMESTAMPED)]) := fun t k => pre3 t (st4 _ k)
    have pre5 : Go p.tables e below (s₁.setTop (entryFrame m #[(.long x0), (.long x1), (.int x2)] maxLocals)) T4 (mkF m 37 #[.val (.long x0), .second, .val (.long x1), .second, .val (.int x2), .val (.int (0 : Int32)), .val (.ref r_TIMESTAMPED), .unset, .unset, .unset, .unset, .unset, .unset] [(.int (((x2.toUInt32 >>> ((1 : Int32) &&& 31).toUInt32).toInt32) &&& (15 : Int32)))]) := fun t k => pre4 t (by
        refine XS.astore X4.here hx rfl (hb hby at_28) rfl rfl (l' := #[.val (.long x0), .second, .val (.long x1), .second, .val (.int x2), .val (.int (0 : Int32)), .val (.ref r_TIMESTAMPED), .unset, .unset, .unset, .unset, .unset, .unset]) rfl ?_
        show Steps p.tables e below (T4.setTop (mkF m 30 #[.val (.long x0), .second, .val (.long x1), .second, .val (.int x2), .val (.int (0 : Int32)), .val (.ref r_TIMESTAMPED), .unset, .unset, .unset, .unset, .unset, .unset] [])) _
        refine XS.iload X4.here hx rfl (hb hby at_30) rfl ?_
        show Steps p.tables e below (T4.setTop (mkF m 32 #[.val (.long x0), .second, .val (.long x1), .second, .val (.int x2), .val (.int (0 : Int32)), .val (.ref r_TIMESTAMPED), .unset, .unset, .unset, .unset, .unset, .unset] [(.int x2)])) _
        refine XS.iconst X4.here hx rfl (hb hby at_32) ?_
        show Steps p.tables e below (T4.setTop (mkF m 33 #[.val (.long x0), .second, .val (.long x1), .second, .val (.int x2), .val (.int (0 : Int32)), .val (.ref r_TIMESTAMPED), .unset, .unset, .unset, .unset, .unset, .unset] [(.int (1 : Int32)), (.int x2)])) _
        refine XS.iushr X4.here hx rfl (hb hby at_33) rfl ?_
        show Steps p.tables e below (T4.setTop (mkF m 34 #[.val (.long x0), .second, .val (.long x1), .second, .val (.int x2), .val (.int (0 : Int32)), .val (.ref r_TIMESTAMPED), .unset, .unset, .unset, .unset, .unset, .unset] [(.int ((x2.toUInt32 >>> ((1 : Int32) &&& 31).toUInt32).toInt32))])) _
        refine XS.bipush X4.here hx rfl (hb hby at_34) ?_
        show Steps p.tables e below (T4.setTop (mkF m 36 #[.val (.long x0), .second, .val (.long x1), .second, .val (.int x2), .val (.int (0 : Int32)), .val (.ref r_TIMESTAMPED), .unset, .unset, .unset, .unset, .unset, .unset] [(.int (15 : Int32)), (.int ((x2.toUInt32 >>> ((1 : Int32) &&& 31).toUInt32).toInt32))])) _
        refine XS.iand X4.here hx rfl (hb hby at_36) rfl ?_
        exact k)
    obtain ⟨zr, hzr⟩ : ∃ z : Int32, z = (((x2.toUInt32 >>> ((1 : Int32) &&& 31).toUInt32).toInt32) &&& (15 : Int32)) := ⟨_, rfl⟩
    rw [← hzr] at pre5
    obtain ⟨hz0, hz1⟩ := own_and15 hzr
    obtain ⟨T6, h6, k6, X6, e6, E6, A6, st6⟩ := newP X4 hx hZ (hw _ (List.mem_of_getElem? (i := 3) rfl)) e4 (g := (mkF m 37 #[.val (.long x0), .second, .val (.long x1), .second, .val (.int x2), .val (.int (0 : Int32)), .val (.ref r_TIMESTAMPED), .unset, .unset, .unset, .unset, .unset, .unset] [(.int zr)])) rfl (hb hby at_37) rfl (own_le15 zr hz0 hz1).1 (cap := 15) (own_le15 zr hz0 hz1).2 (by decide) (by decide) (by decide)
    obtain ⟨b6, ga6⟩ : ∃ z, z = h0.size := ⟨_, rfl⟩
    rw [← ga6] at A6 st6
    have g7 : n0 ≤ b6 := Nat.le_trans Z0 (Nat.le_of_eq ga6.symm)
    have f8 : n0 ≤ h6.size := Nat.le_trans Z0 E6.1
    have f9 : Old Z n0 h6 := O0.ext E6
    have f10 : Arv Z h6 b6 k6 .byte zr [] (.int (0 : Int32)) := Arv.new A6 (own_le15 zr hz0 hz1).1
    have pre6 : Go p.tables e below (s₁.setTop (entryFrame m #[(.long x0), (.long x1), (.int x2)] maxLocals)) T6 (mkF m 39 #[.val (.long x0), .second, .val (.long x1), .second, .val (.int x2), .val (.int (0 : Int32)), .val (.ref r_TIMESTAMPED), .unset, .unset, .unset, .unset, .unset, .unset] [(.ref b6)]) := fun t k => pre5 t (st6 _ k)
    have fp11 : Arv Z h6 b6 k6 .byte zr [(.int (0 : Int32))] (.int (0 : Int32)) := f10.pad (pad_rep [] (.int (0 : Int32)) 1)
    have pre12 : Go p.tables e below (s₁.setTop (entryFrame m #[(.long x0), (.long x1), (.int x2)] maxLocals)) T6 (mkF m 43 #[.val (.long x0), .second, .val (.long x1), .second, .val (.int x2), .val (.int (0 : Int32)), .val (.ref r_TIMESTAMPED), .val (.ref b6), .unset, .unset, .unset, .unset, .unset] [(.ref b6)]) := fun t k => pre6 t (by
        refine XS.astore X6.here hx rfl (hb hby at_39) rfl rfl (l' := #[.val (.long x0), .second, .val (.long x1), .second, .val (.int x2), .val (.int (0 : Int32)), .val (.ref r_TIMESTAMPED), .val (.ref b6), .unset, .unset, .unset, .unset, .unset]) rfl ?_
        show Steps p.tables e below (T6.setTop (mkF m 41 #[.val (.long x0), .second, .val (.long x1), .second, .val (.int x2), .val (.int (0 : Int32)), .val (.ref r_TIMESTAMPED), .val (.ref b6), .unset, .unset, .unset, .unset, .unset] [])) _
        refine XS.aload X6.here hx rfl (hb hby at_41) rfl rfl ?_
        exact k)
    obtain ⟨c13, Ar13, q13, S13, M13, H13, G13⟩ := (id fp11)
    have pre13 : Go p.tables e below (s₁.setTop (entryFrame m #[(.long x0), (.long x1), (.int x2)] maxLocals)) T6 (mkF m 44 #[.val (.long x0), .second, .val (.long x1), .second, .val (.int x2), .val (.int (0 : Int32)), .val (.ref r_TIMESTAMPED), .val (.ref b6), .unset, .unset, .unset, .unset, .unset] [(.int zr)]) := fun t k => pre12 t (X6.arraylength hx (by rw [e6]; exact Ar13.1) (State.isArrayOf_alike hZ.alike Ar13.2.1) (g := (mkF m 43 #[.val (.long x0), .second, .val (.long x1), .second, .val (.int x2), .val (.int (0 : Int32)), .val (.ref r_TIMESTAMPED), .val (.ref b6), .unset, .unset, .unset, .unset, .unset] [(.ref b6)])) rfl rfl (hb hby at_43) _ (by rw [len_of S13 M13]; exact k))
    by_cases hc14 : (0 : Int32) < zr
    · -- hc14: True
      have pre15 : Go p.tables e below (s₁.setTop (entryFrame m #[(.long x0), (.long x1), (.int x2)] maxLocals)) T6 (mkF m 55 #[.val (.long x0), .second, .val (.long x1), .second, .val (.int x2), .val (.int (0 : Int32)), .val (.ref r_TIMESTAMPED), .val (.ref b6), .unset, .unset, .unset, .unset, .unset] [(.int (((x2.toUInt32 >>> ((5 : Int32) &&& 31).toUInt32).toInt32).toInt8.toInt32)), (.int (0 : Int32)), (.ref b6)]) := fun t k => pre13 t (by
          refine XS.ifNo X6.here hx rfl (hb hby at_44) rfl ((if0 _ _).trans (tlt hc14).2.2.2) ?_
          show Steps p.tables e below (T6.setTop (mkF m 47 #[.val (.long x0), .second, .val (.long x1), .second, .val (.int x2), .val (.int (0 : Int32)), .val (.ref r_TIMESTAMPED), .val (.ref b6), .unset, .unset, .unset, .unset, .unset] [])) _
          refine XS.aload X6.here hx rfl (hb hby at_47) rfl rfl ?_
          show Steps p.tables e below (T6.setTop (mkF m 49 #[.val (.long x0), .second, .val (.long x1), .second, .val (.int x2), .val (.int (0 : Int32)), .val (.ref r_TIMESTAMPED), .val (.ref b6), .unset, .unset, .unset, .unset, .unset] [(.ref b6)])) _
          refine XS.iconst X6.here hx rfl (hb hby at_49) ?_
          show Steps p.tables e below (T6.setTop (mkF m 50 #[.val (.long x0), .second, .val (.long x1), .second, .val (.int x2), .val (.int (0 : Int32)), .val (.ref r_TIMESTAMPED), .val (.ref b6), .unset, .unset, .unset, .unset, .unset] [(.int (0 : Int32)), (.ref b6)])) _
          refine XS.iload X6.here hx rfl (hb hby at_50) rfl ?_
          show Steps p.tables e below (T6.setTop (mkF m 52 #[.val (.long x0), .second, .val (.long x1), .second, .val (.int x2), .val (.int (0 : Int32)), .val (.ref r_TIMESTAMPED), .val (.ref b6), .unset, .unset, .unset, .unset, .unset] [(.int x2), (.int (0 : Int32)), (.ref b6)])) _
          refine XS.iconst X6.here hx rfl (hb hby at_52) ?_
          show Steps p.tables e below (T6.setTop (mkF m 53 #[.val (.long x0), .second, .val (.long x1), .second, .val (.int x2), .val (.int (0 : Int32)), .val (.ref r_TIMESTAMPED), .val (.ref b6), .unset, .unset, .unset, .unset, .unset] [(.int (5 : Int32)), (.int x2), (.int (0 : Int32)), (.ref b6)])) _
          refine XS.iushr X6.here hx rfl (hb hby at_53) rfl ?_
          show Steps p.tables e below (T6.setTop (mkF m 54 #[.val (.long x0), .second, .val (.long x1), .second, .val (.int x2), .val (.int (0 : Int32)), .val (.ref r_TIMESTAMPED), .val (.ref b6), .unset, .unset, .unset, .unset, .unset] [(.int ((x2.toUInt32 >>> ((5 : Int32) &&& 31).toUInt32).toInt32)), (.int (0 : Int32)), (.ref b6)])) _
          refine XS.i2b X6.here hx rfl (hb hby at_54) rfl ?_
          exact k)
      obtain ⟨c16, Ar16, q16, S16, M16, H16, G16⟩ := (id fp11)
      have hin16 : ¬ ((0 : Int32) < 0 ∨ c16.slots.size ≤ ((0 : Int32)).toNatClampNeg) := inb_of S16 ⟨by decide, hc14⟩
      obtain ⟨T16, h16, X16, e16, W16, st16⟩ := stB X6 hx hZ e6 Ar16 (j := (0 : Int32)) hin16 (g := (mkF m 55 #[.val (.long x0), .second, .val (.long x1), .second, .val (.int x2), .val (.int (0 : Int32)), .val (.ref r_TIMESTAMPED), .val (.ref b6), .unset, .unset, .unset, .unset, .unset] [(.int (((x2.toUInt32 >>> ((5 : Int32) &&& 31).toUInt32).toInt32).toInt8.toInt32)), (.int (0 : Int32)), (.ref b6)])) rfl rfl (hb hby at_55)
      have fa16 : Arv Z h16 b6 k6 .byte zr [(.int (nar .byte (((x2.toUInt32 >>> ((5 : Int32) &&& 31).toUInt32).toInt32).toInt8.toInt32)))] (.int (0 : Int32)) := Arv.set Ar16 q16 S16 M16 H16 G16 (fits_nar_byte _) W16 0 rfl (Nat.le_of_ble_eq_true rfl)
      have N16 := Fr.snoc X16 N0 g7
      have f17 : n0 ≤ h16.size := Nat.le_trans f8 (Keep.of_wr W16).1
      have f18 : Old Z n0 h16 := f9.wr W16 g7
      have pre16 : Go p.tables e below (s₁.setTop (entryFrame m #[(.long x0), (.long x1), (.int x2)] maxLocals)) T16 (mkF m 56 #[.val (.long x0), .second, .val (.long x1), .second, .val (.int x2), .val (.int (0 : Int32)), .val (.ref r_TIMESTAMPED), .val (.ref b6), .unset, .unset, .unset, .unset, .unset] []) := fun t k => pre15 t (st16 _ k)
      have pre19 : Go p.tables e below (s₁.setTop (entryFrame m #[(.long x0), (.long x1), (.int x2)] maxLocals)) T16 (mkF m 59 #[.val (.long x0), .second, .val (.long x1), .second, .val (.int x2), .val (.int (0 : Int32)), .val (.ref r_TIMESTAMPED), .val (.ref b6), .unset, .unset, .unset, .unset, .unset] [(.ref b6), (.long x0)]) := fun t k => pre16 t (by
          refine XS.lloadN X16.here hx rfl (hb hby at_56) rfl ?_
          show Steps p.tables e below (T16.setTop (mkF m 57 #[.val (.long x0), .second, .val (.long x1), .second, .val (.int x2), .val (.int (0 : Int32)), .val (.ref r_TIMESTAMPED), .val (.ref b6), .unset, .unset, .unset, .unset, .unset] [(.long x0)])) _
          refine XS.aload X16.here hx rfl (hb hby at_57) rfl rfl ?_
          exact k)
      obtain ⟨_, _, ⟨T20, L20, k20, n20⟩, -, X20, ⟨Lc20, hQ20, l20, y20, z20⟩, st20⟩ := Jvm.LawKit.callS X16 hx (y := (⟨"com/example/fence/fence/service/ClaimFormat", "stamp", "(J[B)[B"⟩ : MethodName)) hown (mvT hZ (hw _ (List.mem_of_getElem? (i := 4) rfl))) (mvT hZ (hw _ (List.mem_of_getElem? (i := 5) rfl))) (mvT hZ (hw _ (List.mem_of_getElem? (i := 1) rfl))) (mvT hZ (hw _ (List.mem_of_getElem? (i := 6) rfl))) (by decide) (backOf (W := 0) (rm_stp l Z av0 hw [] x0 b6 k6 zr [(.int (nar .byte (((x2.toUInt32 >>> ((5 : Int32) &&& 31).toUInt32).toInt32).toInt8.toInt32)))] (.int (0 : Int32)) h16 n0 f17 fa16 hz0 (own_le23 hz1)) hZ (hw _ (List.mem_of_getElem? (i := 6) rfl)) (hw _ (List.mem_of_getElem? (i := 1) rfl)) (by decide) (by decide)) (g := (mkF m 59 #[.val (.long x0), .second, .val (.long x1), .second, .val (.int x2), .val (.int (0 : Int32)), .val (.ref r_TIMESTAMPED), .val (.ref b6), .unset, .unset, .unset, .unset, .unset] [(.ref b6), (.long x0)])) rfl (by rw [hml]; rfl) (argsL := [(.long x0), (.ref b6)]) (rest := []) (lenOf pd_3 rfl) rfl (by show 2 * 0 + _ ≤ _; exact Nat.le_of_eq rfl) (hb hby at_59) (fun _ _ => ⟨rfl, e16, (by decide : 1 + 1 ≤ _), (by decide : 15 + 31 ≤ _)⟩)
      dsimp only [Pt.U, Pt.locs, Pt.cells, Pt.slots] at X20 l20 y20 z20 st20 hQ20
      subst l20 y20 z20
      obtain ⟨b20, kc20, ws20, rfl, N20q, K20, gb20, sb20, V20⟩ := hQ20
      have ne21 : b6 ≠ b20 := Nat.ne_of_lt (Nat.lt_of_lt_of_le fa16.lt sb20)
      have g22 : n0 ≤ b20 := Nat.le_trans f17 sb20
      have f23 : n0 ≤ T20.heap.size := Nat.le_trans f17 K20.1
      have f24 : Old Z n0 T20.heap := f18.keep K20 all0
      have f25 : Arv Z T20.heap b6 k6 .byte zr [(.int (nar .byte (((x2.toUInt32 >>> ((5 : Int32) &&& 31).toUInt32).toInt32).toInt8.toInt32)))] (.int (0 : Int32)) := fa16.keep K20 nin0
      have N20 := Fr.app N16 N20q
      have pre20 : Go p.tables e below (s₁.setTop (entryFrame m #[(.long x0), (.long x1), (.int x2)] maxLocals)) T20 (mkF m 62 #[.val (.long x0), .second, .val (.long x1), .second, .val (.int x2), .val (.int (0 : Int32)), .val (.ref r_TIMESTAMPED), .val (.ref b6), .unset, .unset, .unset, .unset, .unset] [(.ref b20)]) := fun t k => pre19 t (st20 _ k)
      have pre26 : Go p.tables e below (s₁.setTop (entryFrame m #[(.long x0), (.long x1), (.int x2)] maxLocals)) T20 (mkF m 69 #[.val (.long x0), .second, .val (.long x1), .second, .val (.int x2), .val (.int (0 : Int32)), .val (.ref r_TIMESTAMPED), .val (.ref b6), .val (.ref b20), .unset, .unset, .unset, .unset] [(.int (lcmpW x1 (946684800000000000 : Int64)))]) := fun t k => pre20 t (by
          refine XS.astore X20.here hx rfl (hb hby at_62) rfl rfl (l' := #[.val (.long x0), .second, .val (.long x1), .second, .val (.int x2), .val (.int (0 : Int32)), .val (.ref r_TIMESTAMPED), .val (.ref b6), .val (.ref b20), .unset, .unset, .unset, .unset]) rfl ?_
          show Steps p.tables e below (T20.setTop (mkF m 64 #[.val (.long x0), .second, .val (.long x1), .second, .val (.int x2), .val (.int (0 : Int32)), .val (.ref r_TIMESTAMPED), .val (.ref b6), .val (.ref b20), .unset, .unset, .unset, .unset] [])) _
          refine XS.lloadN X20.here hx rfl (hb hby at_64) rfl ?_
          show Steps p.tables e below (T20.setTop (mkF m 65 #[.val (.long x0), .second, .val (.long x1), .second, .val (.int x2), .val (.int (0 : Int32)), .val (.ref r_TIMESTAMPED), .val (.ref b6), .val (.ref b20), .unset, .unset, .unset, .unset] [(.long x1)])) _
          refine X20.ldc2Long hx hown (mvT hZ (hw _ (List.mem_of_getElem? (i := 15) rfl))) (g := (mkF m 65 #[.val (.long x0), .second, .val (.long x1), .second, .val (.int x2), .val (.int (0 : Int32)), .val (.ref r_TIMESTAMPED), .val (.ref b6), .val (.ref b20), .unset, .unset, .unset, .unset] [(.long x1)])) rfl (hb hby at_65) _ ?_
          show Steps p.tables e below (T20.setTop (mkF m 68 #[.val (.long x0), .second, .val (.long x1), .second, .val (.int x2), .val (.int (0 : Int32)), .val (.ref r_TIMESTAMPED), .val (.ref b6), .val (.ref b20), .unset, .unset, .unset, .unset] [(.long (946684800000000000 : Int64)), (.long x1)])) _
          refine XS.lcmp X20.here hx rfl (hb hby at_68) rfl ?_
          exact k)
      by_cases hc27 : x1 < (946684800000000000 : Int64)
      · -- hc27: True
        have pre28 : Go p.tables e below (s₁.setTop (entryFrame m #[(.long x0), (.long x1), (.int x2)] maxLocals)) T20 (mkF m 104 #[.val (.long x0), .second, .val (.long x1), .second, .val (.int x2), .val (.int (0 : Int32)), .val (.ref r_TIMESTAMPED), .val (.ref b6), .val (.ref b20), .val (.long x1), .second, .val (.ref b20), .unset] [(.ref b20)]) := fun t k => pre26 t (by
            refine XS.ifNo X20.here hx rfl (hb hby at_69) rfl ((if0 _ _).trans (tlt ((lw_lt _ _).mpr hc27)).2.1) ?_
            show Steps p.tables e below (T20.setTop (mkF m 72 #[.val (.long x0), .second, .val (.long x1), .second, .val (.int x2), .val (.int (0 : Int32)), .val (.ref r_TIMESTAMPED), .val (.ref b6), .val (.ref b20), .unset, .unset, .unset, .unset] [])) _
            refine XS.lloadN X20.here hx rfl (hb hby at_72) rfl ?_
            show Steps p.tables e below (T20.setTop (mkF m 73 #[.val (.long x0), .second, .val (.long x1), .second, .val (.int x2), .val (.int (0 : Int32)), .val (.ref r_TIMESTAMPED), .val (.ref b6), .val (.ref b20), .unset, .unset, .unset, .unset] [(.long x1)])) _
            refine XS.goto X20.here hx rfl (pc0 := 73) (pc' := 81) rfl (hb hby at_73) (by decide) (by decide) ?_
            show Steps p.tables e below (T20.setTop (mkF m 81 #[.val (.long x0), .second, .val (.long x1), .second, .val (.int x2), .val (.int (0 : Int32)), .val (.ref r_TIMESTAMPED), .val (.ref b6), .val (.ref b20), .unset, .unset, .unset, .unset] [(.long x1)])) _
            refine XS.lstore X20.here hx rfl (hb hby at_81) rfl (l' := #[.val (.long x0), .second, .val (.long x1), .second, .val (.int x2), .val (.int (0 : Int32)), .val (.ref r_TIMESTAMPED), .val (.ref b6), .val (.ref b20), .val (.long x1), .second, .unset, .unset]) rfl ?_
            show Steps p.tables e below (T20.setTop (mkF m 83 #[.val (.long x0), .second, .val (.long x1), .second, .val (.int x2), .val (.int (0 : Int32)), .val (.ref r_TIMESTAMPED), .val (.ref b6), .val (.ref b20), .val (.long x1), .second, .unset, .unset] [])) _
            refine XS.iload X20.here hx rfl (hb hby at_83) rfl ?_
            show Steps p.tables e below (T20.setTop (mkF m 85 #[.val (.long x0), .second, .val (.long x1), .second, .val (.int x2), .val (.int (0 : Int32)), .val (.ref r_TIMESTAMPED), .val (.ref b6), .val (.ref b20), .val (.long x1), .second, .unset, .unset] [(.int (0 : Int32))])) _
            refine XS.ifYes X20.here hx rfl (pc0 := 85) (pc' := 98) rfl (hb hby at_85) rfl ((if0 _ _).trans (teq (by decide)).1) (by decide) (by decide) ?_
            show Steps p.tables e below (T20.setTop (mkF m 98 #[.val (.long x0), .second, .val (.long x1), .second, .val (.int x2), .val (.int (0 : Int32)), .val (.ref r_TIMESTAMPED), .val (.ref b6), .val (.ref b20), .val (.long x1), .second, .unset, .unset] [])) _
            refine XS.aload X20.here hx rfl (hb hby at_98) rfl rfl ?_
            show Steps p.tables e below (T20.setTop (mkF m 100 #[.val (.long x0), .second, .val (.long x1), .second, .val (.int x2), .val (.int (0 : Int32)), .val (.ref r_TIMESTAMPED), .val (.ref b6), .val (.ref b20), .val (.long x1), .second, .unset, .unset] [(.ref b20)])) _
            refine XS.astore X20.here hx rfl (hb hby at_100) rfl rfl (l' := #[.val (.long x0), .second, .val (.long x1), .second, .val (.int x2), .val (.int (0 : Int32)), .val (.ref r_TIMESTAMPED), .val (.ref b6), .val (.ref b20), .val (.long x1), .second, .val (.ref b20), .unset]) rfl ?_
            show Steps p.tables e below (T20.setTop (mkF m 102 #[.val (.long x0), .second, .val (.long x1), .second, .val (.int x2), .val (.int (0 : Int32)), .val (.ref r_TIMESTAMPED), .val (.ref b6), .val (.ref b20), .val (.long x1), .second, .val (.ref b20), .unset] [])) _
            refine XS.aload X20.here hx rfl (hb hby at_102) rfl rfl ?_
            exact k)
        by_cases hT : x0 < (946684800000000000 : Int64)
        · -- True
          by_cases hI : own_isC ((8 : Int32) + zr) (8 : Int32) = 0
          · -- True
            obtain ⟨_, _, ⟨T29, L29, k29, n29⟩, -, X29, ⟨Lc29, hQ29, l29, y29, z29⟩, st29⟩ := Jvm.LawKit.callS X20 hx (y := (⟨"com/example/fence/fence/service/ClaimFormat", "ofColumn", "([B)Lcom/example/fence/fence/service/ClaimFormat;"⟩ : MethodName)) hown (mvT hZ (hw _ (List.mem_of_getElem? (i := 16) rfl))) (mvT hZ (hw _ (List.mem_of_getElem? (i := 17) rfl))) (mvT hZ (hw _ (List.mem_of_getElem? (i := 1) rfl))) (mvT hZ (hw _ (List.mem_of_getElem? (i := 18) rfl))) (by decide) (backOf (W := 0) (rm_ofc l Z av0 hw [] b20 kc20 ((8 : Int32) + zr) ([(.int (own_b8 (own_sh x0 56))), (.int (own_b8 (own_sh x0 48))), (.int (own_b8 (own_sh x0 40))), (.int (own_b8 (own_sh x0 32))), (.int (own_b8 (own_sh x0 24))), (.int (own_b8 (own_sh x0 16))), (.int (own_b8 (own_sh x0 8))), (.int (own_b8 x0))] ++ ws20) (.int (0 : Int32)) (own_b8 (own_sh x0 56)) (own_b8 (own_sh x0 48)) (own_b8 (own_sh x0 40)) (own_b8 (own_sh x0 32)) (own_b8 (own_sh x0 24)) (own_b8 (own_sh x0 16)) (own_b8 (own_sh x0 8)) (own_b8 x0) x0 r_TIMESTAMPED r_NUMBERED T20.heap n0 f24 S_TIMESTAMPED S_NUMBERED E_TIMESTAMPED E_NUMBERED F_TIMESTAMPED F_NUMBERED V20 rfl rfl rfl rfl rfl rfl rfl rfl (own_long_eq x0)) hZ (hw _ (List.mem_of_getElem? (i := 18) rfl)) (hw _ (List.mem_of_getElem? (i := 1) rfl)) (by decide) (by decide)) (g := (mkF m 104 #[.val (.long x0), .second, .val (.long x1), .second, .val (.int x2), .val (.int (0 : Int32)), .val (.ref r_TIMESTAMPED), .val (.ref b6), .val (.ref b20), .val (.long x1), .second, .val (.ref b20), .unset] [(.ref b20)])) rfl (by rw [hml]; rfl) (argsL := [(.ref b20)]) (rest := []) (lenOf pd_4 rfl) rfl (by show 2 * 0 + _ ≤ _; exact Nat.le_of_eq rfl) (hb hby at_104) (fun _ _ => ⟨rfl, rfl, (by decide : 2 + 0 ≤ _), (by decide : 46 + 0 ≤ _)⟩)
            dsimp only [Pt.U, Pt.locs, Pt.cells, Pt.slots] at X29 l29 y29 z29 st29 hQ29
            subst l29 y29 z29
            obtain ⟨hv29, N29q, e29⟩ := hQ29
            rw [show own_of x0 ((8 : Int32) + zr) r_TIMESTAMPED r_NUMBERED = .null from own_of_lo zr hz0 hz1 hT hI] at hv29
            subst hv29
            have N29 := Fr.app N20 N29q
            have pre29 : Go p.tables e below (s₁.setTop (entryFrame m #[(.long x0), (.long x1), (.int x2)] maxLocals)) T29 (mkF m 107 #[.val (.long x0), .second, .val (.long x1), .second, .val (.int x2), .val (.int (0 : Int32)), .val (.ref r_TIMESTAMPED), .val (.ref b6), .val (.ref b20), .val (.long x1), .second, .val (.ref b20), .unset] [.null]) := fun t k => pre28 t (st29 _ k)
            have pre30 : Go p.tables e below (s₁.setTop (entryFrame m #[(.long x0), (.long x1), (.int x2)] maxLocals)) T29 (mkF m 122 #[.val (.long x0), .second, .val (.long x1), .second, .val (.int x2), .val (.int (0 : Int32)), .val (.ref r_TIMESTAMPED), .val (.ref b6), .val (.ref b20), .val (.long x1), .second, .val (.ref b20), .val (.int (0 : Int32))] [(.long x0), (.ref r_TIMESTAMPED)]) := fun t k => pre29 t (by
                refine XS.aload X29.here hx rfl (hb hby at_107) rfl rfl ?_
                show Steps p.tables e below (T29.setTop (mkF m 109 #[.val (.long x0), .second, .val (.long x1), .second, .val (.int x2), .val (.int (0 : Int32)), .val (.ref r_TIMESTAMPED), .val (.ref b6), .val (.ref b20), .val (.long x1), .second, .val (.ref b20), .unset] [(.ref r_TIMESTAMPED), .null])) _
                refine Jvm.RoadKit.acmp (g := (mkF m 109 #[.val (.long x0), .second, .val (.long x1), .second, .val (.int x2), .val (.int (0 : Int32)), .val (.ref r_TIMESTAMPED), .val (.ref b6), .val (.ref b20), .val (.long x1), .second, .val (.ref b20), .unset] [(.ref r_TIMESTAMPED), .null])) X29 hx rfl rfl rfl (pc0 := 109) (pc' := 116) (same := false) rfl (hb hby at_109) rfl (decide_eq_false nofun) (by decide) (by decide) ?_
                show Steps p.tables e below (T29.setTop (mkF m 116 #[.val (.long x0), .second, .val (.long x1), .second, .val (.int x2), .val (.int (0 : Int32)), .val (.ref r_TIMESTAMPED), .val (.ref b6), .val (.ref b20), .val (.long x1), .second, .val (.ref b20), .unset] [])) _
                refine XS.iconst X29.here hx rfl (hb hby at_116) ?_
                show Steps p.tables e below (T29.setTop (mkF m 117 #[.val (.long x0), .second, .val (.long x1), .second, .val (.int x2), .val (.int (0 : Int32)), .val (.ref r_TIMESTAMPED), .val (.ref b6), .val (.ref b20), .val (.long x1), .second, .val (.ref b20), .unset] [(.int (0 : Int32))])) _
                refine XS.istore X29.here hx rfl (hb hby at_117) rfl (l' := #[.val (.long x0), .second, .val (.long x1), .second, .val (.int x2), .val (.int (0 : Int32)), .val (.ref r_TIMESTAMPED), .val (.ref b6), .val (.ref b20), .val (.long x1), .second, .val (.ref b20), .val (.int (0 : Int32))]) rfl ?_
                show Steps p.tables e below (T29.setTop (mkF m 119 #[.val (.long x0), .second, .val (.long x1), .second, .val (.int x2), .val (.int (0 : Int32)), .val (.ref r_TIMESTAMPED), .val (.ref b6), .val (.ref b20), .val (.long x1), .second, .val (.ref b20), .val (.int (0 : Int32))] [])) _
                refine XS.aload X29.here hx rfl (hb hby at_119) rfl rfl ?_
                show Steps p.tables e below (T29.setTop (mkF m 121 #[.val (.long x0), .second, .val (.long x1), .second, .val (.int x2), .val (.int (0 : Int32)), .val (.ref r_TIMESTAMPED), .val (.ref b6), .val (.ref b20), .val (.long x1), .second, .val (.ref b20), .val (.int (0 : Int32))] [(.ref r_TIMESTAMPED)])) _
                refine XS.lloadN X29.here hx rfl (hb hby at_121) rfl ?_
                exact k)
            obtain ⟨cq31, kq31, q31a, q31b, q31c⟩ := isOf hZ e29 (E_TIMESTAMPED.ext f24.2)
            obtain ⟨_, _, ⟨T31, L31, k31, n31⟩, -, X31, ⟨Lc31, hQ31, l31, y31, z31⟩, st31⟩ := X29.virtualBack hx (y := (⟨"com/example/fence/fence/service/ClaimFormat", "carries", "(J)Z"⟩ : MethodName)) (z := (⟨"com/example/fence/fence/service/ClaimFormat", "carries", "(J)Z"⟩ : MethodName)) hown (mvT hZ (hw _ (List.mem_of_getElem? (i := 35) rfl))) (mvT hZ (hw _ (List.mem_of_getElem? (i := 36) rfl))) (notFace_of_selects (args := #[]) (mvT hZ (hw _ (List.mem_of_getElem? (i := 38) rfl)))) (mvT hZ (hw _ (List.mem_of_getElem? (i := 38) rfl))) (mvT hZ (hw _ (List.mem_of_getElem? (i := 37) rfl))) (by decide) (backOf (W := 0) (rm_car l Z av0 hw [] r_TIMESTAMPED x0 r_TIMESTAMPED T20.heap n0 (S_TIMESTAMPED.ext f24.2)) hZ (hw _ (List.mem_of_getElem? (i := 39) rfl)) (hw _ (List.mem_of_getElem? (i := 1) rfl)) (by decide) (by decide)) q31a q31c (g := (mkF m 122 #[.val (.long x0), .second, .val (.long x1), .second, .val (.int x2), .val (.int (0 : Int32)), .val (.ref r_TIMESTAMPED), .val (.ref b6), .val (.ref b20), .val (.long x1), .second, .val (.ref b20), .val (.int (0 : Int32))] [(.long x0), (.ref r_TIMESTAMPED)])) rfl (by rw [hml]; rfl) (Steps.refl _) (argsL := [(.long x0)]) (rest := []) (lenOf pd_5 rfl) rfl (by show 2 * 0 + _ ≤ _; exact Nat.le_of_eq rfl) (hb hby at_122) (fun _ _ => ⟨rfl, e29, (by decide : 2 + 0 ≤ _), (by decide : 46 + 0 ≤ _)⟩)
            dsimp only [Pt.U, Pt.locs, Pt.cells, Pt.slots] at X31 l31 y31 z31 st31 hQ31
            subst l31 y31 z31
            obtain ⟨hv31, N31q, e31⟩ := hQ31
            rw [show own_car r_TIMESTAMPED r_TIMESTAMPED x0 = (0 : Int32) from (if_pos rfl).trans (if_pos hT)] at hv31
            subst hv31
            have N31 := Fr.app N29 N31q
            have pre31 : Go p.tables e below (s₁.setTop (entryFrame m #[(.long x0), (.long x1), (.int x2)] maxLocals)) T31 (mkF m 125 #[.val (.long x0), .second, .val (.long x1), .second, .val (.int x2), .val (.int (0 : Int32)), .val (.ref r_TIMESTAMPED), .val (.ref b6), .val (.ref b20), .val (.long x1), .second, .val (.ref b20), .val (.int (0 : Int32))] [(.int (0 : Int32))]) := fun t k => pre30 t (st31.trans k)
            have pre32 : Go p.tables e below (s₁.setTop (entryFrame m #[(.long x0), (.long x1), (.int x2)] maxLocals)) T31 (mkF m 135 #[.val (.long x0), .second, .val (.long x1), .second, .val (.int x2), .val (.int (0 : Int32)), .val (.ref r_TIMESTAMPED), .val (.ref b6), .val (.ref b20), .val (.long x1), .second, .val (.ref b20), .val (.int (0 : Int32))] [(.int (1 : Int32))]) := fun t k => pre31 t (by
                refine XS.iload X31.here hx rfl (hb hby at_125) rfl ?_
                show Steps p.tables e below (T31.setTop (mkF m 127 #[.val (.long x0), .second, .val (.long x1), .second, .val (.int x2), .val (.int (0 : Int32)), .val (.ref r_TIMESTAMPED), .val (.ref b6), .val (.ref b20), .val (.long x1), .second, .val (.ref b20), .val (.int (0 : Int32))] [(.int (0 : Int32)), (.int (0 : Int32))])) _
                refine XS.icmpNo X31.here hx rfl (hb hby at_127) rfl (teq (by decide)).2 ?_
                show Steps p.tables e below (T31.setTop (mkF m 130 #[.val (.long x0), .second, .val (.long x1), .second, .val (.int x2), .val (.int (0 : Int32)), .val (.ref r_TIMESTAMPED), .val (.ref b6), .val (.ref b20), .val (.long x1), .second, .val (.ref b20), .val (.int (0 : Int32))] [])) _
                refine XS.iconst X31.here hx rfl (hb hby at_130) ?_
                show Steps p.tables e below (T31.setTop (mkF m 131 #[.val (.long x0), .second, .val (.long x1), .second, .val (.int x2), .val (.int (0 : Int32)), .val (.ref r_TIMESTAMPED), .val (.ref b6), .val (.ref b20), .val (.long x1), .second, .val (.ref b20), .val (.int (0 : Int32))] [(.int (1 : Int32))])) _
                refine XS.goto X31.here hx rfl (pc0 := 131) (pc' := 135) rfl (hb hby at_131) (by decide) (by decide) ?_
                exact k)
            obtain ⟨fs, hr, hrun, hended, hW, hsame⟩ := X31.leave (v := some (.int (1 : Int32))) (fun h => by rw [Bd.returns] at h; cases h) (BodyLoose.notSynchronized Bd)
            refine ⟨_, _, pre32 _ ?_, hrun, hended, _, _, rfl, ?_, ⟨_, rfl⟩, hW, hsame.mono (Nat.le_of_ble_eq_true rfl) (Nat.le_of_ble_eq_true rfl)⟩
            · exact retN X31 hx (t := .boolean) Bd.returns (by simp) (hb hby at_135) hr
            · show Q_law Z x0 x1 x2 r_TIMESTAMPED r_NUMBERED h0 n0 _ T31.heap _
              rw [e31]
              exact ⟨rfl, N31⟩
          · -- False
            obtain ⟨_, _, ⟨T33, L33, k33, n33⟩, -, X33, ⟨Lc33, hQ33, l33, y33, z33⟩, st33⟩ := Jvm.LawKit.callS X20 hx (y := (⟨"com/example/fence/fence/service/ClaimFormat", "ofColumn", "([B)Lcom/example/fence/fence/service/ClaimFormat;"⟩ : MethodName)) hown (mvT hZ (hw _ (List.mem_of_getElem? (i := 16) rfl))) (mvT hZ (hw _ (List.mem_of_getElem? (i := 17) rfl))) (mvT hZ (hw _ (List.mem_of_getElem? (i := 1) rfl))) (mvT hZ (hw _ (List.mem_of_getElem? (i := 18) rfl))) (by decide) (backOf (W := 0) (rm_ofc l Z av0 hw [] b20 kc20 ((8 : Int32) + zr) ([(.int (own_b8 (own_sh x0 56))), (.int (own_b8 (own_sh x0 48))), (.int (own_b8 (own_sh x0 40))), (.int (own_b8 (own_sh x0 32))), (.int (own_b8 (own_sh x0 24))), (.int (own_b8 (own_sh x0 16))), (.int (own_b8 (own_sh x0 8))), (.int (own_b8 x0))] ++ ws20) (.int (0 : Int32)) (own_b8 (own_sh x0 56)) (own_b8 (own_sh x0 48)) (own_b8 (own_sh x0 40)) (own_b8 (own_sh x0 32)) (own_b8 (own_sh x0 24)) (own_b8 (own_sh x0 16)) (own_b8 (own_sh x0 8)) (own_b8 x0) x0 r_TIMESTAMPED r_NUMBERED T20.heap n0 f24 S_TIMESTAMPED S_NUMBERED E_TIMESTAMPED E_NUMBERED F_TIMESTAMPED F_NUMBERED V20 rfl rfl rfl rfl rfl rfl rfl rfl (own_long_eq x0)) hZ (hw _ (List.mem_of_getElem? (i := 18) rfl)) (hw _ (List.mem_of_getElem? (i := 1) rfl)) (by decide) (by decide)) (g := (mkF m 104 #[.val (.long x0), .second, .val (.long x1), .second, .val (.int x2), .val (.int (0 : Int32)), .val (.ref r_TIMESTAMPED), .val (.ref b6), .val (.ref b20), .val (.long x1), .second, .val (.ref b20), .unset] [(.ref b20)])) rfl (by rw [hml]; rfl) (argsL := [(.ref b20)]) (rest := []) (lenOf pd_4 rfl) rfl (by show 2 * 0 + _ ≤ _; exact Nat.le_of_eq rfl) (hb hby at_104) (fun _ _ => ⟨rfl, rfl, (by decide : 2 + 0 ≤ _), (by decide : 46 + 0 ≤ _)⟩)
            dsimp only [Pt.U, Pt.locs, Pt.cells, Pt.slots] at X33 l33 y33 z33 st33 hQ33
            subst l33 y33 z33
            obtain ⟨hv33, N33q, e33⟩ := hQ33
            rw [show own_of x0 ((8 : Int32) + zr) r_TIMESTAMPED r_NUMBERED = .ref r_NUMBERED from own_of_hi zr hz0 hz1 hT hI] at hv33
            subst hv33
            have N33 := Fr.app N20 N33q
            have pre33 : Go p.tables e below (s₁.setTop (entryFrame m #[(.long x0), (.long x1), (.int x2)] maxLocals)) T33 (mkF m 107 #[.val (.long x0), .second, .val (.long x1), .second, .val (.int x2), .val (.int (0 : Int32)), .val (.ref r_TIMESTAMPED), .val (.ref b6), .val (.ref b20), .val (.long x1), .second, .val (.ref b20), .unset] [(.ref r_NUMBERED)]) := fun t k => pre28 t (st33 _ k)
            have pre34 : Go p.tables e below (s₁.setTop (entryFrame m #[(.long x0), (.long x1), (.int x2)] maxLocals)) T33 (mkF m 122 #[.val (.long x0), .second, .val (.long x1), .second, .val (.int x2), .val (.int (0 : Int32)), .val (.ref r_TIMESTAMPED), .val (.ref b6), .val (.ref b20), .val (.long x1), .second, .val (.ref b20), .val (.int (0 : Int32))] [(.long x0), (.ref r_TIMESTAMPED)]) := fun t k => pre33 t (by
                refine XS.aload X33.here hx rfl (hb hby at_107) rfl rfl ?_
                show Steps p.tables e below (T33.setTop (mkF m 109 #[.val (.long x0), .second, .val (.long x1), .second, .val (.int x2), .val (.int (0 : Int32)), .val (.ref r_TIMESTAMPED), .val (.ref b6), .val (.ref b20), .val (.long x1), .second, .val (.ref b20), .unset] [(.ref r_TIMESTAMPED), (.ref r_NUMBERED)])) _
                refine Jvm.RoadKit.acmp (g := (mkF m 109 #[.val (.long x0), .second, .val (.long x1), .second, .val (.int x2), .val (.int (0 : Int32)), .val (.ref r_TIMESTAMPED), .val (.ref b6), .val (.ref b20), .val (.long x1), .second, .val (.ref b20), .unset] [(.ref r_TIMESTAMPED), (.ref r_NUMBERED)])) X33 hx rfl rfl rfl (pc0 := 109) (pc' := 116) (same := false) rfl (hb hby at_109) rfl (decide_eq_false fun q => (ne_exa E_NUMBERED E_TIMESTAMPED (by decide)) (Value.ref.inj q)) (by decide) (by decide) ?_
                show Steps p.tables e below (T33.setTop (mkF m 116 #[.val (.long x0), .second, .val (.long x1), .second, .val (.int x2), .val (.int (0 : Int32)), .val (.ref r_TIMESTAMPED), .val (.ref b6), .val (.ref b20), .val (.long x1), .second, .val (.ref b20), .unset] [])) _
                refine XS.iconst X33.here hx rfl (hb hby at_116) ?_
                show Steps p.tables e below (T33.setTop (mkF m 117 #[.val (.long x0), .second, .val (.long x1), .second, .val (.int x2), .val (.int (0 : Int32)), .val (.ref r_TIMESTAMPED), .val (.ref b6), .val (.ref b20), .val (.long x1), .second, .val (.ref b20), .unset] [(.int (0 : Int32))])) _
                refine XS.istore X33.here hx rfl (hb hby at_117) rfl (l' := #[.val (.long x0), .second, .val (.long x1), .second, .val (.int x2), .val (.int (0 : Int32)), .val (.ref r_TIMESTAMPED), .val (.ref b6), .val (.ref b20), .val (.long x1), .second, .val (.ref b20), .val (.int (0 : Int32))]) rfl ?_
                show Steps p.tables e below (T33.setTop (mkF m 119 #[.val (.long x0), .second, .val (.long x1), .second, .val (.int x2), .val (.int (0 : Int32)), .val (.ref r_TIMESTAMPED), .val (.ref b6), .val (.ref b20), .val (.long x1), .second, .val (.ref b20), .val (.int (0 : Int32))] [])) _
                refine XS.aload X33.here hx rfl (hb hby at_119) rfl rfl ?_
                show Steps p.tables e below (T33.setTop (mkF m 121 #[.val (.long x0), .second, .val (.long x1), .second, .val (.int x2), .val (.int (0 : Int32)), .val (.ref r_TIMESTAMPED), .val (.ref b6), .val (.ref b20), .val (.long x1), .second, .val (.ref b20), .val (.int (0 : Int32))] [(.ref r_TIMESTAMPED)])) _
                refine XS.lloadN X33.here hx rfl (hb hby at_121) rfl ?_
                exact k)
            obtain ⟨cq35, kq35, q35a, q35b, q35c⟩ := isOf hZ e33 (E_TIMESTAMPED.ext f24.2)
            obtain ⟨_, _, ⟨T35, L35, k35, n35⟩, -, X35, ⟨Lc35, hQ35, l35, y35, z35⟩, st35⟩ := X33.virtualBack hx (y := (⟨"com/example/fence/fence/service/ClaimFormat", "carries", "(J)Z"⟩ : MethodName)) (z := (⟨"com/example/fence/fence/service/ClaimFormat", "carries", "(J)Z"⟩ : MethodName)) hown (mvT hZ (hw _ (List.mem_of_getElem? (i := 35) rfl))) (mvT hZ (hw _ (List.mem_of_getElem? (i := 36) rfl))) (notFace_of_selects (args := #[]) (mvT hZ (hw _ (List.mem_of_getElem? (i := 38) rfl)))) (mvT hZ (hw _ (List.mem_of_getElem? (i := 38) rfl))) (mvT hZ (hw _ (List.mem_of_getElem? (i := 37) rfl))) (by decide) (backOf (W := 0) (rm_car l Z av0 hw [] r_TIMESTAMPED x0 r_TIMESTAMPED T20.heap n0 (S_TIMESTAMPED.ext f24.2)) hZ (hw _ (List.mem_of_getElem? (i := 39) rfl)) (hw _ (List.mem_of_getElem? (i := 1) rfl)) (by decide) (by decide)) q35a q35c (g := (mkF m 122 #[.val (.long x0), .second, .val (.long x1), .second, .val (.int x2), .val (.int (0 : Int32)), .val (.ref r_TIMESTAMPED), .val (.ref b6), .val (.ref b20), .val (.long x1), .second, .val (.ref b20), .val (.int (0 : Int32))] [(.long x0), (.ref r_TIMESTAMPED)])) rfl (by rw [hml]; rfl) (Steps.refl _) (argsL := [(.long x0)]) (rest := []) (lenOf pd_5 rfl) rfl (by show 2 * 0 + _ ≤ _; exact Nat.le_of_eq rfl) (hb hby at_122) (fun _ _ => ⟨rfl, e33, (by decide : 2 + 0 ≤ _), (by decide : 46 + 0 ≤ _)⟩)
            dsimp only [Pt.U, Pt.locs, Pt.cells, Pt.slots] at X35 l35 y35 z35 st35 hQ35
            subst l35 y35 z35
            obtain ⟨hv35, N35q, e35⟩ := hQ35
            rw [show own_car r_TIMESTAMPED r_TIMESTAMPED x0 = (0 : Int32) from (if_pos rfl).trans (if_pos hT)] at hv35
            subst hv35
            have N35 := Fr.app N33 N35q
            have pre35 : Go p.tables e below (s₁.setTop (entryFrame m #[(.long x0), (.long x1), (.int x2)] maxLocals)) T35 (mkF m 125 #[.val (.long x0), .second, .val (.long x1), .second, .val (.int x2), .val (.int (0 : Int32)), .val (.ref r_TIMESTAMPED), .val (.ref b6), .val (.ref b20), .val (.long x1), .second, .val (.ref b20), .val (.int (0 : Int32))] [(.int (0 : Int32))]) := fun t k => pre34 t (st35.trans k)
            have pre36 : Go p.tables e below (s₁.setTop (entryFrame m #[(.long x0), (.long x1), (.int x2)] maxLocals)) T35 (mkF m 135 #[.val (.long x0), .second, .val (.long x1), .second, .val (.int x2), .val (.int (0 : Int32)), .val (.ref r_TIMESTAMPED), .val (.ref b6), .val (.ref b20), .val (.long x1), .second, .val (.ref b20), .val (.int (0 : Int32))] [(.int (1 : Int32))]) := fun t k => pre35 t (by
                refine XS.iload X35.here hx rfl (hb hby at_125) rfl ?_
                show Steps p.tables e below (T35.setTop (mkF m 127 #[.val (.long x0), .second, .val (.long x1), .second, .val (.int x2), .val (.int (0 : Int32)), .val (.ref r_TIMESTAMPED), .val (.ref b6), .val (.ref b20), .val (.long x1), .second, .val (.ref b20), .val (.int (0 : Int32))] [(.int (0 : Int32)), (.int (0 : Int32))])) _
                refine XS.icmpNo X35.here hx rfl (hb hby at_127) rfl (teq (by decide)).2 ?_
                show Steps p.tables e below (T35.setTop (mkF m 130 #[.val (.long x0), .second, .val (.long x1), .second, .val (.int x2), .val (.int (0 : Int32)), .val (.ref r_TIMESTAMPED), .val (.ref b6), .val (.ref b20), .val (.long x1), .second, .val (.ref b20), .val (.int (0 : Int32))] [])) _
                refine XS.iconst X35.here hx rfl (hb hby at_130) ?_
                show Steps p.tables e below (T35.setTop (mkF m 131 #[.val (.long x0), .second, .val (.long x1), .second, .val (.int x2), .val (.int (0 : Int32)), .val (.ref r_TIMESTAMPED), .val (.ref b6), .val (.ref b20), .val (.long x1), .second, .val (.ref b20), .val (.int (0 : Int32))] [(.int (1 : Int32))])) _
                refine XS.goto X35.here hx rfl (pc0 := 131) (pc' := 135) rfl (hb hby at_131) (by decide) (by decide) ?_
                exact k)
            obtain ⟨fs, hr, hrun, hended, hW, hsame⟩ := X35.leave (v := some (.int (1 : Int32))) (fun h => by rw [Bd.returns] at h; cases h) (BodyLoose.notSynchronized Bd)
            refine ⟨_, _, pre36 _ ?_, hrun, hended, _, _, rfl, ?_, ⟨_, rfl⟩, hW, hsame.mono (Nat.le_of_ble_eq_true rfl) (Nat.le_of_ble_eq_true rfl)⟩
            · exact retN X35 hx (t := .boolean) Bd.returns (by simp) (hb hby at_135) hr
            · show Q_law Z x0 x1 x2 r_TIMESTAMPED r_NUMBERED h0 n0 _ T35.heap _
              rw [e35]
              exact ⟨rfl, N35⟩
        · -- False
          obtain ⟨_, _, ⟨T37, L37, k37, n37⟩, -, X37, ⟨Lc37, hQ37, l37, y37, z37⟩, st37⟩ := Jvm.LawKit.callS X20 hx (y := (⟨"com/example/fence/fence/service/ClaimFormat", "ofColumn", "([B)Lcom/example/fence/fence/service/ClaimFormat;"⟩ : MethodName)) hown (mvT hZ (hw _ (List.mem_of_getElem? (i := 16) rfl))) (mvT hZ (hw _ (List.mem_of_getElem? (i := 17) rfl))) (mvT hZ (hw _ (List.mem_of_getElem? (i := 1) rfl))) (mvT hZ (hw _ (List.mem_of_getElem? (i := 18) rfl))) (by decide) (backOf (W := 0) (rm_ofc l Z av0 hw [] b20 kc20 ((8 : Int32) + zr) ([(.int (own_b8 (own_sh x0 56))), (.int (own_b8 (own_sh x0 48))), (.int (own_b8 (own_sh x0 40))), (.int (own_b8 (own_sh x0 32))), (.int (own_b8 (own_sh x0 24))), (.int (own_b8 (own_sh x0 16))), (.int (own_b8 (own_sh x0 8))), (.int (own_b8 x0))] ++ ws20) (.int (0 : Int32)) (own_b8 (own_sh x0 56)) (own_b8 (own_sh x0 48)) (own_b8 (own_sh x0 40)) (own_b8 (own_sh x0 32)) (own_b8 (own_sh x0 24)) (own_b8 (own_sh x0 16)) (own_b8 (own_sh x0 8)) (own_b8 x0) x0 r_TIMESTAMPED r_NUMBERED T20.heap n0 f24 S_TIMESTAMPED S_NUMBERED E_TIMESTAMPED E_NUMBERED F_TIMESTAMPED F_NUMBERED V20 rfl rfl rfl rfl rfl rfl rfl rfl (own_long_eq x0)) hZ (hw _ (List.mem_of_getElem? (i := 18) rfl)) (hw _ (List.mem_of_getElem? (i := 1) rfl)) (by decide) (by decide)) (g := (mkF m 104 #[.val (.long x0), .second, .val (.long x1), .second, .val (.int x2), .val (.int (0 : Int32)), .val (.ref r_TIMESTAMPED), .val (.ref b6), .val (.ref b20), .val (.long x1), .second, .val (.ref b20), .unset] [(.ref b20)])) rfl (by rw [hml]; rfl) (argsL := [(.ref b20)]) (rest := []) (lenOf pd_4 rfl) rfl (by show 2 * 0 + _ ≤ _; exact Nat.le_of_eq rfl) (hb hby at_104) (fun _ _ => ⟨rfl, rfl, (by decide : 2 + 0 ≤ _), (by decide : 46 + 0 ≤ _)⟩)
          dsimp only [Pt.U, Pt.locs, Pt.cells, Pt.slots] at X37 l37 y37 z37 st37 hQ37
          subst l37 y37 z37
          obtain ⟨hv37, N37q, e37⟩ := hQ37
          rw [show own_of x0 ((8 : Int32) + zr) r_TIMESTAMPED r_NUMBERED = .ref r_TIMESTAMPED from own_of_ts zr hz0 hz1 hT] at hv37
          subst hv37
          have N37 := Fr.app N20 N37q
          have pre37 : Go p.tables e below (s₁.setTop (entryFrame m #[(.long x0), (.long x1), (.int x2)] maxLocals)) T37 (mkF m 107 #[.val (.long x0), .second, .val (.long x1), .second, .val (.int x2), .val (.int (0 : Int32)), .val (.ref r_TIMESTAMPED), .val (.ref b6), .val (.ref b20), .val (.long x1), .second, .val (.ref b20), .unset] [(.ref r_TIMESTAMPED)]) := fun t k => pre28 t (st37 _ k)
          have pre38 : Go p.tables e below (s₁.setTop (entryFrame m #[(.long x0), (.long x1), (.int x2)] maxLocals)) T37 (mkF m 122 #[.val (.long x0), .second, .val (.long x1), .second, .val (.int x2), .val (.int (0 : Int32)), .val (.ref r_TIMESTAMPED), .val (.ref b6), .val (.ref b20), .val (.long x1), .second, .val (.ref b20), .val (.int (1 : Int32))] [(.long x0), (.ref r_TIMESTAMPED)]) := fun t k => pre37 t (by
              refine XS.aload X37.here hx rfl (hb hby at_107) rfl rfl ?_
              show Steps p.tables e below (T37.setTop (mkF m 109 #[.val (.long x0), .second, .val (.long x1), .second, .val (.int x2), .val (.int (0 : Int32)), .val (.ref r_TIMESTAMPED), .val (.ref b6), .val (.ref b20), .val (.long x1), .second, .val (.ref b20), .unset] [(.ref r_TIMESTAMPED), (.ref r_TIMESTAMPED)])) _
              refine Jvm.RoadKit.acmp (g := (mkF m 109 #[.val (.long x0), .second, .val (.long x1), .second, .val (.int x2), .val (.int (0 : Int32)), .val (.ref r_TIMESTAMPED), .val (.ref b6), .val (.ref b20), .val (.long x1), .second, .val (.ref b20), .unset] [(.ref r_TIMESTAMPED), (.ref r_TIMESTAMPED)])) X37 hx rfl rfl rfl (pc0 := 109) (pc' := 112) (same := true) rfl (hb hby at_109) rfl (decide_eq_true rfl) (by decide) (by decide) ?_
              show Steps p.tables e below (T37.setTop (mkF m 112 #[.val (.long x0), .second, .val (.long x1), .second, .val (.int x2), .val (.int (0 : Int32)), .val (.ref r_TIMESTAMPED), .val (.ref b6), .val (.ref b20), .val (.long x1), .second, .val (.ref b20), .unset] [])) _
              refine XS.iconst X37.here hx rfl (hb hby at_112) ?_
              show Steps p.tables e below (T37.setTop (mkF m 113 #[.val (.long x0), .second, .val (.long x1), .second, .val (.int x2), .val (.int (0 : Int32)), .val (.ref r_TIMESTAMPED), .val (.ref b6), .val (.ref b20), .val (.long x1), .second, .val (.ref b20), .unset] [(.int (1 : Int32))])) _
              refine XS.goto X37.here hx rfl (pc0 := 113) (pc' := 117) rfl (hb hby at_113) (by decide) (by decide) ?_
              show Steps p.tables e below (T37.setTop (mkF m 117 #[.val (.long x0), .second, .val (.long x1), .second, .val (.int x2), .val (.int (0 : Int32)), .val (.ref r_TIMESTAMPED), .val (.ref b6), .val (.ref b20), .val (.long x1), .second, .val (.ref b20), .unset] [(.int (1 : Int32))])) _
              refine XS.istore X37.here hx rfl (hb hby at_117) rfl (l' := #[.val (.long x0), .second, .val (.long x1), .second, .val (.int x2), .val (.int (0 : Int32)), .val (.ref r_TIMESTAMPED), .val (.ref b6), .val (.ref b20), .val (.long x1), .second, .val (.ref b20), .val (.int (1 : Int32))]) rfl ?_
              show Steps p.tables e below (T37.setTop (mkF m 119 #[.val (.long x0), .second, .val (.long x1), .second, .val (.int x2), .val (.int (0 : Int32)), .val (.ref r_TIMESTAMPED), .val (.ref b6), .val (.ref b20), .val (.long x1), .second, .val (.ref b20), .val (.int (1 : Int32))] [])) _
              refine XS.aload X37.here hx rfl (hb hby at_119) rfl rfl ?_
              show Steps p.tables e below (T37.setTop (mkF m 121 #[.val (.long x0), .second, .val (.long x1), .second, .val (.int x2), .val (.int (0 : Int32)), .val (.ref r_TIMESTAMPED), .val (.ref b6), .val (.ref b20), .val (.long x1), .second, .val (.ref b20), .val (.int (1 : Int32))] [(.ref r_TIMESTAMPED)])) _
              refine XS.lloadN X37.here hx rfl (hb hby at_121) rfl ?_
              exact k)
          obtain ⟨cq39, kq39, q39a, q39b, q39c⟩ := isOf hZ e37 (E_TIMESTAMPED.ext f24.2)
          obtain ⟨_, _, ⟨T39, L39, k39, n39⟩, -, X39, ⟨Lc39, hQ39, l39, y39, z39⟩, st39⟩ := X37.virtualBack hx (y := (⟨"com/example/fence/fence/service/ClaimFormat", "carries", "(J)Z"⟩ : MethodName)) (z := (⟨"com/example/fence/fence/service/ClaimFormat", "carries", "(J)Z"⟩ : MethodName)) hown (mvT hZ (hw _ (List.mem_of_getElem? (i := 35) rfl))) (mvT hZ (hw _ (List.mem_of_getElem? (i := 36) rfl))) (notFace_of_selects (args := #[]) (mvT hZ (hw _ (List.mem_of_getElem? (i := 38) rfl)))) (mvT hZ (hw _ (List.mem_of_getElem? (i := 38) rfl))) (mvT hZ (hw _ (List.mem_of_getElem? (i := 37) rfl))) (by decide) (backOf (W := 0) (rm_car l Z av0 hw [] r_TIMESTAMPED x0 r_TIMESTAMPED T20.heap n0 (S_TIMESTAMPED.ext f24.2)) hZ (hw _ (List.mem_of_getElem? (i := 39) rfl)) (hw _ (List.mem_of_getElem? (i := 1) rfl)) (by decide) (by decide)) q39a q39c (g := (mkF m 122 #[.val (.long x0), .second, .val (.long x1), .second, .val (.int x2), .val (.int (0 : Int32)), .val (.ref r_TIMESTAMPED), .val (.ref b6), .val (.ref b20), .val (.long x1), .second, .val (.ref b20), .val (.int (1 : Int32))] [(.long x0), (.ref r_TIMESTAMPED)])) rfl (by rw [hml]; rfl) (Steps.refl _) (argsL := [(.long x0)]) (rest := []) (lenOf pd_5 rfl) rfl (by show 2 * 0 + _ ≤ _; exact Nat.le_of_eq rfl) (hb hby at_122) (fun _ _ => ⟨rfl, e37, (by decide : 2 + 0 ≤ _), (by decide : 46 + 0 ≤ _)⟩)
          dsimp only [Pt.U, Pt.locs, Pt.cells, Pt.slots] at X39 l39 y39 z39 st39 hQ39
          subst l39 y39 z39
          obtain ⟨hv39, N39q, e39⟩ := hQ39
          rw [show own_car r_TIMESTAMPED r_TIMESTAMPED x0 = (1 : Int32) from (if_pos rfl).trans (if_neg hT)] at hv39
          subst hv39
          have N39 := Fr.app N37 N39q
          have pre39 : Go p.tables e below (s₁.setTop (entryFrame m #[(.long x0), (.long x1), (.int x2)] maxLocals)) T39 (mkF m 125 #[.val (.long x0), .second, .val (.long x1), .second, .val (.int x2), .val (.int (0 : Int32)), .val (.ref r_TIMESTAMPED), .val (.ref b6), .val (.ref b20), .val (.long x1), .second, .val (.ref b20), .val (.int (1 : Int32))] [(.int (1 : Int32))]) := fun t k => pre38 t (st39.trans k)
          have pre40 : Go p.tables e below (s₁.setTop (entryFrame m #[(.long x0), (.long x1), (.int x2)] maxLocals)) T39 (mkF m 135 #[.val (.long x0), .second, .val (.long x1), .second, .val (.int x2), .val (.int (0 : Int32)), .val (.ref r_TIMESTAMPED), .val (.ref b6), .val (.ref b20), .val (.long x1), .second, .val (.ref b20), .val (.int (1 : Int32))] [(.int (1 : Int32))]) := fun t k => pre39 t (by
              refine XS.iload X39.here hx rfl (hb hby at_125) rfl ?_
              show Steps p.tables e below (T39.setTop (mkF m 127 #[.val (.long x0), .second, .val (.long x1), .second, .val (.int x2), .val (.int (0 : Int32)), .val (.ref r_TIMESTAMPED), .val (.ref b6), .val (.ref b20), .val (.long x1), .second, .val (.ref b20), .val (.int (1 : Int32))] [(.int (1 : Int32)), (.int (1 : Int32))])) _
              refine XS.icmpNo X39.here hx rfl (hb hby at_127) rfl (teq (by decide)).2 ?_
              show Steps p.tables e below (T39.setTop (mkF m 130 #[.val (.long x0), .second, .val (.long x1), .second, .val (.int x2), .val (.int (0 : Int32)), .val (.ref r_TIMESTAMPED), .val (.ref b6), .val (.ref b20), .val (.long x1), .second, .val (.ref b20), .val (.int (1 : Int32))] [])) _
              refine XS.iconst X39.here hx rfl (hb hby at_130) ?_
              show Steps p.tables e below (T39.setTop (mkF m 131 #[.val (.long x0), .second, .val (.long x1), .second, .val (.int x2), .val (.int (0 : Int32)), .val (.ref r_TIMESTAMPED), .val (.ref b6), .val (.ref b20), .val (.long x1), .second, .val (.ref b20), .val (.int (1 : Int32))] [(.int (1 : Int32))])) _
              refine XS.goto X39.here hx rfl (pc0 := 131) (pc' := 135) rfl (hb hby at_131) (by decide) (by decide) ?_
              exact k)
          obtain ⟨fs, hr, hrun, hended, hW, hsame⟩ := X39.leave (v := some (.int (1 : Int32))) (fun h => by rw [Bd.returns] at h; cases h) (BodyLoose.notSynchronized Bd)
          refine ⟨_, _, pre40 _ ?_, hrun, hended, _, _, rfl, ?_, ⟨_, rfl⟩, hW, hsame.mono (Nat.le_of_ble_eq_true rfl) (Nat.le_of_ble_eq_true rfl)⟩
          · exact retN X39 hx (t := .boolean) Bd.returns (by simp) (hb hby at_135) hr
          · show Q_law Z x0 x1 x2 r_TIMESTAMPED r_NUMBERED h0 n0 _ T39.heap _
            rw [e39]
            exact ⟨rfl, N39⟩
      · -- hc27: False
        obtain ⟨w41, hw41⟩ : ∃ z : Int64, z = (x1 - x1 / (946684800000000000 : Int64) * (946684800000000000 : Int64)) := ⟨_, rfl⟩
        have pre42 : Go p.tables e below (s₁.setTop (entryFrame m #[(.long x0), (.long x1), (.int x2)] maxLocals)) T20 (mkF m 104 #[.val (.long x0), .second, .val (.long x1), .second, .val (.int x2), .val (.int (0 : Int32)), .val (.ref r_TIMESTAMPED), .val (.ref b6), .val (.ref b20), .val (.long w41), .second, .val (.ref b20), .unset] [(.ref b20)]) := fun t k => pre26 t (by
            refine XS.ifYes X20.here hx rfl (pc0 := 69) (pc' := 76) rfl (hb hby at_69) rfl ((if0 _ _).trans (flt (mt (lw_lt _ _).mp hc27)).2.1) (by decide) (by decide) ?_
            show Steps p.tables e below (T20.setTop (mkF m 76 #[.val (.long x0), .second, .val (.long x1), .second, .val (.int x2), .val (.int (0 : Int32)), .val (.ref r_TIMESTAMPED), .val (.ref b6), .val (.ref b20), .unset, .unset, .unset, .unset] [])) _
            refine XS.lloadN X20.here hx rfl (hb hby at_76) rfl ?_
            show Steps p.tables e below (T20.setTop (mkF m 77 #[.val (.long x0), .second, .val (.long x1), .second, .val (.int x2), .val (.int (0 : Int32)), .val (.ref r_TIMESTAMPED), .val (.ref b6), .val (.ref b20), .unset, .unset, .unset, .unset] [(.long x1)])) _
            refine X20.ldc2Long hx hown (mvT hZ (hw _ (List.mem_of_getElem? (i := 15) rfl))) (g := (mkF m 77 #[.val (.long x0), .second, .val (.long x1), .second, .val (.int x2), .val (.int (0 : Int32)), .val (.ref r_TIMESTAMPED), .val (.ref b6), .val (.ref b20), .unset, .unset, .unset, .unset] [(.long x1)])) rfl (hb hby at_77) _ ?_
            show Steps p.tables e below (T20.setTop (mkF m 80 #[.val (.long x0), .second, .val (.long x1), .second, .val (.int x2), .val (.int (0 : Int32)), .val (.ref r_TIMESTAMPED), .val (.ref b6), .val (.ref b20), .unset, .unset, .unset, .unset] [(.long (946684800000000000 : Int64)), (.long x1)])) _
            refine XS.lrem X20.here hx rfl (hb hby at_80) rfl (by decide) ?_
            show Steps p.tables e below (T20.setTop (mkF m 81 #[.val (.long x0), .second, .val (.long x1), .second, .val (.int x2), .val (.int (0 : Int32)), .val (.ref r_TIMESTAMPED), .val (.ref b6), .val (.ref b20), .unset, .unset, .unset, .unset] [(.long (x1 - x1 / (946684800000000000 : Int64) * (946684800000000000 : Int64)))])) _
            refine XS.lstore X20.here hx rfl (x := w41) (rest := []) (hb hby at_81) (by subst hw41; rfl) (l' := #[.val (.long x0), .second, .val (.long x1), .second, .val (.int x2), .val (.int (0 : Int32)), .val (.ref r_TIMESTAMPED), .val (.ref b6), .val (.ref b20), .val (.long w41), .second, .unset, .unset]) rfl ?_
            show Steps p.tables e below (T20.setTop (mkF m 83 #[.val (.long x0), .second, .val (.long x1), .second, .val (.int x2), .val (.int (0 : Int32)), .val (.ref r_TIMESTAMPED), .val (.ref b6), .val (.ref b20), .val (.long w41), .second, .unset, .unset] [])) _
            refine XS.iload X20.here hx rfl (hb hby at_83) rfl ?_
            show Steps p.tables e below (T20.setTop (mkF m 85 #[.val (.long x0), .second, .val (.long x1), .second, .val (.int x2), .val (.int (0 : Int32)), .val (.ref r_TIMESTAMPED), .val (.ref b6), .val (.ref b20), .val (.long w41), .second, .unset, .unset] [(.int (0 : Int32))])) _
            refine XS.ifYes X20.here hx rfl (pc0 := 85) (pc' := 98) rfl (hb hby at_85) rfl ((if0 _ _).trans (teq (by decide)).1) (by decide) (by decide) ?_
            show Steps p.tables e below (T20.setTop (mkF m 98 #[.val (.long x0), .second, .val (.long x1), .second, .val (.int x2), .val (.int (0 : Int32)), .val (.ref r_TIMESTAMPED), .val (.ref b6), .val (.ref b20), .val (.long w41), .second, .unset, .unset] [])) _
            refine XS.aload X20.here hx rfl (hb hby at_98) rfl rfl ?_
            show Steps p.tables e below (T20.setTop (mkF m 100 #[.val (.long x0), .second, .val (.long x1), .second, .val (.int x2), .val (.int (0 : Int32)), .val (.ref r_TIMESTAMPED), .val (.ref b6), .val (.ref b20), .val (.long w41), .second, .unset, .unset] [(.ref b20)])) _
            refine XS.astore X20.here hx rfl (hb hby at_100) rfl rfl (l' := #[.val (.long x0), .second, .val (.long x1), .second, .val (.int x2), .val (.int (0 : Int32)), .val (.ref r_TIMESTAMPED), .val (.ref b6), .val (.ref b20), .val (.long w41), .second, .val (.ref b20), .unset]) rfl ?_
            show Steps p.tables e below (T20.setTop (mkF m 102 #[.val (.long x0), .second, .val (.long x1), .second, .val (.int x2), .val (.int (0 : Int32)), .val (.ref r_TIMESTAMPED), .val (.ref b6), .val (.ref b20), .val (.long w41), .second, .val (.ref b20), .unset] [])) _
            refine XS.aload X20.here hx rfl (hb hby at_102) rfl rfl ?_
            exact k)
        by_cases hT : x0 < (946684800000000000 : Int64)
        · -- True
          by_cases hI : own_isC ((8 : Int32) + zr) (8 : Int32) = 0
          · -- True
            obtain ⟨_, _, ⟨T43, L43, k43, n43⟩, -, X43, ⟨Lc43, hQ43, l43, y43, z43⟩, st43⟩ := Jvm.LawKit.callS X20 hx (y := (⟨"com/example/fence/fence/service/ClaimFormat", "ofColumn", "([B)Lcom/example/fence/fence/service/ClaimFormat;"⟩ : MethodName)) hown (mvT hZ (hw _ (List.mem_of_getElem? (i := 16) rfl))) (mvT hZ (hw _ (List.mem_of_getElem? (i := 17) rfl))) (mvT hZ (hw _ (List.mem_of_getElem? (i := 1) rfl))) (mvT hZ (hw _ (List.mem_of_getElem? (i := 18) rfl))) (by decide) (backOf (W := 0) (rm_ofc l Z av0 hw [] b20 kc20 ((8 : Int32) + zr) ([(.int (own_b8 (own_sh x0 56))), (.int (own_b8 (own_sh x0 48))), (.int (own_b8 (own_sh x0 40))), (.int (own_b8 (own_sh x0 32))), (.int (own_b8 (own_sh x0 24))), (.int (own_b8 (own_sh x0 16))), (.int (own_b8 (own_sh x0 8))), (.int (own_b8 x0))] ++ ws20) (.int (0 : Int32)) (own_b8 (own_sh x0 56)) (own_b8 (own_sh x0 48)) (own_b8 (own_sh x0 40)) (own_b8 (own_sh x0 32)) (own_b8 (own_sh x0 24)) (own_b8 (own_sh x0 16)) (own_b8 (own_sh x0 8)) (own_b8 x0) x0 r_TIMESTAMPED r_NUMBERED T20.heap n0 f24 S_TIMESTAMPED S_NUMBERED E_TIMESTAMPED E_NUMBERED F_TIMESTAMPED F_NUMBERED V20 rfl rfl rfl rfl rfl rfl rfl rfl (own_long_eq x0)) hZ (hw _ (List.mem_of_getElem? (i := 18) rfl)) (hw _ (List.mem_of_getElem? (i := 1) rfl)) (by decide) (by decide)) (g := (mkF m 104 #[.val (.long x0), .second, .val (.long x1), .second, .val (.int x2), .val (.int (0 : Int32)), .val (.ref r_TIMESTAMPED), .val (.ref b6), .val (.ref b20), .val (.long w41), .second, .val (.ref b20), .unset] [(.ref b20)])) rfl (by rw [hml]; rfl) (argsL := [(.ref b20)]) (rest := []) (lenOf pd_4 rfl) rfl (by show 2 * 0 + _ ≤ _; exact Nat.le_of_eq rfl) (hb hby at_104) (fun _ _ => ⟨rfl, rfl, (by decide : 2 + 0 ≤ _), (by decide : 46 + 0 ≤ _)⟩)
            dsimp only [Pt.U, Pt.locs, Pt.cells, Pt.slots] at X43 l43 y43 z43 st43 hQ43
            subst l43 y43 z43
            obtain ⟨hv43, N43q, e43⟩ := hQ43
            rw [show own_of x0 ((8 : Int32) + zr) r_TIMESTAMPED r_NUMBERED = .null from own_of_lo zr hz0 hz1 hT hI] at hv43
            subst hv43
            have N43 := Fr.app N20 N43q
            have pre43 : Go p.tables e below (s₁.setTop (entryFrame m #[(.long x0), (.long x1), (.int x2)] maxLocals)) T43 (mkF m 107 #[.val (.long x0), .second, .val (.long x1), .second, .val (.int x2), .val (.int (0 : Int32)), .val (.ref r_TIMESTAMPED), .val (.ref b6), .val (.ref b20), .val (.long w41), .second, .val (.ref b20), .unset] [.null]) := fun t k => pre42 t (st43 _ k)
            have pre44 : Go p.tables e below (s₁.setTop (entryFrame m #[(.long x0), (.long x1), (.int x2)] maxLocals)) T43 (mkF m 122 #[.val (.long x0), .second, .val (.long x1), .second, .val (.int x2), .val (.int (0 : Int32)), .val (.ref r_TIMESTAMPED), .val (.ref b6), .val (.ref b20), .val (.long w41), .second, .val (.ref b20), .val (.int (0 : Int32))] [(.long x0), (.ref r_TIMESTAMPED)]) := fun t k => pre43 t (by
                refine XS.aload X43.here hx rfl (hb hby at_107) rfl rfl ?_
                show Steps p.tables e below (T43.setTop (mkF m 109 #[.val (.long x0), .second, .val (.long x1), .second, .val (.int x2), .val (.int (0 : Int32)), .val (.ref r_TIMESTAMPED), .val (.ref b6), .val (.ref b20), .val (.long w41), .second, .val (.ref b20), .unset] [(.ref r_TIMESTAMPED), .null])) _
                refine Jvm.RoadKit.acmp (g := (mkF m 109 #[.val (.long x0), .second, .val (.long x1), .second, .val (.int x2), .val (.int (0 : Int32)), .val (.ref r_TIMESTAMPED), .val (.ref b6), .val (.ref b20), .val (.long w41), .second, .val (.ref b20), .unset] [(.ref r_TIMESTAMPED), .null])) X43 hx rfl rfl rfl (pc0 := 109) (pc' := 116) (same := false) rfl (hb hby at_109) rfl (decide_eq_false nofun) (by decide) (by decide) ?_
                show Steps p.tables e below (T43.setTop (mkF m 116 #[.val (.long x0), .second, .val (.long x1), .second, .val (.int x2), .val (.int (0 : Int32)), .val (.ref r_TIMESTAMPED), .val (.ref b6), .val (.ref b20), .val (.long w41), .second, .val (.ref b20), .unset] [])) _
                refine XS.iconst X43.here hx rfl (hb hby at_116) ?_
                show Steps p.tables e below (T43.setTop (mkF m 117 #[.val (.long x0), .second, .val (.long x1), .second, .val (.int x2), .val (.int (0 : Int32)), .val (.ref r_TIMESTAMPED), .val (.ref b6), .val (.ref b20), .val (.long w41), .second, .val (.ref b20), .unset] [(.int (0 : Int32))])) _
                refine XS.istore X43.here hx rfl (hb hby at_117) rfl (l' := #[.val (.long x0), .second, .val (.long x1), .second, .val (.int x2), .val (.int (0 : Int32)), .val (.ref r_TIMESTAMPED), .val (.ref b6), .val (.ref b20), .val (.long w41), .second, .val (.ref b20), .val (.int (0 : Int32))]) rfl ?_
                show Steps p.tables e below (T43.setTop (mkF m 119 #[.val (.long x0), .second, .val (.long x1), .second, .val (.int x2), .val (.int (0 : Int32)), .val (.ref r_TIMESTAMPED), .val (.ref b6), .val (.ref b20), .val (.long w41), .second, .val (.ref b20), .val (.int (0 : Int32))] [])) _
                refine XS.aload X43.here hx rfl (hb hby at_119) rfl rfl ?_
                show Steps p.tables e below (T43.setTop (mkF m 121 #[.val (.long x0), .second, .val (.long x1), .second, .val (.int x2), .val (.int (0 : Int32)), .val (.ref r_TIMESTAMPED), .val (.ref b6), .val (.ref b20), .val (.long w41), .second, .val (.ref b20), .val (.int (0 : Int32))] [(.ref r_TIMESTAMPED)])) _
                refine XS.lloadN X43.here hx rfl (hb hby at_121) rfl ?_
                exact k)
            obtain ⟨cq45, kq45, q45a, q45b, q45c⟩ := isOf hZ e43 (E_TIMESTAMPED.ext f24.2)
            obtain ⟨_, _, ⟨T45, L45, k45, n45⟩, -, X45, ⟨Lc45, hQ45, l45, y45, z45⟩, st45⟩ := X43.virtualBack hx (y := (⟨"com/example/fence/fence/service/ClaimFormat", "carries", "(J)Z"⟩ : MethodName)) (z := (⟨"com/example/fence/fence/service/ClaimFormat", "carries", "(J)Z"⟩ : MethodName)) hown (mvT hZ (hw _ (List.mem_of_getElem? (i := 35) rfl))) (mvT hZ (hw _ (List.mem_of_getElem? (i := 36) rfl))) (notFace_of_selects (args := #[]) (mvT hZ (hw _ (List.mem_of_getElem? (i := 38) rfl)))) (mvT hZ (hw _ (List.mem_of_getElem? (i := 38) rfl))) (mvT hZ (hw _ (List.mem_of_getElem? (i := 37) rfl))) (by decide) (backOf (W := 0) (rm_car l Z av0 hw [] r_TIMESTAMPED x0 r_TIMESTAMPED T20.heap n0 (S_TIMESTAMPED.ext f24.2)) hZ (hw _ (List.mem_of_getElem? (i := 39) rfl)) (hw _ (List.mem_of_getElem? (i := 1) rfl)) (by decide) (by decide)) q45a q45c (g := (mkF m 122 #[.val (.long x0), .second, .val (.long x1), .second, .val (.int x2), .val (.int (0 : Int32)), .val (.ref r_TIMESTAMPED), .val (.ref b6), .val (.ref b20), .val (.long w41), .second, .val (.ref b20), .val (.int (0 : Int32))] [(.long x0), (.ref r_TIMESTAMPED)])) rfl (by rw [hml]; rfl) (Steps.refl _) (argsL := [(.long x0)]) (rest := []) (lenOf pd_5 rfl) rfl (by show 2 * 0 + _ ≤ _; exact Nat.le_of_eq rfl) (hb hby at_122) (fun _ _ => ⟨rfl, e43, (by decide : 2 + 0 ≤ _), (by decide : 46 + 0 ≤ _)⟩)
            dsimp only [Pt.U, Pt.locs, Pt.cells, Pt.slots] at X45 l45 y45 z45 st45 hQ45
            subst l45 y45 z45
            obtain ⟨hv45, N45q, e45⟩ := hQ45
            rw [show own_car r_TIMESTAMPED r_TIMESTAMPED x0 = (0 : Int32) from (if_pos rfl).trans (if_pos hT)] at hv45
            subst hv45
            have N45 := Fr.app N43 N45q
            have pre45 : Go p.tables e below (s₁.setTop (entryFrame m #[(.long x0), (.long x1), (.int x2)] maxLocals)) T45 (mkF m 125 #[.val (.long x0), .second, .val (.long x1), .second, .val (.int x2), .val (.int (0 : Int32)), .val (.ref r_TIMESTAMPED), .val (.ref b6), .val (.ref b20), .val (.long w41), .second, .val (.ref b20), .val (.int (0 : Int32))] [(.int (0 : Int32))]) := fun t k => pre44 t (st45.trans k)
            have pre46 : Go p.tables e below (s₁.setTop (entryFrame m #[(.long x0), (.long x1), (.int x2)] maxLocals)) T45 (mkF m 135 #[.val (.long x0), .second, .val (.long x1), .second, .val (.int x2), .val (.int (0 : Int32)), .val (.ref r_TIMESTAMPED), .val (.ref b6), .val (.ref b20), .val (.long w41), .second, .val (.ref b20), .val (.int (0 : Int32))] [(.int (1 : Int32))]) := fun t k => pre45 t (by
                refine XS.iload X45.here hx rfl (hb hby at_125) rfl ?_
                show Steps p.tables e below (T45.setTop (mkF m 127 #[.val (.long x0), .second, .val (.long x1), .second, .val (.int x2), .val (.int (0 : Int32)), .val (.ref r_TIMESTAMPED), .val (.ref b6), .val (.ref b20), .val (.long w41), .second, .val (.ref b20), .val (.int (0 : Int32))] [(.int (0 : Int32)), (.int (0 : Int32))])) _
                refine XS.icmpNo X45.here hx rfl (hb hby at_127) rfl (teq (by decide)).2 ?_
                show Steps p.tables e below (T45.setTop (mkF m 130 #[.val (.long x0), .second, .val (.long x1), .second, .val (.int x2), .val (.int (0 : Int32)), .val (.ref r_TIMESTAMPED), .val (.ref b6), .val (.ref b20), .val (.long w41), .second, .val (.ref b20), .val (.int (0 : Int32))] [])) _
                refine XS.iconst X45.here hx rfl (hb hby at_130) ?_
                show Steps p.tables e below (T45.setTop (mkF m 131 #[.val (.long x0), .second, .val (.long x1), .second, .val (.int x2), .val (.int (0 : Int32)), .val (.ref r_TIMESTAMPED), .val (.ref b6), .val (.ref b20), .val (.long w41), .second, .val (.ref b20), .val (.int (0 : Int32))] [(.int (1 : Int32))])) _
                refine XS.goto X45.here hx rfl (pc0 := 131) (pc' := 135) rfl (hb hby at_131) (by decide) (by decide) ?_
                exact k)
            obtain ⟨fs, hr, hrun, hended, hW, hsame⟩ := X45.leave (v := some (.int (1 : Int32))) (fun h => by rw [Bd.returns] at h; cases h) (BodyLoose.notSynchronized Bd)
            refine ⟨_, _, pre46 _ ?_, hrun, hended, _, _, rfl, ?_, ⟨_, rfl⟩, hW, hsame.mono (Nat.le_of_ble_eq_true rfl) (Nat.le_of_ble_eq_true rfl)⟩
            · exact retN X45 hx (t := .boolean) Bd.returns (by simp) (hb hby at_135) hr
            · show Q_law Z x0 x1 x2 r_TIMESTAMPED r_NUMBERED h0 n0 _ T45.heap _
              rw [e45]
              exact ⟨rfl, N45⟩
          · -- False
            obtain ⟨_, _, ⟨T47, L47, k47, n47⟩, -, X47, ⟨Lc47, hQ47, l47, y47, z47⟩, st47⟩ := Jvm.LawKit.callS X20 hx (y := (⟨"com/example/fence/fence/service/ClaimFormat", "ofColumn", "([B)Lcom/example/fence/fence/service/ClaimFormat;"⟩ : MethodName)) hown (mvT hZ (hw _ (List.mem_of_getElem? (i := 16) rfl))) (mvT hZ (hw _ (List.mem_of_getElem? (i := 17) rfl))) (mvT hZ (hw _ (List.mem_of_getElem? (i := 1) rfl))) (mvT hZ (hw _ (List.mem_of_getElem? (i := 18) rfl))) (by decide) (backOf (W := 0) (rm_ofc l Z av0 hw [] b20 kc20 ((8 : Int32) + zr) ([(.int (own_b8 (own_sh x0 56))), (.int (own_b8 (own_sh x0 48))), (.int (own_b8 (own_sh x0 40))), (.int (own_b8 (own_sh x0 32))), (.int (own_b8 (own_sh x0 24))), (.int (own_b8 (own_sh x0 16))), (.int (own_b8 (own_sh x0 8))), (.int (own_b8 x0))] ++ ws20) (.int (0 : Int32)) (own_b8 (own_sh x0 56)) (own_b8 (own_sh x0 48)) (own_b8 (own_sh x0 40)) (own_b8 (own_sh x0 32)) (own_b8 (own_sh x0 24)) (own_b8 (own_sh x0 16)) (own_b8 (own_sh x0 8)) (own_b8 x0) x0 r_TIMESTAMPED r_NUMBERED T20.heap n0 f24 S_TIMESTAMPED S_NUMBERED E_TIMESTAMPED E_NUMBERED F_TIMESTAMPED F_NUMBERED V20 rfl rfl rfl rfl rfl rfl rfl rfl (own_long_eq x0)) hZ (hw _ (List.mem_of_getElem? (i := 18) rfl)) (hw _ (List.mem_of_getElem? (i := 1) rfl)) (by decide) (by decide)) (g := (mkF m 104 #[.val (.long x0), .second, .val (.long x1), .second, .val (.int x2), .val (.int (0 : Int32)), .val (.ref r_TIMESTAMPED), .val (.ref b6), .val (.ref b20), .val (.long w41), .second, .val (.ref b20), .unset] [(.ref b20)])) rfl (by rw [hml]; rfl) (argsL := [(.ref b20)]) (rest := []) (lenOf pd_4 rfl) rfl (by show 2 * 0 + _ ≤ _; exact Nat.le_of_eq rfl) (hb hby at_104) (fun _ _ => ⟨rfl, rfl, (by decide : 2 + 0 ≤ _), (by decide : 46 + 0 ≤ _)⟩)
            dsimp only [Pt.U, Pt.locs, Pt.cells, Pt.slots] at X47 l47 y47 z47 st47 hQ47
            subst l47 y47 z47
            obtain ⟨hv47, N47q, e47⟩ := hQ47
            rw [show own_of x0 ((8 : Int32) + zr) r_TIMESTAMPED r_NUMBERED = .ref r_NUMBERED from own_of_hi zr hz0 hz1 hT hI] at hv47
            subst hv47
            have N47 := Fr.app N20 N47q
            have pre47 : Go p.tables e below (s₁.setTop (entryFrame m #[(.long x0), (.long x1), (.int x2)] maxLocals)) T47 (mkF m 107 #[.val (.long x0), .second, .val (.long x1), .second, .val (.int x2), .val (.int (0 : Int32)), .val (.ref r_TIMESTAMPED), .val (.ref b6), .val (.ref b20), .val (.long w41), .second, .val (.ref b20), .unset] [(.ref r_NUMBERED)]) := fun t k => pre42 t (st47 _ k)
            have pre48 : Go p.tables e below (s₁.setTop (entryFrame m #[(.long x0), (.long x1), (.int x2)] maxLocals)) T47 (mkF m 122 #[.val (.long x0), .second, .val (.long x1), .second, .val (.int x2), .val (.int (0 : Int32)), .val (.ref r_TIMESTAMPED), .val (.ref b6), .val (.ref b20), .val (.long w41), .second, .val (.ref b20), .val (.int (0 : Int32))] [(.long x0), (.ref r_TIMESTAMPED)]) := fun t k => pre47 t (by
                refine XS.aload X47.here hx rfl (hb hby at_107) rfl rfl ?_
                show Steps p.tables e below (T47.setTop (mkF m 109 #[.val (.long x0), .second, .val (.long x1), .second, .val (.int x2), .val (.int (0 : Int32)), .val (.ref r_TIMESTAMPED), .val (.ref b6), .val (.ref b20), .val (.long w41), .second, .val (.ref b20), .unset] [(.ref r_TIMESTAMPED), (.ref r_NUMBERED)])) _
                refine Jvm.RoadKit.acmp (g := (mkF m 109 #[.val (.long x0), .second, .val (.long x1), .second, .val (.int x2), .val (.int (0 : Int32)), .val (.ref r_TIMESTAMPED), .val (.ref b6), .val (.ref b20), .val (.long w41), .second, .val (.ref b20), .unset] [(.ref r_TIMESTAMPED), (.ref r_NUMBERED)])) X47 hx rfl rfl rfl (pc0 := 109) (pc' := 116) (same := false) rfl (hb hby at_109) rfl (decide_eq_false fun q => (ne_exa E_NUMBERED E_TIMESTAMPED (by decide)) (Value.ref.inj q)) (by decide) (by decide) ?_
                show Steps p.tables e below (T47.setTop (mkF m 116 #[.val (.long x0), .second, .val (.long x1), .second, .val (.int x2), .val (.int (0 : Int32)), .val (.ref r_TIMESTAMPED), .val (.ref b6), .val (.ref b20), .val (.long w41), .second, .val (.ref b20), .unset] [])) _
                refine XS.iconst X47.here hx rfl (hb hby at_116) ?_
                show Steps p.tables e below (T47.setTop (mkF m 117 #[.val (.long x0), .second, .val (.long x1), .second, .val (.int x2), .val (.int (0 : Int32)), .val (.ref r_TIMESTAMPED), .val (.ref b6), .val (.ref b20), .val (.long w41), .second, .val (.ref b20), .unset] [(.int (0 : Int32))])) _
                refine XS.istore X47.here hx rfl (hb hby at_117) rfl (l' := #[.val (.long x0), .second, .val (.long x1), .second, .val (.int x2), .val (.int (0 : Int32)), .val (.ref r_TIMESTAMPED), .val (.ref b6), .val (.ref b20), .val (.long w41), .second, .val (.ref b20), .val (.int (0 : Int32))]) rfl ?_
                show Steps p.tables e below (T47.setTop (mkF m 119 #[.val (.long x0), .second, .val (.long x1), .second, .val (.int x2), .val (.int (0 : Int32)), .val (.ref r_TIMESTAMPED), .val (.ref b6), .val (.ref b20), .val (.long w41), .second, .val (.ref b20), .val (.int (0 : Int32))] [])) _
                refine XS.aload X47.here hx rfl (hb hby at_119) rfl rfl ?_
                show Steps p.tables e below (T47.setTop (mkF m 121 #[.val (.long x0), .second, .val (.long x1), .second, .val (.int x2), .val (.int (0 : Int32)), .val (.ref r_TIMESTAMPED), .val (.ref b6), .val (.ref b20), .val (.long w41), .second, .val (.ref b20), .val (.int (0 : Int32))] [(.ref r_TIMESTAMPED)])) _
                refine XS.lloadN X47.here hx rfl (hb hby at_121) rfl ?_
                exact k)
            obtain ⟨cq49, kq49, q49a, q49b, q49c⟩ := isOf hZ e47 (E_TIMESTAMPED.ext f24.2)
            obtain ⟨_, _, ⟨T49, L49, k49, n49⟩, -, X49, ⟨Lc49, hQ49, l49, y49, z49⟩, st49⟩ := X47.virtualBack hx (y := (⟨"com/example/fence/fence/service/ClaimFormat", "carries", "(J)Z"⟩ : MethodName)) (z := (⟨"com/example/fence/fence/service/ClaimFormat", "carries", "(J)Z"⟩ : MethodName)) hown (mvT hZ (hw _ (List.mem_of_getElem? (i := 35) rfl))) (mvT hZ (hw _ (List.mem_of_getElem? (i := 36) rfl))) (notFace_of_selects (args := #[]) (mvT hZ (hw _ (List.mem_of_getElem? (i := 38) rfl)))) (mvT hZ (hw _ (List.mem_of_getElem? (i := 38) rfl))) (mvT hZ (hw _ (List.mem_of_getElem? (i := 37) rfl))) (by decide) (backOf (W := 0) (rm_car l Z av0 hw [] r_TIMESTAMPED x0 r_TIMESTAMPED T20.heap n0 (S_TIMESTAMPED.ext f24.2)) hZ (hw _ (List.mem_of_getElem? (i := 39) rfl)) (hw _ (List.mem_of_getElem? (i := 1) rfl)) (by decide) (by decide)) q49a q49c (g := (mkF m 122 #[.val (.long x0), .second, .val (.long x1), .second, .val (.int x2), .val (.int (0 : Int32)), .val (.ref r_TIMESTAMPED), .val (.ref b6), .val (.ref b20), .val (.long w41), .second, .val (.ref b20), .val (.int (0 : Int32))] [(.long x0), (.ref r_TIMESTAMPED)])) rfl (by rw [hml]; rfl) (Steps.refl _) (argsL := [(.long x0)]) (rest := []) (lenOf pd_5 rfl) rfl (by show 2 * 0 + _ ≤ _; exact Nat.le_of_eq rfl) (hb hby at_122) (fun _ _ => ⟨rfl, e47, (by decide : 2 + 0 ≤ _), (by decide : 46 + 0 ≤ _)⟩)
            dsimp only [Pt.U, Pt.locs, Pt.cells, Pt.slots] at X49 l49 y49 z49 st49 hQ49
            subst l49 y49 z49
            obtain ⟨hv49, N49q, e49⟩ := hQ49
            rw [show own_car r_TIMESTAMPED r_TIMESTAMPED x0 = (0 : Int32) from (if_pos rfl).trans (if_pos hT)] at hv49
            subst hv49
            have N49 := Fr.app N47 N49q
            have pre49 : Go p.tables e below (s₁.setTop (entryFrame m #[(.long x0), (.long x1), (.int x2)] maxLocals)) T49 (mkF m 125 #[.val (.long x0), .second, .val (.long x1), .second, .val (.int x2), .val (.int (0 : Int32)), .val (.ref r_TIMESTAMPED), .val (.ref b6), .val (.ref b20), .val (.long w41), .second, .val (.ref b20), .val (.int (0 : Int32))] [(.int (0 : Int32))]) := fun t k => pre48 t (st49.trans k)
            have pre50 : Go p.tables e below (s₁.setTop (entryFrame m #[(.long x0), (.long x1), (.int x2)] maxLocals)) T49 (mkF m 135 #[.val (.long x0), .second, .val (.long x1), .second, .val (.int x2), .val (.int (0 : Int32)), .val (.ref r_TIMESTAMPED), .val (.ref b6), .val (.ref b20), .val (.long w41), .second, .val (.ref b20), .val (.int (0 : Int32))] [(.int (1 : Int32))]) := fun t k => pre49 t (by
                refine XS.iload X49.here hx rfl (hb hby at_125) rfl ?_
                show Steps p.tables e below (T49.setTop (mkF m 127 #[.val (.long x0), .second, .val (.long x1), .second, .val (.int x2), .val (.int (0 : Int32)), .val (.ref r_TIMESTAMPED), .val (.ref b6), .val (.ref b20), .val (.long w41), .second, .val (.ref b20), .val (.int (0 : Int32))] [(.int (0 : Int32)), (.int (0 : Int32))])) _
                refine XS.icmpNo X49.here hx rfl (hb hby at_127) rfl (teq (by decide)).2 ?_
                show Steps p.tables e below (T49.setTop (mkF m 130 #[.val (.long x0), .second, .val (.long x1), .second, .val (.int x2), .val (.int (0 : Int32)), .val (.ref r_TIMESTAMPED), .val (.ref b6), .val (.ref b20), .val (.long w41), .second, .val (.ref b20), .val (.int (0 : Int32))] [])) _
                refine XS.iconst X49.here hx rfl (hb hby at_130) ?_
                show Steps p.tables e below (T49.setTop (mkF m 131 #[.val (.long x0), .second, .val (.long x1), .second, .val (.int x2), .val (.int (0 : Int32)), .val (.ref r_TIMESTAMPED), .val (.ref b6), .val (.ref b20), .val (.long w41), .second, .val (.ref b20), .val (.int (0 : Int32))] [(.int (1 : Int32))])) _
                refine XS.goto X49.here hx rfl (pc0 := 131) (pc' := 135) rfl (hb hby at_131) (by decide) (by decide) ?_
                exact k)
            obtain ⟨fs, hr, hrun, hended, hW, hsame⟩ := X49.leave (v := some (.int (1 : Int32))) (fun h => by rw [Bd.returns] at h; cases h) (BodyLoose.notSynchronized Bd)
            refine ⟨_, _, pre50 _ ?_, hrun, hended, _, _, rfl, ?_, ⟨_, rfl⟩, hW, hsame.mono (Nat.le_of_ble_eq_true rfl) (Nat.le_of_ble_eq_true rfl)⟩
            · exact retN X49 hx (t := .boolean) Bd.returns (by simp) (hb hby at_135) hr
            · show Q_law Z x0 x1 x2 r_TIMESTAMPED r_NUMBERED h0 n0 _ T49.heap _
              rw [e49]
              exact ⟨rfl, N49⟩
        · -- False
          obtain ⟨_, _, ⟨T51, L51, k51, n51⟩, -, X51, ⟨Lc51, hQ51, l51, y51, z51⟩, st51⟩ := Jvm.LawKit.callS X20 hx (y := (⟨"com/example/fence/fence/service/ClaimFormat", "ofColumn", "([B)Lcom/example/fence/fence/service/ClaimFormat;"⟩ : MethodName)) hown (mvT hZ (hw _ (List.mem_of_getElem? (i := 16) rfl))) (mvT hZ (hw _ (List.mem_of_getElem? (i := 17) rfl))) (mvT hZ (hw _ (List.mem_of_getElem? (i := 1) rfl))) (mvT hZ (hw _ (List.mem_of_getElem? (i := 18) rfl))) (by decide) (backOf (W := 0) (rm_ofc l Z av0 hw [] b20 kc20 ((8 : Int32) + zr) ([(.int (own_b8 (own_sh x0 56))), (.int (own_b8 (own_sh x0 48))), (.int (own_b8 (own_sh x0 40))), (.int (own_b8 (own_sh x0 32))), (.int (own_b8 (own_sh x0 24))), (.int (own_b8 (own_sh x0 16))), (.int (own_b8 (own_sh x0 8))), (.int (own_b8 x0))] ++ ws20) (.int (0 : Int32)) (own_b8 (own_sh x0 56)) (own_b8 (own_sh x0 48)) (own_b8 (own_sh x0 40)) (own_b8 (own_sh x0 32)) (own_b8 (own_sh x0 24)) (own_b8 (own_sh x0 16)) (own_b8 (own_sh x0 8)) (own_b8 x0) x0 r_TIMESTAMPED r_NUMBERED T20.heap n0 f24 S_TIMESTAMPED S_NUMBERED E_TIMESTAMPED E_NUMBERED F_TIMESTAMPED F_NUMBERED V20 rfl rfl rfl rfl rfl rfl rfl rfl (own_long_eq x0)) hZ (hw _ (List.mem_of_getElem? (i := 18) rfl)) (hw _ (List.mem_of_getElem? (i := 1) rfl)) (by decide) (by decide)) (g := (mkF m 104 #[.val (.long x0), .second, .val (.long x1), .second, .val (.int x2), .val (.int (0 : Int32)), .val (.ref r_TIMESTAMPED), .val (.ref b6), .val (.ref b20), .val (.long w41), .second, .val (.ref b20), .unset] [(.ref b20)])) rfl (by rw [hml]; rfl) (argsL := [(.ref b20)]) (rest := []) (lenOf pd_4 rfl) rfl (by show 2 * 0 + _ ≤ _; exact Nat.le_of_eq rfl) (hb hby at_104) (fun _ _ => ⟨rfl, rfl, (by decide : 2 + 0 ≤ _), (by decide : 46 + 0 ≤ _)⟩)
          dsimp only [Pt.U, Pt.locs, Pt.cells, Pt.slots] at X51 l51 y51 z51 st51 hQ51
          subst l51 y51 z51
          obtain ⟨hv51, N51q, e51⟩ := hQ51
          rw [show own_of x0 ((8 : Int32) + zr) r_TIMESTAMPED r_NUMBERED = .ref r_TIMESTAMPED from own_of_ts zr hz0 hz1 hT] at hv51
          subst hv51
          have N51 := Fr.app N20 N51q
          have pre51 : Go p.tables e below (s₁.setTop (entryFrame m #[(.long x0), (.long x1), (.int x2)] maxLocals)) T51 (mkF m 107 #[.val (.long x0), .second, .val (.long x1), .second, .val (.int x2), .val (.int (0 : Int32)), .val (.ref r_TIMESTAMPED), .val (.ref b6), .val (.ref b20), .val (.long w41), .second, .val (.ref b20), .unset] [(.ref r_TIMESTAMPED)]) := fun t k => pre42 t (st51 _ k)
          have pre52 : Go p.tables e below (s₁.setTop (entryFrame m #[(.long x0), (.long x1), (.int x2)] maxLocals)) T51 (mkF m 122 #[.val (.long x0), .second, .val (.long x1), .second, .val (.int x2), .val (.int (0 : Int32)), .val (.ref r_TIMESTAMPED), .val (.ref b6), .val (.ref b20), .val (.long w41), .second, .val (.ref b20), .val (.int (1 : Int32))] [(.long x0), (.ref r_TIMESTAMPED)]) := fun t k => pre51 t (by
              refine XS.aload X51.here hx rfl (hb hby at_107) rfl rfl ?_
              show Steps p.tables e below (T51.setTop (mkF m 109 #[.val (.long x0), .second, .val (.long x1), .second, .val (.int x2), .val (.int (0 : Int32)), .val (.ref r_TIMESTAMPED), .val (.ref b6), .val (.ref b20), .val (.long w41), .second, .val (.ref b20), .unset] [(.ref r_TIMESTAMPED), (.ref r_TIMESTAMPED)])) _
              refine Jvm.RoadKit.acmp (g := (mkF m 109 #[.val (.long x0), .second, .val (.long x1), .second, .val (.int x2), .val (.int (0 : Int32)), .val (.ref r_TIMESTAMPED), .val (.ref b6), .val (.ref b20), .val (.long w41), .second, .val (.ref b20), .unset] [(.ref r_TIMESTAMPED), (.ref r_TIMESTAMPED)])) X51 hx rfl rfl rfl (pc0 := 109) (pc' := 112) (same := true) rfl (hb hby at_109) rfl (decide_eq_true rfl) (by decide) (by decide) ?_
              show Steps p.tables e below (T51.setTop (mkF m 112 #[.val (.long x0), .second, .val (.long x1), .second, .val (.int x2), .val (.int (0 : Int32)), .val (.ref r_TIMESTAMPED), .val (.ref b6), .val (.ref b20), .val (.long w41), .second, .val (.ref b20), .unset] [])) _
              refine XS.iconst X51.here hx rfl (hb hby at_112) ?_
              show Steps p.tables e below (T51.setTop (mkF m 113 #[.val (.long x0), .second, .val (.long x1), .second, .val (.int x2), .val (.int (0 : Int32)), .val (.ref r_TIMESTAMPED), .val (.ref b6), .val (.ref b20), .val (.long w41), .second, .val (.ref b20), .unset] [(.int (1 : Int32))])) _
              refine XS.goto X51.here hx rfl (pc0 := 113) (pc' := 117) rfl (hb hby at_113) (by decide) (by decide) ?_
              show Steps p.tables e below (T51.setTop (mkF m 117 #[.val (.long x0), .second, .val (.long x1), .second, .val (.int x2), .val (.int (0 : Int32)), .val (.ref r_TIMESTAMPED), .val (.ref b6), .val (.ref b20), .val (.long w41), .second, .val (.ref b20), .unset] [(.int (1 : Int32))])) _
              refine XS.istore X51.here hx rfl (hb hby at_117) rfl (l' := #[.val (.long x0), .second, .val (.long x1), .second, .val (.int x2), .val (.int (0 : Int32)), .val (.ref r_TIMESTAMPED), .val (.ref b6), .val (.ref b20), .val (.long w41), .second, .val (.ref b20), .val (.int (1 : Int32))]) rfl ?_
              show Steps p.tables e below (T51.setTop (mkF m 119 #[.val (.long x0), .second, .val (.long x1), .second, .val (.int x2), .val (.int (0 : Int32)), .val (.ref r_TIMESTAMPED), .val (.ref b6), .val (.ref b20), .val (.long w41), .second, .val (.ref b20), .val (.int (1 : Int32))] [])) _
              refine XS.aload X51.here hx rfl (hb hby at_119) rfl rfl ?_
              show Steps p.tables e below (T51.setTop (mkF m 121 #[.val (.long x0), .second, .val (.long x1), .second, .val (.int x2), .val (.int (0 : Int32)), .val (.ref r_TIMESTAMPED), .val (.ref b6), .val (.ref b20), .val (.long w41), .second, .val (.ref b20), .val (.int (1 : Int32))] [(.ref r_TIMESTAMPED)])) _
              refine XS.lloadN X51.here hx rfl (hb hby at_121) rfl ?_
              exact k)
          obtain ⟨cq53, kq53, q53a, q53b, q53c⟩ := isOf hZ e51 (E_TIMESTAMPED.ext f24.2)
          obtain ⟨_, _, ⟨T53, L53, k53, n53⟩, -, X53, ⟨Lc53, hQ53, l53, y53, z53⟩, st53⟩ := X51.virtualBack hx (y := (⟨"com/example/fence/fence/service/ClaimFormat", "carries", "(J)Z"⟩ : MethodName)) (z := (⟨"com/example/fence/fence/service/ClaimFormat", "carries", "(J)Z"⟩ : MethodName)) hown (mvT hZ (hw _ (List.mem_of_getElem? (i := 35) rfl))) (mvT hZ (hw _ (List.mem_of_getElem? (i := 36) rfl))) (notFace_of_selects (args := #[]) (mvT hZ (hw _ (List.mem_of_getElem? (i := 38) rfl)))) (mvT hZ (hw _ (List.mem_of_getElem? (i := 38) rfl))) (mvT hZ (hw _ (List.mem_of_getElem? (i := 37) rfl))) (by decide) (backOf (W := 0) (rm_car l Z av0 hw [] r_TIMESTAMPED x0 r_TIMESTAMPED T20.heap n0 (S_TIMESTAMPED.ext f24.2)) hZ (hw _ (List.mem_of_getElem? (i := 39) rfl)) (hw _ (List.mem_of_getElem? (i := 1) rfl)) (by decide) (by decide)) q53a q53c (g := (mkF m 122 #[.val (.long x0), .second, .val (.long x1), .second, .val (.int x2), .val (.int (0 : Int32)), .val (.ref r_TIMESTAMPED), .val (.ref b6), .val (.ref b20), .val (.long w41), .second, .val (.ref b20), .val (.int (1 : Int32))] [(.long x0), (.ref r_TIMESTAMPED)])) rfl (by rw [hml]; rfl) (Steps.refl _) (argsL := [(.long x0)]) (rest := []) (lenOf pd_5 rfl) rfl (by show 2 * 0 + _ ≤ _; exact Nat.le_of_eq rfl) (hb hby at_122) (fun _ _ => ⟨rfl, e51, (by decide : 2 + 0 ≤ _), (by decide : 46 + 0 ≤ _)⟩)
          dsimp only [Pt.U, Pt.locs, Pt.cells, Pt.slots] at X53 l53 y53 z53 st53 hQ53
          subst l53 y53 z53
          obtain ⟨hv53, N53q, e53⟩ := hQ53
          rw [show own_car r_TIMESTAMPED r_TIMESTAMPED x0 = (1 : Int32) from (if_pos rfl).trans (if_neg hT)] at hv53
          subst hv53
          have N53 := Fr.app N51 N53q
          have pre53 : Go p.tables e below (s₁.setTop (entryFrame m #[(.long x0), (.long x1), (.int x2)] maxLocals)) T53 (mkF m 125 #[.val (.long x0), .second, .val (.long x1), .second, .val (.int x2), .val (.int (0 : Int32)), .val (.ref r_TIMESTAMPED), .val (.ref b6), .val (.ref b20), .val (.long w41), .second, .val (.ref b20), .val (.int (1 : Int32))] [(.int (1 : Int32))]) := fun t k => pre52 t (st53.trans k)
          have pre54 : Go p.tables e below (s₁.setTop (entryFrame m #[(.long x0), (.long x1), (.int x2)] maxLocals)) T53 (mkF m 135 #[.val (.long x0), .second, .val (.long x1), .second, .val (.int x2), .val (.int (0 : Int32)), .val (.ref r_TIMESTAMPED), .val (.ref b6), .val (.ref b20), .val (.long w41), .second, .val (.ref b20), .val (.int (1 : Int32))] [(.int (1 : Int32))]) := fun t k => pre53 t (by
              refine XS.iload X53.here hx rfl (hb hby at_125) rfl ?_
              show Steps p.tables e below (T53.setTop (mkF m 127 #[.val (.long x0), .second, .val (.long x1), .second, .val (.int x2), .val (.int (0 : Int32)), .val (.ref r_TIMESTAMPED), .val (.ref b6), .val (.ref b20), .val (.long w41), .second, .val (.ref b20), .val (.int (1 : Int32))] [(.int (1 : Int32)), (.int (1 : Int32))])) _
              refine XS.icmpNo X53.here hx rfl (hb hby at_127) rfl (teq (by decide)).2 ?_
              show Steps p.tables e below (T53.setTop (mkF m 130 #[.val (.long x0), .second, .val (.long x1), .second, .val (.int x2), .val (.int (0 : Int32)), .val (.ref r_TIMESTAMPED), .val (.ref b6), .val (.ref b20), .val (.long w41), .second, .val (.ref b20), .val (.int (1 : Int32))] [])) _
              refine XS.iconst X53.here hx rfl (hb hby at_130) ?_
              show Steps p.tables e below (T53.setTop (mkF m 131 #[.val (.long x0), .second, .val (.long x1), .second, .val (.int x2), .val (.int (0 : Int32)), .val (.ref r_TIMESTAMPED), .val (.ref b6), .val (.ref b20), .val (.long w41), .second, .val (.ref b20), .val (.int (1 : Int32))] [(.int (1 : Int32))])) _
              refine XS.goto X53.here hx rfl (pc0 := 131) (pc' := 135) rfl (hb hby at_131) (by decide) (by decide) ?_
              exact k)
          obtain ⟨fs, hr, hrun, hended, hW, hsame⟩ := X53.leave (v := some (.int (1 : Int32))) (fun h => by rw [Bd.returns] at h; cases h) (BodyLoose.notSynchronized Bd)
          refine ⟨_, _, pre54 _ ?_, hrun, hended, _, _, rfl, ?_, ⟨_, rfl⟩, hW, hsame.mono (Nat.le_of_ble_eq_true rfl) (Nat.le_of_ble_eq_true rfl)⟩
          · exact retN X53 hx (t := .boolean) Bd.returns (by simp) (hb hby at_135) hr
          · show Q_law Z x0 x1 x2 r_TIMESTAMPED r_NUMBERED h0 n0 _ T53.heap _
            rw [e53]
            exact ⟨rfl, N53⟩
    · -- hc14: False
      have pre55 : Go p.tables e below (s₁.setTop (entryFrame m #[(.long x0), (.long x1), (.int x2)] maxLocals)) T6 (mkF m 59 #[.val (.long x0), .second, .val (.long x1), .second, .val (.int x2), .val (.int (0 : Int32)), .val (.ref r_TIMESTAMPED), .val (.ref b6), .unset, .unset, .unset, .unset, .unset] [(.ref b6), (.long x0)]) := fun t k => pre13 t (by
          refine XS.ifYes X6.here hx rfl (pc0 := 44) (pc' := 56) rfl (hb hby at_44) rfl ((if0 _ _).trans (flt hc14).2.2.2) (by decide) (by decide) ?_
          show Steps p.tables e below (T6.setTop (mkF m 56 #[.val (.long x0), .second, .val (.long x1), .second, .val (.int x2), .val (.int (0 : Int32)), .val (.ref r_TIMESTAMPED), .val (.ref b6), .unset, .unset, .unset, .unset, .unset] [])) _
          refine XS.lloadN X6.here hx rfl (hb hby at_56) rfl ?_
          show Steps p.tables e below (T6.setTop (mkF m 57 #[.val (.long x0), .second, .val (.long x1), .second, .val (.int x2), .val (.int (0 : Int32)), .val (.ref r_TIMESTAMPED), .val (.ref b6), .unset, .unset, .unset, .unset, .unset] [(.long x0)])) _
          refine XS.aload X6.here hx rfl (hb hby at_57) rfl rfl ?_
          exact k)
      obtain ⟨_, _, ⟨T56, L56, k56, n56⟩, -, X56, ⟨Lc56, hQ56, l56, y56, z56⟩, st56⟩ := Jvm.LawKit.callS X6 hx (y := (⟨"com/example/fence/fence/service/ClaimFormat", "stamp", "(J[B)[B"⟩ : MethodName)) hown (mvT hZ (hw _ (List.mem_of_getElem? (i := 4) rfl))) (mvT hZ (hw _ (List.mem_of_getElem? (i := 5) rfl))) (mvT hZ (hw _ (List.mem_of_getElem? (i := 1) rfl))) (mvT hZ (hw _ (List.mem_of_getElem? (i := 6) rfl))) (by decide) (backOf (W := 0) (rm_stp l Z av0 hw [] x0 b6 k6 zr [(.int (0 : Int32))] (.int (0 : Int32)) h6 n0 f8 fp11 hz0 (own_le23 hz1)) hZ (hw _ (List.mem_of_getElem? (i := 6) rfl)) (hw _ (List.mem_of_getElem? (i := 1) rfl)) (by decide) (by decide)) (g := (mkF m 59 #[.val (.long x0), .second, .val (.long x1), .second, .val (.int x2), .val (.int (0 : Int32)), .val (.ref r_TIMESTAMPED), .val (.ref b6), .unset, .unset, .unset, .unset, .unset] [(.ref b6), (.long x0)])) rfl (by rw [hml]; rfl) (argsL := [(.long x0), (.ref b6)]) (rest := []) (lenOf pd_3 rfl) rfl (by show 2 * 0 + _ ≤ _; exact Nat.le_of_eq rfl) (hb hby at_59) (fun _ _ => ⟨rfl, e6, (by decide : 1 + 1 ≤ _), (by decide : 15 + 31 ≤ _)⟩)
      dsimp only [Pt.U, Pt.locs, Pt.cells, Pt.slots] at X56 l56 y56 z56 st56 hQ56
      subst l56 y56 z56
      obtain ⟨b56, kc56, ws56, rfl, N56q, K56, gb56, sb56, V56⟩ := hQ56
      have ne57 : b6 ≠ b56 := Nat.ne_of_lt (Nat.lt_of_lt_of_le fp11.lt sb56)
      have g58 : n0 ≤ b56 := Nat.le_trans f8 sb56
      have f59 : n0 ≤ T56.heap.size := Nat.le_trans f8 K56.1
      have f60 : Old Z n0 T56.heap := f9.keep K56 all0
      have f61 : Arv Z T56.heap b6 k6 .byte zr [(.int (0 : Int32))] (.int (0 : Int32)) := fp11.keep K56 nin0
      have N56 := Fr.app N0 N56q
      have pre56 : Go p.tables e below (s₁.setTop (entryFrame m #[(.long x0), (.long x1), (.int x2)] maxLocals)) T56 (mkF m 62 #[.val (.long x0), .second, .val (.long x1), .second, .val (.int x2), .val (.int (0 : Int32)), .val (.ref r_TIMESTAMPED), .val (.ref b6), .unset, .unset, .unset, .unset, .unset] [(.ref b56)]) := fun t k => pre55 t (st56 _ k)
      have pre62 : Go p.tables e below (s₁.setTop (entryFrame m #[(.long x0), (.long x1), (.int x2)] maxLocals)) T56 (mkF m 69 #[.val (.long x0), .second, .val (.long x1), .second, .val (.int x2), .val (.int (0 : Int32)), .val (.ref r_TIMESTAMPED), .val (.ref b6), .val (.ref b56), .unset, .unset, .unset, .unset] [(.int (lcmpW x1 (946684800000000000 : Int64)))]) := fun t k => pre56 t (by
          refine XS.astore X56.here hx rfl (hb hby at_62) rfl rfl (l' := #[.val (.long x0), .second, .val (.long x1), .second, .val (.int x2), .val (.int (0 : Int32)), .val (.ref r_TIMESTAMPED), .val (.ref b6), .val (.ref b56), .unset, .unset, .unset, .unset]) rfl ?_
          show Steps p.tables e below (T56.setTop (mkF m 64 #[.val (.long x0), .second, .val (.long x1), .second, .val (.int x2), .val (.int (0 : Int32)), .val (.ref r_TIMESTAMPED), .val (.ref b6), .val (.ref b56), .unset, .unset, .unset, .unset] [])) _
          refine XS.lloadN X56.here hx rfl (hb hby at_64) rfl ?_
          show Steps p.tables e below (T56.setTop (mkF m 65 #[.val (.long x0), .second, .val (.long x1), .second, .val (.int x2), .val (.int (0 : Int32)), .val (.ref r_TIMESTAMPED), .val (.ref b6), .val (.ref b56), .unset, .unset, .unset, .unset] [(.long x1)])) _
          refine X56.ldc2Long hx hown (mvT hZ (hw _ (List.mem_of_getElem? (i := 15) rfl))) (g := (mkF m 65 #[.val (.long x0), .second, .val (.long x1), .second, .val (.int x2), .val (.int (0 : Int32)), .val (.ref r_TIMESTAMPED), .val (.ref b6), .val (.ref b56), .unset, .unset, .unset, .unset] [(.long x1)])) rfl (hb hby at_65) _ ?_
          show Steps p.tables e below (T56.setTop (mkF m 68 #[.val (.long x0), .second, .val (.long x1), .second, .val (.int x2), .val (.int (0 : Int32)), .val (.ref r_TIMESTAMPED), .val (.ref b6), .val (.ref b56), .unset, .unset, .unset, .unset] [(.long (946684800000000000 : Int64)), (.long x1)])) _
          refine XS.lcmp X56.here hx rfl (hb hby at_68) rfl ?_
          exact k)
      by_cases hc63 : x1 < (946684800000000000 : Int64)
      · -- hc63: True
        have pre64 : Go p.tables e below (s₁.setTop (entryFrame m #[(.long x0), (.long x1), (.int x2)] maxLocals)) T56 (mkF m 104 #[.val (.long x0), .second, .val (.long x1), .second, .val (.int x2), .val (.int (0 : Int32)), .val (.ref r_TIMESTAMPED), .val (.ref b6), .val (.ref b56), .val (.long x1), .second, .val (.ref b56), .unset] [(.ref b56)]) := fun t k => pre62 t (by
            refine XS.ifNo X56.here hx rfl (hb hby at_69) rfl ((if0 _ _).trans (tlt ((lw_lt _ _).mpr hc63)).2.1) ?_
            show Steps p.tables e below (T56.setTop (mkF m 72 #[.val (.long x0), .second, .val (.long x1), .second, .val (.int x2), .val (.int (0 : Int32)), .val (.ref r_TIMESTAMPED), .val (.ref b6), .val (.ref b56), .unset, .unset, .unset, .unset] [])) _
            refine XS.lloadN X56.here hx rfl (hb hby at_72) rfl ?_
            show Steps p.tables e below (T56.setTop (mkF m 73 #[.val (.long x0), .second, .val (.long x1), .second, .val (.int x2), .val (.int (0 : Int32)), .val (.ref r_TIMESTAMPED), .val (.ref b6), .val (.ref b56), .unset, .unset, .unset, .unset] [(.long x1)])) _
            refine XS.goto X56.here hx rfl (pc0 := 73) (pc' := 81) rfl (hb hby at_73) (by decide) (by decide) ?_
            show Steps p.tables e below (T56.setTop (mkF m 81 #[.val (.long x0), .second, .val (.long x1), .second, .val (.int x2), .val (.int (0 : Int32)), .val (.ref r_TIMESTAMPED), .val (.ref b6), .val (.ref b56), .unset, .unset, .unset, .unset] [(.long x1)])) _
            refine XS.lstore X56.here hx rfl (hb hby at_81) rfl (l' := #[.val (.long x0), .second, .val (.long x1), .second, .val (.int x2), .val (.int (0 : Int32)), .val (.ref r_TIMESTAMPED), .val (.ref b6), .val (.ref b56), .val (.long x1), .second, .unset, .unset]) rfl ?_
            show Steps p.tables e below (T56.setTop (mkF m 83 #[.val (.long x0), .second, .val (.long x1), .second, .val (.int x2), .val (.int (0 : Int32)), .val (.ref r_TIMESTAMPED), .val (.ref b6), .val (.ref b56), .val (.long x1), .second, .unset, .unset] [])) _
            refine XS.iload X56.here hx rfl (hb hby at_83) rfl ?_
            show Steps p.tables e below (T56.setTop (mkF m 85 #[.val (.long x0), .second, .val (.long x1), .second, .val (.int x2), .val (.int (0 : Int32)), .val (.ref r_TIMESTAMPED), .val (.ref b6), .val (.ref b56), .val (.long x1), .second, .unset, .unset] [(.int (0 : Int32))])) _
            refine XS.ifYes X56.here hx rfl (pc0 := 85) (pc' := 98) rfl (hb hby at_85) rfl ((if0 _ _).trans (teq (by decide)).1) (by decide) (by decide) ?_
            show Steps p.tables e below (T56.setTop (mkF m 98 #[.val (.long x0), .second, .val (.long x1), .second, .val (.int x2), .val (.int (0 : Int32)), .val (.ref r_TIMESTAMPED), .val (.ref b6), .val (.ref b56), .val (.long x1), .second, .unset, .unset] [])) _
            refine XS.aload X56.here hx rfl (hb hby at_98) rfl rfl ?_
            show Steps p.tables e below (T56.setTop (mkF m 100 #[.val (.long x0), .second, .val (.long x1), .second, .val (.int x2), .val (.int (0 : Int32)), .val (.ref r_TIMESTAMPED), .val (.ref b6), .val (.ref b56), .val (.long x1), .second, .unset, .unset] [(.ref b56)])) _
            refine XS.astore X56.here hx rfl (hb hby at_100) rfl rfl (l' := #[.val (.long x0), .second, .val (.long x1), .second, .val (.int x2), .val (.int (0 : Int32)), .val (.ref r_TIMESTAMPED), .val (.ref b6), .val (.ref b56), .val (.long x1), .second, .val (.ref b56), .unset]) rfl ?_
            show Steps p.tables e below (T56.setTop (mkF m 102 #[.val (.long x0), .second, .val (.long x1), .second, .val (.int x2), .val (.int (0 : Int32)), .val (.ref r_TIMESTAMPED), .val (.ref b6), .val (.ref b56), .val (.long x1), .second, .val (.ref b56), .unset] [])) _
            refine XS.aload X56.here hx rfl (hb hby at_102) rfl rfl ?_
            exact k)
        by_cases hT : x0 < (946684800000000000 : Int64)
        · -- True
          by_cases hI : own_isC ((8 : Int32) + zr) (8 : Int32) = 0
          · -- True
            obtain ⟨_, _, ⟨T65, L65, k65, n65⟩, -, X65, ⟨Lc65, hQ65, l65, y65, z65⟩, st65⟩ := Jvm.LawKit.callS X56 hx (y := (⟨"com/example/fence/fence/service/ClaimFormat", "ofColumn", "([B)Lcom/example/fence/fence/service/ClaimFormat;"⟩ : MethodName)) hown (mvT hZ (hw _ (List.mem_of_getElem? (i := 16) rfl))) (mvT hZ (hw _ (List.mem_of_getElem? (i := 17) rfl))) (mvT hZ (hw _ (List.mem_of_getElem? (i := 1) rfl))) (mvT hZ (hw _ (List.mem_of_getElem? (i := 18) rfl))) (by decide) (backOf (W := 0) (rm_ofc l Z av0 hw [] b56 kc56 ((8 : Int32) + zr) ([(.int (own_b8 (own_sh x0 56))), (.int (own_b8 (own_sh x0 48))), (.int (own_b8 (own_sh x0 40))), (.int (own_b8 (own_sh x0 32))), (.int (own_b8 (own_sh x0 24))), (.int (own_b8 (own_sh x0 16))), (.int (own_b8 (own_sh x0 8))), (.int (own_b8 x0))] ++ ws56) (.int (0 : Int32)) (own_b8 (own_sh x0 56)) (own_b8 (own_sh x0 48)) (own_b8 (own_sh x0 40)) (own_b8 (own_sh x0 32)) (own_b8 (own_sh x0 24)) (own_b8 (own_sh x0 16)) (own_b8 (own_sh x0 8)) (own_b8 x0) x0 r_TIMESTAMPED r_NUMBERED T56.heap n0 f60 S_TIMESTAMPED S_NUMBERED E_TIMESTAMPED E_NUMBERED F_TIMESTAMPED F_NUMBERED V56 rfl rfl rfl rfl rfl rfl rfl rfl (own_long_eq x0)) hZ (hw _ (List.mem_of_getElem? (i := 18) rfl)) (hw _ (List.mem_of_getElem? (i := 1) rfl)) (by decide) (by decide)) (g := (mkF m 104 #[.val (.long x0), .second, .val (.long x1), .second, .val (.int x2), .val (.int (0 : Int32)), .val (.ref r_TIMESTAMPED), .val (.ref b6), .val (.ref b56), .val (.long x1), .second, .val (.ref b56), .unset] [(.ref b56)])) rfl (by rw [hml]; rfl) (argsL := [(.ref b56)]) (rest := []) (lenOf pd_4 rfl) rfl (by show 2 * 0 + _ ≤ _; exact Nat.le_of_eq rfl) (hb hby at_104) (fun _ _ => ⟨rfl, rfl, (by decide : 2 + 0 ≤ _), (by decide : 46 + 0 ≤ _)⟩)
            dsimp only [Pt.U, Pt.locs, Pt.cells, Pt.slots] at X65 l65 y65 z65 st65 hQ65
            subst l65 y65 z65
            obtain ⟨hv65, N65q, e65⟩ := hQ65
            rw [show own_of x0 ((8 : Int32) + zr) r_TIMESTAMPED r_NUMBERED = .null from own_of_lo zr hz0 hz1 hT hI] at hv65
            subst hv65
            have N65 := Fr.app N56 N65q
            have pre65 : Go p.tables e below (s₁.setTop (entryFrame m #[(.long x0), (.long x1), (.int x2)] maxLocals)) T65 (mkF m 107 #[.val (.long x0), .second, .val (.long x1), .second, .val (.int x2), .val (.int (0 : Int32)), .val (.ref r_TIMESTAMPED), .val (.ref b6), .val (.ref b56), .val (.long x1), .second, .val (.ref b56), .unset] [.null]) := fun t k => pre64 t (st65 _ k)
            have pre66 : Go p.tables e below (s₁.setTop (entryFrame m #[(.long x0), (.long x1), (.int x2)] maxLocals)) T65 (mkF m 122 #[.val (.long x0), .second, .val (.long x1), .second, .val (.int x2), .val (.int (0 : Int32)), .val (.ref r_TIMESTAMPED), .val (.ref b6), .val (.ref b56), .val (.long x1), .second, .val (.ref b56), .val (.int (0 : Int32))] [(.long x0), (.ref r_TIMESTAMPED)]) := fun t k => pre65 t (by
                refine XS.aload X65.here hx rfl (hb hby at_107) rfl rfl ?_
                show Steps p.tables e below (T65.setTop (mkF m 109 #[.val (.long x0), .second, .val (.long x1), .second, .val (.int x2), .val (.int (0 : Int32)), .val (.ref r_TIMESTAMPED), .val (.ref b6), .val (.ref b56), .val (.long x1), .second, .val (.ref b56), .unset] [(.ref r_TIMESTAMPED), .null])) _
                refine Jvm.RoadKit.acmp (g := (mkF m 109 #[.val (.long x0), .second, .val (.long x1), .second, .val (.int x2), .val (.int (0 : Int32)), .val (.ref r_TIMESTAMPED), .val (.ref b6), .val (.ref b56), .val (.long x1), .second, .val (.ref b56), .unset] [(.ref r_TIMESTAMPED), .null])) X65 hx rfl rfl rfl (pc0 := 109) (pc' := 116) (same := false) rfl (hb hby at_109) rfl (decide_eq_false nofun) (by decide) (by decide) ?_
                show Steps p.tables e below (T65.setTop (mkF m 116 #[.val (.long x0), .second, .val (.long x1), .second, .val (.int x2), .val (.int (0 : Int32)), .val (.ref r_TIMESTAMPED), .val (.ref b6), .val (.ref b56), .val (.long x1), .second, .val (.ref b56), .unset] [])) _
                refine XS.iconst X65.here hx rfl (hb hby at_116) ?_
                show Steps p.tables e below (T65.setTop (mkF m 117 #[.val (.long x0), .second, .val (.long x1), .second, .val (.int x2), .val (.int (0 : Int32)), .val (.ref r_TIMESTAMPED), .val (.ref b6), .val (.ref b56), .val (.long x1), .second, .val (.ref b56), .unset] [(.int (0 : Int32))])) _
                refine XS.istore X65.here hx rfl (hb hby at_117) rfl (l' := #[.val (.long x0), .second, .val (.long x1), .second, .val (.int x2), .val (.int (0 : Int32)), .val (.ref r_TIMESTAMPED), .val (.ref b6), .val (.ref b56), .val (.long x1), .second, .val (.ref b56), .val (.int (0 : Int32))]) rfl ?_
                show Steps p.tables e below (T65.setTop (mkF m 119 #[.val (.long x0), .second, .val (.long x1), .second, .val (.int x2), .val (.int (0 : Int32)), .val (.ref r_TIMESTAMPED), .val (.ref b6), .val (.ref b56), .val (.long x1), .second, .val (.ref b56), .val (.int (0 : Int32))] [])) _
                refine XS.aload X65.here hx rfl (hb hby at_119) rfl rfl ?_
                show Steps p.tables e below (T65.setTop (mkF m 121 #[.val (.long x0), .second, .val (.long x1), .second, .val (.int x2), .val (.int (0 : Int32)), .val (.ref r_TIMESTAMPED), .val (.ref b6), .val (.ref b56), .val (.long x1), .second, .val (.ref b56), .val (.int (0 : Int32))] [(.ref r_TIMESTAMPED)])) _
                refine XS.lloadN X65.here hx rfl (hb hby at_121) rfl ?_
                exact k)
            obtain ⟨cq67, kq67, q67a, q67b, q67c⟩ := isOf hZ e65 (E_TIMESTAMPED.ext f60.2)
            obtain ⟨_, _, ⟨T67, L67, k67, n67⟩, -, X67, ⟨Lc67, hQ67, l67, y67, z67⟩, st67⟩ := X65.virtualBack hx (y := (⟨"com/example/fence/fence/service/ClaimFormat", "carries", "(J)Z"⟩ : MethodName)) (z := (⟨"com/example/fence/fence/service/ClaimFormat", "carries", "(J)Z"⟩ : MethodName)) hown (mvT hZ (hw _ (List.mem_of_getElem? (i := 35) rfl))) (mvT hZ (hw _ (List.mem_of_getElem? (i := 36) rfl))) (notFace_of_selects (args := #[]) (mvT hZ (hw _ (List.mem_of_getElem? (i := 38) rfl)))) (mvT hZ (hw _ (List.mem_of_getElem? (i := 38) rfl))) (mvT hZ (hw _ (List.mem_of_getElem? (i := 37) rfl))) (by decide) (backOf (W := 0) (rm_car l Z av0 hw [] r_TIMESTAMPED x0 r_TIMESTAMPED T56.heap n0 (S_TIMESTAMPED.ext f60.2)) hZ (hw _ (List.mem_of_getElem? (i := 39) rfl)) (hw _ (List.mem_of_getElem? (i := 1) rfl)) (by decide) (by decide)) q67a q67c (g := (mkF m 122 #[.val (.long x0), .second, .val (.long x1), .second, .val (.int x2), .val (.int (0 : Int32)), .val (.ref r_TIMESTAMPED), .val (.ref b6), .val (.ref b56), .val (.long x1), .second, .val (.ref b56), .val (.int (0 : Int32))] [(.long x0), (.ref r_TIMESTAMPED)])) rfl (by rw [hml]; rfl) (Steps.refl _) (argsL := [(.long x0)]) (rest := []) (lenOf pd_5 rfl) rfl (by show 2 * 0 + _ ≤ _; exact Nat.le_of_eq rfl) (hb hby at_122) (fun _ _ => ⟨rfl, e65, (by decide : 2 + 0 ≤ _), (by decide : 46 + 0 ≤ _)⟩)
            dsimp only [Pt.U, Pt.locs, Pt.cells, Pt.slots] at X67 l67 y67 z67 st67 hQ67
            subst l67 y67 z67
            obtain ⟨hv67, N67q, e67⟩ := hQ67
            rw [show own_car r_TIMESTAMPED r_TIMESTAMPED x0 = (0 : Int32) from (if_pos rfl).trans (if_pos hT)] at hv67
            subst hv67
            have N67 := Fr.app N65 N67q
            have pre67 : Go p.tables e below (s₁.setTop (entryFrame m #[(.long x0), (.long x1), (.int x2)] maxLocals)) T67 (mkF m 125 #[.val (.long x0), .second, .val (.long x1), .second, .val (.int x2), .val (.int (0 : Int32)), .val (.ref r_TIMESTAMPED), .val (.ref b6), .val (.ref b56), .val (.long x1), .second, .val (.ref b56), .val (.int (0 : Int32))] [(.int (0 : Int32))]) := fun t k => pre66 t (st67.trans k)
            have pre68 : Go p.tables e below (s₁.setTop (entryFrame m #[(.long x0), (.long x1), (.int x2)] maxLocals)) T67 (mkF m 135 #[.val (.long x0), .second, .val (.long x1), .second, .val (.int x2), .val (.int (0 : Int32)), .val (.ref r_TIMESTAMPED), .val (.ref b6), .val (.ref b56), .val (.long x1), .second, .val (.ref b56), .val (.int (0 : Int32))] [(.int (1 : Int32))]) := fun t k => pre67 t (by
                refine XS.iload X67.here hx rfl (hb hby at_125) rfl ?_
                show Steps p.tables e below (T67.setTop (mkF m 127 #[.val (.long x0), .second, .val (.long x1), .second, .val (.int x2), .val (.int (0 : Int32)), .val (.ref r_TIMESTAMPED), .val (.ref b6), .val (.ref b56), .val (.long x1), .second, .val (.ref b56), .val (.int (0 : Int32))] [(.int (0 : Int32)), (.int (0 : Int32))])) _
                refine XS.icmpNo X67.here hx rfl (hb hby at_127) rfl (teq (by decide)).2 ?_
                show Steps p.tables e below (T67.setTop (mkF m 130 #[.val (.long x0), .second, .val (.long x1), .second, .val (.int x2), .val (.int (0 : Int32)), .val (.ref r_TIMESTAMPED), .val (.ref b6), .val (.ref b56), .val (.long x1), .second, .val (.ref b56), .val (.int (0 : Int32))] [])) _
                refine XS.iconst X67.here hx rfl (hb hby at_130) ?_
                show Steps p.tables e below (T67.setTop (mkF m 131 #[.val (.long x0), .second, .val (.long x1), .second, .val (.int x2), .val (.int (0 : Int32)), .val (.ref r_TIMESTAMPED), .val (.ref b6), .val (.ref b56), .val (.long x1), .second, .val (.ref b56), .val (.int (0 : Int32))] [(.int (1 : Int32))])) _
                refine XS.goto X67.here hx rfl (pc0 := 131) (pc' := 135) rfl (hb hby at_131) (by decide) (by decide) ?_
                exact k)
            obtain ⟨fs, hr, hrun, hended, hW, hsame⟩ := X67.leave (v := some (.int (1 : Int32))) (fun h => by rw [Bd.returns] at h; cases h) (BodyLoose.notSynchronized Bd)
            refine ⟨_, _, pre68 _ ?_, hrun, hended, _, _, rfl, ?_, ⟨_, rfl⟩, hW, hsame.mono (Nat.le_of_ble_eq_true rfl) (Nat.le_of_ble_eq_true rfl)⟩
            · exact retN X67 hx (t := .boolean) Bd.returns (by simp) (hb hby at_135) hr
            · show Q_law Z x0 x1 x2 r_TIMESTAMPED r_NUMBERED h0 n0 _ T67.heap _
              rw [e67]
              exact ⟨rfl, N67⟩
          · -- False
            obtain ⟨_, _, ⟨T69, L69, k69, n69⟩, -, X69, ⟨Lc69, hQ69, l69, y69, z69⟩, st69⟩ := Jvm.LawKit.callS X56 hx (y := (⟨"com/example/fence/fence/service/ClaimFormat", "ofColumn", "([B)Lcom/example/fence/fence/service/ClaimFormat;"⟩ : MethodName)) hown (mvT hZ (hw _ (List.mem_of_getElem? (i := 16) rfl))) (mvT hZ (hw _ (List.mem_of_getElem? (i := 17) rfl))) (mvT hZ (hw _ (List.mem_of_getElem? (i := 1) rfl))) (mvT hZ (hw _ (List.mem_of_getElem? (i := 18) rfl))) (by decide) (backOf (W := 0) (rm_ofc l Z av0 hw [] b56 kc56 ((8 : Int32) + zr) ([(.int (own_b8 (own_sh x0 56))), (.int (own_b8 (own_sh x0 48))), (.int (own_b8 (own_sh x0 40))), (.int (own_b8 (own_sh x0 32))), (.int (own_b8 (own_sh x0 24))), (.int (own_b8 (own_sh x0 16))), (.int (own_b8 (own_sh x0 8))), (.int (own_b8 x0))] ++ ws56) (.int (0 : Int32)) (own_b8 (own_sh x0 56)) (own_b8 (own_sh x0 48)) (own_b8 (own_sh x0 40)) (own_b8 (own_sh x0 32)) (own_b8 (own_sh x0 24)) (own_b8 (own_sh x0 16)) (own_b8 (own_sh x0 8)) (own_b8 x0) x0 r_TIMESTAMPED r_NUMBERED T56.heap n0 f60 S_TIMESTAMPED S_NUMBERED E_TIMESTAMPED E_NUMBERED F_TIMESTAMPED F_NUMBERED V56 rfl rfl rfl rfl rfl rfl rfl rfl (own_long_eq x0)) hZ (hw _ (List.mem_of_getElem? (i := 18) rfl)) (hw _ (List.mem_of_getElem? (i := 1) rfl)) (by decide) (by decide)) (g := (mkF m 104 #[.val (.long x0), .second, .val (.long x1), .second, .val (.int x2), .val (.int (0 : Int32)), .val (.ref r_TIMESTAMPED), .val (.ref b6), .val (.ref b56), .val (.long x1), .second, .val (.ref b56), .unset] [(.ref b56)])) rfl (by rw [hml]; rfl) (argsL := [(.ref b56)]) (rest := []) (lenOf pd_4 rfl) rfl (by show 2 * 0 + _ ≤ _; exact Nat.le_of_eq rfl) (hb hby at_104) (fun _ _ => ⟨rfl, rfl, (by decide : 2 + 0 ≤ _), (by decide : 46 + 0 ≤ _)⟩)
            dsimp only [Pt.U, Pt.locs, Pt.cells, Pt.slots] at X69 l69 y69 z69 st69 hQ69
            subst l69 y69 z69
            obtain ⟨hv69, N69q, e69⟩ := hQ69
            rw [show own_of x0 ((8 : Int32) + zr) r_TIMESTAMPED r_NUMBERED = .ref r_NUMBERED from own_of_hi zr hz0 hz1 hT hI] at hv69
            subst hv69
            have N69 := Fr.app N56 N69q
            have pre69 : Go p.tables e below (s₁.setTop (entryFrame m #[(.long x0), (.long x1), (.int x2)] maxLocals)) T69 (mkF m 107 #[.val (.long x0), .second, .val (.long x1), .second, .val (.int x2), .val (.int (0 : Int32)), .val (.ref r_TIMESTAMPED), .val (.ref b6), .val (.ref b56), .val (.long x1), .second, .val (.ref b56), .unset] [(.ref r_NUMBERED)]) := fun t k => pre64 t (st69 _ k)
            have pre70 : Go p.tables e below (s₁.setTop (entryFrame m #[(.long x0), (.long x1), (.int x2)] maxLocals)) T69 (mkF m 122 #[.val (.long x0), .second, .val (.long x1), .second, .val (.int x2), .val (.int (0 : Int32)), .val (.ref r_TIMESTAMPED), .val (.ref b6), .val (.ref b56), .val (.long x1), .second, .val (.ref b56), .val (.int (0 : Int32))] [(.long x0), (.ref r_TIMESTAMPED)]) := fun t k => pre69 t (by
                refine XS.aload X69.here hx rfl (hb hby at_107) rfl rfl ?_
                show Steps p.tables e below (T69.setTop (mkF m 109 #[.val (.long x0), .second, .val (.long x1), .second, .val (.int x2), .val (.int (0 : Int32)), .val (.ref r_TIMESTAMPED), .val (.ref b6), .val (.ref b56), .val (.long x1), .second, .val (.ref b56), .unset] [(.ref r_TIMESTAMPED), (.ref r_NUMBERED)])) _
                refine Jvm.RoadKit.acmp (g := (mkF m 109 #[.val (.long x0), .second, .val (.long x1), .second, .val (.int x2), .val (.int (0 : Int32)), .val (.ref r_TIMESTAMPED), .val (.ref b6), .val (.ref b56), .val (.long x1), .second, .val (.ref b56), .unset] [(.ref r_TIMESTAMPED), (.ref r_NUMBERED)])) X69 hx rfl rfl rfl (pc0 := 109) (pc' := 116) (same := false) rfl (hb hby at_109) rfl (decide_eq_false fun q => (ne_exa E_NUMBERED E_TIMESTAMPED (by decide)) (Value.ref.inj q)) (by decide) (by decide) ?_
                show Steps p.tables e below (T69.setTop (mkF m 116 #[.val (.long x0), .second, .val (.long x1), .second, .val (.int x2), .val (.int (0 : Int32)), .val (.ref r_TIMESTAMPED), .val (.ref b6), .val (.ref b56), .val (.long x1), .second, .val (.ref b56), .unset] [])) _
                refine XS.iconst X69.here hx rfl (hb hby at_116) ?_
                show Steps p.tables e below (T69.setTop (mkF m 117 #[.val (.long x0), .second, .val (.long x1), .second, .val (.int x2), .val (.int (0 : Int32)), .val (.ref r_TIMESTAMPED), .val (.ref b6), .val (.ref b56), .val (.long x1), .second, .val (.ref b56), .unset] [(.int (0 : Int32))])) _
                refine XS.istore X69.here hx rfl (hb hby at_117) rfl (l' := #[.val (.long x0), .second, .val (.long x1), .second, .val (.int x2), .val (.int (0 : Int32)), .val (.ref r_TIMESTAMPED), .val (.ref b6), .val (.ref b56), .val (.long x1), .second, .val (.ref b56), .val (.int (0 : Int32))]) rfl ?_
                show Steps p.tables e below (T69.setTop (mkF m 119 #[.val (.long x0), .second, .val (.long x1), .second, .val (.int x2), .val (.int (0 : Int32)), .val (.ref r_TIMESTAMPED), .val (.ref b6), .val (.ref b56), .val (.long x1), .second, .val (.ref b56), .val (.int (0 : Int32))] [])) _
                refine XS.aload X69.here hx rfl (hb hby at_119) rfl rfl ?_
                show Steps p.tables e below (T69.setTop (mkF m 121 #[.val (.long x0), .second, .val (.long x1), .second, .val (.int x2), .val (.int (0 : Int32)), .val (.ref r_TIMESTAMPED), .val (.ref b6), .val (.ref b56), .val (.long x1), .second, .val (.ref b56), .val (.int (0 : Int32))] [(.ref r_TIMESTAMPED)])) _
                refine XS.lloadN X69.here hx rfl (hb hby at_121) rfl ?_
                exact k)
            obtain ⟨cq71, kq71, q71a, q71b, q71c⟩ := isOf hZ e69 (E_TIMESTAMPED.ext f60.2)
            obtain ⟨_, _, ⟨T71, L71, k71, n71⟩, -, X71, ⟨Lc71, hQ71, l71, y71, z71⟩, st71⟩ := X69.virtualBack hx (y := (⟨"com/example/fence/fence/service/ClaimFormat", "carries", "(J)Z"⟩ : MethodName)) (z := (⟨"com/example/fence/fence/service/ClaimFormat", "carries", "(J)Z"⟩ : MethodName)) hown (mvT hZ (hw _ (List.mem_of_getElem? (i := 35) rfl))) (mvT hZ (hw _ (List.mem_of_getElem? (i := 36) rfl))) (notFace_of_selects (args := #[]) (mvT hZ (hw _ (List.mem_of_getElem? (i := 38) rfl)))) (mvT hZ (hw _ (List.mem_of_getElem? (i := 38) rfl))) (mvT hZ (hw _ (List.mem_of_getElem? (i := 37) rfl))) (by decide) (backOf (W := 0) (rm_car l Z av0 hw [] r_TIMESTAMPED x0 r_TIMESTAMPED T56.heap n0 (S_TIMESTAMPED.ext f60.2)) hZ (hw _ (List.mem_of_getElem? (i := 39) rfl)) (hw _ (List.mem_of_getElem? (i := 1) rfl)) (by decide) (by decide)) q71a q71c (g := (mkF m 122 #[.val (.long x0), .second, .val (.long x1), .second, .val (.int x2), .val (.int (0 : Int32)), .val (.ref r_TIMESTAMPED), .val (.ref b6), .val (.ref b56), .val (.long x1), .second, .val (.ref b56), .val (.int (0 : Int32))] [(.long x0), (.ref r_TIMESTAMPED)])) rfl (by rw [hml]; rfl) (Steps.refl _) (argsL := [(.long x0)]) (rest := []) (lenOf pd_5 rfl) rfl (by show 2 * 0 + _ ≤ _; exact Nat.le_of_eq rfl) (hb hby at_122) (fun _ _ => ⟨rfl, e69, (by decide : 2 + 0 ≤ _), (by decide : 46 + 0 ≤ _)⟩)
            dsimp only [Pt.U, Pt.locs, Pt.cells, Pt.slots] at X71 l71 y71 z71 st71 hQ71
            subst l71 y71 z71
            obtain ⟨hv71, N71q, e71⟩ := hQ71
            rw [show own_car r_TIMESTAMPED r_TIMESTAMPED x0 = (0 : Int32) from (if_pos rfl).trans (if_pos hT)] at hv71
            subst hv71
            have N71 := Fr.app N69 N71q
            have pre71 : Go p.tables e below (s₁.setTop (entryFrame m #[(.long x0), (.long x1), (.int x2)] maxLocals)) T71 (mkF m 125 #[.val (.long x0), .second, .val (.long x1), .second, .val (.int x2), .val (.int (0 : Int32)), .val (.ref r_TIMESTAMPED), .val (.ref b6), .val (.ref b56), .val (.long x1), .second, .val (.ref b56), .val (.int (0 : Int32))] [(.int (0 : Int32))]) := fun t k => pre70 t (st71.trans k)
            have pre72 : Go p.tables e below (s₁.setTop (entryFrame m #[(.long x0), (.long x1), (.int x2)] maxLocals)) T71 (mkF m 135 #[.val (.long x0), .second, .val (.long x1), .second, .val (.int x2), .val (.int (0 : Int32)), .val (.ref r_TIMESTAMPED), .val (.ref b6), .val (.ref b56), .val (.long x1), .second, .val (.ref b56), .val (.int (0 : Int32))] [(.int (1 : Int32))]) := fun t k => pre71 t (by
                refine XS.iload X71.here hx rfl (hb hby at_125) rfl ?_
                show Steps p.tables e below (T71.setTop (mkF m 127 #[.val (.long x0), .second, .val (.long x1), .second, .val (.int x2), .val (.int (0 : Int32)), .val (.ref r_TIMESTAMPED), .val (.ref b6), .val (.ref b56), .val (.long x1), .second, .val (.ref b56), .val (.int (0 : Int32))] [(.int (0 : Int32)), (.int (0 : Int32))])) _
                refine XS.icmpNo X71.here hx rfl (hb hby at_127) rfl (teq (by decide)).2 ?_
                show Steps p.tables e below (T71.setTop (mkF m 130 #[.val (.long x0), .second, .val (.long x1), .second, .val (.int x2), .val (.int (0 : Int32)), .val (.ref r_TIMESTAMPED), .val (.ref b6), .val (.ref b56), .val (.long x1), .second, .val (.ref b56), .val (.int (0 : Int32))] [])) _
                refine XS.iconst X71.here hx rfl (hb hby at_130) ?_
                show Steps p.tables e below (T71.setTop (mkF m 131 #[.val (.long x0), .second, .val (.long x1), .second, .val (.int x2), .val (.int (0 : Int32)), .val (.ref r_TIMESTAMPED), .val (.ref b6), .val (.ref b56), .val (.long x1), .second, .val (.ref b56), .val (.int (0 : Int32))] [(.int (1 : Int32))])) _
                refine XS.goto X71.here hx rfl (pc0 := 131) (pc' := 135) rfl (hb hby at_131) (by decide) (by decide) ?_
                exact k)
            obtain ⟨fs, hr, hrun, hended, hW, hsame⟩ := X71.leave (v := some (.int (1 : Int32))) (fun h => by rw [Bd.returns] at h; cases h) (BodyLoose.notSynchronized Bd)
            refine ⟨_, _, pre72 _ ?_, hrun, hended, _, _, rfl, ?_, ⟨_, rfl⟩, hW, hsame.mono (Nat.le_of_ble_eq_true rfl) (Nat.le_of_ble_eq_true rfl)⟩
            · exact retN X71 hx (t := .boolean) Bd.returns (by simp) (hb hby at_135) hr
            · show Q_law Z x0 x1 x2 r_TIMESTAMPED r_NUMBERED h0 n0 _ T71.heap _
              rw [e71]
              exact ⟨rfl, N71⟩
        · -- False
          obtain ⟨_, _, ⟨T73, L73, k73, n73⟩, -, X73, ⟨Lc73, hQ73, l73, y73, z73⟩, st73⟩ := Jvm.LawKit.callS X56 hx (y := (⟨"com/example/fence/fence/service/ClaimFormat", "ofColumn", "([B)Lcom/example/fence/fence/service/ClaimFormat;"⟩ : MethodName)) hown (mvT hZ (hw _ (List.mem_of_getElem? (i := 16) rfl))) (mvT hZ (hw _ (List.mem_of_getElem? (i := 17) rfl))) (mvT hZ (hw _ (List.mem_of_getElem? (i := 1) rfl))) (mvT hZ (hw _ (List.mem_of_getElem? (i := 18) rfl))) (by decide) (backOf (W := 0) (rm_ofc l Z av0 hw [] b56 kc56 ((8 : Int32) + zr) ([(.int (own_b8 (own_sh x0 56))), (.int (own_b8 (own_sh x0 48))), (.int (own_b8 (own_sh x0 40))), (.int (own_b8 (own_sh x0 32))), (.int (own_b8 (own_sh x0 24))), (.int (own_b8 (own_sh x0 16))), (.int (own_b8 (own_sh x0 8))), (.int (own_b8 x0))] ++ ws56) (.int (0 : Int32)) (own_b8 (own_sh x0 56)) (own_b8 (own_sh x0 48)) (own_b8 (own_sh x0 40)) (own_b8 (own_sh x0 32)) (own_b8 (own_sh x0 24)) (own_b8 (own_sh x0 16)) (own_b8 (own_sh x0 8)) (own_b8 x0) x0 r_TIMESTAMPED r_NUMBERED T56.heap n0 f60 S_TIMESTAMPED S_NUMBERED E_TIMESTAMPED E_NUMBERED F_TIMESTAMPED F_NUMBERED V56 rfl rfl rfl rfl rfl rfl rfl rfl (own_long_eq x0)) hZ (hw _ (List.mem_of_getElem? (i := 18) rfl)) (hw _ (List.mem_of_getElem? (i := 1) rfl)) (by decide) (by decide)) (g := (mkF m 104 #[.val (.long x0), .second, .val (.long x1), .second, .val (.int x2), .val (.int (0 : Int32)), .val (.ref r_TIMESTAMPED), .val (.ref b6), .val (.ref b56), .val (.long x1), .second, .val (.ref b56), .unset] [(.ref b56)])) rfl (by rw [hml]; rfl) (argsL := [(.ref b56)]) (rest := []) (lenOf pd_4 rfl) rfl (by show 2 * 0 + _ ≤ _; exact Nat.le_of_eq rfl) (hb hby at_104) (fun _ _ => ⟨rfl, rfl, (by decide : 2 + 0 ≤ _), (by decide : 46 + 0 ≤ _)⟩)
          dsimp only [Pt.U, Pt.locs, Pt.cells, Pt.slots] at X73 l73 y73 z73 st73 hQ73
          subst l73 y73 z73
          obtain ⟨hv73, N73q, e73⟩ := hQ73
          rw [show own_of x0 ((8 : Int32) + zr) r_TIMESTAMPED r_NUMBERED = .ref r_TIMESTAMPED from own_of_ts zr hz0 hz1 hT] at hv73
          subst hv73
          have N73 := Fr.app N56 N73q
          have pre73 : Go p.tables e below (s₁.setTop (entryFrame m #[(.long x0), (.long x1), (.int x2)] maxLocals)) T73 (mkF m 107 #[.val (.long x0), .second, .val (.long x1), .second, .val (.int x2), .val (.int (0 : Int32)), .val (.ref r_TIMESTAMPED), .val (.ref b6), .val (.ref b56), .val (.long x1), .second, .val (.ref b56), .unset] [(.ref r_TIMESTAMPED)]) := fun t k => pre64 t (st73 _ k)
          have pre74 : Go p.tables e below (s₁.setTop (entryFrame m #[(.long x0), (.long x1), (.int x2)] maxLocals)) T73 (mkF m 122 #[.val (.long x0), .second, .val (.long x1), .second, .val (.int x2), .val (.int (0 : Int32)), .val (.ref r_TIMESTAMPED), .val (.ref b6), .val (.ref b56), .val (.long x1), .second, .val (.ref b56), .val (.int (1 : Int32))] [(.long x0), (.ref r_TIMESTAMPED)]) := fun t k => pre73 t (by
              refine XS.aload X73.here hx rfl (hb hby at_107) rfl rfl ?_
              show Steps p.tables e below (T73.setTop (mkF m 109 #[.val (.long x0), .second, .val (.long x1), .second, .val (.int x2), .val (.int (0 : Int32)), .val (.ref r_TIMESTAMPED), .val (.ref b6), .val (.ref b56), .val (.long x1), .second, .val (.ref b56), .unset] [(.ref r_TIMESTAMPED), (.ref r_TIMESTAMPED)])) _
              refine Jvm.RoadKit.acmp (g := (mkF m 109 #[.val (.long x0), .second, .val (.long x1), .second, .val (.int x2), .val (.int (0 : Int32)), .val (.ref r_TIMESTAMPED), .val (.ref b6), .val (.ref b56), .val (.long x1), .second, .val (.ref b56), .unset] [(.ref r_TIMESTAMPED), (.ref r_TIMESTAMPED)])) X73 hx rfl rfl rfl (pc0 := 109) (pc' := 112) (same := true) rfl (hb hby at_109) rfl (decide_eq_true rfl) (by decide) (by decide) ?_
              show Steps p.tables e below (T73.setTop (mkF m 112 #[.val (.long x0), .second, .val (.long x1), .second, .val (.int x2), .val (.int (0 : Int32)), .val (.ref r_TIMESTAMPED), .val (.ref b6), .val (.ref b56), .val (.long x1), .second, .val (.ref b56), .unset] [])) _
              refine XS.iconst X73.here hx rfl (hb hby at_112) ?_
              show Steps p.tables e below (T73.setTop (mkF m 113 #[.val (.long x0), .second, .val (.long x1), .second, .val (.int x2), .val (.int (0 : Int32)), .val (.ref r_TIMESTAMPED), .val (.ref b6), .val (.ref b56), .val (.long x1), .second, .val (.ref b56), .unset] [(.int (1 : Int32))])) _
              refine XS.goto X73.here hx rfl (pc0 := 113) (pc' := 117) rfl (hb hby at_113) (by decide) (by decide) ?_
              show Steps p.tables e below (T73.setTop (mkF m 117 #[.val (.long x0), .second, .val (.long x1), .second, .val (.int x2), .val (.int (0 : Int32)), .val (.ref r_TIMESTAMPED), .val (.ref b6), .val (.ref b56), .val (.long x1), .second, .val (.ref b56), .unset] [(.int (1 : Int32))])) _
              refine XS.istore X73.here hx rfl (hb hby at_117) rfl (l' := #[.val (.long x0), .second, .val (.long x1), .second, .val (.int x2), .val (.int (0 : Int32)), .val (.ref r_TIMESTAMPED), .val (.ref b6), .val (.ref b56), .val (.long x1), .second, .val (.ref b56), .val (.int (1 : Int32))]) rfl ?_
              show Steps p.tables e below (T73.setTop (mkF m 119 #[.val (.long x0), .second, .val (.long x1), .second, .val (.int x2), .val (.int (0 : Int32)), .val (.ref r_TIMESTAMPED), .val (.ref b6), .val (.ref b56), .val (.long x1), .second, .val (.ref b56), .val (.int (1 : Int32))] [])) _
              refine XS.aload X73.here hx rfl (hb hby at_119) rfl rfl ?_
              show Steps p.tables e below (T73.setTop (mkF m 121 #[.val (.long x0), .second, .val (.long x1), .second, .val (.int x2), .val (.int (0 : Int32)), .val (.ref r_TIMESTAMPED), .val (.ref b6), .val (.ref b56), .val (.long x1), .second, .val (.ref b56), .val (.int (1 : Int32))] [(.ref r_TIMESTAMPED)])) _
              refine XS.lloadN X73.here hx rfl (hb hby at_121) rfl ?_
              exact k)
          obtain ⟨cq75, kq75, q75a, q75b, q75c⟩ := isOf hZ e73 (E_TIMESTAMPED.ext f60.2)
          obtain ⟨_, _, ⟨T75, L75, k75, n75⟩, -, X75, ⟨Lc75, hQ75, l75, y75, z75⟩, st75⟩ := X73.virtualBack hx (y := (⟨"com/example/fence/fence/service/ClaimFormat", "carries", "(J)Z"⟩ : MethodName)) (z := (⟨"com/example/fence/fence/service/ClaimFormat", "carries", "(J)Z"⟩ : MethodName)) hown (mvT hZ (hw _ (List.mem_of_getElem? (i := 35) rfl))) (mvT hZ (hw _ (List.mem_of_getElem? (i := 36) rfl))) (notFace_of_selects (args := #[]) (mvT hZ (hw _ (List.mem_of_getElem? (i := 38) rfl)))) (mvT hZ (hw _ (List.mem_of_getElem? (i := 38) rfl))) (mvT hZ (hw _ (List.mem_of_getElem? (i := 37) rfl))) (by decide) (backOf (W := 0) (rm_car l Z av0 hw [] r_TIMESTAMPED x0 r_TIMESTAMPED T56.heap n0 (S_TIMESTAMPED.ext f60.2)) hZ (hw _ (List.mem_of_getElem? (i := 39) rfl)) (hw _ (List.mem_of_getElem? (i := 1) rfl)) (by decide) (by decide)) q75a q75c (g := (mkF m 122 #[.val (.long x0), .second, .val (.long x1), .second, .val (.int x2), .val (.int (0 : Int32)), .val (.ref r_TIMESTAMPED), .val (.ref b6), .val (.ref b56), .val (.long x1), .second, .val (.ref b56), .val (.int (1 : Int32))] [(.long x0), (.ref r_TIMESTAMPED)])) rfl (by rw [hml]; rfl) (Steps.refl _) (argsL := [(.long x0)]) (rest := []) (lenOf pd_5 rfl) rfl (by show 2 * 0 + _ ≤ _; exact Nat.le_of_eq rfl) (hb hby at_122) (fun _ _ => ⟨rfl, e73, (by decide : 2 + 0 ≤ _), (by decide : 46 + 0 ≤ _)⟩)
          dsimp only [Pt.U, Pt.locs, Pt.cells, Pt.slots] at X75 l75 y75 z75 st75 hQ75
          subst l75 y75 z75
          obtain ⟨hv75, N75q, e75⟩ := hQ75
          rw [show own_car r_TIMESTAMPED r_TIMESTAMPED x0 = (1 : Int32) from (if_pos rfl).trans (if_neg hT)] at hv75
          subst hv75
          have N75 := Fr.app N73 N75q
          have pre75 : Go p.tables e below (s₁.setTop (entryFrame m #[(.long x0), (.long x1), (.int x2)] maxLocals)) T75 (mkF m 125 #[.val (.long x0), .second, .val (.long x1), .second, .val (.int x2), .val (.int (0 : Int32)), .val (.ref r_TIMESTAMPED), .val (.ref b6), .val (.ref b56), .val (.long x1), .second, .val (.ref b56), .val (.int (1 : Int32))] [(.int (1 : Int32))]) := fun t k => pre74 t (st75.trans k)
          have pre76 : Go p.tables e below (s₁.setTop (entryFrame m #[(.long x0), (.long x1), (.int x2)] maxLocals)) T75 (mkF m 135 #[.val (.long x0), .second, .val (.long x1), .second, .val (.int x2), .val (.int (0 : Int32)), .val (.ref r_TIMESTAMPED), .val (.ref b6), .val (.ref b56), .val (.long x1), .second, .val (.ref b56), .val (.int (1 : Int32))] [(.int (1 : Int32))]) := fun t k => pre75 t (by
              refine XS.iload X75.here hx rfl (hb hby at_125) rfl ?_
              show Steps p.tables e below (T75.setTop (mkF m 127 #[.val (.long x0), .second, .val (.long x1), .second, .val (.int x2), .val (.int (0 : Int32)), .val (.ref r_TIMESTAMPED), .val (.ref b6), .val (.ref b56), .val (.long x1), .second, .val (.ref b56), .val (.int (1 : Int32))] [(.int (1 : Int32)), (.int (1 : Int32))])) _
              refine XS.icmpNo X75.here hx rfl (hb hby at_127) rfl (teq (by decide)).2 ?_
              show Steps p.tables e below (T75.setTop (mkF m 130 #[.val (.long x0), .second, .val (.long x1), .second, .val (.int x2), .val (.int (0 : Int32)), .val (.ref r_TIMESTAMPED), .val (.ref b6), .val (.ref b56), .val (.long x1), .second, .val (.ref b56), .val (.int (1 : Int32))] [])) _
              refine XS.iconst X75.here hx rfl (hb hby at_130) ?_
              show Steps p.tables e below (T75.setTop (mkF m 131 #[.val (.long x0), .second, .val (.long x1), .second, .val (.int x2), .val (.int (0 : Int32)), .val (.ref r_TIMESTAMPED), .val (.ref b6), .val (.ref b56), .val (.long x1), .second, .val (.ref b56), .val (.int (1 : Int32))] [(.int (1 : Int32))])) _
              refine XS.goto X75.here hx rfl (pc0 := 131) (pc' := 135) rfl (hb hby at_131) (by decide) (by decide) ?_
              exact k)
          obtain ⟨fs, hr, hrun, hended, hW, hsame⟩ := X75.leave (v := some (.int (1 : Int32))) (fun h => by rw [Bd.returns] at h; cases h) (BodyLoose.notSynchronized Bd)
          refine ⟨_, _, pre76 _ ?_, hrun, hended, _, _, rfl, ?_, ⟨_, rfl⟩, hW, hsame.mono (Nat.le_of_ble_eq_true rfl) (Nat.le_of_ble_eq_true rfl)⟩
          · exact retN X75 hx (t := .boolean) Bd.returns (by simp) (hb hby at_135) hr
          · show Q_law Z x0 x1 x2 r_TIMESTAMPED r_NUMBERED h0 n0 _ T75.heap _
            rw [e75]
            exact ⟨rfl, N75⟩
      · -- hc63: False
        obtain ⟨w77, hw77⟩ : ∃ z : Int64, z = (x1 - x1 / (946684800000000000 : Int64) * (946684800000000000 : Int64)) := ⟨_, rfl⟩
        have pre78 : Go p.tables e below (s₁.setTop (entryFrame m #[(.long x0), (.long x1), (.int x2)] maxLocals)) T56 (mkF m 104 #[.val (.long x0), .second, .val (.long x1), .second, .val (.int x2), .val (.int (0 : Int32)), .val (.ref r_TIMESTAMPED), .val (.ref b6), .val (.ref b56), .val (.long w77), .second, .val (.ref b56), .unset] [(.ref b56)]) := fun t k => pre62 t (by
            refine XS.ifYes X56.here hx rfl (pc0 := 69) (pc' := 76) rfl (hb hby at_69) rfl ((if0 _ _).trans (flt (mt (lw_lt _ _).mp hc63)).2.1) (by decide) (by decide) ?_
            show Steps p.tables e below (T56.setTop (mkF m 76 #[.val (.long x0), .second, .val (.long x1), .second, .val (.int x2), .val (.int (0 : Int32)), .val (.ref r_TIMESTAMPED), .val (.ref b6), .val (.ref b56), .unset, .unset, .unset, .unset] [])) _
            refine XS.lloadN X56.here hx rfl (hb hby at_76) rfl ?_
            show Steps p.tables e below (T56.setTop (mkF m 77 #[.val (.long x0), .second, .val (.long x1), .second, .val (.int x2), .val (.int (0 : Int32)), .val (.ref r_TIMESTAMPED), .val (.ref b6), .val (.ref b56), .unset, .unset, .unset, .unset] [(.long x1)])) _
            refine X56.ldc2Long hx hown (mvT hZ (hw _ (List.mem_of_getElem? (i := 15) rfl))) (g := (mkF m 77 #[.val (.long x0), .second, .val (.long x1), .second, .val (.int x2), .val (.int (0 : Int32)), .val (.ref r_TIMESTAMPED), .val (.ref b6), .val (.ref b56), .unset, .unset, .unset, .unset] [(.long x1)])) rfl (hb hby at_77) _ ?_
            show Steps p.tables e below (T56.setTop (mkF m 80 #[.val (.long x0), .second, .val (.long x1), .second, .val (.int x2), .val (.int (0 : Int32)), .val (.ref r_TIMESTAMPED), .val (.ref b6), .val (.ref b56), .unset, .unset, .unset, .unset] [(.long (946684800000000000 : Int64)), (.long x1)])) _
            refine XS.lrem X56.here hx rfl (hb hby at_80) rfl (by decide) ?_
            show Steps p.tables e below (T56.setTop (mkF m 81 #[.val (.long x0), .second, .val (.long x1), .second, .val (.int x2), .val (.int (0 : Int32)), .val (.ref r_TIMESTAMPED), .val (.ref b6), .val (.ref b56), .unset, .unset, .unset, .unset] [(.long (x1 - x1 / (946684800000000000 : Int64) * (946684800000000000 : Int64)))])) _
            refine XS.lstore X56.here hx rfl (x := w77) (rest := []) (hb hby at_81) (by subst hw77; rfl) (l' := #[.val (.long x0), .second, .val (.long x1), .second, .val (.int x2), .val (.int (0 : Int32)), .val (.ref r_TIMESTAMPED), .val (.ref b6), .val (.ref b56), .val (.long w77), .second, .unset, .unset]) rfl ?_
            show Steps p.tables e below (T56.setTop (mkF m 83 #[.val (.long x0), .second, .val (.long x1), .second, .val (.int x2), .val (.int (0 : Int32)), .val (.ref r_TIMESTAMPED), .val (.ref b6), .val (.ref b56), .val (.long w77), .second, .unset, .unset] [])) _
            refine XS.iload X56.here hx rfl (hb hby at_83) rfl ?_
            show Steps p.tables e below (T56.setTop (mkF m 85 #[.val (.long x0), .second, .val (.long x1), .second, .val (.int x2), .val (.int (0 : Int32)), .val (.ref r_TIMESTAMPED), .val (.ref b6), .val (.ref b56), .val (.long w77), .second, .unset, .unset] [(.int (0 : Int32))])) _
            refine XS.ifYes X56.here hx rfl (pc0 := 85) (pc' := 98) rfl (hb hby at_85) rfl ((if0 _ _).trans (teq (by decide)).1) (by decide) (by decide) ?_
            show Steps p.tables e below (T56.setTop (mkF m 98 #[.val (.long x0), .second, .val (.long x1), .second, .val (.int x2), .val (.int (0 : Int32)), .val (.ref r_TIMESTAMPED), .val (.ref b6), .val (.ref b56), .val (.long w77), .second, .unset, .unset] [])) _
            refine XS.aload X56.here hx rfl (hb hby at_98) rfl rfl ?_
            show Steps p.tables e below (T56.setTop (mkF m 100 #[.val (.long x0), .second, .val (.long x1), .second, .val (.int x2), .val (.int (0 : Int32)), .val (.ref r_TIMESTAMPED), .val (.ref b6), .val (.ref b56), .val (.long w77), .second, .unset, .unset] [(.ref b56)])) _
            refine XS.astore X56.here hx rfl (hb hby at_100) rfl rfl (l' := #[.val (.long x0), .second, .val (.long x1), .second, .val (.int x2), .val (.int (0 : Int32)), .val (.ref r_TIMESTAMPED), .val (.ref b6), .val (.ref b56), .val (.long w77), .second, .val (.ref b56), .unset]) rfl ?_
            show Steps p.tables e below (T56.setTop (mkF m 102 #[.val (.long x0), .second, .val (.long x1), .second, .val (.int x2), .val (.int (0 : Int32)), .val (.ref r_TIMESTAMPED), .val (.ref b6), .val (.ref b56), .val (.long w77), .second, .val (.ref b56), .unset] [])) _
            refine XS.aload X56.here hx rfl (hb hby at_102) rfl rfl ?_
            exact k)
        by_cases hT : x0 < (946684800000000000 : Int64)
        · -- True
          by_cases hI : own_isC ((8 : Int32) + zr) (8 : Int32) = 0
          · -- True
            obtain ⟨_, _, ⟨T79, L79, k79, n79⟩, -, X79, ⟨Lc79, hQ79, l79, y79, z79⟩, st79⟩ := Jvm.LawKit.callS X56 hx (y := (⟨"com/example/fence/fence/service/ClaimFormat", "ofColumn", "([B)Lcom/example/fence/fence/service/ClaimFormat;"⟩ : MethodName)) hown (mvT hZ (hw _ (List.mem_of_getElem? (i := 16) rfl))) (mvT hZ (hw _ (List.mem_of_getElem? (i := 17) rfl))) (mvT hZ (hw _ (List.mem_of_getElem? (i := 1) rfl))) (mvT hZ (hw _ (List.mem_of_getElem? (i := 18) rfl))) (by decide) (backOf (W := 0) (rm_ofc l Z av0 hw [] b56 kc56 ((8 : Int32) + zr) ([(.int (own_b8 (own_sh x0 56))), (.int (own_b8 (own_sh x0 48))), (.int (own_b8 (own_sh x0 40))), (.int (own_b8 (own_sh x0 32))), (.int (own_b8 (own_sh x0 24))), (.int (own_b8 (own_sh x0 16))), (.int (own_b8 (own_sh x0 8))), (.int (own_b8 x0))] ++ ws56) (.int (0 : Int32)) (own_b8 (own_sh x0 56)) (own_b8 (own_sh x0 48)) (own_b8 (own_sh x0 40)) (own_b8 (own_sh x0 32)) (own_b8 (own_sh x0 24)) (own_b8 (own_sh x0 16)) (own_b8 (own_sh x0 8)) (own_b8 x0) x0 r_TIMESTAMPED r_NUMBERED T56.heap n0 f60 S_TIMESTAMPED S_NUMBERED E_TIMESTAMPED E_NUMBERED F_TIMESTAMPED F_NUMBERED V56 rfl rfl rfl rfl rfl rfl rfl rfl (own_long_eq x0)) hZ (hw _ (List.mem_of_getElem? (i := 18) rfl)) (hw _ (List.mem_of_getElem? (i := 1) rfl)) (by decide) (by decide)) (g := (mkF m 104 #[.val (.long x0), .second, .val (.long x1), .second, .val (.int x2), .val (.int (0 : Int32)), .val (.ref r_TIMESTAMPED), .val (.ref b6), .val (.ref b56), .val (.long w77), .second, .val (.ref b56), .unset] [(.ref b56)])) rfl (by rw [hml]; rfl) (argsL := [(.ref b56)]) (rest := []) (lenOf pd_4 rfl) rfl (by show 2 * 0 + _ ≤ _; exact Nat.le_of_eq rfl) (hb hby at_104) (fun _ _ => ⟨rfl, rfl, (by decide : 2 + 0 ≤ _), (by decide : 46 + 0 ≤ _)⟩)
            dsimp only [Pt.U, Pt.locs, Pt.cells, Pt.slots] at X79 l79 y79 z79 st79 hQ79
            subst l79 y79 z79
            obtain ⟨hv79, N79q, e79⟩ := hQ79
            rw [show own_of x0 ((8 : Int32) + zr) r_TIMESTAMPED r_NUMBERED = .null from own_of_lo zr hz0 hz1 hT hI] at hv79
            subst hv79
            have N79 := Fr.app N56 N79q
            have pre79 : Go p.tables e below (s₁.setTop (entryFrame m #[(.long x0), (.long x1), (.int x2)] maxLocals)) T79 (mkF m 107 #[.val (.long x0), .second, .val (.long x1), .second, .val (.int x2), .val (.int (0 : Int32)), .val (.ref r_TIMESTAMPED), .val (.ref b6), .val (.ref b56), .val (.long w77), .second, .val (.ref b56), .unset] [.null]) := fun t k => pre78 t (st79 _ k)
            have pre80 : Go p.tables e below (s₁.setTop (entryFrame m #[(.long x0), (.long x1), (.int x2)] maxLocals)) T79 (mkF m 122 #[.val (.long x0), .second, .val (.long x1), .second, .val (.int x2), .val (.int (0 : Int32)), .val (.ref r_TIMESTAMPED), .val (.ref b6), .val (.ref b56), .val (.long w77), .second, .val (.ref b56), .val (.int (0 : Int32))] [(.long x0), (.ref r_TIMESTAMPED)]) := fun t k => pre79 t (by
                refine XS.aload X79.here hx rfl (hb hby at_107) rfl rfl ?_
                show Steps p.tables e below (T79.setTop (mkF m 109 #[.val (.long x0), .second, .val (.long x1), .second, .val (.int x2), .val (.int (0 : Int32)), .val (.ref r_TIMESTAMPED), .val (.ref b6), .val (.ref b56), .val (.long w77), .second, .val (.ref b56), .unset] [(.ref r_TIMESTAMPED), .null])) _
                refine Jvm.RoadKit.acmp (g := (mkF m 109 #[.val (.long x0), .second, .val (.long x1), .second, .val (.int x2), .val (.int (0 : Int32)), .val (.ref r_TIMESTAMPED), .val (.ref b6), .val (.ref b56), .val (.long w77), .second, .val (.ref b56), .unset] [(.ref r_TIMESTAMPED), .null])) X79 hx rfl rfl rfl (pc0 := 109) (pc' := 116) (same := false) rfl (hb hby at_109) rfl (decide_eq_false nofun) (by decide) (by decide) ?_
                show Steps p.tables e below (T79.setTop (mkF m 116 #[.val (.long x0), .second, .val (.long x1), .second, .val (.int x2), .val (.int (0 : Int32)), .val (.ref r_TIMESTAMPED), .val (.ref b6), .val (.ref b56), .val (.long w77), .second, .val (.ref b56), .unset] [])) _
                refine XS.iconst X79.here hx rfl (hb hby at_116) ?_
                show Steps p.tables e below (T79.setTop (mkF m 117 #[.val (.long x0), .second, .val (.long x1), .second, .val (.int x2), .val (.int (0 : Int32)), .val (.ref r_TIMESTAMPED), .val (.ref b6), .val (.ref b56), .val (.long w77), .second, .val (.ref b56), .unset] [(.int (0 : Int32))])) _
                refine XS.istore X79.here hx rfl (hb hby at_117) rfl (l' := #[.val (.long x0), .second, .val (.long x1), .second, .val (.int x2), .val (.int (0 : Int32)), .val (.ref r_TIMESTAMPED), .val (.ref b6), .val (.ref b56), .val (.long w77), .second, .val (.ref b56), .val (.int (0 : Int32))]) rfl ?_
                show Steps p.tables e below (T79.setTop (mkF m 119 #[.val (.long x0), .second, .val (.long x1), .second, .val (.int x2), .val (.int (0 : Int32)), .val (.ref r_TIMESTAMPED), .val (.ref b6), .val (.ref b56), .val (.long w77), .second, .val (.ref b56), .val (.int (0 : Int32))] [])) _
                refine XS.aload X79.here hx rfl (hb hby at_119) rfl rfl ?_
                show Steps p.tables e below (T79.setTop (mkF m 121 #[.val (.long x0), .second, .val (.long x1), .second, .val (.int x2), .val (.int (0 : Int32)), .val (.ref r_TIMESTAMPED), .val (.ref b6), .val (.ref b56), .val (.long w77), .second, .val (.ref b56), .val (.int (0 : Int32))] [(.ref r_TIMESTAMPED)])) _
                refine XS.lloadN X79.here hx rfl (hb hby at_121) rfl ?_
                exact k)
            obtain ⟨cq81, kq81, q81a, q81b, q81c⟩ := isOf hZ e79 (E_TIMESTAMPED.ext f60.2)
            obtain ⟨_, _, ⟨T81, L81, k81, n81⟩, -, X81, ⟨Lc81, hQ81, l81, y81, z81⟩, st81⟩ := X79.virtualBack hx (y := (⟨"com/example/fence/fence/service/ClaimFormat", "carries", "(J)Z"⟩ : MethodName)) (z := (⟨"com/example/fence/fence/service/ClaimFormat", "carries", "(J)Z"⟩ : MethodName)) hown (mvT hZ (hw _ (List.mem_of_getElem? (i := 35) rfl))) (mvT hZ (hw _ (List.mem_of_getElem? (i := 36) rfl))) (notFace_of_selects (args := #[]) (mvT hZ (hw _ (List.mem_of_getElem? (i := 38) rfl)))) (mvT hZ (hw _ (List.mem_of_getElem? (i := 38) rfl))) (mvT hZ (hw _ (List.mem_of_getElem? (i := 37) rfl))) (by decide) (backOf (W := 0) (rm_car l Z av0 hw [] r_TIMESTAMPED x0 r_TIMESTAMPED T56.heap n0 (S_TIMESTAMPED.ext f60.2)) hZ (hw _ (List.mem_of_getElem? (i := 39) rfl)) (hw _ (List.mem_of_getElem? (i := 1) rfl)) (by decide) (by decide)) q81a q81c (g := (mkF m 122 #[.val (.long x0), .second, .val (.long x1), .second, .val (.int x2), .val (.int (0 : Int32)), .val (.ref r_TIMESTAMPED), .val (.ref b6), .val (.ref b56), .val (.long w77), .second, .val (.ref b56), .val (.int (0 : Int32))] [(.long x0), (.ref r_TIMESTAMPED)])) rfl (by rw [hml]; rfl) (Steps.refl _) (argsL := [(.long x0)]) (rest := []) (lenOf pd_5 rfl) rfl (by show 2 * 0 + _ ≤ _; exact Nat.le_of_eq rfl) (hb hby at_122) (fun _ _ => ⟨rfl, e79, (by decide : 2 + 0 ≤ _), (by decide : 46 + 0 ≤ _)⟩)
            dsimp only [Pt.U, Pt.locs, Pt.cells, Pt.slots] at X81 l81 y81 z81 st81 hQ81
            subst l81 y81 z81
            obtain ⟨hv81, N81q, e81⟩ := hQ81
            rw [show own_car r_TIMESTAMPED r_TIMESTAMPED x0 = (0 : Int32) from (if_pos rfl).trans (if_pos hT)] at hv81
            subst hv81
            have N81 := Fr.app N79 N81q
            have pre81 : Go p.tables e below (s₁.setTop (entryFrame m #[(.long x0), (.long x1), (.int x2)] maxLocals)) T81 (mkF m 125 #[.val (.long x0), .second, .val (.long x1), .second, .val (.int x2), .val (.int (0 : Int32)), .val (.ref r_TIMESTAMPED), .val (.ref b6), .val (.ref b56), .val (.long w77), .second, .val (.ref b56), .val (.int (0 : Int32))] [(.int (0 : Int32))]) := fun t k => pre80 t (st81.trans k)
            have pre82 : Go p.tables e below (s₁.setTop (entryFrame m #[(.long x0), (.long x1), (.int x2)] maxLocals)) T81 (mkF m 135 #[.val (.long x0), .second, .val (.long x1), .second, .val (.int x2), .val (.int (0 : Int32)), .val (.ref r_TIMESTAMPED), .val (.ref b6), .val (.ref b56), .val (.long w77), .second, .val (.ref b56), .val (.int (0 : Int32))] [(.int (1 : Int32))]) := fun t k => pre81 t (by
                refine XS.iload X81.here hx rfl (hb hby at_125) rfl ?_
                show Steps p.tables e below (T81.setTop (mkF m 127 #[.val (.long x0), .second, .val (.long x1), .second, .val (.int x2), .val (.int (0 : Int32)), .val (.ref r_TIMESTAMPED), .val (.ref b6), .val (.ref b56), .val (.long w77), .second, .val (.ref b56), .val (.int (0 : Int32))] [(.int (0 : Int32)), (.int (0 : Int32))])) _
                refine XS.icmpNo X81.here hx rfl (hb hby at_127) rfl (teq (by decide)).2 ?_
                show Steps p.tables e below (T81.setTop (mkF m 130 #[.val (.long x0), .second, .val (.long x1), .second, .val (.int x2), .val (.int (0 : Int32)), .val (.ref r_TIMESTAMPED), .val (.ref b6), .val (.ref b56), .val (.long w77), .second, .val (.ref b56), .val (.int (0 : Int32))] [])) _
                refine XS.iconst X81.here hx rfl (hb hby at_130) ?_
                show Steps p.tables e below (T81.setTop (mkF m 131 #[.val (.long x0), .second, .val (.long x1), .second, .val (.int x2), .val (.int (0 : Int32)), .val (.ref r_TIMESTAMPED), .val (.ref b6), .val (.ref b56), .val (.long w77), .second, .val (.ref b56), .val (.int (0 : Int32))] [(.int (1 : Int32))])) _
                refine XS.goto X81.here hx rfl (pc0 := 131) (pc' := 135) rfl (hb hby at_131) (by decide) (by decide) ?_
                exact k)
            obtain ⟨fs, hr, hrun, hended, hW, hsame⟩ := X81.leave (v := some (.int (1 : Int32))) (fun h => by rw [Bd.returns] at h; cases h) (BodyLoose.notSynchronized Bd)
            refine ⟨_, _, pre82 _ ?_, hrun, hended, _, _, rfl, ?_, ⟨_, rfl⟩, hW, hsame.mono (Nat.le_of_ble_eq_true rfl) (Nat.le_of_ble_eq_true rfl)⟩
            · exact retN X81 hx (t := .boolean) Bd.returns (by simp) (hb hby at_135) hr
            · show Q_law Z x0 x1 x2 r_TIMESTAMPED r_NUMBERED h0 n0 _ T81.heap _
              rw [e81]
              exact ⟨rfl, N81⟩
          · -- False
            obtain ⟨_, _, ⟨T83, L83, k83, n83⟩, -, X83, ⟨Lc83, hQ83, l83, y83, z83⟩, st83⟩ := Jvm.LawKit.callS X56 hx (y := (⟨"com/example/fence/fence/service/ClaimFormat", "ofColumn", "([B)Lcom/example/fence/fence/service/ClaimFormat;"⟩ : MethodName)) hown (mvT hZ (hw _ (List.mem_of_getElem? (i := 16) rfl))) (mvT hZ (hw _ (List.mem_of_getElem? (i := 17) rfl))) (mvT hZ (hw _ (List.mem_of_getElem? (i := 1) rfl))) (mvT hZ (hw _ (List.mem_of_getElem? (i := 18) rfl))) (by decide) (backOf (W := 0) (rm_ofc l Z av0 hw [] b56 kc56 ((8 : Int32) + zr) ([(.int (own_b8 (own_sh x0 56))), (.int (own_b8 (own_sh x0 48))), (.int (own_b8 (own_sh x0 40))), (.int (own_b8 (own_sh x0 32))), (.int (own_b8 (own_sh x0 24))), (.int (own_b8 (own_sh x0 16))), (.int (own_b8 (own_sh x0 8))), (.int (own_b8 x0))] ++ ws56) (.int (0 : Int32)) (own_b8 (own_sh x0 56)) (own_b8 (own_sh x0 48)) (own_b8 (own_sh x0 40)) (own_b8 (own_sh x0 32)) (own_b8 (own_sh x0 24)) (own_b8 (own_sh x0 16)) (own_b8 (own_sh x0 8)) (own_b8 x0) x0 r_TIMESTAMPED r_NUMBERED T56.heap n0 f60 S_TIMESTAMPED S_NUMBERED E_TIMESTAMPED E_NUMBERED F_TIMESTAMPED F_NUMBERED V56 rfl rfl rfl rfl rfl rfl rfl rfl (own_long_eq x0)) hZ (hw _ (List.mem_of_getElem? (i := 18) rfl)) (hw _ (List.mem_of_getElem? (i := 1) rfl)) (by decide) (by decide)) (g := (mkF m 104 #[.val (.long x0), .second, .val (.long x1), .second, .val (.int x2), .val (.int (0 : Int32)), .val (.ref r_TIMESTAMPED), .val (.ref b6), .val (.ref b56), .val (.long w77), .second, .val (.ref b56), .unset] [(.ref b56)])) rfl (by rw [hml]; rfl) (argsL := [(.ref b56)]) (rest := []) (lenOf pd_4 rfl) rfl (by show 2 * 0 + _ ≤ _; exact Nat.le_of_eq rfl) (hb hby at_104) (fun _ _ => ⟨rfl, rfl, (by decide : 2 + 0 ≤ _), (by decide : 46 + 0 ≤ _)⟩)
            dsimp only [Pt.U, Pt.locs, Pt.cells, Pt.slots] at X83 l83 y83 z83 st83 hQ83
            subst l83 y83 z83
            obtain ⟨hv83, N83q, e83⟩ := hQ83
            rw [show own_of x0 ((8 : Int32) + zr) r_TIMESTAMPED r_NUMBERED = .ref r_NUMBERED from own_of_hi zr hz0 hz1 hT hI] at hv83
            subst hv83
            have N83 := Fr.app N56 N83q
            have pre83 : Go p.tables e below (s₁.setTop (entryFrame m #[(.long x0), (.long x1), (.int x2)] maxLocals)) T83 (mkF m 107 #[.val (.long x0), .second, .val (.long x1), .second, .val (.int x2), .val (.int (0 : Int32)), .val (.ref r_TIMESTAMPED), .val (.ref b6), .val (.ref b56), .val (.long w77), .second, .val (.ref b56), .unset] [(.ref r_NUMBERED)]) := fun t k => pre78 t (st83 _ k)
            have pre84 : Go p.tables e below (s₁.setTop (entryFrame m #[(.long x0), (.long x1), (.int x2)] maxLocals)) T83 (mkF m 122 #[.val (.long x0), .second, .val (.long x1), .second, .val (.int x2), .val (.int (0 : Int32)), .val (.ref r_TIMESTAMPED), .val (.ref b6), .val (.ref b56), .val (.long w77), .second, .val (.ref b56), .val (.int (0 : Int32))] [(.long x0), (.ref r_TIMESTAMPED)]) := fun t k => pre83 t (by
                refine XS.aload X83.here hx rfl (hb hby at_107) rfl rfl ?_
                show Steps p.tables e below (T83.setTop (mkF m 109 #[.val (.long x0), .second, .val (.long x1), .second, .val (.int x2), .val (.int (0 : Int32)), .val (.ref r_TIMESTAMPED), .val (.ref b6), .val (.ref b56), .val (.long w77), .second, .val (.ref b56), .unset] [(.ref r_TIMESTAMPED), (.ref r_NUMBERED)])) _
                refine Jvm.RoadKit.acmp (g := (mkF m 109 #[.val (.long x0), .second, .val (.long x1), .second, .val (.int x2), .val (.int (0 : Int32)), .val (.ref r_TIMESTAMPED), .val (.ref b6), .val (.ref b56), .val (.long w77), .second, .val (.ref b56), .unset] [(.ref r_TIMESTAMPED), (.ref r_NUMBERED)])) X83 hx rfl rfl rfl (pc0 := 109) (pc' := 116) (same := false) rfl (hb hby at_109) rfl (decide_eq_false fun q => (ne_exa E_NUMBERED E_TIMESTAMPED (by decide)) (Value.ref.inj q)) (by decide) (by decide) ?_
                show Steps p.tables e below (T83.setTop (mkF m 116 #[.val (.long x0), .second, .val (.long x1), .second, .val (.int x2), .val (.int (0 : Int32)), .val (.ref r_TIMESTAMPED), .val (.ref b6), .val (.ref b56), .val (.long w77), .second, .val (.ref b56), .unset] [])) _
                refine XS.iconst X83.here hx rfl (hb hby at_116) ?_
                show Steps p.tables e below (T83.setTop (mkF m 117 #[.val (.long x0), .second, .val (.long x1), .second, .val (.int x2), .val (.int (0 : Int32)), .val (.ref r_TIMESTAMPED), .val (.ref b6), .val (.ref b56), .val (.long w77), .second, .val (.ref b56), .unset] [(.int (0 : Int32))])) _
                refine XS.istore X83.here hx rfl (hb hby at_117) rfl (l' := #[.val (.long x0), .second, .val (.long x1), .second, .val (.int x2), .val (.int (0 : Int32)), .val (.ref r_TIMESTAMPED), .val (.ref b6), .val (.ref b56), .val (.long w77), .second, .val (.ref b56), .val (.int (0 : Int32))]) rfl ?_
                show Steps p.tables e below (T83.setTop (mkF m 119 #[.val (.long x0), .second, .val (.long x1), .second, .val (.int x2), .val (.int (0 : Int32)), .val (.ref r_TIMESTAMPED), .val (.ref b6), .val (.ref b56), .val (.long w77), .second, .val (.ref b56), .val (.int (0 : Int32))] [])) _
                refine XS.aload X83.here hx rfl (hb hby at_119) rfl rfl ?_
                show Steps p.tables e below (T83.setTop (mkF m 121 #[.val (.long x0), .second, .val (.long x1), .second, .val (.int x2), .val (.int (0 : Int32)), .val (.ref r_TIMESTAMPED), .val (.ref b6), .val (.ref b56), .val (.long w77), .second, .val (.ref b56), .val (.int (0 : Int32))] [(.ref r_TIMESTAMPED)])) _
                refine XS.lloadN X83.here hx rfl (hb hby at_121) rfl ?_
                exact k)
            obtain ⟨cq85, kq85, q85a, q85b, q85c⟩ := isOf hZ e83 (E_TIMESTAMPED.ext f60.2)
            obtain ⟨_, _, ⟨T85, L85, k85, n85⟩, -, X85, ⟨Lc85, hQ85, l85, y85, z85⟩, st85⟩ := X83.virtualBack hx (y := (⟨"com/example/fence/fence/service/ClaimFormat", "carries", "(J)Z"⟩ : MethodName)) (z := (⟨"com/example/fence/fence/service/ClaimFormat", "carries", "(J)Z"⟩ : MethodName)) hown (mvT hZ (hw _ (List.mem_of_getElem? (i := 35) rfl))) (mvT hZ (hw _ (List.mem_of_getElem? (i := 36) rfl))) (notFace_of_selects (args := #[]) (mvT hZ (hw _ (List.mem_of_getElem? (i := 38) rfl)))) (mvT hZ (hw _ (List.mem_of_getElem? (i := 38) rfl))) (mvT hZ (hw _ (List.mem_of_getElem? (i := 37) rfl))) (by decide) (backOf (W := 0) (rm_car l Z av0 hw [] r_TIMESTAMPED x0 r_TIMESTAMPED T56.heap n0 (S_TIMESTAMPED.ext f60.2)) hZ (hw _ (List.mem_of_getElem? (i := 39) rfl)) (hw _ (List.mem_of_getElem? (i := 1) rfl)) (by decide) (by decide)) q85a q85c (g := (mkF m 122 #[.val (.long x0), .second, .val (.long x1), .second, .val (.int x2), .val (.int (0 : Int32)), .val (.ref r_TIMESTAMPED), .val (.ref b6), .val (.ref b56), .val (.long w77), .second, .val (.ref b56), .val (.int (0 : Int32))] [(.long x0), (.ref r_TIMESTAMPED)])) rfl (by rw [hml]; rfl) (Steps.refl _) (argsL := [(.long x0)]) (rest := []) (lenOf pd_5 rfl) rfl (by show 2 * 0 + _ ≤ _; exact Nat.le_of_eq rfl) (hb hby at_122) (fun _ _ => ⟨rfl, e83, (by decide : 2 + 0 ≤ _), (by decide : 46 + 0 ≤ _)⟩)
            dsimp only [Pt.U, Pt.locs, Pt.cells, Pt.slots] at X85 l85 y85 z85 st85 hQ85
            subst l85 y85 z85
            obtain ⟨hv85, N85q, e85⟩ := hQ85
            rw [show own_car r_TIMESTAMPED r_TIMESTAMPED x0 = (0 : Int32) from (if_pos rfl).trans (if_pos hT)] at hv85
            subst hv85
            have N85 := Fr.app N83 N85q
            have pre85 : Go p.tables e below (s₁.setTop (entryFrame m #[(.long x0), (.long x1), (.int x2)] maxLocals)) T85 (mkF m 125 #[.val (.long x0), .second, .val (.long x1), .second, .val (.int x2), .val (.int (0 : Int32)), .val (.ref r_TIMESTAMPED), .val (.ref b6), .val (.ref b56), .val (.long w77), .second, .val (.ref b56), .val (.int (0 : Int32))] [(.int (0 : Int32))]) := fun t k => pre84 t (st85.trans k)
            have pre86 : Go p.tables e below (s₁.setTop (entryFrame m #[(.long x0), (.long x1), (.int x2)] maxLocals)) T85 (mkF m 135 #[.val (.long x0), .second, .val (.long x1), .second, .val (.int x2), .val (.int (0 : Int32)), .val (.ref r_TIMESTAMPED), .val (.ref b6), .val (.ref b56), .val (.long w77), .second, .val (.ref b56), .val (.int (0 : Int32))] [(.int (1 : Int32))]) := fun t k => pre85 t (by
                refine XS.iload X85.here hx rfl (hb hby at_125) rfl ?_
                show Steps p.tables e below (T85.setTop (mkF m 127 #[.val (.long x0), .second, .val (.long x1), .second, .val (.int x2), .val (.int (0 : Int32)), .val (.ref r_TIMESTAMPED), .val (.ref b6), .val (.ref b56), .val (.long w77), .second, .val (.ref b56), .val (.int (0 : Int32))] [(.int (0 : Int32)), (.int (0 : Int32))])) _
                refine XS.icmpNo X85.here hx rfl (hb hby at_127) rfl (teq (by decide)).2 ?_
                show Steps p.tables e below (T85.setTop (mkF m 130 #[.val (.long x0), .second, .val (.long x1), .second, .val (.int x2), .val (.int (0 : Int32)), .val (.ref r_TIMESTAMPED), .val (.ref b6), .val (.ref b56), .val (.long w77), .second, .val (.ref b56), .val (.int (0 : Int32))] [])) _
                refine XS.iconst X85.here hx rfl (hb hby at_130) ?_
                show Steps p.tables e below (T85.setTop (mkF m 131 #[.val (.long x0), .second, .val (.long x1), .second, .val (.int x2), .val (.int (0 : Int32)), .val (.ref r_TIMESTAMPED), .val (.ref b6), .val (.ref b56), .val (.long w77), .second, .val (.ref b56), .val (.int (0 : Int32))] [(.int (1 : Int32))])) _
                refine XS.goto X85.here hx rfl (pc0 := 131) (pc' := 135) rfl (hb hby at_131) (by decide) (by decide) ?_
                exact k)
            obtain ⟨fs, hr, hrun, hended, hW, hsame⟩ := X85.leave (v := some (.int (1 : Int32))) (fun h => by rw [Bd.returns] at h; cases h) (BodyLoose.notSynchronized Bd)
            refine ⟨_, _, pre86 _ ?_, hrun, hended, _, _, rfl, ?_, ⟨_, rfl⟩, hW, hsame.mono (Nat.le_of_ble_eq_true rfl) (Nat.le_of_ble_eq_true rfl)⟩
            · exact retN X85 hx (t := .boolean) Bd.returns (by simp) (hb hby at_135) hr
            · show Q_law Z x0 x1 x2 r_TIMESTAMPED r_NUMBERED h0 n0 _ T85.heap _
              rw [e85]
              exact ⟨rfl, N85⟩
        · -- False
          obtain ⟨_, _, ⟨T87, L87, k87, n87⟩, -, X87, ⟨Lc87, hQ87, l87, y87, z87⟩, st87⟩ := Jvm.LawKit.callS X56 hx (y := (⟨"com/example/fence/fence/service/ClaimFormat", "ofColumn", "([B)Lcom/example/fence/fence/service/ClaimFormat;"⟩ : MethodName)) hown (mvT hZ (hw _ (List.mem_of_getElem? (i := 16) rfl))) (mvT hZ (hw _ (List.mem_of_getElem? (i := 17) rfl))) (mvT hZ (hw _ (List.mem_of_getElem? (i := 1) rfl))) (mvT hZ (hw _ (List.mem_of_getElem? (i := 18) rfl))) (by decide) (backOf (W := 0) (rm_ofc l Z av0 hw [] b56 kc56 ((8 : Int32) + zr) ([(.int (own_b8 (own_sh x0 56))), (.int (own_b8 (own_sh x0 48))), (.int (own_b8 (own_sh x0 40))), (.int (own_b8 (own_sh x0 32))), (.int (own_b8 (own_sh x0 24))), (.int (own_b8 (own_sh x0 16))), (.int (own_b8 (own_sh x0 8))), (.int (own_b8 x0))] ++ ws56) (.int (0 : Int32)) (own_b8 (own_sh x0 56)) (own_b8 (own_sh x0 48)) (own_b8 (own_sh x0 40)) (own_b8 (own_sh x0 32)) (own_b8 (own_sh x0 24)) (own_b8 (own_sh x0 16)) (own_b8 (own_sh x0 8)) (own_b8 x0) x0 r_TIMESTAMPED r_NUMBERED T56.heap n0 f60 S_TIMESTAMPED S_NUMBERED E_TIMESTAMPED E_NUMBERED F_TIMESTAMPED F_NUMBERED V56 rfl rfl rfl rfl rfl rfl rfl rfl (own_long_eq x0)) hZ (hw _ (List.mem_of_getElem? (i := 18) rfl)) (hw _ (List.mem_of_getElem? (i := 1) rfl)) (by decide) (by decide)) (g := (mkF m 104 #[.val (.long x0), .second, .val (.long x1), .second, .val (.int x2), .val (.int (0 : Int32)), .val (.ref r_TIMESTAMPED), .val (.ref b6), .val (.ref b56), .val (.long w77), .second, .val (.ref b56), .unset] [(.ref b56)])) rfl (by rw [hml]; rfl) (argsL := [(.ref b56)]) (rest := []) (lenOf pd_4 rfl) rfl (by show 2 * 0 + _ ≤ _; exact Nat.le_of_eq rfl) (hb hby at_104) (fun _ _ => ⟨rfl, rfl, (by decide : 2 + 0 ≤ _), (by decide : 46 + 0 ≤ _)⟩)
          dsimp only [Pt.U, Pt.locs, Pt.cells, Pt.slots] at X87 l87 y87 z87 st87 hQ87
          subst l87 y87 z87
          obtain ⟨hv87, N87q, e87⟩ := hQ87
          rw [show own_of x0 ((8 : Int32) + zr) r_TIMESTAMPED r_NUMBERED = .ref r_TIMESTAMPED from own_of_ts zr hz0 hz1 hT] at hv87
          subst hv87
          have N87 := Fr.app N56 N87q
          have pre87 : Go p.tables e below (s₁.setTop (entryFrame m #[(.long x0), (.long x1), (.int x2)] maxLocals)) T87 (mkF m 107 #[.val (.long x0), .second, .val (.long x1), .second, .val (.int x2), .val (.int (0 : Int32)), .val (.ref r_TIMESTAMPED), .val (.ref b6), .val (.ref b56), .val (.long w77), .second, .val (.ref b56), .unset] [(.ref r_TIMESTAMPED)]) := fun t k => pre78 t (st87 _ k)
          have pre88 : Go p.tables e below (s₁.setTop (entryFrame m #[(.long x0), (.long x1), (.int x2)] maxLocals)) T87 (mkF m 122 #[.val (.long x0), .second, .val (.long x1), .second, .val (.int x2), .val (.int (0 : Int32)), .val (.ref r_TIMESTAMPED), .val (.ref b6), .val (.ref b56), .val (.long w77), .second, .val (.ref b56), .val (.int (1 : Int32))] [(.long x0), (.ref r_TIMESTAMPED)]) := fun t k => pre87 t (by
              refine XS.aload X87.here hx rfl (hb hby at_107) rfl rfl ?_
              show Steps p.tables e below (T87.setTop (mkF m 109 #[.val (.long x0), .second, .val (.long x1), .second, .val (.int x2), .val (.int (0 : Int32)), .val (.ref r_TIMESTAMPED), .val (.ref b6), .val (.ref b56), .val (.long w77), .second, .val (.ref b56), .unset] [(.ref r_TIMESTAMPED), (.ref r_TIMESTAMPED)])) _
              refine Jvm.RoadKit.acmp (g := (mkF m 109 #[.val (.long x0), .second, .val (.long x1), .second, .val (.int x2), .val (.int (0 : Int32)), .val (.ref r_TIMESTAMPED), .val (.ref b6), .val (.ref b56), .val (.long w77), .second, .val (.ref b56), .unset] [(.ref r_TIMESTAMPED), (.ref r_TIMESTAMPED)])) X87 hx rfl rfl rfl (pc0 := 109) (pc' := 112) (same := true) rfl (hb hby at_109) rfl (decide_eq_true rfl) (by decide) (by decide) ?_
              show Steps p.tables e below (T87.setTop (mkF m 112 #[.val (.long x0), .second, .val (.long x1), .second, .val (.int x2), .val (.int (0 : Int32)), .val (.ref r_TIMESTAMPED), .val (.ref b6), .val (.ref b56), .val (.long w77), .second, .val (.ref b56), .unset] [])) _
              refine XS.iconst X87.here hx rfl (hb hby at_112) ?_
              show Steps p.tables e below (T87.setTop (mkF m 113 #[.val (.long x0), .second, .val (.long x1), .second, .val (.int x2), .val (.int (0 : Int32)), .val (.ref r_TIMESTAMPED), .val (.ref b6), .val (.ref b56), .val (.long w77), .second, .val (.ref b56), .unset] [(.int (1 : Int32))])) _
              refine XS.goto X87.here hx rfl (pc0 := 113) (pc' := 117) rfl (hb hby at_113) (by decide) (by decide) ?_
              show Steps p.tables e below (T87.setTop (mkF m 117 #[.val (.long x0), .second, .val (.long x1), .second, .val (.int x2), .val (.int (0 : Int32)), .val (.ref r_TIMESTAMPED), .val (.ref b6), .val (.ref b56), .val (.long w77), .second, .val (.ref b56), .unset] [(.int (1 : Int32))])) _
              refine XS.istore X87.here hx rfl (hb hby at_117) rfl (l' := #[.val (.long x0), .second, .val (.long x1), .second, .val (.int x2), .val (.int (0 : Int32)), .val (.ref r_TIMESTAMPED), .val (.ref b6), .val (.ref b56), .val (.long w77), .second, .val (.ref b56), .val (.int (1 : Int32))]) rfl ?_
              show Steps p.tables e below (T87.setTop (mkF m 119 #[.val (.long x0), .second, .val (.long x1), .second, .val (.int x2), .val (.int (0 : Int32)), .val (.ref r_TIMESTAMPED), .val (.ref b6), .val (.ref b56), .val (.long w77), .second, .val (.ref b56), .val (.int (1 : Int32))] [])) _
              refine XS.aload X87.here hx rfl (hb hby at_119) rfl rfl ?_
              show Steps p.tables e below (T87.setTop (mkF m 121 #[.val (.long x0), .second, .val (.long x1), .second, .val (.int x2), .val (.int (0 : Int32)), .val (.ref r_TIMESTAMPED), .val (.ref b6), .val (.ref b56), .val (.long w77), .second, .val (.ref b56), .val (.int (1 : Int32))] [(.ref r_TIMESTAMPED)])) _
              refine XS.lloadN X87.here hx rfl (hb hby at_121) rfl ?_
              exact k)
          obtain ⟨cq89, kq89, q89a, q89b, q89c⟩ := isOf hZ e87 (E_TIMESTAMPED.ext f60.2)
          obtain ⟨_, _, ⟨T89, L89, k89, n89⟩, -, X89, ⟨Lc89, hQ89, l89, y89, z89⟩, st89⟩ := X87.virtualBack hx (y := (⟨"com/example/fence/fence/service/ClaimFormat", "carries", "(J)Z"⟩ : MethodName)) (z := (⟨"com/example/fence/fence/service/ClaimFormat", "carries", "(J)Z"⟩ : MethodName)) hown (mvT hZ (hw _ (List.mem_of_getElem? (i := 35) rfl))) (mvT hZ (hw _ (List.mem_of_getElem? (i := 36) rfl))) (notFace_of_selects (args := #[]) (mvT hZ (hw _ (List.mem_of_getElem? (i := 38) rfl)))) (mvT hZ (hw _ (List.mem_of_getElem? (i := 38) rfl))) (mvT hZ (hw _ (List.mem_of_getElem? (i := 37) rfl))) (by decide) (backOf (W := 0) (rm_car l Z av0 hw [] r_TIMESTAMPED x0 r_TIMESTAMPED T56.heap n0 (S_TIMESTAMPED.ext f60.2)) hZ (hw _ (List.mem_of_getElem? (i := 39) rfl)) (hw _ (List.mem_of_getElem? (i := 1) rfl)) (by decide) (by decide)) q89a q89c (g := (mkF m 122 #[.val (.long x0), .second, .val (.long x1), .second, .val (.int x2), .val (.int (0 : Int32)), .val (.ref r_TIMESTAMPED), .val (.ref b6), .val (.ref b56), .val (.long w77), .second, .val (.ref b56), .val (.int (1 : Int32))] [(.long x0), (.ref r_TIMESTAMPED)])) rfl (by rw [hml]; rfl) (Steps.refl _) (argsL := [(.long x0)]) (rest := []) (lenOf pd_5 rfl) rfl (by show 2 * 0 + _ ≤ _; exact Nat.le_of_eq rfl) (hb hby at_122) (fun _ _ => ⟨rfl, e87, (by decide : 2 + 0 ≤ _), (by decide : 46 + 0 ≤ _)⟩)
          dsimp only [Pt.U, Pt.locs, Pt.cells, Pt.slots] at X89 l89 y89 z89 st89 hQ89
          subst l89 y89 z89
          obtain ⟨hv89, N89q, e89⟩ := hQ89
          rw [show own_car r_TIMESTAMPED r_TIMESTAMPED x0 = (1 : Int32) from (if_pos rfl).trans (if_neg hT)] at hv89
          subst hv89
          have N89 := Fr.app N87 N89q
          have pre89 : Go p.tables e below (s₁.setTop (entryFrame m #[(.long x0), (.long x1), (.int x2)] maxLocals)) T89 (mkF m 125 #[.val (.long x0), .second, .val (.long x1), .second, .val (.int x2), .val (.int (0 : Int32)), .val (.ref r_TIMESTAMPED), .val (.ref b6), .val (.ref b56), .val (.long w77), .second, .val (.ref b56), .val (.int (1 : Int32))] [(.int (1 : Int32))]) := fun t k => pre88 t (st89.trans k)
          have pre90 : Go p.tables e below (s₁.setTop (entryFrame m #[(.long x0), (.long x1), (.int x2)] maxLocals)) T89 (mkF m 135 #[.val (.long x0), .second, .val (.long x1), .second, .val (.int x2), .val (.int (0 : Int32)), .val (.ref r_TIMESTAMPED), .val (.ref b6), .val (.ref b56), .val (.long w77), .second, .val (.ref b56), .val (.int (1 : Int32))] [(.int (1 : Int32))]) := fun t k => pre89 t (by
              refine XS.iload X89.here hx rfl (hb hby at_125) rfl ?_
              show Steps p.tables e below (T89.setTop (mkF m 127 #[.val (.long x0), .second, .val (.long x1), .second, .val (.int x2), .val (.int (0 : Int32)), .val (.ref r_TIMESTAMPED), .val (.ref b6), .val (.ref b56), .val (.long w77), .second, .val (.ref b56), .val (.int (1 : Int32))] [(.int (1 : Int32)), (.int (1 : Int32))])) _
              refine XS.icmpNo X89.here hx rfl (hb hby at_127) rfl (teq (by decide)).2 ?_
              show Steps p.tables e below (T89.setTop (mkF m 130 #[.val (.long x0), .second, .val (.long x1), .second, .val (.int x2), .val (.int (0 : Int32)), .val (.ref r_TIMESTAMPED), .val (.ref b6), .val (.ref b56), .val (.long w77), .second, .val (.ref b56), .val (.int (1 : Int32))] [])) _
              refine XS.iconst X89.here hx rfl (hb hby at_130) ?_
              show Steps p.tables e below (T89.setTop (mkF m 131 #[.val (.long x0), .second, .val (.long x1), .second, .val (.int x2), .val (.int (0 : Int32)), .val (.ref r_TIMESTAMPED), .val (.ref b6), .val (.ref b56), .val (.long w77), .second, .val (.ref b56), .val (.int (1 : Int32))] [(.int (1 : Int32))])) _
              refine XS.goto X89.here hx rfl (pc0 := 131) (pc' := 135) rfl (hb hby at_131) (by decide) (by decide) ?_
              exact k)
          obtain ⟨fs, hr, hrun, hended, hW, hsame⟩ := X89.leave (v := some (.int (1 : Int32))) (fun h => by rw [Bd.returns] at h; cases h) (BodyLoose.notSynchronized Bd)
          refine ⟨_, _, pre90 _ ?_, hrun, hended, _, _, rfl, ?_, ⟨_, rfl⟩, hW, hsame.mono (Nat.le_of_ble_eq_true rfl) (Nat.le_of_ble_eq_true rfl)⟩
          · exact retN X89 hx (t := .boolean) Bd.returns (by simp) (hb hby at_135) hr
          · show Q_law Z x0 x1 x2 r_TIMESTAMPED r_NUMBERED h0 n0 _ T89.heap _
            rw [e89]
            exact ⟨rfl, N89⟩
  · -- hc2: False
    have pre91 : Go p.tables e below (s₁.setTop (entryFrame m #[(.long x0), (.long x1), (.int x2)] maxLocals)) s₁ (mkF m 19 #[.val (.long x0), .second, .val (.long x1), .second, .val (.int x2), .val (.int (1 : Int32)), .unset, .unset, .unset, .unset, .unset, .unset, .unset] []) := fun t k => pre1 t (by
        refine XS.ifNo X0.here hx rfl (hb hby at_4) rfl ((if0 _ _).trans (feq hc2).1) ?_
        show Steps p.tables e below (s₁.setTop (mkF m 7 #[.val (.long x0), .second, .val (.long x1), .second, .val (.int x2), .unset, .unset, .unset, .unset, .unset, .unset, .unset, .unset] [])) _
        refine XS.iconst X0.here hx rfl (hb hby at_7) ?_
        show Steps p.tables e below (s₁.setTop (mkF m 8 #[.val (.long x0), .second, .val (.long x1), .second, .val (.int x2), .unset, .unset, .unset, .unset, .unset, .unset, .unset, .unset] [(.int (1 : Int32))])) _
        refine XS.goto X0.here hx rfl (pc0 := 8) (pc' := 12) rfl (hb hby at_8) (by decide) (by decide) ?_
        show Steps p.tables e below (s₁.setTop (mkF m 12 #[.val (.long x0), .second, .val (.long x1), .second, .val (.int x2), .unset, .unset, .unset, .unset, .unset, .unset, .unset, .unset] [(.int (1 : Int32))])) _
        refine XS.istore X0.here hx rfl (hb hby at_12) rfl (l' := #[.val (.long x0), .second, .val (.long x1), .second, .val (.int x2), .val (.int (1 : Int32)), .unset, .unset, .unset, .unset, .unset, .unset, .unset]) rfl ?_
        show Steps p.tables e below (s₁.setTop (mkF m 14 #[.val (.long x0), .second, .val (.long x1), .second, .val (.int x2), .val (.int (1 : Int32)), .unset, .unset, .unset, .unset, .unset, .unset, .unset] [])) _
        refine XS.iload X0.here hx rfl (hb hby at_14) rfl ?_
        show Steps p.tables e below (s₁.setTop (mkF m 16 #[.val (.long x0), .second, .val (.long x1), .second, .val (.int x2), .val (.int (1 : Int32)), .unset, .unset, .unset, .unset, .unset, .unset, .unset] [(.int (1 : Int32))])) _
        refine XS.ifNo X0.here hx rfl (hb hby at_16) rfl ((if0 _ _).trans (feq (by decide)).1) ?_
        exact k)
    obtain ⟨T92, X92, e92, st92⟩ := getS2 X0 hx hZ hown (host := "") (Or.inl (hw _ (List.mem_of_getElem? (i := 41) rfl))) Via.refl e0 (S_NUMBERED.ext O0.2) (g := (mkF m 19 #[.val (.long x0), .second, .val (.long x1), .second, .val (.int x2), .val (.int (1 : Int32)), .unset, .unset, .unset, .unset, .unset, .unset, .unset] [])) rfl (hb hby at_19)
    have pre92 : Go p.tables e below (s₁.setTop (entryFrame m #[(.long x0), (.long x1), (.int x2)] maxLocals)) T92 (mkF m 22 #[.val (.long x0), .second, .val (.long x1), .second, .val (.int x2), .val (.int (1 : Int32)), .unset, .unset, .unset, .unset, .unset, .unset, .unset] [(.ref r_NUMBERED)]) := fun t k => pre91 t (st92 _ k)
    have pre93 : Go p.tables e below (s₁.setTop (entryFrame m #[(.long x0), (.long x1), (.int x2)] maxLocals)) T92 (mkF m 37 #[.val (.long x0), .second, .val (.long x1), .second, .val (.int x2), .val (.int (1 : Int32)), .val (.ref r_NUMBERED), .unset, .unset, .unset, .unset, .unset, .unset] [(.int (((x2.toUInt32 >>> ((1 : Int32) &&& 31).toUInt32).toInt32) &&& (15 : Int32)))]) := fun t k => pre92 t (by
        refine XS.goto X92.here hx rfl (pc0 := 22) (pc' := 28) rfl (hb hby at_22) (by decide) (by decide) ?_
        show Steps p.tables e below (T92.setTop (mkF m 28 #[.val (.long x0), .second, .val (.long x1), .second, .val (.int x2), .val (.int (1 : Int32)), .unset, .unset, .unset, .unset, .unset, .unset, .unset] [(.ref r_NUMBERED)])) _
        refine XS.astore X92.here hx rfl (hb hby at_28) rfl rfl (l' := #[.val (.long x0), .second, .val (.long x1), .second, .val (.int x2), .val (.int (1 : Int32)), .val (.ref r_NUMBERED), .unset, .unset, .unset, .unset, .unset, .unset]) rfl ?_
        show Steps p.tables e below (T92.setTop (mkF m 30 #[.val (.long x0), .second, .val (.long x1), .second, .val (.int x2), .val (.int (1 : Int32)), .val (.ref r_NUMBERED), .unset, .unset, .unset, .unset, .unset, .unset] [])) _
        refine XS.iload X92.here hx rfl (hb hby at_30) rfl ?_
        show Steps p.tables e below (T92.setTop (mkF m 32 #[.val (.long x0), .second, .val (.long x1), .second, .val (.int x2), .val (.int (1 : Int32)), .val (.ref r_NUMBERED), .unset, .unset, .unset, .unset, .unset, .unset] [(.int x2)])) _
        refine XS.iconst X92.here hx rfl (hb hby at_32) ?_
        show Steps p.tables e below (T92.setTop (mkF m 33 #[.val (.long x0), .second, .val (.long x1), .second, .val (.int x2), .val (.int (1 : Int32)), .val (.ref r_NUMBERED), .unset, .unset, .unset, .unset, .unset, .unset] [(.int (1 : Int32)), (.int x2)])) _
        refine XS.iushr X92.here hx rfl (hb hby at_33) rfl ?_
        show Steps p.tables e below (T92.setTop (mkF m 34 #[.val (.long x0), .second, .val (.long x1), .second, .val (.int x2), .val (.int (1 : Int32)), .val (.ref r_NUMBERED), .unset, .unset, .unset, .unset, .unset, .unset] [(.int ((x2.toUInt32 >>> ((1 : Int32) &&& 31).toUInt32).toInt32))])) _
        refine XS.bipush X92.here hx rfl (hb hby at_34) ?_
        show Steps p.tables e below (T92.setTop (mkF m 36 #[.val (.long x0), .second, .val (.long x1), .second, .val (.int x2), .val (.int (1 : Int32)), .val (.ref r_NUMBERED), .unset, .unset, .unset, .unset, .unset, .unset] [(.int (15 : Int32)), (.int ((x2.toUInt32 >>> ((1 : Int32) &&& 31).toUInt32).toInt32))])) _
        refine XS.iand X92.here hx rfl (hb hby at_36) rfl ?_
        exact k)
    obtain ⟨zr, hzr⟩ : ∃ z : Int32, z = (((x2.toUInt32 >>> ((1 : Int32) &&& 31).toUInt32).toInt32) &&& (15 : Int32)) := ⟨_, rfl⟩
    rw [← hzr] at pre93
    obtain ⟨hz0, hz1⟩ := own_and15 hzr
    obtain ⟨T94, h94, k94, X94, e94, E94, A94, st94⟩ := newP X92 hx hZ (hw _ (List.mem_of_getElem? (i := 3) rfl)) e92 (g := (mkF m 37 #[.val (.long x0), .second, .val (.long x1), .second, .val (.int x2), .val (.int (1 : Int32)), .val (.ref r_NUMBERED), .unset, .unset, .unset, .unset, .unset, .unset] [(.int zr)])) rfl (hb hby at_37) rfl (own_le15 zr hz0 hz1).1 (cap := 15) (own_le15 zr hz0 hz1).2 (by decide) (by decide) (by decide)
    obtain ⟨b94, ga94⟩ : ∃ z, z = h0.size := ⟨_, rfl⟩
    rw [← ga94] at A94 st94
    have g95 : n0 ≤ b94 := Nat.le_trans Z0 (Nat.le_of_eq ga94.symm)
    have f96 : n0 ≤ h94.size := Nat.le_trans Z0 E94.1
    have f97 : Old Z n0 h94 := O0.ext E94
    have f98 : Arv Z h94 b94 k94 .byte zr [] (.int (0 : Int32)) := Arv.new A94 (own_le15 zr hz0 hz1).1
    have pre94 : Go p.tables e below (s₁.setTop (entryFrame m #[(.long x0), (.long x1), (.int x2)] maxLocals)) T94 (mkF m 39 #[.val (.long x0), .second, .val (.long x1), .second, .val (.int x2), .val (.int (1 : Int32)), .val (.ref r_NUMBERED), .unset, .unset, .unset, .unset, .unset, .unset] [(.ref b94)]) := fun t k => pre93 t (st94 _ k)
    have fp99 : Arv Z h94 b94 k94 .byte zr [(.int (0 : Int32))] (.int (0 : Int32)) := f98.pad (pad_rep [] (.int (0 : Int32)) 1)
    have pre100 : Go p.tables e below (s₁.setTop (entryFrame m #[(.long x0), (.long x1), (.int x2)] maxLocals)) T94 (mkF m 43 #[.val (.long x0), .second, .val (.long x1), .second, .val (.int x2), .val (.int (1 : Int32)), .val (.ref r_NUMBERED), .val (.ref b94), .unset, .unset, .unset, .unset, .unset] [(.ref b94)]) := fun t k => pre94 t (by
        refine XS.astore X94.here hx rfl (hb hby at_39) rfl rfl (l' := #[.val (.long x0), .second, .val (.long x1), .second, .val (.int x2), .val (.int (1 : Int32)), .val (.ref r_NUMBERED), .val (.ref b94), .unset, .unset, .unset, .unset, .unset]) rfl ?_
        show Steps p.tables e below (T94.setTop (mkF m 41 #[.val (.long x0), .second, .val (.long x1), .second, .val (.int x2), .val (.int (1 : Int32)), .val (.ref r_NUMBERED), .val (.ref b94), .unset, .unset, .unset, .unset, .unset] [])) _
        refine XS.aload X94.here hx rfl (hb hby at_41) rfl rfl ?_
        exact k)
    obtain ⟨c101, Ar101, q101, S101, M101, H101, G101⟩ := (id fp99)
    have pre101 : Go p.tables e below (s₁.setTop (entryFrame m #[(.long x0), (.long x1), (.int x2)] maxLocals)) T94 (mkF m 44 #[.val (.long x0), .second, .val (.long x1), .second, .val (.int x2), .val (.int (1 : Int32)), .val (.ref r_NUMBERED), .val (.ref b94), .unset, .unset, .unset, .unset, .unset] [(.int zr)]) := fun t k => pre100 t (X94.arraylength hx (by rw [e94]; exact Ar101.1) (State.isArrayOf_alike hZ.alike Ar101.2.1) (g := (mkF m 43 #[.val (.long x0), .second, .val (.long x1), .second, .val (.int x2), .val (.int (1 : Int32)), .val (.ref r_NUMBERED), .val (.ref b94), .unset, .unset, .unset, .unset, .unset] [(.ref b94)])) rfl rfl (hb hby at_43) _ (by rw [len_of S101 M101]; exact k))
    by_cases hc102 : (0 : Int32) < zr
    · -- hc102: True
      have pre103 : Go p.tables e below (s₁.setTop (entryFrame m #[(.long x0), (.long x1), (.int x2)] maxLocals)) T94 (mkF m 55 #[.val (.long x0), .second, .val (.long x1), .second, .val (.int x2), .val (.int (1 : Int32)), .val (.ref r_NUMBERED), .val (.ref b94), .unset, .unset, .unset, .unset, .unset] [(.int (((x2.toUInt32 >>> ((5 : Int32) &&& 31).toUInt32).toInt32).toInt8.toInt32)), (.int (0 : Int32)), (.ref b94)]) := fun t k => pre101 t (by
          refine XS.ifNo X94.here hx rfl (hb hby at_44) rfl ((if0 _ _).trans (tlt hc102).2.2.2) ?_
          show Steps p.tables e below (T94.setTop (mkF m 47 #[.val (.long x0), .second, .val (.long x1), .second, .val (.int x2), .val (.int (1 : Int32)), .val (.ref r_NUMBERED), .val (.ref b94), .unset, .unset, .unset, .unset, .unset] [])) _
          refine XS.aload X94.here hx rfl (hb hby at_47) rfl rfl ?_
          show Steps p.tables e below (T94.setTop (mkF m 49 #[.val (.long x0), .second, .val (.long x1), .second, .val (.int x2), .val (.int (1 : Int32)), .val (.ref r_NUMBERED), .val (.ref b94), .unset, .unset, .unset, .unset, .unset] [(.ref b94)])) _
          refine XS.iconst X94.here hx rfl (hb hby at_49) ?_
          show Steps p.tables e below (T94.setTop (mkF m 50 #[.val (.long x0), .second, .val (.long x1), .second, .val (.int x2), .val (.int (1 : Int32)), .val (.ref r_NUMBERED), .val (.ref b94), .unset, .unset, .unset, .unset, .unset] [(.int (0 : Int32)), (.ref b94)])) _
          refine XS.iload X94.here hx rfl (hb hby at_50) rfl ?_
          show Steps p.tables e below (T94.setTop (mkF m 52 #[.val (.long x0), .second, .val (.long x1), .second, .val (.int x2), .val (.int (1 : Int32)), .val (.ref r_NUMBERED), .val (.ref b94), .unset, .unset, .unset, .unset, .unset] [(.int x2), (.int (0 : Int32)), (.ref b94)])) _
          refine XS.iconst X94.here hx rfl (hb hby at_52) ?_
          show Steps p.tables e below (T94.setTop (mkF m 53 #[.val (.long x0), .second, .val (.long x1), .second, .val (.int x2), .val (.int (1 : Int32)), .val (.ref r_NUMBERED), .val (.ref b94), .unset, .unset, .unset, .unset, .unset] [(.int (5 : Int32)), (.int x2), (.int (0 : Int32)), (.ref b94)])) _
          refine XS.iushr X94.here hx rfl (hb hby at_53) rfl ?_
          show Steps p.tables e below (T94.setTop (mkF m 54 #[.val (.long x0), .second, .val (.long x1), .second, .val (.int x2), .val (.int (1 : Int32)), .val (.ref r_NUMBERED), .val (.ref b94), .unset, .unset, .unset, .unset, .unset] [(.int ((x2.toUInt32 >>> ((5 : Int32) &&& 31).toUInt32).toInt32)), (.int (0 : Int32)), (.ref b94)])) _
          refine XS.i2b X94.here hx rfl (hb hby at_54) rfl ?_
          exact k)
      obtain ⟨c104, Ar104, q104, S104, M104, H104, G104⟩ := (id fp99)
      have hin104 : ¬ ((0 : Int32) < 0 ∨ c104.slots.size ≤ ((0 : Int32)).toNatClampNeg) := inb_of S104 ⟨by decide, hc102⟩
      obtain ⟨T104, h104, X104, e104, W104, st104⟩ := stB X94 hx hZ e94 Ar104 (j := (0 : Int32)) hin104 (g := (mkF m 55 #[.val (.long x0), .second, .val (.long x1), .second, .val (.int x2), .val (.int (1 : Int32)), .val (.ref r_NUMBERED), .val (.ref b94), .unset, .unset, .unset, .unset, .unset] [(.int (((x2.toUInt32 >>> ((5 : Int32) &&& 31).toUInt32).toInt32).toInt8.toInt32)), (.int (0 : Int32)), (.ref b94)])) rfl rfl (hb hby at_55)
      have fa104 : Arv Z h104 b94 k94 .byte zr [(.int (nar .byte (((x2.toUInt32 >>> ((5 : Int32) &&& 31).toUInt32).toInt32).toInt8.toInt32)))] (.int (0 : Int32)) := Arv.set Ar104 q104 S104 M104 H104 G104 (fits_nar_byte _) W104 0 rfl (Nat.le_of_ble_eq_true rfl)
      have N104 := Fr.snoc X104 N0 g95
      have f105 : n0 ≤ h104.size := Nat.le_trans f96 (Keep.of_wr W104).1
      have f106 : Old Z n0 h104 := f97.wr W104 g95
      have pre104 : Go p.tables e below (s₁.setTop (entryFrame m #[(.long x0), (.long x1), (.int x2)] maxLocals)) T104 (mkF m 56 #[.val (.long x0), .second, .val (.long x1), .second, .val (.int x2), .val (.int (1 : Int32)), .val (.ref r_NUMBERED), .val (.ref b94), .unset, .unset, .unset, .unset, .unset] []) := fun t k => pre103 t (st104 _ k)
      have pre107 : Go p.tables e below (s₁.setTop (entryFrame m #[(.long x0), (.long x1), (.int x2)] maxLocals)) T104 (mkF m 59 #[.val (.long x0), .second, .val (.long x1), .second, .val (.int x2), .val (.int (1 : Int32)), .val (.ref r_NUMBERED), .val (.ref b94), .unset, .unset, .unset, .unset, .unset] [(.ref b94), (.long x0)]) := fun t k => pre104 t (by
          refine XS.lloadN X104.here hx rfl (hb hby at_56) rfl ?_
          show Steps p.tables e below (T104.setTop (mkF m 57 #[.val (.long x0), .second, .val (.long x1), .second, .val (.int x2), .val (.int (1 : Int32)), .val (.ref r_NUMBERED), .val (.ref b94), .unset, .unset, .unset, .unset, .unset] [(.long x0)])) _
          refine XS.aload X104.here hx rfl (hb hby at_57) rfl rfl ?_
          exact k)
      obtain ⟨_, _, ⟨T108, L108, k108, n108⟩, -, X108, ⟨Lc108, hQ108, l108, y108, z108⟩, st108⟩ := Jvm.LawKit.callS X104 hx (y := (⟨"com/example/fence/fence/service/ClaimFormat", "stamp", "(J[B)[B"⟩ : MethodName)) hown (mvT hZ (hw _ (List.mem_of_getElem? (i := 4) rfl))) (mvT hZ (hw _ (List.mem_of_getElem? (i := 5) rfl))) (mvT hZ (hw _ (List.mem_of_getElem? (i := 1) rfl))) (mvT hZ (hw _ (List.mem_of_getElem? (i := 6) rfl))) (by decide) (backOf (W := 0) (rm_stp l Z av0 hw [] x0 b94 k94 zr [(.int (nar .byte (((x2.toUInt32 >>> ((5 : Int32) &&& 31).toUInt32).toInt32).toInt8.toInt32)))] (.int (0 : Int32)) h104 n0 f105 fa104 hz0 (own_le23 hz1)) hZ (hw _ (List.mem_of_getElem? (i := 6) rfl)) (hw _ (List.mem_of_getElem? (i := 1) rfl)) (by decide) (by decide)) (g := (mkF m 59 #[.val (.long x0), .second, .val (.long x1), .second, .val (.int x2), .val (.int (1 : Int32)), .val (.ref r_NUMBERED), .val (.ref b94), .unset, .unset, .unset, .unset, .unset] [(.ref b94), (.long x0)])) rfl (by rw [hml]; rfl) (argsL := [(.long x0), (.ref b94)]) (rest := []) (lenOf pd_3 rfl) rfl (by show 2 * 0 + _ ≤ _; exact Nat.le_of_eq rfl) (hb hby at_59) (fun _ _ => ⟨rfl, e104, (by decide : 1 + 1 ≤ _), (by decide : 15 + 31 ≤ _)⟩)
      dsimp only [Pt.U, Pt.locs, Pt.cells, Pt.slots] at X108 l108 y108 z108 st108 hQ108
      subst l108 y108 z108
      obtain ⟨b108, kc108, ws108, rfl, N108q, K108, gb108, sb108, V108⟩ := hQ108
      have ne109 : b94 ≠ b108 := Nat.ne_of_lt (Nat.lt_of_lt_of_le fa104.lt sb108)
      have g110 : n0 ≤ b108 := Nat.le_trans f105 sb108
      have f111 : n0 ≤ T108.heap.size := Nat.le_trans f105 K108.1
      have f112 : Old Z n0 T108.heap := f106.keep K108 all0
      have f113 : Arv Z T108.heap b94 k94 .byte zr [(.int (nar .byte (((x2.toUInt32 >>> ((5 : Int32) &&& 31).toUInt32).toInt32).toInt8.toInt32)))] (.int (0 : Int32)) := fa104.keep K108 nin0
      have N108 := Fr.app N104 N108q
      have pre108 : Go p.tables e below (s₁.setTop (entryFrame m #[(.long x0), (.long x1), (.int x2)] maxLocals)) T108 (mkF m 62 #[.val (.long x0), .second, .val (.long x1), .second, .val (.int x2), .val (.int (1 : Int32)), .val (.ref r_NUMBERED), .val (.ref b94), .unset, .unset, .unset, .unset, .unset] [(.ref b108)]) := fun t k => pre107 t (st108 _ k)
      have pre114 : Go p.tables e below (s₁.setTop (entryFrame m #[(.long x0), (.long x1), (.int x2)] maxLocals)) T108 (mkF m 69 #[.val (.long x0), .second, .val (.long x1), .second, .val (.int x2), .val (.int (1 : Int32)), .val (.ref r_NUMBERED), .val (.ref b94), .val (.ref b108), .unset, .unset, .unset, .unset] [(.int (lcmpW x1 (946684800000000000 : Int64)))]) := fun t k => pre108 t (by
          refine XS.astore X108.here hx rfl (hb hby at_62) rfl rfl (l' := #[.val (.long x0), .second, .val (.long x1), .second, .val (.int x2), .val (.int (1 : Int32)), .val (.ref r_NUMBERED), .val (.ref b94), .val (.ref b108), .unset, .unset, .unset, .unset]) rfl ?_
          show Steps p.tables e below (T108.setTop (mkF m 64 #[.val (.long x0), .second, .val (.long x1), .second, .val (.int x2), .val (.int (1 : Int32)), .val (.ref r_NUMBERED), .val (.ref b94), .val (.ref b108), .unset, .unset, .unset, .unset] [])) _
          refine XS.lloadN X108.here hx rfl (hb hby at_64) rfl ?_
          show Steps p.tables e below (T108.setTop (mkF m 65 #[.val (.long x0), .second, .val (.long x1), .second, .val (.int x2), .val (.int (1 : Int32)), .val (.ref r_NUMBERED), .val (.ref b94), .val (.ref b108), .unset, .unset, .unset, .unset] [(.long x1)])) _
          refine X108.ldc2Long hx hown (mvT hZ (hw _ (List.mem_of_getElem? (i := 15) rfl))) (g := (mkF m 65 #[.val (.long x0), .second, .val (.long x1), .second, .val (.int x2), .val (.int (1 : Int32)), .val (.ref r_NUMBERED), .val (.ref b94), .val (.ref b108), .unset, .unset, .unset, .unset] [(.long x1)])) rfl (hb hby at_65) _ ?_
          show Steps p.tables e below (T108.setTop (mkF m 68 #[.val (.long x0), .second, .val (.long x1), .second, .val (.int x2), .val (.int (1 : Int32)), .val (.ref r_NUMBERED), .val (.ref b94), .val (.ref b108), .unset, .unset, .unset, .unset] [(.long (946684800000000000 : Int64)), (.long x1)])) _
          refine XS.lcmp X108.here hx rfl (hb hby at_68) rfl ?_
          exact k)
      by_cases hc115 : x1 < (946684800000000000 : Int64)
      · -- hc115: True
        have pre116 : Go p.tables e below (s₁.setTop (entryFrame m #[(.long x0), (.long x1), (.int x2)] maxLocals)) T108 (mkF m 92 #[.val (.long x0), .second, .val (.long x1), .second, .val (.int x2), .val (.int (1 : Int32)), .val (.ref r_NUMBERED), .val (.ref b94), .val (.ref b108), .val (.long x1), .second, .unset, .unset] [(.ref b108), (.long x1)]) := fun t k => pre114 t (by
            refine XS.ifNo X108.here hx rfl (hb hby at_69) rfl ((if0 _ _).trans (tlt ((lw_lt _ _).mpr hc115)).2.1) ?_
            show Steps p.tables e below (T108.setTop (mkF m 72 #[.val (.long x0), .second, .val (.long x1), .second, .val (.int x2), .val (.int (1 : Int32)), .val (.ref r_NUMBERED), .val (.ref b94), .val (.ref b108), .unset, .unset, .unset, .unset] [])) _
            refine XS.lloadN X108.here hx rfl (hb hby at_72) rfl ?_
            show Steps p.tables e below (T108.setTop (mkF m 73 #[.val (.long x0), .second, .val (.long x1), .second, .val (.int x2), .val (.int (1 : Int32)), .val (.ref r_NUMBERED), .val (.ref b94), .val (.ref b108), .unset, .unset, .unset, .unset] [(.long x1)])) _
            refine XS.goto X108.here hx rfl (pc0 := 73) (pc' := 81) rfl (hb hby at_73) (by decide) (by decide) ?_
            show Steps p.tables e below (T108.setTop (mkF m 81 #[.val (.long x0), .second, .val (.long x1), .second, .val (.int x2), .val (.int (1 : Int32)), .val (.ref r_NUMBERED), .val (.ref b94), .val (.ref b108), .unset, .unset, .unset, .unset] [(.long x1)])) _
            refine XS.lstore X108.here hx rfl (hb hby at_81) rfl (l' := #[.val (.long x0), .second, .val (.long x1), .second, .val (.int x2), .val (.int (1 : Int32)), .val (.ref r_NUMBERED), .val (.ref b94), .val (.ref b108), .val (.long x1), .second, .unset, .unset]) rfl ?_
            show Steps p.tables e below (T108.setTop (mkF m 83 #[.val (.long x0), .second, .val (.long x1), .second, .val (.int x2), .val (.int (1 : Int32)), .val (.ref r_NUMBERED), .val (.ref b94), .val (.ref b108), .val (.long x1), .second, .unset, .unset] [])) _
            refine XS.iload X108.here hx rfl (hb hby at_83) rfl ?_
            show Steps p.tables e below (T108.setTop (mkF m 85 #[.val (.long x0), .second, .val (.long x1), .second, .val (.int x2), .val (.int (1 : Int32)), .val (.ref r_NUMBERED), .val (.ref b94), .val (.ref b108), .val (.long x1), .second, .unset, .unset] [(.int (1 : Int32))])) _
            refine XS.ifNo X108.here hx rfl (hb hby at_85) rfl ((if0 _ _).trans (feq (by decide)).1) ?_
            show Steps p.tables e below (T108.setTop (mkF m 88 #[.val (.long x0), .second, .val (.long x1), .second, .val (.int x2), .val (.int (1 : Int32)), .val (.ref r_NUMBERED), .val (.ref b94), .val (.ref b108), .val (.long x1), .second, .unset, .unset] [])) _
            refine XS.lload X108.here hx rfl (hb hby at_88) rfl ?_
            show Steps p.tables e below (T108.setTop (mkF m 90 #[.val (.long x0), .second, .val (.long x1), .second, .val (.int x2), .val (.int (1 : Int32)), .val (.ref r_NUMBERED), .val (.ref b94), .val (.ref b108), .val (.long x1), .second, .unset, .unset] [(.long x1)])) _
            refine XS.aload X108.here hx rfl (hb hby at_90) rfl rfl ?_
            exact k)
        obtain ⟨_, _, ⟨T117, L117, k117, n117⟩, -, X117, ⟨Lc117, hQ117, l117, y117, z117⟩, st117⟩ := Jvm.LawKit.callS X108 hx (y := (⟨"com/example/fence/fence/io/KeyColumnStore", "numberedColumn", "(J[B)[B"⟩ : MethodName)) hown (mvT hZ (hw _ (List.mem_of_getElem? (i := 42) rfl))) (mvT hZ (hw _ (List.mem_of_getElem? (i := 43) rfl))) (mvT hZ (hw _ (List.mem_of_getElem? (i := 44) rfl))) (mvT hZ (hw _ (List.mem_of_getElem? (i := 45) rfl))) (by decide) (backOf (W := 0) (rm_num l Z av0 hw [] x1 b108 kc108 ((8 : Int32) + zr) ([(.int (own_b8 (own_sh x0 56))), (.int (own_b8 (own_sh x0 48))), (.int (own_b8 (own_sh x0 40))), (.int (own_b8 (own_sh x0 32))), (.int (own_b8 (own_sh x0 24))), (.int (own_b8 (own_sh x0 16))), (.int (own_b8 (own_sh x0 8))), (.int (own_b8 x0))] ++ ws108) (.int (0 : Int32)) T108.heap n0 f111 V108 (own_hz8 zr hz0 hz1).1 (own_hz8 zr hz0 hz1).2) hZ (hw _ (List.mem_of_getElem? (i := 45) rfl)) (hw _ (List.mem_of_getElem? (i := 44) rfl)) (by decide) (by decide)) (g := (mkF m 92 #[.val (.long x0), .second, .val (.long x1), .second, .val (.int x2), .val (.int (1 : Int32)), .val (.ref r_NUMBERED), .val (.ref b94), .val (.ref b108), .val (.long x1), .second, .unset, .unset] [(.ref b108), (.long x1)])) rfl (by rw [hml]; rfl) (argsL := [(.long x1), (.ref b108)]) (rest := []) (lenOf pd_3 rfl) rfl (by show 2 * 0 + _ ≤ _; exact Nat.le_of_eq rfl) (hb hby at_92) (fun _ _ => ⟨rfl, rfl, (by decide : 2 + 1 ≤ _), (by decide : 46 + 31 ≤ _)⟩)
        dsimp only [Pt.U, Pt.locs, Pt.cells, Pt.slots] at X117 l117 y117 z117 st117 hQ117
        subst l117 y117 z117
        obtain ⟨b117, kc117, ws117, rfl, N117q, K117, gb117, sb117, V117⟩ := hQ117
        have ne118 : b94 ≠ b117 := Nat.ne_of_lt (Nat.lt_of_lt_of_le f113.lt sb117)
        have ne119 : b108 ≠ b117 := Nat.ne_of_lt (Nat.lt_of_lt_of_le V108.lt sb117)
        have g120 : n0 ≤ b117 := Nat.le_trans f111 sb117
        have f121 : n0 ≤ T117.heap.size := Nat.le_trans f111 K117.1
        have f122 : Old Z n0 T117.heap := f112.keep K117 all0
        have f123 : Arv Z T117.heap b94 k94 .byte zr [(.int (nar .byte (((x2.toUInt32 >>> ((5 : Int32) &&& 31).toUInt32).toInt32).toInt8.toInt32)))] (.int (0 : Int32)) := f113.keep K117 nin0
        have f124 : Arv Z T117.heap b108 kc108 .byte ((8 : Int32) + zr) ([(.int (own_b8 (own_sh x0 56))), (.int (own_b8 (own_sh x0 48))), (.int (own_b8 (own_sh x0 40))), (.int (own_b8 (own_sh x0 32))), (.int (own_b8 (own_sh x0 24))), (.int (own_b8 (own_sh x0 16))), (.int (own_b8 (own_sh x0 8))), (.int (own_b8 x0))] ++ ws108) (.int (0 : Int32)) := V108.keep K117 nin0
        have N117 := Fr.app N108 N117q
        have pre117 : Go p.tables e below (s₁.setTop (entryFrame m #[(.long x0), (.long x1), (.int x2)] maxLocals)) T117 (mkF m 95 #[.val (.long x0), .second, .val (.long x1), .second, .val (.int x2), .val (.int (1 : Int32)), .val (.ref r_NUMBERED), .val (.ref b94), .val (.ref b108), .val (.long x1), .second, .unset, .unset] [(.ref b117)]) := fun t k => pre116 t (st117 _ k)
        have pre125 : Go p.tables e below (s₁.setTop (entryFrame m #[(.long x0), (.long x1), (.int x2)] maxLocals)) T117 (mkF m 104 #[.val (.long x0), .second, .val (.long x1), .second, .val (.int x2), .val (.int (1 : Int32)), .val (.ref r_NUMBERED), .val (.ref b94), .val (.ref b108), .val (.long x1), .second, .val (.ref b117), .unset] [(.ref b117)]) := fun t k => pre117 t (by
            refine XS.goto X117.here hx rfl (pc0 := 95) (pc' := 100) rfl (hb hby at_95) (by decide) (by decide) ?_
            show Steps p.tables e below (T117.setTop (mkF m 100 #[.val (.long x0), .second, .val (.long x1), .second, .val (.int x2), .val (.int (1 : Int32)), .val (.ref r_NUMBERED), .val (.ref b94), .val (.ref b108), .val (.long x1), .second, .unset, .unset] [(.ref b117)])) _
            refine XS.astore X117.here hx rfl (hb hby at_100) rfl rfl (l' := #[.val (.long x0), .second, .val (.long x1), .second, .val (.int x2), .val (.int (1 : Int32)), .val (.ref r_NUMBERED), .val (.ref b94), .val (.ref b108), .val (.long x1), .second, .val (.ref b117), .unset]) rfl ?_
            show Steps p.tables e below (T117.setTop (mkF m 102 #[.val (.long x0), .second, .val (.long x1), .second, .val (.int x2), .val (.int (1 : Int32)), .val (.ref r_NUMBERED), .val (.ref b94), .val (.ref b108), .val (.long x1), .second, .val (.ref b117), .unset] [])) _
            refine XS.aload X117.here hx rfl (hb hby at_102) rfl rfl ?_
            exact k)
        obtain ⟨_, _, ⟨T126, L126, k126, n126⟩, -, X126, ⟨Lc126, hQ126, l126, y126, z126⟩, st126⟩ := Jvm.LawKit.callS X117 hx (y := (⟨"com/example/fence/fence/service/ClaimFormat", "ofColumn", "([B)Lcom/example/fence/fence/service/ClaimFormat;"⟩ : MethodName)) hown (mvT hZ (hw _ (List.mem_of_getElem? (i := 16) rfl))) (mvT hZ (hw _ (List.mem_of_getElem? (i := 17) rfl))) (mvT hZ (hw _ (List.mem_of_getElem? (i := 1) rfl))) (mvT hZ (hw _ (List.mem_of_getElem? (i := 18) rfl))) (by decide) (backOf (W := 0) (rm_ofc l Z av0 hw [] b117 kc117 ((8 : Int32) + ((8 : Int32) + zr)) ([(.int (own_b8 (own_sh x1 56))), (.int (own_b8 (own_sh x1 48))), (.int (own_b8 (own_sh x1 40))), (.int (own_b8 (own_sh x1 32))), (.int (own_b8 (own_sh x1 24))), (.int (own_b8 (own_sh x1 16))), (.int (own_b8 (own_sh x1 8))), (.int (own_b8 x1))] ++ ws117) (.int (0 : Int32)) (own_b8 (own_sh x1 56)) (own_b8 (own_sh x1 48)) (own_b8 (own_sh x1 40)) (own_b8 (own_sh x1 32)) (own_b8 (own_sh x1 24)) (own_b8 (own_sh x1 16)) (own_b8 (own_sh x1 8)) (own_b8 x1) x1 r_TIMESTAMPED r_NUMBERED T117.heap n0 f122 S_TIMESTAMPED S_NUMBERED E_TIMESTAMPED E_NUMBERED F_TIMESTAMPED F_NUMBERED V117 rfl rfl rfl rfl rfl rfl rfl rfl (own_long_eq x1)) hZ (hw _ (List.mem_of_getElem? (i := 18) rfl)) (hw _ (List.mem_of_getElem? (i := 1) rfl)) (by decide) (by decide)) (g := (mkF m 104 #[.val (.long x0), .second, .val (.long x1), .second, .val (.int x2), .val (.int (1 : Int32)), .val (.ref r_NUMBERED), .val (.ref b94), .val (.ref b108), .val (.long x1), .second, .val (.ref b117), .unset] [(.ref b117)])) rfl (by rw [hml]; rfl) (argsL := [(.ref b117)]) (rest := []) (lenOf pd_4 rfl) rfl (by show 2 * 0 + _ ≤ _; exact Nat.le_of_eq rfl) (hb hby at_104) (fun _ _ => ⟨rfl, rfl, (by decide : 3 + 0 ≤ _), (by decide : 77 + 0 ≤ _)⟩)
        dsimp only [Pt.U, Pt.locs, Pt.cells, Pt.slots] at X126 l126 y126 z126 st126 hQ126
        subst l126 y126 z126
        obtain ⟨hv126, N126q, e126⟩ := hQ126
        rw [show own_of x1 ((8 : Int32) + ((8 : Int32) + zr)) r_TIMESTAMPED r_NUMBERED = .ref r_NUMBERED from own_of_num zr hz0 hz1 hc115] at hv126
        subst hv126
        have N126 := Fr.app N117 N126q
        have pre126 : Go p.tables e below (s₁.setTop (entryFrame m #[(.long x0), (.long x1), (.int x2)] maxLocals)) T126 (mkF m 107 #[.val (.long x0), .second, .val (.long x1), .second, .val (.int x2), .val (.int (1 : Int32)), .val (.ref r_NUMBERED), .val (.ref b94), .val (.ref b108), .val (.long x1), .second, .val (.ref b117), .unset] [(.ref r_NUMBERED)]) := fun t k => pre125 t (st126 _ k)
        have pre127 : Go p.tables e below (s₁.setTop (entryFrame m #[(.long x0), (.long x1), (.int x2)] maxLocals)) T126 (mkF m 122 #[.val (.long x0), .second, .val (.long x1), .second, .val (.int x2), .val (.int (1 : Int32)), .val (.ref r_NUMBERED), .val (.ref b94), .val (.ref b108), .val (.long x1), .second, .val (.ref b117), .val (.int (1 : Int32))] [(.long x0), (.ref r_NUMBERED)]) := fun t k => pre126 t (by
            refine XS.aload X126.here hx rfl (hb hby at_107) rfl rfl ?_
            show Steps p.tables e below (T126.setTop (mkF m 109 #[.val (.long x0), .second, .val (.long x1), .second, .val (.int x2), .val (.int (1 : Int32)), .val (.ref r_NUMBERED), .val (.ref b94), .val (.ref b108), .val (.long x1), .second, .val (.ref b117), .unset] [(.ref r_NUMBERED), (.ref r_NUMBERED)])) _
            refine Jvm.RoadKit.acmp (g := (mkF m 109 #[.val (.long x0), .second, .val (.long x1), .second, .val (.int x2), .val (.int (1 : Int32)), .val (.ref r_NUMBERED), .val (.ref b94), .val (.ref b108), .val (.long x1), .second, .val (.ref b117), .unset] [(.ref r_NUMBERED), (.ref r_NUMBERED)])) X126 hx rfl rfl rfl (pc0 := 109) (pc' := 112) (same := true) rfl (hb hby at_109) rfl (decide_eq_true rfl) (by decide) (by decide) ?_
            show Steps p.tables e below (T126.setTop (mkF m 112 #[.val (.long x0), .second, .val (.long x1), .second, .val (.int x2), .val (.int (1 : Int32)), .val (.ref r_NUMBERED), .val (.ref b94), .val (.ref b108), .val (.long x1), .second, .val (.ref b117), .unset] [])) _
            refine XS.iconst X126.here hx rfl (hb hby at_112) ?_
            show Steps p.tables e below (T126.setTop (mkF m 113 #[.val (.long x0), .second, .val (.long x1), .second, .val (.int x2), .val (.int (1 : Int32)), .val (.ref r_NUMBERED), .val (.ref b94), .val (.ref b108), .val (.long x1), .second, .val (.ref b117), .unset] [(.int (1 : Int32))])) _
            refine XS.goto X126.here hx rfl (pc0 := 113) (pc' := 117) rfl (hb hby at_113) (by decide) (by decide) ?_
            show Steps p.tables e below (T126.setTop (mkF m 117 #[.val (.long x0), .second, .val (.long x1), .second, .val (.int x2), .val (.int (1 : Int32)), .val (.ref r_NUMBERED), .val (.ref b94), .val (.ref b108), .val (.long x1), .second, .val (.ref b117), .unset] [(.int (1 : Int32))])) _
            refine XS.istore X126.here hx rfl (hb hby at_117) rfl (l' := #[.val (.long x0), .second, .val (.long x1), .second, .val (.int x2), .val (.int (1 : Int32)), .val (.ref r_NUMBERED), .val (.ref b94), .val (.ref b108), .val (.long x1), .second, .val (.ref b117), .val (.int (1 : Int32))]) rfl ?_
            show Steps p.tables e below (T126.setTop (mkF m 119 #[.val (.long x0), .second, .val (.long x1), .second, .val (.int x2), .val (.int (1 : Int32)), .val (.ref r_NUMBERED), .val (.ref b94), .val (.ref b108), .val (.long x1), .second, .val (.ref b117), .val (.int (1 : Int32))] [])) _
            refine XS.aload X126.here hx rfl (hb hby at_119) rfl rfl ?_
            show Steps p.tables e below (T126.setTop (mkF m 121 #[.val (.long x0), .second, .val (.long x1), .second, .val (.int x2), .val (.int (1 : Int32)), .val (.ref r_NUMBERED), .val (.ref b94), .val (.ref b108), .val (.long x1), .second, .val (.ref b117), .val (.int (1 : Int32))] [(.ref r_NUMBERED)])) _
            refine XS.lloadN X126.here hx rfl (hb hby at_121) rfl ?_
            exact k)
        obtain ⟨cq128, kq128, q128a, q128b, q128c⟩ := isOf hZ e126 (E_NUMBERED.ext f122.2)
        obtain ⟨_, _, ⟨T128, L128, k128, n128⟩, -, X128, ⟨Lc128, hQ128, l128, y128, z128⟩, st128⟩ := X126.virtualBack hx (y := (⟨"com/example/fence/fence/service/ClaimFormat", "carries", "(J)Z"⟩ : MethodName)) (z := (⟨"com/example/fence/fence/service/ClaimFormat", "carries", "(J)Z"⟩ : MethodName)) hown (mvT hZ (hw _ (List.mem_of_getElem? (i := 35) rfl))) (mvT hZ (hw _ (List.mem_of_getElem? (i := 36) rfl))) (notFace_of_selects (args := #[]) (mvT hZ (hw _ (List.mem_of_getElem? (i := 47) rfl)))) (mvT hZ (hw _ (List.mem_of_getElem? (i := 47) rfl))) (mvT hZ (hw _ (List.mem_of_getElem? (i := 37) rfl))) (by decide) (backOf (W := 0) (rm_car l Z av0 hw [] r_NUMBERED x0 r_TIMESTAMPED T117.heap n0 (S_TIMESTAMPED.ext f122.2)) hZ (hw _ (List.mem_of_getElem? (i := 39) rfl)) (hw _ (List.mem_of_getElem? (i := 1) rfl)) (by decide) (by decide)) q128a q128c (g := (mkF m 122 #[.val (.long x0), .second, .val (.long x1), .second, .val (.int x2), .val (.int (1 : Int32)), .val (.ref r_NUMBERED), .val (.ref b94), .val (.ref b108), .val (.long x1), .second, .val (.ref b117), .val (.int (1 : Int32))] [(.long x0), (.ref r_NUMBERED)])) rfl (by rw [hml]; rfl) (Steps.refl _) (argsL := [(.long x0)]) (rest := []) (lenOf pd_5 rfl) rfl (by show 2 * 0 + _ ≤ _; exact Nat.le_of_eq rfl) (hb hby at_122) (fun _ _ => ⟨rfl, e126, (by decide : 3 + 0 ≤ _), (by decide : 77 + 0 ≤ _)⟩)
        dsimp only [Pt.U, Pt.locs, Pt.cells, Pt.slots] at X128 l128 y128 z128 st128 hQ128
        subst l128 y128 z128
        obtain ⟨hv128, N128q, e128⟩ := hQ128
        rw [show own_car r_NUMBERED r_TIMESTAMPED x0 = (1 : Int32) from if_neg (ne_exa E_NUMBERED E_TIMESTAMPED (by decide))] at hv128
        subst hv128
        have N128 := Fr.app N126 N128q
        have pre128 : Go p.tables e below (s₁.setTop (entryFrame m #[(.long x0), (.long x1), (.int x2)] maxLocals)) T128 (mkF m 125 #[.val (.long x0), .second, .val (.long x1), .second, .val (.int x2), .val (.int (1 : Int32)), .val (.ref r_NUMBERED), .val (.ref b94), .val (.ref b108), .val (.long x1), .second, .val (.ref b117), .val (.int (1 : Int32))] [(.int (1 : Int32))]) := fun t k => pre127 t (st128.trans k)
        have pre129 : Go p.tables e below (s₁.setTop (entryFrame m #[(.long x0), (.long x1), (.int x2)] maxLocals)) T128 (mkF m 135 #[.val (.long x0), .second, .val (.long x1), .second, .val (.int x2), .val (.int (1 : Int32)), .val (.ref r_NUMBERED), .val (.ref b94), .val (.ref b108), .val (.long x1), .second, .val (.ref b117), .val (.int (1 : Int32))] [(.int (1 : Int32))]) := fun t k => pre128 t (by
            refine XS.iload X128.here hx rfl (hb hby at_125) rfl ?_
            show Steps p.tables e below (T128.setTop (mkF m 127 #[.val (.long x0), .second, .val (.long x1), .second, .val (.int x2), .val (.int (1 : Int32)), .val (.ref r_NUMBERED), .val (.ref b94), .val (.ref b108), .val (.long x1), .second, .val (.ref b117), .val (.int (1 : Int32))] [(.int (1 : Int32)), (.int (1 : Int32))])) _
            refine XS.icmpNo X128.here hx rfl (hb hby at_127) rfl (teq (by decide)).2 ?_
            show Steps p.tables e below (T128.setTop (mkF m 130 #[.val (.long x0), .second, .val (.long x1), .second, .val (.int x2), .val (.int (1 : Int32)), .val (.ref r_NUMBERED), .val (.ref b94), .val (.ref b108), .val (.long x1), .second, .val (.ref b117), .val (.int (1 : Int32))] [])) _
            refine XS.iconst X128.here hx rfl (hb hby at_130) ?_
            show Steps p.tables e below (T128.setTop (mkF m 131 #[.val (.long x0), .second, .val (.long x1), .second, .val (.int x2), .val (.int (1 : Int32)), .val (.ref r_NUMBERED), .val (.ref b94), .val (.ref b108), .val (.long x1), .second, .val (.ref b117), .val (.int (1 : Int32))] [(.int (1 : Int32))])) _
            refine XS.goto X128.here hx rfl (pc0 := 131) (pc' := 135) rfl (hb hby at_131) (by decide) (by decide) ?_
            exact k)
        obtain ⟨fs, hr, hrun, hended, hW, hsame⟩ := X128.leave (v := some (.int (1 : Int32))) (fun h => by rw [Bd.returns] at h; cases h) (BodyLoose.notSynchronized Bd)
        refine ⟨_, _, pre129 _ ?_, hrun, hended, _, _, rfl, ?_, ⟨_, rfl⟩, hW, hsame.mono (Nat.le_of_ble_eq_true rfl) (Nat.le_of_ble_eq_true rfl)⟩
        · exact retN X128 hx (t := .boolean) Bd.returns (by simp) (hb hby at_135) hr
        · show Q_law Z x0 x1 x2 r_TIMESTAMPED r_NUMBERED h0 n0 _ T128.heap _
          rw [e128]
          exact ⟨rfl, N128⟩
      · -- hc115: False
        obtain ⟨w130, hw130⟩ : ∃ z : Int64, z = (x1 - x1 / (946684800000000000 : Int64) * (946684800000000000 : Int64)) := ⟨_, rfl⟩
        have pre131 : Go p.tables e below (s₁.setTop (entryFrame m #[(.long x0), (.long x1), (.int x2)] maxLocals)) T108 (mkF m 92 #[.val (.long x0), .second, .val (.long x1), .second, .val (.int x2), .val (.int (1 : Int32)), .val (.ref r_NUMBERED), .val (.ref b94), .val (.ref b108), .val (.long w130), .second, .unset, .unset] [(.ref b108), (.long w130)]) := fun t k => pre114 t (by
            refine XS.ifYes X108.here hx rfl (pc0 := 69) (pc' := 76) rfl (hb hby at_69) rfl ((if0 _ _).trans (flt (mt (lw_lt _ _).mp hc115)).2.1) (by decide) (by decide) ?_
            show Steps p.tables e below (T108.setTop (mkF m 76 #[.val (.long x0), .second, .val (.long x1), .second, .val (.int x2), .val (.int (1 : Int32)), .val (.ref r_NUMBERED), .val (.ref b94), .val (.ref b108), .unset, .unset, .unset, .unset] [])) _
            refine XS.lloadN X108.here hx rfl (hb hby at_76) rfl ?_
            show Steps p.tables e below (T108.setTop (mkF m 77 #[.val (.long x0), .second, .val (.long x1), .second, .val (.int x2), .val (.int (1 : Int32)), .val (.ref r_NUMBERED), .val (.ref b94), .val (.ref b108), .unset, .unset, .unset, .unset] [(.long x1)])) _
            refine X108.ldc2Long hx hown (mvT hZ (hw _ (List.mem_of_getElem? (i := 15) rfl))) (g := (mkF m 77 #[.val (.long x0), .second, .val (.long x1), .second, .val (.int x2), .val (.int (1 : Int32)), .val (.ref r_NUMBERED), .val (.ref b94), .val (.ref b108), .unset, .unset, .unset, .unset] [(.long x1)])) rfl (hb hby at_77) _ ?_
            show Steps p.tables e below (T108.setTop (mkF m 80 #[.val (.long x0), .second, .val (.long x1), .second, .val (.int x2), .val (.int (1 : Int32)), .val (.ref r_NUMBERED), .val (.ref b94), .val (.ref b108), .unset, .unset, .unset, .unset] [(.long (946684800000000000 : Int64)), (.long x1)])) _
            refine XS.lrem X108.here hx rfl (hb hby at_80) rfl (by decide) ?_
            show Steps p.tables e below (T108.setTop (mkF m 81 #[.val (.long x0), .second, .val (.long x1), .second, .val (.int x2), .val (.int (1 : Int32)), .val (.ref r_NUMBERED), .val (.ref b94), .val (.ref b108), .unset, .unset, .unset, .unset] [(.long (x1 - x1 / (946684800000000000 : Int64) * (946684800000000000 : Int64)))])) _
            refine XS.lstore X108.here hx rfl (x := w130) (rest := []) (hb hby at_81) (by subst hw130; rfl) (l' := #[.val (.long x0), .second, .val (.long x1), .second, .val (.int x2), .val (.int (1 : Int32)), .val (.ref r_NUMBERED), .val (.ref b94), .val (.ref b108), .val (.long w130), .second, .unset, .unset]) rfl ?_
            show Steps p.tables e below (T108.setTop (mkF m 83 #[.val (.long x0), .second, .val (.long x1), .second, .val (.int x2), .val (.int (1 : Int32)), .val (.ref r_NUMBERED), .val (.ref b94), .val (.ref b108), .val (.long w130), .second, .unset, .unset] [])) _
            refine XS.iload X108.here hx rfl (hb hby at_83) rfl ?_
            show Steps p.tables e below (T108.setTop (mkF m 85 #[.val (.long x0), .second, .val (.long x1), .second, .val (.int x2), .val (.int (1 : Int32)), .val (.ref r_NUMBERED), .val (.ref b94), .val (.ref b108), .val (.long w130), .second, .unset, .unset] [(.int (1 : Int32))])) _
            refine XS.ifNo X108.here hx rfl (hb hby at_85) rfl ((if0 _ _).trans (feq (by decide)).1) ?_
            show Steps p.tables e below (T108.setTop (mkF m 88 #[.val (.long x0), .second, .val (.long x1), .second, .val (.int x2), .val (.int (1 : Int32)), .val (.ref r_NUMBERED), .val (.ref b94), .val (.ref b108), .val (.long w130), .second, .unset, .unset] [])) _
            refine XS.lload X108.here hx rfl (hb hby at_88) rfl ?_
            show Steps p.tables e below (T108.setTop (mkF m 90 #[.val (.long x0), .second, .val (.long x1), .second, .val (.int x2), .val (.int (1 : Int32)), .val (.ref r_NUMBERED), .val (.ref b94), .val (.ref b108), .val (.long w130), .second, .unset, .unset] [(.long w130)])) _
            refine XS.aload X108.here hx rfl (hb hby at_90) rfl rfl ?_
            exact k)
        obtain ⟨_, _, ⟨T132, L132, k132, n132⟩, -, X132, ⟨Lc132, hQ132, l132, y132, z132⟩, st132⟩ := Jvm.LawKit.callS X108 hx (y := (⟨"com/example/fence/fence/io/KeyColumnStore", "numberedColumn", "(J[B)[B"⟩ : MethodName)) hown (mvT hZ (hw _ (List.mem_of_getElem? (i := 42) rfl))) (mvT hZ (hw _ (List.mem_of_getElem? (i := 43) rfl))) (mvT hZ (hw _ (List.mem_of_getElem? (i := 44) rfl))) (mvT hZ (hw _ (List.mem_of_getElem? (i := 45) rfl))) (by decide) (backOf (W := 0) (rm_num l Z av0 hw [] w130 b108 kc108 ((8 : Int32) + zr) ([(.int (own_b8 (own_sh x0 56))), (.int (own_b8 (own_sh x0 48))), (.int (own_b8 (own_sh x0 40))), (.int (own_b8 (own_sh x0 32))), (.int (own_b8 (own_sh x0 24))), (.int (own_b8 (own_sh x0 16))), (.int (own_b8 (own_sh x0 8))), (.int (own_b8 x0))] ++ ws108) (.int (0 : Int32)) T108.heap n0 f111 V108 (own_hz8 zr hz0 hz1).1 (own_hz8 zr hz0 hz1).2) hZ (hw _ (List.mem_of_getElem? (i := 45) rfl)) (hw _ (List.mem_of_getElem? (i := 44) rfl)) (by decide) (by decide)) (g := (mkF m 92 #[.val (.long x0), .second, .val (.long x1), .second, .val (.int x2), .val (.int (1 : Int32)), .val (.ref r_NUMBERED), .val (.ref b94), .val (.ref b108), .val (.long w130), .second, .unset, .unset] [(.ref b108), (.long w130)])) rfl (by rw [hml]; rfl) (argsL := [(.long w130), (.ref b108)]) (rest := []) (lenOf pd_3 rfl) rfl (by show 2 * 0 + _ ≤ _; exact Nat.le_of_eq rfl) (hb hby at_92) (fun _ _ => ⟨rfl, rfl, (by decide : 2 + 1 ≤ _), (by decide : 46 + 31 ≤ _)⟩)
        dsimp only [Pt.U, Pt.locs, Pt.cells, Pt.slots] at X132 l132 y132 z132 st132 hQ132
        subst l132 y132 z132
        obtain ⟨b132, kc132, ws132, rfl, N132q, K132, gb132, sb132, V132⟩ := hQ132
        have ne133 : b94 ≠ b132 := Nat.ne_of_lt (Nat.lt_of_lt_of_le f113.lt sb132)
        have ne134 : b108 ≠ b132 := Nat.ne_of_lt (Nat.lt_of_lt_of_le V108.lt sb132)
        have g135 : n0 ≤ b132 := Nat.le_trans f111 sb132
        have f136 : n0 ≤ T132.heap.size := Nat.le_trans f111 K132.1
        have f137 : Old Z n0 T132.heap := f112.keep K132 all0
        have f138 : Arv Z T132.heap b94 k94 .byte zr [(.int (nar .byte (((x2.toUInt32 >>> ((5 : Int32) &&& 31).toUInt32).toInt32).toInt8.toInt32)))] (.int (0 : Int32)) := f113.keep K132 nin0
        have f139 : Arv Z T132.heap b108 kc108 .byte ((8 : Int32) + zr) ([(.int (own_b8 (own_sh x0 56))), (.int (own_b8 (own_sh x0 48))), (.int (own_b8 (own_sh x0 40))), (.int (own_b8 (own_sh x0 32))), (.int (own_b8 (own_sh x0 24))), (.int (own_b8 (own_sh x0 16))), (.int (own_b8 (own_sh x0 8))), (.int (own_b8 x0))] ++ ws108) (.int (0 : Int32)) := V108.keep K132 nin0
        have N132 := Fr.app N108 N132q
        have pre132 : Go p.tables e below (s₁.setTop (entryFrame m #[(.long x0), (.long x1), (.int x2)] maxLocals)) T132 (mkF m 95 #[.val (.long x0), .second, .val (.long x1), .second, .val (.int x2), .val (.int (1 : Int32)), .val (.ref r_NUMBERED), .val (.ref b94), .val (.ref b108), .val (.long w130), .second, .unset, .unset] [(.ref b132)]) := fun t k => pre131 t (st132 _ k)
        have pre140 : Go p.tables e below (s₁.setTop (entryFrame m #[(.long x0), (.long x1), (.int x2)] maxLocals)) T132 (mkF m 104 #[.val (.long x0), .second, .val (.long x1), .second, .val (.int x2), .val (.int (1 : Int32)), .val (.ref r_NUMBERED), .val (.ref b94), .val (.ref b108), .val (.long w130), .second, .val (.ref b132), .unset] [(.ref b132)]) := fun t k => pre132 t (by
            refine XS.goto X132.here hx rfl (pc0 := 95) (pc' := 100) rfl (hb hby at_95) (by decide) (by decide) ?_
            show Steps p.tables e below (T132.setTop (mkF m 100 #[.val (.long x0), .second, .val (.long x1), .second, .val (.int x2), .val (.int (1 : Int32)), .val (.ref r_NUMBERED), .val (.ref b94), .val (.ref b108), .val (.long w130), .second, .unset, .unset] [(.ref b132)])) _
            refine XS.astore X132.here hx rfl (hb hby at_100) rfl rfl (l' := #[.val (.long x0), .second, .val (.long x1), .second, .val (.int x2), .val (.int (1 : Int32)), .val (.ref r_NUMBERED), .val (.ref b94), .val (.ref b108), .val (.long w130), .second, .val (.ref b132), .unset]) rfl ?_
            show Steps p.tables e below (T132.setTop (mkF m 102 #[.val (.long x0), .second, .val (.long x1), .second, .val (.int x2), .val (.int (1 : Int32)), .val (.ref r_NUMBERED), .val (.ref b94), .val (.ref b108), .val (.long w130), .second, .val (.ref b132), .unset] [])) _
            refine XS.aload X132.here hx rfl (hb hby at_102) rfl rfl ?_
            exact k)
        obtain ⟨_, _, ⟨T141, L141, k141, n141⟩, -, X141, ⟨Lc141, hQ141, l141, y141, z141⟩, st141⟩ := Jvm.LawKit.callS X132 hx (y := (⟨"com/example/fence/fence/service/ClaimFormat", "ofColumn", "([B)Lcom/example/fence/fence/service/ClaimFormat;"⟩ : MethodName)) hown (mvT hZ (hw _ (List.mem_of_getElem? (i := 16) rfl))) (mvT hZ (hw _ (List.mem_of_getElem? (i := 17) rfl))) (mvT hZ (hw _ (List.mem_of_getElem? (i := 1) rfl))) (mvT hZ (hw _ (List.mem_of_getElem? (i := 18) rfl))) (by decide) (backOf (W := 0) (rm_ofc l Z av0 hw [] b132 kc132 ((8 : Int32) + ((8 : Int32) + zr)) ([(.int (own_b8 (own_sh w130 56))), (.int (own_b8 (own_sh w130 48))), (.int (own_b8 (own_sh w130 40))), (.int (own_b8 (own_sh w130 32))), (.int (own_b8 (own_sh w130 24))), (.int (own_b8 (own_sh w130 16))), (.int (own_b8 (own_sh w130 8))), (.int (own_b8 w130))] ++ ws132) (.int (0 : Int32)) (own_b8 (own_sh w130 56)) (own_b8 (own_sh w130 48)) (own_b8 (own_sh w130 40)) (own_b8 (own_sh w130 32)) (own_b8 (own_sh w130 24)) (own_b8 (own_sh w130 16)) (own_b8 (own_sh w130 8)) (own_b8 w130) w130 r_TIMESTAMPED r_NUMBERED T132.heap n0 f137 S_TIMESTAMPED S_NUMBERED E_TIMESTAMPED E_NUMBERED F_TIMESTAMPED F_NUMBERED V132 rfl rfl rfl rfl rfl rfl rfl rfl (own_long_eq w130)) hZ (hw _ (List.mem_of_getElem? (i := 18) rfl)) (hw _ (List.mem_of_getElem? (i := 1) rfl)) (by decide) (by decide)) (g := (mkF m 104 #[.val (.long x0), .second, .val (.long x1), .second, .val (.int x2), .val (.int (1 : Int32)), .val (.ref r_NUMBERED), .val (.ref b94), .val (.ref b108), .val (.long w130), .second, .val (.ref b132), .unset] [(.ref b132)])) rfl (by rw [hml]; rfl) (argsL := [(.ref b132)]) (rest := []) (lenOf pd_4 rfl) rfl (by show 2 * 0 + _ ≤ _; exact Nat.le_of_eq rfl) (hb hby at_104) (fun _ _ => ⟨rfl, rfl, (by decide : 3 + 0 ≤ _), (by decide : 77 + 0 ≤ _)⟩)
        dsimp only [Pt.U, Pt.locs, Pt.cells, Pt.slots] at X141 l141 y141 z141 st141 hQ141
        subst l141 y141 z141
        obtain ⟨hv141, N141q, e141⟩ := hQ141
        rw [show own_of w130 ((8 : Int32) + ((8 : Int32) + zr)) r_TIMESTAMPED r_NUMBERED = .ref r_NUMBERED from own_of_num zr hz0 hz1 (own_rem hw130 hc115)] at hv141
        subst hv141
        have N141 := Fr.app N132 N141q
        have pre141 : Go p.tables e below (s₁.setTop (entryFrame m #[(.long x0), (.long x1), (.int x2)] maxLocals)) T141 (mkF m 107 #[.val (.long x0), .second, .val (.long x1), .second, .val (.int x2), .val (.int (1 : Int32)), .val (.ref r_NUMBERED), .val (.ref b94), .val (.ref b108), .val (.long w130), .second, .val (.ref b132), .unset] [(.ref r_NUMBERED)]) := fun t k => pre140 t (st141 _ k)
        have pre142 : Go p.tables e below (s₁.setTop (entryFrame m #[(.long x0), (.long x1), (.int x2)] maxLocals)) T141 (mkF m 122 #[.val (.long x0), .second, .val (.long x1), .second, .val (.int x2), .val (.int (1 : Int32)), .val (.ref r_NUMBERED), .val (.ref b94), .val (.ref b108), .val (.long w130), .second, .val (.ref b132), .val (.int (1 : Int32))] [(.long x0), (.ref r_NUMBERED)]) := fun t k => pre141 t (by
            refine XS.aload X141.here hx rfl (hb hby at_107) rfl rfl ?_
            show Steps p.tables e below (T141.setTop (mkF m 109 #[.val (.long x0), .second, .val (.long x1), .second, .val (.int x2), .val (.int (1 : Int32)), .val (.ref r_NUMBERED), .val (.ref b94), .val (.ref b108), .val (.long w130), .second, .val (.ref b132), .unset] [(.ref r_NUMBERED), (.ref r_NUMBERED)])) _
            refine Jvm.RoadKit.acmp (g := (mkF m 109 #[.val (.long x0), .second, .val (.long x1), .second, .val (.int x2), .val (.int (1 : Int32)), .val (.ref r_NUMBERED), .val (.ref b94), .val (.ref b108), .val (.long w130), .second, .val (.ref b132), .unset] [(.ref r_NUMBERED), (.ref r_NUMBERED)])) X141 hx rfl rfl rfl (pc0 := 109) (pc' := 112) (same := true) rfl (hb hby at_109) rfl (decide_eq_true rfl) (by decide) (by decide) ?_
            show Steps p.tables e below (T141.setTop (mkF m 112 #[.val (.long x0), .second, .val (.long x1), .second, .val (.int x2), .val (.int (1 : Int32)), .val (.ref r_NUMBERED), .val (.ref b94), .val (.ref b108), .val (.long w130), .second, .val (.ref b132), .unset] [])) _
            refine XS.iconst X141.here hx rfl (hb hby at_112) ?_
            show Steps p.tables e below (T141.setTop (mkF m 113 #[.val (.long x0), .second, .val (.long x1), .second, .val (.int x2), .val (.int (1 : Int32)), .val (.ref r_NUMBERED), .val (.ref b94), .val (.ref b108), .val (.long w130), .second, .val (.ref b132), .unset] [(.int (1 : Int32))])) _
            refine XS.goto X141.here hx rfl (pc0 := 113) (pc' := 117) rfl (hb hby at_113) (by decide) (by decide) ?_
            show Steps p.tables e below (T141.setTop (mkF m 117 #[.val (.long x0), .second, .val (.long x1), .second, .val (.int x2), .val (.int (1 : Int32)), .val (.ref r_NUMBERED), .val (.ref b94), .val (.ref b108), .val (.long w130), .second, .val (.ref b132), .unset] [(.int (1 : Int32))])) _
            refine XS.istore X141.here hx rfl (hb hby at_117) rfl (l' := #[.val (.long x0), .second, .val (.long x1), .second, .val (.int x2), .val (.int (1 : Int32)), .val (.ref r_NUMBERED), .val (.ref b94), .val (.ref b108), .val (.long w130), .second, .val (.ref b132), .val (.int (1 : Int32))]) rfl ?_
            show Steps p.tables e below (T141.setTop (mkF m 119 #[.val (.long x0), .second, .val (.long x1), .second, .val (.int x2), .val (.int (1 : Int32)), .val (.ref r_NUMBERED), .val (.ref b94), .val (.ref b108), .val (.long w130), .second, .val (.ref b132), .val (.int (1 : Int32))] [])) _
            refine XS.aload X141.here hx rfl (hb hby at_119) rfl rfl ?_
            show Steps p.tables e below (T141.setTop (mkF m 121 #[.val (.long x0), .second, .val (.long x1), .second, .val (.int x2), .val (.int (1 : Int32)), .val (.ref r_NUMBERED), .val (.ref b94), .val (.ref b108), .val (.long w130), .second, .val (.ref b132), .val (.int (1 : Int32))] [(.ref r_NUMBERED)])) _
            refine XS.lloadN X141.here hx rfl (hb hby at_121) rfl ?_
            exact k)
        obtain ⟨cq143, kq143, q143a, q143b, q143c⟩ := isOf hZ e141 (E_NUMBERED.ext f137.2)
        obtain ⟨_, _, ⟨T143, L143, k143, n143⟩, -, X143, ⟨Lc143, hQ143, l143, y143, z143⟩, st143⟩ := X141.virtualBack hx (y := (⟨"com/example/fence/fence/service/ClaimFormat", "carries", "(J)Z"⟩ : MethodName)) (z := (⟨"com/example/fence/fence/service/ClaimFormat", "carries", "(J)Z"⟩ : MethodName)) hown (mvT hZ (hw _ (List.mem_of_getElem? (i := 35) rfl))) (mvT hZ (hw _ (List.mem_of_getElem? (i := 36) rfl))) (notFace_of_selects (args := #[]) (mvT hZ (hw _ (List.mem_of_getElem? (i := 47) rfl)))) (mvT hZ (hw _ (List.mem_of_getElem? (i := 47) rfl))) (mvT hZ (hw _ (List.mem_of_getElem? (i := 37) rfl))) (by decide) (backOf (W := 0) (rm_car l Z av0 hw [] r_NUMBERED x0 r_TIMESTAMPED T132.heap n0 (S_TIMESTAMPED.ext f137.2)) hZ (hw _ (List.mem_of_getElem? (i := 39) rfl)) (hw _ (List.mem_of_getElem? (i := 1) rfl)) (by decide) (by decide)) q143a q143c (g := (mkF m 122 #[.val (.long x0), .second, .val (.long x1), .second, .val (.int x2), .val (.int (1 : Int32)), .val (.ref r_NUMBERED), .val (.ref b94), .val (.ref b108), .val (.long w130), .second, .val (.ref b132), .val (.int (1 : Int32))] [(.long x0), (.ref r_NUMBERED)])) rfl (by rw [hml]; rfl) (Steps.refl _) (argsL := [(.long x0)]) (rest := []) (lenOf pd_5 rfl) rfl (by show 2 * 0 + _ ≤ _; exact Nat.le_of_eq rfl) (hb hby at_122) (fun _ _ => ⟨rfl, e141, (by decide : 3 + 0 ≤ _), (by decide : 77 + 0 ≤ _)⟩)
        dsimp only [Pt.U, Pt.locs, Pt.cells, Pt.slots] at X143 l143 y143 z143 st143 hQ143
        subst l143 y143 z143
        obtain ⟨hv143, N143q, e143⟩ := hQ143
        rw [show own_car r_NUMBERED r_TIMESTAMPED x0 = (1 : Int32) from if_neg (ne_exa E_NUMBERED E_TIMESTAMPED (by decide))] at hv143
        subst hv143
        have N143 := Fr.app N141 N143q
        have pre143 : Go p.tables e below (s₁.setTop (entryFrame m #[(.long x0), (.long x1), (.int x2)] maxLocals)) T143 (mkF m 125 #[.val (.long x0), .second, .val (.long x1), .second, .val (.int x2), .val (.int (1 : Int32)), .val (.ref r_NUMBERED), .val (.ref b94), .val (.ref b108), .val (.long w130), .second, .val (.ref b132), .val (.int (1 : Int32))] [(.int (1 : Int32))]) := fun t k => pre142 t (st143.trans k)
        have pre144 : Go p.tables e below (s₁.setTop (entryFrame m #[(.long x0), (.long x1), (.int x2)] maxLocals)) T143 (mkF m 135 #[.val (.long x0), .second, .val (.long x1), .second, .val (.int x2), .val (.int (1 : Int32)), .val (.ref r_NUMBERED), .val (.ref b94), .val (.ref b108), .val (.long w130), .second, .val (.ref b132), .val (.int (1 : Int32))] [(.int (1 : Int32))]) := fun t k => pre143 t (by
            refine XS.iload X143.here hx rfl (hb hby at_125) rfl ?_
            show Steps p.tables e below (T143.setTop (mkF m 127 #[.val (.long x0), .second, .val (.long x1), .second, .val (.int x2), .val (.int (1 : Int32)), .val (.ref r_NUMBERED), .val (.ref b94), .val (.ref b108), .val (.long w130), .second, .val (.ref b132), .val (.int (1 : Int32))] [(.int (1 : Int32)), (.int (1 : Int32))])) _
            refine XS.icmpNo X143.here hx rfl (hb hby at_127) rfl (teq (by decide)).2 ?_
            show Steps p.tables e below (T143.setTop (mkF m 130 #[.val (.long x0), .second, .val (.long x1), .second, .val (.int x2), .val (.int (1 : Int32)), .val (.ref r_NUMBERED), .val (.ref b94), .val (.ref b108), .val (.long w130), .second, .val (.ref b132), .val (.int (1 : Int32))] [])) _
            refine XS.iconst X143.here hx rfl (hb hby at_130) ?_
            show Steps p.tables e below (T143.setTop (mkF m 131 #[.val (.long x0), .second, .val (.long x1), .second, .val (.int x2), .val (.int (1 : Int32)), .val (.ref r_NUMBERED), .val (.ref b94), .val (.ref b108), .val (.long w130), .second, .val (.ref b132), .val (.int (1 : Int32))] [(.int (1 : Int32))])) _
            refine XS.goto X143.here hx rfl (pc0 := 131) (pc' := 135) rfl (hb hby at_131) (by decide) (by decide) ?_
            exact k)
        obtain ⟨fs, hr, hrun, hended, hW, hsame⟩ := X143.leave (v := some (.int (1 : Int32))) (fun h => by rw [Bd.returns] at h; cases h) (BodyLoose.notSynchronized Bd)
        refine ⟨_, _, pre144 _ ?_, hrun, hended, _, _, rfl, ?_, ⟨_, rfl⟩, hW, hsame.mono (Nat.le_of_ble_eq_true rfl) (Nat.le_of_ble_eq_true rfl)⟩
        · exact retN X143 hx (t := .boolean) Bd.returns (by simp) (hb hby at_135) hr
        · show Q_law Z x0 x1 x2 r_TIMESTAMPED r_NUMBERED h0 n0 _ T143.heap _
          rw [e143]
          exact ⟨rfl, N143⟩
    · -- hc102: False
      have pre145 : Go p.tables e below (s₁.setTop (entryFrame m #[(.long x0), (.long x1), (.int x2)] maxLocals)) T94 (mkF m 59 #[.val (.long x0), .second, .val (.long x1), .second, .val (.int x2), .val (.int (1 : Int32)), .val (.ref r_NUMBERED), .val (.ref b94), .unset, .unset, .unset, .unset, .unset] [(.ref b94), (.long x0)]) := fun t k => pre101 t (by
          refine XS.ifYes X94.here hx rfl (pc0 := 44) (pc' := 56) rfl (hb hby at_44) rfl ((if0 _ _).trans (flt hc102).2.2.2) (by decide) (by decide) ?_
          show Steps p.tables e below (T94.setTop (mkF m 56 #[.val (.long x0), .second, .val (.long x1), .second, .val (.int x2), .val (.int (1 : Int32)), .val (.ref r_NUMBERED), .val (.ref b94), .unset, .unset, .unset, .unset, .unset] [])) _
          refine XS.lloadN X94.here hx rfl (hb hby at_56) rfl ?_
          show Steps p.tables e below (T94.setTop (mkF m 57 #[.val (.long x0), .second, .val (.long x1), .second, .val (.int x2), .val (.int (1 : Int32)), .val (.ref r_NUMBERED), .val (.ref b94), .unset, .unset, .unset, .unset, .unset] [(.long x0)])) _
          refine XS.aload X94.here hx rfl (hb hby at_57) rfl rfl ?_
          exact k)
      obtain ⟨_, _, ⟨T146, L146, k146, n146⟩, -, X146, ⟨Lc146, hQ146, l146, y146, z146⟩, st146⟩ := Jvm.LawKit.callS X94 hx (y := (⟨"com/example/fence/fence/service/ClaimFormat", "stamp", "(J[B)[B"⟩ : MethodName)) hown (mvT hZ (hw _ (List.mem_of_getElem? (i := 4) rfl))) (mvT hZ (hw _ (List.mem_of_getElem? (i := 5) rfl))) (mvT hZ (hw _ (List.mem_of_getElem? (i := 1) rfl))) (mvT hZ (hw _ (List.mem_of_getElem? (i := 6) rfl))) (by decide) (backOf (W := 0) (rm_stp l Z av0 hw [] x0 b94 k94 zr [(.int (0 : Int32))] (.int (0 : Int32)) h94 n0 f96 fp99 hz0 (own_le23 hz1)) hZ (hw _ (List.mem_of_getElem? (i := 6) rfl)) (hw _ (List.mem_of_getElem? (i := 1) rfl)) (by decide) (by decide)) (g := (mkF m 59 #[.val (.long x0), .second, .val (.long x1), .second, .val (.int x2), .val (.int (1 : Int32)), .val (.ref r_NUMBERED), .val (.ref b94), .unset, .unset, .unset, .unset, .unset] [(.ref b94), (.long x0)])) rfl (by rw [hml]; rfl) (argsL := [(.long x0), (.ref b94)]) (rest := []) (lenOf pd_3 rfl) rfl (by show 2 * 0 + _ ≤ _; exact Nat.le_of_eq rfl) (hb hby at_59) (fun _ _ => ⟨rfl, e94, (by decide : 1 + 1 ≤ _), (by decide : 15 + 31 ≤ _)⟩)
      dsimp only [Pt.U, Pt.locs, Pt.cells, Pt.slots] at X146 l146 y146 z146 st146 hQ146
      subst l146 y146 z146
      obtain ⟨b146, kc146, ws146, rfl, N146q, K146, gb146, sb146, V146⟩ := hQ146
      have ne147 : b94 ≠ b146 := Nat.ne_of_lt (Nat.lt_of_lt_of_le fp99.lt sb146)
      have g148 : n0 ≤ b146 := Nat.le_trans f96 sb146
      have f149 : n0 ≤ T146.heap.size := Nat.le_trans f96 K146.1
      have f150 : Old Z n0 T146.heap := f97.keep K146 all0
      have f151 : Arv Z T146.heap b94 k94 .byte zr [(.int (0 : Int32))] (.int (0 : Int32)) := fp99.keep K146 nin0
      have N146 := Fr.app N0 N146q
      have pre146 : Go p.tables e below (s₁.setTop (entryFrame m #[(.long x0), (.long x1), (.int x2)] maxLocals)) T146 (mkF m 62 #[.val (.long x0), .second, .val (.long x1), .second, .val (.int x2), .val (.int (1 : Int32)), .val (.ref r_NUMBERED), .val (.ref b94), .unset, .unset, .unset, .unset, .unset] [(.ref b146)]) := fun t k => pre145 t (st146 _ k)
      have pre152 : Go p.tables e below (s₁.setTop (entryFrame m #[(.long x0), (.long x1), (.int x2)] maxLocals)) T146 (mkF m 69 #[.val (.long x0), .second, .val (.long x1), .second, .val (.int x2), .val (.int (1 : Int32)), .val (.ref r_NUMBERED), .val (.ref b94), .val (.ref b146), .unset, .unset, .unset, .unset] [(.int (lcmpW x1 (946684800000000000 : Int64)))]) := fun t k => pre146 t (by
          refine XS.astore X146.here hx rfl (hb hby at_62) rfl rfl (l' := #[.val (.long x0), .second, .val (.long x1), .second, .val (.int x2), .val (.int (1 : Int32)), .val (.ref r_NUMBERED), .val (.ref b94), .val (.ref b146), .unset, .unset, .unset, .unset]) rfl ?_
          show Steps p.tables e below (T146.setTop (mkF m 64 #[.val (.long x0), .second, .val (.long x1), .second, .val (.int x2), .val (.int (1 : Int32)), .val (.ref r_NUMBERED), .val (.ref b94), .val (.ref b146), .unset, .unset, .unset, .unset] [])) _
          refine XS.lloadN X146.here hx rfl (hb hby at_64) rfl ?_
          show Steps p.tables e below (T146.setTop (mkF m 65 #[.val (.long x0), .second, .val (.long x1), .second, .val (.int x2), .val (.int (1 : Int32)), .val (.ref r_NUMBERED), .val (.ref b94), .val (.ref b146), .unset, .unset, .unset, .unset] [(.long x1)])) _
          refine X146.ldc2Long hx hown (mvT hZ (hw _ (List.mem_of_getElem? (i := 15) rfl))) (g := (mkF m 65 #[.val (.long x0), .second, .val (.long x1), .second, .val (.int x2), .val (.int (1 : Int32)), .val (.ref r_NUMBERED), .val (.ref b94), .val (.ref b146), .unset, .unset, .unset, .unset] [(.long x1)])) rfl (hb hby at_65) _ ?_
          show Steps p.tables e below (T146.setTop (mkF m 68 #[.val (.long x0), .second, .val (.long x1), .second, .val (.int x2), .val (.int (1 : Int32)), .val (.ref r_NUMBERED), .val (.ref b94), .val (.ref b146), .unset, .unset, .unset, .unset] [(.long (946684800000000000 : Int64)), (.long x1)])) _
          refine XS.lcmp X146.here hx rfl (hb hby at_68) rfl ?_
          exact k)
      by_cases hc153 : x1 < (946684800000000000 : Int64)
      · -- hc153: True
        have pre154 : Go p.tables e below (s₁.setTop (entryFrame m #[(.long x0), (.long x1), (.int x2)] maxLocals)) T146 (mkF m 92 #[.val (.long x0), .second, .val (.long x1), .second, .val (.int x2), .val (.int (1 : Int32)), .val (.ref r_NUMBERED), .val (.ref b94), .val (.ref b146), .val (.long x1), .second, .unset, .unset] [(.ref b146), (.long x1)]) := fun t k => pre152 t (by
            refine XS.ifNo X146.here hx rfl (hb hby at_69) rfl ((if0 _ _).trans (tlt ((lw_lt _ _).mpr hc153)).2.1) ?_
            show Steps p.tables e below (T146.setTop (mkF m 72 #[.val (.long x0), .second, .val (.long x1), .second, .val (.int x2), .val (.int (1 : Int32)), .val (.ref r_NUMBERED), .val (.ref b94), .val (.ref b146), .unset, .unset, .unset, .unset] [])) _
            refine XS.lloadN X146.here hx rfl (hb hby at_72) rfl ?_
            show Steps p.tables e below (T146.setTop (mkF m 73 #[.val (.long x0), .second, .val (.long x1), .second, .val (.int x2), .val (.int (1 : Int32)), .val (.ref r_NUMBERED), .val (.ref b94), .val (.ref b146), .unset, .unset, .unset, .unset] [(.long x1)])) _
            refine XS.goto X146.here hx rfl (pc0 := 73) (pc' := 81) rfl (hb hby at_73) (by decide) (by decide) ?_
            show Steps p.tables e below (T146.setTop (mkF m 81 #[.val (.long x0), .second, .val (.long x1), .second, .val (.int x2), .val (.int (1 : Int32)), .val (.ref r_NUMBERED), .val (.ref b94), .val (.ref b146), .unset, .unset, .unset, .unset] [(.long x1)])) _
            refine XS.lstore X146.here hx rfl (hb hby at_81) rfl (l' := #[.val (.long x0), .second, .val (.long x1), .second, .val (.int x2), .val (.int (1 : Int32)), .val (.ref r_NUMBERED), .val (.ref b94), .val (.ref b146), .val (.long x1), .second, .unset, .unset]) rfl ?_
            show Steps p.tables e below (T146.setTop (mkF m 83 #[.val (.long x0), .second, .val (.long x1), .second, .val (.int x2), .val (.int (1 : Int32)), .val (.ref r_NUMBERED), .val (.ref b94), .val (.ref b146), .val (.long x1), .second, .unset, .unset] [])) _
            refine XS.iload X146.here hx rfl (hb hby at_83) rfl ?_
            show Steps p.tables e below (T146.setTop (mkF m 85 #[.val (.long x0), .second, .val (.long x1), .second, .val (.int x2), .val (.int (1 : Int32)), .val (.ref r_NUMBERED), .val (.ref b94), .val (.ref b146), .val (.long x1), .second, .unset, .unset] [(.int (1 : Int32))])) _
            refine XS.ifNo X146.here hx rfl (hb hby at_85) rfl ((if0 _ _).trans (feq (by decide)).1) ?_
            show Steps p.tables e below (T146.setTop (mkF m 88 #[.val (.long x0), .second, .val (.long x1), .second, .val (.int x2), .val (.int (1 : Int32)), .val (.ref r_NUMBERED), .val (.ref b94), .val (.ref b146), .val (.long x1), .second, .unset, .unset] [])) _
            refine XS.lload X146.here hx rfl (hb hby at_88) rfl ?_
            show Steps p.tables e below (T146.setTop (mkF m 90 #[.val (.long x0), .second, .val (.long x1), .second, .val (.int x2), .val (.int (1 : Int32)), .val (.ref r_NUMBERED), .val (.ref b94), .val (.ref b146), .val (.long x1), .second, .unset, .unset] [(.long x1)])) _
            refine XS.aload X146.here hx rfl (hb hby at_90) rfl rfl ?_
            exact k)
        obtain ⟨_, _, ⟨T155, L155, k155, n155⟩, -, X155, ⟨Lc155, hQ155, l155, y155, z155⟩, st155⟩ := Jvm.LawKit.callS X146 hx (y := (⟨"com/example/fence/fence/io/KeyColumnStore", "numberedColumn", "(J[B)[B"⟩ : MethodName)) hown (mvT hZ (hw _ (List.mem_of_getElem? (i := 42) rfl))) (mvT hZ (hw _ (List.mem_of_getElem? (i := 43) rfl))) (mvT hZ (hw _ (List.mem_of_getElem? (i := 44) rfl))) (mvT hZ (hw _ (List.mem_of_getElem? (i := 45) rfl))) (by decide) (backOf (W := 0) (rm_num l Z av0 hw [] x1 b146 kc146 ((8 : Int32) + zr) ([(.int (own_b8 (own_sh x0 56))), (.int (own_b8 (own_sh x0 48))), (.int (own_b8 (own_sh x0 40))), (.int (own_b8 (own_sh x0 32))), (.int (own_b8 (own_sh x0 24))), (.int (own_b8 (own_sh x0 16))), (.int (own_b8 (own_sh x0 8))), (.int (own_b8 x0))] ++ ws146) (.int (0 : Int32)) T146.heap n0 f149 V146 (own_hz8 zr hz0 hz1).1 (own_hz8 zr hz0 hz1).2) hZ (hw _ (List.mem_of_getElem? (i := 45) rfl)) (hw _ (List.mem_of_getElem? (i := 44) rfl)) (by decide) (by decide)) (g := (mkF m 92 #[.val (.long x0), .second, .val (.long x1), .second, .val (.int x2), .val (.int (1 : Int32)), .val (.ref r_NUMBERED), .val (.ref b94), .val (.ref b146), .val (.long x1), .second, .unset, .unset] [(.ref b146), (.long x1)])) rfl (by rw [hml]; rfl) (argsL := [(.long x1), (.ref b146)]) (rest := []) (lenOf pd_3 rfl) rfl (by show 2 * 0 + _ ≤ _; exact Nat.le_of_eq rfl) (hb hby at_92) (fun _ _ => ⟨rfl, rfl, (by decide : 2 + 1 ≤ _), (by decide : 46 + 31 ≤ _)⟩)
        dsimp only [Pt.U, Pt.locs, Pt.cells, Pt.slots] at X155 l155 y155 z155 st155 hQ155
        subst l155 y155 z155
        obtain ⟨b155, kc155, ws155, rfl, N155q, K155, gb155, sb155, V155⟩ := hQ155
        have ne156 : b94 ≠ b155 := Nat.ne_of_lt (Nat.lt_of_lt_of_le f151.lt sb155)
        have ne157 : b146 ≠ b155 := Nat.ne_of_lt (Nat.lt_of_lt_of_le V146.lt sb155)
        have g158 : n0 ≤ b155 := Nat.le_trans f149 sb155
        have f159 : n0 ≤ T155.heap.size := Nat.le_trans f149 K155.1
        have f160 : Old Z n0 T155.heap := f150.keep K155 all0
        have f161 : Arv Z T155.heap b94 k94 .byte zr [(.int (0 : Int32))] (.int (0 : Int32)) := f151.keep K155 nin0
        have f162 : Arv Z T155.heap b146 kc146 .byte ((8 : Int32) + zr) ([(.int (own_b8 (own_sh x0 56))), (.int (own_b8 (own_sh x0 48))), (.int (own_b8 (own_sh x0 40))), (.int (own_b8 (own_sh x0 32))), (.int (own_b8 (own_sh x0 24))), (.int (own_b8 (own_sh x0 16))), (.int (own_b8 (own_sh x0 8))), (.int (own_b8 x0))] ++ ws146) (.int (0 : Int32)) := V146.keep K155 nin0
        have N155 := Fr.app N146 N155q
        have pre155 : Go p.tables e below (s₁.setTop (entryFrame m #[(.long x0), (.long x1), (.int x2)] maxLocals)) T155 (mkF m 95 #[.val (.long x0), .second, .val (.long x1), .second, .val (.int x2), .val (.int (1 : Int32)), .val (.ref r_NUMBERED), .val (.ref b94), .val (.ref b146), .val (.long x1), .second, .unset, .unset] [(.ref b155)]) := fun t k => pre154 t (st155 _ k)
        have pre163 : Go p.tables e below (s₁.setTop (entryFrame m #[(.long x0), (.long x1), (.int x2)] maxLocals)) T155 (mkF m 104 #[.val (.long x0), .second, .val (.long x1), .second, .val (.int x2), .val (.int (1 : Int32)), .val (.ref r_NUMBERED), .val (.ref b94), .val (.ref b146), .val (.long x1), .second, .val (.ref b155), .unset] [(.ref b155)]) := fun t k => pre155 t (by
            refine XS.goto X155.here hx rfl (pc0 := 95) (pc' := 100) rfl (hb hby at_95) (by decide) (by decide) ?_
            show Steps p.tables e below (T155.setTop (mkF m 100 #[.val (.long x0), .second, .val (.long x1), .second, .val (.int x2), .val (.int (1 : Int32)), .val (.ref r_NUMBERED), .val (.ref b94), .val (.ref b146), .val (.long x1), .second, .unset, .unset] [(.ref b155)])) _
            refine XS.astore X155.here hx rfl (hb hby at_100) rfl rfl (l' := #[.val (.long x0), .second, .val (.long x1), .second, .val (.int x2), .val (.int (1 : Int32)), .val (.ref r_NUMBERED), .val (.ref b94), .val (.ref b146), .val (.long x1), .second, .val (.ref b155), .unset]) rfl ?_
            show Steps p.tables e below (T155.setTop (mkF m 102 #[.val (.long x0), .second, .val (.long x1), .second, .val (.int x2), .val (.int (1 : Int32)), .val (.ref r_NUMBERED), .val (.ref b94), .val (.ref b146), .val (.long x1), .second, .val (.ref b155), .unset] [])) _
            refine XS.aload X155.here hx rfl (hb hby at_102) rfl rfl ?_
            exact k)
        obtain ⟨_, _, ⟨T164, L164, k164, n164⟩, -, X164, ⟨Lc164, hQ164, l164, y164, z164⟩, st164⟩ := Jvm.LawKit.callS X155 hx (y := (⟨"com/example/fence/fence/service/ClaimFormat", "ofColumn", "([B)Lcom/example/fence/fence/service/ClaimFormat;"⟩ : MethodName)) hown (mvT hZ (hw _ (List.mem_of_getElem? (i := 16) rfl))) (mvT hZ (hw _ (List.mem_of_getElem? (i := 17) rfl))) (mvT hZ (hw _ (List.mem_of_getElem? (i := 1) rfl))) (mvT hZ (hw _ (List.mem_of_getElem? (i := 18) rfl))) (by decide) (backOf (W := 0) (rm_ofc l Z av0 hw [] b155 kc155 ((8 : Int32) + ((8 : Int32) + zr)) ([(.int (own_b8 (own_sh x1 56))), (.int (own_b8 (own_sh x1 48))), (.int (own_b8 (own_sh x1 40))), (.int (own_b8 (own_sh x1 32))), (.int (own_b8 (own_sh x1 24))), (.int (own_b8 (own_sh x1 16))), (.int (own_b8 (own_sh x1 8))), (.int (own_b8 x1))] ++ ws155) (.int (0 : Int32)) (own_b8 (own_sh x1 56)) (own_b8 (own_sh x1 48)) (own_b8 (own_sh x1 40)) (own_b8 (own_sh x1 32)) (own_b8 (own_sh x1 24)) (own_b8 (own_sh x1 16)) (own_b8 (own_sh x1 8)) (own_b8 x1) x1 r_TIMESTAMPED r_NUMBERED T155.heap n0 f160 S_TIMESTAMPED S_NUMBERED E_TIMESTAMPED E_NUMBERED F_TIMESTAMPED F_NUMBERED V155 rfl rfl rfl rfl rfl rfl rfl rfl (own_long_eq x1)) hZ (hw _ (List.mem_of_getElem? (i := 18) rfl)) (hw _ (List.mem_of_getElem? (i := 1) rfl)) (by decide) (by decide)) (g := (mkF m 104 #[.val (.long x0), .second, .val (.long x1), .second, .val (.int x2), .val (.int (1 : Int32)), .val (.ref r_NUMBERED), .val (.ref b94), .val (.ref b146), .val (.long x1), .second, .val (.ref b155), .unset] [(.ref b155)])) rfl (by rw [hml]; rfl) (argsL := [(.ref b155)]) (rest := []) (lenOf pd_4 rfl) rfl (by show 2 * 0 + _ ≤ _; exact Nat.le_of_eq rfl) (hb hby at_104) (fun _ _ => ⟨rfl, rfl, (by decide : 3 + 0 ≤ _), (by decide : 77 + 0 ≤ _)⟩)
        dsimp only [Pt.U, Pt.locs, Pt.cells, Pt.slots] at X164 l164 y164 z164 st164 hQ164
        subst l164 y164 z164
        obtain ⟨hv164, N164q, e164⟩ := hQ164
        rw [show own_of x1 ((8 : Int32) + ((8 : Int32) + zr)) r_TIMESTAMPED r_NUMBERED = .ref r_NUMBERED from own_of_num zr hz0 hz1 hc153] at hv164
        subst hv164
        have N164 := Fr.app N155 N164q
        have pre164 : Go p.tables e below (s₁.setTop (entryFrame m #[(.long x0), (.long x1), (.int x2)] maxLocals)) T164 (mkF m 107 #[.val (.long x0), .second, .val (.long x1), .second, .val (.int x2), .val (.int (1 : Int32)), .val (.ref r_NUMBERED), .val (.ref b94), .val (.ref b146), .val (.long x1), .second, .val (.ref b155), .unset] [(.ref r_NUMBERED)]) := fun t k => pre163 t (st164 _ k)
        have pre165 : Go p.tables e below (s₁.setTop (entryFrame m #[(.long x0), (.long x1), (.int x2)] maxLocals)) T164 (mkF m 122 #[.val (.long x0), .second, .val (.long x1), .second, .val (.int x2), .val (.int (1 : Int32)), .val (.ref r_NUMBERED), .val (.ref b94), .val (.ref b146), .val (.long x1), .second, .val (.ref b155), .val (.int (1 : Int32))] [(.long x0), (.ref r_NUMBERED)]) := fun t k => pre164 t (by
            refine XS.aload X164.here hx rfl (hb hby at_107) rfl rfl ?_
            show Steps p.tables e below (T164.setTop (mkF m 109 #[.val (.long x0), .second, .val (.long x1), .second, .val (.int x2), .val (.int (1 : Int32)), .val (.ref r_NUMBERED), .val (.ref b94), .val (.ref b146), .val (.long x1), .second, .val (.ref b155), .unset] [(.ref r_NUMBERED), (.ref r_NUMBERED)])) _
            refine Jvm.RoadKit.acmp (g := (mkF m 109 #[.val (.long x0), .second, .val (.long x1), .second, .val (.int x2), .val (.int (1 : Int32)), .val (.ref r_NUMBERED), .val (.ref b94), .val (.ref b146), .val (.long x1), .second, .val (.ref b155), .unset] [(.ref r_NUMBERED), (.ref r_NUMBERED)])) X164 hx rfl rfl rfl (pc0 := 109) (pc' := 112) (same := true) rfl (hb hby at_109) rfl (decide_eq_true rfl) (by decide) (by decide) ?_
            show Steps p.tables e below (T164.setTop (mkF m 112 #[.val (.long x0), .second, .val (.long x1), .second, .val (.int x2), .val (.int (1 : Int32)), .val (.ref r_NUMBERED), .val (.ref b94), .val (.ref b146), .val (.long x1), .second, .val (.ref b155), .unset] [])) _
            refine XS.iconst X164.here hx rfl (hb hby at_112) ?_
            show Steps p.tables e below (T164.setTop (mkF m 113 #[.val (.long x0), .second, .val (.long x1), .second, .val (.int x2), .val (.int (1 : Int32)), .val (.ref r_NUMBERED), .val (.ref b94), .val (.ref b146), .val (.long x1), .second, .val (.ref b155), .unset] [(.int (1 : Int32))])) _
            refine XS.goto X164.here hx rfl (pc0 := 113) (pc' := 117) rfl (hb hby at_113) (by decide) (by decide) ?_
            show Steps p.tables e below (T164.setTop (mkF m 117 #[.val (.long x0), .second, .val (.long x1), .second, .val (.int x2), .val (.int (1 : Int32)), .val (.ref r_NUMBERED), .val (.ref b94), .val (.ref b146), .val (.long x1), .second, .val (.ref b155), .unset] [(.int (1 : Int32))])) _
            refine XS.istore X164.here hx rfl (hb hby at_117) rfl (l' := #[.val (.long x0), .second, .val (.long x1), .second, .val (.int x2), .val (.int (1 : Int32)), .val (.ref r_NUMBERED), .val (.ref b94), .val (.ref b146), .val (.long x1), .second, .val (.ref b155), .val (.int (1 : Int32))]) rfl ?_
            show Steps p.tables e below (T164.setTop (mkF m 119 #[.val (.long x0), .second, .val (.long x1), .second, .val (.int x2), .val (.int (1 : Int32)), .val (.ref r_NUMBERED), .val (.ref b94), .val (.ref b146), .val (.long x1), .second, .val (.ref b155), .val (.int (1 : Int32))] [])) _
            refine XS.aload X164.here hx rfl (hb hby at_119) rfl rfl ?_
            show Steps p.tables e below (T164.setTop (mkF m 121 #[.val (.long x0), .second, .val (.long x1), .second, .val (.int x2), .val (.int (1 : Int32)), .val (.ref r_NUMBERED), .val (.ref b94), .val (.ref b146), .val (.long x1), .second, .val (.ref b155), .val (.int (1 : Int32))] [(.ref r_NUMBERED)])) _
            refine XS.lloadN X164.here hx rfl (hb hby at_121) rfl ?_
            exact k)
        obtain ⟨cq166, kq166, q166a, q166b, q166c⟩ := isOf hZ e164 (E_NUMBERED.ext f160.2)
        obtain ⟨_, _, ⟨T166, L166, k166, n166⟩, -, X166, ⟨Lc166, hQ166, l166, y166, z166⟩, st166⟩ := X164.virtualBack hx (y := (⟨"com/example/fence/fence/service/ClaimFormat", "carries", "(J)Z"⟩ : MethodName)) (z := (⟨"com/example/fence/fence/service/ClaimFormat", "carries", "(J)Z"⟩ : MethodName)) hown (mvT hZ (hw _ (List.mem_of_getElem? (i := 35) rfl))) (mvT hZ (hw _ (List.mem_of_getElem? (i := 36) rfl))) (notFace_of_selects (args := #[]) (mvT hZ (hw _ (List.mem_of_getElem? (i := 47) rfl)))) (mvT hZ (hw _ (List.mem_of_getElem? (i := 47) rfl))) (mvT hZ (hw _ (List.mem_of_getElem? (i := 37) rfl))) (by decide) (backOf (W := 0) (rm_car l Z av0 hw [] r_NUMBERED x0 r_TIMESTAMPED T155.heap n0 (S_TIMESTAMPED.ext f160.2)) hZ (hw _ (List.mem_of_getElem? (i := 39) rfl)) (hw _ (List.mem_of_getElem? (i := 1) rfl)) (by decide) (by decide)) q166a q166c (g := (mkF m 122 #[.val (.long x0), .second, .val (.long x1), .second, .val (.int x2), .val (.int (1 : Int32)), .val (.ref r_NUMBERED), .val (.ref b94), .val (.ref b146), .val (.long x1), .second, .val (.ref b155), .val (.int (1 : Int32))] [(.long x0), (.ref r_NUMBERED)])) rfl (by rw [hml]; rfl) (Steps.refl _) (argsL := [(.long x0)]) (rest := []) (lenOf pd_5 rfl) rfl (by show 2 * 0 + _ ≤ _; exact Nat.le_of_eq rfl) (hb hby at_122) (fun _ _ => ⟨rfl, e164, (by decide : 3 + 0 ≤ _), (by decide : 77 + 0 ≤ _)⟩)
        dsimp only [Pt.U, Pt.locs, Pt.cells, Pt.slots] at X166 l166 y166 z166 st166 hQ166
        subst l166 y166 z166
        obtain ⟨hv166, N166q, e166⟩ := hQ166
        rw [show own_car r_NUMBERED r_TIMESTAMPED x0 = (1 : Int32) from if_neg (ne_exa E_NUMBERED E_TIMESTAMPED (by decide))] at hv166
        subst hv166
        have N166 := Fr.app N164 N166q
        have pre166 : Go p.tables e below (s₁.setTop (entryFrame m #[(.long x0), (.long x1), (.int x2)] maxLocals)) T166 (mkF m 125 #[.val (.long x0), .second, .val (.long x1), .second, .val (.int x2), .val (.int (1 : Int32)), .val (.ref r_NUMBERED), .val (.ref b94), .val (.ref b146), .val (.long x1), .second, .val (.ref b155), .val (.int (1 : Int32))] [(.int (1 : Int32))]) := fun t k => pre165 t (st166.trans k)
        have pre167 : Go p.tables e below (s₁.setTop (entryFrame m #[(.long x0), (.long x1), (.int x2)] maxLocals)) T166 (mkF m 135 #[.val (.long x0), .second, .val (.long x1), .second, .val (.int x2), .val (.int (1 : Int32)), .val (.ref r_NUMBERED), .val (.ref b94), .val (.ref b146), .val (.long x1), .second, .val (.ref b155), .val (.int (1 : Int32))] [(.int (1 : Int32))]) := fun t k => pre166 t (by
            refine XS.iload X166.here hx rfl (hb hby at_125) rfl ?_
            show Steps p.tables e below (T166.setTop (mkF m 127 #[.val (.long x0), .second, .val (.long x1), .second, .val (.int x2), .val (.int (1 : Int32)), .val (.ref r_NUMBERED), .val (.ref b94), .val (.ref b146), .val (.long x1), .second, .val (.ref b155), .val (.int (1 : Int32))] [(.int (1 : Int32)), (.int (1 : Int32))])) _
            refine XS.icmpNo X166.here hx rfl (hb hby at_127) rfl (teq (by decide)).2 ?_
            show Steps p.tables e below (T166.setTop (mkF m 130 #[.val (.long x0), .second, .val (.long x1), .second, .val (.int x2), .val (.int (1 : Int32)), .val (.ref r_NUMBERED), .val (.ref b94), .val (.ref b146), .val (.long x1), .second, .val (.ref b155), .val (.int (1 : Int32))] [])) _
            refine XS.iconst X166.here hx rfl (hb hby at_130) ?_
            show Steps p.tables e below (T166.setTop (mkF m 131 #[.val (.long x0), .second, .val (.long x1), .second, .val (.int x2), .val (.int (1 : Int32)), .val (.ref r_NUMBERED), .val (.ref b94), .val (.ref b146), .val (.long x1), .second, .val (.ref b155), .val (.int (1 : Int32))] [(.int (1 : Int32))])) _
            refine XS.goto X166.here hx rfl (pc0 := 131) (pc' := 135) rfl (hb hby at_131) (by decide) (by decide) ?_
            exact k)
        obtain ⟨fs, hr, hrun, hended, hW, hsame⟩ := X166.leave (v := some (.int (1 : Int32))) (fun h => by rw [Bd.returns] at h; cases h) (BodyLoose.notSynchronized Bd)
        refine ⟨_, _, pre167 _ ?_, hrun, hended, _, _, rfl, ?_, ⟨_, rfl⟩, hW, hsame.mono (Nat.le_of_ble_eq_true rfl) (Nat.le_of_ble_eq_true rfl)⟩
        · exact retN X166 hx (t := .boolean) Bd.returns (by simp) (hb hby at_135) hr
        · show Q_law Z x0 x1 x2 r_TIMESTAMPED r_NUMBERED h0 n0 _ T166.heap _
          rw [e166]
          exact ⟨rfl, N166⟩
      · -- hc153: False
        obtain ⟨w168, hw168⟩ : ∃ z : Int64, z = (x1 - x1 / (946684800000000000 : Int64) * (946684800000000000 : Int64)) := ⟨_, rfl⟩
        have pre169 : Go p.tables e below (s₁.setTop (entryFrame m #[(.long x0), (.long x1), (.int x2)] maxLocals)) T146 (mkF m 92 #[.val (.long x0), .second, .val (.long x1), .second, .val (.int x2), .val (.int (1 : Int32)), .val (.ref r_NUMBERED), .val (.ref b94), .val (.ref b146), .val (.long w168), .second, .unset, .unset] [(.ref b146), (.long w168)]) := fun t k => pre152 t (by
            refine XS.ifYes X146.here hx rfl (pc0 := 69) (pc' := 76) rfl (hb hby at_69) rfl ((if0 _ _).trans (flt (mt (lw_lt _ _).mp hc153)).2.1) (by decide) (by decide) ?_
            show Steps p.tables e below (T146.setTop (mkF m 76 #[.val (.long x0), .second, .val (.long x1), .second, .val (.int x2), .val (.int (1 : Int32)), .val (.ref r_NUMBERED), .val (.ref b94), .val (.ref b146), .unset, .unset, .unset, .unset] [])) _
            refine XS.lloadN X146.here hx rfl (hb hby at_76) rfl ?_
            show Steps p.tables e below (T146.setTop (mkF m 77 #[.val (.long x0), .second, .val (.long x1), .second, .val (.int x2), .val (.int (1 : Int32)), .val (.ref r_NUMBERED), .val (.ref b94), .val (.ref b146), .unset, .unset, .unset, .unset] [(.long x1)])) _
            refine X146.ldc2Long hx hown (mvT hZ (hw _ (List.mem_of_getElem? (i := 15) rfl))) (g := (mkF m 77 #[.val (.long x0), .second, .val (.long x1), .second, .val (.int x2), .val (.int (1 : Int32)), .val (.ref r_NUMBERED), .val (.ref b94), .val (.ref b146), .unset, .unset, .unset, .unset] [(.long x1)])) rfl (hb hby at_77) _ ?_
            show Steps p.tables e below (T146.setTop (mkF m 80 #[.val (.long x0), .second, .val (.long x1), .second, .val (.int x2), .val (.int (1 : Int32)), .val (.ref r_NUMBERED), .val (.ref b94), .val (.ref b146), .unset, .unset, .unset, .unset] [(.long (946684800000000000 : Int64)), (.long x1)])) _
            refine XS.lrem X146.here hx rfl (hb hby at_80) rfl (by decide) ?_
            show Steps p.tables e below (T146.setTop (mkF m 81 #[.val (.long x0), .second, .val (.long x1), .second, .val (.int x2), .val (.int (1 : Int32)), .val (.ref r_NUMBERED), .val (.ref b94), .val (.ref b146), .unset, .unset, .unset, .unset] [(.long (x1 - x1 / (946684800000000000 : Int64) * (946684800000000000 : Int64)))])) _
            refine XS.lstore X146.here hx rfl (x := w168) (rest := []) (hb hby at_81) (by subst hw168; rfl) (l' := #[.val (.long x0), .second, .val (.long x1), .second, .val (.int x2), .val (.int (1 : Int32)), .val (.ref r_NUMBERED), .val (.ref b94), .val (.ref b146), .val (.long w168), .second, .unset, .unset]) rfl ?_
            show Steps p.tables e below (T146.setTop (mkF m 83 #[.val (.long x0), .second, .val (.long x1), .second, .val (.int x2), .val (.int (1 : Int32)), .val (.ref r_NUMBERED), .val (.ref b94), .val (.ref b146), .val (.long w168), .second, .unset, .unset] [])) _
            refine XS.iload X146.here hx rfl (hb hby at_83) rfl ?_
            show Steps p.tables e below (T146.setTop (mkF m 85 #[.val (.long x0), .second, .val (.long x1), .second, .val (.int x2), .val (.int (1 : Int32)), .val (.ref r_NUMBERED), .val (.ref b94), .val (.ref b146), .val (.long w168), .second, .unset, .unset] [(.int (1 : Int32))])) _
            refine XS.ifNo X146.here hx rfl (hb hby at_85) rfl ((if0 _ _).trans (feq (by decide)).1) ?_
            show Steps p.tables e below (T146.setTop (mkF m 88 #[.val (.long x0), .second, .val (.long x1), .second, .val (.int x2), .val (.int (1 : Int32)), .val (.ref r_NUMBERED), .val (.ref b94), .val (.ref b146), .val (.long w168), .second, .unset, .unset] [])) _
            refine XS.lload X146.here hx rfl (hb hby at_88) rfl ?_
            show Steps p.tables e below (T146.setTop (mkF m 90 #[.val (.long x0), .second, .val (.long x1), .second, .val (.int x2), .val (.int (1 : Int32)), .val (.ref r_NUMBERED), .val (.ref b94), .val (.ref b146), .val (.long w168), .second, .unset, .unset] [(.long w168)])) _
            refine XS.aload X146.here hx rfl (hb hby at_90) rfl rfl ?_
            exact k)
        obtain ⟨_, _, ⟨T170, L170, k170, n170⟩, -, X170, ⟨Lc170, hQ170, l170, y170, z170⟩, st170⟩ := Jvm.LawKit.callS X146 hx (y := (⟨"com/example/fence/fence/io/KeyColumnStore", "numberedColumn", "(J[B)[B"⟩ : MethodName)) hown (mvT hZ (hw _ (List.mem_of_getElem? (i := 42) rfl))) (mvT hZ (hw _ (List.mem_of_getElem? (i := 43) rfl))) (mvT hZ (hw _ (List.mem_of_getElem? (i := 44) rfl))) (mvT hZ (hw _ (List.mem_of_getElem? (i := 45) rfl))) (by decide) (backOf (W := 0) (rm_num l Z av0 hw [] w168 b146 kc146 ((8 : Int32) + zr) ([(.int (own_b8 (own_sh x0 56))), (.int (own_b8 (own_sh x0 48))), (.int (own_b8 (own_sh x0 40))), (.int (own_b8 (own_sh x0 32))), (.int (own_b8 (own_sh x0 24))), (.int (own_b8 (own_sh x0 16))), (.int (own_b8 (own_sh x0 8))), (.int (own_b8 x0))] ++ ws146) (.int (0 : Int32)) T146.heap n0 f149 V146 (own_hz8 zr hz0 hz1).1 (own_hz8 zr hz0 hz1).2) hZ (hw _ (List.mem_of_getElem? (i := 45) rfl)) (hw _ (List.mem_of_getElem? (i := 44) rfl)) (by decide) (by decide)) (g := (mkF m 92 #[.val (.long x0), .second, .val (.long x1), .second, .val (.int x2), .val (.int (1 : Int32)), .val (.ref r_NUMBERED), .val (.ref b94), .val (.ref b146), .val (.long w168), .second, .unset, .unset] [(.ref b146), (.long w168)])) rfl (by rw [hml]; rfl) (argsL := [(.long w168), (.ref b146)]) (rest := []) (lenOf pd_3 rfl) rfl (by show 2 * 0 + _ ≤ _; exact Nat.le_of_eq rfl) (hb hby at_92) (fun _ _ => ⟨rfl, rfl, (by decide : 2 + 1 ≤ _), (by decide : 46 + 31 ≤ _)⟩)
        dsimp only [Pt.U, Pt.locs, Pt.cells, Pt.slots] at X170 l170 y170 z170 st170 hQ170
        subst l170 y170 z170
        obtain ⟨b170, kc170, ws170, rfl, N170q, K170, gb170, sb170, V170⟩ := hQ170
        have ne171 : b94 ≠ b170 := Nat.ne_of_lt (Nat.lt_of_lt_of_le f151.lt sb170)
        have ne172 : b146 ≠ b170 := Nat.ne_of_lt (Nat.lt_of_lt_of_le V146.lt sb170)
        have g173 : n0 ≤ b170 := Nat.le_trans f149 sb170
        have f174 : n0 ≤ T170.heap.size := Nat.le_trans f149 K170.1
        have f175 : Old Z n0 T170.heap := f150.keep K170 all0
        have f176 : Arv Z T170.heap b94 k94 .byte zr [(.int (0 : Int32))] (.int (0 : Int32)) := f151.keep K170 nin0
        have f177 : Arv Z T170.heap b146 kc146 .byte ((8 : Int32) + zr) ([(.int (own_b8 (own_sh x0 56))), (.int (own_b8 (own_sh x0 48))), (.int (own_b8 (own_sh x0 40))), (.int (own_b8 (own_sh x0 32))), (.int (own_b8 (own_sh x0 24))), (.int (own_b8 (own_sh x0 16))), (.int (own_b8 (own_sh x0 8))), (.int (own_b8 x0))] ++ ws146) (.int (0 : Int32)) := V146.keep K170 nin0
        have N170 := Fr.app N146 N170q
        have pre170 : Go p.tables e below (s₁.setTop (entryFrame m #[(.long x0), (.long x1), (.int x2)] maxLocals)) T170 (mkF m 95 #[.val (.long x0), .second, .val (.long x1), .second, .val (.int x2), .val (.int (1 : Int32)), .val (.ref r_NUMBERED), .val (.ref b94), .val (.ref b146), .val (.long w168), .second, .unset, .unset] [(.ref b170)]) := fun t k => pre169 t (st170 _ k)
        have pre178 : Go p.tables e below (s₁.setTop (entryFrame m #[(.long x0), (.long x1), (.int x2)] maxLocals)) T170 (mkF m 104 #[.val (.long x0), .second, .val (.long x1), .second, .val (.int x2), .val (.int (1 : Int32)), .val (.ref r_NUMBERED), .val (.ref b94), .val (.ref b146), .val (.long w168), .second, .val (.ref b170), .unset] [(.ref b170)]) := fun t k => pre170 t (by
            refine XS.goto X170.here hx rfl (pc0 := 95) (pc' := 100) rfl (hb hby at_95) (by decide) (by decide) ?_
            show Steps p.tables e below (T170.setTop (mkF m 100 #[.val (.long x0), .second, .val (.long x1), .second, .val (.int x2), .val (.int (1 : Int32)), .val (.ref r_NUMBERED), .val (.ref b94), .val (.ref b146), .val (.long w168), .second, .unset, .unset] [(.ref b170)])) _
            refine XS.astore X170.here hx rfl (hb hby at_100) rfl rfl (l' := #[.val (.long x0), .second, .val (.long x1), .second, .val (.int x2), .val (.int (1 : Int32)), .val (.ref r_NUMBERED), .val (.ref b94), .val (.ref b146), .val (.long w168), .second, .val (.ref b170), .unset]) rfl ?_
            show Steps p.tables e below (T170.setTop (mkF m 102 #[.val (.long x0), .second, .val (.long x1), .second, .val (.int x2), .val (.int (1 : Int32)), .val (.ref r_NUMBERED), .val (.ref b94), .val (.ref b146), .val (.long w168), .second, .val (.ref b170), .unset] [])) _
            refine XS.aload X170.here hx rfl (hb hby at_102) rfl rfl ?_
            exact k)
        obtain ⟨_, _, ⟨T179, L179, k179, n179⟩, -, X179, ⟨Lc179, hQ179, l179, y179, z179⟩, st179⟩ := Jvm.LawKit.callS X170 hx (y := (⟨"com/example/fence/fence/service/ClaimFormat", "ofColumn", "([B)Lcom/example/fence/fence/service/ClaimFormat;"⟩ : MethodName)) hown (mvT hZ (hw _ (List.mem_of_getElem? (i := 16) rfl))) (mvT hZ (hw _ (List.mem_of_getElem? (i := 17) rfl))) (mvT hZ (hw _ (List.mem_of_getElem? (i := 1) rfl))) (mvT hZ (hw _ (List.mem_of_getElem? (i := 18) rfl))) (by decide) (backOf (W := 0) (rm_ofc l Z av0 hw [] b170 kc170 ((8 : Int32) + ((8 : Int32) + zr)) ([(.int (own_b8 (own_sh w168 56))), (.int (own_b8 (own_sh w168 48))), (.int (own_b8 (own_sh w168 40))), (.int (own_b8 (own_sh w168 32))), (.int (own_b8 (own_sh w168 24))), (.int (own_b8 (own_sh w168 16))), (.int (own_b8 (own_sh w168 8))), (.int (own_b8 w168))] ++ ws170) (.int (0 : Int32)) (own_b8 (own_sh w168 56)) (own_b8 (own_sh w168 48)) (own_b8 (own_sh w168 40)) (own_b8 (own_sh w168 32)) (own_b8 (own_sh w168 24)) (own_b8 (own_sh w168 16)) (own_b8 (own_sh w168 8)) (own_b8 w168) w168 r_TIMESTAMPED r_NUMBERED T170.heap n0 f175 S_TIMESTAMPED S_NUMBERED E_TIMESTAMPED E_NUMBERED F_TIMESTAMPED F_NUMBERED V170 rfl rfl rfl rfl rfl rfl rfl rfl (own_long_eq w168)) hZ (hw _ (List.mem_of_getElem? (i := 18) rfl)) (hw _ (List.mem_of_getElem? (i := 1) rfl)) (by decide) (by decide)) (g := (mkF m 104 #[.val (.long x0), .second, .val (.long x1), .second, .val (.int x2), .val (.int (1 : Int32)), .val (.ref r_NUMBERED), .val (.ref b94), .val (.ref b146), .val (.long w168), .second, .val (.ref b170), .unset] [(.ref b170)])) rfl (by rw [hml]; rfl) (argsL := [(.ref b170)]) (rest := []) (lenOf pd_4 rfl) rfl (by show 2 * 0 + _ ≤ _; exact Nat.le_of_eq rfl) (hb hby at_104) (fun _ _ => ⟨rfl, rfl, (by decide : 3 + 0 ≤ _), (by decide : 77 + 0 ≤ _)⟩)
        dsimp only [Pt.U, Pt.locs, Pt.cells, Pt.slots] at X179 l179 y179 z179 st179 hQ179
        subst l179 y179 z179
        obtain ⟨hv179, N179q, e179⟩ := hQ179
        rw [show own_of w168 ((8 : Int32) + ((8 : Int32) + zr)) r_TIMESTAMPED r_NUMBERED = .ref r_NUMBERED from own_of_num zr hz0 hz1 (own_rem hw168 hc153)] at hv179
        subst hv179
        have N179 := Fr.app N170 N179q
        have pre179 : Go p.tables e below (s₁.setTop (entryFrame m #[(.long x0), (.long x1), (.int x2)] maxLocals)) T179 (mkF m 107 #[.val (.long x0), .second, .val (.long x1), .second, .val (.int x2), .val (.int (1 : Int32)), .val (.ref r_NUMBERED), .val (.ref b94), .val (.ref b146), .val (.long w168), .second, .val (.ref b170), .unset] [(.ref r_NUMBERED)]) := fun t k => pre178 t (st179 _ k)
        have pre180 : Go p.tables e below (s₁.setTop (entryFrame m #[(.long x0), (.long x1), (.int x2)] maxLocals)) T179 (mkF m 122 #[.val (.long x0), .second, .val (.long x1), .second, .val (.int x2), .val (.int (1 : Int32)), .val (.ref r_NUMBERED), .val (.ref b94), .val (.ref b146), .val (.long w168), .second, .val (.ref b170), .val (.int (1 : Int32))] [(.long x0), (.ref r_NUMBERED)]) := fun t k => pre179 t (by
            refine XS.aload X179.here hx rfl (hb hby at_107) rfl rfl ?_
            show Steps p.tables e below (T179.setTop (mkF m 109 #[.val (.long x0), .second, .val (.long x1), .second, .val (.int x2), .val (.int (1 : Int32)), .val (.ref r_NUMBERED), .val (.ref b94), .val (.ref b146), .val (.long w168), .second, .val (.ref b170), .unset] [(.ref r_NUMBERED), (.ref r_NUMBERED)])) _
            refine Jvm.RoadKit.acmp (g := (mkF m 109 #[.val (.long x0), .second, .val (.long x1), .second, .val (.int x2), .val (.int (1 : Int32)), .val (.ref r_NUMBERED), .val (.ref b94), .val (.ref b146), .val (.long w168), .second, .val (.ref b170), .unset] [(.ref r_NUMBERED), (.ref r_NUMBERED)])) X179 hx rfl rfl rfl (pc0 := 109) (pc' := 112) (same := true) rfl (hb hby at_109) rfl (decide_eq_true rfl) (by decide) (by decide) ?_
            show Steps p.tables e below (T179.setTop (mkF m 112 #[.val (.long x0), .second, .val (.long x1), .second, .val (.int x2), .val (.int (1 : Int32)), .val (.ref r_NUMBERED), .val (.ref b94), .val (.ref b146), .val (.long w168), .second, .val (.ref b170), .unset] [])) _
            refine XS.iconst X179.here hx rfl (hb hby at_112) ?_
            show Steps p.tables e below (T179.setTop (mkF m 113 #[.val (.long x0), .second, .val (.long x1), .second, .val (.int x2), .val (.int (1 : Int32)), .val (.ref r_NUMBERED), .val (.ref b94), .val (.ref b146), .val (.long w168), .second, .val (.ref b170), .unset] [(.int (1 : Int32))])) _
            refine XS.goto X179.here hx rfl (pc0 := 113) (pc' := 117) rfl (hb hby at_113) (by decide) (by decide) ?_
            show Steps p.tables e below (T179.setTop (mkF m 117 #[.val (.long x0), .second, .val (.long x1), .second, .val (.int x2), .val (.int (1 : Int32)), .val (.ref r_NUMBERED), .val (.ref b94), .val (.ref b146), .val (.long w168), .second, .val (.ref b170), .unset] [(.int (1 : Int32))])) _
            refine XS.istore X179.here hx rfl (hb hby at_117) rfl (l' := #[.val (.long x0), .second, .val (.long x1), .second, .val (.int x2), .val (.int (1 : Int32)), .val (.ref r_NUMBERED), .val (.ref b94), .val (.ref b146), .val (.long w168), .second, .val (.ref b170), .val (.int (1 : Int32))]) rfl ?_
            show Steps p.tables e below (T179.setTop (mkF m 119 #[.val (.long x0), .second, .val (.long x1), .second, .val (.int x2), .val (.int (1 : Int32)), .val (.ref r_NUMBERED), .val (.ref b94), .val (.ref b146), .val (.long w168), .second, .val (.ref b170), .val (.int (1 : Int32))] [])) _
            refine XS.aload X179.here hx rfl (hb hby at_119) rfl rfl ?_
            show Steps p.tables e below (T179.setTop (mkF m 121 #[.val (.long x0), .second, .val (.long x1), .second, .val (.int x2), .val (.int (1 : Int32)), .val (.ref r_NUMBERED), .val (.ref b94), .val (.ref b146), .val (.long w168), .second, .val (.ref b170), .val (.int (1 : Int32))] [(.ref r_NUMBERED)])) _
            refine XS.lloadN X179.here hx rfl (hb hby at_121) rfl ?_
            exact k)
        obtain ⟨cq181, kq181, q181a, q181b, q181c⟩ := isOf hZ e179 (E_NUMBERED.ext f175.2)
        obtain ⟨_, _, ⟨T181, L181, k181, n181⟩, -, X181, ⟨Lc181, hQ181, l181, y181, z181⟩, st181⟩ := X179.virtualBack hx (y := (⟨"com/example/fence/fence/service/ClaimFormat", "carries", "(J)Z"⟩ : MethodName)) (z := (⟨"com/example/fence/fence/service/ClaimFormat", "carries", "(J)Z"⟩ : MethodName)) hown (mvT hZ (hw _ (List.mem_of_getElem? (i := 35) rfl))) (mvT hZ (hw _ (List.mem_of_getElem? (i := 36) rfl))) (notFace_of_selects (args := #[]) (mvT hZ (hw _ (List.mem_of_getElem? (i := 47) rfl)))) (mvT hZ (hw _ (List.mem_of_getElem? (i := 47) rfl))) (mvT hZ (hw _ (List.mem_of_getElem? (i := 37) rfl))) (by decide) (backOf (W := 0) (rm_car l Z av0 hw [] r_NUMBERED x0 r_TIMESTAMPED T170.heap n0 (S_TIMESTAMPED.ext f175.2)) hZ (hw _ (List.mem_of_getElem? (i := 39) rfl)) (hw _ (List.mem_of_getElem? (i := 1) rfl)) (by decide) (by decide)) q181a q181c (g := (mkF m 122 #[.val (.long x0), .second, .val (.long x1), .second, .val (.int x2), .val (.int (1 : Int32)), .val (.ref r_NUMBERED), .val (.ref b94), .val (.ref b146), .val (.long w168), .second, .val (.ref b170), .val (.int (1 : Int32))] [(.long x0), (.ref r_NUMBERED)])) rfl (by rw [hml]; rfl) (Steps.refl _) (argsL := [(.long x0)]) (rest := []) (lenOf pd_5 rfl) rfl (by show 2 * 0 + _ ≤ _; exact Nat.le_of_eq rfl) (hb hby at_122) (fun _ _ => ⟨rfl, e179, (by decide : 3 + 0 ≤ _), (by decide : 77 + 0 ≤ _)⟩)
        dsimp only [Pt.U, Pt.locs, Pt.cells, Pt.slots] at X181 l181 y181 z181 st181 hQ181
        subst l181 y181 z181
        obtain ⟨hv181, N181q, e181⟩ := hQ181
        rw [show own_car r_NUMBERED r_TIMESTAMPED x0 = (1 : Int32) from if_neg (ne_exa E_NUMBERED E_TIMESTAMPED (by decide))] at hv181
        subst hv181
        have N181 := Fr.app N179 N181q
        have pre181 : Go p.tables e below (s₁.setTop (entryFrame m #[(.long x0), (.long x1), (.int x2)] maxLocals)) T181 (mkF m 125 #[.val (.long x0), .second, .val (.long x1), .second, .val (.int x2), .val (.int (1 : Int32)), .val (.ref r_NUMBERED), .val (.ref b94), .val (.ref b146), .val (.long w168), .second, .val (.ref b170), .val (.int (1 : Int32))] [(.int (1 : Int32))]) := fun t k => pre180 t (st181.trans k)
        have pre182 : Go p.tables e below (s₁.setTop (entryFrame m #[(.long x0), (.long x1), (.int x2)] maxLocals)) T181 (mkF m 135 #[.val (.long x0), .second, .val (.long x1), .second, .val (.int x2), .val (.int (1 : Int32)), .val (.ref r_NUMBERED), .val (.ref b94), .val (.ref b146), .val (.long w168), .second, .val (.ref b170), .val (.int (1 : Int32))] [(.int (1 : Int32))]) := fun t k => pre181 t (by
            refine XS.iload X181.here hx rfl (hb hby at_125) rfl ?_
            show Steps p.tables e below (T181.setTop (mkF m 127 #[.val (.long x0), .second, .val (.long x1), .second, .val (.int x2), .val (.int (1 : Int32)), .val (.ref r_NUMBERED), .val (.ref b94), .val (.ref b146), .val (.long w168), .second, .val (.ref b170), .val (.int (1 : Int32))] [(.int (1 : Int32)), (.int (1 : Int32))])) _
            refine XS.icmpNo X181.here hx rfl (hb hby at_127) rfl (teq (by decide)).2 ?_
            show Steps p.tables e below (T181.setTop (mkF m 130 #[.val (.long x0), .second, .val (.long x1), .second, .val (.int x2), .val (.int (1 : Int32)), .val (.ref r_NUMBERED), .val (.ref b94), .val (.ref b146), .val (.long w168), .second, .val (.ref b170), .val (.int (1 : Int32))] [])) _
            refine XS.iconst X181.here hx rfl (hb hby at_130) ?_
            show Steps p.tables e below (T181.setTop (mkF m 131 #[.val (.long x0), .second, .val (.long x1), .second, .val (.int x2), .val (.int (1 : Int32)), .val (.ref r_NUMBERED), .val (.ref b94), .val (.ref b146), .val (.long w168), .second, .val (.ref b170), .val (.int (1 : Int32))] [(.int (1 : Int32))])) _
            refine XS.goto X181.here hx rfl (pc0 := 131) (pc' := 135) rfl (hb hby at_131) (by decide) (by decide) ?_
            exact k)
        obtain ⟨fs, hr, hrun, hended, hW, hsame⟩ := X181.leave (v := some (.int (1 : Int32))) (fun h => by rw [Bd.returns] at h; cases h) (BodyLoose.notSynchronized Bd)
        refine ⟨_, _, pre182 _ ?_, hrun, hended, _, _, rfl, ?_, ⟨_, rfl⟩, hW, hsame.mono (Nat.le_of_ble_eq_true rfl) (Nat.le_of_ble_eq_true rfl)⟩
        · exact retN X181 hx (t := .boolean) Bd.returns (by simp) (hb hby at_135) hr
        · show Q_law Z x0 x1 x2 r_TIMESTAMPED r_NUMBERED h0 n0 _ T181.heap _
          rw [e181]
          exact ⟨rfl, N181⟩
set_option maxRecDepth 65536 in
set_option maxHeartbeats 40000000 in
theorem comes_1 {Post : Tables → Env → Array Value → State → Outcome → State → Prop} (hpost : ∀ tb e args s v u, (limb_1_1.after args s (.returned v) u = true ∧ limb_1_2.after args s (.returned v) u = true ∧ True) → FrameEnd s (.returned v) u (Jvm.fieldLocs frame_1_writes args s ++ Jvm.arrayLocs frame_1_arrays args s ++ Jvm.staticLocs frame_1_statics s) 16 256 → Post tb e args s (.returned v) u) :
    ArmFor flags0 classFile x code maxLocals ret World_1 tables_1 room_1 Calls_1 rest_1 Pre_1 Post := by
  intro l hfl _ _ p e ha hc hk s m args below hf hA hF happ hP
  obtain ⟨hcalls, hrest, hpre⟩ := hP
  obtain ⟨-, -, -, hnamed, -, -, -, hat⟩ := (Spec.applies_iff hf).mp happ
  obtain ⟨hg, hn⟩ := and_e (Cond.before_iff.mp (show (Jvm.Cond.and given_1 narrow_1).before args s = true from hpre))
  obtain ⟨gc, gt0⟩ := and_e hg
  obtain ⟨ga0, gt1⟩ := and_e gt0
  obtain ⟨ga1, gt2⟩ := and_e gt1
  obtain ⟨w0, w1, w2, rfl⟩ : ∃ w0 w1 w2 : Value, args = #[w0, w1, w2] := by
    have hs : args.size = 3 := by simpa [Cond.value, given_1] using gc
    obtain ⟨L⟩ := args
    match L, hs with
    | [w0, w1, w2], _ => exact ⟨w0, w1, w2, rfl⟩
  have hw := fun d (hd : d ∈ tables_1) => atoms_spec (ws := Jvm.Cond.code x code maxLocals ret :: tables_1) hat d (List.mem_cons_of_mem _ hd)
  have hfit : Fit s := fun {y c} hc i hi => by
    obtain ⟨ha, rfl⟩ := Array.getElem?_eq_some_iff.mp hc
    have q := List.all_eq_true.mp ((Array.all_eq_true_iff_forall_mem.mp hF) _ (Array.getElem_mem ha)) i (List.mem_range.mpr hi)
    simpa [Array.getElem?_eq_getElem hi] using q
  obtain ⟨i0, ei0⟩ := isL_v ga0
  obtain rfl : w0 = (.long i0) := Option.some.inj ei0
  obtain ⟨i1, ei1⟩ := isL_v ga1
  obtain rfl : w1 = (.long i1) := Option.some.inj ei1
  obtain ⟨i2, ei2⟩ := is_v gt2
  obtain rfl : w2 = (.int i2) := Option.some.inj ei2
  obtain ⟨nc0, nt0⟩ := and_e hn
  obtain ⟨nc1, nt1⟩ := and_e nt0
  obtain ⟨nc2, nt2⟩ := and_e nt1
  obtain ⟨r_TIMESTAMPED, S_TIMESTAMPED, E_TIMESTAMPED, ev_TIMESTAMPED⟩ := own_sta (a0 := #[]) nc0 (hw _ (List.mem_of_getElem? (i := 1) rfl)) (hw _ (List.mem_of_getElem? (i := 2) rfl))
  obtain ⟨r_NUMBERED, S_NUMBERED, E_NUMBERED, ev_NUMBERED⟩ := own_sta (a0 := #[]) nc1 (hw _ (List.mem_of_getElem? (i := 1) rfl)) (hw _ (List.mem_of_getElem? (i := 28) rfl))
  have F_NUMBERED_stampAt := own_fld ev_NUMBERED nc2
  have F_TIMESTAMPED_stampAt := own_fld ev_TIMESTAMPED nt2
  obtain ⟨n, o, h1, h2, h3, _, L, rfl, ⟨rfl, N⟩, hq⟩ := rm_law l s _ hw tables_1 i0 i1 i2 r_TIMESTAMPED r_NUMBERED s.heap s.heap.size (Nat.le_refl _) (Old.start s) S_TIMESTAMPED S_NUMBERED E_TIMESTAMPED E_NUMBERED F_TIMESTAMPED_stampAt F_NUMBERED_stampAt p e ha hc hk s m _ below hf ((Spec.applies_iff_loose hf).mp happ).1 ⟨rfl, State.Warmed39.refl s, rfl⟩ trivial
  refine ⟨n, _, h1, h2, h3, hpost _ _ _ _ _ _ ⟨Cond.after_iff.mpr rfl, Cond.after_iff.mpr (eq_i res_at (Term.int_eval (1)) rfl), trivial⟩ ⟨hq.1, hq.2.1, (hq.2.2.sift fun y hy => Or.inr (N y hy)).mono (by decide) (by decide)⟩⟩
theorem main_1_1 : Claimed_1_1 := comes_1 fun _ _ _ _ _ _ h hF => ⟨h.1, hF⟩
theorem main_1_2 : Claimed_1_2 := comes_1 fun _ _ _ _ _ _ h hF => ⟨h.2.1, hF⟩
end Jvm.Pilot.@@N@@
namespace Jvm.Pilot.@@N@@
open Jvm Jvm.ClassFile Sem Op Lib Jvm.Free Jvm.Stand Jvm.Pilot.@@N@@.Jvm.D
/-! MADE BY PROGRAM (witnessworld.py) out of the Statement's table words and the real class files: 17 classes; the members and pool entries that the words name. The judged class is class 1, her method 1. -/
namespace start1
open Jvm.ClassFile
def u (s : String) : CpInfo := .utf8 (stringToUtf16 s)
/-- a pool by its gaps: so many unusable entries, then the entry; so many at the end -/
def gap : Nat → List CpInfo → List CpInfo
  | 0, r => r
  | n + 1, r => .unusable :: gap n r
def poolList (es : List (Nat × CpInfo)) (last : Nat) : List CpInfo := es.foldr (fun e r => gap e.1 (e.2 :: r)) (gap last [])
def pool (es : List (Nat × CpInfo)) (last : Nat) : Array CpInfo := ⟨poolList es last⟩
def fileOf (pool : Array CpInfo) (this : Nat) (attrs : Array Attribute := #[]) (ms : Array MethodInfo := #[]) (fl : Nat := 33) (sup : Nat := 0) (ifs : Array Nat := #[]) (fds : Array FieldInfo := #[]) : ClassFile where
  minorVersion := 0
  majorVersion := 65
  constantPool := pool
  accessFlags := fl
  thisClass := this
  superClass := sup
  interfaces := ifs
  fields := fds
  methods := ms
  attributes := attrs
def plain (name : String) (sup : Option ClassId) : Class where
  name := name
  kind := .ordinary
  loader := none
  accessFlags := 33
  super := sup
  interfaces := #[]
  cf := none
  fields := #[]
  methods := #[]
  instanceTypes := #[]
  staticTypes := #[]
  resolved := #[]
  callSites := []
  init := .initialized
  statics := none
  mirror := none

def pool0 : Array CpInfo := pool [(5, u "<init>"), (0, u "()V"), (1, .class_ 10), (1, u "java/lang/Object")] 113

def k0m0 : Method := { name := "<init>", desc := "()V", sig := { parameters := [], returnType := none }, accessFlags := 1, code := none }
/-- java/lang/Object -/
def k0 : Class := { plain "java/lang/Object" none with
  accessFlags := 33
  interfaces := #[]
  cf := some (fileOf pool0 8 #[] #[{ accessFlags := 1, nameIndex := 5, descriptorIndex := 6, attributes := #[] }] 33 0 #[] #[])
  fields := #[]
  methods := #[k0m0]
  instanceTypes := #[]
  staticTypes := #[]
  resolved := Array.replicate 124 none
  statics := none }

def pool1 : Array CpInfo := pool [(2, .class_ 4), (1, u "java/lang/Object"), (0, u "<init>"), (0, u "()V"), (0, .fieldref 8 9), (0, .class_ 10), (0, .nameAndType 11 12), (0, u "com/example/fence/fence/service/ClaimFormat"), (0, u "NUMBERED"), (0, u "Lcom/example/fence/fence/service/ClaimFormat;"), (0, .fieldref 8 14), (0, .nameAndType 15 12), (0, u "TIMESTAMPED"), (0, .methodref 8 17), (0, .nameAndType 18 19), (0, u "stamp"), (0, u "(J[B)[B"), (0, .long 946684800000000000), (1, .interfaceMethodref 23 24), (0, .class_ 25), (0, .nameAndType 26 19), (0, u "com/example/fence/fence/io/KeyColumnStore"), (0, u "numberedColumn"), (0, .methodref 8 28), (0, .nameAndType 29 30), (0, u "ofColumn"), (0, u "([B)Lcom/example/fence/fence/service/ClaimFormat;"), (0, .methodref 8 32), (0, .nameAndType 33 34), (0, u "carries"), (0, u "(J)Z"), (0, .class_ 36), (0, u "com/example/fence/fence/service/ClaimFormatCarriesPinLaw"), (2, u "law"), (0, u "(JJI)Z")] 5

def k1m0 : Method := { name := "<init>", desc := "()V", sig := { parameters := [], returnType := none }, accessFlags := 1, code := none }
def k1c1 : Code := { maxStack := 4, maxLocals := 13, code := code, exceptionTable := #[], attributes := #[] }
def k1m1 : Method := { name := "law", desc := "(JJI)Z", sig := { parameters := [.long, .long, .int], returnType := some .boolean }, accessFlags := 9, code := some k1c1 }
/-- com/example/fence/fence/service/ClaimFormatCarriesPinLaw -/
def k1 : Class := { plain "com/example/fence/fence/service/ClaimFormatCarriesPinLaw" (some 0) with
  accessFlags := 49
  interfaces := #[]
  cf := some (fileOf pool1 35 #[] #[{ accessFlags := 1, nameIndex := 5, descriptorIndex := 6, attributes := #[] }, { accessFlags := 9, nameIndex := 39, descriptorIndex := 40, attributes := #[] }] 49 2 #[] #[])
  fields := #[]
  methods := #[k1m0, k1m1]
  instanceTypes := #[]
  staticTypes := #[]
  resolved := Array.replicate 46 none
  statics := none }

def pool2 : Array CpInfo := pool [(1, .class_ 2), (0, u "java/lang/constant/Constable"), (0, .class_ 4), (0, u "java/lang/Object")] 6

/-- java/lang/constant/Constable -/
def k2 : Class := { plain "java/lang/constant/Constable" (some 0) with
  accessFlags := 1537
  interfaces := #[]
  cf := some (fileOf pool2 1 #[] #[] 1537 3 #[] #[])
  fields := #[]
  methods := #[]
  instanceTypes := #[]
  staticTypes := #[]
  resolved := Array.replicate 11 none
  statics := none }

def pool3 : Array CpInfo := pool [(1, .class_ 2), (0, u "java/lang/Comparable"), (0, .class_ 4), (0, u "java/lang/Object")] 7

/-- java/lang/Comparable -/
def k3 : Class := { plain "java/lang/Comparable" (some 0) with
  accessFlags := 1537
  interfaces := #[]
  cf := some (fileOf pool3 1 #[] #[] 1537 3 #[] #[])
  fields := #[]
  methods := #[]
  instanceTypes := #[]
  staticTypes := #[]
  resolved := Array.replicate 12 none
  statics := none }

def pool4 : Array CpInfo := pool [(1, .class_ 2), (0, u "java/io/Serializable"), (0, .class_ 4), (0, u "java/lang/Object")] 2

/-- java/io/Serializable -/
def k4 : Class := { plain "java/io/Serializable" (some 0) with
  accessFlags := 1537
  interfaces := #[]
  cf := some (fileOf pool4 1 #[] #[] 1537 3 #[] #[])
  fields := #[]
  methods := #[]
  instanceTypes := #[]
  staticTypes := #[]
  resolved := Array.replicate 7 none
  statics := none }

def pool5 : Array CpInfo := pool [(2, .class_ 4), (1, u "java/lang/Enum"), (0, u "name"), (0, u "Ljava/lang/String;"), (2, u "ordinal"), (0, u "I"), (1, .class_ 14), (1, u "java/lang/Object"), (4, u "hash"), (86, .class_ 108), (1, u "java/lang/Enum$EnumDesc"), (2, .class_ 112), (0, u "java/lang/constant/Constable"), (0, .class_ 114), (0, u "java/lang/Comparable"), (0, .class_ 116), (0, u "java/io/Serializable")] 87

/-- java/lang/Enum -/
def k5 : Class := { plain "java/lang/Enum" (some 0) with
  accessFlags := 1057
  interfaces := #[2, 3, 4]
  cf := some (fileOf pool5 2 #[.nestMembers #[106]] #[] 1057 12 #[111, 113, 115] #[{ accessFlags := 18, nameIndex := 5, descriptorIndex := 6, attributes := #[] }, { accessFlags := 18, nameIndex := 9, descriptorIndex := 10, attributes := #[] }, { accessFlags := 2, nameIndex := 19, descriptorIndex := 10, attributes := #[] }])
  fields := #[{ name := "name", type := (.object "java/lang/String"), accessFlags := 18, slot := 0, constantValue := 0 }, { name := "ordinal", type := .int, accessFlags := 18, slot := 1, constantValue := 0 }, { name := "hash", type := .int, accessFlags := 2, slot := 2, constantValue := 0 }]
  methods := #[]
  instanceTypes := #[(.object "java/lang/String"), .int, .int]
  staticTypes := #[]
  resolved := Array.replicate 204 none
  statics := none }

def pool6 : Array CpInfo := pool [(3, .class_ 4), (0, u "com/example/fence/fence/service/ClaimFormat"), (0, .fieldref 3 6), (0, .nameAndType 7 8), (0, u "TIMESTAMPED"), (0, u "Lcom/example/fence/fence/service/ClaimFormat;"), (0, .fieldref 3 10), (0, .nameAndType 11 8), (0, u "NUMBERED"), (2, u "$VALUES"), (0, u "[Lcom/example/fence/fence/service/ClaimFormat;"), (6, .class_ 24), (1, u "java/lang/Enum"), (8, u "version"), (0, u "I"), (0, .fieldref 3 36), (0, .nameAndType 37 34), (0, u "stampAt"), (2, u "numbering"), (0, u "Ljava/lang/String;"), (6, .methodref 3 49), (0, .nameAndType 50 51), (0, u "token"), (0, u "([B)J"), (0, .long 946684800000000000), (1, .methodref 3 55), (0, .nameAndType 56 57), (0, u "isClaim"), (0, u "([B)Z"), (0, .methodref 59 60), (0, .class_ 61), (0, .nameAndType 62 63), (0, u "com/example/fence/fence/util/BigEndian"), (0, u "prefixed"), (0, u "(J[B)[B"), (0, .methodref 59 65), (0, .nameAndType 66 67), (0, u "longAt"), (0, u "([BI)J"), (35, .class_ 104), (0, u "com/example/fence/fence/service/ClaimFormat$1"), (6, .class_ 112), (0, u "com/example/fence/fence/service/ClaimFormat$2"), (10, u "CLAIM_VALUE"), (0, u "[B"), (0, u "TIMESTAMP_BYTES"), (2, u "FIRST_TIMESTAMP"), (0, u "J"), (10, u "ofColumn"), (0, u "([B)Lcom/example/fence/fence/service/ClaimFormat;"), (0, u "stamp"), (12, u "carries"), (0, u "(J)Z")] 33

def k6c0 : Code := { maxStack := 4, maxLocals := 2, code := prog_19_method_5_code, exceptionTable := #[], attributes := #[] }
def k6m0 : Method := { name := "ofColumn", desc := "([B)Lcom/example/fence/fence/service/ClaimFormat;", sig := { parameters := [(.array .byte)], returnType := some (.object "com/example/fence/fence/service/ClaimFormat") }, accessFlags := 8, code := some k6c0 }
def k6c1 : Code := { maxStack := 3, maxLocals := 3, code := prog_19_method_6_code, exceptionTable := #[], attributes := #[] }
def k6m1 : Method := { name := "stamp", desc := "(J[B)[B", sig := { parameters := [.long, (.array .byte)], returnType := some (.array .byte) }, accessFlags := 8, code := some k6c1 }
def k6c2 : Code := { maxStack := 4, maxLocals := 3, code := prog_19_method_13_code, exceptionTable := #[], attributes := #[] }
def k6m2 : Method := { name := "carries", desc := "(J)Z", sig := { parameters := [.long], returnType := some .boolean }, accessFlags := 0, code := some k6c2 }
def k6c3 : Code := { maxStack := 3, maxLocals := 2, code := prog_19_method_15_code, exceptionTable := #[], attributes := #[] }
def k6m3 : Method := { name := "isClaim", desc := "([B)Z", sig := { parameters := [(.array .byte)], returnType := some .boolean }, accessFlags := 2, code := some k6c3 }
def k6c4 : Code := { maxStack := 2, maxLocals := 1, code := prog_19_method_22_code, exceptionTable := #[], attributes := #[] }
def k6m4 : Method := { name := "token", desc := "([B)J", sig := { parameters := [(.array .byte)], returnType := some .long }, accessFlags := 8, code := some k6c4 }
/-- com/example/fence/fence/service/ClaimFormat -/
def k6 : Class := { plain "com/example/fence/fence/service/ClaimFormat" (some 5) with
  accessFlags := 17440
  interfaces := #[]
  cf := some (fileOf pool6 3 #[.nestMembers #[111, 103]] #[{ accessFlags := 8, nameIndex := 140, descriptorIndex := 141, attributes := #[] }, { accessFlags := 8, nameIndex := 142, descriptorIndex := 63, attributes := #[] }, { accessFlags := 0, nameIndex := 155, descriptorIndex := 156, attributes := #[] }, { accessFlags := 2, nameIndex := 56, descriptorIndex := 57, attributes := #[] }, { accessFlags := 8, nameIndex := 50, descriptorIndex := 51, attributes := #[] }] 17440 22 #[] #[{ accessFlags := 16409, nameIndex := 7, descriptorIndex := 8, attributes := #[] }, { accessFlags := 16409, nameIndex := 11, descriptorIndex := 8, attributes := #[] }, { accessFlags := 26, nameIndex := 125, descriptorIndex := 34, attributes := #[] }, { accessFlags := 26, nameIndex := 123, descriptorIndex := 124, attributes := #[] }, { accessFlags := 26, nameIndex := 128, descriptorIndex := 129, attributes := #[] }, { accessFlags := 18, nameIndex := 33, descriptorIndex := 34, attributes := #[] }, { accessFlags := 18, nameIndex := 37, descriptorIndex := 34, attributes := #[] }, { accessFlags := 18, nameIndex := 40, descriptorIndex := 41, attributes := #[] }, { accessFlags := 4122, nameIndex := 14, descriptorIndex := 15, attributes := #[] }])
  fields := #[{ name := "TIMESTAMPED", type := (.object "com/example/fence/fence/service/ClaimFormat"), accessFlags := 16409, slot := 0, constantValue := 0 }, { name := "NUMBERED", type := (.object "com/example/fence/fence/service/ClaimFormat"), accessFlags := 16409, slot := 1, constantValue := 0 }, { name := "TIMESTAMP_BYTES", type := .int, accessFlags := 26, slot := 2, constantValue := 0 }, { name := "CLAIM_VALUE", type := (.array .byte), accessFlags := 26, slot := 3, constantValue := 0 }, { name := "FIRST_TIMESTAMP", type := .long, accessFlags := 26, slot := 4, constantValue := 0 }, { name := "version", type := .int, accessFlags := 18, slot := 3, constantValue := 0 }, { name := "stampAt", type := .int, accessFlags := 18, slot := 4, constantValue := 0 }, { name := "numbering", type := (.object "java/lang/String"), accessFlags := 18, slot := 5, constantValue := 0 }, { name := "$VALUES", type := (.array (.object "com/example/fence/fence/service/ClaimFormat")), accessFlags := 4122, slot := 5, constantValue := 0 }]
  methods := #[k6m0, k6m1, k6m2, k6m3, k6m4]
  instanceTypes := #[(.object "java/lang/String"), .int, .int, .int, .int, (.object "java/lang/String")]
  staticTypes := #[(.object "com/example/fence/fence/service/ClaimFormat"), (.object "com/example/fence/fence/service/ClaimFormat"), .int, (.array .byte), .long, (.array (.object "com/example/fence/fence/service/ClaimFormat"))]
  resolved := Array.replicate 190 none
  statics := some 0 }

def pool7 : Array CpInfo := pool [(2, .class_ 4), (1, u "java/lang/Object"), (0, u "<init>"), (0, u "()V"), (2, .methodref 10 11), (0, .class_ 12), (0, .nameAndType 13 14), (0, u "java/lang/System"), (0, u "arraycopy"), (0, u "(Ljava/lang/Object;ILjava/lang/Object;II)V"), (0, .long 255), (1, .class_ 18), (0, u "com/example/fence/fence/util/BigEndian"), (2, u "prefixed"), (0, u "(J[B)[B"), (0, u "longAt"), (0, u "([BI)J")] 2

def k7m0 : Method := { name := "<init>", desc := "()V", sig := { parameters := [], returnType := none }, accessFlags := 2, code := none }
def k7c1 : Code := { maxStack := 5, maxLocals := 4, code := prog_52_method_2_code, exceptionTable := #[], attributes := #[] }
def k7m1 : Method := { name := "prefixed", desc := "(J[B)[B", sig := { parameters := [.long, (.array .byte)], returnType := some (.array .byte) }, accessFlags := 9, code := some k7c1 }
def k7c2 : Code := { maxStack := 6, maxLocals := 2, code := prog_52_method_3_code, exceptionTable := #[], attributes := #[] }
def k7m2 : Method := { name := "longAt", desc := "([BI)J", sig := { parameters := [(.array .byte), .int], returnType := some .long }, accessFlags := 9, code := some k7c2 }
/-- com/example/fence/fence/util/BigEndian -/
def k7 : Class := { plain "com/example/fence/fence/util/BigEndian" (some 0) with
  accessFlags := 49
  interfaces := #[]
  cf := some (fileOf pool7 17 #[] #[{ accessFlags := 2, nameIndex := 5, descriptorIndex := 6, attributes := #[] }, { accessFlags := 9, nameIndex := 21, descriptorIndex := 22, attributes := #[] }, { accessFlags := 9, nameIndex := 23, descriptorIndex := 24, attributes := #[] }] 49 2 #[] #[])
  fields := #[]
  methods := #[k7m0, k7m1, k7m2]
  instanceTypes := #[]
  staticTypes := #[]
  resolved := Array.replicate 27 none
  statics := none }

def pool8 : Array CpInfo := pool [(2, .class_ 4), (1, u "java/lang/Object"), (0, u "<init>"), (0, u "()V"), (1, .class_ 10), (1, u "java/lang/System"), (0, u "allowSecurityManager"), (0, u "I"), (16, u "cons"), (0, u "Ljava/io/Console;"), (77, .class_ 110), (1, u "java/lang/System$CallersHolder"), (43, u "initialErrStream"), (0, u "Ljava/io/PrintStream;"), (19, u "security"), (0, u "Ljava/lang/SecurityManager;"), (31, .class_ 209), (0, u "java/lang/System$1"), (7, u "props"), (0, u "Ljava/util/Properties;"), (2, u "lineSeparator"), (0, u "Ljava/lang/String;"), (96, .class_ 321), (1, u "java/lang/System$LoggerFinder"), (5, .class_ 328), (0, u "java/lang/System$Logger"), (67, u "err"), (2, u "out"), (91, u "notSupportedJnuEncoding"), (15, u "in"), (17, u "initialIn"), (0, u "Ljava/io/InputStream;"), (35, u "bootLayer"), (0, u "Ljava/lang/ModuleLayer;"), (99, .class_ 664), (0, u "java/lang/System$2"), (9, u "NEVER"), (2, u "MAYBE"), (49, u "arraycopy"), (0, u "(Ljava/lang/Object;ILjava/lang/Object;II)V"), (72, .class_ 802), (0, u "java/lang/System$Logger$Level")] 31

def k8m0 : Method := { name := "<init>", desc := "()V", sig := { parameters := [], returnType := none }, accessFlags := 2, code := none }
def k8m1 : Method := { name := "arraycopy", desc := "(Ljava/lang/Object;ILjava/lang/Object;II)V", sig := { parameters := [(.object "java/lang/Object"), .int, (.object "java/lang/Object"), .int, .int], returnType := none }, accessFlags := 265, code := none }
/-- java/lang/System -/
def k8 : Class := { plain "java/lang/System" (some 0) with
  accessFlags := 49
  interfaces := #[]
  cf := some (fileOf pool8 8 #[.nestMembers #[319, 327, 801, 108, 663, 208]] #[{ accessFlags := 2, nameIndex := 5, descriptorIndex := 6, attributes := #[] }, { accessFlags := 265, nameIndex := 727, descriptorIndex := 728, attributes := #[] }] 49 2 #[] #[{ accessFlags := 25, nameIndex := 507, descriptorIndex := 526, attributes := #[] }, { accessFlags := 25, nameIndex := 399, descriptorIndex := 155, attributes := #[] }, { accessFlags := 25, nameIndex := 396, descriptorIndex := 155, attributes := #[] }, { accessFlags := 10, nameIndex := 525, descriptorIndex := 526, attributes := #[] }, { accessFlags := 26, nameIndex := 674, descriptorIndex := 12, attributes := #[] }, { accessFlags := 26, nameIndex := 677, descriptorIndex := 12, attributes := #[] }, { accessFlags := 10, nameIndex := 11, descriptorIndex := 12, attributes := #[] }, { accessFlags := 74, nameIndex := 175, descriptorIndex := 176, attributes := #[] }, { accessFlags := 10, nameIndex := 491, descriptorIndex := 222, attributes := #[] }, { accessFlags := 74, nameIndex := 29, descriptorIndex := 30, attributes := #[] }, { accessFlags := 74, nameIndex := 154, descriptorIndex := 155, attributes := #[] }, { accessFlags := 10, nameIndex := 217, descriptorIndex := 218, attributes := #[] }, { accessFlags := 10, nameIndex := 221, descriptorIndex := 222, attributes := #[] }, { accessFlags := 8, nameIndex := 562, descriptorIndex := 563, attributes := #[] }])
  fields := #[{ name := "in", type := (.object "java/io/InputStream"), accessFlags := 25, slot := 0, constantValue := 0 }, { name := "out", type := (.object "java/io/PrintStream"), accessFlags := 25, slot := 1, constantValue := 0 }, { name := "err", type := (.object "java/io/PrintStream"), accessFlags := 25, slot := 2, constantValue := 0 }, { name := "initialIn", type := (.object "java/io/InputStream"), accessFlags := 10, slot := 3, constantValue := 0 }, { name := "NEVER", type := .int, accessFlags := 26, slot := 4, constantValue := 0 }, { name := "MAYBE", type := .int, accessFlags := 26, slot := 5, constantValue := 0 }, { name := "allowSecurityManager", type := .int, accessFlags := 10, slot := 6, constantValue := 0 }, { name := "security", type := (.object "java/lang/SecurityManager"), accessFlags := 74, slot := 7, constantValue := 0 }, { name := "notSupportedJnuEncoding", type := (.object "java/lang/String"), accessFlags := 10, slot := 8, constantValue := 0 }, { name := "cons", type := (.object "java/io/Console"), accessFlags := 74, slot := 9, constantValue := 0 }, { name := "initialErrStream", type := (.object "java/io/PrintStream"), accessFlags := 74, slot := 10, constantValue := 0 }, { name := "props", type := (.object "java/util/Properties"), accessFlags := 10, slot := 11, constantValue := 0 }, { name := "lineSeparator", type := (.object "java/lang/String"), accessFlags := 10, slot := 12, constantValue := 0 }, { name := "bootLayer", type := (.object "java/lang/ModuleLayer"), accessFlags := 8, slot := 13, constantValue := 0 }]
  methods := #[k8m0, k8m1]
  instanceTypes := #[]
  staticTypes := #[(.object "java/io/InputStream"), (.object "java/io/PrintStream"), (.object "java/io/PrintStream"), (.object "java/io/InputStream"), .int, .int, .int, (.object "java/lang/SecurityManager"), (.object "java/lang/String"), (.object "java/io/Console"), (.object "java/io/PrintStream"), (.object "java/util/Properties"), (.object "java/lang/String"), (.object "java/lang/ModuleLayer")]
  resolved := Array.replicate 834 none
  statics := none }

def pool9 : Array CpInfo := pool [(2, .class_ 4), (1, u "com/example/fence/fence/service/ClaimFormat"), (34, .class_ 40), (0, u "com/example/fence/fence/service/ClaimFormat$2")] 20

/-- com/example/fence/fence/service/ClaimFormat$2 -/
def k9 : Class := { plain "com/example/fence/fence/service/ClaimFormat$2" (some 6) with
  accessFlags := 16432
  interfaces := #[]
  cf := some (fileOf pool9 39 #[.nestHost 2] #[] 16432 2 #[] #[])
  fields := #[]
  methods := #[]
  instanceTypes := #[(.object "java/lang/String"), .int, .int, .int, .int, (.object "java/lang/String")]
  staticTypes := #[]
  resolved := Array.replicate 61 none
  statics := none }

def pool10 : Array CpInfo := pool [(2, .class_ 4), (1, u "com/example/fence/fence/service/ClaimFormat"), (41, .class_ 47), (0, u "com/example/fence/fence/service/ClaimFormat$1")] 32

/-- com/example/fence/fence/service/ClaimFormat$1 -/
def k10 : Class := { plain "com/example/fence/fence/service/ClaimFormat$1" (some 6) with
  accessFlags := 16432
  interfaces := #[]
  cf := some (fileOf pool10 46 #[.nestHost 2] #[] 16432 2 #[] #[])
  fields := #[]
  methods := #[]
  instanceTypes := #[(.object "java/lang/String"), .int, .int, .int, .int, (.object "java/lang/String")]
  staticTypes := #[]
  resolved := Array.replicate 80 none
  statics := none }

def pool11 : Array CpInfo := pool [(18, .class_ 20), (1, u "com/example/fence/fence/io/KeyColumnStore"), (2, .methodref 24 25), (0, .class_ 26), (0, .nameAndType 27 28), (0, u "com/example/fence/fence/util/BigEndian"), (0, u "prefixed"), (0, u "(J[B)[B"), (1, .class_ 31), (0, u "java/lang/Object"), (23, u "numberedColumn")] 19

def k11c0 : Code := { maxStack := 3, maxLocals := 3, code := prog_10_method_8_code, exceptionTable := #[], attributes := #[] }
def k11m0 : Method := { name := "numberedColumn", desc := "(J[B)[B", sig := { parameters := [.long, (.array .byte)], returnType := some (.array .byte) }, accessFlags := 9, code := some k11c0 }
/-- com/example/fence/fence/io/KeyColumnStore -/
def k11 : Class := { plain "com/example/fence/fence/io/KeyColumnStore" (some 0) with
  accessFlags := 1537
  interfaces := #[]
  cf := some (fileOf pool11 18 #[] #[{ accessFlags := 9, nameIndex := 55, descriptorIndex := 28, attributes := #[] }] 1537 30 #[] #[])
  fields := #[]
  methods := #[k11m0]
  instanceTypes := #[]
  staticTypes := #[]
  resolved := Array.replicate 75 none
  statics := none }

def pool12 : Array CpInfo := pool [(1, u "java/lang/Cloneable"), (0, .class_ 1), (0, u "java/lang/Object"), (0, .class_ 3)] 3

/-- java/lang/Cloneable -/
def k12 : Class := { plain "java/lang/Cloneable" (some 0) with
  accessFlags := 1537
  interfaces := #[]
  cf := some (fileOf pool12 2 #[] #[] 1537 4 #[] #[])
  fields := #[]
  methods := #[]
  instanceTypes := #[]
  staticTypes := #[]
  resolved := Array.replicate 8 none
  statics := none }

/-- the primitive byte -/
def k13 : Class := { plain "byte" none with kind := .primitive 'B', accessFlags := 0x411 }
/-- [B -/
def k14 : Class := { plain "[B" (some 0) with kind := .array 13 .byte, interfaces := #[12, 4], accessFlags := 1041 }

/-- the primitive int -/
def k15 : Class := { plain "int" none with kind := .primitive 'I', accessFlags := 0x411 }
/-- [I -/
def k16 : Class := { plain "[I" (some 0) with kind := .array 15 .int, interfaces := #[12, 4], accessFlags := 1041 }

def heap : Heap := #[{ cls := 6, slots := #[.ref 1, .ref 2, .int 0, .null, .long 0, .null], vm := .statics 6 },
  { cls := 10, slots := #[.null, .int 0, .int 0, .int 1, .int 0, .null], vm := .none },
  { cls := 9, slots := #[.null, .int 1, .int 0, .int 2, .int 8, .null], vm := .none }]
def classes : Array Class := #[k0, k1, k2, k3, k4, k5, k6, k7, k8, k9, k10, k11, k12, k13, k14, k15, k16]
def interned : List (Array UInt16 × Addr) := []
def slotsUsed : Nat := 18
def theMethod : MethodId := ⟨1, 1⟩
def args0 : Array Value := #[.long 5, .long 6, .int 7]
def aboutOver (below : List Frame) : State where
  vm := { classes := classes, interned := interned.toArray }
  heap := heap
  slotsUsed := slotsUsed
  threads := #[{ frames := .invoking theMethod args0 :: below }]
def below0 : List Frame := [.native { method := ⟨0, 0⟩, args := #[] }]
def about1 : State := aboutOver below0
def p0 : Program := .bare "" "" ""
def e0 : Env := launch0.env 0 0 0
theorem w_frames : about1.frames = Frame.invoking theMethod args0 :: below0 := rfl
set_option maxRecDepth 65536 in
theorem w_args : argsFit about1.vm theMethod args0 = true := by decide +kernel
set_option maxRecDepth 65536 in
theorem w_heap : heapFits about1 = true := by decide +kernel
set_option maxRecDepth 65536 in
theorem w_runnable : about1.curStatus? = some .runnable := by decide +kernel
set_option maxRecDepth 65536 in
theorem w_alone : about1.alone = true := by decide +kernel
set_option maxRecDepth 65536 in
theorem w_named : about1.methodNamed? x = some theMethod := by decide +kernel
set_option maxRecDepth 65536 in
theorem w_hears : about1.hears theMethod below0 = true := by decide +kernel
set_option maxRecDepth 65536 in
theorem w_ripe : about1.ripe theMethod args0 below0 = true := by decide +kernel
theorem w_running : about1.status = .running := rfl
set_option maxRecDepth 65536 in
theorem w_room : about1.hasRoom e0.platform room_1 = true :=
  launch0.hasRoom_least _ room_1 (by decide +kernel) (by decide +kernel) (by decide +kernel) (by decide +kernel) (by decide +kernel) (by decide +kernel)
theorem allAtoms_all (ts : List Jvm.Cond) (a : Array Jvm.Value) (st : Jvm.State) : (allAtoms ts).before a st = ts.all (fun c => c.before a st) := by
  induction ts with
  | nil => rfl
  | cons c t ih =>
    show (Jvm.Cond.and c (allAtoms t)).before a st = _
    rw [Jvm.Cond.before_and, ih, List.all_cons]
def words1 : List Jvm.Cond := Jvm.Cond.code x code maxLocals ret :: tables_1
/-- a 'code' word, met by the world's own term for the bytes: nothing is compared byte by byte -/
theorem code_word {y : MethodName} {bytes : ByteArray} {mx : Nat} {rt : Option FieldType} {a : Array Value} {s : State} {m : MethodId} {meth : Method} {c : Code} (h1 : s.methodNamed? y = some m) (h2 : s.vm.method? m = some meth) (h3 : meth.code = some c) (h4 : c.code = bytes)
    (h5 : (c.maxLocals == mx && c.exceptionTable.isEmpty && decide (c.maxStack ≤ mostOperands) && decide (meth.sig.returnType = rt) && !meth.locks && decide (parseMethodDescriptor y.desc = some meth.sig)) = true) : (Jvm.Cond.code y bytes mx rt).before a s = true := by
  simp only [Bool.and_eq_true, beq_iff_eq, Bool.not_eq_true', decide_eq_true_eq] at h5
  obtain ⟨⟨⟨⟨⟨g1, g2⟩, g3⟩, g4⟩, g5⟩, g6⟩ := h5
  simp [Cond.before, Cond.holds, Cond.value, h1, h2, h3, h4, g1, g2, g3, g4, g5, g6]
def isCode : Jvm.Cond → Bool
  | .code _ _ _ _ => true
  | _ => false
theorem all_split {L : List Jvm.Cond} {P : Jvm.Cond → Bool} (h1 : L.all (fun c => isCode c || P c) = true) (h2 : ∀ c ∈ L.filter isCode, P c = true) : L.all P = true := by
  refine List.all_eq_true.mpr fun c hc => ?_
  have h := List.all_eq_true.mp h1 c hc
  rcases Bool.eq_false_or_eq_true (isCode c) with hi | hi
  · exact h2 c (List.mem_filter.mpr ⟨hc, hi⟩)
  · simpa [hi] using h
set_option maxRecDepth 65536 in
theorem w_c0 : (Jvm.Cond.code x code maxLocals ret).before args0 about1 = true := code_word (m := ⟨1, 1⟩) (meth := k1m1) (c := k1c1) (by decide +kernel) rfl rfl rfl (by decide +kernel)
set_option maxRecDepth 65536 in
theorem w_c1 : (Jvm.Cond.code ({ cls := "com/example/fence/fence/service/ClaimFormat", name := "stamp", desc := "(J[B)[B" } : Jvm.MethodName) prog_19_method_6_code (3 : Nat) (Option.some (Jvm.ClassFile.FieldType.array Jvm.ClassFile.FieldType.byte))).before args0 about1 = true := code_word (m := ⟨6, 1⟩) (meth := k6m1) (c := k6c1) (by decide +kernel) rfl rfl rfl (by decide +kernel)
set_option maxRecDepth 65536 in
theorem w_c2 : (Jvm.Cond.code ({ cls := "com/example/fence/fence/util/BigEndian", name := "prefixed", desc := "(J[B)[B" } : Jvm.MethodName) prog_52_method_2_code (4 : Nat) (Option.some (Jvm.ClassFile.FieldType.array Jvm.ClassFile.FieldType.byte))).before args0 about1 = true := code_word (m := ⟨7, 1⟩) (meth := k7m1) (c := k7c1) (by decide +kernel) rfl rfl rfl (by decide +kernel)
set_option maxRecDepth 65536 in
theorem w_c3 : (Jvm.Cond.code ({ cls := "com/example/fence/fence/service/ClaimFormat", name := "ofColumn", desc := "([B)Lcom/example/fence/fence/service/ClaimFormat;" } : Jvm.MethodName) prog_19_method_5_code (2 : Nat) (Option.some (Jvm.ClassFile.FieldType.object "com/example/fence/fence/service/ClaimFormat"))).before args0 about1 = true := code_word (m := ⟨6, 0⟩) (meth := k6m0) (c := k6c0) (by decide +kernel) rfl rfl rfl (by decide +kernel)
set_option maxRecDepth 65536 in
theorem w_c4 : (Jvm.Cond.code ({ cls := "com/example/fence/fence/service/ClaimFormat", name := "token", desc := "([B)J" } : Jvm.MethodName) prog_19_method_22_code (1 : Nat) (Option.some Jvm.ClassFile.FieldType.long)).before args0 about1 = true := code_word (m := ⟨6, 4⟩) (meth := k6m4) (c := k6c4) (by decide +kernel) rfl rfl rfl (by decide +kernel)
set_option maxRecDepth 65536 in
theorem w_c5 : (Jvm.Cond.code ({ cls := "com/example/fence/fence/util/BigEndian", name := "longAt", desc := "([BI)J" } : Jvm.MethodName) prog_52_method_3_code (2 : Nat) (Option.some Jvm.ClassFile.FieldType.long)).before args0 about1 = true := code_word (m := ⟨7, 2⟩) (meth := k7m2) (c := k7c2) (by decide +kernel) rfl rfl rfl (by decide +kernel)
set_option maxRecDepth 65536 in
theorem w_c6 : (Jvm.Cond.code ({ cls := "com/example/fence/fence/service/ClaimFormat", name := "isClaim", desc := "([B)Z" } : Jvm.MethodName) prog_19_method_15_code (2 : Nat) (Option.some Jvm.ClassFile.FieldType.boolean)).before args0 about1 = true := code_word (m := ⟨6, 3⟩) (meth := k6m3) (c := k6c3) (by decide +kernel) rfl rfl rfl (by decide +kernel)
set_option maxRecDepth 65536 in
theorem w_c7 : (Jvm.Cond.code ({ cls := "com/example/fence/fence/service/ClaimFormat", name := "carries", desc := "(J)Z" } : Jvm.MethodName) prog_19_method_13_code (3 : Nat) (Option.some Jvm.ClassFile.FieldType.boolean)).before args0 about1 = true := code_word (m := ⟨6, 2⟩) (meth := k6m2) (c := k6c2) (by decide +kernel) rfl rfl rfl (by decide +kernel)
set_option maxRecDepth 65536 in
theorem w_c8 : (Jvm.Cond.code ({ cls := "com/example/fence/fence/io/KeyColumnStore", name := "numberedColumn", desc := "(J[B)[B" } : Jvm.MethodName) prog_10_method_8_code (3 : Nat) (Option.some (Jvm.ClassFile.FieldType.array Jvm.ClassFile.FieldType.byte))).before args0 about1 = true := code_word (m := ⟨11, 0⟩) (meth := k11m0) (c := k11c0) (by decide +kernel) rfl rfl rfl (by decide +kernel)
def codes1 : List Jvm.Cond := [Jvm.Cond.code x code maxLocals ret, Jvm.Cond.code ({ cls := "com/example/fence/fence/service/ClaimFormat", name := "stamp", desc := "(J[B)[B" } : Jvm.MethodName) prog_19_method_6_code (3 : Nat) (Option.some (Jvm.ClassFile.FieldType.array Jvm.ClassFile.FieldType.byte)), Jvm.Cond.code ({ cls := "com/example/fence/fence/util/BigEndian", name := "prefixed", desc := "(J[B)[B" } : Jvm.MethodName) prog_52_method_2_code (4 : Nat) (Option.some (Jvm.ClassFile.FieldType.array Jvm.ClassFile.FieldType.byte)), Jvm.Cond.code ({ cls := "com/example/fence/fence/service/ClaimFormat", name := "ofColumn", desc := "([B)Lcom/example/fence/fence/service/ClaimFormat;" } : Jvm.MethodName) prog_19_method_5_code (2 : Nat) (Option.some (Jvm.ClassFile.FieldType.object "com/example/fence/fence/service/ClaimFormat")), Jvm.Cond.code ({ cls := "com/example/fence/fence/service/ClaimFormat", name := "token", desc := "([B)J" } : Jvm.MethodName) prog_19_method_22_code (1 : Nat) (Option.some Jvm.ClassFile.FieldType.long), Jvm.Cond.code ({ cls := "com/example/fence/fence/util/BigEndian", name := "longAt", desc := "([BI)J" } : Jvm.MethodName) prog_52_method_3_code (2 : Nat) (Option.some Jvm.ClassFile.FieldType.long), Jvm.Cond.code ({ cls := "com/example/fence/fence/service/ClaimFormat", name := "isClaim", desc := "([B)Z" } : Jvm.MethodName) prog_19_method_15_code (2 : Nat) (Option.some Jvm.ClassFile.FieldType.boolean), Jvm.Cond.code ({ cls := "com/example/fence/fence/service/ClaimFormat", name := "carries", desc := "(J)Z" } : Jvm.MethodName) prog_19_method_13_code (3 : Nat) (Option.some Jvm.ClassFile.FieldType.boolean), Jvm.Cond.code ({ cls := "com/example/fence/fence/io/KeyColumnStore", name := "numberedColumn", desc := "(J[B)[B" } : Jvm.MethodName) prog_10_method_8_code (3 : Nat) (Option.some (Jvm.ClassFile.FieldType.array Jvm.ClassFile.FieldType.byte))]
set_option maxRecDepth 65536 in
theorem codes_eq : words1.filter isCode = codes1 := rfl
theorem w_codes : ∀ c ∈ words1.filter isCode, c.before args0 about1 = true := by
  rw [codes_eq]
  intro c hc
  simp only [codes1, List.mem_cons, List.not_mem_nil, or_false] at hc
  rcases hc with rfl | rfl | rfl | rfl | rfl | rfl | rfl | rfl | rfl
  · exact w_c0
  · exact w_c1
  · exact w_c2
  · exact w_c3
  · exact w_c4
  · exact w_c5
  · exact w_c6
  · exact w_c7
  · exact w_c8
set_option maxRecDepth 65536 in
theorem w_t1 : (words1.take 24).all (fun c => isCode c || c.before args0 about1) = true := by decide +kernel
set_option maxRecDepth 65536 in
theorem w_t2 : ((words1.drop 24).take 24).all (fun c => isCode c || c.before args0 about1) = true := by decide +kernel
set_option maxRecDepth 65536 in
theorem w_t3 : ((words1.drop 24).drop 24).all (fun c => isCode c || c.before args0 about1) = true := by decide +kernel
theorem w_tables : (allAtoms (Jvm.Cond.code x code maxLocals ret :: tables_1)).before args0 about1 = true := by
  rw [allAtoms_all]
  show words1.all (fun c => c.before args0 about1) = true
  refine all_split ?_ w_codes
  rw [← List.take_append_drop 24 words1, List.all_append, w_t1, ← List.take_append_drop 24 (words1.drop 24), List.all_append, w_t2, w_t3]
  rfl
set_option maxRecDepth 65536 in
theorem w_case : (Jvm.Cond.and given_1 narrow_1).before args0 about1 = true := by decide +kernel
theorem w_applies : (headSpec (Jvm.Cond.code x code maxLocals ret :: tables_1) room_1).applies x e0.platform about1 = true :=
  (Spec.applies_iff w_frames).mpr ⟨w_running, w_runnable, w_alone, w_named, w_hears, w_ripe, w_room, w_tables⟩
theorem atStart : AtStart classFile x code maxLocals ret World_1 tables_1 room_1 Calls_1 rest_1 Pre_1 launch0 p0 e0 about1 theMethod args0 below0 :=
  ⟨lists_1, trivial, launch0.admits_env _ _ _, launch0.least_env, fairChoices_fair.cas, fairChoices_fair.clock, w_frames, w_args, w_heap, w_applies, trivial, trivial, w_case⟩
end start1
theorem witness_1 : WitnessClaimed_1 := ⟨start1.p0, start1.e0, start1.about1, start1.theMethod, start1.args0, start1.below0, start1.atStart⟩
end Jvm.Pilot.@@N@@
