import JvmDerived
import JvmDerived.Pilot.@@N@@Statement
import JvmDerived.Pilot.@@N@@Code
set_option linter.unusedVariables false
set_option linter.unusedSimpArgs false
namespace Jvm.RoadKit
open Sem ClassFile Op Lib Jvm.Stand Jvm.Free Jvm.LawKit
section New
variable {p : Program} {l : Launch} {e : Env} {R : Room} {s : State} {m : MethodId} {args : Array Value} {below : List Frame} {meth : Method} {c : Code} {T : State} {locs : List Loc} {cells slots : Nat}
theorem retI (X : Stand p l e R s m args below meth c T locs cells slots) (hx : p.tables.exec = Jvm.exec) {pc : Nat} {Ls : Array Slot} {z : Int32} {rest : List Value} (hret : meth.sig.returnType = some .int) (hd : decode c.code pc = .ok (.ireturn, 1)) {fs : List Frame}
    (hl : ∀ (f : JFrame) (acts : List Action), f.method = m → f.locked = none → f.entered = [] → (doReturn e (T.setTop f) acts (some (.int z))).1 = T.setFrames fs) : Steps p.tables e below (T.setTop (mkF m pc Ls (.int z :: rest))) (T.setFrames fs) := by
  have hm' : T.vm.method? m = some meth := X.method'
  have hn : narrow .int (.int z) = .int z := rfl
  show Steps p.tables e below (T.setTop { method := m, pc := pc, locals := Ls, stack := _ :: rest, locked := none }) _
  jvm_step X.here [X.here.top, hx, hd, hm', hret, hn]
  first | (intro acts; rw [hl _ acts rfl rfl rfl]) | rw [hl _ _ rfl rfl rfl]
  exact Steps.refl _
end New
end Jvm.RoadKit
namespace Jvm.Pilot.@@N@@
open Jvm Jvm.ClassFile Sem Op Lib Jvm.Free Jvm.Stand Jvm.LawKit Jvm.RoadKit Bundle Jvm.Pilot.@@N@@.Jvm.D
/-- from the state A the run comes to the frame f over T -/
abbrev Go (tb : Tables) (e : Env) (below : List Frame) (A T : State) (f : JFrame) : Prop := ∀ t, Steps tb e below (T.setTop f) t → Steps tb e below A t

section OwnPriv
variable {p : Program} {l : Launch} {e : Env} {R : Room} {s : State} {m : MethodId} {args : Array Value} {below : List Frame} {meth : Method} {c : Code} {T : State} {locs : List Loc} {cells slots : Nat}
/-- a private method called by invokevirtual, where the sheet's 'selects' speaks of another method of its class -/
theorem own_private (X : Stand p l e R s m args below meth c T locs cells slots) (hexec : p.tables.exec = Jvm.exec) {own C : String} {index : Nat} {y y' z' : MethodName} {bytes : ByteArray} {maxL : Nat} {ret : Option FieldType}
    (hown : s.vm.findClass own = some m.cls) (hlink : (Jvm.Cond.methodLink own index y).before args s = true) (hinst : (Jvm.Cond.instanceMethod y).before args s = true) (hsel : (Jvm.Cond.selects C y' z').before args s = true) (hzc : z'.cls = y.cls)
    (hpriv : s.PrivateAt y) (hcode : (Jvm.Cond.code y bytes maxL ret).before args s = true) (hy : y.cls ≠ "java/lang/invoke/MethodHandle" ∧ y.cls ≠ "java/lang/invoke/VarHandle")
    {W : Nat} {Pre : Pt → Array Value → Prop} {Post : Pt → Array Value → Option Value → Pt → Prop} (hK : Back l R p e below s args y 3 W Pre Post)
    {a : Addr} {cell : Cell} (hcell : T.heap[a]? = some cell) (hobj : ∀ q, cell.vm ≠ .statics q) {g : JFrame} (hg : g.method = m) (hsize : g.locals.size = c.maxLocals)
    {argsL rest : List Value} (hlen : ∀ sig, parseMethodDescriptor y.desc = some sig → argsL.length = sig.parameters.length)
    (hstack : g.stack = argsL.reverse ++ .ref a :: rest) (hW : 2 * g.monitorRoom + (rest.map fun v => v.category).sum ≤ W) (hdg : decode c.code g.pc = .ok (.invokevirtual index, 3))
    (hpre : ∀ vm₁, s.WarmedH vm₁ → Pre ⟨T.setVm vm₁, locs, cells, slots⟩ (.ref a :: argsL).toArray) :
    ∃ (v : Option Value) (vm₁ : Vm) (B : Pt), s.WarmedH vm₁ ∧ Stand p l e R s m args below meth c B.U B.locs B.cells B.slots ∧ Post ⟨T.setVm vm₁, locs, cells, slots⟩ (.ref a :: argsL).toArray v B ∧
      ∀ target, Steps p.tables e below (B.U.setTop { g with pc := g.pc + 3, stack := v.toList ++ rest }) target → Steps p.tables e below (T.setTop g) target := by
  obtain ⟨mk, methM, hnamed, hmethM, hstM, habM⟩ := Cond.instanceMethod_spec hinst
  obtain ⟨methC, cM, hmethC, -, -, -, -, -, -, hsigM⟩ := Cond.code_spec hnamed hcode
  cases hmethM.symm.trans hmethC
  obtain ⟨-, -, m2, -, -, hnz, -, kP, hkz, hki⟩ := Cond.selects_spec hsel
  have i1 := findClass_of_methodNamed hnamed
  have i2 := findClass_of_methodNamed hnz
  rw [hzc] at i2
  have i3 : mk.cls = m2.cls := Option.some.inj (i1.symm.trans i2)
  have hkP : s.vm.classes[mk.cls]? = some kP := by rw [i3]; exact hkz
  have hs1 : selectMethod e.platform s.vm cell.cls mk = .method mk := selectMethod_private hmethM (hpriv mk methM hnamed hmethM)
  obtain ⟨vm₁, X₁, go₁⟩ := X.invokevirtual hexec hown hlink hnamed hmethM hstM hkP hki hy (a := a) (cell := cell) hcell hobj hs1 hmethM habM hkP hki (g := g) hg (argsL := argsL) (rest := rest) (hlen _ hsigM) hstack hdg
  obtain ⟨v, B, X', hpost, hsteps⟩ := hK m meth c ⟨T.setVm vm₁, locs, cells, slots⟩ { g with stack := rest } (.invokevirtual index) mk (Value.ref a :: argsL).toArray X₁ hg hsize hdg hW (X₁.named hnamed) (hpre vm₁ X₁.warmed)
  exact ⟨v, vm₁, B, X₁.warmed, X', hpost, fun target h => go₁ _ fun acts => by rw [doInvoke_state]; exact hsteps.trans h⟩
end OwnPriv

abbrev own_T := Int32 × Int32 × Int32 × Int32 × Int32 × Int32
def own_u (i j v x : Int32) : Int32 := if j = i then v else x
def own_g (j a b c : Int32) : Int32 := if j = 0 then a else if j = 1 then b else c
def own_pl (page q : Int32) (t : own_T) : own_T := (own_u 0 q page t.1, own_u 1 q page t.2.1, own_u 2 q page t.2.2.1, own_u 0 page q t.2.2.2.1, own_u 1 page q t.2.2.2.2.1, own_u 2 page q t.2.2.2.2.2)
def own_gx (q : Int32) (t : own_T) : Int32 := own_g q t.1 t.2.1 t.2.2.1
def own_gy (q : Int32) (t : own_T) : Int32 := own_g q t.2.2.2.1 t.2.2.2.2.1 t.2.2.2.2.2
def own_s0 (q : Int32) (t : own_T) : own_T := own_pl (own_gx q t) q t
def own_s1 (q : Int32) (t : own_T) : own_T := own_pl (own_gx q t) 0 (own_pl t.1 q t)
def own_d1 (t : own_T) : own_T := own_pl t.1 1 (own_pl t.2.1 0 t)
def own_m (k : Int32) (t : own_T) : own_T := (t.1, t.2.1, t.2.2.1, own_u 0 k (-1) t.2.2.2.1, own_u 1 k (-1) t.2.2.2.2.1, own_u 2 k (-1) t.2.2.2.2.2)
def own_cnt (a b c : Bool) : Int32 := (if a then 1 else 0) + (if b then 1 else 0) + (if c then 1 else 0)
def own_S : Bool → Bool → Bool → List own_T
  | false, false, false => [(0, 0, 0, -1, -1, -1), (0, 0, 1, -1, -1, -1), (0, 0, 2, -1, -1, -1), (0, 1, 0, -1, -1, -1), (0, 1, 1, -1, -1, -1), (0, 1, 2, -1, -1, -1), (0, 2, 0, -1, -1, -1), (0, 2, 1, -1, -1, -1), (0, 2, 2, -1, -1, -1), (1, 0, 0, -1, -1, -1), (1, 0, 1, -1, -1, -1), (1, 0, 2, -1, -1, -1), (1, 1, 0, -1, -1, -1), (1, 1, 1, -1, -1, -1), (1, 1, 2, -1, -1, -1), (1, 2, 0, -1, -1, -1), (1, 2, 1, -1, -1, -1), (1, 2, 2, -1, -1, -1), (2, 0, 0, -1, -1, -1), (2, 0, 1, -1, -1, -1), (2, 0, 2, -1, -1, -1), (2, 1, 0, -1, -1, -1), (2, 1, 1, -1, -1, -1), (2, 1, 2, -1, -1, -1), (2, 2, 0, -1, -1, -1), (2, 2, 1, -1, -1, -1), (2, 2, 2, -1, -1, -1)]
  | true, false, false => [(0, 0, 0, 0, -1, -1), (0, 0, 1, 0, -1, -1), (0, 0, 2, 0, -1, -1), (0, 1, 0, 0, -1, -1), (0, 1, 1, 0, -1, -1), (0, 1, 2, 0, -1, -1), (0, 2, 0, 0, -1, -1), (0, 2, 1, 0, -1, -1), (0, 2, 2, 0, -1, -1)]
  | false, true, false => [(1, 0, 0, -1, 0, -1), (1, 0, 1, -1, 0, -1), (1, 0, 2, -1, 0, -1), (1, 1, 0, -1, 0, -1), (1, 1, 1, -1, 0, -1), (1, 1, 2, -1, 0, -1), (1, 2, 0, -1, 0, -1), (1, 2, 1, -1, 0, -1), (1, 2, 2, -1, 0, -1)]
  | false, false, true => [(2, 0, 0, -1, -1, 0), (2, 0, 1, -1, -1, 0), (2, 0, 2, -1, -1, 0), (2, 1, 0, -1, -1, 0), (2, 1, 1, -1, -1, 0), (2, 1, 2, -1, -1, 0), (2, 2, 0, -1, -1, 0), (2, 2, 1, -1, -1, 0), (2, 2, 2, -1, -1, 0)]
  | true, true, false => [(0, 1, 0, 0, 1, -1), (0, 1, 1, 0, 1, -1), (0, 1, 2, 0, 1, -1), (1, 0, 0, 1, 0, -1), (1, 0, 1, 1, 0, -1), (1, 0, 2, 1, 0, -1)]
  | true, false, true => [(0, 2, 0, 0, -1, 1), (0, 2, 1, 0, -1, 1), (0, 2, 2, 0, -1, 1), (2, 0, 0, 1, -1, 0), (2, 0, 1, 1, -1, 0), (2, 0, 2, 1, -1, 0)]
  | false, true, true => [(1, 2, 0, -1, 0, 1), (1, 2, 1, -1, 0, 1), (1, 2, 2, -1, 0, 1), (2, 1, 0, -1, 1, 0), (2, 1, 1, -1, 1, 0), (2, 1, 2, -1, 1, 0)]
  | true, true, true => [(0, 1, 2, 0, 1, 2), (0, 2, 1, 0, 2, 1), (1, 0, 2, 1, 0, 2), (1, 2, 0, 2, 0, 1), (2, 0, 1, 1, 2, 0), (2, 1, 0, 2, 1, 0)]
def own_bd (x : Int32) : Prop := ¬ x < 0 ∧ x < 3
instance (x : Int32) : Decidable (own_bd x) := inferInstanceAs (Decidable (¬ x < 0 ∧ x < 3))
theorem own_ur {i j v x : Int32} (hv : own_bd v) (hx : own_bd x) : own_bd (own_u i j v x) := by unfold own_u; split <;> assumption
theorem own_gr {j a b c : Int32} (ha : own_bd a) (hb : own_bd b) (hc : own_bd c) : own_bd (own_g j a b c) := by unfold own_g; split <;> (try split) <;> assumption
theorem own_012 {x : Int32} (h : own_bd x) : x = 0 ∨ x = 1 ∨ x = 2 := by
  obtain ⟨h1, h2⟩ := h
  rw [Int32.lt_iff_toInt_lt, show (0 : Int32).toInt = 0 from rfl] at h1
  rw [Int32.lt_iff_toInt_lt, show (3 : Int32).toInt = 3 from rfl] at h2
  simp only [← Int32.toInt_inj, show (0 : Int32).toInt = 0 from rfl, show (1 : Int32).toInt = 1 from rfl, show (2 : Int32).toInt = 2 from rfl]
  omega
theorem own_get {j a b c : Int32} {dv : Value} (h : own_bd j) : ([.int a, .int b, .int c] : List Value).getD j.toNatClampNeg dv = .int (own_g j a b c) := by rcases own_012 h with rfl | rfl | rfl <;> rfl
def own_gd (j : Int32) (a b c : UInt64) : UInt64 := if j = 0 then a else if j = 1 then b else c
theorem own_getd {j : Int32} {a b c : UInt64} {dv : Value} (h : own_bd j) : ([.double a, .double b, .double c] : List Value).getD j.toNatClampNeg dv = .double (own_gd j a b c) := by rcases own_012 h with rfl | rfl | rfl <;> rfl
theorem own_setA {Z : State} {h h' : Heap} {a : Addr} {k : ClassId} {z : Int32} {x0 x1 x2 v j : Int32} {dv : Value} {c : Cell} (A : Arr Z h a c .int) (q1 : c.cls = k) (S : c.slots.size = z.toNatClampNeg) (q3 : ¬ z < 0) (H : Has c [.int x0, .int x1, .int x2] dv) (G : ∀ i, i < c.slots.size → fits .int (([.int x0, .int x1, .int x2] : List Value).getD i dv) = true) (W : Wr h h' a j.toNatClampNeg (.int v)) (hj : own_bd j) : Arv Z h' a k .int z [.int (own_u 0 j v x0), .int (own_u 1 j v x1), .int (own_u 2 j v x2)] dv := by
  rcases own_012 hj with rfl | rfl | rfl
  · exact Arv.set A q1 S q3 H G rfl W 0 rfl (Nat.le_of_ble_eq_true rfl)
  · exact Arv.set A q1 S q3 H G rfl W 1 rfl (Nat.le_of_ble_eq_true rfl)
  · exact Arv.set A q1 S q3 H G rfl W 2 rfl (Nat.le_of_ble_eq_true rfl)
theorem own_rng : ∀ a b c : Bool, ∀ t ∈ own_S a b c, own_bd t.1 ∧ own_bd t.2.1 ∧ own_bd t.2.2.1 := by decide +kernel
theorem own_cbd : ∀ a b c : Bool, own_cnt a b c = 0 ∨ own_cnt a b c = 1 ∨ own_cnt a b c = 2 ∨ own_cnt a b c = 3 := by decide +kernel
theorem own_ac0 : ∀ b1 b2 : Bool, own_bd (own_cnt false b1 b2) ∧ own_cnt false b1 b2 + 1 = own_cnt true b1 b2 := by decide +kernel
theorem own_a0 : ∀ b1 b2 : Bool, ∀ t ∈ own_S false b1 b2, own_s0 (own_cnt false b1 b2) (own_pl 0 (own_cnt false b1 b2) t) ∈ own_S true b1 b2 ∧ (0 < own_cnt false b1 b2 → own_s1 (own_cnt false b1 b2) (own_pl 0 (own_cnt false b1 b2) t) ∈ own_S true b1 b2) := by decide +kernel
theorem own_rc0 : ∀ b1 b2 : Bool, own_bd (own_cnt true b1 b2 - 1) ∧ own_cnt true b1 b2 - 1 = own_cnt false b1 b2 := by decide +kernel
theorem own_ry0 : ∀ b1 b2 : Bool, ∀ t ∈ own_S true b1 b2, own_bd (own_gy 0 t) := by decide +kernel
theorem own_re0 : ∀ b1 b2 : Bool, ∀ t ∈ own_S true b1 b2, own_gx (own_cnt true b1 b2 - 1) t = 0 → own_m 0 t ∈ own_S false b1 b2 := by decide +kernel
theorem own_rn0 : ∀ b1 b2 : Bool, ∀ t ∈ own_S true b1 b2, ¬ own_gx (own_cnt true b1 b2 - 1) t = 0 → (own_cnt true b1 b2 - 1 = 1 ∨ own_cnt true b1 b2 - 1 = 2) := by decide +kernel
theorem own_r0a0 : ∀ b1 b2 : Bool, ∀ t ∈ own_S true b1 b2, ¬ own_gx (own_cnt true b1 b2 - 1) t = 0 → (own_bd (own_s0 (own_gy 0 t) (own_pl (own_gx (own_cnt true b1 b2 - 1) t) (own_gy 0 t) (own_m 0 t))).1 ∧ own_bd (own_s0 (own_gy 0 t) (own_pl (own_gx (own_cnt true b1 b2 - 1) t) (own_gy 0 t) (own_m 0 t))).2.1 ∧ own_bd (own_s0 (own_gy 0 t) (own_pl (own_gx (own_cnt true b1 b2 - 1) t) (own_gy 0 t) (own_m 0 t))).2.2.1) := by decide +kernel
theorem own_r0b0 : ∀ b1 b2 : Bool, ∀ t ∈ own_S true b1 b2, ¬ own_gx (own_cnt true b1 b2 - 1) t = 0 → own_bd (own_gy (own_gx (own_cnt true b1 b2 - 1) t) (own_s0 (own_gy 0 t) (own_pl (own_gx (own_cnt true b1 b2 - 1) t) (own_gy 0 t) (own_m 0 t)))) := by decide +kernel
theorem own_r0c0 : ∀ b1 b2 : Bool, ∀ t ∈ own_S true b1 b2, ¬ own_gx (own_cnt true b1 b2 - 1) t = 0 → own_s0 (own_gy (own_gx (own_cnt true b1 b2 - 1) t) (own_s0 (own_gy 0 t) (own_pl (own_gx (own_cnt true b1 b2 - 1) t) (own_gy 0 t) (own_m 0 t)))) (own_s0 (own_gy 0 t) (own_pl (own_gx (own_cnt true b1 b2 - 1) t) (own_gy 0 t) (own_m 0 t))) ∈ own_S false b1 b2 := by decide +kernel
theorem own_r0d0 : ∀ b1 b2 : Bool, ∀ t ∈ own_S true b1 b2, ¬ own_gx (own_cnt true b1 b2 - 1) t = 0 → (own_gy (own_gx (own_cnt true b1 b2 - 1) t) (own_s0 (own_gy 0 t) (own_pl (own_gx (own_cnt true b1 b2 - 1) t) (own_gy 0 t) (own_m 0 t))) = 0 → own_cnt true b1 b2 - 1 = 2 → own_d1 (own_s0 (own_gy 0 t) (own_pl (own_gx (own_cnt true b1 b2 - 1) t) (own_gy 0 t) (own_m 0 t))) ∈ own_S false b1 b2) := by decide +kernel
theorem own_r1a0 : ∀ b1 b2 : Bool, ∀ t ∈ own_S true b1 b2, ¬ own_gx (own_cnt true b1 b2 - 1) t = 0 → 0 < own_gy 0 t → (own_bd (own_s1 (own_gy 0 t) (own_pl (own_gx (own_cnt true b1 b2 - 1) t) (own_gy 0 t) (own_m 0 t))).1 ∧ own_bd (own_s1 (own_gy 0 t) (own_pl (own_gx (own_cnt true b1 b2 - 1) t) (own_gy 0 t) (own_m 0 t))).2.1 ∧ own_bd (own_s1 (own_gy 0 t) (own_pl (own_gx (own_cnt true b1 b2 - 1) t) (own_gy 0 t) (own_m 0 t))).2.2.1) := by decide +kernel
theorem own_r1b0 : ∀ b1 b2 : Bool, ∀ t ∈ own_S true b1 b2, ¬ own_gx (own_cnt true b1 b2 - 1) t = 0 → 0 < own_gy 0 t → own_bd (own_gy (own_gx (own_cnt true b1 b2 - 1) t) (own_s1 (own_gy 0 t) (own_pl (own_gx (own_cnt true b1 b2 - 1) t) (own_gy 0 t) (own_m 0 t)))) := by decide +kernel
theorem own_r1c0 : ∀ b1 b2 : Bool, ∀ t ∈ own_S true b1 b2, ¬ own_gx (own_cnt true b1 b2 - 1) t = 0 → 0 < own_gy 0 t → own_s0 (own_gy (own_gx (own_cnt true b1 b2 - 1) t) (own_s1 (own_gy 0 t) (own_pl (own_gx (own_cnt true b1 b2 - 1) t) (own_gy 0 t) (own_m 0 t)))) (own_s1 (own_gy 0 t) (own_pl (own_gx (own_cnt true b1 b2 - 1) t) (own_gy 0 t) (own_m 0 t))) ∈ own_S false b1 b2 := by decide +kernel
theorem own_r1d0 : ∀ b1 b2 : Bool, ∀ t ∈ own_S true b1 b2, ¬ own_gx (own_cnt true b1 b2 - 1) t = 0 → 0 < own_gy 0 t → (own_gy (own_gx (own_cnt true b1 b2 - 1) t) (own_s1 (own_gy 0 t) (own_pl (own_gx (own_cnt true b1 b2 - 1) t) (own_gy 0 t) (own_m 0 t))) = 0 → own_cnt true b1 b2 - 1 = 2 → own_d1 (own_s1 (own_gy 0 t) (own_pl (own_gx (own_cnt true b1 b2 - 1) t) (own_gy 0 t) (own_m 0 t))) ∈ own_S false b1 b2) := by decide +kernel
theorem own_ac1 : ∀ b0 b2 : Bool, own_bd (own_cnt b0 false b2) ∧ own_cnt b0 false b2 + 1 = own_cnt b0 true b2 := by decide +kernel
theorem own_a1 : ∀ b0 b2 : Bool, ∀ t ∈ own_S b0 false b2, own_s0 (own_cnt b0 false b2) (own_pl 1 (own_cnt b0 false b2) t) ∈ own_S b0 true b2 ∧ (0 < own_cnt b0 false b2 → own_s1 (own_cnt b0 false b2) (own_pl 1 (own_cnt b0 false b2) t) ∈ own_S b0 true b2) := by decide +kernel
theorem own_rc1 : ∀ b0 b2 : Bool, own_bd (own_cnt b0 true b2 - 1) ∧ own_cnt b0 true b2 - 1 = own_cnt b0 false b2 := by decide +kernel
theorem own_ry1 : ∀ b0 b2 : Bool, ∀ t ∈ own_S b0 true b2, own_bd (own_gy 1 t) := by decide +kernel
theorem own_re1 : ∀ b0 b2 : Bool, ∀ t ∈ own_S b0 true b2, own_gx (own_cnt b0 true b2 - 1) t = 1 → own_m 1 t ∈ own_S b0 false b2 := by decide +kernel
theorem own_rn1 : ∀ b0 b2 : Bool, ∀ t ∈ own_S b0 true b2, ¬ own_gx (own_cnt b0 true b2 - 1) t = 1 → (own_cnt b0 true b2 - 1 = 1 ∨ own_cnt b0 true b2 - 1 = 2) := by decide +kernel
theorem own_r0a1 : ∀ b0 b2 : Bool, ∀ t ∈ own_S b0 true b2, ¬ own_gx (own_cnt b0 true b2 - 1) t = 1 → (own_bd (own_s0 (own_gy 1 t) (own_pl (own_gx (own_cnt b0 true b2 - 1) t) (own_gy 1 t) (own_m 1 t))).1 ∧ own_bd (own_s0 (own_gy 1 t) (own_pl (own_gx (own_cnt b0 true b2 - 1) t) (own_gy 1 t) (own_m 1 t))).2.1 ∧ own_bd (own_s0 (own_gy 1 t) (own_pl (own_gx (own_cnt b0 true b2 - 1) t) (own_gy 1 t) (own_m 1 t))).2.2.1) := by decide +kernel
theorem own_r0b1 : ∀ b0 b2 : Bool, ∀ t ∈ own_S b0 true b2, ¬ own_gx (own_cnt b0 true b2 - 1) t = 1 → own_bd (own_gy (own_gx (own_cnt b0 true b2 - 1) t) (own_s0 (own_gy 1 t) (own_pl (own_gx (own_cnt b0 true b2 - 1) t) (own_gy 1 t) (own_m 1 t)))) := by decide +kernel
theorem own_r0c1 : ∀ b0 b2 : Bool, ∀ t ∈ own_S b0 true b2, ¬ own_gx (own_cnt b0 true b2 - 1) t = 1 → own_s0 (own_gy (own_gx (own_cnt b0 true b2 - 1) t) (own_s0 (own_gy 1 t) (own_pl (own_gx (own_cnt b0 true b2 - 1) t) (own_gy 1 t) (own_m 1 t)))) (own_s0 (own_gy 1 t) (own_pl (own_gx (own_cnt b0 true b2 - 1) t) (own_gy 1 t) (own_m 1 t))) ∈ own_S b0 false b2 := by decide +kernel
theorem own_r0d1 : ∀ b0 b2 : Bool, ∀ t ∈ own_S b0 true b2, ¬ own_gx (own_cnt b0 true b2 - 1) t = 1 → (own_gy (own_gx (own_cnt b0 true b2 - 1) t) (own_s0 (own_gy 1 t) (own_pl (own_gx (own_cnt b0 true b2 - 1) t) (own_gy 1 t) (own_m 1 t))) = 0 → own_cnt b0 true b2 - 1 = 2 → own_d1 (own_s0 (own_gy 1 t) (own_pl (own_gx (own_cnt b0 true b2 - 1) t) (own_gy 1 t) (own_m 1 t))) ∈ own_S b0 false b2) := by decide +kernel
theorem own_r1a1 : ∀ b0 b2 : Bool, ∀ t ∈ own_S b0 true b2, ¬ own_gx (own_cnt b0 true b2 - 1) t = 1 → 0 < own_gy 1 t → (own_bd (own_s1 (own_gy 1 t) (own_pl (own_gx (own_cnt b0 true b2 - 1) t) (own_gy 1 t) (own_m 1 t))).1 ∧ own_bd (own_s1 (own_gy 1 t) (own_pl (own_gx (own_cnt b0 true b2 - 1) t) (own_gy 1 t) (own_m 1 t))).2.1 ∧ own_bd (own_s1 (own_gy 1 t) (own_pl (own_gx (own_cnt b0 true b2 - 1) t) (own_gy 1 t) (own_m 1 t))).2.2.1) := by decide +kernel
theorem own_r1b1 : ∀ b0 b2 : Bool, ∀ t ∈ own_S b0 true b2, ¬ own_gx (own_cnt b0 true b2 - 1) t = 1 → 0 < own_gy 1 t → own_bd (own_gy (own_gx (own_cnt b0 true b2 - 1) t) (own_s1 (own_gy 1 t) (own_pl (own_gx (own_cnt b0 true b2 - 1) t) (own_gy 1 t) (own_m 1 t)))) := by decide +kernel
theorem own_r1c1 : ∀ b0 b2 : Bool, ∀ t ∈ own_S b0 true b2, ¬ own_gx (own_cnt b0 true b2 - 1) t = 1 → 0 < own_gy 1 t → own_s0 (own_gy (own_gx (own_cnt b0 true b2 - 1) t) (own_s1 (own_gy 1 t) (own_pl (own_gx (own_cnt b0 true b2 - 1) t) (own_gy 1 t) (own_m 1 t)))) (own_s1 (own_gy 1 t) (own_pl (own_gx (own_cnt b0 true b2 - 1) t) (own_gy 1 t) (own_m 1 t))) ∈ own_S b0 false b2 := by decide +kernel
theorem own_r1d1 : ∀ b0 b2 : Bool, ∀ t ∈ own_S b0 true b2, ¬ own_gx (own_cnt b0 true b2 - 1) t = 1 → 0 < own_gy 1 t → (own_gy (own_gx (own_cnt b0 true b2 - 1) t) (own_s1 (own_gy 1 t) (own_pl (own_gx (own_cnt b0 true b2 - 1) t) (own_gy 1 t) (own_m 1 t))) = 0 → own_cnt b0 true b2 - 1 = 2 → own_d1 (own_s1 (own_gy 1 t) (own_pl (own_gx (own_cnt b0 true b2 - 1) t) (own_gy 1 t) (own_m 1 t))) ∈ own_S b0 false b2) := by decide +kernel
theorem own_ac2 : ∀ b0 b1 : Bool, own_bd (own_cnt b0 b1 false) ∧ own_cnt b0 b1 false + 1 = own_cnt b0 b1 true := by decide +kernel
theorem own_a2 : ∀ b0 b1 : Bool, ∀ t ∈ own_S b0 b1 false, own_s0 (own_cnt b0 b1 false) (own_pl 2 (own_cnt b0 b1 false) t) ∈ own_S b0 b1 true ∧ (0 < own_cnt b0 b1 false → own_s1 (own_cnt b0 b1 false) (own_pl 2 (own_cnt b0 b1 false) t) ∈ own_S b0 b1 true) := by decide +kernel
theorem own_rc2 : ∀ b0 b1 : Bool, own_bd (own_cnt b0 b1 true - 1) ∧ own_cnt b0 b1 true - 1 = own_cnt b0 b1 false := by decide +kernel
theorem own_ry2 : ∀ b0 b1 : Bool, ∀ t ∈ own_S b0 b1 true, own_bd (own_gy 2 t) := by decide +kernel
theorem own_re2 : ∀ b0 b1 : Bool, ∀ t ∈ own_S b0 b1 true, own_gx (own_cnt b0 b1 true - 1) t = 2 → own_m 2 t ∈ own_S b0 b1 false := by decide +kernel
theorem own_rn2 : ∀ b0 b1 : Bool, ∀ t ∈ own_S b0 b1 true, ¬ own_gx (own_cnt b0 b1 true - 1) t = 2 → (own_cnt b0 b1 true - 1 = 1 ∨ own_cnt b0 b1 true - 1 = 2) := by decide +kernel
theorem own_r0a2 : ∀ b0 b1 : Bool, ∀ t ∈ own_S b0 b1 true, ¬ own_gx (own_cnt b0 b1 true - 1) t = 2 → (own_bd (own_s0 (own_gy 2 t) (own_pl (own_gx (own_cnt b0 b1 true - 1) t) (own_gy 2 t) (own_m 2 t))).1 ∧ own_bd (own_s0 (own_gy 2 t) (own_pl (own_gx (own_cnt b0 b1 true - 1) t) (own_gy 2 t) (own_m 2 t))).2.1 ∧ own_bd (own_s0 (own_gy 2 t) (own_pl (own_gx (own_cnt b0 b1 true - 1) t) (own_gy 2 t) (own_m 2 t))).2.2.1) := by decide +kernel
theorem own_r0b2 : ∀ b0 b1 : Bool, ∀ t ∈ own_S b0 b1 true, ¬ own_gx (own_cnt b0 b1 true - 1) t = 2 → own_bd (own_gy (own_gx (own_cnt b0 b1 true - 1) t) (own_s0 (own_gy 2 t) (own_pl (own_gx (own_cnt b0 b1 true - 1) t) (own_gy 2 t) (own_m 2 t)))) := by decide +kernel
theorem own_r0c2 : ∀ b0 b1 : Bool, ∀ t ∈ own_S b0 b1 true, ¬ own_gx (own_cnt b0 b1 true - 1) t = 2 → own_s0 (own_gy (own_gx (own_cnt b0 b1 true - 1) t) (own_s0 (own_gy 2 t) (own_pl (own_gx (own_cnt b0 b1 true - 1) t) (own_gy 2 t) (own_m 2 t)))) (own_s0 (own_gy 2 t) (own_pl (own_gx (own_cnt b0 b1 true - 1) t) (own_gy 2 t) (own_m 2 t))) ∈ own_S b0 b1 false := by decide +kernel
theorem own_r0d2 : ∀ b0 b1 : Bool, ∀ t ∈ own_S b0 b1 true, ¬ own_gx (own_cnt b0 b1 true - 1) t = 2 → (own_gy (own_gx (own_cnt b0 b1 true - 1) t) (own_s0 (own_gy 2 t) (own_pl (own_gx (own_cnt b0 b1 true - 1) t) (own_gy 2 t) (own_m 2 t))) = 0 → own_cnt b0 b1 true - 1 = 2 → own_d1 (own_s0 (own_gy 2 t) (own_pl (own_gx (own_cnt b0 b1 true - 1) t) (own_gy 2 t) (own_m 2 t))) ∈ own_S b0 b1 false) := by decide +kernel
theorem own_r1a2 : ∀ b0 b1 : Bool, ∀ t ∈ own_S b0 b1 true, ¬ own_gx (own_cnt b0 b1 true - 1) t = 2 → 0 < own_gy 2 t → (own_bd (own_s1 (own_gy 2 t) (own_pl (own_gx (own_cnt b0 b1 true - 1) t) (own_gy 2 t) (own_m 2 t))).1 ∧ own_bd (own_s1 (own_gy 2 t) (own_pl (own_gx (own_cnt b0 b1 true - 1) t) (own_gy 2 t) (own_m 2 t))).2.1 ∧ own_bd (own_s1 (own_gy 2 t) (own_pl (own_gx (own_cnt b0 b1 true - 1) t) (own_gy 2 t) (own_m 2 t))).2.2.1) := by decide +kernel
theorem own_r1b2 : ∀ b0 b1 : Bool, ∀ t ∈ own_S b0 b1 true, ¬ own_gx (own_cnt b0 b1 true - 1) t = 2 → 0 < own_gy 2 t → own_bd (own_gy (own_gx (own_cnt b0 b1 true - 1) t) (own_s1 (own_gy 2 t) (own_pl (own_gx (own_cnt b0 b1 true - 1) t) (own_gy 2 t) (own_m 2 t)))) := by decide +kernel
theorem own_r1c2 : ∀ b0 b1 : Bool, ∀ t ∈ own_S b0 b1 true, ¬ own_gx (own_cnt b0 b1 true - 1) t = 2 → 0 < own_gy 2 t → own_s0 (own_gy (own_gx (own_cnt b0 b1 true - 1) t) (own_s1 (own_gy 2 t) (own_pl (own_gx (own_cnt b0 b1 true - 1) t) (own_gy 2 t) (own_m 2 t)))) (own_s1 (own_gy 2 t) (own_pl (own_gx (own_cnt b0 b1 true - 1) t) (own_gy 2 t) (own_m 2 t))) ∈ own_S b0 b1 false := by decide +kernel
theorem own_r1d2 : ∀ b0 b1 : Bool, ∀ t ∈ own_S b0 b1 true, ¬ own_gx (own_cnt b0 b1 true - 1) t = 2 → 0 < own_gy 2 t → (own_gy (own_gx (own_cnt b0 b1 true - 1) t) (own_s1 (own_gy 2 t) (own_pl (own_gx (own_cnt b0 b1 true - 1) t) (own_gy 2 t) (own_m 2 t))) = 0 → own_cnt b0 b1 true - 1 = 2 → own_d1 (own_s1 (own_gy 2 t) (own_pl (own_gx (own_cnt b0 b1 true - 1) t) (own_gy 2 t) (own_m 2 t))) ∈ own_S b0 b1 false) := by decide +kernel
theorem own_memU {S : List own_T} {A B z : own_T} {c : Prop} (h : A ∈ S ∧ (c → B ∈ S)) (hz : z = A ∨ (c ∧ z = B)) : z ∈ S := by
  rcases hz with rfl | ⟨hc, rfl⟩
  · exact h.1
  · exact h.2 hc
theorem own_memD {S : List own_T} {A B u : own_T} {c1 c2 : Prop} (c : A ∈ S) (d : c1 → c2 → B ∈ S) (h : u = A ∨ (c1 ∧ c2 ∧ u = B)) : u ∈ S := by
  rcases h with rfl | ⟨h1, h2, rfl⟩
  · exact c
  · exact d h1 h2
theorem own_via {P : own_T → Prop} {A z : own_T} (h : z = A) (q : P A) : P z := by rw [h]; exact q
def own_e (n : Int32) : Int32 := if n = 0 then 1 else 0
def own_c (y : Int32) : Int32 := if y < 0 then 0 else 1
def own_bi (b : Bool) : Int32 := if b then 1 else 0
theorem own_ct0 : ∀ b0 b1 b2 : Bool, ∀ t ∈ own_S b0 b1 b2, own_c (own_gy 0 t) = own_bi b0 := by decide +kernel
theorem own_ct1 : ∀ b0 b1 b2 : Bool, ∀ t ∈ own_S b0 b1 b2, own_c (own_gy 1 t) = own_bi b1 := by decide +kernel
theorem own_ct2 : ∀ b0 b1 b2 : Bool, ∀ t ∈ own_S b0 b1 b2, own_c (own_gy 2 t) = own_bi b2 := by decide +kernel
theorem own_mod3 (x : Int32) : ((x &&& (2147483647 : Int32)) % (3 : Int32)) = 0 ∨ ((x &&& (2147483647 : Int32)) % (3 : Int32)) = 1 ∨ ((x &&& (2147483647 : Int32)) % (3 : Int32)) = 2 := by
  have h := (c_and x 2147483647 (by decide)).1
  have e := (c_irem (x &&& (2147483647 : Int32)) 3 3 rfl).1 h
  simp only [← Int32.toInt_inj, e, show (0 : Int32).toInt = 0 from rfl, show (1 : Int32).toInt = 1 from rfl, show (2 : Int32).toInt = 2 from rfl]
  omega

theorem own_tf (b : Bool) : b = true ∨ b = false := by cases b <;> simp
theorem pd_0 : parseMethodDescriptor "(II)V" = some ⟨[.int, .int], none⟩ := by decide +kernel
theorem pd_1 : parseMethodDescriptor "(II)Z" = some ⟨[.int, .int], some .boolean⟩ := by decide +kernel
theorem pd_2 : parseMethodDescriptor "(I)V" = some ⟨[.int], none⟩ := by decide +kernel
theorem pd_3 : parseMethodDescriptor "([II)V" = some ⟨[(.array .int), .int], none⟩ := by decide +kernel
theorem pd_4 : parseMethodDescriptor "([D)V" = some ⟨[(.array .double)], none⟩ := by decide +kernel
theorem pd_5 : parseMethodDescriptor "()I" = some ⟨[], some .int⟩ := by decide +kernel
theorem pd_6 : parseMethodDescriptor "(I)Z" = some ⟨[.int], some .boolean⟩ := by decide +kernel
theorem d5_0 : decode prog_17_method_11_code 0 = .ok (.aload_n 0, 1) := by decide +kernel
theorem d5_1 : decode prog_17_method_11_code 1 = .ok (.getfield 13, 3) := by decide +kernel
theorem d5_4 : decode prog_17_method_11_code 4 = .ok (.iload_n 2, 1) := by decide +kernel
theorem d5_5 : decode prog_17_method_11_code 5 = .ok (.iload_n 1, 1) := by decide +kernel
theorem d5_6 : decode prog_17_method_11_code 6 = .ok (.iastore, 1) := by decide +kernel
theorem d5_7 : decode prog_17_method_11_code 7 = .ok (.aload_n 0, 1) := by decide +kernel
theorem d5_8 : decode prog_17_method_11_code 8 = .ok (.getfield 17, 3) := by decide +kernel
theorem d5_11 : decode prog_17_method_11_code 11 = .ok (.iload_n 1, 1) := by decide +kernel
theorem d5_12 : decode prog_17_method_11_code 12 = .ok (.iload_n 2, 1) := by decide +kernel
theorem d5_13 : decode prog_17_method_11_code 13 = .ok (.iastore, 1) := by decide +kernel
theorem d5_14 : decode prog_17_method_11_code 14 = .ok (.return_, 1) := by decide +kernel
theorem pn_plc : plainName "com/example/octopoll/octopoll/PageHeap" = true := by first | (simp [plainName, overriddenIn]; done) | decide +kernel
theorem ef_plc (m : MethodId) (a0 : Addr) (p1 : Int32) (p2 : Int32) : entryFrame m #[(.ref a0), (.int p1), (.int p2)] 3 = mkF m 0 #[.val (.ref a0), .val (.int p1), .val (.int p2)] [] := by first | (simp [entryFrame, mkF, argsToLocals, Value.category]; done) | rfl
def Q_plc (Z : State) (a0 : Addr) (p1 : Int32) (p2 : Int32) (ha : Addr) (pa : Addr) (kh : ClassId) (kp : ClassId) (x0 : Int32) (x1 : Int32) (x2 : Int32) (y0 : Int32) (y1 : Int32) (y2 : Int32) (h0 : Heap) (n0 : Nat) (v : Option Value) (h : Heap) (L : List Loc) : Prop := v = none ∧ Fr n0 L ∧ Keep h0 h [ha, pa] ∧ Arv Z h ha kh .int (3 : Int32) [(.int (own_u 0 p2 p1 x0)), (.int (own_u 1 p2 p1 x1)), (.int (own_u 2 p2 p1 x2))] (.int (0 : Int32)) ∧ Arv Z h pa kp .int (3 : Int32) [(.int (own_u 0 p1 p2 y0)), (.int (own_u 1 p1 p2 y1)), (.int (own_u 2 p1 p2 y2))] (.int (0 : Int32))
set_option maxRecDepth 65536 in
set_option maxHeartbeats 40000000 in
theorem rm_plc (l : Launch) (Z : State) (av0 : Array Value) (hw : ∀ d ∈ tables_1, d.before av0 Z = true) (ws : List Jvm.Cond) (a0 : Addr) (p1 : Int32) (p2 : Int32) (ha : Addr) (pa : Addr) (kh : ClassId) (kp : ClassId) (x0 : Int32) (x1 : Int32) (x2 : Int32) (y0 : Int32) (y1 : Int32) (y2 : Int32) (h0 : Heap) (n0 : Nat) (Z0 : n0 ≤ h0.size) (fi0 : Fld Z h0 a0 "com/example/octopoll/octopoll/PageHeap" "heap" "[I" (.ref ha)) (fi1 : Fld Z h0 a0 "com/example/octopoll/octopoll/PageHeap" "position" "[I" (.ref pa)) (fi2 : Arv Z h0 ha kh .int (3 : Int32) [(.int x0), (.int x1), (.int x2)] (.int (0 : Int32))) (fi3 : Arv Z h0 pa kp .int (3 : Int32) [(.int y0), (.int y1), (.int y2)] (.int (0 : Int32))) (g_ha : n0 ≤ ha) (g_pa : n0 ≤ pa) (ne_a0_ha : a0 ≠ ha) (ne_a0_pa : a0 ≠ pa) (ne_ha_pa : ha ≠ pa) (hb1 : own_bd p1) (hb2 : own_bd p2) :
    MetFree l (⟨"com/example/octopoll/octopoll/PageHeap", "place", "(II)V"⟩ : MethodName) (head1 (Jvm.Cond.code (⟨"com/example/octopoll/octopoll/PageHeap", "place", "(II)V"⟩ : MethodName) prog_17_method_11_code 3 none :: ws) ({ frames := 0, cells := 0, slots := 0, locals := 0 } : Room)) (fun a U => a = #[(.ref a0), (.int p1), (.int p2)] ∧ Z.Warmed39 U.vm ∧ U.heap = h0) (fun _ _ _ _ _ => True) (fun _ U o U' => ∃ v L, o = .returned v ∧ Q_plc Z a0 p1 p2 ha pa kh kp x0 x1 x2 y0 y1 y2 h0 n0 v U'.heap L ∧ FrameEnd U o U' L ({ frames := 0, cells := 0, slots := 0, locals := 0 } : Room).cells ({ frames := 0, cells := 0, slots := 0, locals := 0 } : Room).slots) := by
  refine MetFree.of_bodySF (plainFor_of_name pn_plc) hisR ?_
  intro p e s m args below meth c s₁ Bd hml0 hP hK
  obtain ⟨rfl, hZ, hh⟩ := hP
  have hx := Bd.exec
  have hby := Bd.bytes
  have hml : c.maxLocals = 3 := hml0
  have hown : s.vm.findClass "com/example/octopoll/octopoll/PageHeap" = some m.cls := findClass_of_methodNamed Bd.named
  have hnm := (name_of_methodNamed Bd.named Bd.method).1
  have X0 : Stand p l e ({ frames := 0, cells := 0, slots := 0, locals := 0 } : Room) s m #[(.ref a0), (.int p1), (.int p2)] below meth c s₁ [] 0 0 := Stand.of_body Bd
  have e0 : s₁.heap = h0 := by rw [← hh, Bd.state]; rfl
  have N0 := Fr.nil n0
  have pre0 : Go p.tables e below (s₁.setTop (entryFrame m #[(.ref a0), (.int p1), (.int p2)] 3)) s₁ (mkF m 0 #[.val (.ref a0), .val (.int p1), .val (.int p2)] []) := fun t k => castTop (ef_plc m a0 p1 p2) k
  have K0 : Keep h0 h0 [ha, pa] := Keep.refl _ _
  have pre1 : Go p.tables e below (s₁.setTop (entryFrame m #[(.ref a0), (.int p1), (.int p2)] 3)) s₁ (mkF m 1 #[.val (.ref a0), .val (.int p1), .val (.int p2)] [(.ref a0)]) := fun t k => pre0 t (by
      refine XS.aloadN X0.here hx rfl (hb hby d5_0) rfl rfl ?_
      exact k)
  obtain ⟨T2, X2, e2, st2⟩ := getF X0 hx hZ hown (host := "") (Or.inl (hw _ (List.mem_of_getElem? (i := 13) rfl))) Via.refl e0 fi0 (g := (mkF m 1 #[.val (.ref a0), .val (.int p1), .val (.int p2)] [(.ref a0)])) rfl rfl (hb hby d5_1)
  have pre2 : Go p.tables e below (s₁.setTop (entryFrame m #[(.ref a0), (.int p1), (.int p2)] 3)) T2 (mkF m 4 #[.val (.ref a0), .val (.int p1), .val (.int p2)] [(.ref ha)]) := fun t k => pre1 t (st2 _ k)
  have pre3 : Go p.tables e below (s₁.setTop (entryFrame m #[(.ref a0), (.int p1), (.int p2)] 3)) T2 (mkF m 6 #[.val (.ref a0), .val (.int p1), .val (.int p2)] [(.int p1), (.int p2), (.ref ha)]) := fun t k => pre2 t (by
      refine XS.iloadN X2.here hx rfl (hb hby d5_4) rfl ?_
      show Steps p.tables e below (T2.setTop (mkF m 5 #[.val (.ref a0), .val (.int p1), .val (.int p2)] [(.int p2), (.ref ha)])) _
      refine XS.iloadN X2.here hx rfl (hb hby d5_5) rfl ?_
      exact k)
  obtain ⟨c4, Ar4, q4, S4, M4, H4, G4⟩ := (id fi2)
  have hin4 : ¬ (p2 < 0 ∨ c4.slots.size ≤ (p2).toNatClampNeg) := inb_of S4 hb2
  obtain ⟨T4, h4, X4, e4, W4, st4⟩ := stI X2 hx hZ e2 Ar4 (j := p2) hin4 (g := (mkF m 6 #[.val (.ref a0), .val (.int p1), .val (.int p2)] [(.int p1), (.int p2), (.ref ha)])) rfl rfl (hb hby d5_6)
  have fa4 : Arv Z h4 ha kh .int (3 : Int32) [(.int (own_u 0 p2 p1 x0)), (.int (own_u 1 p2 p1 x1)), (.int (own_u 2 p2 p1 x2))] (.int (0 : Int32)) := own_setA Ar4 q4 S4 M4 H4 G4 W4 hb2
  have N4 := Fr.snoc X4 N0 g_ha
  have f5 : n0 ≤ h4.size := Nat.le_trans Z0 (Keep.of_wr W4).1
  have f6 : Fld Z h4 a0 "com/example/octopoll/octopoll/PageHeap" "heap" "[I" (.ref ha) := fi0.other W4 (Or.inl ne_a0_ha)
  have f7 : Fld Z h4 a0 "com/example/octopoll/octopoll/PageHeap" "position" "[I" (.ref pa) := fi1.other W4 (Or.inl ne_a0_ha)
  have f8 : Arv Z h4 pa kp .int (3 : Int32) [(.int y0), (.int y1), (.int y2)] (.int (0 : Int32)) := fi3.other W4 ne_ha_pa.symm
  have f9 : Keep h0 h4 [ha, pa] := K0.wr W4 (Or.inl (List.mem_of_getElem? (i := 0) rfl))
  have pre4 : Go p.tables e below (s₁.setTop (entryFrame m #[(.ref a0), (.int p1), (.int p2)] 3)) T4 (mkF m 7 #[.val (.ref a0), .val (.int p1), .val (.int p2)] []) := fun t k => pre3 t (st4 _ k)
  have pre10 : Go p.tables e below (s₁.setTop (entryFrame m #[(.ref a0), (.int p1), (.int p2)] 3)) T4 (mkF m 8 #[.val (.ref a0), .val (.int p1), .val (.int p2)] [(.ref a0)]) := fun t k => pre4 t (by
      refine XS.aloadN X4.here hx rfl (hb hby d5_7) rfl rfl ?_
      exact k)
  obtain ⟨T11, X11, e11, st11⟩ := getF X4 hx hZ hown (host := "") (Or.inl (hw _ (List.mem_of_getElem? (i := 15) rfl))) Via.refl e4 f7 (g := (mkF m 8 #[.val (.ref a0), .val (.int p1), .val (.int p2)] [(.ref a0)])) rfl rfl (hb hby d5_8)
  have pre11 : Go p.tables e below (s₁.setTop (entryFrame m #[(.ref a0), (.int p1), (.int p2)] 3)) T11 (mkF m 11 #[.val (.ref a0), .val (.int p1), .val (.int p2)] [(.ref pa)]) := fun t k => pre10 t (st11 _ k)
  have pre12 : Go p.tables e below (s₁.setTop (entryFrame m #[(.ref a0), (.int p1), (.int p2)] 3)) T11 (mkF m 13 #[.val (.ref a0), .val (.int p1), .val (.int p2)] [(.int p2), (.int p1), (.ref pa)]) := fun t k => pre11 t (by
      refine XS.iloadN X11.here hx rfl (hb hby d5_11) rfl ?_
      show Steps p.tables e below (T11.setTop (mkF m 12 #[.val (.ref a0), .val (.int p1), .val (.int p2)] [(.int p1), (.ref pa)])) _
      refine XS.iloadN X11.here hx rfl (hb hby d5_12) rfl ?_
      exact k)
  obtain ⟨c13, Ar13, q13, S13, M13, H13, G13⟩ := (id f8)
  have hin13 : ¬ (p1 < 0 ∨ c13.slots.size ≤ (p1).toNatClampNeg) := inb_of S13 hb1
  obtain ⟨T13, h13, X13, e13, W13, st13⟩ := stI X11 hx hZ e11 Ar13 (j := p1) hin13 (g := (mkF m 13 #[.val (.ref a0), .val (.int p1), .val (.int p2)] [(.int p2), (.int p1), (.ref pa)])) rfl rfl (hb hby d5_13)
  have fa13 : Arv Z h13 pa kp .int (3 : Int32) [(.int (own_u 0 p1 p2 y0)), (.int (own_u 1 p1 p2 y1)), (.int (own_u 2 p1 p2 y2))] (.int (0 : Int32)) := own_setA Ar13 q13 S13 M13 H13 G13 W13 hb1
  have N13 := Fr.snoc X13 N4 g_pa
  have f14 : n0 ≤ h13.size := Nat.le_trans f5 (Keep.of_wr W13).1
  have f15 : Fld Z h13 a0 "com/example/octopoll/octopoll/PageHeap" "heap" "[I" (.ref ha) := f6.other W13 (Or.inl ne_a0_pa)
  have f16 : Fld Z h13 a0 "com/example/octopoll/octopoll/PageHeap" "position" "[I" (.ref pa) := f7.other W13 (Or.inl ne_a0_pa)
  have f17 : Keep h0 h13 [ha, pa] := f9.wr W13 (Or.inl (List.mem_of_getElem? (i := 1) rfl))
  have f18 : Arv Z h13 ha kh .int (3 : Int32) [(.int (own_u 0 p2 p1 x0)), (.int (own_u 1 p2 p1 x1)), (.int (own_u 2 p2 p1 x2))] (.int (0 : Int32)) := fa4.other W13 ne_ha_pa
  have pre13 : Go p.tables e below (s₁.setTop (entryFrame m #[(.ref a0), (.int p1), (.int p2)] 3)) T13 (mkF m 14 #[.val (.ref a0), .val (.int p1), .val (.int p2)] []) := fun t k => pre12 t (st13 _ k)
  obtain ⟨fs, hr, hrun, hended, hW, hsame⟩ := X13.leave (v := none) (fun _ => rfl) (BodyLoose.notSynchronized Bd)
  refine ⟨_, _, pre13 _ ?_, hrun, hended, _, _, rfl, ?_, ⟨_, rfl⟩, hW, hsame.mono (Nat.le_of_ble_eq_true rfl) (Nat.le_of_ble_eq_true rfl)⟩
  · exact X13.returnOut hx Bd.returns (hb hby d5_14) hr
  · show Q_plc Z a0 p1 p2 ha pa kh kp x0 x1 x2 y0 y1 y2 h0 n0 _ T13.heap _
    rw [e13]
    exact ⟨rfl, N13, f17, f18, fa13⟩
theorem d7_0 : decode prog_17_method_8_code 0 = .ok (.aload_n 0, 1) := by decide +kernel
theorem d7_1 : decode prog_17_method_8_code 1 = .ok (.getfield 7, 3) := by decide +kernel
theorem d7_4 : decode prog_17_method_8_code 4 = .ok (.iload_n 1, 1) := by decide +kernel
theorem d7_5 : decode prog_17_method_8_code 5 = .ok (.daload, 1) := by decide +kernel
theorem d7_6 : decode prog_17_method_8_code 6 = .ok (.aload_n 0, 1) := by decide +kernel
theorem d7_7 : decode prog_17_method_8_code 7 = .ok (.getfield 7, 3) := by decide +kernel
theorem d7_10 : decode prog_17_method_8_code 10 = .ok (.iload_n 2, 1) := by decide +kernel
theorem d7_11 : decode prog_17_method_8_code 11 = .ok (.daload, 1) := by decide +kernel
theorem d7_12 : decode prog_17_method_8_code 12 = .ok (.dcmp .g, 1) := by decide +kernel
theorem d7_13 : decode prog_17_method_8_code 13 = .ok (.ifCond .lt 24, 3) := by decide +kernel
theorem d7_16 : decode prog_17_method_8_code 16 = .ok (.aload_n 0, 1) := by decide +kernel
theorem d7_17 : decode prog_17_method_8_code 17 = .ok (.getfield 7, 3) := by decide +kernel
theorem d7_20 : decode prog_17_method_8_code 20 = .ok (.iload_n 1, 1) := by decide +kernel
theorem d7_21 : decode prog_17_method_8_code 21 = .ok (.daload, 1) := by decide +kernel
theorem d7_22 : decode prog_17_method_8_code 22 = .ok (.aload_n 0, 1) := by decide +kernel
theorem d7_23 : decode prog_17_method_8_code 23 = .ok (.getfield 7, 3) := by decide +kernel
theorem d7_26 : decode prog_17_method_8_code 26 = .ok (.iload_n 2, 1) := by decide +kernel
theorem d7_27 : decode prog_17_method_8_code 27 = .ok (.daload, 1) := by decide +kernel
theorem d7_28 : decode prog_17_method_8_code 28 = .ok (.dcmp .l, 1) := by decide +kernel
theorem d7_29 : decode prog_17_method_8_code 29 = .ok (.ifCond .ne 12, 3) := by decide +kernel
theorem d7_32 : decode prog_17_method_8_code 32 = .ok (.iload_n 1, 1) := by decide +kernel
theorem d7_33 : decode prog_17_method_8_code 33 = .ok (.iload_n 2, 1) := by decide +kernel
theorem d7_34 : decode prog_17_method_8_code 34 = .ok (.if_icmp .ge 7, 3) := by decide +kernel
theorem d7_37 : decode prog_17_method_8_code 37 = .ok (.iconst 1, 1) := by decide +kernel
theorem d7_38 : decode prog_17_method_8_code 38 = .ok (.goto 4, 3) := by decide +kernel
theorem d7_41 : decode prog_17_method_8_code 41 = .ok (.iconst 0, 1) := by decide +kernel
theorem d7_42 : decode prog_17_method_8_code 42 = .ok (.ireturn, 1) := by decide +kernel
theorem pn_les : plainName "com/example/octopoll/octopoll/PageHeap" = true := by first | (simp [plainName, overriddenIn]; done) | decide +kernel
theorem ef_les (m : MethodId) (a0 : Addr) (p1 : Int32) (p2 : Int32) : entryFrame m #[(.ref a0), (.int p1), (.int p2)] 3 = mkF m 0 #[.val (.ref a0), .val (.int p1), .val (.int p2)] [] := by first | (simp [entryFrame, mkF, argsToLocals, Value.category]; done) | rfl
def Q_les (Z : State) (a0 : Addr) (p1 : Int32) (p2 : Int32) (ka : Addr) (kk : ClassId) (d0 : UInt64) (d1 : UInt64) (d2 : UInt64) (h0 : Heap) (n0 : Nat) (v : Option Value) (h : Heap) (L : List Loc) : Prop := ∃ (zl : Int32), v = some (.int zl) ∧ Fr n0 L ∧ Keep h0 h []
set_option maxRecDepth 65536 in
set_option maxHeartbeats 40000000 in
theorem rm_les (l : Launch) (Z : State) (av0 : Array Value) (hw : ∀ d ∈ tables_1, d.before av0 Z = true) (ws : List Jvm.Cond) (a0 : Addr) (p1 : Int32) (p2 : Int32) (ka : Addr) (kk : ClassId) (d0 : UInt64) (d1 : UInt64) (d2 : UInt64) (h0 : Heap) (n0 : Nat) (Z0 : n0 ≤ h0.size) (fi0 : Fld Z h0 a0 "com/example/octopoll/octopoll/PageHeap" "key" "[D" (.ref ka)) (fi1 : Arv Z h0 ka kk .double (3 : Int32) [(.double d0), (.double d1), (.double d2)] (.double 0)) (hb1 : own_bd p1) (hb2 : own_bd p2) :
    MetFree l (⟨"com/example/octopoll/octopoll/PageHeap", "less", "(II)Z"⟩ : MethodName) (head1 (Jvm.Cond.code (⟨"com/example/octopoll/octopoll/PageHeap", "less", "(II)Z"⟩ : MethodName) prog_17_method_8_code 3 (some .boolean) :: ws) ({ frames := 0, cells := 0, slots := 0, locals := 0 } : Room)) (fun a U => a = #[(.ref a0), (.int p1), (.int p2)] ∧ Z.Warmed39 U.vm ∧ U.heap = h0) (fun _ _ _ _ _ => True) (fun _ U o U' => ∃ v L, o = .returned v ∧ Q_les Z a0 p1 p2 ka kk d0 d1 d2 h0 n0 v U'.heap L ∧ FrameEnd U o U' L ({ frames := 0, cells := 0, slots := 0, locals := 0 } : Room).cells ({ frames := 0, cells := 0, slots := 0, locals := 0 } : Room).slots) := by
  refine MetFree.of_bodySF (plainFor_of_name pn_les) hisR ?_
  intro p e s m args below meth c s₁ Bd hml0 hP hK
  obtain ⟨rfl, hZ, hh⟩ := hP
  have hx := Bd.exec
  have hby := Bd.bytes
  have hml : c.maxLocals = 3 := hml0
  have hown : s.vm.findClass "com/example/octopoll/octopoll/PageHeap" = some m.cls := findClass_of_methodNamed Bd.named
  have hnm := (name_of_methodNamed Bd.named Bd.method).1
  have X0 : Stand p l e ({ frames := 0, cells := 0, slots := 0, locals := 0 } : Room) s m #[(.ref a0), (.int p1), (.int p2)] below meth c s₁ [] 0 0 := Stand.of_body Bd
  have e0 : s₁.heap = h0 := by rw [← hh, Bd.state]; rfl
  have N0 := Fr.nil n0
  have pre0 : Go p.tables e below (s₁.setTop (entryFrame m #[(.ref a0), (.int p1), (.int p2)] 3)) s₁ (mkF m 0 #[.val (.ref a0), .val (.int p1), .val (.int p2)] []) := fun t k => castTop (ef_les m a0 p1 p2) k
  have K0 : Keep h0 h0 [] := Keep.refl _ _
  have pre1 : Go p.tables e below (s₁.setTop (entryFrame m #[(.ref a0), (.int p1), (.int p2)] 3)) s₁ (mkF m 1 #[.val (.ref a0), .val (.int p1), .val (.int p2)] [(.ref a0)]) := fun t k => pre0 t (by
      refine XS.aloadN X0.here hx rfl (hb hby d7_0) rfl rfl ?_
      exact k)
  obtain ⟨T2, X2, e2, st2⟩ := getF X0 hx hZ hown (host := "") (Or.inl (hw _ (List.mem_of_getElem? (i := 10) rfl))) Via.refl e0 fi0 (g := (mkF m 1 #[.val (.ref a0), .val (.int p1), .val (.int p2)] [(.ref a0)])) rfl rfl (hb hby d7_1)
  have pre2 : Go p.tables e below (s₁.setTop (entryFrame m #[(.ref a0), (.int p1), (.int p2)] 3)) T2 (mkF m 4 #[.val (.ref a0), .val (.int p1), .val (.int p2)] [(.ref ka)]) := fun t k => pre1 t (st2 _ k)
  have pre3 : Go p.tables e below (s₁.setTop (entryFrame m #[(.ref a0), (.int p1), (.int p2)] 3)) T2 (mkF m 5 #[.val (.ref a0), .val (.int p1), .val (.int p2)] [(.int p1), (.ref ka)]) := fun t k => pre2 t (by
      refine XS.iloadN X2.here hx rfl (hb hby d7_4) rfl ?_
      exact k)
  obtain ⟨c4, Ar4, q4, S4, M4, H4, G4⟩ := (id fi1)
  have hin4 : ¬ (p1 < 0 ∨ c4.slots.size ≤ (p1).toNatClampNeg) := inb_of S4 hb1
  have pre4 : Go p.tables e below (s₁.setTop (entryFrame m #[(.ref a0), (.int p1), (.int p2)] 3)) T2 (mkF m 6 #[.val (.ref a0), .val (.int p1), .val (.int p2)] [(.double (own_gd p1 d0 d1 d2))]) := fun t k => pre3 t (X2.daload hx (j := p1) (v := (.double (own_gd p1 d0 d1 d2))) (by rw [e2]; exact Ar4.1) (State.isArrayOf_alike hZ.alike Ar4.2.1) Ar4.2.2 hin4 (H4.at hin4 (own_getd hb1)) (g := (mkF m 5 #[.val (.ref a0), .val (.int p1), .val (.int p2)] [(.int p1), (.ref ka)])) rfl rfl (hb hby d7_5) _ k)
  have pre5 : Go p.tables e below (s₁.setTop (entryFrame m #[(.ref a0), (.int p1), (.int p2)] 3)) T2 (mkF m 7 #[.val (.ref a0), .val (.int p1), .val (.int p2)] [(.ref a0), (.double (own_gd p1 d0 d1 d2))]) := fun t k => pre4 t (by
      refine XS.aloadN X2.here hx rfl (hb hby d7_6) rfl rfl ?_
      exact k)
  obtain ⟨T6, X6, e6, st6⟩ := getF X2 hx hZ hown (host := "") (Or.inl (hw _ (List.mem_of_getElem? (i := 10) rfl))) Via.refl e2 fi0 (g := (mkF m 7 #[.val (.ref a0), .val (.int p1), .val (.int p2)] [(.ref a0), (.double (own_gd p1 d0 d1 d2))])) rfl rfl (hb hby d7_7)
  have pre6 : Go p.tables e below (s₁.setTop (entryFrame m #[(.ref a0), (.int p1), (.int p2)] 3)) T6 (mkF m 10 #[.val (.ref a0), .val (.int p1), .val (.int p2)] [(.ref ka), (.double (own_gd p1 d0 d1 d2))]) := fun t k => pre5 t (st6 _ k)
  have pre7 : Go p.tables e below (s₁.setTop (entryFrame m #[(.ref a0), (.int p1), (.int p2)] 3)) T6 (mkF m 11 #[.val (.ref a0), .val (.int p1), .val (.int p2)] [(.int p2), (.ref ka), (.double (own_gd p1 d0 d1 d2))]) := fun t k => pre6 t (by
      refine XS.iloadN X6.here hx rfl (hb hby d7_10) rfl ?_
      exact k)
  obtain ⟨c8, Ar8, q8, S8, M8, H8, G8⟩ := (id fi1)
  have hin8 : ¬ (p2 < 0 ∨ c8.slots.size ≤ (p2).toNatClampNeg) := inb_of S8 hb2
  have pre8 : Go p.tables e below (s₁.setTop (entryFrame m #[(.ref a0), (.int p1), (.int p2)] 3)) T6 (mkF m 12 #[.val (.ref a0), .val (.int p1), .val (.int p2)] [(.double (own_gd p2 d0 d1 d2)), (.double (own_gd p1 d0 d1 d2))]) := fun t k => pre7 t (X6.daload hx (j := p2) (v := (.double (own_gd p2 d0 d1 d2))) (by rw [e6]; exact Ar8.1) (State.isArrayOf_alike hZ.alike Ar8.2.1) Ar8.2.2 hin8 (H8.at hin8 (own_getd hb2)) (g := (mkF m 11 #[.val (.ref a0), .val (.int p1), .val (.int p2)] [(.int p2), (.ref ka), (.double (own_gd p1 d0 d1 d2))])) rfl rfl (hb hby d7_11) _ k)
  have pre9 : Go p.tables e below (s₁.setTop (entryFrame m #[(.ref a0), (.int p1), (.int p2)] 3)) T6 (mkF m 13 #[.val (.ref a0), .val (.int p1), .val (.int p2)] [(.int (cmpValue (FP.dcmp (own_gd p1 d0 d1 d2) (own_gd p2 d0 d1 d2)) .g))]) := fun t k => pre8 t (by
      refine XS.dcmpS X6.here hx rfl (hb hby d7_12) rfl rfl ?_
      exact k)
  by_cases hc10 : (cmpValue (FP.dcmp (own_gd p1 d0 d1 d2) (own_gd p2 d0 d1 d2)) .g) < (0 : Int32)
  · -- hc10: True
    have pre11 : Go p.tables e below (s₁.setTop (entryFrame m #[(.ref a0), (.int p1), (.int p2)] 3)) T6 (mkF m 42 #[.val (.ref a0), .val (.int p1), .val (.int p2)] [(.int (1 : Int32))]) := fun t k => pre9 t (by
        refine XS.ifYes X6.here hx rfl (pc0 := 13) (pc' := 37) rfl (hb hby d7_13) rfl ((if0 _ _).trans (tlt hc10).1) (by decide) (by decide) ?_
        show Steps p.tables e below (T6.setTop (mkF m 37 #[.val (.ref a0), .val (.int p1), .val (.int p2)] [])) _
        refine XS.iconst X6.here hx rfl (hb hby d7_37) ?_
        show Steps p.tables e below (T6.setTop (mkF m 38 #[.val (.ref a0), .val (.int p1), .val (.int p2)] [(.int (1 : Int32))])) _
        refine XS.goto X6.here hx rfl (pc0 := 38) (pc' := 42) rfl (hb hby d7_38) (by decide) (by decide) ?_
        exact k)
    obtain ⟨fs, hr, hrun, hended, hW, hsame⟩ := X6.leave (v := some (.int (1 : Int32))) (fun h => by rw [Bd.returns] at h; cases h) (BodyLoose.notSynchronized Bd)
    refine ⟨_, _, pre11 _ ?_, hrun, hended, _, _, rfl, ?_, ⟨_, rfl⟩, hW, hsame.mono (Nat.le_of_ble_eq_true rfl) (Nat.le_of_ble_eq_true rfl)⟩
    · exact retN X6 hx (t := .boolean) Bd.returns (by simp) (hb hby d7_42) hr
    · show Q_les Z a0 p1 p2 ka kk d0 d1 d2 h0 n0 _ T6.heap _
      rw [e6]
      exact ⟨(1 : Int32), rfl, N0, K0⟩
  · -- hc10: False
    have pre12 : Go p.tables e below (s₁.setTop (entryFrame m #[(.ref a0), (.int p1), (.int p2)] 3)) T6 (mkF m 17 #[.val (.ref a0), .val (.int p1), .val (.int p2)] [(.ref a0)]) := fun t k => pre9 t (by
        refine XS.ifNo X6.here hx rfl (hb hby d7_13) rfl ((if0 _ _).trans (flt hc10).1) ?_
        show Steps p.tables e below (T6.setTop (mkF m 16 #[.val (.ref a0), .val (.int p1), .val (.int p2)] [])) _
        refine XS.aloadN X6.here hx rfl (hb hby d7_16) rfl rfl ?_
        exact k)
    obtain ⟨T13, X13, e13, st13⟩ := getF X6 hx hZ hown (host := "") (Or.inl (hw _ (List.mem_of_getElem? (i := 10) rfl))) Via.refl e6 fi0 (g := (mkF m 17 #[.val (.ref a0), .val (.int p1), .val (.int p2)] [(.ref a0)])) rfl rfl (hb hby d7_17)
    have pre13 : Go p.tables e below (s₁.setTop (entryFrame m #[(.ref a0), (.int p1), (.int p2)] 3)) T13 (mkF m 20 #[.val (.ref a0), .val (.int p1), .val (.int p2)] [(.ref ka)]) := fun t k => pre12 t (st13 _ k)
    have pre14 : Go p.tables e below (s₁.setTop (entryFrame m #[(.ref a0), (.int p1), (.int p2)] 3)) T13 (mkF m 21 #[.val (.ref a0), .val (.int p1), .val (.int p2)] [(.int p1), (.ref ka)]) := fun t k => pre13 t (by
        refine XS.iloadN X13.here hx rfl (hb hby d7_20) rfl ?_
        exact k)
    obtain ⟨c15, Ar15, q15, S15, M15, H15, G15⟩ := (id fi1)
    have hin15 : ¬ (p1 < 0 ∨ c15.slots.size ≤ (p1).toNatClampNeg) := inb_of S15 hb1
    have pre15 : Go p.tables e below (s₁.setTop (entryFrame m #[(.ref a0), (.int p1), (.int p2)] 3)) T13 (mkF m 22 #[.val (.ref a0), .val (.int p1), .val (.int p2)] [(.double (own_gd p1 d0 d1 d2))]) := fun t k => pre14 t (X13.daload hx (j := p1) (v := (.double (own_gd p1 d0 d1 d2))) (by rw [e13]; exact Ar15.1) (State.isArrayOf_alike hZ.alike Ar15.2.1) Ar15.2.2 hin15 (H15.at hin15 (own_getd hb1)) (g := (mkF m 21 #[.val (.ref a0), .val (.int p1), .val (.int p2)] [(.int p1), (.ref ka)])) rfl rfl (hb hby d7_21) _ k)
    have pre16 : Go p.tables e below (s₁.setTop (entryFrame m #[(.ref a0), (.int p1), (.int p2)] 3)) T13 (mkF m 23 #[.val (.ref a0), .val (.int p1), .val (.int p2)] [(.ref a0), (.double (own_gd p1 d0 d1 d2))]) := fun t k => pre15 t (by
        refine XS.aloadN X13.here hx rfl (hb hby d7_22) rfl rfl ?_
        exact k)
    obtain ⟨T17, X17, e17, st17⟩ := getF X13 hx hZ hown (host := "") (Or.inl (hw _ (List.mem_of_getElem? (i := 10) rfl))) Via.refl e13 fi0 (g := (mkF m 23 #[.val (.ref a0), .val (.int p1), .val (.int p2)] [(.ref a0), (.double (own_gd p1 d0 d1 d2))])) rfl rfl (hb hby d7_23)
    have pre17 : Go p.tables e below (s₁.setTop (entryFrame m #[(.ref a0), (.int p1), (.int p2)] 3)) T17 (mkF m 26 #[.val (.ref a0), .val (.int p1), .val (.int p2)] [(.ref ka), (.double (own_gd p1 d0 d1 d2))]) := fun t k => pre16 t (st17 _ k)
    have pre18 : Go p.tables e below (s₁.setTop (entryFrame m #[(.ref a0), (.int p1), (.int p2)] 3)) T17 (mkF m 27 #[.val (.ref a0), .val (.int p1), .val (.int p2)] [(.int p2), (.ref ka), (.double (own_gd p1 d0 d1 d2))]) := fun t k => pre17 t (by
        refine XS.iloadN X17.here hx rfl (hb hby d7_26) rfl ?_
        exact k)
    obtain ⟨c19, Ar19, q19, S19, M19, H19, G19⟩ := (id fi1)
    have hin19 : ¬ (p2 < 0 ∨ c19.slots.size ≤ (p2).toNatClampNeg) := inb_of S19 hb2
    have pre19 : Go p.tables e below (s₁.setTop (entryFrame m #[(.ref a0), (.int p1), (.int p2)] 3)) T17 (mkF m 28 #[.val (.ref a0), .val (.int p1), .val (.int p2)] [(.double (own_gd p2 d0 d1 d2)), (.double (own_gd p1 d0 d1 d2))]) := fun t k => pre18 t (X17.daload hx (j := p2) (v := (.double (own_gd p2 d0 d1 d2))) (by rw [e17]; exact Ar19.1) (State.isArrayOf_alike hZ.alike Ar19.2.1) Ar19.2.2 hin19 (H19.at hin19 (own_getd hb2)) (g := (mkF m 27 #[.val (.ref a0), .val (.int p1), .val (.int p2)] [(.int p2), (.ref ka), (.double (own_gd p1 d0 d1 d2))])) rfl rfl (hb hby d7_27) _ k)
    have pre20 : Go p.tables e below (s₁.setTop (entryFrame m #[(.ref a0), (.int p1), (.int p2)] 3)) T17 (mkF m 29 #[.val (.ref a0), .val (.int p1), .val (.int p2)] [(.int (cmpValue (FP.dcmp (own_gd p1 d0 d1 d2) (own_gd p2 d0 d1 d2)) .l))]) := fun t k => pre19 t (by
        refine XS.dcmpS X17.here hx rfl (hb hby d7_28) rfl rfl ?_
        exact k)
    by_cases hc21 : (cmpValue (FP.dcmp (own_gd p1 d0 d1 d2) (own_gd p2 d0 d1 d2)) .l) = (0 : Int32)
    · -- hc21: True
      have pre22 : Go p.tables e below (s₁.setTop (entryFrame m #[(.ref a0), (.int p1), (.int p2)] 3)) T17 (mkF m 34 #[.val (.ref a0), .val (.int p1), .val (.int p2)] [(.int p2), (.int p1)]) := fun t k => pre20 t (by
          refine XS.ifNo X17.here hx rfl (hb hby d7_29) rfl ((if0 _ _).trans (teq hc21).2) ?_
          show Steps p.tables e below (T17.setTop (mkF m 32 #[.val (.ref a0), .val (.int p1), .val (.int p2)] [])) _
          refine XS.iloadN X17.here hx rfl (hb hby d7_32) rfl ?_
          show Steps p.tables e below (T17.setTop (mkF m 33 #[.val (.ref a0), .val (.int p1), .val (.int p2)] [(.int p1)])) _
          refine XS.iloadN X17.here hx rfl (hb hby d7_33) rfl ?_
          exact k)
      by_cases hc23 : p1 < p2
      · -- hc23: True
        have pre24 : Go p.tables e below (s₁.setTop (entryFrame m #[(.ref a0), (.int p1), (.int p2)] 3)) T17 (mkF m 42 #[.val (.ref a0), .val (.int p1), .val (.int p2)] [(.int (1 : Int32))]) := fun t k => pre22 t (by
            refine XS.icmpNo X17.here hx rfl (hb hby d7_34) rfl (tlt hc23).2.1 ?_
            show Steps p.tables e below (T17.setTop (mkF m 37 #[.val (.ref a0), .val (.int p1), .val (.int p2)] [])) _
            refine XS.iconst X17.here hx rfl (hb hby d7_37) ?_
            show Steps p.tables e below (T17.setTop (mkF m 38 #[.val (.ref a0), .val (.int p1), .val (.int p2)] [(.int (1 : Int32))])) _
            refine XS.goto X17.here hx rfl (pc0 := 38) (pc' := 42) rfl (hb hby d7_38) (by decide) (by decide) ?_
            exact k)
        obtain ⟨fs, hr, hrun, hended, hW, hsame⟩ := X17.leave (v := some (.int (1 : Int32))) (fun h => by rw [Bd.returns] at h; cases h) (BodyLoose.notSynchronized Bd)
        refine ⟨_, _, pre24 _ ?_, hrun, hended, _, _, rfl, ?_, ⟨_, rfl⟩, hW, hsame.mono (Nat.le_of_ble_eq_true rfl) (Nat.le_of_ble_eq_true rfl)⟩
        · exact retN X17 hx (t := .boolean) Bd.returns (by simp) (hb hby d7_42) hr
        · show Q_les Z a0 p1 p2 ka kk d0 d1 d2 h0 n0 _ T17.heap _
          rw [e17]
          exact ⟨(1 : Int32), rfl, N0, K0⟩
      · -- hc23: False
        have pre25 : Go p.tables e below (s₁.setTop (entryFrame m #[(.ref a0), (.int p1), (.int p2)] 3)) T17 (mkF m 42 #[.val (.ref a0), .val (.int p1), .val (.int p2)] [(.int (0 : Int32))]) := fun t k => pre22 t (by
            refine XS.icmpYes X17.here hx rfl (pc0 := 34) (pc' := 41) rfl (hb hby d7_34) rfl (flt hc23).2.1 (by decide) (by decide) ?_
            show Steps p.tables e below (T17.setTop (mkF m 41 #[.val (.ref a0), .val (.int p1), .val (.int p2)] [])) _
            refine XS.iconst X17.here hx rfl (hb hby d7_41) ?_
            exact k)
        obtain ⟨fs, hr, hrun, hended, hW, hsame⟩ := X17.leave (v := some (.int (0 : Int32))) (fun h => by rw [Bd.returns] at h; cases h) (BodyLoose.notSynchronized Bd)
        refine ⟨_, _, pre25 _ ?_, hrun, hended, _, _, rfl, ?_, ⟨_, rfl⟩, hW, hsame.mono (Nat.le_of_ble_eq_true rfl) (Nat.le_of_ble_eq_true rfl)⟩
        · exact retN X17 hx (t := .boolean) Bd.returns (by simp) (hb hby d7_42) hr
        · show Q_les Z a0 p1 p2 ka kk d0 d1 d2 h0 n0 _ T17.heap _
          rw [e17]
          exact ⟨(0 : Int32), rfl, N0, K0⟩
    · -- hc21: False
      have pre26 : Go p.tables e below (s₁.setTop (entryFrame m #[(.ref a0), (.int p1), (.int p2)] 3)) T17 (mkF m 42 #[.val (.ref a0), .val (.int p1), .val (.int p2)] [(.int (0 : Int32))]) := fun t k => pre20 t (by
          refine XS.ifYes X17.here hx rfl (pc0 := 29) (pc' := 41) rfl (hb hby d7_29) rfl ((if0 _ _).trans (feq hc21).2) (by decide) (by decide) ?_
          show Steps p.tables e below (T17.setTop (mkF m 41 #[.val (.ref a0), .val (.int p1), .val (.int p2)] [])) _
          refine XS.iconst X17.here hx rfl (hb hby d7_41) ?_
          exact k)
      obtain ⟨fs, hr, hrun, hended, hW, hsame⟩ := X17.leave (v := some (.int (0 : Int32))) (fun h => by rw [Bd.returns] at h; cases h) (BodyLoose.notSynchronized Bd)
      refine ⟨_, _, pre26 _ ?_, hrun, hended, _, _, rfl, ?_, ⟨_, rfl⟩, hW, hsame.mono (Nat.le_of_ble_eq_true rfl) (Nat.le_of_ble_eq_true rfl)⟩
      · exact retN X17 hx (t := .boolean) Bd.returns (by simp) (hb hby d7_42) hr
      · show Q_les Z a0 p1 p2 ka kk d0 d1 d2 h0 n0 _ T17.heap _
        rw [e17]
        exact ⟨(0 : Int32), rfl, N0, K0⟩
def Q_su (Z : State) (a0 : Addr) (p1 : Int32) (ka : Addr) (ha : Addr) (pa : Addr) (kk : ClassId) (kh : ClassId) (kp : ClassId) (d0 : UInt64) (d1 : UInt64) (d2 : UInt64) (x0 : Int32) (x1 : Int32) (x2 : Int32) (y0 : Int32) (y1 : Int32) (y2 : Int32) (h0 : Heap) (n0 : Nat) (v : Option Value) (h : Heap) (L : List Loc) : Prop := ∃ (z0 : Int32) (z1 : Int32) (z2 : Int32) (z3 : Int32) (z4 : Int32) (z5 : Int32), v = none ∧ Fr n0 L ∧ Keep h0 h [ha, pa] ∧ Arv Z h ha kh .int (3 : Int32) [(.int z0), (.int z1), (.int z2)] (.int (0 : Int32)) ∧ Arv Z h pa kp .int (3 : Int32) [(.int z3), (.int z4), (.int z5)] (.int (0 : Int32)) ∧ ((z0, z1, z2, z3, z4, z5) = own_s0 p1 (x0, x1, x2, y0, y1, y2) ∨ (0 < p1 ∧ (z0, z1, z2, z3, z4, z5) = own_s1 p1 (x0, x1, x2, y0, y1, y2)))
theorem d6_0 : decode prog_17_method_9_code 0 = .ok (.aload_n 0, 1) := by decide +kernel
theorem d6_1 : decode prog_17_method_9_code 1 = .ok (.getfield 13, 3) := by decide +kernel
theorem d6_4 : decode prog_17_method_9_code 4 = .ok (.iload_n 1, 1) := by decide +kernel
theorem d6_5 : decode prog_17_method_9_code 5 = .ok (.iaload, 1) := by decide +kernel
theorem d6_6 : decode prog_17_method_9_code 6 = .ok (.istore_n 2, 1) := by decide +kernel
theorem d6_7 : decode prog_17_method_9_code 7 = .ok (.iload_n 1, 1) := by decide +kernel
theorem d6_8 : decode prog_17_method_9_code 8 = .ok (.ifCond .le 45, 3) := by decide +kernel
theorem d6_11 : decode prog_17_method_9_code 11 = .ok (.aload_n 0, 1) := by decide +kernel
theorem d6_12 : decode prog_17_method_9_code 12 = .ok (.iload_n 2, 1) := by decide +kernel
theorem d6_13 : decode prog_17_method_9_code 13 = .ok (.aload_n 0, 1) := by decide +kernel
theorem d6_14 : decode prog_17_method_9_code 14 = .ok (.getfield 13, 3) := by decide +kernel
theorem d6_17 : decode prog_17_method_9_code 17 = .ok (.iload_n 1, 1) := by decide +kernel
theorem d6_18 : decode prog_17_method_9_code 18 = .ok (.iconst 1, 1) := by decide +kernel
theorem d6_19 : decode prog_17_method_9_code 19 = .ok (.isub, 1) := by decide +kernel
theorem d6_20 : decode prog_17_method_9_code 20 = .ok (.iconst 2, 1) := by decide +kernel
theorem d6_21 : decode prog_17_method_9_code 21 = .ok (.idiv, 1) := by decide +kernel
theorem d6_22 : decode prog_17_method_9_code 22 = .ok (.iaload, 1) := by decide +kernel
theorem d6_23 : decode prog_17_method_9_code 23 = .ok (.invokevirtual 44, 3) := by decide +kernel
theorem d6_26 : decode prog_17_method_9_code 26 = .ok (.ifCond .eq 27, 3) := by decide +kernel
theorem d6_29 : decode prog_17_method_9_code 29 = .ok (.aload_n 0, 1) := by decide +kernel
theorem d6_30 : decode prog_17_method_9_code 30 = .ok (.aload_n 0, 1) := by decide +kernel
theorem d6_31 : decode prog_17_method_9_code 31 = .ok (.getfield 13, 3) := by decide +kernel
theorem d6_34 : decode prog_17_method_9_code 34 = .ok (.iload_n 1, 1) := by decide +kernel
theorem d6_35 : decode prog_17_method_9_code 35 = .ok (.iconst 1, 1) := by decide +kernel
theorem d6_36 : decode prog_17_method_9_code 36 = .ok (.isub, 1) := by decide +kernel
theorem d6_37 : decode prog_17_method_9_code 37 = .ok (.iconst 2, 1) := by decide +kernel
theorem d6_38 : decode prog_17_method_9_code 38 = .ok (.idiv, 1) := by decide +kernel
theorem d6_39 : decode prog_17_method_9_code 39 = .ok (.iaload, 1) := by decide +kernel
theorem d6_40 : decode prog_17_method_9_code 40 = .ok (.iload_n 1, 1) := by decide +kernel
theorem d6_41 : decode prog_17_method_9_code 41 = .ok (.invokevirtual 30, 3) := by decide +kernel
theorem d6_44 : decode prog_17_method_9_code 44 = .ok (.iload_n 1, 1) := by decide +kernel
theorem d6_45 : decode prog_17_method_9_code 45 = .ok (.iconst 1, 1) := by decide +kernel
theorem d6_46 : decode prog_17_method_9_code 46 = .ok (.isub, 1) := by decide +kernel
theorem d6_47 : decode prog_17_method_9_code 47 = .ok (.iconst 2, 1) := by decide +kernel
theorem d6_48 : decode prog_17_method_9_code 48 = .ok (.idiv, 1) := by decide +kernel
theorem d6_49 : decode prog_17_method_9_code 49 = .ok (.istore_n 1, 1) := by decide +kernel
theorem d6_50 : decode prog_17_method_9_code 50 = .ok (.goto (-43), 3) := by decide +kernel
theorem d6_53 : decode prog_17_method_9_code 53 = .ok (.aload_n 0, 1) := by decide +kernel
theorem d6_54 : decode prog_17_method_9_code 54 = .ok (.iload_n 2, 1) := by decide +kernel
theorem d6_55 : decode prog_17_method_9_code 55 = .ok (.iload_n 1, 1) := by decide +kernel
theorem d6_56 : decode prog_17_method_9_code 56 = .ok (.invokevirtual 30, 3) := by decide +kernel
theorem d6_59 : decode prog_17_method_9_code 59 = .ok (.return_, 1) := by decide +kernel
theorem pn_su0 : plainName "com/example/octopoll/octopoll/PageHeap" = true := by first | (simp [plainName, overriddenIn]; done) | decide +kernel
theorem ef_su0 (m : MethodId) (a0 : Addr) : entryFrame m #[(.ref a0), (.int (0 : Int32))] 3 = mkF m 0 #[.val (.ref a0), .val (.int (0 : Int32)), .unset] [] := by first | (simp [entryFrame, mkF, argsToLocals, Value.category]; done) | rfl
set_option maxRecDepth 65536 in
set_option maxHeartbeats 40000000 in
theorem rm_su0 (l : Launch) (Z : State) (av0 : Array Value) (hw : ∀ d ∈ tables_1, d.before av0 Z = true) (ws : List Jvm.Cond) (a0 : Addr) (ka : Addr) (ha : Addr) (pa : Addr) (kk : ClassId) (kh : ClassId) (kp : ClassId) (d0 : UInt64) (d1 : UInt64) (d2 : UInt64) (x0 : Int32) (x1 : Int32) (x2 : Int32) (y0 : Int32) (y1 : Int32) (y2 : Int32) (h0 : Heap) (n0 : Nat) (Z0 : n0 ≤ h0.size) (fi0 : Exa Z h0 a0 "com/example/octopoll/octopoll/PageHeap") (fi1 : Fld Z h0 a0 "com/example/octopoll/octopoll/PageHeap" "key" "[D" (.ref ka)) (fi2 : Fld Z h0 a0 "com/example/octopoll/octopoll/PageHeap" "heap" "[I" (.ref ha)) (fi3 : Fld Z h0 a0 "com/example/octopoll/octopoll/PageHeap" "position" "[I" (.ref pa)) (fi4 : Arv Z h0 ka kk .double (3 : Int32) [(.double d0), (.double d1), (.double d2)] (.double 0)) (fi5 : Arv Z h0 ha kh .int (3 : Int32) [(.int x0), (.int x1), (.int x2)] (.int (0 : Int32))) (fi6 : Arv Z h0 pa kp .int (3 : Int32) [(.int y0), (.int y1), (.int y2)] (.int (0 : Int32))) (g_ha : n0 ≤ ha) (g_pa : n0 ≤ pa) (ne_a0_ha : a0 ≠ ha) (ne_a0_pa : a0 ≠ pa) (ne_ha_pa : ha ≠ pa) (ne_a0_ka : a0 ≠ ka) (ne_ka_ha : ka ≠ ha) (ne_ka_pa : ka ≠ pa) (hx0 : own_bd x0) (hx1 : own_bd x1) (hx2 : own_bd x2) :
    MetFree l (⟨"com/example/octopoll/octopoll/PageHeap", "siftUp", "(I)V"⟩ : MethodName) (head1 (Jvm.Cond.code (⟨"com/example/octopoll/octopoll/PageHeap", "siftUp", "(I)V"⟩ : MethodName) prog_17_method_9_code 3 none :: ws) ({ frames := 1, cells := 0, slots := 0, locals := 16 } : Room)) (fun a U => a = #[(.ref a0), (.int (0 : Int32))] ∧ Z.Warmed39 U.vm ∧ U.heap = h0) (fun _ _ _ _ _ => True) (fun _ U o U' => ∃ v L, o = .returned v ∧ Q_su Z a0 (0 : Int32) ka ha pa kk kh kp d0 d1 d2 x0 x1 x2 y0 y1 y2 h0 n0 v U'.heap L ∧ FrameEnd U o U' L ({ frames := 1, cells := 0, slots := 0, locals := 16 } : Room).cells ({ frames := 1, cells := 0, slots := 0, locals := 16 } : Room).slots) := by
  refine MetFree.of_bodySF (plainFor_of_name pn_su0) hisR ?_
  intro p e s m args below meth c s₁ Bd hml0 hP hK
  obtain ⟨rfl, hZ, hh⟩ := hP
  have hx := Bd.exec
  have hby := Bd.bytes
  have hml : c.maxLocals = 3 := hml0
  have hown : s.vm.findClass "com/example/octopoll/octopoll/PageHeap" = some m.cls := findClass_of_methodNamed Bd.named
  have hnm := (name_of_methodNamed Bd.named Bd.method).1
  have X0 : Stand p l e ({ frames := 1, cells := 0, slots := 0, locals := 16 } : Room) s m #[(.ref a0), (.int (0 : Int32))] below meth c s₁ [] 0 0 := Stand.of_body Bd
  have e0 : s₁.heap = h0 := by rw [← hh, Bd.state]; rfl
  have N0 := Fr.nil n0
  have pre0 : Go p.tables e below (s₁.setTop (entryFrame m #[(.ref a0), (.int (0 : Int32))] 3)) s₁ (mkF m 0 #[.val (.ref a0), .val (.int (0 : Int32)), .unset] []) := fun t k => castTop (ef_su0 m a0) k
  have K0 : Keep h0 h0 [ha, pa] := Keep.refl _ _
  have pre1 : Go p.tables e below (s₁.setTop (entryFrame m #[(.ref a0), (.int (0 : Int32))] 3)) s₁ (mkF m 1 #[.val (.ref a0), .val (.int (0 : Int32)), .unset] [(.ref a0)]) := fun t k => pre0 t (by
      refine XS.aloadN X0.here hx rfl (hb hby d6_0) rfl rfl ?_
      exact k)
  obtain ⟨T2, X2, e2, st2⟩ := getF X0 hx hZ hown (host := "") (Or.inl (hw _ (List.mem_of_getElem? (i := 13) rfl))) Via.refl e0 fi2 (g := (mkF m 1 #[.val (.ref a0), .val (.int (0 : Int32)), .unset] [(.ref a0)])) rfl rfl (hb hby d6_1)
  have pre2 : Go p.tables e below (s₁.setTop (entryFrame m #[(.ref a0), (.int (0 : Int32))] 3)) T2 (mkF m 4 #[.val (.ref a0), .val (.int (0 : Int32)), .unset] [(.ref ha)]) := fun t k => pre1 t (st2 _ k)
  have pre3 : Go p.tables e below (s₁.setTop (entryFrame m #[(.ref a0), (.int (0 : Int32))] 3)) T2 (mkF m 5 #[.val (.ref a0), .val (.int (0 : Int32)), .unset] [(.int (0 : Int32)), (.ref ha)]) := fun t k => pre2 t (by
      refine XS.iloadN X2.here hx rfl (hb hby d6_4) rfl ?_
      exact k)
  obtain ⟨c4, Ar4, q4, S4, M4, H4, G4⟩ := (id fi5)
  have hin4 : ¬ ((0 : Int32) < 0 ∨ c4.slots.size ≤ ((0 : Int32)).toNatClampNeg) := inb_of S4 ⟨by decide, by decide⟩
  have pre4 : Go p.tables e below (s₁.setTop (entryFrame m #[(.ref a0), (.int (0 : Int32))] 3)) T2 (mkF m 6 #[.val (.ref a0), .val (.int (0 : Int32)), .unset] [(.int x0)]) := fun t k => pre3 t (X2.iaload hx (j := (0 : Int32)) (v := (.int x0)) (by rw [e2]; exact Ar4.1) (State.isArrayOf_alike hZ.alike Ar4.2.1) Ar4.2.2 hin4 (H4.at hin4 rfl) (g := (mkF m 5 #[.val (.ref a0), .val (.int (0 : Int32)), .unset] [(.int (0 : Int32)), (.ref ha)])) rfl rfl (hb hby d6_5) _ k)
  have pre5 : Go p.tables e below (s₁.setTop (entryFrame m #[(.ref a0), (.int (0 : Int32))] 3)) T2 (mkF m 56 #[.val (.ref a0), .val (.int (0 : Int32)), .val (.int x0)] [(.int (0 : Int32)), (.int x0), (.ref a0)]) := fun t k => pre4 t (by
      refine XS.istoreN X2.here hx rfl (hb hby d6_6) rfl (l' := #[.val (.ref a0), .val (.int (0 : Int32)), .val (.int x0)]) rfl ?_
      show Steps p.tables e below (T2.setTop (mkF m 7 #[.val (.ref a0), .val (.int (0 : Int32)), .val (.int x0)] [])) _
      refine XS.iloadN X2.here hx rfl (hb hby d6_7) rfl ?_
      show Steps p.tables e below (T2.setTop (mkF m 8 #[.val (.ref a0), .val (.int (0 : Int32)), .val (.int x0)] [(.int (0 : Int32))])) _
      refine XS.ifYes X2.here hx rfl (pc0 := 8) (pc' := 53) rfl (hb hby d6_8) rfl ((if0 _ _).trans (flt (by decide)).2.2.2) (by decide) (by decide) ?_
      show Steps p.tables e below (T2.setTop (mkF m 53 #[.val (.ref a0), .val (.int (0 : Int32)), .val (.int x0)] [])) _
      refine XS.aloadN X2.here hx rfl (hb hby d6_53) rfl rfl ?_
      show Steps p.tables e below (T2.setTop (mkF m 54 #[.val (.ref a0), .val (.int (0 : Int32)), .val (.int x0)] [(.ref a0)])) _
      refine XS.iloadN X2.here hx rfl (hb hby d6_54) rfl ?_
      show Steps p.tables e below (T2.setTop (mkF m 55 #[.val (.ref a0), .val (.int (0 : Int32)), .val (.int x0)] [(.int x0), (.ref a0)])) _
      refine XS.iloadN X2.here hx rfl (hb hby d6_55) rfl ?_
      exact k)
  obtain ⟨cq6, q6, q6'⟩ := fi0.cell
  obtain ⟨_, _, ⟨T6, L6, k6, n6⟩, -, X6, ⟨Lc6, hQ6, l6, y6, z6⟩, st6⟩ := own_private X2 hx (y := (⟨"com/example/octopoll/octopoll/PageHeap", "place", "(II)V"⟩ : MethodName)) hown (mvT hZ (hw _ (List.mem_of_getElem? (i := 30) rfl))) (mvT hZ (hw _ (List.mem_of_getElem? (i := 31) rfl))) (mvT hZ (hw _ (List.mem_of_getElem? (i := 26) rfl))) rfl (Cond.privateMethod_at (mvP hZ (hw _ (List.mem_of_getElem? (i := 32) rfl)) (args := #[]))) (mvT hZ (hw _ (List.mem_of_getElem? (i := 33) rfl))) (by decide) (backOf (W := 0) (rm_plc l Z av0 hw [] a0 x0 (0 : Int32) ha pa kh kp x0 x1 x2 y0 y1 y2 h0 n0 Z0 fi2 fi3 fi5 fi6 g_ha g_pa ne_a0_ha ne_a0_pa ne_ha_pa hx0 (by decide)) hZ (hw _ (List.mem_of_getElem? (i := 33) rfl)) (hw _ (List.mem_of_getElem? (i := 3) rfl)) (by decide) (by decide)) (a := a0) (by rw [e2]; exact q6) q6' (g := (mkF m 56 #[.val (.ref a0), .val (.int (0 : Int32)), .val (.int x0)] [(.int (0 : Int32)), (.int x0), (.ref a0)])) rfl (by rw [hml]; rfl) (argsL := [(.int x0), (.int (0 : Int32))]) (rest := []) (lenOf pd_0 rfl) rfl (by show 2 * 0 + _ ≤ _; exact Nat.le_of_eq rfl) (hb hby d6_56) (fun _ _ => ⟨rfl, e2, (by decide : 0 + 0 ≤ _), (by decide : 0 + 0 ≤ _)⟩)
  dsimp only [Pt.U, Pt.locs, Pt.cells, Pt.slots] at X6 l6 y6 z6 st6 hQ6
  subst l6 y6 z6
  obtain ⟨hv6, N6q, K6, fo6_0, fo6_1⟩ := hQ6
  have f7 : n0 ≤ T6.heap.size := Nat.le_trans Z0 K6.1
  have f8 : Exa Z T6.heap a0 "com/example/octopoll/octopoll/PageHeap" := fi0.keep K6
  have f9 : Fld Z T6.heap a0 "com/example/octopoll/octopoll/PageHeap" "key" "[D" (.ref ka) := fi1.keep K6 (ninS ne_a0_ha (ninS ne_a0_pa nin0))
  have f10 : Fld Z T6.heap a0 "com/example/octopoll/octopoll/PageHeap" "heap" "[I" (.ref ha) := fi2.keep K6 (ninS ne_a0_ha (ninS ne_a0_pa nin0))
  have f11 : Fld Z T6.heap a0 "com/example/octopoll/octopoll/PageHeap" "position" "[I" (.ref pa) := fi3.keep K6 (ninS ne_a0_ha (ninS ne_a0_pa nin0))
  have f12 : Arv Z T6.heap ka kk .double (3 : Int32) [(.double d0), (.double d1), (.double d2)] (.double 0) := fi4.keep K6 (ninS ne_ka_ha (ninS ne_ka_pa nin0))
  have f13 : Keep h0 T6.heap [ha, pa] := K0.trans K6 (allS (Or.inl (List.mem_of_getElem? (i := 0) rfl)) (allS (Or.inl (List.mem_of_getElem? (i := 1) rfl)) all0))
  subst hv6
  have N6 := Fr.app N0 N6q
  have pre6 : Go p.tables e below (s₁.setTop (entryFrame m #[(.ref a0), (.int (0 : Int32))] 3)) T6 (mkF m 59 #[.val (.ref a0), .val (.int (0 : Int32)), .val (.int x0)] []) := fun t k => pre5 t (st6 _ k)
  obtain ⟨fs, hr, hrun, hended, hW, hsame⟩ := X6.leave (v := none) (fun _ => rfl) (BodyLoose.notSynchronized Bd)
  refine ⟨_, _, pre6 _ ?_, hrun, hended, _, _, rfl, ?_, ⟨_, rfl⟩, hW, hsame.mono (Nat.le_of_ble_eq_true rfl) (Nat.le_of_ble_eq_true rfl)⟩
  · exact X6.returnOut hx Bd.returns (hb hby d6_59) hr
  · show Q_su Z a0 (0 : Int32) ka ha pa kk kh kp d0 d1 d2 x0 x1 x2 y0 y1 y2 h0 n0 _ T6.heap _
    exact ⟨x0, x1, x2, (own_u 0 x0 (0 : Int32) y0), (own_u 1 x0 (0 : Int32) y1), (own_u 2 x0 (0 : Int32) y2), rfl, N6, f13, fo6_0, fo6_1, (Or.inl rfl)⟩
theorem pn_su1 : plainName "com/example/octopoll/octopoll/PageHeap" = true := by first | (simp [plainName, overriddenIn]; done) | decide +kernel
theorem ef_su1 (m : MethodId) (a0 : Addr) : entryFrame m #[(.ref a0), (.int (1 : Int32))] 3 = mkF m 0 #[.val (.ref a0), .val (.int (1 : Int32)), .unset] [] := by first | (simp [entryFrame, mkF, argsToLocals, Value.category]; done) | rfl
set_option maxRecDepth 65536 in
set_option maxHeartbeats 40000000 in
theorem rm_su1 (l : Launch) (Z : State) (av0 : Array Value) (hw : ∀ d ∈ tables_1, d.before av0 Z = true) (ws : List Jvm.Cond) (a0 : Addr) (ka : Addr) (ha : Addr) (pa : Addr) (kk : ClassId) (kh : ClassId) (kp : ClassId) (d0 : UInt64) (d1 : UInt64) (d2 : UInt64) (x0 : Int32) (x1 : Int32) (x2 : Int32) (y0 : Int32) (y1 : Int32) (y2 : Int32) (h0 : Heap) (n0 : Nat) (Z0 : n0 ≤ h0.size) (fi0 : Exa Z h0 a0 "com/example/octopoll/octopoll/PageHeap") (fi1 : Fld Z h0 a0 "com/example/octopoll/octopoll/PageHeap" "key" "[D" (.ref ka)) (fi2 : Fld Z h0 a0 "com/example/octopoll/octopoll/PageHeap" "heap" "[I" (.ref ha)) (fi3 : Fld Z h0 a0 "com/example/octopoll/octopoll/PageHeap" "position" "[I" (.ref pa)) (fi4 : Arv Z h0 ka kk .double (3 : Int32) [(.double d0), (.double d1), (.double d2)] (.double 0)) (fi5 : Arv Z h0 ha kh .int (3 : Int32) [(.int x0), (.int x1), (.int x2)] (.int (0 : Int32))) (fi6 : Arv Z h0 pa kp .int (3 : Int32) [(.int y0), (.int y1), (.int y2)] (.int (0 : Int32))) (g_ha : n0 ≤ ha) (g_pa : n0 ≤ pa) (ne_a0_ha : a0 ≠ ha) (ne_a0_pa : a0 ≠ pa) (ne_ha_pa : ha ≠ pa) (ne_a0_ka : a0 ≠ ka) (ne_ka_ha : ka ≠ ha) (ne_ka_pa : ka ≠ pa) (hx0 : own_bd x0) (hx1 : own_bd x1) (hx2 : own_bd x2) :
    MetFree l (⟨"com/example/octopoll/octopoll/PageHeap", "siftUp", "(I)V"⟩ : MethodName) (head1 (Jvm.Cond.code (⟨"com/example/octopoll/octopoll/PageHeap", "siftUp", "(I)V"⟩ : MethodName) prog_17_method_9_code 3 none :: ws) ({ frames := 1, cells := 0, slots := 0, locals := 16 } : Room)) (fun a U => a = #[(.ref a0), (.int (1 : Int32))] ∧ Z.Warmed39 U.vm ∧ U.heap = h0) (fun _ _ _ _ _ => True) (fun _ U o U' => ∃ v L, o = .returned v ∧ Q_su Z a0 (1 : Int32) ka ha pa kk kh kp d0 d1 d2 x0 x1 x2 y0 y1 y2 h0 n0 v U'.heap L ∧ FrameEnd U o U' L ({ frames := 1, cells := 0, slots := 0, locals := 16 } : Room).cells ({ frames := 1, cells := 0, slots := 0, locals := 16 } : Room).slots) := by
  refine MetFree.of_bodySF (plainFor_of_name pn_su1) hisR ?_
  intro p e s m args below meth c s₁ Bd hml0 hP hK
  obtain ⟨rfl, hZ, hh⟩ := hP
  have hx := Bd.exec
  have hby := Bd.bytes
  have hml : c.maxLocals = 3 := hml0
  have hown : s.vm.findClass "com/example/octopoll/octopoll/PageHeap" = some m.cls := findClass_of_methodNamed Bd.named
  have hnm := (name_of_methodNamed Bd.named Bd.method).1
  have X0 : Stand p l e ({ frames := 1, cells := 0, slots := 0, locals := 16 } : Room) s m #[(.ref a0), (.int (1 : Int32))] below meth c s₁ [] 0 0 := Stand.of_body Bd
  have e0 : s₁.heap = h0 := by rw [← hh, Bd.state]; rfl
  have N0 := Fr.nil n0
  have pre0 : Go p.tables e below (s₁.setTop (entryFrame m #[(.ref a0), (.int (1 : Int32))] 3)) s₁ (mkF m 0 #[.val (.ref a0), .val (.int (1 : Int32)), .unset] []) := fun t k => castTop (ef_su1 m a0) k
  have K0 : Keep h0 h0 [ha, pa] := Keep.refl _ _
  have pre1 : Go p.tables e below (s₁.setTop (entryFrame m #[(.ref a0), (.int (1 : Int32))] 3)) s₁ (mkF m 1 #[.val (.ref a0), .val (.int (1 : Int32)), .unset] [(.ref a0)]) := fun t k => pre0 t (by
      refine XS.aloadN X0.here hx rfl (hb hby d6_0) rfl rfl ?_
      exact k)
  obtain ⟨T2, X2, e2, st2⟩ := getF X0 hx hZ hown (host := "") (Or.inl (hw _ (List.mem_of_getElem? (i := 13) rfl))) Via.refl e0 fi2 (g := (mkF m 1 #[.val (.ref a0), .val (.int (1 : Int32)), .unset] [(.ref a0)])) rfl rfl (hb hby d6_1)
  have pre2 : Go p.tables e below (s₁.setTop (entryFrame m #[(.ref a0), (.int (1 : Int32))] 3)) T2 (mkF m 4 #[.val (.ref a0), .val (.int (1 : Int32)), .unset] [(.ref ha)]) := fun t k => pre1 t (st2 _ k)
  have pre3 : Go p.tables e below (s₁.setTop (entryFrame m #[(.ref a0), (.int (1 : Int32))] 3)) T2 (mkF m 5 #[.val (.ref a0), .val (.int (1 : Int32)), .unset] [(.int (1 : Int32)), (.ref ha)]) := fun t k => pre2 t (by
      refine XS.iloadN X2.here hx rfl (hb hby d6_4) rfl ?_
      exact k)
  obtain ⟨c4, Ar4, q4, S4, M4, H4, G4⟩ := (id fi5)
  have hin4 : ¬ ((1 : Int32) < 0 ∨ c4.slots.size ≤ ((1 : Int32)).toNatClampNeg) := inb_of S4 ⟨by decide, by decide⟩
  have pre4 : Go p.tables e below (s₁.setTop (entryFrame m #[(.ref a0), (.int (1 : Int32))] 3)) T2 (mkF m 6 #[.val (.ref a0), .val (.int (1 : Int32)), .unset] [(.int x1)]) := fun t k => pre3 t (X2.iaload hx (j := (1 : Int32)) (v := (.int x1)) (by rw [e2]; exact Ar4.1) (State.isArrayOf_alike hZ.alike Ar4.2.1) Ar4.2.2 hin4 (H4.at hin4 rfl) (g := (mkF m 5 #[.val (.ref a0), .val (.int (1 : Int32)), .unset] [(.int (1 : Int32)), (.ref ha)])) rfl rfl (hb hby d6_5) _ k)
  have pre5 : Go p.tables e below (s₁.setTop (entryFrame m #[(.ref a0), (.int (1 : Int32))] 3)) T2 (mkF m 14 #[.val (.ref a0), .val (.int (1 : Int32)), .val (.int x1)] [(.ref a0), (.int x1), (.ref a0)]) := fun t k => pre4 t (by
      refine XS.istoreN X2.here hx rfl (hb hby d6_6) rfl (l' := #[.val (.ref a0), .val (.int (1 : Int32)), .val (.int x1)]) rfl ?_
      show Steps p.tables e below (T2.setTop (mkF m 7 #[.val (.ref a0), .val (.int (1 : Int32)), .val (.int x1)] [])) _
      refine XS.iloadN X2.here hx rfl (hb hby d6_7) rfl ?_
      show Steps p.tables e below (T2.setTop (mkF m 8 #[.val (.ref a0), .val (.int (1 : Int32)), .val (.int x1)] [(.int (1 : Int32))])) _
      refine XS.ifNo X2.here hx rfl (hb hby d6_8) rfl ((if0 _ _).trans (tlt (by decide)).2.2.2) ?_
      show Steps p.tables e below (T2.setTop (mkF m 11 #[.val (.ref a0), .val (.int (1 : Int32)), .val (.int x1)] [])) _
      refine XS.aloadN X2.here hx rfl (hb hby d6_11) rfl rfl ?_
      show Steps p.tables e below (T2.setTop (mkF m 12 #[.val (.ref a0), .val (.int (1 : Int32)), .val (.int x1)] [(.ref a0)])) _
      refine XS.iloadN X2.here hx rfl (hb hby d6_12) rfl ?_
      show Steps p.tables e below (T2.setTop (mkF m 13 #[.val (.ref a0), .val (.int (1 : Int32)), .val (.int x1)] [(.int x1), (.ref a0)])) _
      refine XS.aloadN X2.here hx rfl (hb hby d6_13) rfl rfl ?_
      exact k)
  obtain ⟨T6, X6, e6, st6⟩ := getF X2 hx hZ hown (host := "") (Or.inl (hw _ (List.mem_of_getElem? (i := 13) rfl))) Via.refl e2 fi2 (g := (mkF m 14 #[.val (.ref a0), .val (.int (1 : Int32)), .val (.int x1)] [(.ref a0), (.int x1), (.ref a0)])) rfl rfl (hb hby d6_14)
  have pre6 : Go p.tables e below (s₁.setTop (entryFrame m #[(.ref a0), (.int (1 : Int32))] 3)) T6 (mkF m 17 #[.val (.ref a0), .val (.int (1 : Int32)), .val (.int x1)] [(.ref ha), (.int x1), (.ref a0)]) := fun t k => pre5 t (st6 _ k)
  have pre7 : Go p.tables e below (s₁.setTop (entryFrame m #[(.ref a0), (.int (1 : Int32))] 3)) T6 (mkF m 22 #[.val (.ref a0), .val (.int (1 : Int32)), .val (.int x1)] [(.int (0 : Int32)), (.ref ha), (.int x1), (.ref a0)]) := fun t k => pre6 t (by
      refine XS.iloadN X6.here hx rfl (hb hby d6_17) rfl ?_
      show Steps p.tables e below (T6.setTop (mkF m 18 #[.val (.ref a0), .val (.int (1 : Int32)), .val (.int x1)] [(.int (1 : Int32)), (.ref ha), (.int x1), (.ref a0)])) _
      refine XS.iconst X6.here hx rfl (hb hby d6_18) ?_
      show Steps p.tables e below (T6.setTop (mkF m 19 #[.val (.ref a0), .val (.int (1 : Int32)), .val (.int x1)] [(.int (1 : Int32)), (.int (1 : Int32)), (.ref ha), (.int x1), (.ref a0)])) _
      refine XS.isub X6.here hx rfl (hb hby d6_19) rfl ?_
      show Steps p.tables e below (T6.setTop (mkF m 20 #[.val (.ref a0), .val (.int (1 : Int32)), .val (.int x1)] [(.int (0 : Int32)), (.ref ha), (.int x1), (.ref a0)])) _
      refine XS.iconst X6.here hx rfl (hb hby d6_20) ?_
      show Steps p.tables e below (T6.setTop (mkF m 21 #[.val (.ref a0), .val (.int (1 : Int32)), .val (.int x1)] [(.int (2 : Int32)), (.int (0 : Int32)), (.ref ha), (.int x1), (.ref a0)])) _
      refine XS.idiv X6.here hx rfl (hb hby d6_21) rfl (by decide) ?_
      exact k)
  obtain ⟨c8, Ar8, q8, S8, M8, H8, G8⟩ := (id fi5)
  have hin8 : ¬ ((0 : Int32) < 0 ∨ c8.slots.size ≤ ((0 : Int32)).toNatClampNeg) := inb_of S8 ⟨by decide, by decide⟩
  have pre8 : Go p.tables e below (s₁.setTop (entryFrame m #[(.ref a0), (.int (1 : Int32))] 3)) T6 (mkF m 23 #[.val (.ref a0), .val (.int (1 : Int32)), .val (.int x1)] [(.int x0), (.int x1), (.ref a0)]) := fun t k => pre7 t (X6.iaload hx (j := (0 : Int32)) (v := (.int x0)) (by rw [e6]; exact Ar8.1) (State.isArrayOf_alike hZ.alike Ar8.2.1) Ar8.2.2 hin8 (H8.at hin8 rfl) (g := (mkF m 22 #[.val (.ref a0), .val (.int (1 : Int32)), .val (.int x1)] [(.int (0 : Int32)), (.ref ha), (.int x1), (.ref a0)])) rfl rfl (hb hby d6_22) _ k)
  obtain ⟨cq9, q9, q9'⟩ := fi0.cell
  obtain ⟨_, _, ⟨T9, L9, k9, n9⟩, -, X9, ⟨Lc9, hQ9, l9, y9, z9⟩, st9⟩ := own_private X6 hx (y := (⟨"com/example/octopoll/octopoll/PageHeap", "less", "(II)Z"⟩ : MethodName)) hown (mvT hZ (hw _ (List.mem_of_getElem? (i := 38) rfl))) (mvT hZ (hw _ (List.mem_of_getElem? (i := 39) rfl))) (mvT hZ (hw _ (List.mem_of_getElem? (i := 26) rfl))) rfl (Cond.privateMethod_at (mvP hZ (hw _ (List.mem_of_getElem? (i := 40) rfl)) (args := #[]))) (mvT hZ (hw _ (List.mem_of_getElem? (i := 41) rfl))) (by decide) (backOf (W := 0) (rm_les l Z av0 hw [] a0 x1 x0 ka kk d0 d1 d2 h0 n0 Z0 fi1 fi4 hx1 hx0) hZ (hw _ (List.mem_of_getElem? (i := 41) rfl)) (hw _ (List.mem_of_getElem? (i := 3) rfl)) (by decide) (by decide)) (a := a0) (by rw [e6]; exact q9) q9' (g := (mkF m 23 #[.val (.ref a0), .val (.int (1 : Int32)), .val (.int x1)] [(.int x0), (.int x1), (.ref a0)])) rfl (by rw [hml]; rfl) (argsL := [(.int x1), (.int x0)]) (rest := []) (lenOf pd_1 rfl) rfl (by show 2 * 0 + _ ≤ _; exact Nat.le_of_eq rfl) (hb hby d6_23) (fun _ _ => ⟨rfl, e6, (by decide : 0 + 0 ≤ _), (by decide : 0 + 0 ≤ _)⟩)
  dsimp only [Pt.U, Pt.locs, Pt.cells, Pt.slots] at X9 l9 y9 z9 st9 hQ9
  subst l9 y9 z9
  obtain ⟨zl9, hv9, N9q, K9⟩ := hQ9
  have f10 : n0 ≤ T9.heap.size := Nat.le_trans Z0 K9.1
  have f11 : Exa Z T9.heap a0 "com/example/octopoll/octopoll/PageHeap" := fi0.keep K9
  have f12 : Fld Z T9.heap a0 "com/example/octopoll/octopoll/PageHeap" "key" "[D" (.ref ka) := fi1.keep K9 nin0
  have f13 : Fld Z T9.heap a0 "com/example/octopoll/octopoll/PageHeap" "heap" "[I" (.ref ha) := fi2.keep K9 nin0
  have f14 : Fld Z T9.heap a0 "com/example/octopoll/octopoll/PageHeap" "position" "[I" (.ref pa) := fi3.keep K9 nin0
  have f15 : Arv Z T9.heap ka kk .double (3 : Int32) [(.double d0), (.double d1), (.double d2)] (.double 0) := fi4.keep K9 nin0
  have f16 : Arv Z T9.heap ha kh .int (3 : Int32) [(.int x0), (.int x1), (.int x2)] (.int (0 : Int32)) := fi5.keep K9 nin0
  have f17 : Arv Z T9.heap pa kp .int (3 : Int32) [(.int y0), (.int y1), (.int y2)] (.int (0 : Int32)) := fi6.keep K9 nin0
  have f18 : Keep h0 T9.heap [ha, pa] := K0.trans K9 all0
  subst hv9
  have N9 := Fr.app N0 N9q
  have pre9 : Go p.tables e below (s₁.setTop (entryFrame m #[(.ref a0), (.int (1 : Int32))] 3)) T9 (mkF m 26 #[.val (.ref a0), .val (.int (1 : Int32)), .val (.int x1)] [(.int zl9)]) := fun t k => pre8 t (st9 _ k)
  by_cases hc19 : zl9 = (0 : Int32)
  · -- hc19: True
    have pre20 : Go p.tables e below (s₁.setTop (entryFrame m #[(.ref a0), (.int (1 : Int32))] 3)) T9 (mkF m 56 #[.val (.ref a0), .val (.int (1 : Int32)), .val (.int x1)] [(.int (1 : Int32)), (.int x1), (.ref a0)]) := fun t k => pre9 t (by
        refine XS.ifYes X9.here hx rfl (pc0 := 26) (pc' := 53) rfl (hb hby d6_26) rfl ((if0 _ _).trans (teq hc19).1) (by decide) (by decide) ?_
        show Steps p.tables e below (T9.setTop (mkF m 53 #[.val (.ref a0), .val (.int (1 : Int32)), .val (.int x1)] [])) _
        refine XS.aloadN X9.here hx rfl (hb hby d6_53) rfl rfl ?_
        show Steps p.tables e below (T9.setTop (mkF m 54 #[.val (.ref a0), .val (.int (1 : Int32)), .val (.int x1)] [(.ref a0)])) _
        refine XS.iloadN X9.here hx rfl (hb hby d6_54) rfl ?_
        show Steps p.tables e below (T9.setTop (mkF m 55 #[.val (.ref a0), .val (.int (1 : Int32)), .val (.int x1)] [(.int x1), (.ref a0)])) _
        refine XS.iloadN X9.here hx rfl (hb hby d6_55) rfl ?_
        exact k)
    obtain ⟨cq21, q21, q21'⟩ := f11.cell
    obtain ⟨_, _, ⟨T21, L21, k21, n21⟩, -, X21, ⟨Lc21, hQ21, l21, y21, z21⟩, st21⟩ := own_private X9 hx (y := (⟨"com/example/octopoll/octopoll/PageHeap", "place", "(II)V"⟩ : MethodName)) hown (mvT hZ (hw _ (List.mem_of_getElem? (i := 30) rfl))) (mvT hZ (hw _ (List.mem_of_getElem? (i := 31) rfl))) (mvT hZ (hw _ (List.mem_of_getElem? (i := 26) rfl))) rfl (Cond.privateMethod_at (mvP hZ (hw _ (List.mem_of_getElem? (i := 32) rfl)) (args := #[]))) (mvT hZ (hw _ (List.mem_of_getElem? (i := 33) rfl))) (by decide) (backOf (W := 0) (rm_plc l Z av0 hw [] a0 x1 (1 : Int32) ha pa kh kp x0 x1 x2 y0 y1 y2 T9.heap n0 f10 f13 f14 f16 f17 g_ha g_pa ne_a0_ha ne_a0_pa ne_ha_pa hx1 (by decide)) hZ (hw _ (List.mem_of_getElem? (i := 33) rfl)) (hw _ (List.mem_of_getElem? (i := 3) rfl)) (by decide) (by decide)) (a := a0) q21 q21' (g := (mkF m 56 #[.val (.ref a0), .val (.int (1 : Int32)), .val (.int x1)] [(.int (1 : Int32)), (.int x1), (.ref a0)])) rfl (by rw [hml]; rfl) (argsL := [(.int x1), (.int (1 : Int32))]) (rest := []) (lenOf pd_0 rfl) rfl (by show 2 * 0 + _ ≤ _; exact Nat.le_of_eq rfl) (hb hby d6_56) (fun _ _ => ⟨rfl, rfl, (by decide : 0 + 0 ≤ _), (by decide : 0 + 0 ≤ _)⟩)
    dsimp only [Pt.U, Pt.locs, Pt.cells, Pt.slots] at X21 l21 y21 z21 st21 hQ21
    subst l21 y21 z21
    obtain ⟨hv21, N21q, K21, fo21_0, fo21_1⟩ := hQ21
    have f22 : n0 ≤ T21.heap.size := Nat.le_trans f10 K21.1
    have f23 : Exa Z T21.heap a0 "com/example/octopoll/octopoll/PageHeap" := f11.keep K21
    have f24 : Fld Z T21.heap a0 "com/example/octopoll/octopoll/PageHeap" "key" "[D" (.ref ka) := f12.keep K21 (ninS ne_a0_ha (ninS ne_a0_pa nin0))
    have f25 : Fld Z T21.heap a0 "com/example/octopoll/octopoll/PageHeap" "heap" "[I" (.ref ha) := f13.keep K21 (ninS ne_a0_ha (ninS ne_a0_pa nin0))
    have f26 : Fld Z T21.heap a0 "com/example/octopoll/octopoll/PageHeap" "position" "[I" (.ref pa) := f14.keep K21 (ninS ne_a0_ha (ninS ne_a0_pa nin0))
    have f27 : Arv Z T21.heap ka kk .double (3 : Int32) [(.double d0), (.double d1), (.double d2)] (.double 0) := f15.keep K21 (ninS ne_ka_ha (ninS ne_ka_pa nin0))
    have f28 : Keep h0 T21.heap [ha, pa] := f18.trans K21 (allS (Or.inl (List.mem_of_getElem? (i := 0) rfl)) (allS (Or.inl (List.mem_of_getElem? (i := 1) rfl)) all0))
    subst hv21
    have N21 := Fr.app N9 N21q
    have pre21 : Go p.tables e below (s₁.setTop (entryFrame m #[(.ref a0), (.int (1 : Int32))] 3)) T21 (mkF m 59 #[.val (.ref a0), .val (.int (1 : Int32)), .val (.int x1)] []) := fun t k => pre20 t (st21 _ k)
    obtain ⟨fs, hr, hrun, hended, hW, hsame⟩ := X21.leave (v := none) (fun _ => rfl) (BodyLoose.notSynchronized Bd)
    refine ⟨_, _, pre21 _ ?_, hrun, hended, _, _, rfl, ?_, ⟨_, rfl⟩, hW, hsame.mono (Nat.le_of_ble_eq_true rfl) (Nat.le_of_ble_eq_true rfl)⟩
    · exact X21.returnOut hx Bd.returns (hb hby d6_59) hr
    · show Q_su Z a0 (1 : Int32) ka ha pa kk kh kp d0 d1 d2 x0 x1 x2 y0 y1 y2 h0 n0 _ T21.heap _
      exact ⟨x0, x1, x2, (own_u 0 x1 (1 : Int32) y0), (own_u 1 x1 (1 : Int32) y1), (own_u 2 x1 (1 : Int32) y2), rfl, N21, f28, fo21_0, fo21_1, (Or.inl rfl)⟩
  · -- hc19: False
    have pre29 : Go p.tables e below (s₁.setTop (entryFrame m #[(.ref a0), (.int (1 : Int32))] 3)) T9 (mkF m 31 #[.val (.ref a0), .val (.int (1 : Int32)), .val (.int x1)] [(.ref a0), (.ref a0)]) := fun t k => pre9 t (by
        refine XS.ifNo X9.here hx rfl (hb hby d6_26) rfl ((if0 _ _).trans (feq hc19).1) ?_
        show Steps p.tables e below (T9.setTop (mkF m 29 #[.val (.ref a0), .val (.int (1 : Int32)), .val (.int x1)] [])) _
        refine XS.aloadN X9.here hx rfl (hb hby d6_29) rfl rfl ?_
        show Steps p.tables e below (T9.setTop (mkF m 30 #[.val (.ref a0), .val (.int (1 : Int32)), .val (.int x1)] [(.ref a0)])) _
        refine XS.aloadN X9.here hx rfl (hb hby d6_30) rfl rfl ?_
        exact k)
    obtain ⟨T30, X30, e30, st30⟩ := getF X9 hx hZ hown (host := "") (Or.inl (hw _ (List.mem_of_getElem? (i := 13) rfl))) Via.refl rfl f13 (g := (mkF m 31 #[.val (.ref a0), .val (.int (1 : Int32)), .val (.int x1)] [(.ref a0), (.ref a0)])) rfl rfl (hb hby d6_31)
    have pre30 : Go p.tables e below (s₁.setTop (entryFrame m #[(.ref a0), (.int (1 : Int32))] 3)) T30 (mkF m 34 #[.val (.ref a0), .val (.int (1 : Int32)), .val (.int x1)] [(.ref ha), (.ref a0)]) := fun t k => pre29 t (st30 _ k)
    have pre31 : Go p.tables e below (s₁.setTop (entryFrame m #[(.ref a0), (.int (1 : Int32))] 3)) T30 (mkF m 39 #[.val (.ref a0), .val (.int (1 : Int32)), .val (.int x1)] [(.int (0 : Int32)), (.ref ha), (.ref a0)]) := fun t k => pre30 t (by
        refine XS.iloadN X30.here hx rfl (hb hby d6_34) rfl ?_
        show Steps p.tables e below (T30.setTop (mkF m 35 #[.val (.ref a0), .val (.int (1 : Int32)), .val (.int x1)] [(.int (1 : Int32)), (.ref ha), (.ref a0)])) _
        refine XS.iconst X30.here hx rfl (hb hby d6_35) ?_
        show Steps p.tables e below (T30.setTop (mkF m 36 #[.val (.ref a0), .val (.int (1 : Int32)), .val (.int x1)] [(.int (1 : Int32)), (.int (1 : Int32)), (.ref ha), (.ref a0)])) _
        refine XS.isub X30.here hx rfl (hb hby d6_36) rfl ?_
        show Steps p.tables e below (T30.setTop (mkF m 37 #[.val (.ref a0), .val (.int (1 : Int32)), .val (.int x1)] [(.int (0 : Int32)), (.ref ha), (.ref a0)])) _
        refine XS.iconst X30.here hx rfl (hb hby d6_37) ?_
        show Steps p.tables e below (T30.setTop (mkF m 38 #[.val (.ref a0), .val (.int (1 : Int32)), .val (.int x1)] [(.int (2 : Int32)), (.int (0 : Int32)), (.ref ha), (.ref a0)])) _
        refine XS.idiv X30.here hx rfl (hb hby d6_38) rfl (by decide) ?_
        exact k)
    obtain ⟨c32, Ar32, q32, S32, M32, H32, G32⟩ := (id f16)
    have hin32 : ¬ ((0 : Int32) < 0 ∨ c32.slots.size ≤ ((0 : Int32)).toNatClampNeg) := inb_of S32 ⟨by decide, by decide⟩
    have pre32 : Go p.tables e below (s₁.setTop (entryFrame m #[(.ref a0), (.int (1 : Int32))] 3)) T30 (mkF m 40 #[.val (.ref a0), .val (.int (1 : Int32)), .val (.int x1)] [(.int x0), (.ref a0)]) := fun t k => pre31 t (X30.iaload hx (j := (0 : Int32)) (v := (.int x0)) (by rw [e30]; exact Ar32.1) (State.isArrayOf_alike hZ.alike Ar32.2.1) Ar32.2.2 hin32 (H32.at hin32 rfl) (g := (mkF m 39 #[.val (.ref a0), .val (.int (1 : Int32)), .val (.int x1)] [(.int (0 : Int32)), (.ref ha), (.ref a0)])) rfl rfl (hb hby d6_39) _ k)
    have pre33 : Go p.tables e below (s₁.setTop (entryFrame m #[(.ref a0), (.int (1 : Int32))] 3)) T30 (mkF m 41 #[.val (.ref a0), .val (.int (1 : Int32)), .val (.int x1)] [(.int (1 : Int32)), (.int x0), (.ref a0)]) := fun t k => pre32 t (by
        refine XS.iloadN X30.here hx rfl (hb hby d6_40) rfl ?_
        exact k)
    obtain ⟨cq34, q34, q34'⟩ := f11.cell
    obtain ⟨_, _, ⟨T34, L34, k34, n34⟩, -, X34, ⟨Lc34, hQ34, l34, y34, z34⟩, st34⟩ := own_private X30 hx (y := (⟨"com/example/octopoll/octopoll/PageHeap", "place", "(II)V"⟩ : MethodName)) hown (mvT hZ (hw _ (List.mem_of_getElem? (i := 30) rfl))) (mvT hZ (hw _ (List.mem_of_getElem? (i := 31) rfl))) (mvT hZ (hw _ (List.mem_of_getElem? (i := 26) rfl))) rfl (Cond.privateMethod_at (mvP hZ (hw _ (List.mem_of_getElem? (i := 32) rfl)) (args := #[]))) (mvT hZ (hw _ (List.mem_of_getElem? (i := 33) rfl))) (by decide) (backOf (W := 0) (rm_plc l Z av0 hw [] a0 x0 (1 : Int32) ha pa kh kp x0 x1 x2 y0 y1 y2 T9.heap n0 f10 f13 f14 f16 f17 g_ha g_pa ne_a0_ha ne_a0_pa ne_ha_pa hx0 (by decide)) hZ (hw _ (List.mem_of_getElem? (i := 33) rfl)) (hw _ (List.mem_of_getElem? (i := 3) rfl)) (by decide) (by decide)) (a := a0) (by rw [e30]; exact q34) q34' (g := (mkF m 41 #[.val (.ref a0), .val (.int (1 : Int32)), .val (.int x1)] [(.int (1 : Int32)), (.int x0), (.ref a0)])) rfl (by rw [hml]; rfl) (argsL := [(.int x0), (.int (1 : Int32))]) (rest := []) (lenOf pd_0 rfl) rfl (by show 2 * 0 + _ ≤ _; exact Nat.le_of_eq rfl) (hb hby d6_41) (fun _ _ => ⟨rfl, e30, (by decide : 0 + 0 ≤ _), (by decide : 0 + 0 ≤ _)⟩)
    dsimp only [Pt.U, Pt.locs, Pt.cells, Pt.slots] at X34 l34 y34 z34 st34 hQ34
    subst l34 y34 z34
    obtain ⟨hv34, N34q, K34, fo34_0, fo34_1⟩ := hQ34
    have f35 : n0 ≤ T34.heap.size := Nat.le_trans f10 K34.1
    have f36 : Exa Z T34.heap a0 "com/example/octopoll/octopoll/PageHeap" := f11.keep K34
    have f37 : Fld Z T34.heap a0 "com/example/octopoll/octopoll/PageHeap" "key" "[D" (.ref ka) := f12.keep K34 (ninS ne_a0_ha (ninS ne_a0_pa nin0))
    have f38 : Fld Z T34.heap a0 "com/example/octopoll/octopoll/PageHeap" "heap" "[I" (.ref ha) := f13.keep K34 (ninS ne_a0_ha (ninS ne_a0_pa nin0))
    have f39 : Fld Z T34.heap a0 "com/example/octopoll/octopoll/PageHeap" "position" "[I" (.ref pa) := f14.keep K34 (ninS ne_a0_ha (ninS ne_a0_pa nin0))
    have f40 : Arv Z T34.heap ka kk .double (3 : Int32) [(.double d0), (.double d1), (.double d2)] (.double 0) := f15.keep K34 (ninS ne_ka_ha (ninS ne_ka_pa nin0))
    have f41 : Keep h0 T34.heap [ha, pa] := f18.trans K34 (allS (Or.inl (List.mem_of_getElem? (i := 0) rfl)) (allS (Or.inl (List.mem_of_getElem? (i := 1) rfl)) all0))
    subst hv34
    have N34 := Fr.app N9 N34q
    have pre34 : Go p.tables e below (s₁.setTop (entryFrame m #[(.ref a0), (.int (1 : Int32))] 3)) T34 (mkF m 44 #[.val (.ref a0), .val (.int (1 : Int32)), .val (.int x1)] []) := fun t k => pre33 t (st34 _ k)
    have pre42 : Go p.tables e below (s₁.setTop (entryFrame m #[(.ref a0), (.int (1 : Int32))] 3)) T34 (mkF m 56 #[.val (.ref a0), .val (.int (0 : Int32)), .val (.int x1)] [(.int (0 : Int32)), (.int x1), (.ref a0)]) := fun t k => pre34 t (by
        refine XS.iloadN X34.here hx rfl (hb hby d6_44) rfl ?_
        show Steps p.tables e below (T34.setTop (mkF m 45 #[.val (.ref a0), .val (.int (1 : Int32)), .val (.int x1)] [(.int (1 : Int32))])) _
        refine XS.iconst X34.here hx rfl (hb hby d6_45) ?_
        show Steps p.tables e below (T34.setTop (mkF m 46 #[.val (.ref a0), .val (.int (1 : Int32)), .val (.int x1)] [(.int (1 : Int32)), (.int (1 : Int32))])) _
        refine XS.isub X34.here hx rfl (hb hby d6_46) rfl ?_
        show Steps p.tables e below (T34.setTop (mkF m 47 #[.val (.ref a0), .val (.int (1 : Int32)), .val (.int x1)] [(.int (0 : Int32))])) _
        refine XS.iconst X34.here hx rfl (hb hby d6_47) ?_
        show Steps p.tables e below (T34.setTop (mkF m 48 #[.val (.ref a0), .val (.int (1 : Int32)), .val (.int x1)] [(.int (2 : Int32)), (.int (0 : Int32))])) _
        refine XS.idiv X34.here hx rfl (hb hby d6_48) rfl (by decide) ?_
        show Steps p.tables e below (T34.setTop (mkF m 49 #[.val (.ref a0), .val (.int (1 : Int32)), .val (.int x1)] [(.int (0 : Int32))])) _
        refine XS.istoreN X34.here hx rfl (hb hby d6_49) rfl (l' := #[.val (.ref a0), .val (.int (0 : Int32)), .val (.int x1)]) rfl ?_
        show Steps p.tables e below (T34.setTop (mkF m 50 #[.val (.ref a0), .val (.int (0 : Int32)), .val (.int x1)] [])) _
        refine XS.goto X34.here hx rfl (pc0 := 50) (pc' := 7) rfl (hb hby d6_50) (by decide) (by decide) ?_
        show Steps p.tables e below (T34.setTop (mkF m 7 #[.val (.ref a0), .val (.int (0 : Int32)), .val (.int x1)] [])) _
        refine XS.iloadN X34.here hx rfl (hb hby d6_7) rfl ?_
        show Steps p.tables e below (T34.setTop (mkF m 8 #[.val (.ref a0), .val (.int (0 : Int32)), .val (.int x1)] [(.int (0 : Int32))])) _
        refine XS.ifYes X34.here hx rfl (pc0 := 8) (pc' := 53) rfl (hb hby d6_8) rfl ((if0 _ _).trans (flt (by decide)).2.2.2) (by decide) (by decide) ?_
        show Steps p.tables e below (T34.setTop (mkF m 53 #[.val (.ref a0), .val (.int (0 : Int32)), .val (.int x1)] [])) _
        refine XS.aloadN X34.here hx rfl (hb hby d6_53) rfl rfl ?_
        show Steps p.tables e below (T34.setTop (mkF m 54 #[.val (.ref a0), .val (.int (0 : Int32)), .val (.int x1)] [(.ref a0)])) _
        refine XS.iloadN X34.here hx rfl (hb hby d6_54) rfl ?_
        show Steps p.tables e below (T34.setTop (mkF m 55 #[.val (.ref a0), .val (.int (0 : Int32)), .val (.int x1)] [(.int x1), (.ref a0)])) _
        refine XS.iloadN X34.here hx rfl (hb hby d6_55) rfl ?_
        exact k)
    obtain ⟨cq43, q43, q43'⟩ := f36.cell
    obtain ⟨_, _, ⟨T43, L43, k43, n43⟩, -, X43, ⟨Lc43, hQ43, l43, y43, z43⟩, st43⟩ := own_private X34 hx (y := (⟨"com/example/octopoll/octopoll/PageHeap", "place", "(II)V"⟩ : MethodName)) hown (mvT hZ (hw _ (List.mem_of_getElem? (i := 30) rfl))) (mvT hZ (hw _ (List.mem_of_getElem? (i := 31) rfl))) (mvT hZ (hw _ (List.mem_of_getElem? (i := 26) rfl))) rfl (Cond.privateMethod_at (mvP hZ (hw _ (List.mem_of_getElem? (i := 32) rfl)) (args := #[]))) (mvT hZ (hw _ (List.mem_of_getElem? (i := 33) rfl))) (by decide) (backOf (W := 0) (rm_plc l Z av0 hw [] a0 x1 (0 : Int32) ha pa kh kp x0 x0 x2 (own_u 0 x0 (1 : Int32) y0) (own_u 1 x0 (1 : Int32) y1) (own_u 2 x0 (1 : Int32) y2) T34.heap n0 f35 f38 f39 fo34_0 fo34_1 g_ha g_pa ne_a0_ha ne_a0_pa ne_ha_pa hx1 (by decide)) hZ (hw _ (List.mem_of_getElem? (i := 33) rfl)) (hw _ (List.mem_of_getElem? (i := 3) rfl)) (by decide) (by decide)) (a := a0) q43 q43' (g := (mkF m 56 #[.val (.ref a0), .val (.int (0 : Int32)), .val (.int x1)] [(.int (0 : Int32)), (.int x1), (.ref a0)])) rfl (by rw [hml]; rfl) (argsL := [(.int x1), (.int (0 : Int32))]) (rest := []) (lenOf pd_0 rfl) rfl (by show 2 * 0 + _ ≤ _; exact Nat.le_of_eq rfl) (hb hby d6_56) (fun _ _ => ⟨rfl, rfl, (by decide : 0 + 0 ≤ _), (by decide : 0 + 0 ≤ _)⟩)
    dsimp only [Pt.U, Pt.locs, Pt.cells, Pt.slots] at X43 l43 y43 z43 st43 hQ43
    subst l43 y43 z43
    obtain ⟨hv43, N43q, K43, fo43_0, fo43_1⟩ := hQ43
    have f44 : n0 ≤ T43.heap.size := Nat.le_trans f35 K43.1
    have f45 : Exa Z T43.heap a0 "com/example/octopoll/octopoll/PageHeap" := f36.keep K43
    have f46 : Fld Z T43.heap a0 "com/example/octopoll/octopoll/PageHeap" "key" "[D" (.ref ka) := f37.keep K43 (ninS ne_a0_ha (ninS ne_a0_pa nin0))
    have f47 : Fld Z T43.heap a0 "com/example/octopoll/octopoll/PageHeap" "heap" "[I" (.ref ha) := f38.keep K43 (ninS ne_a0_ha (ninS ne_a0_pa nin0))
    have f48 : Fld Z T43.heap a0 "com/example/octopoll/octopoll/PageHeap" "position" "[I" (.ref pa) := f39.keep K43 (ninS ne_a0_ha (ninS ne_a0_pa nin0))
    have f49 : Arv Z T43.heap ka kk .double (3 : Int32) [(.double d0), (.double d1), (.double d2)] (.double 0) := f40.keep K43 (ninS ne_ka_ha (ninS ne_ka_pa nin0))
    have f50 : Keep h0 T43.heap [ha, pa] := f41.trans K43 (allS (Or.inl (List.mem_of_getElem? (i := 0) rfl)) (allS (Or.inl (List.mem_of_getElem? (i := 1) rfl)) all0))
    subst hv43
    have N43 := Fr.app N34 N43q
    have pre43 : Go p.tables e below (s₁.setTop (entryFrame m #[(.ref a0), (.int (1 : Int32))] 3)) T43 (mkF m 59 #[.val (.ref a0), .val (.int (0 : Int32)), .val (.int x1)] []) := fun t k => pre42 t (st43 _ k)
    obtain ⟨fs, hr, hrun, hended, hW, hsame⟩ := X43.leave (v := none) (fun _ => rfl) (BodyLoose.notSynchronized Bd)
    refine ⟨_, _, pre43 _ ?_, hrun, hended, _, _, rfl, ?_, ⟨_, rfl⟩, hW, hsame.mono (Nat.le_of_ble_eq_true rfl) (Nat.le_of_ble_eq_true rfl)⟩
    · exact X43.returnOut hx Bd.returns (hb hby d6_59) hr
    · show Q_su Z a0 (1 : Int32) ka ha pa kk kh kp d0 d1 d2 x0 x1 x2 y0 y1 y2 h0 n0 _ T43.heap _
      exact ⟨x1, x0, x2, (own_u 0 x1 (0 : Int32) (own_u 0 x0 (1 : Int32) y0)), (own_u 1 x1 (0 : Int32) (own_u 1 x0 (1 : Int32) y1)), (own_u 2 x1 (0 : Int32) (own_u 2 x0 (1 : Int32) y2)), rfl, N43, f50, fo43_0, fo43_1, (Or.inr ⟨by decide, rfl⟩)⟩
theorem pn_su2 : plainName "com/example/octopoll/octopoll/PageHeap" = true := by first | (simp [plainName, overriddenIn]; done) | decide +kernel
theorem ef_su2 (m : MethodId) (a0 : Addr) : entryFrame m #[(.ref a0), (.int (2 : Int32))] 3 = mkF m 0 #[.val (.ref a0), .val (.int (2 : Int32)), .unset] [] := by first | (simp [entryFrame, mkF, argsToLocals, Value.category]; done) | rfl
set_option maxRecDepth 65536 in
set_option maxHeartbeats 40000000 in
theorem rm_su2 (l : Launch) (Z : State) (av0 : Array Value) (hw : ∀ d ∈ tables_1, d.before av0 Z = true) (ws : List Jvm.Cond) (a0 : Addr) (ka : Addr) (ha : Addr) (pa : Addr) (kk : ClassId) (kh : ClassId) (kp : ClassId) (d0 : UInt64) (d1 : UInt64) (d2 : UInt64) (x0 : Int32) (x1 : Int32) (x2 : Int32) (y0 : Int32) (y1 : Int32) (y2 : Int32) (h0 : Heap) (n0 : Nat) (Z0 : n0 ≤ h0.size) (fi0 : Exa Z h0 a0 "com/example/octopoll/octopoll/PageHeap") (fi1 : Fld Z h0 a0 "com/example/octopoll/octopoll/PageHeap" "key" "[D" (.ref ka)) (fi2 : Fld Z h0 a0 "com/example/octopoll/octopoll/PageHeap" "heap" "[I" (.ref ha)) (fi3 : Fld Z h0 a0 "com/example/octopoll/octopoll/PageHeap" "position" "[I" (.ref pa)) (fi4 : Arv Z h0 ka kk .double (3 : Int32) [(.double d0), (.double d1), (.double d2)] (.double 0)) (fi5 : Arv Z h0 ha kh .int (3 : Int32) [(.int x0), (.int x1), (.int x2)] (.int (0 : Int32))) (fi6 : Arv Z h0 pa kp .int (3 : Int32) [(.int y0), (.int y1), (.int y2)] (.int (0 : Int32))) (g_ha : n0 ≤ ha) (g_pa : n0 ≤ pa) (ne_a0_ha : a0 ≠ ha) (ne_a0_pa : a0 ≠ pa) (ne_ha_pa : ha ≠ pa) (ne_a0_ka : a0 ≠ ka) (ne_ka_ha : ka ≠ ha) (ne_ka_pa : ka ≠ pa) (hx0 : own_bd x0) (hx1 : own_bd x1) (hx2 : own_bd x2) :
    MetFree l (⟨"com/example/octopoll/octopoll/PageHeap", "siftUp", "(I)V"⟩ : MethodName) (head1 (Jvm.Cond.code (⟨"com/example/octopoll/octopoll/PageHeap", "siftUp", "(I)V"⟩ : MethodName) prog_17_method_9_code 3 none :: ws) ({ frames := 1, cells := 0, slots := 0, locals := 16 } : Room)) (fun a U => a = #[(.ref a0), (.int (2 : Int32))] ∧ Z.Warmed39 U.vm ∧ U.heap = h0) (fun _ _ _ _ _ => True) (fun _ U o U' => ∃ v L, o = .returned v ∧ Q_su Z a0 (2 : Int32) ka ha pa kk kh kp d0 d1 d2 x0 x1 x2 y0 y1 y2 h0 n0 v U'.heap L ∧ FrameEnd U o U' L ({ frames := 1, cells := 0, slots := 0, locals := 16 } : Room).cells ({ frames := 1, cells := 0, slots := 0, locals := 16 } : Room).slots) := by
  refine MetFree.of_bodySF (plainFor_of_name pn_su2) hisR ?_
  intro p e s m args below meth c s₁ Bd hml0 hP hK
  obtain ⟨rfl, hZ, hh⟩ := hP
  have hx := Bd.exec
  have hby := Bd.bytes
  have hml : c.maxLocals = 3 := hml0
  have hown : s.vm.findClass "com/example/octopoll/octopoll/PageHeap" = some m.cls := findClass_of_methodNamed Bd.named
  have hnm := (name_of_methodNamed Bd.named Bd.method).1
  have X0 : Stand p l e ({ frames := 1, cells := 0, slots := 0, locals := 16 } : Room) s m #[(.ref a0), (.int (2 : Int32))] below meth c s₁ [] 0 0 := Stand.of_body Bd
  have e0 : s₁.heap = h0 := by rw [← hh, Bd.state]; rfl
  have N0 := Fr.nil n0
  have pre0 : Go p.tables e below (s₁.setTop (entryFrame m #[(.ref a0), (.int (2 : Int32))] 3)) s₁ (mkF m 0 #[.val (.ref a0), .val (.int (2 : Int32)), .unset] []) := fun t k => castTop (ef_su2 m a0) k
  have K0 : Keep h0 h0 [ha, pa] := Keep.refl _ _
  have pre1 : Go p.tables e below (s₁.setTop (entryFrame m #[(.ref a0), (.int (2 : Int32))] 3)) s₁ (mkF m 1 #[.val (.ref a0), .val (.int (2 : Int32)), .unset] [(.ref a0)]) := fun t k => pre0 t (by
      refine XS.aloadN X0.here hx rfl (hb hby d6_0) rfl rfl ?_
      exact k)
  obtain ⟨T2, X2, e2, st2⟩ := getF X0 hx hZ hown (host := "") (Or.inl (hw _ (List.mem_of_getElem? (i := 13) rfl))) Via.refl e0 fi2 (g := (mkF m 1 #[.val (.ref a0), .val (.int (2 : Int32)), .unset] [(.ref a0)])) rfl rfl (hb hby d6_1)
  have pre2 : Go p.tables e below (s₁.setTop (entryFrame m #[(.ref a0), (.int (2 : Int32))] 3)) T2 (mkF m 4 #[.val (.ref a0), .val (.int (2 : Int32)), .unset] [(.ref ha)]) := fun t k => pre1 t (st2 _ k)
  have pre3 : Go p.tables e below (s₁.setTop (entryFrame m #[(.ref a0), (.int (2 : Int32))] 3)) T2 (mkF m 5 #[.val (.ref a0), .val (.int (2 : Int32)), .unset] [(.int (2 : Int32)), (.ref ha)]) := fun t k => pre2 t (by
      refine XS.iloadN X2.here hx rfl (hb hby d6_4) rfl ?_
      exact k)
  obtain ⟨c4, Ar4, q4, S4, M4, H4, G4⟩ := (id fi5)
  have hin4 : ¬ ((2 : Int32) < 0 ∨ c4.slots.size ≤ ((2 : Int32)).toNatClampNeg) := inb_of S4 ⟨by decide, by decide⟩
  have pre4 : Go p.tables e below (s₁.setTop (entryFrame m #[(.ref a0), (.int (2 : Int32))] 3)) T2 (mkF m 6 #[.val (.ref a0), .val (.int (2 : Int32)), .unset] [(.int x2)]) := fun t k => pre3 t (X2.iaload hx (j := (2 : Int32)) (v := (.int x2)) (by rw [e2]; exact Ar4.1) (State.isArrayOf_alike hZ.alike Ar4.2.1) Ar4.2.2 hin4 (H4.at hin4 rfl) (g := (mkF m 5 #[.val (.ref a0), .val (.int (2 : Int32)), .unset] [(.int (2 : Int32)), (.ref ha)])) rfl rfl (hb hby d6_5) _ k)
  have pre5 : Go p.tables e below (s₁.setTop (entryFrame m #[(.ref a0), (.int (2 : Int32))] 3)) T2 (mkF m 14 #[.val (.ref a0), .val (.int (2 : Int32)), .val (.int x2)] [(.ref a0), (.int x2), (.ref a0)]) := fun t k => pre4 t (by
      refine XS.istoreN X2.here hx rfl (hb hby d6_6) rfl (l' := #[.val (.ref a0), .val (.int (2 : Int32)), .val (.int x2)]) rfl ?_
      show Steps p.tables e below (T2.setTop (mkF m 7 #[.val (.ref a0), .val (.int (2 : Int32)), .val (.int x2)] [])) _
      refine XS.iloadN X2.here hx rfl (hb hby d6_7) rfl ?_
      show Steps p.tables e below (T2.setTop (mkF m 8 #[.val (.ref a0), .val (.int (2 : Int32)), .val (.int x2)] [(.int (2 : Int32))])) _
      refine XS.ifNo X2.here hx rfl (hb hby d6_8) rfl ((if0 _ _).trans (tlt (by decide)).2.2.2) ?_
      show Steps p.tables e below (T2.setTop (mkF m 11 #[.val (.ref a0), .val (.int (2 : Int32)), .val (.int x2)] [])) _
      refine XS.aloadN X2.here hx rfl (hb hby d6_11) rfl rfl ?_
      show Steps p.tables e below (T2.setTop (mkF m 12 #[.val (.ref a0), .val (.int (2 : Int32)), .val (.int x2)] [(.ref a0)])) _
      refine XS.iloadN X2.here hx rfl (hb hby d6_12) rfl ?_
      show Steps p.tables e below (T2.setTop (mkF m 13 #[.val (.ref a0), .val (.int (2 : Int32)), .val (.int x2)] [(.int x2), (.ref a0)])) _
      refine XS.aloadN X2.here hx rfl (hb hby d6_13) rfl rfl ?_
      exact k)
  obtain ⟨T6, X6, e6, st6⟩ := getF X2 hx hZ hown (host := "") (Or.inl (hw _ (List.mem_of_getElem? (i := 13) rfl))) Via.refl e2 fi2 (g := (mkF m 14 #[.val (.ref a0), .val (.int (2 : Int32)), .val (.int x2)] [(.ref a0), (.int x2), (.ref a0)])) rfl rfl (hb hby d6_14)
  have pre6 : Go p.tables e below (s₁.setTop (entryFrame m #[(.ref a0), (.int (2 : Int32))] 3)) T6 (mkF m 17 #[.val (.ref a0), .val (.int (2 : Int32)), .val (.int x2)] [(.ref ha), (.int x2), (.ref a0)]) := fun t k => pre5 t (st6 _ k)
  have pre7 : Go p.tables e below (s₁.setTop (entryFrame m #[(.ref a0), (.int (2 : Int32))] 3)) T6 (mkF m 22 #[.val (.ref a0), .val (.int (2 : Int32)), .val (.int x2)] [(.int (0 : Int32)), (.ref ha), (.int x2), (.ref a0)]) := fun t k => pre6 t (by
      refine XS.iloadN X6.here hx rfl (hb hby d6_17) rfl ?_
      show Steps p.tables e below (T6.setTop (mkF m 18 #[.val (.ref a0), .val (.int (2 : Int32)), .val (.int x2)] [(.int (2 : Int32)), (.ref ha), (.int x2), (.ref a0)])) _
      refine XS.iconst X6.here hx rfl (hb hby d6_18) ?_
      show Steps p.tables e below (T6.setTop (mkF m 19 #[.val (.ref a0), .val (.int (2 : Int32)), .val (.int x2)] [(.int (1 : Int32)), (.int (2 : Int32)), (.ref ha), (.int x2), (.ref a0)])) _
      refine XS.isub X6.here hx rfl (hb hby d6_19) rfl ?_
      show Steps p.tables e below (T6.setTop (mkF m 20 #[.val (.ref a0), .val (.int (2 : Int32)), .val (.int x2)] [(.int (1 : Int32)), (.ref ha), (.int x2), (.ref a0)])) _
      refine XS.iconst X6.here hx rfl (hb hby d6_20) ?_
      show Steps p.tables e below (T6.setTop (mkF m 21 #[.val (.ref a0), .val (.int (2 : Int32)), .val (.int x2)] [(.int (2 : Int32)), (.int (1 : Int32)), (.ref ha), (.int x2), (.ref a0)])) _
      refine XS.idiv X6.here hx rfl (hb hby d6_21) rfl (by decide) ?_
      exact k)
  obtain ⟨c8, Ar8, q8, S8, M8, H8, G8⟩ := (id fi5)
  have hin8 : ¬ ((0 : Int32) < 0 ∨ c8.slots.size ≤ ((0 : Int32)).toNatClampNeg) := inb_of S8 ⟨by decide, by decide⟩
  have pre8 : Go p.tables e below (s₁.setTop (entryFrame m #[(.ref a0), (.int (2 : Int32))] 3)) T6 (mkF m 23 #[.val (.ref a0), .val (.int (2 : Int32)), .val (.int x2)] [(.int x0), (.int x2), (.ref a0)]) := fun t k => pre7 t (X6.iaload hx (j := (0 : Int32)) (v := (.int x0)) (by rw [e6]; exact Ar8.1) (State.isArrayOf_alike hZ.alike Ar8.2.1) Ar8.2.2 hin8 (H8.at hin8 rfl) (g := (mkF m 22 #[.val (.ref a0), .val (.int (2 : Int32)), .val (.int x2)] [(.int (0 : Int32)), (.ref ha), (.int x2), (.ref a0)])) rfl rfl (hb hby d6_22) _ k)
  obtain ⟨cq9, q9, q9'⟩ := fi0.cell
  obtain ⟨_, _, ⟨T9, L9, k9, n9⟩, -, X9, ⟨Lc9, hQ9, l9, y9, z9⟩, st9⟩ := own_private X6 hx (y := (⟨"com/example/octopoll/octopoll/PageHeap", "less", "(II)Z"⟩ : MethodName)) hown (mvT hZ (hw _ (List.mem_of_getElem? (i := 38) rfl))) (mvT hZ (hw _ (List.mem_of_getElem? (i := 39) rfl))) (mvT hZ (hw _ (List.mem_of_getElem? (i := 26) rfl))) rfl (Cond.privateMethod_at (mvP hZ (hw _ (List.mem_of_getElem? (i := 40) rfl)) (args := #[]))) (mvT hZ (hw _ (List.mem_of_getElem? (i := 41) rfl))) (by decide) (backOf (W := 0) (rm_les l Z av0 hw [] a0 x2 x0 ka kk d0 d1 d2 h0 n0 Z0 fi1 fi4 hx2 hx0) hZ (hw _ (List.mem_of_getElem? (i := 41) rfl)) (hw _ (List.mem_of_getElem? (i := 3) rfl)) (by decide) (by decide)) (a := a0) (by rw [e6]; exact q9) q9' (g := (mkF m 23 #[.val (.ref a0), .val (.int (2 : Int32)), .val (.int x2)] [(.int x0), (.int x2), (.ref a0)])) rfl (by rw [hml]; rfl) (argsL := [(.int x2), (.int x0)]) (rest := []) (lenOf pd_1 rfl) rfl (by show 2 * 0 + _ ≤ _; exact Nat.le_of_eq rfl) (hb hby d6_23) (fun _ _ => ⟨rfl, e6, (by decide : 0 + 0 ≤ _), (by decide : 0 + 0 ≤ _)⟩)
  dsimp only [Pt.U, Pt.locs, Pt.cells, Pt.slots] at X9 l9 y9 z9 st9 hQ9
  subst l9 y9 z9
  obtain ⟨zl9, hv9, N9q, K9⟩ := hQ9
  have f10 : n0 ≤ T9.heap.size := Nat.le_trans Z0 K9.1
  have f11 : Exa Z T9.heap a0 "com/example/octopoll/octopoll/PageHeap" := fi0.keep K9
  have f12 : Fld Z T9.heap a0 "com/example/octopoll/octopoll/PageHeap" "key" "[D" (.ref ka) := fi1.keep K9 nin0
  have f13 : Fld Z T9.heap a0 "com/example/octopoll/octopoll/PageHeap" "heap" "[I" (.ref ha) := fi2.keep K9 nin0
  have f14 : Fld Z T9.heap a0 "com/example/octopoll/octopoll/PageHeap" "position" "[I" (.ref pa) := fi3.keep K9 nin0
  have f15 : Arv Z T9.heap ka kk .double (3 : Int32) [(.double d0), (.double d1), (.double d2)] (.double 0) := fi4.keep K9 nin0
  have f16 : Arv Z T9.heap ha kh .int (3 : Int32) [(.int x0), (.int x1), (.int x2)] (.int (0 : Int32)) := fi5.keep K9 nin0
  have f17 : Arv Z T9.heap pa kp .int (3 : Int32) [(.int y0), (.int y1), (.int y2)] (.int (0 : Int32)) := fi6.keep K9 nin0
  have f18 : Keep h0 T9.heap [ha, pa] := K0.trans K9 all0
  subst hv9
  have N9 := Fr.app N0 N9q
  have pre9 : Go p.tables e below (s₁.setTop (entryFrame m #[(.ref a0), (.int (2 : Int32))] 3)) T9 (mkF m 26 #[.val (.ref a0), .val (.int (2 : Int32)), .val (.int x2)] [(.int zl9)]) := fun t k => pre8 t (st9 _ k)
  by_cases hc19 : zl9 = (0 : Int32)
  · -- hc19: True
    have pre20 : Go p.tables e below (s₁.setTop (entryFrame m #[(.ref a0), (.int (2 : Int32))] 3)) T9 (mkF m 56 #[.val (.ref a0), .val (.int (2 : Int32)), .val (.int x2)] [(.int (2 : Int32)), (.int x2), (.ref a0)]) := fun t k => pre9 t (by
        refine XS.ifYes X9.here hx rfl (pc0 := 26) (pc' := 53) rfl (hb hby d6_26) rfl ((if0 _ _).trans (teq hc19).1) (by decide) (by decide) ?_
        show Steps p.tables e below (T9.setTop (mkF m 53 #[.val (.ref a0), .val (.int (2 : Int32)), .val (.int x2)] [])) _
        refine XS.aloadN X9.here hx rfl (hb hby d6_53) rfl rfl ?_
        show Steps p.tables e below (T9.setTop (mkF m 54 #[.val (.ref a0), .val (.int (2 : Int32)), .val (.int x2)] [(.ref a0)])) _
        refine XS.iloadN X9.here hx rfl (hb hby d6_54) rfl ?_
        show Steps p.tables e below (T9.setTop (mkF m 55 #[.val (.ref a0), .val (.int (2 : Int32)), .val (.int x2)] [(.int x2), (.ref a0)])) _
        refine XS.iloadN X9.here hx rfl (hb hby d6_55) rfl ?_
        exact k)
    obtain ⟨cq21, q21, q21'⟩ := f11.cell
    obtain ⟨_, _, ⟨T21, L21, k21, n21⟩, -, X21, ⟨Lc21, hQ21, l21, y21, z21⟩, st21⟩ := own_private X9 hx (y := (⟨"com/example/octopoll/octopoll/PageHeap", "place", "(II)V"⟩ : MethodName)) hown (mvT hZ (hw _ (List.mem_of_getElem? (i := 30) rfl))) (mvT hZ (hw _ (List.mem_of_getElem? (i := 31) rfl))) (mvT hZ (hw _ (List.mem_of_getElem? (i := 26) rfl))) rfl (Cond.privateMethod_at (mvP hZ (hw _ (List.mem_of_getElem? (i := 32) rfl)) (args := #[]))) (mvT hZ (hw _ (List.mem_of_getElem? (i := 33) rfl))) (by decide) (backOf (W := 0) (rm_plc l Z av0 hw [] a0 x2 (2 : Int32) ha pa kh kp x0 x1 x2 y0 y1 y2 T9.heap n0 f10 f13 f14 f16 f17 g_ha g_pa ne_a0_ha ne_a0_pa ne_ha_pa hx2 (by decide)) hZ (hw _ (List.mem_of_getElem? (i := 33) rfl)) (hw _ (List.mem_of_getElem? (i := 3) rfl)) (by decide) (by decide)) (a := a0) q21 q21' (g := (mkF m 56 #[.val (.ref a0), .val (.int (2 : Int32)), .val (.int x2)] [(.int (2 : Int32)), (.int x2), (.ref a0)])) rfl (by rw [hml]; rfl) (argsL := [(.int x2), (.int (2 : Int32))]) (rest := []) (lenOf pd_0 rfl) rfl (by show 2 * 0 + _ ≤ _; exact Nat.le_of_eq rfl) (hb hby d6_56) (fun _ _ => ⟨rfl, rfl, (by decide : 0 + 0 ≤ _), (by decide : 0 + 0 ≤ _)⟩)
    dsimp only [Pt.U, Pt.locs, Pt.cells, Pt.slots] at X21 l21 y21 z21 st21 hQ21
    subst l21 y21 z21
    obtain ⟨hv21, N21q, K21, fo21_0, fo21_1⟩ := hQ21
    have f22 : n0 ≤ T21.heap.size := Nat.le_trans f10 K21.1
    have f23 : Exa Z T21.heap a0 "com/example/octopoll/octopoll/PageHeap" := f11.keep K21
    have f24 : Fld Z T21.heap a0 "com/example/octopoll/octopoll/PageHeap" "key" "[D" (.ref ka) := f12.keep K21 (ninS ne_a0_ha (ninS ne_a0_pa nin0))
    have f25 : Fld Z T21.heap a0 "com/example/octopoll/octopoll/PageHeap" "heap" "[I" (.ref ha) := f13.keep K21 (ninS ne_a0_ha (ninS ne_a0_pa nin0))
    have f26 : Fld Z T21.heap a0 "com/example/octopoll/octopoll/PageHeap" "position" "[I" (.ref pa) := f14.keep K21 (ninS ne_a0_ha (ninS ne_a0_pa nin0))
    have f27 : Arv Z T21.heap ka kk .double (3 : Int32) [(.double d0), (.double d1), (.double d2)] (.double 0) := f15.keep K21 (ninS ne_ka_ha (ninS ne_ka_pa nin0))
    have f28 : Keep h0 T21.heap [ha, pa] := f18.trans K21 (allS (Or.inl (List.mem_of_getElem? (i := 0) rfl)) (allS (Or.inl (List.mem_of_getElem? (i := 1) rfl)) all0))
    subst hv21
    have N21 := Fr.app N9 N21q
    have pre21 : Go p.tables e below (s₁.setTop (entryFrame m #[(.ref a0), (.int (2 : Int32))] 3)) T21 (mkF m 59 #[.val (.ref a0), .val (.int (2 : Int32)), .val (.int x2)] []) := fun t k => pre20 t (st21 _ k)
    obtain ⟨fs, hr, hrun, hended, hW, hsame⟩ := X21.leave (v := none) (fun _ => rfl) (BodyLoose.notSynchronized Bd)
    refine ⟨_, _, pre21 _ ?_, hrun, hended, _, _, rfl, ?_, ⟨_, rfl⟩, hW, hsame.mono (Nat.le_of_ble_eq_true rfl) (Nat.le_of_ble_eq_true rfl)⟩
    · exact X21.returnOut hx Bd.returns (hb hby d6_59) hr
    · show Q_su Z a0 (2 : Int32) ka ha pa kk kh kp d0 d1 d2 x0 x1 x2 y0 y1 y2 h0 n0 _ T21.heap _
      exact ⟨x0, x1, x2, (own_u 0 x2 (2 : Int32) y0), (own_u 1 x2 (2 : Int32) y1), (own_u 2 x2 (2 : Int32) y2), rfl, N21, f28, fo21_0, fo21_1, (Or.inl rfl)⟩
  · -- hc19: False
    have pre29 : Go p.tables e below (s₁.setTop (entryFrame m #[(.ref a0), (.int (2 : Int32))] 3)) T9 (mkF m 31 #[.val (.ref a0), .val (.int (2 : Int32)), .val (.int x2)] [(.ref a0), (.ref a0)]) := fun t k => pre9 t (by
        refine XS.ifNo X9.here hx rfl (hb hby d6_26) rfl ((if0 _ _).trans (feq hc19).1) ?_
        show Steps p.tables e below (T9.setTop (mkF m 29 #[.val (.ref a0), .val (.int (2 : Int32)), .val (.int x2)] [])) _
        refine XS.aloadN X9.here hx rfl (hb hby d6_29) rfl rfl ?_
        show Steps p.tables e below (T9.setTop (mkF m 30 #[.val (.ref a0), .val (.int (2 : Int32)), .val (.int x2)] [(.ref a0)])) _
        refine XS.aloadN X9.here hx rfl (hb hby d6_30) rfl rfl ?_
        exact k)
    obtain ⟨T30, X30, e30, st30⟩ := getF X9 hx hZ hown (host := "") (Or.inl (hw _ (List.mem_of_getElem? (i := 13) rfl))) Via.refl rfl f13 (g := (mkF m 31 #[.val (.ref a0), .val (.int (2 : Int32)), .val (.int x2)] [(.ref a0), (.ref a0)])) rfl rfl (hb hby d6_31)
    have pre30 : Go p.tables e below (s₁.setTop (entryFrame m #[(.ref a0), (.int (2 : Int32))] 3)) T30 (mkF m 34 #[.val (.ref a0), .val (.int (2 : Int32)), .val (.int x2)] [(.ref ha), (.ref a0)]) := fun t k => pre29 t (st30 _ k)
    have pre31 : Go p.tables e below (s₁.setTop (entryFrame m #[(.ref a0), (.int (2 : Int32))] 3)) T30 (mkF m 39 #[.val (.ref a0), .val (.int (2 : Int32)), .val (.int x2)] [(.int (0 : Int32)), (.ref ha), (.ref a0)]) := fun t k => pre30 t (by
        refine XS.iloadN X30.here hx rfl (hb hby d6_34) rfl ?_
        show Steps p.tables e below (T30.setTop (mkF m 35 #[.val (.ref a0), .val (.int (2 : Int32)), .val (.int x2)] [(.int (2 : Int32)), (.ref ha), (.ref a0)])) _
        refine XS.iconst X30.here hx rfl (hb hby d6_35) ?_
        show Steps p.tables e below (T30.setTop (mkF m 36 #[.val (.ref a0), .val (.int (2 : Int32)), .val (.int x2)] [(.int (1 : Int32)), (.int (2 : Int32)), (.ref ha), (.ref a0)])) _
        refine XS.isub X30.here hx rfl (hb hby d6_36) rfl ?_
        show Steps p.tables e below (T30.setTop (mkF m 37 #[.val (.ref a0), .val (.int (2 : Int32)), .val (.int x2)] [(.int (1 : Int32)), (.ref ha), (.ref a0)])) _
        refine XS.iconst X30.here hx rfl (hb hby d6_37) ?_
        show Steps p.tables e below (T30.setTop (mkF m 38 #[.val (.ref a0), .val (.int (2 : Int32)), .val (.int x2)] [(.int (2 : Int32)), (.int (1 : Int32)), (.ref ha), (.ref a0)])) _
        refine XS.idiv X30.here hx rfl (hb hby d6_38) rfl (by decide) ?_
        exact k)
    obtain ⟨c32, Ar32, q32, S32, M32, H32, G32⟩ := (id f16)
    have hin32 : ¬ ((0 : Int32) < 0 ∨ c32.slots.size ≤ ((0 : Int32)).toNatClampNeg) := inb_of S32 ⟨by decide, by decide⟩
    have pre32 : Go p.tables e below (s₁.setTop (entryFrame m #[(.ref a0), (.int (2 : Int32))] 3)) T30 (mkF m 40 #[.val (.ref a0), .val (.int (2 : Int32)), .val (.int x2)] [(.int x0), (.ref a0)]) := fun t k => pre31 t (X30.iaload hx (j := (0 : Int32)) (v := (.int x0)) (by rw [e30]; exact Ar32.1) (State.isArrayOf_alike hZ.alike Ar32.2.1) Ar32.2.2 hin32 (H32.at hin32 rfl) (g := (mkF m 39 #[.val (.ref a0), .val (.int (2 : Int32)), .val (.int x2)] [(.int (0 : Int32)), (.ref ha), (.ref a0)])) rfl rfl (hb hby d6_39) _ k)
    have pre33 : Go p.tables e below (s₁.setTop (entryFrame m #[(.ref a0), (.int (2 : Int32))] 3)) T30 (mkF m 41 #[.val (.ref a0), .val (.int (2 : Int32)), .val (.int x2)] [(.int (2 : Int32)), (.int x0), (.ref a0)]) := fun t k => pre32 t (by
        refine XS.iloadN X30.here hx rfl (hb hby d6_40) rfl ?_
        exact k)
    obtain ⟨cq34, q34, q34'⟩ := f11.cell
    obtain ⟨_, _, ⟨T34, L34, k34, n34⟩, -, X34, ⟨Lc34, hQ34, l34, y34, z34⟩, st34⟩ := own_private X30 hx (y := (⟨"com/example/octopoll/octopoll/PageHeap", "place", "(II)V"⟩ : MethodName)) hown (mvT hZ (hw _ (List.mem_of_getElem? (i := 30) rfl))) (mvT hZ (hw _ (List.mem_of_getElem? (i := 31) rfl))) (mvT hZ (hw _ (List.mem_of_getElem? (i := 26) rfl))) rfl (Cond.privateMethod_at (mvP hZ (hw _ (List.mem_of_getElem? (i := 32) rfl)) (args := #[]))) (mvT hZ (hw _ (List.mem_of_getElem? (i := 33) rfl))) (by decide) (backOf (W := 0) (rm_plc l Z av0 hw [] a0 x0 (2 : Int32) ha pa kh kp x0 x1 x2 y0 y1 y2 T9.heap n0 f10 f13 f14 f16 f17 g_ha g_pa ne_a0_ha ne_a0_pa ne_ha_pa hx0 (by decide)) hZ (hw _ (List.mem_of_getElem? (i := 33) rfl)) (hw _ (List.mem_of_getElem? (i := 3) rfl)) (by decide) (by decide)) (a := a0) (by rw [e30]; exact q34) q34' (g := (mkF m 41 #[.val (.ref a0), .val (.int (2 : Int32)), .val (.int x2)] [(.int (2 : Int32)), (.int x0), (.ref a0)])) rfl (by rw [hml]; rfl) (argsL := [(.int x0), (.int (2 : Int32))]) (rest := []) (lenOf pd_0 rfl) rfl (by show 2 * 0 + _ ≤ _; exact Nat.le_of_eq rfl) (hb hby d6_41) (fun _ _ => ⟨rfl, e30, (by decide : 0 + 0 ≤ _), (by decide : 0 + 0 ≤ _)⟩)
    dsimp only [Pt.U, Pt.locs, Pt.cells, Pt.slots] at X34 l34 y34 z34 st34 hQ34
    subst l34 y34 z34
    obtain ⟨hv34, N34q, K34, fo34_0, fo34_1⟩ := hQ34
    have f35 : n0 ≤ T34.heap.size := Nat.le_trans f10 K34.1
    have f36 : Exa Z T34.heap a0 "com/example/octopoll/octopoll/PageHeap" := f11.keep K34
    have f37 : Fld Z T34.heap a0 "com/example/octopoll/octopoll/PageHeap" "key" "[D" (.ref ka) := f12.keep K34 (ninS ne_a0_ha (ninS ne_a0_pa nin0))
    have f38 : Fld Z T34.heap a0 "com/example/octopoll/octopoll/PageHeap" "heap" "[I" (.ref ha) := f13.keep K34 (ninS ne_a0_ha (ninS ne_a0_pa nin0))
    have f39 : Fld Z T34.heap a0 "com/example/octopoll/octopoll/PageHeap" "position" "[I" (.ref pa) := f14.keep K34 (ninS ne_a0_ha (ninS ne_a0_pa nin0))
    have f40 : Arv Z T34.heap ka kk .double (3 : Int32) [(.double d0), (.double d1), (.double d2)] (.double 0) := f15.keep K34 (ninS ne_ka_ha (ninS ne_ka_pa nin0))
    have f41 : Keep h0 T34.heap [ha, pa] := f18.trans K34 (allS (Or.inl (List.mem_of_getElem? (i := 0) rfl)) (allS (Or.inl (List.mem_of_getElem? (i := 1) rfl)) all0))
    subst hv34
    have N34 := Fr.app N9 N34q
    have pre34 : Go p.tables e below (s₁.setTop (entryFrame m #[(.ref a0), (.int (2 : Int32))] 3)) T34 (mkF m 44 #[.val (.ref a0), .val (.int (2 : Int32)), .val (.int x2)] []) := fun t k => pre33 t (st34 _ k)
    have pre42 : Go p.tables e below (s₁.setTop (entryFrame m #[(.ref a0), (.int (2 : Int32))] 3)) T34 (mkF m 56 #[.val (.ref a0), .val (.int (0 : Int32)), .val (.int x2)] [(.int (0 : Int32)), (.int x2), (.ref a0)]) := fun t k => pre34 t (by
        refine XS.iloadN X34.here hx rfl (hb hby d6_44) rfl ?_
        show Steps p.tables e below (T34.setTop (mkF m 45 #[.val (.ref a0), .val (.int (2 : Int32)), .val (.int x2)] [(.int (2 : Int32))])) _
        refine XS.iconst X34.here hx rfl (hb hby d6_45) ?_
        show Steps p.tables e below (T34.setTop (mkF m 46 #[.val (.ref a0), .val (.int (2 : Int32)), .val (.int x2)] [(.int (1 : Int32)), (.int (2 : Int32))])) _
        refine XS.isub X34.here hx rfl (hb hby d6_46) rfl ?_
        show Steps p.tables e below (T34.setTop (mkF m 47 #[.val (.ref a0), .val (.int (2 : Int32)), .val (.int x2)] [(.int (1 : Int32))])) _
        refine XS.iconst X34.here hx rfl (hb hby d6_47) ?_
        show Steps p.tables e below (T34.setTop (mkF m 48 #[.val (.ref a0), .val (.int (2 : Int32)), .val (.int x2)] [(.int (2 : Int32)), (.int (1 : Int32))])) _
        refine XS.idiv X34.here hx rfl (hb hby d6_48) rfl (by decide) ?_
        show Steps p.tables e below (T34.setTop (mkF m 49 #[.val (.ref a0), .val (.int (2 : Int32)), .val (.int x2)] [(.int (0 : Int32))])) _
        refine XS.istoreN X34.here hx rfl (hb hby d6_49) rfl (l' := #[.val (.ref a0), .val (.int (0 : Int32)), .val (.int x2)]) rfl ?_
        show Steps p.tables e below (T34.setTop (mkF m 50 #[.val (.ref a0), .val (.int (0 : Int32)), .val (.int x2)] [])) _
        refine XS.goto X34.here hx rfl (pc0 := 50) (pc' := 7) rfl (hb hby d6_50) (by decide) (by decide) ?_
        show Steps p.tables e below (T34.setTop (mkF m 7 #[.val (.ref a0), .val (.int (0 : Int32)), .val (.int x2)] [])) _
        refine XS.iloadN X34.here hx rfl (hb hby d6_7) rfl ?_
        show Steps p.tables e below (T34.setTop (mkF m 8 #[.val (.ref a0), .val (.int (0 : Int32)), .val (.int x2)] [(.int (0 : Int32))])) _
        refine XS.ifYes X34.here hx rfl (pc0 := 8) (pc' := 53) rfl (hb hby d6_8) rfl ((if0 _ _).trans (flt (by decide)).2.2.2) (by decide) (by decide) ?_
        show Steps p.tables e below (T34.setTop (mkF m 53 #[.val (.ref a0), .val (.int (0 : Int32)), .val (.int x2)] [])) _
        refine XS.aloadN X34.here hx rfl (hb hby d6_53) rfl rfl ?_
        show Steps p.tables e below (T34.setTop (mkF m 54 #[.val (.ref a0), .val (.int (0 : Int32)), .val (.int x2)] [(.ref a0)])) _
        refine XS.iloadN X34.here hx rfl (hb hby d6_54) rfl ?_
        show Steps p.tables e below (T34.setTop (mkF m 55 #[.val (.ref a0), .val (.int (0 : Int32)), .val (.int x2)] [(.int x2), (.ref a0)])) _
        refine XS.iloadN X34.here hx rfl (hb hby d6_55) rfl ?_
        exact k)
    obtain ⟨cq43, q43, q43'⟩ := f36.cell
    obtain ⟨_, _, ⟨T43, L43, k43, n43⟩, -, X43, ⟨Lc43, hQ43, l43, y43, z43⟩, st43⟩ := own_private X34 hx (y := (⟨"com/example/octopoll/octopoll/PageHeap", "place", "(II)V"⟩ : MethodName)) hown (mvT hZ (hw _ (List.mem_of_getElem? (i := 30) rfl))) (mvT hZ (hw _ (List.mem_of_getElem? (i := 31) rfl))) (mvT hZ (hw _ (List.mem_of_getElem? (i := 26) rfl))) rfl (Cond.privateMethod_at (mvP hZ (hw _ (List.mem_of_getElem? (i := 32) rfl)) (args := #[]))) (mvT hZ (hw _ (List.mem_of_getElem? (i := 33) rfl))) (by decide) (backOf (W := 0) (rm_plc l Z av0 hw [] a0 x2 (0 : Int32) ha pa kh kp x0 x1 x0 (own_u 0 x0 (2 : Int32) y0) (own_u 1 x0 (2 : Int32) y1) (own_u 2 x0 (2 : Int32) y2) T34.heap n0 f35 f38 f39 fo34_0 fo34_1 g_ha g_pa ne_a0_ha ne_a0_pa ne_ha_pa hx2 (by decide)) hZ (hw _ (List.mem_of_getElem? (i := 33) rfl)) (hw _ (List.mem_of_getElem? (i := 3) rfl)) (by decide) (by decide)) (a := a0) q43 q43' (g := (mkF m 56 #[.val (.ref a0), .val (.int (0 : Int32)), .val (.int x2)] [(.int (0 : Int32)), (.int x2), (.ref a0)])) rfl (by rw [hml]; rfl) (argsL := [(.int x2), (.int (0 : Int32))]) (rest := []) (lenOf pd_0 rfl) rfl (by show 2 * 0 + _ ≤ _; exact Nat.le_of_eq rfl) (hb hby d6_56) (fun _ _ => ⟨rfl, rfl, (by decide : 0 + 0 ≤ _), (by decide : 0 + 0 ≤ _)⟩)
    dsimp only [Pt.U, Pt.locs, Pt.cells, Pt.slots] at X43 l43 y43 z43 st43 hQ43
    subst l43 y43 z43
    obtain ⟨hv43, N43q, K43, fo43_0, fo43_1⟩ := hQ43
    have f44 : n0 ≤ T43.heap.size := Nat.le_trans f35 K43.1
    have f45 : Exa Z T43.heap a0 "com/example/octopoll/octopoll/PageHeap" := f36.keep K43
    have f46 : Fld Z T43.heap a0 "com/example/octopoll/octopoll/PageHeap" "key" "[D" (.ref ka) := f37.keep K43 (ninS ne_a0_ha (ninS ne_a0_pa nin0))
    have f47 : Fld Z T43.heap a0 "com/example/octopoll/octopoll/PageHeap" "heap" "[I" (.ref ha) := f38.keep K43 (ninS ne_a0_ha (ninS ne_a0_pa nin0))
    have f48 : Fld Z T43.heap a0 "com/example/octopoll/octopoll/PageHeap" "position" "[I" (.ref pa) := f39.keep K43 (ninS ne_a0_ha (ninS ne_a0_pa nin0))
    have f49 : Arv Z T43.heap ka kk .double (3 : Int32) [(.double d0), (.double d1), (.double d2)] (.double 0) := f40.keep K43 (ninS ne_ka_ha (ninS ne_ka_pa nin0))
    have f50 : Keep h0 T43.heap [ha, pa] := f41.trans K43 (allS (Or.inl (List.mem_of_getElem? (i := 0) rfl)) (allS (Or.inl (List.mem_of_getElem? (i := 1) rfl)) all0))
    subst hv43
    have N43 := Fr.app N34 N43q
    have pre43 : Go p.tables e below (s₁.setTop (entryFrame m #[(.ref a0), (.int (2 : Int32))] 3)) T43 (mkF m 59 #[.val (.ref a0), .val (.int (0 : Int32)), .val (.int x2)] []) := fun t k => pre42 t (st43 _ k)
    obtain ⟨fs, hr, hrun, hended, hW, hsame⟩ := X43.leave (v := none) (fun _ => rfl) (BodyLoose.notSynchronized Bd)
    refine ⟨_, _, pre43 _ ?_, hrun, hended, _, _, rfl, ?_, ⟨_, rfl⟩, hW, hsame.mono (Nat.le_of_ble_eq_true rfl) (Nat.le_of_ble_eq_true rfl)⟩
    · exact X43.returnOut hx Bd.returns (hb hby d6_59) hr
    · show Q_su Z a0 (2 : Int32) ka ha pa kk kh kp d0 d1 d2 x0 x1 x2 y0 y1 y2 h0 n0 _ T43.heap _
      exact ⟨x2, x1, x0, (own_u 0 x2 (0 : Int32) (own_u 0 x0 (2 : Int32) y0)), (own_u 1 x2 (0 : Int32) (own_u 1 x0 (2 : Int32) y1)), (own_u 2 x2 (0 : Int32) (own_u 2 x0 (2 : Int32) y2)), rfl, N43, f50, fo43_0, fo43_1, (Or.inr ⟨by decide, rfl⟩)⟩
theorem rm_su (l : Launch) (Z : State) (av0 : Array Value) (hw : ∀ d ∈ tables_1, d.before av0 Z = true) (ws : List Jvm.Cond) (a0 : Addr) (p1 : Int32) (ka : Addr) (ha : Addr) (pa : Addr) (kk : ClassId) (kh : ClassId) (kp : ClassId) (d0 : UInt64) (d1 : UInt64) (d2 : UInt64) (x0 : Int32) (x1 : Int32) (x2 : Int32) (y0 : Int32) (y1 : Int32) (y2 : Int32) (h0 : Heap) (n0 : Nat) (Z0 : n0 ≤ h0.size) (fi0 : Exa Z h0 a0 "com/example/octopoll/octopoll/PageHeap") (fi1 : Fld Z h0 a0 "com/example/octopoll/octopoll/PageHeap" "key" "[D" (.ref ka)) (fi2 : Fld Z h0 a0 "com/example/octopoll/octopoll/PageHeap" "heap" "[I" (.ref ha)) (fi3 : Fld Z h0 a0 "com/example/octopoll/octopoll/PageHeap" "position" "[I" (.ref pa)) (fi4 : Arv Z h0 ka kk .double (3 : Int32) [(.double d0), (.double d1), (.double d2)] (.double 0)) (fi5 : Arv Z h0 ha kh .int (3 : Int32) [(.int x0), (.int x1), (.int x2)] (.int (0 : Int32))) (fi6 : Arv Z h0 pa kp .int (3 : Int32) [(.int y0), (.int y1), (.int y2)] (.int (0 : Int32))) (g_ha : n0 ≤ ha) (g_pa : n0 ≤ pa) (ne_a0_ha : a0 ≠ ha) (ne_a0_pa : a0 ≠ pa) (ne_ha_pa : ha ≠ pa) (ne_a0_ka : a0 ≠ ka) (ne_ka_ha : ka ≠ ha) (ne_ka_pa : ka ≠ pa) (hx0 : own_bd x0) (hx1 : own_bd x1) (hx2 : own_bd x2) (hb : own_bd p1) :
    MetFree l (⟨"com/example/octopoll/octopoll/PageHeap", "siftUp", "(I)V"⟩ : MethodName) (head1 (Jvm.Cond.code (⟨"com/example/octopoll/octopoll/PageHeap", "siftUp", "(I)V"⟩ : MethodName) prog_17_method_9_code 3 none :: ws) ({ frames := 1, cells := 0, slots := 0, locals := 16 } : Room)) (fun a U => a = #[(.ref a0), (.int p1)] ∧ Z.Warmed39 U.vm ∧ U.heap = h0) (fun _ _ _ _ _ => True) (fun _ U o U' => ∃ v L, o = .returned v ∧ Q_su Z a0 p1 ka ha pa kk kh kp d0 d1 d2 x0 x1 x2 y0 y1 y2 h0 n0 v U'.heap L ∧ FrameEnd U o U' L ({ frames := 1, cells := 0, slots := 0, locals := 16 } : Room).cells ({ frames := 1, cells := 0, slots := 0, locals := 16 } : Room).slots) := by
  rcases own_012 hb with rfl | rfl | rfl
  · exact rm_su0 l Z av0 hw ws a0 ka ha pa kk kh kp d0 d1 d2 x0 x1 x2 y0 y1 y2 h0 n0 Z0 fi0 fi1 fi2 fi3 fi4 fi5 fi6 g_ha g_pa ne_a0_ha ne_a0_pa ne_ha_pa ne_a0_ka ne_ka_ha ne_ka_pa hx0 hx1 hx2
  · exact rm_su1 l Z av0 hw ws a0 ka ha pa kk kh kp d0 d1 d2 x0 x1 x2 y0 y1 y2 h0 n0 Z0 fi0 fi1 fi2 fi3 fi4 fi5 fi6 g_ha g_pa ne_a0_ha ne_a0_pa ne_ha_pa ne_a0_ka ne_ka_ha ne_ka_pa hx0 hx1 hx2
  · exact rm_su2 l Z av0 hw ws a0 ka ha pa kk kh kp d0 d1 d2 x0 x1 x2 y0 y1 y2 h0 n0 Z0 fi0 fi1 fi2 fi3 fi4 fi5 fi6 g_ha g_pa ne_a0_ha ne_a0_pa ne_ha_pa ne_a0_ka ne_ka_ha ne_ka_pa hx0 hx1 hx2
def Q_sd (Z : State) (a0 : Addr) (p1 n1 : Int32) (ka : Addr) (ha : Addr) (pa : Addr) (kk : ClassId) (kh : ClassId) (kp : ClassId) (d0 : UInt64) (d1 : UInt64) (d2 : UInt64) (x0 : Int32) (x1 : Int32) (x2 : Int32) (y0 : Int32) (y1 : Int32) (y2 : Int32) (h0 : Heap) (n0 : Nat) (v : Option Value) (h : Heap) (L : List Loc) : Prop := ∃ (z0 : Int32) (z1 : Int32) (z2 : Int32) (z3 : Int32) (z4 : Int32) (z5 : Int32), v = none ∧ Fr n0 L ∧ Keep h0 h [ha, pa] ∧ Arv Z h ha kh .int (3 : Int32) [(.int z0), (.int z1), (.int z2)] (.int (0 : Int32)) ∧ Arv Z h pa kp .int (3 : Int32) [(.int z3), (.int z4), (.int z5)] (.int (0 : Int32)) ∧ ((z0, z1, z2, z3, z4, z5) = own_s0 p1 (x0, x1, x2, y0, y1, y2) ∨ (p1 = 0 ∧ n1 = 2 ∧ (z0, z1, z2, z3, z4, z5) = own_d1 (x0, x1, x2, y0, y1, y2)))
theorem d10_0 : decode prog_17_method_10_code 0 = .ok (.aload_n 0, 1) := by decide +kernel
theorem d10_1 : decode prog_17_method_10_code 1 = .ok (.getfield 13, 3) := by decide +kernel
theorem d10_4 : decode prog_17_method_10_code 4 = .ok (.iload_n 1, 1) := by decide +kernel
theorem d10_5 : decode prog_17_method_10_code 5 = .ok (.iaload, 1) := by decide +kernel
theorem d10_6 : decode prog_17_method_10_code 6 = .ok (.istore_n 2, 1) := by decide +kernel
theorem d10_7 : decode prog_17_method_10_code 7 = .ok (.iconst 2, 1) := by decide +kernel
theorem d10_8 : decode prog_17_method_10_code 8 = .ok (.iload_n 1, 1) := by decide +kernel
theorem d10_9 : decode prog_17_method_10_code 9 = .ok (.imul, 1) := by decide +kernel
theorem d10_10 : decode prog_17_method_10_code 10 = .ok (.iconst 1, 1) := by decide +kernel
theorem d10_11 : decode prog_17_method_10_code 11 = .ok (.iadd, 1) := by decide +kernel
theorem d10_12 : decode prog_17_method_10_code 12 = .ok (.aload_n 0, 1) := by decide +kernel
theorem d10_13 : decode prog_17_method_10_code 13 = .ok (.getfield 26, 3) := by decide +kernel
theorem d10_16 : decode prog_17_method_10_code 16 = .ok (.if_icmp .ge 76, 3) := by decide +kernel
theorem d10_19 : decode prog_17_method_10_code 19 = .ok (.iconst 2, 1) := by decide +kernel
theorem d10_20 : decode prog_17_method_10_code 20 = .ok (.iload_n 1, 1) := by decide +kernel
theorem d10_21 : decode prog_17_method_10_code 21 = .ok (.imul, 1) := by decide +kernel
theorem d10_22 : decode prog_17_method_10_code 22 = .ok (.iconst 1, 1) := by decide +kernel
theorem d10_23 : decode prog_17_method_10_code 23 = .ok (.iadd, 1) := by decide +kernel
theorem d10_24 : decode prog_17_method_10_code 24 = .ok (.istore_n 3, 1) := by decide +kernel
theorem d10_25 : decode prog_17_method_10_code 25 = .ok (.iload_n 3, 1) := by decide +kernel
theorem d10_26 : decode prog_17_method_10_code 26 = .ok (.iconst 1, 1) := by decide +kernel
theorem d10_27 : decode prog_17_method_10_code 27 = .ok (.iadd, 1) := by decide +kernel
theorem d10_28 : decode prog_17_method_10_code 28 = .ok (.aload_n 0, 1) := by decide +kernel
theorem d10_29 : decode prog_17_method_10_code 29 = .ok (.getfield 26, 3) := by decide +kernel
theorem d10_32 : decode prog_17_method_10_code 32 = .ok (.if_icmp .ge 27, 3) := by decide +kernel
theorem d10_35 : decode prog_17_method_10_code 35 = .ok (.aload_n 0, 1) := by decide +kernel
theorem d10_36 : decode prog_17_method_10_code 36 = .ok (.aload_n 0, 1) := by decide +kernel
theorem d10_37 : decode prog_17_method_10_code 37 = .ok (.getfield 13, 3) := by decide +kernel
theorem d10_40 : decode prog_17_method_10_code 40 = .ok (.iload_n 3, 1) := by decide +kernel
theorem d10_41 : decode prog_17_method_10_code 41 = .ok (.iconst 1, 1) := by decide +kernel
theorem d10_42 : decode prog_17_method_10_code 42 = .ok (.iadd, 1) := by decide +kernel
theorem d10_43 : decode prog_17_method_10_code 43 = .ok (.iaload, 1) := by decide +kernel
theorem d10_44 : decode prog_17_method_10_code 44 = .ok (.aload_n 0, 1) := by decide +kernel
theorem d10_45 : decode prog_17_method_10_code 45 = .ok (.getfield 13, 3) := by decide +kernel
theorem d10_48 : decode prog_17_method_10_code 48 = .ok (.iload_n 3, 1) := by decide +kernel
theorem d10_49 : decode prog_17_method_10_code 49 = .ok (.iaload, 1) := by decide +kernel
theorem d10_50 : decode prog_17_method_10_code 50 = .ok (.invokevirtual 44, 3) := by decide +kernel
theorem d10_53 : decode prog_17_method_10_code 53 = .ok (.ifCond .eq 6, 3) := by decide +kernel
theorem d10_56 : decode prog_17_method_10_code 56 = .ok (.iinc 3 1, 3) := by decide +kernel
theorem d10_59 : decode prog_17_method_10_code 59 = .ok (.aload_n 0, 1) := by decide +kernel
theorem d10_60 : decode prog_17_method_10_code 60 = .ok (.aload_n 0, 1) := by decide +kernel
theorem d10_61 : decode prog_17_method_10_code 61 = .ok (.getfield 13, 3) := by decide +kernel
theorem d10_64 : decode prog_17_method_10_code 64 = .ok (.iload_n 3, 1) := by decide +kernel
theorem d10_65 : decode prog_17_method_10_code 65 = .ok (.iaload, 1) := by decide +kernel
theorem d10_66 : decode prog_17_method_10_code 66 = .ok (.iload_n 2, 1) := by decide +kernel
theorem d10_67 : decode prog_17_method_10_code 67 = .ok (.invokevirtual 44, 3) := by decide +kernel
theorem d10_70 : decode prog_17_method_10_code 70 = .ok (.ifCond .ne 6, 3) := by decide +kernel
theorem d10_73 : decode prog_17_method_10_code 73 = .ok (.goto 19, 3) := by decide +kernel
theorem d10_76 : decode prog_17_method_10_code 76 = .ok (.aload_n 0, 1) := by decide +kernel
theorem d10_77 : decode prog_17_method_10_code 77 = .ok (.aload_n 0, 1) := by decide +kernel
theorem d10_78 : decode prog_17_method_10_code 78 = .ok (.getfield 13, 3) := by decide +kernel
theorem d10_81 : decode prog_17_method_10_code 81 = .ok (.iload_n 3, 1) := by decide +kernel
theorem d10_82 : decode prog_17_method_10_code 82 = .ok (.iaload, 1) := by decide +kernel
theorem d10_83 : decode prog_17_method_10_code 83 = .ok (.iload_n 1, 1) := by decide +kernel
theorem d10_84 : decode prog_17_method_10_code 84 = .ok (.invokevirtual 30, 3) := by decide +kernel
theorem d10_87 : decode prog_17_method_10_code 87 = .ok (.iload_n 3, 1) := by decide +kernel
theorem d10_88 : decode prog_17_method_10_code 88 = .ok (.istore_n 1, 1) := by decide +kernel
theorem d10_89 : decode prog_17_method_10_code 89 = .ok (.goto (-82), 3) := by decide +kernel
theorem d10_92 : decode prog_17_method_10_code 92 = .ok (.aload_n 0, 1) := by decide +kernel
theorem d10_93 : decode prog_17_method_10_code 93 = .ok (.iload_n 2, 1) := by decide +kernel
theorem d10_94 : decode prog_17_method_10_code 94 = .ok (.iload_n 1, 1) := by decide +kernel
theorem d10_95 : decode prog_17_method_10_code 95 = .ok (.invokevirtual 30, 3) := by decide +kernel
theorem d10_98 : decode prog_17_method_10_code 98 = .ok (.return_, 1) := by decide +kernel
theorem pn_sd10 : plainName "com/example/octopoll/octopoll/PageHeap" = true := by first | (simp [plainName, overriddenIn]; done) | decide +kernel
theorem ef_sd10 (m : MethodId) (a0 : Addr) : entryFrame m #[(.ref a0), (.int (0 : Int32))] 4 = mkF m 0 #[.val (.ref a0), .val (.int (0 : Int32)), .unset, .unset] [] := by first | (simp [entryFrame, mkF, argsToLocals, Value.category]; done) | rfl
set_option maxRecDepth 65536 in
set_option maxHeartbeats 40000000 in
theorem rm_sd10 (l : Launch) (Z : State) (av0 : Array Value) (hw : ∀ d ∈ tables_1, d.before av0 Z = true) (ws : List Jvm.Cond) (a0 : Addr) (ka : Addr) (ha : Addr) (pa : Addr) (kk : ClassId) (kh : ClassId) (kp : ClassId) (d0 : UInt64) (d1 : UInt64) (d2 : UInt64) (x0 : Int32) (x1 : Int32) (x2 : Int32) (y0 : Int32) (y1 : Int32) (y2 : Int32) (h0 : Heap) (n0 : Nat) (Z0 : n0 ≤ h0.size) (fi0 : Exa Z h0 a0 "com/example/octopoll/octopoll/PageHeap") (fi1 : Fld Z h0 a0 "com/example/octopoll/octopoll/PageHeap" "key" "[D" (.ref ka)) (fi2 : Fld Z h0 a0 "com/example/octopoll/octopoll/PageHeap" "heap" "[I" (.ref ha)) (fi3 : Fld Z h0 a0 "com/example/octopoll/octopoll/PageHeap" "position" "[I" (.ref pa)) (fi4 : Fld Z h0 a0 "com/example/octopoll/octopoll/PageHeap" "size" "I" (.int (1 : Int32))) (fi5 : Arv Z h0 ka kk .double (3 : Int32) [(.double d0), (.double d1), (.double d2)] (.double 0)) (fi6 : Arv Z h0 ha kh .int (3 : Int32) [(.int x0), (.int x1), (.int x2)] (.int (0 : Int32))) (fi7 : Arv Z h0 pa kp .int (3 : Int32) [(.int y0), (.int y1), (.int y2)] (.int (0 : Int32))) (g_ha : n0 ≤ ha) (g_pa : n0 ≤ pa) (ne_a0_ha : a0 ≠ ha) (ne_a0_pa : a0 ≠ pa) (ne_ha_pa : ha ≠ pa) (ne_a0_ka : a0 ≠ ka) (ne_ka_ha : ka ≠ ha) (ne_ka_pa : ka ≠ pa) (hx0 : own_bd x0) (hx1 : own_bd x1) (hx2 : own_bd x2) :
    MetFree l (⟨"com/example/octopoll/octopoll/PageHeap", "siftDown", "(I)V"⟩ : MethodName) (head1 (Jvm.Cond.code (⟨"com/example/octopoll/octopoll/PageHeap", "siftDown", "(I)V"⟩ : MethodName) prog_17_method_10_code 4 none :: ws) ({ frames := 1, cells := 0, slots := 0, locals := 16 } : Room)) (fun a U => a = #[(.ref a0), (.int (0 : Int32))] ∧ Z.Warmed39 U.vm ∧ U.heap = h0) (fun _ _ _ _ _ => True) (fun _ U o U' => ∃ v L, o = .returned v ∧ Q_sd Z a0 (0 : Int32) (1 : Int32) ka ha pa kk kh kp d0 d1 d2 x0 x1 x2 y0 y1 y2 h0 n0 v U'.heap L ∧ FrameEnd U o U' L ({ frames := 1, cells := 0, slots := 0, locals := 16 } : Room).cells ({ frames := 1, cells := 0, slots := 0, locals := 16 } : Room).slots) := by
  refine MetFree.of_bodySF (plainFor_of_name pn_sd10) hisR ?_
  intro p e s m args below meth c s₁ Bd hml0 hP hK
  obtain ⟨rfl, hZ, hh⟩ := hP
  have hx := Bd.exec
  have hby := Bd.bytes
  have hml : c.maxLocals = 4 := hml0
  have hown : s.vm.findClass "com/example/octopoll/octopoll/PageHeap" = some m.cls := findClass_of_methodNamed Bd.named
  have hnm := (name_of_methodNamed Bd.named Bd.method).1
  have X0 : Stand p l e ({ frames := 1, cells := 0, slots := 0, locals := 16 } : Room) s m #[(.ref a0), (.int (0 : Int32))] below meth c s₁ [] 0 0 := Stand.of_body Bd
  have e0 : s₁.heap = h0 := by rw [← hh, Bd.state]; rfl
  have N0 := Fr.nil n0
  have pre0 : Go p.tables e below (s₁.setTop (entryFrame m #[(.ref a0), (.int (0 : Int32))] 4)) s₁ (mkF m 0 #[.val (.ref a0), .val (.int (0 : Int32)), .unset, .unset] []) := fun t k => castTop (ef_sd10 m a0) k
  have K0 : Keep h0 h0 [ha, pa] := Keep.refl _ _
  have pre1 : Go p.tables e below (s₁.setTop (entryFrame m #[(.ref a0), (.int (0 : Int32))] 4)) s₁ (mkF m 1 #[.val (.ref a0), .val (.int (0 : Int32)), .unset, .unset] [(.ref a0)]) := fun t k => pre0 t (by
      refine XS.aloadN X0.here hx rfl (hb hby d10_0) rfl rfl ?_
      exact k)
  obtain ⟨T2, X2, e2, st2⟩ := getF X0 hx hZ hown (host := "") (Or.inl (hw _ (List.mem_of_getElem? (i := 13) rfl))) Via.refl e0 fi2 (g := (mkF m 1 #[.val (.ref a0), .val (.int (0 : Int32)), .unset, .unset] [(.ref a0)])) rfl rfl (hb hby d10_1)
  have pre2 : Go p.tables e below (s₁.setTop (entryFrame m #[(.ref a0), (.int (0 : Int32))] 4)) T2 (mkF m 4 #[.val (.ref a0), .val (.int (0 : Int32)), .unset, .unset] [(.ref ha)]) := fun t k => pre1 t (st2 _ k)
  have pre3 : Go p.tables e below (s₁.setTop (entryFrame m #[(.ref a0), (.int (0 : Int32))] 4)) T2 (mkF m 5 #[.val (.ref a0), .val (.int (0 : Int32)), .unset, .unset] [(.int (0 : Int32)), (.ref ha)]) := fun t k => pre2 t (by
      refine XS.iloadN X2.here hx rfl (hb hby d10_4) rfl ?_
      exact k)
  obtain ⟨c4, Ar4, q4, S4, M4, H4, G4⟩ := (id fi6)
  have hin4 : ¬ ((0 : Int32) < 0 ∨ c4.slots.size ≤ ((0 : Int32)).toNatClampNeg) := inb_of S4 ⟨by decide, by decide⟩
  have pre4 : Go p.tables e below (s₁.setTop (entryFrame m #[(.ref a0), (.int (0 : Int32))] 4)) T2 (mkF m 6 #[.val (.ref a0), .val (.int (0 : Int32)), .unset, .unset] [(.int x0)]) := fun t k => pre3 t (X2.iaload hx (j := (0 : Int32)) (v := (.int x0)) (by rw [e2]; exact Ar4.1) (State.isArrayOf_alike hZ.alike Ar4.2.1) Ar4.2.2 hin4 (H4.at hin4 rfl) (g := (mkF m 5 #[.val (.ref a0), .val (.int (0 : Int32)), .unset, .unset] [(.int (0 : Int32)), (.ref ha)])) rfl rfl (hb hby d10_5) _ k)
  have pre5 : Go p.tables e below (s₁.setTop (entryFrame m #[(.ref a0), (.int (0 : Int32))] 4)) T2 (mkF m 13 #[.val (.ref a0), .val (.int (0 : Int32)), .val (.int x0), .unset] [(.ref a0), (.int (1 : Int32))]) := fun t k => pre4 t (by
      refine XS.istoreN X2.here hx rfl (hb hby d10_6) rfl (l' := #[.val (.ref a0), .val (.int (0 : Int32)), .val (.int x0), .unset]) rfl ?_
      show Steps p.tables e below (T2.setTop (mkF m 7 #[.val (.ref a0), .val (.int (0 : Int32)), .val (.int x0), .unset] [])) _
      refine XS.iconst X2.here hx rfl (hb hby d10_7) ?_
      show Steps p.tables e below (T2.setTop (mkF m 8 #[.val (.ref a0), .val (.int (0 : Int32)), .val (.int x0), .unset] [(.int (2 : Int32))])) _
      refine XS.iloadN X2.here hx rfl (hb hby d10_8) rfl ?_
      show Steps p.tables e below (T2.setTop (mkF m 9 #[.val (.ref a0), .val (.int (0 : Int32)), .val (.int x0), .unset] [(.int (0 : Int32)), (.int (2 : Int32))])) _
      refine XS.imul X2.here hx rfl (hb hby d10_9) rfl ?_
      show Steps p.tables e below (T2.setTop (mkF m 10 #[.val (.ref a0), .val (.int (0 : Int32)), .val (.int x0), .unset] [(.int (0 : Int32))])) _
      refine XS.iconst X2.here hx rfl (hb hby d10_10) ?_
      show Steps p.tables e below (T2.setTop (mkF m 11 #[.val (.ref a0), .val (.int (0 : Int32)), .val (.int x0), .unset] [(.int (1 : Int32)), (.int (0 : Int32))])) _
      refine XS.iadd X2.here hx rfl (hb hby d10_11) rfl ?_
      show Steps p.tables e below (T2.setTop (mkF m 12 #[.val (.ref a0), .val (.int (0 : Int32)), .val (.int x0), .unset] [(.int (1 : Int32))])) _
      refine XS.aloadN X2.here hx rfl (hb hby d10_12) rfl rfl ?_
      exact k)
  obtain ⟨T6, X6, e6, st6⟩ := getF X2 hx hZ hown (host := "") (Or.inl (hw _ (List.mem_of_getElem? (i := 28) rfl))) Via.refl e2 fi4 (g := (mkF m 13 #[.val (.ref a0), .val (.int (0 : Int32)), .val (.int x0), .unset] [(.ref a0), (.int (1 : Int32))])) rfl rfl (hb hby d10_13)
  have pre6 : Go p.tables e below (s₁.setTop (entryFrame m #[(.ref a0), (.int (0 : Int32))] 4)) T6 (mkF m 16 #[.val (.ref a0), .val (.int (0 : Int32)), .val (.int x0), .unset] [(.int (1 : Int32)), (.int (1 : Int32))]) := fun t k => pre5 t (st6 _ k)
  have pre7 : Go p.tables e below (s₁.setTop (entryFrame m #[(.ref a0), (.int (0 : Int32))] 4)) T6 (mkF m 95 #[.val (.ref a0), .val (.int (0 : Int32)), .val (.int x0), .unset] [(.int (0 : Int32)), (.int x0), (.ref a0)]) := fun t k => pre6 t (by
      refine XS.icmpYes X6.here hx rfl (pc0 := 16) (pc' := 92) rfl (hb hby d10_16) rfl (flt (by decide)).2.1 (by decide) (by decide) ?_
      show Steps p.tables e below (T6.setTop (mkF m 92 #[.val (.ref a0), .val (.int (0 : Int32)), .val (.int x0), .unset] [])) _
      refine XS.aloadN X6.here hx rfl (hb hby d10_92) rfl rfl ?_
      show Steps p.tables e below (T6.setTop (mkF m 93 #[.val (.ref a0), .val (.int (0 : Int32)), .val (.int x0), .unset] [(.ref a0)])) _
      refine XS.iloadN X6.here hx rfl (hb hby d10_93) rfl ?_
      show Steps p.tables e below (T6.setTop (mkF m 94 #[.val (.ref a0), .val (.int (0 : Int32)), .val (.int x0), .unset] [(.int x0), (.ref a0)])) _
      refine XS.iloadN X6.here hx rfl (hb hby d10_94) rfl ?_
      exact k)
  obtain ⟨cq8, q8, q8'⟩ := fi0.cell
  obtain ⟨_, _, ⟨T8, L8, k8, n8⟩, -, X8, ⟨Lc8, hQ8, l8, y8, z8⟩, st8⟩ := own_private X6 hx (y := (⟨"com/example/octopoll/octopoll/PageHeap", "place", "(II)V"⟩ : MethodName)) hown (mvT hZ (hw _ (List.mem_of_getElem? (i := 30) rfl))) (mvT hZ (hw _ (List.mem_of_getElem? (i := 31) rfl))) (mvT hZ (hw _ (List.mem_of_getElem? (i := 26) rfl))) rfl (Cond.privateMethod_at (mvP hZ (hw _ (List.mem_of_getElem? (i := 32) rfl)) (args := #[]))) (mvT hZ (hw _ (List.mem_of_getElem? (i := 33) rfl))) (by decide) (backOf (W := 0) (rm_plc l Z av0 hw [] a0 x0 (0 : Int32) ha pa kh kp x0 x1 x2 y0 y1 y2 h0 n0 Z0 fi2 fi3 fi6 fi7 g_ha g_pa ne_a0_ha ne_a0_pa ne_ha_pa hx0 (by decide)) hZ (hw _ (List.mem_of_getElem? (i := 33) rfl)) (hw _ (List.mem_of_getElem? (i := 3) rfl)) (by decide) (by decide)) (a := a0) (by rw [e6]; exact q8) q8' (g := (mkF m 95 #[.val (.ref a0), .val (.int (0 : Int32)), .val (.int x0), .unset] [(.int (0 : Int32)), (.int x0), (.ref a0)])) rfl (by rw [hml]; rfl) (argsL := [(.int x0), (.int (0 : Int32))]) (rest := []) (lenOf pd_0 rfl) rfl (by show 2 * 0 + _ ≤ _; exact Nat.le_of_eq rfl) (hb hby d10_95) (fun _ _ => ⟨rfl, e6, (by decide : 0 + 0 ≤ _), (by decide : 0 + 0 ≤ _)⟩)
  dsimp only [Pt.U, Pt.locs, Pt.cells, Pt.slots] at X8 l8 y8 z8 st8 hQ8
  subst l8 y8 z8
  obtain ⟨hv8, N8q, K8, fo8_0, fo8_1⟩ := hQ8
  have f9 : n0 ≤ T8.heap.size := Nat.le_trans Z0 K8.1
  have f10 : Exa Z T8.heap a0 "com/example/octopoll/octopoll/PageHeap" := fi0.keep K8
  have f11 : Fld Z T8.heap a0 "com/example/octopoll/octopoll/PageHeap" "key" "[D" (.ref ka) := fi1.keep K8 (ninS ne_a0_ha (ninS ne_a0_pa nin0))
  have f12 : Fld Z T8.heap a0 "com/example/octopoll/octopoll/PageHeap" "heap" "[I" (.ref ha) := fi2.keep K8 (ninS ne_a0_ha (ninS ne_a0_pa nin0))
  have f13 : Fld Z T8.heap a0 "com/example/octopoll/octopoll/PageHeap" "position" "[I" (.ref pa) := fi3.keep K8 (ninS ne_a0_ha (ninS ne_a0_pa nin0))
  have f14 : Fld Z T8.heap a0 "com/example/octopoll/octopoll/PageHeap" "size" "I" (.int (1 : Int32)) := fi4.keep K8 (ninS ne_a0_ha (ninS ne_a0_pa nin0))
  have f15 : Arv Z T8.heap ka kk .double (3 : Int32) [(.double d0), (.double d1), (.double d2)] (.double 0) := fi5.keep K8 (ninS ne_ka_ha (ninS ne_ka_pa nin0))
  have f16 : Keep h0 T8.heap [ha, pa] := K0.trans K8 (allS (Or.inl (List.mem_of_getElem? (i := 0) rfl)) (allS (Or.inl (List.mem_of_getElem? (i := 1) rfl)) all0))
  subst hv8
  have N8 := Fr.app N0 N8q
  have pre8 : Go p.tables e below (s₁.setTop (entryFrame m #[(.ref a0), (.int (0 : Int32))] 4)) T8 (mkF m 98 #[.val (.ref a0), .val (.int (0 : Int32)), .val (.int x0), .unset] []) := fun t k => pre7 t (st8 _ k)
  obtain ⟨fs, hr, hrun, hended, hW, hsame⟩ := X8.leave (v := none) (fun _ => rfl) (BodyLoose.notSynchronized Bd)
  refine ⟨_, _, pre8 _ ?_, hrun, hended, _, _, rfl, ?_, ⟨_, rfl⟩, hW, hsame.mono (Nat.le_of_ble_eq_true rfl) (Nat.le_of_ble_eq_true rfl)⟩
  · exact X8.returnOut hx Bd.returns (hb hby d10_98) hr
  · show Q_sd Z a0 (0 : Int32) (1 : Int32) ka ha pa kk kh kp d0 d1 d2 x0 x1 x2 y0 y1 y2 h0 n0 _ T8.heap _
    exact ⟨x0, x1, x2, (own_u 0 x0 (0 : Int32) y0), (own_u 1 x0 (0 : Int32) y1), (own_u 2 x0 (0 : Int32) y2), rfl, N8, f16, fo8_0, fo8_1, (Or.inl rfl)⟩
theorem pn_sd11 : plainName "com/example/octopoll/octopoll/PageHeap" = true := by first | (simp [plainName, overriddenIn]; done) | decide +kernel
theorem ef_sd11 (m : MethodId) (a0 : Addr) : entryFrame m #[(.ref a0), (.int (1 : Int32))] 4 = mkF m 0 #[.val (.ref a0), .val (.int (1 : Int32)), .unset, .unset] [] := by first | (simp [entryFrame, mkF, argsToLocals, Value.category]; done) | rfl
set_option maxRecDepth 65536 in
set_option maxHeartbeats 40000000 in
theorem rm_sd11 (l : Launch) (Z : State) (av0 : Array Value) (hw : ∀ d ∈ tables_1, d.before av0 Z = true) (ws : List Jvm.Cond) (a0 : Addr) (ka : Addr) (ha : Addr) (pa : Addr) (kk : ClassId) (kh : ClassId) (kp : ClassId) (d0 : UInt64) (d1 : UInt64) (d2 : UInt64) (x0 : Int32) (x1 : Int32) (x2 : Int32) (y0 : Int32) (y1 : Int32) (y2 : Int32) (h0 : Heap) (n0 : Nat) (Z0 : n0 ≤ h0.size) (fi0 : Exa Z h0 a0 "com/example/octopoll/octopoll/PageHeap") (fi1 : Fld Z h0 a0 "com/example/octopoll/octopoll/PageHeap" "key" "[D" (.ref ka)) (fi2 : Fld Z h0 a0 "com/example/octopoll/octopoll/PageHeap" "heap" "[I" (.ref ha)) (fi3 : Fld Z h0 a0 "com/example/octopoll/octopoll/PageHeap" "position" "[I" (.ref pa)) (fi4 : Fld Z h0 a0 "com/example/octopoll/octopoll/PageHeap" "size" "I" (.int (1 : Int32))) (fi5 : Arv Z h0 ka kk .double (3 : Int32) [(.double d0), (.double d1), (.double d2)] (.double 0)) (fi6 : Arv Z h0 ha kh .int (3 : Int32) [(.int x0), (.int x1), (.int x2)] (.int (0 : Int32))) (fi7 : Arv Z h0 pa kp .int (3 : Int32) [(.int y0), (.int y1), (.int y2)] (.int (0 : Int32))) (g_ha : n0 ≤ ha) (g_pa : n0 ≤ pa) (ne_a0_ha : a0 ≠ ha) (ne_a0_pa : a0 ≠ pa) (ne_ha_pa : ha ≠ pa) (ne_a0_ka : a0 ≠ ka) (ne_ka_ha : ka ≠ ha) (ne_ka_pa : ka ≠ pa) (hx0 : own_bd x0) (hx1 : own_bd x1) (hx2 : own_bd x2) :
    MetFree l (⟨"com/example/octopoll/octopoll/PageHeap", "siftDown", "(I)V"⟩ : MethodName) (head1 (Jvm.Cond.code (⟨"com/example/octopoll/octopoll/PageHeap", "siftDown", "(I)V"⟩ : MethodName) prog_17_method_10_code 4 none :: ws) ({ frames := 1, cells := 0, slots := 0, locals := 16 } : Room)) (fun a U => a = #[(.ref a0), (.int (1 : Int32))] ∧ Z.Warmed39 U.vm ∧ U.heap = h0) (fun _ _ _ _ _ => True) (fun _ U o U' => ∃ v L, o = .returned v ∧ Q_sd Z a0 (1 : Int32) (1 : Int32) ka ha pa kk kh kp d0 d1 d2 x0 x1 x2 y0 y1 y2 h0 n0 v U'.heap L ∧ FrameEnd U o U' L ({ frames := 1, cells := 0, slots := 0, locals := 16 } : Room).cells ({ frames := 1, cells := 0, slots := 0, locals := 16 } : Room).slots) := by
  refine MetFree.of_bodySF (plainFor_of_name pn_sd11) hisR ?_
  intro p e s m args below meth c s₁ Bd hml0 hP hK
  obtain ⟨rfl, hZ, hh⟩ := hP
  have hx := Bd.exec
  have hby := Bd.bytes
  have hml : c.maxLocals = 4 := hml0
  have hown : s.vm.findClass "com/example/octopoll/octopoll/PageHeap" = some m.cls := findClass_of_methodNamed Bd.named
  have hnm := (name_of_methodNamed Bd.named Bd.method).1
  have X0 : Stand p l e ({ frames := 1, cells := 0, slots := 0, locals := 16 } : Room) s m #[(.ref a0), (.int (1 : Int32))] below meth c s₁ [] 0 0 := Stand.of_body Bd
  have e0 : s₁.heap = h0 := by rw [← hh, Bd.state]; rfl
  have N0 := Fr.nil n0
  have pre0 : Go p.tables e below (s₁.setTop (entryFrame m #[(.ref a0), (.int (1 : Int32))] 4)) s₁ (mkF m 0 #[.val (.ref a0), .val (.int (1 : Int32)), .unset, .unset] []) := fun t k => castTop (ef_sd11 m a0) k
  have K0 : Keep h0 h0 [ha, pa] := Keep.refl _ _
  have pre1 : Go p.tables e below (s₁.setTop (entryFrame m #[(.ref a0), (.int (1 : Int32))] 4)) s₁ (mkF m 1 #[.val (.ref a0), .val (.int (1 : Int32)), .unset, .unset] [(.ref a0)]) := fun t k => pre0 t (by
      refine XS.aloadN X0.here hx rfl (hb hby d10_0) rfl rfl ?_
      exact k)
  obtain ⟨T2, X2, e2, st2⟩ := getF X0 hx hZ hown (host := "") (Or.inl (hw _ (List.mem_of_getElem? (i := 13) rfl))) Via.refl e0 fi2 (g := (mkF m 1 #[.val (.ref a0), .val (.int (1 : Int32)), .unset, .unset] [(.ref a0)])) rfl rfl (hb hby d10_1)
  have pre2 : Go p.tables e below (s₁.setTop (entryFrame m #[(.ref a0), (.int (1 : Int32))] 4)) T2 (mkF m 4 #[.val (.ref a0), .val (.int (1 : Int32)), .unset, .unset] [(.ref ha)]) := fun t k => pre1 t (st2 _ k)
  have pre3 : Go p.tables e below (s₁.setTop (entryFrame m #[(.ref a0), (.int (1 : Int32))] 4)) T2 (mkF m 5 #[.val (.ref a0), .val (.int (1 : Int32)), .unset, .unset] [(.int (1 : Int32)), (.ref ha)]) := fun t k => pre2 t (by
      refine XS.iloadN X2.here hx rfl (hb hby d10_4) rfl ?_
      exact k)
  obtain ⟨c4, Ar4, q4, S4, M4, H4, G4⟩ := (id fi6)
  have hin4 : ¬ ((1 : Int32) < 0 ∨ c4.slots.size ≤ ((1 : Int32)).toNatClampNeg) := inb_of S4 ⟨by decide, by decide⟩
  have pre4 : Go p.tables e below (s₁.setTop (entryFrame m #[(.ref a0), (.int (1 : Int32))] 4)) T2 (mkF m 6 #[.val (.ref a0), .val (.int (1 : Int32)), .unset, .unset] [(.int x1)]) := fun t k => pre3 t (X2.iaload hx (j := (1 : Int32)) (v := (.int x1)) (by rw [e2]; exact Ar4.1) (State.isArrayOf_alike hZ.alike Ar4.2.1) Ar4.2.2 hin4 (H4.at hin4 rfl) (g := (mkF m 5 #[.val (.ref a0), .val (.int (1 : Int32)), .unset, .unset] [(.int (1 : Int32)), (.ref ha)])) rfl rfl (hb hby d10_5) _ k)
  have pre5 : Go p.tables e below (s₁.setTop (entryFrame m #[(.ref a0), (.int (1 : Int32))] 4)) T2 (mkF m 13 #[.val (.ref a0), .val (.int (1 : Int32)), .val (.int x1), .unset] [(.ref a0), (.int (3 : Int32))]) := fun t k => pre4 t (by
      refine XS.istoreN X2.here hx rfl (hb hby d10_6) rfl (l' := #[.val (.ref a0), .val (.int (1 : Int32)), .val (.int x1), .unset]) rfl ?_
      show Steps p.tables e below (T2.setTop (mkF m 7 #[.val (.ref a0), .val (.int (1 : Int32)), .val (.int x1), .unset] [])) _
      refine XS.iconst X2.here hx rfl (hb hby d10_7) ?_
      show Steps p.tables e below (T2.setTop (mkF m 8 #[.val (.ref a0), .val (.int (1 : Int32)), .val (.int x1), .unset] [(.int (2 : Int32))])) _
      refine XS.iloadN X2.here hx rfl (hb hby d10_8) rfl ?_
      show Steps p.tables e below (T2.setTop (mkF m 9 #[.val (.ref a0), .val (.int (1 : Int32)), .val (.int x1), .unset] [(.int (1 : Int32)), (.int (2 : Int32))])) _
      refine XS.imul X2.here hx rfl (hb hby d10_9) rfl ?_
      show Steps p.tables e below (T2.setTop (mkF m 10 #[.val (.ref a0), .val (.int (1 : Int32)), .val (.int x1), .unset] [(.int (2 : Int32))])) _
      refine XS.iconst X2.here hx rfl (hb hby d10_10) ?_
      show Steps p.tables e below (T2.setTop (mkF m 11 #[.val (.ref a0), .val (.int (1 : Int32)), .val (.int x1), .unset] [(.int (1 : Int32)), (.int (2 : Int32))])) _
      refine XS.iadd X2.here hx rfl (hb hby d10_11) rfl ?_
      show Steps p.tables e below (T2.setTop (mkF m 12 #[.val (.ref a0), .val (.int (1 : Int32)), .val (.int x1), .unset] [(.int (3 : Int32))])) _
      refine XS.aloadN X2.here hx rfl (hb hby d10_12) rfl rfl ?_
      exact k)
  obtain ⟨T6, X6, e6, st6⟩ := getF X2 hx hZ hown (host := "") (Or.inl (hw _ (List.mem_of_getElem? (i := 28) rfl))) Via.refl e2 fi4 (g := (mkF m 13 #[.val (.ref a0), .val (.int (1 : Int32)), .val (.int x1), .unset] [(.ref a0), (.int (3 : Int32))])) rfl rfl (hb hby d10_13)
  have pre6 : Go p.tables e below (s₁.setTop (entryFrame m #[(.ref a0), (.int (1 : Int32))] 4)) T6 (mkF m 16 #[.val (.ref a0), .val (.int (1 : Int32)), .val (.int x1), .unset] [(.int (1 : Int32)), (.int (3 : Int32))]) := fun t k => pre5 t (st6 _ k)
  have pre7 : Go p.tables e below (s₁.setTop (entryFrame m #[(.ref a0), (.int (1 : Int32))] 4)) T6 (mkF m 95 #[.val (.ref a0), .val (.int (1 : Int32)), .val (.int x1), .unset] [(.int (1 : Int32)), (.int x1), (.ref a0)]) := fun t k => pre6 t (by
      refine XS.icmpYes X6.here hx rfl (pc0 := 16) (pc' := 92) rfl (hb hby d10_16) rfl (flt (by decide)).2.1 (by decide) (by decide) ?_
      show Steps p.tables e below (T6.setTop (mkF m 92 #[.val (.ref a0), .val (.int (1 : Int32)), .val (.int x1), .unset] [])) _
      refine XS.aloadN X6.here hx rfl (hb hby d10_92) rfl rfl ?_
      show Steps p.tables e below (T6.setTop (mkF m 93 #[.val (.ref a0), .val (.int (1 : Int32)), .val (.int x1), .unset] [(.ref a0)])) _
      refine XS.iloadN X6.here hx rfl (hb hby d10_93) rfl ?_
      show Steps p.tables e below (T6.setTop (mkF m 94 #[.val (.ref a0), .val (.int (1 : Int32)), .val (.int x1), .unset] [(.int x1), (.ref a0)])) _
      refine XS.iloadN X6.here hx rfl (hb hby d10_94) rfl ?_
      exact k)
  obtain ⟨cq8, q8, q8'⟩ := fi0.cell
  obtain ⟨_, _, ⟨T8, L8, k8, n8⟩, -, X8, ⟨Lc8, hQ8, l8, y8, z8⟩, st8⟩ := own_private X6 hx (y := (⟨"com/example/octopoll/octopoll/PageHeap", "place", "(II)V"⟩ : MethodName)) hown (mvT hZ (hw _ (List.mem_of_getElem? (i := 30) rfl))) (mvT hZ (hw _ (List.mem_of_getElem? (i := 31) rfl))) (mvT hZ (hw _ (List.mem_of_getElem? (i := 26) rfl))) rfl (Cond.privateMethod_at (mvP hZ (hw _ (List.mem_of_getElem? (i := 32) rfl)) (args := #[]))) (mvT hZ (hw _ (List.mem_of_getElem? (i := 33) rfl))) (by decide) (backOf (W := 0) (rm_plc l Z av0 hw [] a0 x1 (1 : Int32) ha pa kh kp x0 x1 x2 y0 y1 y2 h0 n0 Z0 fi2 fi3 fi6 fi7 g_ha g_pa ne_a0_ha ne_a0_pa ne_ha_pa hx1 (by decide)) hZ (hw _ (List.mem_of_getElem? (i := 33) rfl)) (hw _ (List.mem_of_getElem? (i := 3) rfl)) (by decide) (by decide)) (a := a0) (by rw [e6]; exact q8) q8' (g := (mkF m 95 #[.val (.ref a0), .val (.int (1 : Int32)), .val (.int x1), .unset] [(.int (1 : Int32)), (.int x1), (.ref a0)])) rfl (by rw [hml]; rfl) (argsL := [(.int x1), (.int (1 : Int32))]) (rest := []) (lenOf pd_0 rfl) rfl (by show 2 * 0 + _ ≤ _; exact Nat.le_of_eq rfl) (hb hby d10_95) (fun _ _ => ⟨rfl, e6, (by decide : 0 + 0 ≤ _), (by decide : 0 + 0 ≤ _)⟩)
  dsimp only [Pt.U, Pt.locs, Pt.cells, Pt.slots] at X8 l8 y8 z8 st8 hQ8
  subst l8 y8 z8
  obtain ⟨hv8, N8q, K8, fo8_0, fo8_1⟩ := hQ8
  have f9 : n0 ≤ T8.heap.size := Nat.le_trans Z0 K8.1
  have f10 : Exa Z T8.heap a0 "com/example/octopoll/octopoll/PageHeap" := fi0.keep K8
  have f11 : Fld Z T8.heap a0 "com/example/octopoll/octopoll/PageHeap" "key" "[D" (.ref ka) := fi1.keep K8 (ninS ne_a0_ha (ninS ne_a0_pa nin0))
  have f12 : Fld Z T8.heap a0 "com/example/octopoll/octopoll/PageHeap" "heap" "[I" (.ref ha) := fi2.keep K8 (ninS ne_a0_ha (ninS ne_a0_pa nin0))
  have f13 : Fld Z T8.heap a0 "com/example/octopoll/octopoll/PageHeap" "position" "[I" (.ref pa) := fi3.keep K8 (ninS ne_a0_ha (ninS ne_a0_pa nin0))
  have f14 : Fld Z T8.heap a0 "com/example/octopoll/octopoll/PageHeap" "size" "I" (.int (1 : Int32)) := fi4.keep K8 (ninS ne_a0_ha (ninS ne_a0_pa nin0))
  have f15 : Arv Z T8.heap ka kk .double (3 : Int32) [(.double d0), (.double d1), (.double d2)] (.double 0) := fi5.keep K8 (ninS ne_ka_ha (ninS ne_ka_pa nin0))
  have f16 : Keep h0 T8.heap [ha, pa] := K0.trans K8 (allS (Or.inl (List.mem_of_getElem? (i := 0) rfl)) (allS (Or.inl (List.mem_of_getElem? (i := 1) rfl)) all0))
  subst hv8
  have N8 := Fr.app N0 N8q
  have pre8 : Go p.tables e below (s₁.setTop (entryFrame m #[(.ref a0), (.int (1 : Int32))] 4)) T8 (mkF m 98 #[.val (.ref a0), .val (.int (1 : Int32)), .val (.int x1), .unset] []) := fun t k => pre7 t (st8 _ k)
  obtain ⟨fs, hr, hrun, hended, hW, hsame⟩ := X8.leave (v := none) (fun _ => rfl) (BodyLoose.notSynchronized Bd)
  refine ⟨_, _, pre8 _ ?_, hrun, hended, _, _, rfl, ?_, ⟨_, rfl⟩, hW, hsame.mono (Nat.le_of_ble_eq_true rfl) (Nat.le_of_ble_eq_true rfl)⟩
  · exact X8.returnOut hx Bd.returns (hb hby d10_98) hr
  · show Q_sd Z a0 (1 : Int32) (1 : Int32) ka ha pa kk kh kp d0 d1 d2 x0 x1 x2 y0 y1 y2 h0 n0 _ T8.heap _
    exact ⟨x0, x1, x2, (own_u 0 x1 (1 : Int32) y0), (own_u 1 x1 (1 : Int32) y1), (own_u 2 x1 (1 : Int32) y2), rfl, N8, f16, fo8_0, fo8_1, (Or.inl rfl)⟩
theorem pn_sd12 : plainName "com/example/octopoll/octopoll/PageHeap" = true := by first | (simp [plainName, overriddenIn]; done) | decide +kernel
theorem ef_sd12 (m : MethodId) (a0 : Addr) : entryFrame m #[(.ref a0), (.int (2 : Int32))] 4 = mkF m 0 #[.val (.ref a0), .val (.int (2 : Int32)), .unset, .unset] [] := by first | (simp [entryFrame, mkF, argsToLocals, Value.category]; done) | rfl
set_option maxRecDepth 65536 in
set_option maxHeartbeats 40000000 in
theorem rm_sd12 (l : Launch) (Z : State) (av0 : Array Value) (hw : ∀ d ∈ tables_1, d.before av0 Z = true) (ws : List Jvm.Cond) (a0 : Addr) (ka : Addr) (ha : Addr) (pa : Addr) (kk : ClassId) (kh : ClassId) (kp : ClassId) (d0 : UInt64) (d1 : UInt64) (d2 : UInt64) (x0 : Int32) (x1 : Int32) (x2 : Int32) (y0 : Int32) (y1 : Int32) (y2 : Int32) (h0 : Heap) (n0 : Nat) (Z0 : n0 ≤ h0.size) (fi0 : Exa Z h0 a0 "com/example/octopoll/octopoll/PageHeap") (fi1 : Fld Z h0 a0 "com/example/octopoll/octopoll/PageHeap" "key" "[D" (.ref ka)) (fi2 : Fld Z h0 a0 "com/example/octopoll/octopoll/PageHeap" "heap" "[I" (.ref ha)) (fi3 : Fld Z h0 a0 "com/example/octopoll/octopoll/PageHeap" "position" "[I" (.ref pa)) (fi4 : Fld Z h0 a0 "com/example/octopoll/octopoll/PageHeap" "size" "I" (.int (1 : Int32))) (fi5 : Arv Z h0 ka kk .double (3 : Int32) [(.double d0), (.double d1), (.double d2)] (.double 0)) (fi6 : Arv Z h0 ha kh .int (3 : Int32) [(.int x0), (.int x1), (.int x2)] (.int (0 : Int32))) (fi7 : Arv Z h0 pa kp .int (3 : Int32) [(.int y0), (.int y1), (.int y2)] (.int (0 : Int32))) (g_ha : n0 ≤ ha) (g_pa : n0 ≤ pa) (ne_a0_ha : a0 ≠ ha) (ne_a0_pa : a0 ≠ pa) (ne_ha_pa : ha ≠ pa) (ne_a0_ka : a0 ≠ ka) (ne_ka_ha : ka ≠ ha) (ne_ka_pa : ka ≠ pa) (hx0 : own_bd x0) (hx1 : own_bd x1) (hx2 : own_bd x2) :
    MetFree l (⟨"com/example/octopoll/octopoll/PageHeap", "siftDown", "(I)V"⟩ : MethodName) (head1 (Jvm.Cond.code (⟨"com/example/octopoll/octopoll/PageHeap", "siftDown", "(I)V"⟩ : MethodName) prog_17_method_10_code 4 none :: ws) ({ frames := 1, cells := 0, slots := 0, locals := 16 } : Room)) (fun a U => a = #[(.ref a0), (.int (2 : Int32))] ∧ Z.Warmed39 U.vm ∧ U.heap = h0) (fun _ _ _ _ _ => True) (fun _ U o U' => ∃ v L, o = .returned v ∧ Q_sd Z a0 (2 : Int32) (1 : Int32) ka ha pa kk kh kp d0 d1 d2 x0 x1 x2 y0 y1 y2 h0 n0 v U'.heap L ∧ FrameEnd U o U' L ({ frames := 1, cells := 0, slots := 0, locals := 16 } : Room).cells ({ frames := 1, cells := 0, slots := 0, locals := 16 } : Room).slots) := by
  refine MetFree.of_bodySF (plainFor_of_name pn_sd12) hisR ?_
  intro p e s m args below meth c s₁ Bd hml0 hP hK
  obtain ⟨rfl, hZ, hh⟩ := hP
  have hx := Bd.exec
  have hby := Bd.bytes
  have hml : c.maxLocals = 4 := hml0
  have hown : s.vm.findClass "com/example/octopoll/octopoll/PageHeap" = some m.cls := findClass_of_methodNamed Bd.named
  have hnm := (name_of_methodNamed Bd.named Bd.method).1
  have X0 : Stand p l e ({ frames := 1, cells := 0, slots := 0, locals := 16 } : Room) s m #[(.ref a0), (.int (2 : Int32))] below meth c s₁ [] 0 0 := Stand.of_body Bd
  have e0 : s₁.heap = h0 := by rw [← hh, Bd.state]; rfl
  have N0 := Fr.nil n0
  have pre0 : Go p.tables e below (s₁.setTop (entryFrame m #[(.ref a0), (.int (2 : Int32))] 4)) s₁ (mkF m 0 #[.val (.ref a0), .val (.int (2 : Int32)), .unset, .unset] []) := fun t k => castTop (ef_sd12 m a0) k
  have K0 : Keep h0 h0 [ha, pa] := Keep.refl _ _
  have pre1 : Go p.tables e below (s₁.setTop (entryFrame m #[(.ref a0), (.int (2 : Int32))] 4)) s₁ (mkF m 1 #[.val (.ref a0), .val (.int (2 : Int32)), .unset, .unset] [(.ref a0)]) := fun t k => pre0 t (by
      refine XS.aloadN X0.here hx rfl (hb hby d10_0) rfl rfl ?_
      exact k)
  obtain ⟨T2, X2, e2, st2⟩ := getF X0 hx hZ hown (host := "") (Or.inl (hw _ (List.mem_of_getElem? (i := 13) rfl))) Via.refl e0 fi2 (g := (mkF m 1 #[.val (.ref a0), .val (.int (2 : Int32)), .unset, .unset] [(.ref a0)])) rfl rfl (hb hby d10_1)
  have pre2 : Go p.tables e below (s₁.setTop (entryFrame m #[(.ref a0), (.int (2 : Int32))] 4)) T2 (mkF m 4 #[.val (.ref a0), .val (.int (2 : Int32)), .unset, .unset] [(.ref ha)]) := fun t k => pre1 t (st2 _ k)
  have pre3 : Go p.tables e below (s₁.setTop (entryFrame m #[(.ref a0), (.int (2 : Int32))] 4)) T2 (mkF m 5 #[.val (.ref a0), .val (.int (2 : Int32)), .unset, .unset] [(.int (2 : Int32)), (.ref ha)]) := fun t k => pre2 t (by
      refine XS.iloadN X2.here hx rfl (hb hby d10_4) rfl ?_
      exact k)
  obtain ⟨c4, Ar4, q4, S4, M4, H4, G4⟩ := (id fi6)
  have hin4 : ¬ ((2 : Int32) < 0 ∨ c4.slots.size ≤ ((2 : Int32)).toNatClampNeg) := inb_of S4 ⟨by decide, by decide⟩
  have pre4 : Go p.tables e below (s₁.setTop (entryFrame m #[(.ref a0), (.int (2 : Int32))] 4)) T2 (mkF m 6 #[.val (.ref a0), .val (.int (2 : Int32)), .unset, .unset] [(.int x2)]) := fun t k => pre3 t (X2.iaload hx (j := (2 : Int32)) (v := (.int x2)) (by rw [e2]; exact Ar4.1) (State.isArrayOf_alike hZ.alike Ar4.2.1) Ar4.2.2 hin4 (H4.at hin4 rfl) (g := (mkF m 5 #[.val (.ref a0), .val (.int (2 : Int32)), .unset, .unset] [(.int (2 : Int32)), (.ref ha)])) rfl rfl (hb hby d10_5) _ k)
  have pre5 : Go p.tables e below (s₁.setTop (entryFrame m #[(.ref a0), (.int (2 : Int32))] 4)) T2 (mkF m 13 #[.val (.ref a0), .val (.int (2 : Int32)), .val (.int x2), .unset] [(.ref a0), (.int (5 : Int32))]) := fun t k => pre4 t (by
      refine XS.istoreN X2.here hx rfl (hb hby d10_6) rfl (l' := #[.val (.ref a0), .val (.int (2 : Int32)), .val (.int x2), .unset]) rfl ?_
      show Steps p.tables e below (T2.setTop (mkF m 7 #[.val (.ref a0), .val (.int (2 : Int32)), .val (.int x2), .unset] [])) _
      refine XS.iconst X2.here hx rfl (hb hby d10_7) ?_
      show Steps p.tables e below (T2.setTop (mkF m 8 #[.val (.ref a0), .val (.int (2 : Int32)), .val (.int x2), .unset] [(.int (2 : Int32))])) _
      refine XS.iloadN X2.here hx rfl (hb hby d10_8) rfl ?_
      show Steps p.tables e below (T2.setTop (mkF m 9 #[.val (.ref a0), .val (.int (2 : Int32)), .val (.int x2), .unset] [(.int (2 : Int32)), (.int (2 : Int32))])) _
      refine XS.imul X2.here hx rfl (hb hby d10_9) rfl ?_
      show Steps p.tables e below (T2.setTop (mkF m 10 #[.val (.ref a0), .val (.int (2 : Int32)), .val (.int x2), .unset] [(.int (4 : Int32))])) _
      refine XS.iconst X2.here hx rfl (hb hby d10_10) ?_
      show Steps p.tables e below (T2.setTop (mkF m 11 #[.val (.ref a0), .val (.int (2 : Int32)), .val (.int x2), .unset] [(.int (1 : Int32)), (.int (4 : Int32))])) _
      refine XS.iadd X2.here hx rfl (hb hby d10_11) rfl ?_
      show Steps p.tables e below (T2.setTop (mkF m 12 #[.val (.ref a0), .val (.int (2 : Int32)), .val (.int x2), .unset] [(.int (5 : Int32))])) _
      refine XS.aloadN X2.here hx rfl (hb hby d10_12) rfl rfl ?_
      exact k)
  obtain ⟨T6, X6, e6, st6⟩ := getF X2 hx hZ hown (host := "") (Or.inl (hw _ (List.mem_of_getElem? (i := 28) rfl))) Via.refl e2 fi4 (g := (mkF m 13 #[.val (.ref a0), .val (.int (2 : Int32)), .val (.int x2), .unset] [(.ref a0), (.int (5 : Int32))])) rfl rfl (hb hby d10_13)
  have pre6 : Go p.tables e below (s₁.setTop (entryFrame m #[(.ref a0), (.int (2 : Int32))] 4)) T6 (mkF m 16 #[.val (.ref a0), .val (.int (2 : Int32)), .val (.int x2), .unset] [(.int (1 : Int32)), (.int (5 : Int32))]) := fun t k => pre5 t (st6 _ k)
  have pre7 : Go p.tables e below (s₁.setTop (entryFrame m #[(.ref a0), (.int (2 : Int32))] 4)) T6 (mkF m 95 #[.val (.ref a0), .val (.int (2 : Int32)), .val (.int x2), .unset] [(.int (2 : Int32)), (.int x2), (.ref a0)]) := fun t k => pre6 t (by
      refine XS.icmpYes X6.here hx rfl (pc0 := 16) (pc' := 92) rfl (hb hby d10_16) rfl (flt (by decide)).2.1 (by decide) (by decide) ?_
      show Steps p.tables e below (T6.setTop (mkF m 92 #[.val (.ref a0), .val (.int (2 : Int32)), .val (.int x2), .unset] [])) _
      refine XS.aloadN X6.here hx rfl (hb hby d10_92) rfl rfl ?_
      show Steps p.tables e below (T6.setTop (mkF m 93 #[.val (.ref a0), .val (.int (2 : Int32)), .val (.int x2), .unset] [(.ref a0)])) _
      refine XS.iloadN X6.here hx rfl (hb hby d10_93) rfl ?_
      show Steps p.tables e below (T6.setTop (mkF m 94 #[.val (.ref a0), .val (.int (2 : Int32)), .val (.int x2), .unset] [(.int x2), (.ref a0)])) _
      refine XS.iloadN X6.here hx rfl (hb hby d10_94) rfl ?_
      exact k)
  obtain ⟨cq8, q8, q8'⟩ := fi0.cell
  obtain ⟨_, _, ⟨T8, L8, k8, n8⟩, -, X8, ⟨Lc8, hQ8, l8, y8, z8⟩, st8⟩ := own_private X6 hx (y := (⟨"com/example/octopoll/octopoll/PageHeap", "place", "(II)V"⟩ : MethodName)) hown (mvT hZ (hw _ (List.mem_of_getElem? (i := 30) rfl))) (mvT hZ (hw _ (List.mem_of_getElem? (i := 31) rfl))) (mvT hZ (hw _ (List.mem_of_getElem? (i := 26) rfl))) rfl (Cond.privateMethod_at (mvP hZ (hw _ (List.mem_of_getElem? (i := 32) rfl)) (args := #[]))) (mvT hZ (hw _ (List.mem_of_getElem? (i := 33) rfl))) (by decide) (backOf (W := 0) (rm_plc l Z av0 hw [] a0 x2 (2 : Int32) ha pa kh kp x0 x1 x2 y0 y1 y2 h0 n0 Z0 fi2 fi3 fi6 fi7 g_ha g_pa ne_a0_ha ne_a0_pa ne_ha_pa hx2 (by decide)) hZ (hw _ (List.mem_of_getElem? (i := 33) rfl)) (hw _ (List.mem_of_getElem? (i := 3) rfl)) (by decide) (by decide)) (a := a0) (by rw [e6]; exact q8) q8' (g := (mkF m 95 #[.val (.ref a0), .val (.int (2 : Int32)), .val (.int x2), .unset] [(.int (2 : Int32)), (.int x2), (.ref a0)])) rfl (by rw [hml]; rfl) (argsL := [(.int x2), (.int (2 : Int32))]) (rest := []) (lenOf pd_0 rfl) rfl (by show 2 * 0 + _ ≤ _; exact Nat.le_of_eq rfl) (hb hby d10_95) (fun _ _ => ⟨rfl, e6, (by decide : 0 + 0 ≤ _), (by decide : 0 + 0 ≤ _)⟩)
  dsimp only [Pt.U, Pt.locs, Pt.cells, Pt.slots] at X8 l8 y8 z8 st8 hQ8
  subst l8 y8 z8
  obtain ⟨hv8, N8q, K8, fo8_0, fo8_1⟩ := hQ8
  have f9 : n0 ≤ T8.heap.size := Nat.le_trans Z0 K8.1
  have f10 : Exa Z T8.heap a0 "com/example/octopoll/octopoll/PageHeap" := fi0.keep K8
  have f11 : Fld Z T8.heap a0 "com/example/octopoll/octopoll/PageHeap" "key" "[D" (.ref ka) := fi1.keep K8 (ninS ne_a0_ha (ninS ne_a0_pa nin0))
  have f12 : Fld Z T8.heap a0 "com/example/octopoll/octopoll/PageHeap" "heap" "[I" (.ref ha) := fi2.keep K8 (ninS ne_a0_ha (ninS ne_a0_pa nin0))
  have f13 : Fld Z T8.heap a0 "com/example/octopoll/octopoll/PageHeap" "position" "[I" (.ref pa) := fi3.keep K8 (ninS ne_a0_ha (ninS ne_a0_pa nin0))
  have f14 : Fld Z T8.heap a0 "com/example/octopoll/octopoll/PageHeap" "size" "I" (.int (1 : Int32)) := fi4.keep K8 (ninS ne_a0_ha (ninS ne_a0_pa nin0))
  have f15 : Arv Z T8.heap ka kk .double (3 : Int32) [(.double d0), (.double d1), (.double d2)] (.double 0) := fi5.keep K8 (ninS ne_ka_ha (ninS ne_ka_pa nin0))
  have f16 : Keep h0 T8.heap [ha, pa] := K0.trans K8 (allS (Or.inl (List.mem_of_getElem? (i := 0) rfl)) (allS (Or.inl (List.mem_of_getElem? (i := 1) rfl)) all0))
  subst hv8
  have N8 := Fr.app N0 N8q
  have pre8 : Go p.tables e below (s₁.setTop (entryFrame m #[(.ref a0), (.int (2 : Int32))] 4)) T8 (mkF m 98 #[.val (.ref a0), .val (.int (2 : Int32)), .val (.int x2), .unset] []) := fun t k => pre7 t (st8 _ k)
  obtain ⟨fs, hr, hrun, hended, hW, hsame⟩ := X8.leave (v := none) (fun _ => rfl) (BodyLoose.notSynchronized Bd)
  refine ⟨_, _, pre8 _ ?_, hrun, hended, _, _, rfl, ?_, ⟨_, rfl⟩, hW, hsame.mono (Nat.le_of_ble_eq_true rfl) (Nat.le_of_ble_eq_true rfl)⟩
  · exact X8.returnOut hx Bd.returns (hb hby d10_98) hr
  · show Q_sd Z a0 (2 : Int32) (1 : Int32) ka ha pa kk kh kp d0 d1 d2 x0 x1 x2 y0 y1 y2 h0 n0 _ T8.heap _
    exact ⟨x0, x1, x2, (own_u 0 x2 (2 : Int32) y0), (own_u 1 x2 (2 : Int32) y1), (own_u 2 x2 (2 : Int32) y2), rfl, N8, f16, fo8_0, fo8_1, (Or.inl rfl)⟩
theorem pn_sd20 : plainName "com/example/octopoll/octopoll/PageHeap" = true := by first | (simp [plainName, overriddenIn]; done) | decide +kernel
theorem ef_sd20 (m : MethodId) (a0 : Addr) : entryFrame m #[(.ref a0), (.int (0 : Int32))] 4 = mkF m 0 #[.val (.ref a0), .val (.int (0 : Int32)), .unset, .unset] [] := by first | (simp [entryFrame, mkF, argsToLocals, Value.category]; done) | rfl
set_option maxRecDepth 65536 in
set_option maxHeartbeats 40000000 in
theorem rm_sd20 (l : Launch) (Z : State) (av0 : Array Value) (hw : ∀ d ∈ tables_1, d.before av0 Z = true) (ws : List Jvm.Cond) (a0 : Addr) (ka : Addr) (ha : Addr) (pa : Addr) (kk : ClassId) (kh : ClassId) (kp : ClassId) (d0 : UInt64) (d1 : UInt64) (d2 : UInt64) (x0 : Int32) (x1 : Int32) (x2 : Int32) (y0 : Int32) (y1 : Int32) (y2 : Int32) (h0 : Heap) (n0 : Nat) (Z0 : n0 ≤ h0.size) (fi0 : Exa Z h0 a0 "com/example/octopoll/octopoll/PageHeap") (fi1 : Fld Z h0 a0 "com/example/octopoll/octopoll/PageHeap" "key" "[D" (.ref ka)) (fi2 : Fld Z h0 a0 "com/example/octopoll/octopoll/PageHeap" "heap" "[I" (.ref ha)) (fi3 : Fld Z h0 a0 "com/example/octopoll/octopoll/PageHeap" "position" "[I" (.ref pa)) (fi4 : Fld Z h0 a0 "com/example/octopoll/octopoll/PageHeap" "size" "I" (.int (2 : Int32))) (fi5 : Arv Z h0 ka kk .double (3 : Int32) [(.double d0), (.double d1), (.double d2)] (.double 0)) (fi6 : Arv Z h0 ha kh .int (3 : Int32) [(.int x0), (.int x1), (.int x2)] (.int (0 : Int32))) (fi7 : Arv Z h0 pa kp .int (3 : Int32) [(.int y0), (.int y1), (.int y2)] (.int (0 : Int32))) (g_ha : n0 ≤ ha) (g_pa : n0 ≤ pa) (ne_a0_ha : a0 ≠ ha) (ne_a0_pa : a0 ≠ pa) (ne_ha_pa : ha ≠ pa) (ne_a0_ka : a0 ≠ ka) (ne_ka_ha : ka ≠ ha) (ne_ka_pa : ka ≠ pa) (hx0 : own_bd x0) (hx1 : own_bd x1) (hx2 : own_bd x2) :
    MetFree l (⟨"com/example/octopoll/octopoll/PageHeap", "siftDown", "(I)V"⟩ : MethodName) (head1 (Jvm.Cond.code (⟨"com/example/octopoll/octopoll/PageHeap", "siftDown", "(I)V"⟩ : MethodName) prog_17_method_10_code 4 none :: ws) ({ frames := 1, cells := 0, slots := 0, locals := 16 } : Room)) (fun a U => a = #[(.ref a0), (.int (0 : Int32))] ∧ Z.Warmed39 U.vm ∧ U.heap = h0) (fun _ _ _ _ _ => True) (fun _ U o U' => ∃ v L, o = .returned v ∧ Q_sd Z a0 (0 : Int32) (2 : Int32) ka ha pa kk kh kp d0 d1 d2 x0 x1 x2 y0 y1 y2 h0 n0 v U'.heap L ∧ FrameEnd U o U' L ({ frames := 1, cells := 0, slots := 0, locals := 16 } : Room).cells ({ frames := 1, cells := 0, slots := 0, locals := 16 } : Room).slots) := by
  refine MetFree.of_bodySF (plainFor_of_name pn_sd20) hisR ?_
  intro p e s m args below meth c s₁ Bd hml0 hP hK
  obtain ⟨rfl, hZ, hh⟩ := hP
  have hx := Bd.exec
  have hby := Bd.bytes
  have hml : c.maxLocals = 4 := hml0
  have hown : s.vm.findClass "com/example/octopoll/octopoll/PageHeap" = some m.cls := findClass_of_methodNamed Bd.named
  have hnm := (name_of_methodNamed Bd.named Bd.method).1
  have X0 : Stand p l e ({ frames := 1, cells := 0, slots := 0, locals := 16 } : Room) s m #[(.ref a0), (.int (0 : Int32))] below meth c s₁ [] 0 0 := Stand.of_body Bd
  have e0 : s₁.heap = h0 := by rw [← hh, Bd.state]; rfl
  have N0 := Fr.nil n0
  have pre0 : Go p.tables e below (s₁.setTop (entryFrame m #[(.ref a0), (.int (0 : Int32))] 4)) s₁ (mkF m 0 #[.val (.ref a0), .val (.int (0 : Int32)), .unset, .unset] []) := fun t k => castTop (ef_sd20 m a0) k
  have K0 : Keep h0 h0 [ha, pa] := Keep.refl _ _
  have pre1 : Go p.tables e below (s₁.setTop (entryFrame m #[(.ref a0), (.int (0 : Int32))] 4)) s₁ (mkF m 1 #[.val (.ref a0), .val (.int (0 : Int32)), .unset, .unset] [(.ref a0)]) := fun t k => pre0 t (by
      refine XS.aloadN X0.here hx rfl (hb hby d10_0) rfl rfl ?_
      exact k)
  obtain ⟨T2, X2, e2, st2⟩ := getF X0 hx hZ hown (host := "") (Or.inl (hw _ (List.mem_of_getElem? (i := 13) rfl))) Via.refl e0 fi2 (g := (mkF m 1 #[.val (.ref a0), .val (.int (0 : Int32)), .unset, .unset] [(.ref a0)])) rfl rfl (hb hby d10_1)
  have pre2 : Go p.tables e below (s₁.setTop (entryFrame m #[(.ref a0), (.int (0 : Int32))] 4)) T2 (mkF m 4 #[.val (.ref a0), .val (.int (0 : Int32)), .unset, .unset] [(.ref ha)]) := fun t k => pre1 t (st2 _ k)
  have pre3 : Go p.tables e below (s₁.setTop (entryFrame m #[(.ref a0), (.int (0 : Int32))] 4)) T2 (mkF m 5 #[.val (.ref a0), .val (.int (0 : Int32)), .unset, .unset] [(.int (0 : Int32)), (.ref ha)]) := fun t k => pre2 t (by
      refine XS.iloadN X2.here hx rfl (hb hby d10_4) rfl ?_
      exact k)
  obtain ⟨c4, Ar4, q4, S4, M4, H4, G4⟩ := (id fi6)
  have hin4 : ¬ ((0 : Int32) < 0 ∨ c4.slots.size ≤ ((0 : Int32)).toNatClampNeg) := inb_of S4 ⟨by decide, by decide⟩
  have pre4 : Go p.tables e below (s₁.setTop (entryFrame m #[(.ref a0), (.int (0 : Int32))] 4)) T2 (mkF m 6 #[.val (.ref a0), .val (.int (0 : Int32)), .unset, .unset] [(.int x0)]) := fun t k => pre3 t (X2.iaload hx (j := (0 : Int32)) (v := (.int x0)) (by rw [e2]; exact Ar4.1) (State.isArrayOf_alike hZ.alike Ar4.2.1) Ar4.2.2 hin4 (H4.at hin4 rfl) (g := (mkF m 5 #[.val (.ref a0), .val (.int (0 : Int32)), .unset, .unset] [(.int (0 : Int32)), (.ref ha)])) rfl rfl (hb hby d10_5) _ k)
  have pre5 : Go p.tables e below (s₁.setTop (entryFrame m #[(.ref a0), (.int (0 : Int32))] 4)) T2 (mkF m 13 #[.val (.ref a0), .val (.int (0 : Int32)), .val (.int x0), .unset] [(.ref a0), (.int (1 : Int32))]) := fun t k => pre4 t (by
      refine XS.istoreN X2.here hx rfl (hb hby d10_6) rfl (l' := #[.val (.ref a0), .val (.int (0 : Int32)), .val (.int x0), .unset]) rfl ?_
      show Steps p.tables e below (T2.setTop (mkF m 7 #[.val (.ref a0), .val (.int (0 : Int32)), .val (.int x0), .unset] [])) _
      refine XS.iconst X2.here hx rfl (hb hby d10_7) ?_
      show Steps p.tables e below (T2.setTop (mkF m 8 #[.val (.ref a0), .val (.int (0 : Int32)), .val (.int x0), .unset] [(.int (2 : Int32))])) _
      refine XS.iloadN X2.here hx rfl (hb hby d10_8) rfl ?_
      show Steps p.tables e below (T2.setTop (mkF m 9 #[.val (.ref a0), .val (.int (0 : Int32)), .val (.int x0), .unset] [(.int (0 : Int32)), (.int (2 : Int32))])) _
      refine XS.imul X2.here hx rfl (hb hby d10_9) rfl ?_
      show Steps p.tables e below (T2.setTop (mkF m 10 #[.val (.ref a0), .val (.int (0 : Int32)), .val (.int x0), .unset] [(.int (0 : Int32))])) _
      refine XS.iconst X2.here hx rfl (hb hby d10_10) ?_
      show Steps p.tables e below (T2.setTop (mkF m 11 #[.val (.ref a0), .val (.int (0 : Int32)), .val (.int x0), .unset] [(.int (1 : Int32)), (.int (0 : Int32))])) _
      refine XS.iadd X2.here hx rfl (hb hby d10_11) rfl ?_
      show Steps p.tables e below (T2.setTop (mkF m 12 #[.val (.ref a0), .val (.int (0 : Int32)), .val (.int x0), .unset] [(.int (1 : Int32))])) _
      refine XS.aloadN X2.here hx rfl (hb hby d10_12) rfl rfl ?_
      exact k)
  obtain ⟨T6, X6, e6, st6⟩ := getF X2 hx hZ hown (host := "") (Or.inl (hw _ (List.mem_of_getElem? (i := 28) rfl))) Via.refl e2 fi4 (g := (mkF m 13 #[.val (.ref a0), .val (.int (0 : Int32)), .val (.int x0), .unset] [(.ref a0), (.int (1 : Int32))])) rfl rfl (hb hby d10_13)
  have pre6 : Go p.tables e below (s₁.setTop (entryFrame m #[(.ref a0), (.int (0 : Int32))] 4)) T6 (mkF m 16 #[.val (.ref a0), .val (.int (0 : Int32)), .val (.int x0), .unset] [(.int (2 : Int32)), (.int (1 : Int32))]) := fun t k => pre5 t (st6 _ k)
  have pre7 : Go p.tables e below (s₁.setTop (entryFrame m #[(.ref a0), (.int (0 : Int32))] 4)) T6 (mkF m 29 #[.val (.ref a0), .val (.int (0 : Int32)), .val (.int x0), .val (.int (1 : Int32))] [(.ref a0), (.int (2 : Int32))]) := fun t k => pre6 t (by
      refine XS.icmpNo X6.here hx rfl (hb hby d10_16) rfl (tlt (by decide)).2.1 ?_
      show Steps p.tables e below (T6.setTop (mkF m 19 #[.val (.ref a0), .val (.int (0 : Int32)), .val (.int x0), .unset] [])) _
      refine XS.iconst X6.here hx rfl (hb hby d10_19) ?_
      show Steps p.tables e below (T6.setTop (mkF m 20 #[.val (.ref a0), .val (.int (0 : Int32)), .val (.int x0), .unset] [(.int (2 : Int32))])) _
      refine XS.iloadN X6.here hx rfl (hb hby d10_20) rfl ?_
      show Steps p.tables e below (T6.setTop (mkF m 21 #[.val (.ref a0), .val (.int (0 : Int32)), .val (.int x0), .unset] [(.int (0 : Int32)), (.int (2 : Int32))])) _
      refine XS.imul X6.here hx rfl (hb hby d10_21) rfl ?_
      show Steps p.tables e below (T6.setTop (mkF m 22 #[.val (.ref a0), .val (.int (0 : Int32)), .val (.int x0), .unset] [(.int (0 : Int32))])) _
      refine XS.iconst X6.here hx rfl (hb hby d10_22) ?_
      show Steps p.tables e below (T6.setTop (mkF m 23 #[.val (.ref a0), .val (.int (0 : Int32)), .val (.int x0), .unset] [(.int (1 : Int32)), (.int (0 : Int32))])) _
      refine XS.iadd X6.here hx rfl (hb hby d10_23) rfl ?_
      show Steps p.tables e below (T6.setTop (mkF m 24 #[.val (.ref a0), .val (.int (0 : Int32)), .val (.int x0), .unset] [(.int (1 : Int32))])) _
      refine XS.istoreN X6.here hx rfl (hb hby d10_24) rfl (l' := #[.val (.ref a0), .val (.int (0 : Int32)), .val (.int x0), .val (.int (1 : Int32))]) rfl ?_
      show Steps p.tables e below (T6.setTop (mkF m 25 #[.val (.ref a0), .val (.int (0 : Int32)), .val (.int x0), .val (.int (1 : Int32))] [])) _
      refine XS.iloadN X6.here hx rfl (hb hby d10_25) rfl ?_
      show Steps p.tables e below (T6.setTop (mkF m 26 #[.val (.ref a0), .val (.int (0 : Int32)), .val (.int x0), .val (.int (1 : Int32))] [(.int (1 : Int32))])) _
      refine XS.iconst X6.here hx rfl (hb hby d10_26) ?_
      show Steps p.tables e below (T6.setTop (mkF m 27 #[.val (.ref a0), .val (.int (0 : Int32)), .val (.int x0), .val (.int (1 : Int32))] [(.int (1 : Int32)), (.int (1 : Int32))])) _
      refine XS.iadd X6.here hx rfl (hb hby d10_27) rfl ?_
      show Steps p.tables e below (T6.setTop (mkF m 28 #[.val (.ref a0), .val (.int (0 : Int32)), .val (.int x0), .val (.int (1 : Int32))] [(.int (2 : Int32))])) _
      refine XS.aloadN X6.here hx rfl (hb hby d10_28) rfl rfl ?_
      exact k)
  obtain ⟨T8, X8, e8, st8⟩ := getF X6 hx hZ hown (host := "") (Or.inl (hw _ (List.mem_of_getElem? (i := 28) rfl))) Via.refl e6 fi4 (g := (mkF m 29 #[.val (.ref a0), .val (.int (0 : Int32)), .val (.int x0), .val (.int (1 : Int32))] [(.ref a0), (.int (2 : Int32))])) rfl rfl (hb hby d10_29)
  have pre8 : Go p.tables e below (s₁.setTop (entryFrame m #[(.ref a0), (.int (0 : Int32))] 4)) T8 (mkF m 32 #[.val (.ref a0), .val (.int (0 : Int32)), .val (.int x0), .val (.int (1 : Int32))] [(.int (2 : Int32)), (.int (2 : Int32))]) := fun t k => pre7 t (st8 _ k)
  have pre9 : Go p.tables e below (s₁.setTop (entryFrame m #[(.ref a0), (.int (0 : Int32))] 4)) T8 (mkF m 61 #[.val (.ref a0), .val (.int (0 : Int32)), .val (.int x0), .val (.int (1 : Int32))] [(.ref a0), (.ref a0)]) := fun t k => pre8 t (by
      refine XS.icmpYes X8.here hx rfl (pc0 := 32) (pc' := 59) rfl (hb hby d10_32) rfl (flt (by decide)).2.1 (by decide) (by decide) ?_
      show Steps p.tables e below (T8.setTop (mkF m 59 #[.val (.ref a0), .val (.int (0 : Int32)), .val (.int x0), .val (.int (1 : Int32))] [])) _
      refine XS.aloadN X8.here hx rfl (hb hby d10_59) rfl rfl ?_
      show Steps p.tables e below (T8.setTop (mkF m 60 #[.val (.ref a0), .val (.int (0 : Int32)), .val (.int x0), .val (.int (1 : Int32))] [(.ref a0)])) _
      refine XS.aloadN X8.here hx rfl (hb hby d10_60) rfl rfl ?_
      exact k)
  obtain ⟨T10, X10, e10, st10⟩ := getF X8 hx hZ hown (host := "") (Or.inl (hw _ (List.mem_of_getElem? (i := 13) rfl))) Via.refl e8 fi2 (g := (mkF m 61 #[.val (.ref a0), .val (.int (0 : Int32)), .val (.int x0), .val (.int (1 : Int32))] [(.ref a0), (.ref a0)])) rfl rfl (hb hby d10_61)
  have pre10 : Go p.tables e below (s₁.setTop (entryFrame m #[(.ref a0), (.int (0 : Int32))] 4)) T10 (mkF m 64 #[.val (.ref a0), .val (.int (0 : Int32)), .val (.int x0), .val (.int (1 : Int32))] [(.ref ha), (.ref a0)]) := fun t k => pre9 t (st10 _ k)
  have pre11 : Go p.tables e below (s₁.setTop (entryFrame m #[(.ref a0), (.int (0 : Int32))] 4)) T10 (mkF m 65 #[.val (.ref a0), .val (.int (0 : Int32)), .val (.int x0), .val (.int (1 : Int32))] [(.int (1 : Int32)), (.ref ha), (.ref a0)]) := fun t k => pre10 t (by
      refine XS.iloadN X10.here hx rfl (hb hby d10_64) rfl ?_
      exact k)
  obtain ⟨c12, Ar12, q12, S12, M12, H12, G12⟩ := (id fi6)
  have hin12 : ¬ ((1 : Int32) < 0 ∨ c12.slots.size ≤ ((1 : Int32)).toNatClampNeg) := inb_of S12 ⟨by decide, by decide⟩
  have pre12 : Go p.tables e below (s₁.setTop (entryFrame m #[(.ref a0), (.int (0 : Int32))] 4)) T10 (mkF m 66 #[.val (.ref a0), .val (.int (0 : Int32)), .val (.int x0), .val (.int (1 : Int32))] [(.int x1), (.ref a0)]) := fun t k => pre11 t (X10.iaload hx (j := (1 : Int32)) (v := (.int x1)) (by rw [e10]; exact Ar12.1) (State.isArrayOf_alike hZ.alike Ar12.2.1) Ar12.2.2 hin12 (H12.at hin12 rfl) (g := (mkF m 65 #[.val (.ref a0), .val (.int (0 : Int32)), .val (.int x0), .val (.int (1 : Int32))] [(.int (1 : Int32)), (.ref ha), (.ref a0)])) rfl rfl (hb hby d10_65) _ k)
  have pre13 : Go p.tables e below (s₁.setTop (entryFrame m #[(.ref a0), (.int (0 : Int32))] 4)) T10 (mkF m 67 #[.val (.ref a0), .val (.int (0 : Int32)), .val (.int x0), .val (.int (1 : Int32))] [(.int x0), (.int x1), (.ref a0)]) := fun t k => pre12 t (by
      refine XS.iloadN X10.here hx rfl (hb hby d10_66) rfl ?_
      exact k)
  obtain ⟨cq14, q14, q14'⟩ := fi0.cell
  obtain ⟨_, _, ⟨T14, L14, k14, n14⟩, -, X14, ⟨Lc14, hQ14, l14, y14, z14⟩, st14⟩ := own_private X10 hx (y := (⟨"com/example/octopoll/octopoll/PageHeap", "less", "(II)Z"⟩ : MethodName)) hown (mvT hZ (hw _ (List.mem_of_getElem? (i := 38) rfl))) (mvT hZ (hw _ (List.mem_of_getElem? (i := 39) rfl))) (mvT hZ (hw _ (List.mem_of_getElem? (i := 26) rfl))) rfl (Cond.privateMethod_at (mvP hZ (hw _ (List.mem_of_getElem? (i := 40) rfl)) (args := #[]))) (mvT hZ (hw _ (List.mem_of_getElem? (i := 41) rfl))) (by decide) (backOf (W := 0) (rm_les l Z av0 hw [] a0 x1 x0 ka kk d0 d1 d2 h0 n0 Z0 fi1 fi5 hx1 hx0) hZ (hw _ (List.mem_of_getElem? (i := 41) rfl)) (hw _ (List.mem_of_getElem? (i := 3) rfl)) (by decide) (by decide)) (a := a0) (by rw [e10]; exact q14) q14' (g := (mkF m 67 #[.val (.ref a0), .val (.int (0 : Int32)), .val (.int x0), .val (.int (1 : Int32))] [(.int x0), (.int x1), (.ref a0)])) rfl (by rw [hml]; rfl) (argsL := [(.int x1), (.int x0)]) (rest := []) (lenOf pd_1 rfl) rfl (by show 2 * 0 + _ ≤ _; exact Nat.le_of_eq rfl) (hb hby d10_67) (fun _ _ => ⟨rfl, e10, (by decide : 0 + 0 ≤ _), (by decide : 0 + 0 ≤ _)⟩)
  dsimp only [Pt.U, Pt.locs, Pt.cells, Pt.slots] at X14 l14 y14 z14 st14 hQ14
  subst l14 y14 z14
  obtain ⟨zl14, hv14, N14q, K14⟩ := hQ14
  have f15 : n0 ≤ T14.heap.size := Nat.le_trans Z0 K14.1
  have f16 : Exa Z T14.heap a0 "com/example/octopoll/octopoll/PageHeap" := fi0.keep K14
  have f17 : Fld Z T14.heap a0 "com/example/octopoll/octopoll/PageHeap" "key" "[D" (.ref ka) := fi1.keep K14 nin0
  have f18 : Fld Z T14.heap a0 "com/example/octopoll/octopoll/PageHeap" "heap" "[I" (.ref ha) := fi2.keep K14 nin0
  have f19 : Fld Z T14.heap a0 "com/example/octopoll/octopoll/PageHeap" "position" "[I" (.ref pa) := fi3.keep K14 nin0
  have f20 : Fld Z T14.heap a0 "com/example/octopoll/octopoll/PageHeap" "size" "I" (.int (2 : Int32)) := fi4.keep K14 nin0
  have f21 : Arv Z T14.heap ka kk .double (3 : Int32) [(.double d0), (.double d1), (.double d2)] (.double 0) := fi5.keep K14 nin0
  have f22 : Arv Z T14.heap ha kh .int (3 : Int32) [(.int x0), (.int x1), (.int x2)] (.int (0 : Int32)) := fi6.keep K14 nin0
  have f23 : Arv Z T14.heap pa kp .int (3 : Int32) [(.int y0), (.int y1), (.int y2)] (.int (0 : Int32)) := fi7.keep K14 nin0
  have f24 : Keep h0 T14.heap [ha, pa] := K0.trans K14 all0
  subst hv14
  have N14 := Fr.app N0 N14q
  have pre14 : Go p.tables e below (s₁.setTop (entryFrame m #[(.ref a0), (.int (0 : Int32))] 4)) T14 (mkF m 70 #[.val (.ref a0), .val (.int (0 : Int32)), .val (.int x0), .val (.int (1 : Int32))] [(.int zl14)]) := fun t k => pre13 t (st14 _ k)
  by_cases hc25 : zl14 = (0 : Int32)
  · -- hc25: True
    have pre26 : Go p.tables e below (s₁.setTop (entryFrame m #[(.ref a0), (.int (0 : Int32))] 4)) T14 (mkF m 95 #[.val (.ref a0), .val (.int (0 : Int32)), .val (.int x0), .val (.int (1 : Int32))] [(.int (0 : Int32)), (.int x0), (.ref a0)]) := fun t k => pre14 t (by
        refine XS.ifNo X14.here hx rfl (hb hby d10_70) rfl ((if0 _ _).trans (teq hc25).2) ?_
        show Steps p.tables e below (T14.setTop (mkF m 73 #[.val (.ref a0), .val (.int (0 : Int32)), .val (.int x0), .val (.int (1 : Int32))] [])) _
        refine XS.goto X14.here hx rfl (pc0 := 73) (pc' := 92) rfl (hb hby d10_73) (by decide) (by decide) ?_
        show Steps p.tables e below (T14.setTop (mkF m 92 #[.val (.ref a0), .val (.int (0 : Int32)), .val (.int x0), .val (.int (1 : Int32))] [])) _
        refine XS.aloadN X14.here hx rfl (hb hby d10_92) rfl rfl ?_
        show Steps p.tables e below (T14.setTop (mkF m 93 #[.val (.ref a0), .val (.int (0 : Int32)), .val (.int x0), .val (.int (1 : Int32))] [(.ref a0)])) _
        refine XS.iloadN X14.here hx rfl (hb hby d10_93) rfl ?_
        show Steps p.tables e below (T14.setTop (mkF m 94 #[.val (.ref a0), .val (.int (0 : Int32)), .val (.int x0), .val (.int (1 : Int32))] [(.int x0), (.ref a0)])) _
        refine XS.iloadN X14.here hx rfl (hb hby d10_94) rfl ?_
        exact k)
    obtain ⟨cq27, q27, q27'⟩ := f16.cell
    obtain ⟨_, _, ⟨T27, L27, k27, n27⟩, -, X27, ⟨Lc27, hQ27, l27, y27, z27⟩, st27⟩ := own_private X14 hx (y := (⟨"com/example/octopoll/octopoll/PageHeap", "place", "(II)V"⟩ : MethodName)) hown (mvT hZ (hw _ (List.mem_of_getElem? (i := 30) rfl))) (mvT hZ (hw _ (List.mem_of_getElem? (i := 31) rfl))) (mvT hZ (hw _ (List.mem_of_getElem? (i := 26) rfl))) rfl (Cond.privateMethod_at (mvP hZ (hw _ (List.mem_of_getElem? (i := 32) rfl)) (args := #[]))) (mvT hZ (hw _ (List.mem_of_getElem? (i := 33) rfl))) (by decide) (backOf (W := 0) (rm_plc l Z av0 hw [] a0 x0 (0 : Int32) ha pa kh kp x0 x1 x2 y0 y1 y2 T14.heap n0 f15 f18 f19 f22 f23 g_ha g_pa ne_a0_ha ne_a0_pa ne_ha_pa hx0 (by decide)) hZ (hw _ (List.mem_of_getElem? (i := 33) rfl)) (hw _ (List.mem_of_getElem? (i := 3) rfl)) (by decide) (by decide)) (a := a0) q27 q27' (g := (mkF m 95 #[.val (.ref a0), .val (.int (0 : Int32)), .val (.int x0), .val (.int (1 : Int32))] [(.int (0 : Int32)), (.int x0), (.ref a0)])) rfl (by rw [hml]; rfl) (argsL := [(.int x0), (.int (0 : Int32))]) (rest := []) (lenOf pd_0 rfl) rfl (by show 2 * 0 + _ ≤ _; exact Nat.le_of_eq rfl) (hb hby d10_95) (fun _ _ => ⟨rfl, rfl, (by decide : 0 + 0 ≤ _), (by decide : 0 + 0 ≤ _)⟩)
    dsimp only [Pt.U, Pt.locs, Pt.cells, Pt.slots] at X27 l27 y27 z27 st27 hQ27
    subst l27 y27 z27
    obtain ⟨hv27, N27q, K27, fo27_0, fo27_1⟩ := hQ27
    have f28 : n0 ≤ T27.heap.size := Nat.le_trans f15 K27.1
    have f29 : Exa Z T27.heap a0 "com/example/octopoll/octopoll/PageHeap" := f16.keep K27
    have f30 : Fld Z T27.heap a0 "com/example/octopoll/octopoll/PageHeap" "key" "[D" (.ref ka) := f17.keep K27 (ninS ne_a0_ha (ninS ne_a0_pa nin0))
    have f31 : Fld Z T27.heap a0 "com/example/octopoll/octopoll/PageHeap" "heap" "[I" (.ref ha) := f18.keep K27 (ninS ne_a0_ha (ninS ne_a0_pa nin0))
    have f32 : Fld Z T27.heap a0 "com/example/octopoll/octopoll/PageHeap" "position" "[I" (.ref pa) := f19.keep K27 (ninS ne_a0_ha (ninS ne_a0_pa nin0))
    have f33 : Fld Z T27.heap a0 "com/example/octopoll/octopoll/PageHeap" "size" "I" (.int (2 : Int32)) := f20.keep K27 (ninS ne_a0_ha (ninS ne_a0_pa nin0))
    have f34 : Arv Z T27.heap ka kk .double (3 : Int32) [(.double d0), (.double d1), (.double d2)] (.double 0) := f21.keep K27 (ninS ne_ka_ha (ninS ne_ka_pa nin0))
    have f35 : Keep h0 T27.heap [ha, pa] := f24.trans K27 (allS (Or.inl (List.mem_of_getElem? (i := 0) rfl)) (allS (Or.inl (List.mem_of_getElem? (i := 1) rfl)) all0))
    subst hv27
    have N27 := Fr.app N14 N27q
    have pre27 : Go p.tables e below (s₁.setTop (entryFrame m #[(.ref a0), (.int (0 : Int32))] 4)) T27 (mkF m 98 #[.val (.ref a0), .val (.int (0 : Int32)), .val (.int x0), .val (.int (1 : Int32))] []) := fun t k => pre26 t (st27 _ k)
    obtain ⟨fs, hr, hrun, hended, hW, hsame⟩ := X27.leave (v := none) (fun _ => rfl) (BodyLoose.notSynchronized Bd)
    refine ⟨_, _, pre27 _ ?_, hrun, hended, _, _, rfl, ?_, ⟨_, rfl⟩, hW, hsame.mono (Nat.le_of_ble_eq_true rfl) (Nat.le_of_ble_eq_true rfl)⟩
    · exact X27.returnOut hx Bd.returns (hb hby d10_98) hr
    · show Q_sd Z a0 (0 : Int32) (2 : Int32) ka ha pa kk kh kp d0 d1 d2 x0 x1 x2 y0 y1 y2 h0 n0 _ T27.heap _
      exact ⟨x0, x1, x2, (own_u 0 x0 (0 : Int32) y0), (own_u 1 x0 (0 : Int32) y1), (own_u 2 x0 (0 : Int32) y2), rfl, N27, f35, fo27_0, fo27_1, (Or.inl rfl)⟩
  · -- hc25: False
    have pre36 : Go p.tables e below (s₁.setTop (entryFrame m #[(.ref a0), (.int (0 : Int32))] 4)) T14 (mkF m 78 #[.val (.ref a0), .val (.int (0 : Int32)), .val (.int x0), .val (.int (1 : Int32))] [(.ref a0), (.ref a0)]) := fun t k => pre14 t (by
        refine XS.ifYes X14.here hx rfl (pc0 := 70) (pc' := 76) rfl (hb hby d10_70) rfl ((if0 _ _).trans (feq hc25).2) (by decide) (by decide) ?_
        show Steps p.tables e below (T14.setTop (mkF m 76 #[.val (.ref a0), .val (.int (0 : Int32)), .val (.int x0), .val (.int (1 : Int32))] [])) _
        refine XS.aloadN X14.here hx rfl (hb hby d10_76) rfl rfl ?_
        show Steps p.tables e below (T14.setTop (mkF m 77 #[.val (.ref a0), .val (.int (0 : Int32)), .val (.int x0), .val (.int (1 : Int32))] [(.ref a0)])) _
        refine XS.aloadN X14.here hx rfl (hb hby d10_77) rfl rfl ?_
        exact k)
    obtain ⟨T37, X37, e37, st37⟩ := getF X14 hx hZ hown (host := "") (Or.inl (hw _ (List.mem_of_getElem? (i := 13) rfl))) Via.refl rfl f18 (g := (mkF m 78 #[.val (.ref a0), .val (.int (0 : Int32)), .val (.int x0), .val (.int (1 : Int32))] [(.ref a0), (.ref a0)])) rfl rfl (hb hby d10_78)
    have pre37 : Go p.tables e below (s₁.setTop (entryFrame m #[(.ref a0), (.int (0 : Int32))] 4)) T37 (mkF m 81 #[.val (.ref a0), .val (.int (0 : Int32)), .val (.int x0), .val (.int (1 : Int32))] [(.ref ha), (.ref a0)]) := fun t k => pre36 t (st37 _ k)
    have pre38 : Go p.tables e below (s₁.setTop (entryFrame m #[(.ref a0), (.int (0 : Int32))] 4)) T37 (mkF m 82 #[.val (.ref a0), .val (.int (0 : Int32)), .val (.int x0), .val (.int (1 : Int32))] [(.int (1 : Int32)), (.ref ha), (.ref a0)]) := fun t k => pre37 t (by
        refine XS.iloadN X37.here hx rfl (hb hby d10_81) rfl ?_
        exact k)
    obtain ⟨c39, Ar39, q39, S39, M39, H39, G39⟩ := (id f22)
    have hin39 : ¬ ((1 : Int32) < 0 ∨ c39.slots.size ≤ ((1 : Int32)).toNatClampNeg) := inb_of S39 ⟨by decide, by decide⟩
    have pre39 : Go p.tables e below (s₁.setTop (entryFrame m #[(.ref a0), (.int (0 : Int32))] 4)) T37 (mkF m 83 #[.val (.ref a0), .val (.int (0 : Int32)), .val (.int x0), .val (.int (1 : Int32))] [(.int x1), (.ref a0)]) := fun t k => pre38 t (X37.iaload hx (j := (1 : Int32)) (v := (.int x1)) (by rw [e37]; exact Ar39.1) (State.isArrayOf_alike hZ.alike Ar39.2.1) Ar39.2.2 hin39 (H39.at hin39 rfl) (g := (mkF m 82 #[.val (.ref a0), .val (.int (0 : Int32)), .val (.int x0), .val (.int (1 : Int32))] [(.int (1 : Int32)), (.ref ha), (.ref a0)])) rfl rfl (hb hby d10_82) _ k)
    have pre40 : Go p.tables e below (s₁.setTop (entryFrame m #[(.ref a0), (.int (0 : Int32))] 4)) T37 (mkF m 84 #[.val (.ref a0), .val (.int (0 : Int32)), .val (.int x0), .val (.int (1 : Int32))] [(.int (0 : Int32)), (.int x1), (.ref a0)]) := fun t k => pre39 t (by
        refine XS.iloadN X37.here hx rfl (hb hby d10_83) rfl ?_
        exact k)
    obtain ⟨cq41, q41, q41'⟩ := f16.cell
    obtain ⟨_, _, ⟨T41, L41, k41, n41⟩, -, X41, ⟨Lc41, hQ41, l41, y41, z41⟩, st41⟩ := own_private X37 hx (y := (⟨"com/example/octopoll/octopoll/PageHeap", "place", "(II)V"⟩ : MethodName)) hown (mvT hZ (hw _ (List.mem_of_getElem? (i := 30) rfl))) (mvT hZ (hw _ (List.mem_of_getElem? (i := 31) rfl))) (mvT hZ (hw _ (List.mem_of_getElem? (i := 26) rfl))) rfl (Cond.privateMethod_at (mvP hZ (hw _ (List.mem_of_getElem? (i := 32) rfl)) (args := #[]))) (mvT hZ (hw _ (List.mem_of_getElem? (i := 33) rfl))) (by decide) (backOf (W := 0) (rm_plc l Z av0 hw [] a0 x1 (0 : Int32) ha pa kh kp x0 x1 x2 y0 y1 y2 T14.heap n0 f15 f18 f19 f22 f23 g_ha g_pa ne_a0_ha ne_a0_pa ne_ha_pa hx1 (by decide)) hZ (hw _ (List.mem_of_getElem? (i := 33) rfl)) (hw _ (List.mem_of_getElem? (i := 3) rfl)) (by decide) (by decide)) (a := a0) (by rw [e37]; exact q41) q41' (g := (mkF m 84 #[.val (.ref a0), .val (.int (0 : Int32)), .val (.int x0), .val (.int (1 : Int32))] [(.int (0 : Int32)), (.int x1), (.ref a0)])) rfl (by rw [hml]; rfl) (argsL := [(.int x1), (.int (0 : Int32))]) (rest := []) (lenOf pd_0 rfl) rfl (by show 2 * 0 + _ ≤ _; exact Nat.le_of_eq rfl) (hb hby d10_84) (fun _ _ => ⟨rfl, e37, (by decide : 0 + 0 ≤ _), (by decide : 0 + 0 ≤ _)⟩)
    dsimp only [Pt.U, Pt.locs, Pt.cells, Pt.slots] at X41 l41 y41 z41 st41 hQ41
    subst l41 y41 z41
    obtain ⟨hv41, N41q, K41, fo41_0, fo41_1⟩ := hQ41
    have f42 : n0 ≤ T41.heap.size := Nat.le_trans f15 K41.1
    have f43 : Exa Z T41.heap a0 "com/example/octopoll/octopoll/PageHeap" := f16.keep K41
    have f44 : Fld Z T41.heap a0 "com/example/octopoll/octopoll/PageHeap" "key" "[D" (.ref ka) := f17.keep K41 (ninS ne_a0_ha (ninS ne_a0_pa nin0))
    have f45 : Fld Z T41.heap a0 "com/example/octopoll/octopoll/PageHeap" "heap" "[I" (.ref ha) := f18.keep K41 (ninS ne_a0_ha (ninS ne_a0_pa nin0))
    have f46 : Fld Z T41.heap a0 "com/example/octopoll/octopoll/PageHeap" "position" "[I" (.ref pa) := f19.keep K41 (ninS ne_a0_ha (ninS ne_a0_pa nin0))
    have f47 : Fld Z T41.heap a0 "com/example/octopoll/octopoll/PageHeap" "size" "I" (.int (2 : Int32)) := f20.keep K41 (ninS ne_a0_ha (ninS ne_a0_pa nin0))
    have f48 : Arv Z T41.heap ka kk .double (3 : Int32) [(.double d0), (.double d1), (.double d2)] (.double 0) := f21.keep K41 (ninS ne_ka_ha (ninS ne_ka_pa nin0))
    have f49 : Keep h0 T41.heap [ha, pa] := f24.trans K41 (allS (Or.inl (List.mem_of_getElem? (i := 0) rfl)) (allS (Or.inl (List.mem_of_getElem? (i := 1) rfl)) all0))
    subst hv41
    have N41 := Fr.app N14 N41q
    have pre41 : Go p.tables e below (s₁.setTop (entryFrame m #[(.ref a0), (.int (0 : Int32))] 4)) T41 (mkF m 87 #[.val (.ref a0), .val (.int (0 : Int32)), .val (.int x0), .val (.int (1 : Int32))] []) := fun t k => pre40 t (st41 _ k)
    have pre50 : Go p.tables e below (s₁.setTop (entryFrame m #[(.ref a0), (.int (0 : Int32))] 4)) T41 (mkF m 13 #[.val (.ref a0), .val (.int (1 : Int32)), .val (.int x0), .val (.int (1 : Int32))] [(.ref a0), (.int (3 : Int32))]) := fun t k => pre41 t (by
        refine XS.iloadN X41.here hx rfl (hb hby d10_87) rfl ?_
        show Steps p.tables e below (T41.setTop (mkF m 88 #[.val (.ref a0), .val (.int (0 : Int32)), .val (.int x0), .val (.int (1 : Int32))] [(.int (1 : Int32))])) _
        refine XS.istoreN X41.here hx rfl (hb hby d10_88) rfl (l' := #[.val (.ref a0), .val (.int (1 : Int32)), .val (.int x0), .val (.int (1 : Int32))]) rfl ?_
        show Steps p.tables e below (T41.setTop (mkF m 89 #[.val (.ref a0), .val (.int (1 : Int32)), .val (.int x0), .val (.int (1 : Int32))] [])) _
        refine XS.goto X41.here hx rfl (pc0 := 89) (pc' := 7) rfl (hb hby d10_89) (by decide) (by decide) ?_
        show Steps p.tables e below (T41.setTop (mkF m 7 #[.val (.ref a0), .val (.int (1 : Int32)), .val (.int x0), .val (.int (1 : Int32))] [])) _
        refine XS.iconst X41.here hx rfl (hb hby d10_7) ?_
        show Steps p.tables e below (T41.setTop (mkF m 8 #[.val (.ref a0), .val (.int (1 : Int32)), .val (.int x0), .val (.int (1 : Int32))] [(.int (2 : Int32))])) _
        refine XS.iloadN X41.here hx rfl (hb hby d10_8) rfl ?_
        show Steps p.tables e below (T41.setTop (mkF m 9 #[.val (.ref a0), .val (.int (1 : Int32)), .val (.int x0), .val (.int (1 : Int32))] [(.int (1 : Int32)), (.int (2 : Int32))])) _
        refine XS.imul X41.here hx rfl (hb hby d10_9) rfl ?_
        show Steps p.tables e below (T41.setTop (mkF m 10 #[.val (.ref a0), .val (.int (1 : Int32)), .val (.int x0), .val (.int (1 : Int32))] [(.int (2 : Int32))])) _
        refine XS.iconst X41.here hx rfl (hb hby d10_10) ?_
        show Steps p.tables e below (T41.setTop (mkF m 11 #[.val (.ref a0), .val (.int (1 : Int32)), .val (.int x0), .val (.int (1 : Int32))] [(.int (1 : Int32)), (.int (2 : Int32))])) _
        refine XS.iadd X41.here hx rfl (hb hby d10_11) rfl ?_
        show Steps p.tables e below (T41.setTop (mkF m 12 #[.val (.ref a0), .val (.int (1 : Int32)), .val (.int x0), .val (.int (1 : Int32))] [(.int (3 : Int32))])) _
        refine XS.aloadN X41.here hx rfl (hb hby d10_12) rfl rfl ?_
        exact k)
    obtain ⟨T51, X51, e51, st51⟩ := getF X41 hx hZ hown (host := "") (Or.inl (hw _ (List.mem_of_getElem? (i := 28) rfl))) Via.refl rfl f47 (g := (mkF m 13 #[.val (.ref a0), .val (.int (1 : Int32)), .val (.int x0), .val (.int (1 : Int32))] [(.ref a0), (.int (3 : Int32))])) rfl rfl (hb hby d10_13)
    have pre51 : Go p.tables e below (s₁.setTop (entryFrame m #[(.ref a0), (.int (0 : Int32))] 4)) T51 (mkF m 16 #[.val (.ref a0), .val (.int (1 : Int32)), .val (.int x0), .val (.int (1 : Int32))] [(.int (2 : Int32)), (.int (3 : Int32))]) := fun t k => pre50 t (st51 _ k)
    have pre52 : Go p.tables e below (s₁.setTop (entryFrame m #[(.ref a0), (.int (0 : Int32))] 4)) T51 (mkF m 95 #[.val (.ref a0), .val (.int (1 : Int32)), .val (.int x0), .val (.int (1 : Int32))] [(.int (1 : Int32)), (.int x0), (.ref a0)]) := fun t k => pre51 t (by
        refine XS.icmpYes X51.here hx rfl (pc0 := 16) (pc' := 92) rfl (hb hby d10_16) rfl (flt (by decide)).2.1 (by decide) (by decide) ?_
        show Steps p.tables e below (T51.setTop (mkF m 92 #[.val (.ref a0), .val (.int (1 : Int32)), .val (.int x0), .val (.int (1 : Int32))] [])) _
        refine XS.aloadN X51.here hx rfl (hb hby d10_92) rfl rfl ?_
        show Steps p.tables e below (T51.setTop (mkF m 93 #[.val (.ref a0), .val (.int (1 : Int32)), .val (.int x0), .val (.int (1 : Int32))] [(.ref a0)])) _
        refine XS.iloadN X51.here hx rfl (hb hby d10_93) rfl ?_
        show Steps p.tables e below (T51.setTop (mkF m 94 #[.val (.ref a0), .val (.int (1 : Int32)), .val (.int x0), .val (.int (1 : Int32))] [(.int x0), (.ref a0)])) _
        refine XS.iloadN X51.here hx rfl (hb hby d10_94) rfl ?_
        exact k)
    obtain ⟨cq53, q53, q53'⟩ := f43.cell
    obtain ⟨_, _, ⟨T53, L53, k53, n53⟩, -, X53, ⟨Lc53, hQ53, l53, y53, z53⟩, st53⟩ := own_private X51 hx (y := (⟨"com/example/octopoll/octopoll/PageHeap", "place", "(II)V"⟩ : MethodName)) hown (mvT hZ (hw _ (List.mem_of_getElem? (i := 30) rfl))) (mvT hZ (hw _ (List.mem_of_getElem? (i := 31) rfl))) (mvT hZ (hw _ (List.mem_of_getElem? (i := 26) rfl))) rfl (Cond.privateMethod_at (mvP hZ (hw _ (List.mem_of_getElem? (i := 32) rfl)) (args := #[]))) (mvT hZ (hw _ (List.mem_of_getElem? (i := 33) rfl))) (by decide) (backOf (W := 0) (rm_plc l Z av0 hw [] a0 x0 (1 : Int32) ha pa kh kp x1 x1 x2 (own_u 0 x1 (0 : Int32) y0) (own_u 1 x1 (0 : Int32) y1) (own_u 2 x1 (0 : Int32) y2) T41.heap n0 f42 f45 f46 fo41_0 fo41_1 g_ha g_pa ne_a0_ha ne_a0_pa ne_ha_pa hx0 (by decide)) hZ (hw _ (List.mem_of_getElem? (i := 33) rfl)) (hw _ (List.mem_of_getElem? (i := 3) rfl)) (by decide) (by decide)) (a := a0) (by rw [e51]; exact q53) q53' (g := (mkF m 95 #[.val (.ref a0), .val (.int (1 : Int32)), .val (.int x0), .val (.int (1 : Int32))] [(.int (1 : Int32)), (.int x0), (.ref a0)])) rfl (by rw [hml]; rfl) (argsL := [(.int x0), (.int (1 : Int32))]) (rest := []) (lenOf pd_0 rfl) rfl (by show 2 * 0 + _ ≤ _; exact Nat.le_of_eq rfl) (hb hby d10_95) (fun _ _ => ⟨rfl, e51, (by decide : 0 + 0 ≤ _), (by decide : 0 + 0 ≤ _)⟩)
    dsimp only [Pt.U, Pt.locs, Pt.cells, Pt.slots] at X53 l53 y53 z53 st53 hQ53
    subst l53 y53 z53
    obtain ⟨hv53, N53q, K53, fo53_0, fo53_1⟩ := hQ53
    have f54 : n0 ≤ T53.heap.size := Nat.le_trans f42 K53.1
    have f55 : Exa Z T53.heap a0 "com/example/octopoll/octopoll/PageHeap" := f43.keep K53
    have f56 : Fld Z T53.heap a0 "com/example/octopoll/octopoll/PageHeap" "key" "[D" (.ref ka) := f44.keep K53 (ninS ne_a0_ha (ninS ne_a0_pa nin0))
    have f57 : Fld Z T53.heap a0 "com/example/octopoll/octopoll/PageHeap" "heap" "[I" (.ref ha) := f45.keep K53 (ninS ne_a0_ha (ninS ne_a0_pa nin0))
    have f58 : Fld Z T53.heap a0 "com/example/octopoll/octopoll/PageHeap" "position" "[I" (.ref pa) := f46.keep K53 (ninS ne_a0_ha (ninS ne_a0_pa nin0))
    have f59 : Fld Z T53.heap a0 "com/example/octopoll/octopoll/PageHeap" "size" "I" (.int (2 : Int32)) := f47.keep K53 (ninS ne_a0_ha (ninS ne_a0_pa nin0))
    have f60 : Arv Z T53.heap ka kk .double (3 : Int32) [(.double d0), (.double d1), (.double d2)] (.double 0) := f48.keep K53 (ninS ne_ka_ha (ninS ne_ka_pa nin0))
    have f61 : Keep h0 T53.heap [ha, pa] := f49.trans K53 (allS (Or.inl (List.mem_of_getElem? (i := 0) rfl)) (allS (Or.inl (List.mem_of_getElem? (i := 1) rfl)) all0))
    subst hv53
    have N53 := Fr.app N41 N53q
    have pre53 : Go p.tables e below (s₁.setTop (entryFrame m #[(.ref a0), (.int (0 : Int32))] 4)) T53 (mkF m 98 #[.val (.ref a0), .val (.int (1 : Int32)), .val (.int x0), .val (.int (1 : Int32))] []) := fun t k => pre52 t (st53 _ k)
    obtain ⟨fs, hr, hrun, hended, hW, hsame⟩ := X53.leave (v := none) (fun _ => rfl) (BodyLoose.notSynchronized Bd)
    refine ⟨_, _, pre53 _ ?_, hrun, hended, _, _, rfl, ?_, ⟨_, rfl⟩, hW, hsame.mono (Nat.le_of_ble_eq_true rfl) (Nat.le_of_ble_eq_true rfl)⟩
    · exact X53.returnOut hx Bd.returns (hb hby d10_98) hr
    · show Q_sd Z a0 (0 : Int32) (2 : Int32) ka ha pa kk kh kp d0 d1 d2 x0 x1 x2 y0 y1 y2 h0 n0 _ T53.heap _
      exact ⟨x1, x0, x2, (own_u 0 x0 (1 : Int32) (own_u 0 x1 (0 : Int32) y0)), (own_u 1 x0 (1 : Int32) (own_u 1 x1 (0 : Int32) y1)), (own_u 2 x0 (1 : Int32) (own_u 2 x1 (0 : Int32) y2)), rfl, N53, f61, fo53_0, fo53_1, (Or.inr ⟨rfl, rfl, rfl⟩)⟩
theorem pn_sd21 : plainName "com/example/octopoll/octopoll/PageHeap" = true := by first | (simp [plainName, overriddenIn]; done) | decide +kernel
theorem ef_sd21 (m : MethodId) (a0 : Addr) : entryFrame m #[(.ref a0), (.int (1 : Int32))] 4 = mkF m 0 #[.val (.ref a0), .val (.int (1 : Int32)), .unset, .unset] [] := by first | (simp [entryFrame, mkF, argsToLocals, Value.category]; done) | rfl
set_option maxRecDepth 65536 in
set_option maxHeartbeats 40000000 in
theorem rm_sd21 (l : Launch) (Z : State) (av0 : Array Value) (hw : ∀ d ∈ tables_1, d.before av0 Z = true) (ws : List Jvm.Cond) (a0 : Addr) (ka : Addr) (ha : Addr) (pa : Addr) (kk : ClassId) (kh : ClassId) (kp : ClassId) (d0 : UInt64) (d1 : UInt64) (d2 : UInt64) (x0 : Int32) (x1 : Int32) (x2 : Int32) (y0 : Int32) (y1 : Int32) (y2 : Int32) (h0 : Heap) (n0 : Nat) (Z0 : n0 ≤ h0.size) (fi0 : Exa Z h0 a0 "com/example/octopoll/octopoll/PageHeap") (fi1 : Fld Z h0 a0 "com/example/octopoll/octopoll/PageHeap" "key" "[D" (.ref ka)) (fi2 : Fld Z h0 a0 "com/example/octopoll/octopoll/PageHeap" "heap" "[I" (.ref ha)) (fi3 : Fld Z h0 a0 "com/example/octopoll/octopoll/PageHeap" "position" "[I" (.ref pa)) (fi4 : Fld Z h0 a0 "com/example/octopoll/octopoll/PageHeap" "size" "I" (.int (2 : Int32))) (fi5 : Arv Z h0 ka kk .double (3 : Int32) [(.double d0), (.double d1), (.double d2)] (.double 0)) (fi6 : Arv Z h0 ha kh .int (3 : Int32) [(.int x0), (.int x1), (.int x2)] (.int (0 : Int32))) (fi7 : Arv Z h0 pa kp .int (3 : Int32) [(.int y0), (.int y1), (.int y2)] (.int (0 : Int32))) (g_ha : n0 ≤ ha) (g_pa : n0 ≤ pa) (ne_a0_ha : a0 ≠ ha) (ne_a0_pa : a0 ≠ pa) (ne_ha_pa : ha ≠ pa) (ne_a0_ka : a0 ≠ ka) (ne_ka_ha : ka ≠ ha) (ne_ka_pa : ka ≠ pa) (hx0 : own_bd x0) (hx1 : own_bd x1) (hx2 : own_bd x2) :
    MetFree l (⟨"com/example/octopoll/octopoll/PageHeap", "siftDown", "(I)V"⟩ : MethodName) (head1 (Jvm.Cond.code (⟨"com/example/octopoll/octopoll/PageHeap", "siftDown", "(I)V"⟩ : MethodName) prog_17_method_10_code 4 none :: ws) ({ frames := 1, cells := 0, slots := 0, locals := 16 } : Room)) (fun a U => a = #[(.ref a0), (.int (1 : Int32))] ∧ Z.Warmed39 U.vm ∧ U.heap = h0) (fun _ _ _ _ _ => True) (fun _ U o U' => ∃ v L, o = .returned v ∧ Q_sd Z a0 (1 : Int32) (2 : Int32) ka ha pa kk kh kp d0 d1 d2 x0 x1 x2 y0 y1 y2 h0 n0 v U'.heap L ∧ FrameEnd U o U' L ({ frames := 1, cells := 0, slots := 0, locals := 16 } : Room).cells ({ frames := 1, cells := 0, slots := 0, locals := 16 } : Room).slots) := by
  refine MetFree.of_bodySF (plainFor_of_name pn_sd21) hisR ?_
  intro p e s m args below meth c s₁ Bd hml0 hP hK
  obtain ⟨rfl, hZ, hh⟩ := hP
  have hx := Bd.exec
  have hby := Bd.bytes
  have hml : c.maxLocals = 4 := hml0
  have hown : s.vm.findClass "com/example/octopoll/octopoll/PageHeap" = some m.cls := findClass_of_methodNamed Bd.named
  have hnm := (name_of_methodNamed Bd.named Bd.method).1
  have X0 : Stand p l e ({ frames := 1, cells := 0, slots := 0, locals := 16 } : Room) s m #[(.ref a0), (.int (1 : Int32))] below meth c s₁ [] 0 0 := Stand.of_body Bd
  have e0 : s₁.heap = h0 := by rw [← hh, Bd.state]; rfl
  have N0 := Fr.nil n0
  have pre0 : Go p.tables e below (s₁.setTop (entryFrame m #[(.ref a0), (.int (1 : Int32))] 4)) s₁ (mkF m 0 #[.val (.ref a0), .val (.int (1 : Int32)), .unset, .unset] []) := fun t k => castTop (ef_sd21 m a0) k
  have K0 : Keep h0 h0 [ha, pa] := Keep.refl _ _
  have pre1 : Go p.tables e below (s₁.setTop (entryFrame m #[(.ref a0), (.int (1 : Int32))] 4)) s₁ (mkF m 1 #[.val (.ref a0), .val (.int (1 : Int32)), .unset, .unset] [(.ref a0)]) := fun t k => pre0 t (by
      refine XS.aloadN X0.here hx rfl (hb hby d10_0) rfl rfl ?_
      exact k)
  obtain ⟨T2, X2, e2, st2⟩ := getF X0 hx hZ hown (host := "") (Or.inl (hw _ (List.mem_of_getElem? (i := 13) rfl))) Via.refl e0 fi2 (g := (mkF m 1 #[.val (.ref a0), .val (.int (1 : Int32)), .unset, .unset] [(.ref a0)])) rfl rfl (hb hby d10_1)
  have pre2 : Go p.tables e below (s₁.setTop (entryFrame m #[(.ref a0), (.int (1 : Int32))] 4)) T2 (mkF m 4 #[.val (.ref a0), .val (.int (1 : Int32)), .unset, .unset] [(.ref ha)]) := fun t k => pre1 t (st2 _ k)
  have pre3 : Go p.tables e below (s₁.setTop (entryFrame m #[(.ref a0), (.int (1 : Int32))] 4)) T2 (mkF m 5 #[.val (.ref a0), .val (.int (1 : Int32)), .unset, .unset] [(.int (1 : Int32)), (.ref ha)]) := fun t k => pre2 t (by
      refine XS.iloadN X2.here hx rfl (hb hby d10_4) rfl ?_
      exact k)
  obtain ⟨c4, Ar4, q4, S4, M4, H4, G4⟩ := (id fi6)
  have hin4 : ¬ ((1 : Int32) < 0 ∨ c4.slots.size ≤ ((1 : Int32)).toNatClampNeg) := inb_of S4 ⟨by decide, by decide⟩
  have pre4 : Go p.tables e below (s₁.setTop (entryFrame m #[(.ref a0), (.int (1 : Int32))] 4)) T2 (mkF m 6 #[.val (.ref a0), .val (.int (1 : Int32)), .unset, .unset] [(.int x1)]) := fun t k => pre3 t (X2.iaload hx (j := (1 : Int32)) (v := (.int x1)) (by rw [e2]; exact Ar4.1) (State.isArrayOf_alike hZ.alike Ar4.2.1) Ar4.2.2 hin4 (H4.at hin4 rfl) (g := (mkF m 5 #[.val (.ref a0), .val (.int (1 : Int32)), .unset, .unset] [(.int (1 : Int32)), (.ref ha)])) rfl rfl (hb hby d10_5) _ k)
  have pre5 : Go p.tables e below (s₁.setTop (entryFrame m #[(.ref a0), (.int (1 : Int32))] 4)) T2 (mkF m 13 #[.val (.ref a0), .val (.int (1 : Int32)), .val (.int x1), .unset] [(.ref a0), (.int (3 : Int32))]) := fun t k => pre4 t (by
      refine XS.istoreN X2.here hx rfl (hb hby d10_6) rfl (l' := #[.val (.ref a0), .val (.int (1 : Int32)), .val (.int x1), .unset]) rfl ?_
      show Steps p.tables e below (T2.setTop (mkF m 7 #[.val (.ref a0), .val (.int (1 : Int32)), .val (.int x1), .unset] [])) _
      refine XS.iconst X2.here hx rfl (hb hby d10_7) ?_
      show Steps p.tables e below (T2.setTop (mkF m 8 #[.val (.ref a0), .val (.int (1 : Int32)), .val (.int x1), .unset] [(.int (2 : Int32))])) _
      refine XS.iloadN X2.here hx rfl (hb hby d10_8) rfl ?_
      show Steps p.tables e below (T2.setTop (mkF m 9 #[.val (.ref a0), .val (.int (1 : Int32)), .val (.int x1), .unset] [(.int (1 : Int32)), (.int (2 : Int32))])) _
      refine XS.imul X2.here hx rfl (hb hby d10_9) rfl ?_
      show Steps p.tables e below (T2.setTop (mkF m 10 #[.val (.ref a0), .val (.int (1 : Int32)), .val (.int x1), .unset] [(.int (2 : Int32))])) _
      refine XS.iconst X2.here hx rfl (hb hby d10_10) ?_
      show Steps p.tables e below (T2.setTop (mkF m 11 #[.val (.ref a0), .val (.int (1 : Int32)), .val (.int x1), .unset] [(.int (1 : Int32)), (.int (2 : Int32))])) _
      refine XS.iadd X2.here hx rfl (hb hby d10_11) rfl ?_
      show Steps p.tables e below (T2.setTop (mkF m 12 #[.val (.ref a0), .val (.int (1 : Int32)), .val (.int x1), .unset] [(.int (3 : Int32))])) _
      refine XS.aloadN X2.here hx rfl (hb hby d10_12) rfl rfl ?_
      exact k)
  obtain ⟨T6, X6, e6, st6⟩ := getF X2 hx hZ hown (host := "") (Or.inl (hw _ (List.mem_of_getElem? (i := 28) rfl))) Via.refl e2 fi4 (g := (mkF m 13 #[.val (.ref a0), .val (.int (1 : Int32)), .val (.int x1), .unset] [(.ref a0), (.int (3 : Int32))])) rfl rfl (hb hby d10_13)
  have pre6 : Go p.tables e below (s₁.setTop (entryFrame m #[(.ref a0), (.int (1 : Int32))] 4)) T6 (mkF m 16 #[.val (.ref a0), .val (.int (1 : Int32)), .val (.int x1), .unset] [(.int (2 : Int32)), (.int (3 : Int32))]) := fun t k => pre5 t (st6 _ k)
  have pre7 : Go p.tables e below (s₁.setTop (entryFrame m #[(.ref a0), (.int (1 : Int32))] 4)) T6 (mkF m 95 #[.val (.ref a0), .val (.int (1 : Int32)), .val (.int x1), .unset] [(.int (1 : Int32)), (.int x1), (.ref a0)]) := fun t k => pre6 t (by
      refine XS.icmpYes X6.here hx rfl (pc0 := 16) (pc' := 92) rfl (hb hby d10_16) rfl (flt (by decide)).2.1 (by decide) (by decide) ?_
      show Steps p.tables e below (T6.setTop (mkF m 92 #[.val (.ref a0), .val (.int (1 : Int32)), .val (.int x1), .unset] [])) _
      refine XS.aloadN X6.here hx rfl (hb hby d10_92) rfl rfl ?_
      show Steps p.tables e below (T6.setTop (mkF m 93 #[.val (.ref a0), .val (.int (1 : Int32)), .val (.int x1), .unset] [(.ref a0)])) _
      refine XS.iloadN X6.here hx rfl (hb hby d10_93) rfl ?_
      show Steps p.tables e below (T6.setTop (mkF m 94 #[.val (.ref a0), .val (.int (1 : Int32)), .val (.int x1), .unset] [(.int x1), (.ref a0)])) _
      refine XS.iloadN X6.here hx rfl (hb hby d10_94) rfl ?_
      exact k)
  obtain ⟨cq8, q8, q8'⟩ := fi0.cell
  obtain ⟨_, _, ⟨T8, L8, k8, n8⟩, -, X8, ⟨Lc8, hQ8, l8, y8, z8⟩, st8⟩ := own_private X6 hx (y := (⟨"com/example/octopoll/octopoll/PageHeap", "place", "(II)V"⟩ : MethodName)) hown (mvT hZ (hw _ (List.mem_of_getElem? (i := 30) rfl))) (mvT hZ (hw _ (List.mem_of_getElem? (i := 31) rfl))) (mvT hZ (hw _ (List.mem_of_getElem? (i := 26) rfl))) rfl (Cond.privateMethod_at (mvP hZ (hw _ (List.mem_of_getElem? (i := 32) rfl)) (args := #[]))) (mvT hZ (hw _ (List.mem_of_getElem? (i := 33) rfl))) (by decide) (backOf (W := 0) (rm_plc l Z av0 hw [] a0 x1 (1 : Int32) ha pa kh kp x0 x1 x2 y0 y1 y2 h0 n0 Z0 fi2 fi3 fi6 fi7 g_ha g_pa ne_a0_ha ne_a0_pa ne_ha_pa hx1 (by decide)) hZ (hw _ (List.mem_of_getElem? (i := 33) rfl)) (hw _ (List.mem_of_getElem? (i := 3) rfl)) (by decide) (by decide)) (a := a0) (by rw [e6]; exact q8) q8' (g := (mkF m 95 #[.val (.ref a0), .val (.int (1 : Int32)), .val (.int x1), .unset] [(.int (1 : Int32)), (.int x1), (.ref a0)])) rfl (by rw [hml]; rfl) (argsL := [(.int x1), (.int (1 : Int32))]) (rest := []) (lenOf pd_0 rfl) rfl (by show 2 * 0 + _ ≤ _; exact Nat.le_of_eq rfl) (hb hby d10_95) (fun _ _ => ⟨rfl, e6, (by decide : 0 + 0 ≤ _), (by decide : 0 + 0 ≤ _)⟩)
  dsimp only [Pt.U, Pt.locs, Pt.cells, Pt.slots] at X8 l8 y8 z8 st8 hQ8
  subst l8 y8 z8
  obtain ⟨hv8, N8q, K8, fo8_0, fo8_1⟩ := hQ8
  have f9 : n0 ≤ T8.heap.size := Nat.le_trans Z0 K8.1
  have f10 : Exa Z T8.heap a0 "com/example/octopoll/octopoll/PageHeap" := fi0.keep K8
  have f11 : Fld Z T8.heap a0 "com/example/octopoll/octopoll/PageHeap" "key" "[D" (.ref ka) := fi1.keep K8 (ninS ne_a0_ha (ninS ne_a0_pa nin0))
  have f12 : Fld Z T8.heap a0 "com/example/octopoll/octopoll/PageHeap" "heap" "[I" (.ref ha) := fi2.keep K8 (ninS ne_a0_ha (ninS ne_a0_pa nin0))
  have f13 : Fld Z T8.heap a0 "com/example/octopoll/octopoll/PageHeap" "position" "[I" (.ref pa) := fi3.keep K8 (ninS ne_a0_ha (ninS ne_a0_pa nin0))
  have f14 : Fld Z T8.heap a0 "com/example/octopoll/octopoll/PageHeap" "size" "I" (.int (2 : Int32)) := fi4.keep K8 (ninS ne_a0_ha (ninS ne_a0_pa nin0))
  have f15 : Arv Z T8.heap ka kk .double (3 : Int32) [(.double d0), (.double d1), (.double d2)] (.double 0) := fi5.keep K8 (ninS ne_ka_ha (ninS ne_ka_pa nin0))
  have f16 : Keep h0 T8.heap [ha, pa] := K0.trans K8 (allS (Or.inl (List.mem_of_getElem? (i := 0) rfl)) (allS (Or.inl (List.mem_of_getElem? (i := 1) rfl)) all0))
  subst hv8
  have N8 := Fr.app N0 N8q
  have pre8 : Go p.tables e below (s₁.setTop (entryFrame m #[(.ref a0), (.int (1 : Int32))] 4)) T8 (mkF m 98 #[.val (.ref a0), .val (.int (1 : Int32)), .val (.int x1), .unset] []) := fun t k => pre7 t (st8 _ k)
  obtain ⟨fs, hr, hrun, hended, hW, hsame⟩ := X8.leave (v := none) (fun _ => rfl) (BodyLoose.notSynchronized Bd)
  refine ⟨_, _, pre8 _ ?_, hrun, hended, _, _, rfl, ?_, ⟨_, rfl⟩, hW, hsame.mono (Nat.le_of_ble_eq_true rfl) (Nat.le_of_ble_eq_true rfl)⟩
  · exact X8.returnOut hx Bd.returns (hb hby d10_98) hr
  · show Q_sd Z a0 (1 : Int32) (2 : Int32) ka ha pa kk kh kp d0 d1 d2 x0 x1 x2 y0 y1 y2 h0 n0 _ T8.heap _
    exact ⟨x0, x1, x2, (own_u 0 x1 (1 : Int32) y0), (own_u 1 x1 (1 : Int32) y1), (own_u 2 x1 (1 : Int32) y2), rfl, N8, f16, fo8_0, fo8_1, (Or.inl rfl)⟩
theorem pn_sd22 : plainName "com/example/octopoll/octopoll/PageHeap" = true := by first | (simp [plainName, overriddenIn]; done) | decide +kernel
theorem ef_sd22 (m : MethodId) (a0 : Addr) : entryFrame m #[(.ref a0), (.int (2 : Int32))] 4 = mkF m 0 #[.val (.ref a0), .val (.int (2 : Int32)), .unset, .unset] [] := by first | (simp [entryFrame, mkF, argsToLocals, Value.category]; done) | rfl
set_option maxRecDepth 65536 in
set_option maxHeartbeats 40000000 in
theorem rm_sd22 (l : Launch) (Z : State) (av0 : Array Value) (hw : ∀ d ∈ tables_1, d.before av0 Z = true) (ws : List Jvm.Cond) (a0 : Addr) (ka : Addr) (ha : Addr) (pa : Addr) (kk : ClassId) (kh : ClassId) (kp : ClassId) (d0 : UInt64) (d1 : UInt64) (d2 : UInt64) (x0 : Int32) (x1 : Int32) (x2 : Int32) (y0 : Int32) (y1 : Int32) (y2 : Int32) (h0 : Heap) (n0 : Nat) (Z0 : n0 ≤ h0.size) (fi0 : Exa Z h0 a0 "com/example/octopoll/octopoll/PageHeap") (fi1 : Fld Z h0 a0 "com/example/octopoll/octopoll/PageHeap" "key" "[D" (.ref ka)) (fi2 : Fld Z h0 a0 "com/example/octopoll/octopoll/PageHeap" "heap" "[I" (.ref ha)) (fi3 : Fld Z h0 a0 "com/example/octopoll/octopoll/PageHeap" "position" "[I" (.ref pa)) (fi4 : Fld Z h0 a0 "com/example/octopoll/octopoll/PageHeap" "size" "I" (.int (2 : Int32))) (fi5 : Arv Z h0 ka kk .double (3 : Int32) [(.double d0), (.double d1), (.double d2)] (.double 0)) (fi6 : Arv Z h0 ha kh .int (3 : Int32) [(.int x0), (.int x1), (.int x2)] (.int (0 : Int32))) (fi7 : Arv Z h0 pa kp .int (3 : Int32) [(.int y0), (.int y1), (.int y2)] (.int (0 : Int32))) (g_ha : n0 ≤ ha) (g_pa : n0 ≤ pa) (ne_a0_ha : a0 ≠ ha) (ne_a0_pa : a0 ≠ pa) (ne_ha_pa : ha ≠ pa) (ne_a0_ka : a0 ≠ ka) (ne_ka_ha : ka ≠ ha) (ne_ka_pa : ka ≠ pa) (hx0 : own_bd x0) (hx1 : own_bd x1) (hx2 : own_bd x2) :
    MetFree l (⟨"com/example/octopoll/octopoll/PageHeap", "siftDown", "(I)V"⟩ : MethodName) (head1 (Jvm.Cond.code (⟨"com/example/octopoll/octopoll/PageHeap", "siftDown", "(I)V"⟩ : MethodName) prog_17_method_10_code 4 none :: ws) ({ frames := 1, cells := 0, slots := 0, locals := 16 } : Room)) (fun a U => a = #[(.ref a0), (.int (2 : Int32))] ∧ Z.Warmed39 U.vm ∧ U.heap = h0) (fun _ _ _ _ _ => True) (fun _ U o U' => ∃ v L, o = .returned v ∧ Q_sd Z a0 (2 : Int32) (2 : Int32) ka ha pa kk kh kp d0 d1 d2 x0 x1 x2 y0 y1 y2 h0 n0 v U'.heap L ∧ FrameEnd U o U' L ({ frames := 1, cells := 0, slots := 0, locals := 16 } : Room).cells ({ frames := 1, cells := 0, slots := 0, locals := 16 } : Room).slots) := by
  refine MetFree.of_bodySF (plainFor_of_name pn_sd22) hisR ?_
  intro p e s m args below meth c s₁ Bd hml0 hP hK
  obtain ⟨rfl, hZ, hh⟩ := hP
  have hx := Bd.exec
  have hby := Bd.bytes
  have hml : c.maxLocals = 4 := hml0
  have hown : s.vm.findClass "com/example/octopoll/octopoll/PageHeap" = some m.cls := findClass_of_methodNamed Bd.named
  have hnm := (name_of_methodNamed Bd.named Bd.method).1
  have X0 : Stand p l e ({ frames := 1, cells := 0, slots := 0, locals := 16 } : Room) s m #[(.ref a0), (.int (2 : Int32))] below meth c s₁ [] 0 0 := Stand.of_body Bd
  have e0 : s₁.heap = h0 := by rw [← hh, Bd.state]; rfl
  have N0 := Fr.nil n0
  have pre0 : Go p.tables e below (s₁.setTop (entryFrame m #[(.ref a0), (.int (2 : Int32))] 4)) s₁ (mkF m 0 #[.val (.ref a0), .val (.int (2 : Int32)), .unset, .unset] []) := fun t k => castTop (ef_sd22 m a0) k
  have K0 : Keep h0 h0 [ha, pa] := Keep.refl _ _
  have pre1 : Go p.tables e below (s₁.setTop (entryFrame m #[(.ref a0), (.int (2 : Int32))] 4)) s₁ (mkF m 1 #[.val (.ref a0), .val (.int (2 : Int32)), .unset, .unset] [(.ref a0)]) := fun t k => pre0 t (by
      refine XS.aloadN X0.here hx rfl (hb hby d10_0) rfl rfl ?_
      exact k)
  obtain ⟨T2, X2, e2, st2⟩ := getF X0 hx hZ hown (host := "") (Or.inl (hw _ (List.mem_of_getElem? (i := 13) rfl))) Via.refl e0 fi2 (g := (mkF m 1 #[.val (.ref a0), .val (.int (2 : Int32)), .unset, .unset] [(.ref a0)])) rfl rfl (hb hby d10_1)
  have pre2 : Go p.tables e below (s₁.setTop (entryFrame m #[(.ref a0), (.int (2 : Int32))] 4)) T2 (mkF m 4 #[.val (.ref a0), .val (.int (2 : Int32)), .unset, .unset] [(.ref ha)]) := fun t k => pre1 t (st2 _ k)
  have pre3 : Go p.tables e below (s₁.setTop (entryFrame m #[(.ref a0), (.int (2 : Int32))] 4)) T2 (mkF m 5 #[.val (.ref a0), .val (.int (2 : Int32)), .unset, .unset] [(.int (2 : Int32)), (.ref ha)]) := fun t k => pre2 t (by
      refine XS.iloadN X2.here hx rfl (hb hby d10_4) rfl ?_
      exact k)
  obtain ⟨c4, Ar4, q4, S4, M4, H4, G4⟩ := (id fi6)
  have hin4 : ¬ ((2 : Int32) < 0 ∨ c4.slots.size ≤ ((2 : Int32)).toNatClampNeg) := inb_of S4 ⟨by decide, by decide⟩
  have pre4 : Go p.tables e below (s₁.setTop (entryFrame m #[(.ref a0), (.int (2 : Int32))] 4)) T2 (mkF m 6 #[.val (.ref a0), .val (.int (2 : Int32)), .unset, .unset] [(.int x2)]) := fun t k => pre3 t (X2.iaload hx (j := (2 : Int32)) (v := (.int x2)) (by rw [e2]; exact Ar4.1) (State.isArrayOf_alike hZ.alike Ar4.2.1) Ar4.2.2 hin4 (H4.at hin4 rfl) (g := (mkF m 5 #[.val (.ref a0), .val (.int (2 : Int32)), .unset, .unset] [(.int (2 : Int32)), (.ref ha)])) rfl rfl (hb hby d10_5) _ k)
  have pre5 : Go p.tables e below (s₁.setTop (entryFrame m #[(.ref a0), (.int (2 : Int32))] 4)) T2 (mkF m 13 #[.val (.ref a0), .val (.int (2 : Int32)), .val (.int x2), .unset] [(.ref a0), (.int (5 : Int32))]) := fun t k => pre4 t (by
      refine XS.istoreN X2.here hx rfl (hb hby d10_6) rfl (l' := #[.val (.ref a0), .val (.int (2 : Int32)), .val (.int x2), .unset]) rfl ?_
      show Steps p.tables e below (T2.setTop (mkF m 7 #[.val (.ref a0), .val (.int (2 : Int32)), .val (.int x2), .unset] [])) _
      refine XS.iconst X2.here hx rfl (hb hby d10_7) ?_
      show Steps p.tables e below (T2.setTop (mkF m 8 #[.val (.ref a0), .val (.int (2 : Int32)), .val (.int x2), .unset] [(.int (2 : Int32))])) _
      refine XS.iloadN X2.here hx rfl (hb hby d10_8) rfl ?_
      show Steps p.tables e below (T2.setTop (mkF m 9 #[.val (.ref a0), .val (.int (2 : Int32)), .val (.int x2), .unset] [(.int (2 : Int32)), (.int (2 : Int32))])) _
      refine XS.imul X2.here hx rfl (hb hby d10_9) rfl ?_
      show Steps p.tables e below (T2.setTop (mkF m 10 #[.val (.ref a0), .val (.int (2 : Int32)), .val (.int x2), .unset] [(.int (4 : Int32))])) _
      refine XS.iconst X2.here hx rfl (hb hby d10_10) ?_
      show Steps p.tables e below (T2.setTop (mkF m 11 #[.val (.ref a0), .val (.int (2 : Int32)), .val (.int x2), .unset] [(.int (1 : Int32)), (.int (4 : Int32))])) _
      refine XS.iadd X2.here hx rfl (hb hby d10_11) rfl ?_
      show Steps p.tables e below (T2.setTop (mkF m 12 #[.val (.ref a0), .val (.int (2 : Int32)), .val (.int x2), .unset] [(.int (5 : Int32))])) _
      refine XS.aloadN X2.here hx rfl (hb hby d10_12) rfl rfl ?_
      exact k)
  obtain ⟨T6, X6, e6, st6⟩ := getF X2 hx hZ hown (host := "") (Or.inl (hw _ (List.mem_of_getElem? (i := 28) rfl))) Via.refl e2 fi4 (g := (mkF m 13 #[.val (.ref a0), .val (.int (2 : Int32)), .val (.int x2), .unset] [(.ref a0), (.int (5 : Int32))])) rfl rfl (hb hby d10_13)
  have pre6 : Go p.tables e below (s₁.setTop (entryFrame m #[(.ref a0), (.int (2 : Int32))] 4)) T6 (mkF m 16 #[.val (.ref a0), .val (.int (2 : Int32)), .val (.int x2), .unset] [(.int (2 : Int32)), (.int (5 : Int32))]) := fun t k => pre5 t (st6 _ k)
  have pre7 : Go p.tables e below (s₁.setTop (entryFrame m #[(.ref a0), (.int (2 : Int32))] 4)) T6 (mkF m 95 #[.val (.ref a0), .val (.int (2 : Int32)), .val (.int x2), .unset] [(.int (2 : Int32)), (.int x2), (.ref a0)]) := fun t k => pre6 t (by
      refine XS.icmpYes X6.here hx rfl (pc0 := 16) (pc' := 92) rfl (hb hby d10_16) rfl (flt (by decide)).2.1 (by decide) (by decide) ?_
      show Steps p.tables e below (T6.setTop (mkF m 92 #[.val (.ref a0), .val (.int (2 : Int32)), .val (.int x2), .unset] [])) _
      refine XS.aloadN X6.here hx rfl (hb hby d10_92) rfl rfl ?_
      show Steps p.tables e below (T6.setTop (mkF m 93 #[.val (.ref a0), .val (.int (2 : Int32)), .val (.int x2), .unset] [(.ref a0)])) _
      refine XS.iloadN X6.here hx rfl (hb hby d10_93) rfl ?_
      show Steps p.tables e below (T6.setTop (mkF m 94 #[.val (.ref a0), .val (.int (2 : Int32)), .val (.int x2), .unset] [(.int x2), (.ref a0)])) _
      refine XS.iloadN X6.here hx rfl (hb hby d10_94) rfl ?_
      exact k)
  obtain ⟨cq8, q8, q8'⟩ := fi0.cell
  obtain ⟨_, _, ⟨T8, L8, k8, n8⟩, -, X8, ⟨Lc8, hQ8, l8, y8, z8⟩, st8⟩ := own_private X6 hx (y := (⟨"com/example/octopoll/octopoll/PageHeap", "place", "(II)V"⟩ : MethodName)) hown (mvT hZ (hw _ (List.mem_of_getElem? (i := 30) rfl))) (mvT hZ (hw _ (List.mem_of_getElem? (i := 31) rfl))) (mvT hZ (hw _ (List.mem_of_getElem? (i := 26) rfl))) rfl (Cond.privateMethod_at (mvP hZ (hw _ (List.mem_of_getElem? (i := 32) rfl)) (args := #[]))) (mvT hZ (hw _ (List.mem_of_getElem? (i := 33) rfl))) (by decide) (backOf (W := 0) (rm_plc l Z av0 hw [] a0 x2 (2 : Int32) ha pa kh kp x0 x1 x2 y0 y1 y2 h0 n0 Z0 fi2 fi3 fi6 fi7 g_ha g_pa ne_a0_ha ne_a0_pa ne_ha_pa hx2 (by decide)) hZ (hw _ (List.mem_of_getElem? (i := 33) rfl)) (hw _ (List.mem_of_getElem? (i := 3) rfl)) (by decide) (by decide)) (a := a0) (by rw [e6]; exact q8) q8' (g := (mkF m 95 #[.val (.ref a0), .val (.int (2 : Int32)), .val (.int x2), .unset] [(.int (2 : Int32)), (.int x2), (.ref a0)])) rfl (by rw [hml]; rfl) (argsL := [(.int x2), (.int (2 : Int32))]) (rest := []) (lenOf pd_0 rfl) rfl (by show 2 * 0 + _ ≤ _; exact Nat.le_of_eq rfl) (hb hby d10_95) (fun _ _ => ⟨rfl, e6, (by decide : 0 + 0 ≤ _), (by decide : 0 + 0 ≤ _)⟩)
  dsimp only [Pt.U, Pt.locs, Pt.cells, Pt.slots] at X8 l8 y8 z8 st8 hQ8
  subst l8 y8 z8
  obtain ⟨hv8, N8q, K8, fo8_0, fo8_1⟩ := hQ8
  have f9 : n0 ≤ T8.heap.size := Nat.le_trans Z0 K8.1
  have f10 : Exa Z T8.heap a0 "com/example/octopoll/octopoll/PageHeap" := fi0.keep K8
  have f11 : Fld Z T8.heap a0 "com/example/octopoll/octopoll/PageHeap" "key" "[D" (.ref ka) := fi1.keep K8 (ninS ne_a0_ha (ninS ne_a0_pa nin0))
  have f12 : Fld Z T8.heap a0 "com/example/octopoll/octopoll/PageHeap" "heap" "[I" (.ref ha) := fi2.keep K8 (ninS ne_a0_ha (ninS ne_a0_pa nin0))
  have f13 : Fld Z T8.heap a0 "com/example/octopoll/octopoll/PageHeap" "position" "[I" (.ref pa) := fi3.keep K8 (ninS ne_a0_ha (ninS ne_a0_pa nin0))
  have f14 : Fld Z T8.heap a0 "com/example/octopoll/octopoll/PageHeap" "size" "I" (.int (2 : Int32)) := fi4.keep K8 (ninS ne_a0_ha (ninS ne_a0_pa nin0))
  have f15 : Arv Z T8.heap ka kk .double (3 : Int32) [(.double d0), (.double d1), (.double d2)] (.double 0) := fi5.keep K8 (ninS ne_ka_ha (ninS ne_ka_pa nin0))
  have f16 : Keep h0 T8.heap [ha, pa] := K0.trans K8 (allS (Or.inl (List.mem_of_getElem? (i := 0) rfl)) (allS (Or.inl (List.mem_of_getElem? (i := 1) rfl)) all0))
  subst hv8
  have N8 := Fr.app N0 N8q
  have pre8 : Go p.tables e below (s₁.setTop (entryFrame m #[(.ref a0), (.int (2 : Int32))] 4)) T8 (mkF m 98 #[.val (.ref a0), .val (.int (2 : Int32)), .val (.int x2), .unset] []) := fun t k => pre7 t (st8 _ k)
  obtain ⟨fs, hr, hrun, hended, hW, hsame⟩ := X8.leave (v := none) (fun _ => rfl) (BodyLoose.notSynchronized Bd)
  refine ⟨_, _, pre8 _ ?_, hrun, hended, _, _, rfl, ?_, ⟨_, rfl⟩, hW, hsame.mono (Nat.le_of_ble_eq_true rfl) (Nat.le_of_ble_eq_true rfl)⟩
  · exact X8.returnOut hx Bd.returns (hb hby d10_98) hr
  · show Q_sd Z a0 (2 : Int32) (2 : Int32) ka ha pa kk kh kp d0 d1 d2 x0 x1 x2 y0 y1 y2 h0 n0 _ T8.heap _
    exact ⟨x0, x1, x2, (own_u 0 x2 (2 : Int32) y0), (own_u 1 x2 (2 : Int32) y1), (own_u 2 x2 (2 : Int32) y2), rfl, N8, f16, fo8_0, fo8_1, (Or.inl rfl)⟩
theorem rm_sd (l : Launch) (Z : State) (av0 : Array Value) (hw : ∀ d ∈ tables_1, d.before av0 Z = true) (ws : List Jvm.Cond) (a0 : Addr) (p1 n1 : Int32) (ka : Addr) (ha : Addr) (pa : Addr) (kk : ClassId) (kh : ClassId) (kp : ClassId) (d0 : UInt64) (d1 : UInt64) (d2 : UInt64) (x0 : Int32) (x1 : Int32) (x2 : Int32) (y0 : Int32) (y1 : Int32) (y2 : Int32) (h0 : Heap) (n0 : Nat) (Z0 : n0 ≤ h0.size) (fi0 : Exa Z h0 a0 "com/example/octopoll/octopoll/PageHeap") (fi1 : Fld Z h0 a0 "com/example/octopoll/octopoll/PageHeap" "key" "[D" (.ref ka)) (fi2 : Fld Z h0 a0 "com/example/octopoll/octopoll/PageHeap" "heap" "[I" (.ref ha)) (fi3 : Fld Z h0 a0 "com/example/octopoll/octopoll/PageHeap" "position" "[I" (.ref pa)) (fi4 : Fld Z h0 a0 "com/example/octopoll/octopoll/PageHeap" "size" "I" (.int n1)) (fi5 : Arv Z h0 ka kk .double (3 : Int32) [(.double d0), (.double d1), (.double d2)] (.double 0)) (fi6 : Arv Z h0 ha kh .int (3 : Int32) [(.int x0), (.int x1), (.int x2)] (.int (0 : Int32))) (fi7 : Arv Z h0 pa kp .int (3 : Int32) [(.int y0), (.int y1), (.int y2)] (.int (0 : Int32))) (g_ha : n0 ≤ ha) (g_pa : n0 ≤ pa) (ne_a0_ha : a0 ≠ ha) (ne_a0_pa : a0 ≠ pa) (ne_ha_pa : ha ≠ pa) (ne_a0_ka : a0 ≠ ka) (ne_ka_ha : ka ≠ ha) (ne_ka_pa : ka ≠ pa) (hx0 : own_bd x0) (hx1 : own_bd x1) (hx2 : own_bd x2) (hn : n1 = 1 ∨ n1 = 2) (hb : own_bd p1) :
    MetFree l (⟨"com/example/octopoll/octopoll/PageHeap", "siftDown", "(I)V"⟩ : MethodName) (head1 (Jvm.Cond.code (⟨"com/example/octopoll/octopoll/PageHeap", "siftDown", "(I)V"⟩ : MethodName) prog_17_method_10_code 4 none :: ws) ({ frames := 1, cells := 0, slots := 0, locals := 16 } : Room)) (fun a U => a = #[(.ref a0), (.int p1)] ∧ Z.Warmed39 U.vm ∧ U.heap = h0) (fun _ _ _ _ _ => True) (fun _ U o U' => ∃ v L, o = .returned v ∧ Q_sd Z a0 p1 n1 ka ha pa kk kh kp d0 d1 d2 x0 x1 x2 y0 y1 y2 h0 n0 v U'.heap L ∧ FrameEnd U o U' L ({ frames := 1, cells := 0, slots := 0, locals := 16 } : Room).cells ({ frames := 1, cells := 0, slots := 0, locals := 16 } : Room).slots) := by
  rcases hn with rfl | rfl <;> rcases own_012 hb with rfl | rfl | rfl
  · exact rm_sd10 l Z av0 hw ws a0 ka ha pa kk kh kp d0 d1 d2 x0 x1 x2 y0 y1 y2 h0 n0 Z0 fi0 fi1 fi2 fi3 fi4 fi5 fi6 fi7 g_ha g_pa ne_a0_ha ne_a0_pa ne_ha_pa ne_a0_ka ne_ka_ha ne_ka_pa hx0 hx1 hx2
  · exact rm_sd11 l Z av0 hw ws a0 ka ha pa kk kh kp d0 d1 d2 x0 x1 x2 y0 y1 y2 h0 n0 Z0 fi0 fi1 fi2 fi3 fi4 fi5 fi6 fi7 g_ha g_pa ne_a0_ha ne_a0_pa ne_ha_pa ne_a0_ka ne_ka_ha ne_ka_pa hx0 hx1 hx2
  · exact rm_sd12 l Z av0 hw ws a0 ka ha pa kk kh kp d0 d1 d2 x0 x1 x2 y0 y1 y2 h0 n0 Z0 fi0 fi1 fi2 fi3 fi4 fi5 fi6 fi7 g_ha g_pa ne_a0_ha ne_a0_pa ne_ha_pa ne_a0_ka ne_ka_ha ne_ka_pa hx0 hx1 hx2
  · exact rm_sd20 l Z av0 hw ws a0 ka ha pa kk kh kp d0 d1 d2 x0 x1 x2 y0 y1 y2 h0 n0 Z0 fi0 fi1 fi2 fi3 fi4 fi5 fi6 fi7 g_ha g_pa ne_a0_ha ne_a0_pa ne_ha_pa ne_a0_ka ne_ka_ha ne_ka_pa hx0 hx1 hx2
  · exact rm_sd21 l Z av0 hw ws a0 ka ha pa kk kh kp d0 d1 d2 x0 x1 x2 y0 y1 y2 h0 n0 Z0 fi0 fi1 fi2 fi3 fi4 fi5 fi6 fi7 g_ha g_pa ne_a0_ha ne_a0_pa ne_ha_pa ne_a0_ka ne_ka_ha ne_ka_pa hx0 hx1 hx2
  · exact rm_sd22 l Z av0 hw ws a0 ka ha pa kk kh kp d0 d1 d2 x0 x1 x2 y0 y1 y2 h0 n0 Z0 fi0 fi1 fi2 fi3 fi4 fi5 fi6 fi7 g_ha g_pa ne_a0_ha ne_a0_pa ne_ha_pa ne_a0_ka ne_ka_ha ne_ka_pa hx0 hx1 hx2
theorem d4_0 : decode prog_17_method_5_code 0 = .ok (.aload_n 0, 1) := by decide +kernel
theorem d4_1 : decode prog_17_method_5_code 1 = .ok (.iload_n 1, 1) := by decide +kernel
theorem d4_2 : decode prog_17_method_5_code 2 = .ok (.aload_n 0, 1) := by decide +kernel
theorem d4_3 : decode prog_17_method_5_code 3 = .ok (.dup, 1) := by decide +kernel
theorem d4_4 : decode prog_17_method_5_code 4 = .ok (.getfield 26, 3) := by decide +kernel
theorem d4_7 : decode prog_17_method_5_code 7 = .ok (.dup_x1, 1) := by decide +kernel
theorem d4_8 : decode prog_17_method_5_code 8 = .ok (.iconst 1, 1) := by decide +kernel
theorem d4_9 : decode prog_17_method_5_code 9 = .ok (.iadd, 1) := by decide +kernel
theorem d4_10 : decode prog_17_method_5_code 10 = .ok (.putfield 26, 3) := by decide +kernel
theorem d4_13 : decode prog_17_method_5_code 13 = .ok (.invokevirtual 30, 3) := by decide +kernel
theorem d4_16 : decode prog_17_method_5_code 16 = .ok (.aload_n 0, 1) := by decide +kernel
theorem d4_17 : decode prog_17_method_5_code 17 = .ok (.aload_n 0, 1) := by decide +kernel
theorem d4_18 : decode prog_17_method_5_code 18 = .ok (.getfield 17, 3) := by decide +kernel
theorem d4_21 : decode prog_17_method_5_code 21 = .ok (.iload_n 1, 1) := by decide +kernel
theorem d4_22 : decode prog_17_method_5_code 22 = .ok (.iaload, 1) := by decide +kernel
theorem d4_23 : decode prog_17_method_5_code 23 = .ok (.invokevirtual 34, 3) := by decide +kernel
theorem d4_26 : decode prog_17_method_5_code 26 = .ok (.return_, 1) := by decide +kernel
theorem pn_add0 : plainName "com/example/octopoll/octopoll/PageHeap" = true := by first | (simp [plainName, overriddenIn]; done) | decide +kernel
theorem ef_add0 (m : MethodId) (a0 : Addr) : entryFrame m #[(.ref a0), (.int (0 : Int32))] 2 = mkF m 0 #[.val (.ref a0), .val (.int (0 : Int32))] [] := by first | (simp [entryFrame, mkF, argsToLocals, Value.category]; done) | rfl
def Q_add0 (Z : State) (a0 : Addr) (ka : Addr) (ha : Addr) (pa : Addr) (kk : ClassId) (kh : ClassId) (kp : ClassId) (d0 : UInt64) (d1 : UInt64) (d2 : UInt64) (x0 : Int32) (x1 : Int32) (x2 : Int32) (y0 : Int32) (y1 : Int32) (y2 : Int32) (b1 : Bool) (b2 : Bool) (h0 : Heap) (n0 : Nat) (v : Option Value) (h : Heap) (L : List Loc) : Prop := ∃ (z0 : Int32) (z1 : Int32) (z2 : Int32) (z3 : Int32) (z4 : Int32) (z5 : Int32), v = none ∧ Fr n0 L ∧ Keep h0 h [a0, ha, pa] ∧ Exa Z h a0 "com/example/octopoll/octopoll/PageHeap" ∧ Fld Z h a0 "com/example/octopoll/octopoll/PageHeap" "key" "[D" (.ref ka) ∧ Fld Z h a0 "com/example/octopoll/octopoll/PageHeap" "heap" "[I" (.ref ha) ∧ Fld Z h a0 "com/example/octopoll/octopoll/PageHeap" "position" "[I" (.ref pa) ∧ Fld Z h a0 "com/example/octopoll/octopoll/PageHeap" "size" "I" (.int (own_cnt true b1 b2)) ∧ Arv Z h ha kh .int (3 : Int32) [(.int z0), (.int z1), (.int z2)] (.int (0 : Int32)) ∧ Arv Z h pa kp .int (3 : Int32) [(.int z3), (.int z4), (.int z5)] (.int (0 : Int32)) ∧ (z0, z1, z2, z3, z4, z5) ∈ own_S true b1 b2
set_option maxRecDepth 65536 in
set_option maxHeartbeats 40000000 in
theorem rm_add0 (l : Launch) (Z : State) (av0 : Array Value) (hw : ∀ d ∈ tables_1, d.before av0 Z = true) (ws : List Jvm.Cond) (a0 : Addr) (ka : Addr) (ha : Addr) (pa : Addr) (kk : ClassId) (kh : ClassId) (kp : ClassId) (d0 : UInt64) (d1 : UInt64) (d2 : UInt64) (x0 : Int32) (x1 : Int32) (x2 : Int32) (y0 : Int32) (y1 : Int32) (y2 : Int32) (b1 : Bool) (b2 : Bool) (h0 : Heap) (n0 : Nat) (Z0 : n0 ≤ h0.size) (fi0 : Exa Z h0 a0 "com/example/octopoll/octopoll/PageHeap") (fi1 : Fld Z h0 a0 "com/example/octopoll/octopoll/PageHeap" "key" "[D" (.ref ka)) (fi2 : Fld Z h0 a0 "com/example/octopoll/octopoll/PageHeap" "heap" "[I" (.ref ha)) (fi3 : Fld Z h0 a0 "com/example/octopoll/octopoll/PageHeap" "position" "[I" (.ref pa)) (fi4 : Fld Z h0 a0 "com/example/octopoll/octopoll/PageHeap" "size" "I" (.int (own_cnt false b1 b2))) (fi5 : Arv Z h0 ka kk .double (3 : Int32) [(.double d0), (.double d1), (.double d2)] (.double 0)) (fi6 : Arv Z h0 ha kh .int (3 : Int32) [(.int x0), (.int x1), (.int x2)] (.int (0 : Int32))) (fi7 : Arv Z h0 pa kp .int (3 : Int32) [(.int y0), (.int y1), (.int y2)] (.int (0 : Int32))) (g_a0 : n0 ≤ a0) (g_ha : n0 ≤ ha) (g_pa : n0 ≤ pa) (ne_a0_ha : a0 ≠ ha) (ne_a0_pa : a0 ≠ pa) (ne_ha_pa : ha ≠ pa) (ne_a0_ka : a0 ≠ ka) (ne_ka_ha : ka ≠ ha) (ne_ka_pa : ka ≠ pa) (hS : (x0, x1, x2, y0, y1, y2) ∈ own_S false b1 b2) :
    MetFree l (⟨"com/example/octopoll/octopoll/PageHeap", "add", "(I)V"⟩ : MethodName) (head1 (Jvm.Cond.code (⟨"com/example/octopoll/octopoll/PageHeap", "add", "(I)V"⟩ : MethodName) prog_17_method_5_code 2 none :: ws) ({ frames := 2, cells := 0, slots := 0, locals := 30 } : Room)) (fun a U => a = #[(.ref a0), (.int (0 : Int32))] ∧ Z.Warmed39 U.vm ∧ U.heap = h0) (fun _ _ _ _ _ => True) (fun _ U o U' => ∃ v L, o = .returned v ∧ Q_add0 Z a0 ka ha pa kk kh kp d0 d1 d2 x0 x1 x2 y0 y1 y2 b1 b2 h0 n0 v U'.heap L ∧ FrameEnd U o U' L ({ frames := 2, cells := 0, slots := 0, locals := 30 } : Room).cells ({ frames := 2, cells := 0, slots := 0, locals := 30 } : Room).slots) := by
  refine MetFree.of_bodySF (plainFor_of_name pn_add0) hisR ?_
  intro p e s m args below meth c s₁ Bd hml0 hP hK
  obtain ⟨rfl, hZ, hh⟩ := hP
  have hx := Bd.exec
  have hby := Bd.bytes
  have hml : c.maxLocals = 2 := hml0
  have hown : s.vm.findClass "com/example/octopoll/octopoll/PageHeap" = some m.cls := findClass_of_methodNamed Bd.named
  have hnm := (name_of_methodNamed Bd.named Bd.method).1
  have X0 : Stand p l e ({ frames := 2, cells := 0, slots := 0, locals := 30 } : Room) s m #[(.ref a0), (.int (0 : Int32))] below meth c s₁ [] 0 0 := Stand.of_body Bd
  have e0 : s₁.heap = h0 := by rw [← hh, Bd.state]; rfl
  have N0 := Fr.nil n0
  have pre0 : Go p.tables e below (s₁.setTop (entryFrame m #[(.ref a0), (.int (0 : Int32))] 2)) s₁ (mkF m 0 #[.val (.ref a0), .val (.int (0 : Int32))] []) := fun t k => castTop (ef_add0 m a0) k
  have K0 : Keep h0 h0 [a0, ha, pa] := Keep.refl _ _
  have hR := own_rng false b1 b2 _ hS
  have pre1 : Go p.tables e below (s₁.setTop (entryFrame m #[(.ref a0), (.int (0 : Int32))] 2)) s₁ (mkF m 4 #[.val (.ref a0), .val (.int (0 : Int32))] [(.ref a0), (.ref a0), (.int (0 : Int32)), (.ref a0)]) := fun t k => pre0 t (by
      refine XS.aloadN X0.here hx rfl (hb hby d4_0) rfl rfl ?_
      show Steps p.tables e below (s₁.setTop (mkF m 1 #[.val (.ref a0), .val (.int (0 : Int32))] [(.ref a0)])) _
      refine XS.iloadN X0.here hx rfl (hb hby d4_1) rfl ?_
      show Steps p.tables e below (s₁.setTop (mkF m 2 #[.val (.ref a0), .val (.int (0 : Int32))] [(.int (0 : Int32)), (.ref a0)])) _
      refine XS.aloadN X0.here hx rfl (hb hby d4_2) rfl rfl ?_
      show Steps p.tables e below (s₁.setTop (mkF m 3 #[.val (.ref a0), .val (.int (0 : Int32))] [(.ref a0), (.int (0 : Int32)), (.ref a0)])) _
      refine XS.dup X0.here hx rfl (hb hby d4_3) rfl rfl ?_
      exact k)
  obtain ⟨T2, X2, e2, st2⟩ := getF X0 hx hZ hown (host := "") (Or.inl (hw _ (List.mem_of_getElem? (i := 28) rfl))) Via.refl e0 fi4 (g := (mkF m 4 #[.val (.ref a0), .val (.int (0 : Int32))] [(.ref a0), (.ref a0), (.int (0 : Int32)), (.ref a0)])) rfl rfl (hb hby d4_4)
  have pre2 : Go p.tables e below (s₁.setTop (entryFrame m #[(.ref a0), (.int (0 : Int32))] 2)) T2 (mkF m 7 #[.val (.ref a0), .val (.int (0 : Int32))] [(.int (own_cnt false b1 b2)), (.ref a0), (.int (0 : Int32)), (.ref a0)]) := fun t k => pre1 t (st2 _ k)
  have pre3 : Go p.tables e below (s₁.setTop (entryFrame m #[(.ref a0), (.int (0 : Int32))] 2)) T2 (mkF m 10 #[.val (.ref a0), .val (.int (0 : Int32))] [(.int ((own_cnt false b1 b2) + (1 : Int32))), (.ref a0), (.int (own_cnt false b1 b2)), (.int (0 : Int32)), (.ref a0)]) := fun t k => pre2 t (by
      refine XS.dupX1 X2.here hx rfl (hb hby d4_7) rfl rfl rfl ?_
      show Steps p.tables e below (T2.setTop (mkF m 8 #[.val (.ref a0), .val (.int (0 : Int32))] [(.int (own_cnt false b1 b2)), (.ref a0), (.int (own_cnt false b1 b2)), (.int (0 : Int32)), (.ref a0)])) _
      refine XS.iconst X2.here hx rfl (hb hby d4_8) ?_
      show Steps p.tables e below (T2.setTop (mkF m 9 #[.val (.ref a0), .val (.int (0 : Int32))] [(.int (1 : Int32)), (.int (own_cnt false b1 b2)), (.ref a0), (.int (own_cnt false b1 b2)), (.int (0 : Int32)), (.ref a0)])) _
      refine XS.iadd X2.here hx rfl (hb hby d4_9) rfl ?_
      exact k)
  obtain ⟨T4, h4, X4, e4, W4, st4⟩ := putF X2 hx hZ hown (host := "") (Or.inl (hw _ (List.mem_of_getElem? (i := 28) rfl))) Via.refl e2 fi4 fi0 (Or.inl (hw _ (List.mem_of_getElem? (i := 29) rfl))) (hw _ (List.mem_of_getElem? (i := 2) rfl)) (ty := .int) (by decide) rfl rfl (g := (mkF m 10 #[.val (.ref a0), .val (.int (0 : Int32))] [(.int ((own_cnt false b1 b2) + (1 : Int32))), (.ref a0), (.int (own_cnt false b1 b2)), (.int (0 : Int32)), (.ref a0)])) rfl rfl (hb hby d4_10)
  have N4 := Fr.snoc X4 N0 g_a0
  have f5 : n0 ≤ h4.size := Nat.le_trans Z0 (Keep.of_wr W4).1
  have f6 : Exa Z h4 a0 "com/example/octopoll/octopoll/PageHeap" := fi0.wr W4
  have f7 : Fld Z h4 a0 "com/example/octopoll/octopoll/PageHeap" "key" "[D" (.ref ka) := fi1.other W4 (Or.inr (slot_ne (Or.inr (hw _ (List.mem_of_getElem? (i := 11) rfl))) (Or.inl (hw _ (List.mem_of_getElem? (i := 29) rfl))) (by decide) (t := (.array .double)) (t' := .int) (by decide) (by decide)))
  have f8 : Fld Z h4 a0 "com/example/octopoll/octopoll/PageHeap" "heap" "[I" (.ref ha) := fi2.other W4 (Or.inr (slot_ne (Or.inr (hw _ (List.mem_of_getElem? (i := 14) rfl))) (Or.inl (hw _ (List.mem_of_getElem? (i := 29) rfl))) (by decide) (t := (.array .int)) (t' := .int) (by decide) (by decide)))
  have f9 : Fld Z h4 a0 "com/example/octopoll/octopoll/PageHeap" "position" "[I" (.ref pa) := fi3.other W4 (Or.inr (slot_ne (Or.inr (hw _ (List.mem_of_getElem? (i := 16) rfl))) (Or.inl (hw _ (List.mem_of_getElem? (i := 29) rfl))) (by decide) (t := (.array .int)) (t' := .int) (by decide) (by decide)))
  have f10 : Fld Z h4 a0 "com/example/octopoll/octopoll/PageHeap" "size" "I" (.int ((own_cnt false b1 b2) + (1 : Int32))) := fi4.same W4
  have f11 : Arv Z h4 ka kk .double (3 : Int32) [(.double d0), (.double d1), (.double d2)] (.double 0) := fi5.other W4 ne_a0_ka.symm
  have f12 : Arv Z h4 ha kh .int (3 : Int32) [(.int x0), (.int x1), (.int x2)] (.int (0 : Int32)) := fi6.other W4 ne_a0_ha.symm
  have f13 : Arv Z h4 pa kp .int (3 : Int32) [(.int y0), (.int y1), (.int y2)] (.int (0 : Int32)) := fi7.other W4 ne_a0_pa.symm
  have f14 : Keep h0 h4 [a0, ha, pa] := K0.wr W4 (Or.inl (List.mem_of_getElem? (i := 0) rfl))
  have pre4 : Go p.tables e below (s₁.setTop (entryFrame m #[(.ref a0), (.int (0 : Int32))] 2)) T4 (mkF m 13 #[.val (.ref a0), .val (.int (0 : Int32))] [(.int (own_cnt false b1 b2)), (.int (0 : Int32)), (.ref a0)]) := fun t k => pre3 t (st4 _ k)
  obtain ⟨cq15, q15, q15'⟩ := f6.cell
  obtain ⟨_, _, ⟨T15, L15, k15, n15⟩, -, X15, ⟨Lc15, hQ15, l15, y15, z15⟩, st15⟩ := own_private X4 hx (y := (⟨"com/example/octopoll/octopoll/PageHeap", "place", "(II)V"⟩ : MethodName)) hown (mvT hZ (hw _ (List.mem_of_getElem? (i := 30) rfl))) (mvT hZ (hw _ (List.mem_of_getElem? (i := 31) rfl))) (mvT hZ (hw _ (List.mem_of_getElem? (i := 26) rfl))) rfl (Cond.privateMethod_at (mvP hZ (hw _ (List.mem_of_getElem? (i := 32) rfl)) (args := #[]))) (mvT hZ (hw _ (List.mem_of_getElem? (i := 33) rfl))) (by decide) (backOf (W := 0) (rm_plc l Z av0 hw [] a0 (0 : Int32) (own_cnt false b1 b2) ha pa kh kp x0 x1 x2 y0 y1 y2 h4 n0 f5 f8 f9 f12 f13 g_ha g_pa ne_a0_ha ne_a0_pa ne_ha_pa (by decide) (own_ac0 b1 b2).1) hZ (hw _ (List.mem_of_getElem? (i := 33) rfl)) (hw _ (List.mem_of_getElem? (i := 3) rfl)) (by decide) (by decide)) (a := a0) (by rw [e4]; exact q15) q15' (g := (mkF m 13 #[.val (.ref a0), .val (.int (0 : Int32))] [(.int (own_cnt false b1 b2)), (.int (0 : Int32)), (.ref a0)])) rfl (by rw [hml]; rfl) (argsL := [(.int (0 : Int32)), (.int (own_cnt false b1 b2))]) (rest := []) (lenOf pd_0 rfl) rfl (by show 2 * 0 + _ ≤ _; exact Nat.le_of_eq rfl) (hb hby d4_13) (fun _ _ => ⟨rfl, e4, (by decide : 0 + 0 ≤ _), (by decide : 0 + 0 ≤ _)⟩)
  dsimp only [Pt.U, Pt.locs, Pt.cells, Pt.slots] at X15 l15 y15 z15 st15 hQ15
  subst l15 y15 z15
  obtain ⟨hv15, N15q, K15, fo15_0, fo15_1⟩ := hQ15
  have f16 : n0 ≤ T15.heap.size := Nat.le_trans f5 K15.1
  have f17 : Exa Z T15.heap a0 "com/example/octopoll/octopoll/PageHeap" := f6.keep K15
  have f18 : Fld Z T15.heap a0 "com/example/octopoll/octopoll/PageHeap" "key" "[D" (.ref ka) := f7.keep K15 (ninS ne_a0_ha (ninS ne_a0_pa nin0))
  have f19 : Fld Z T15.heap a0 "com/example/octopoll/octopoll/PageHeap" "heap" "[I" (.ref ha) := f8.keep K15 (ninS ne_a0_ha (ninS ne_a0_pa nin0))
  have f20 : Fld Z T15.heap a0 "com/example/octopoll/octopoll/PageHeap" "position" "[I" (.ref pa) := f9.keep K15 (ninS ne_a0_ha (ninS ne_a0_pa nin0))
  have f21 : Fld Z T15.heap a0 "com/example/octopoll/octopoll/PageHeap" "size" "I" (.int ((own_cnt false b1 b2) + (1 : Int32))) := f10.keep K15 (ninS ne_a0_ha (ninS ne_a0_pa nin0))
  have f22 : Arv Z T15.heap ka kk .double (3 : Int32) [(.double d0), (.double d1), (.double d2)] (.double 0) := f11.keep K15 (ninS ne_ka_ha (ninS ne_ka_pa nin0))
  have f23 : Keep h0 T15.heap [a0, ha, pa] := f14.trans K15 (allS (Or.inl (List.mem_of_getElem? (i := 1) rfl)) (allS (Or.inl (List.mem_of_getElem? (i := 2) rfl)) all0))
  subst hv15
  have N15 := Fr.app N4 N15q
  have pre15 : Go p.tables e below (s₁.setTop (entryFrame m #[(.ref a0), (.int (0 : Int32))] 2)) T15 (mkF m 16 #[.val (.ref a0), .val (.int (0 : Int32))] []) := fun t k => pre4 t (st15 _ k)
  have pre24 : Go p.tables e below (s₁.setTop (entryFrame m #[(.ref a0), (.int (0 : Int32))] 2)) T15 (mkF m 18 #[.val (.ref a0), .val (.int (0 : Int32))] [(.ref a0), (.ref a0)]) := fun t k => pre15 t (by
      refine XS.aloadN X15.here hx rfl (hb hby d4_16) rfl rfl ?_
      show Steps p.tables e below (T15.setTop (mkF m 17 #[.val (.ref a0), .val (.int (0 : Int32))] [(.ref a0)])) _
      refine XS.aloadN X15.here hx rfl (hb hby d4_17) rfl rfl ?_
      exact k)
  obtain ⟨T25, X25, e25, st25⟩ := getF X15 hx hZ hown (host := "") (Or.inl (hw _ (List.mem_of_getElem? (i := 15) rfl))) Via.refl rfl f20 (g := (mkF m 18 #[.val (.ref a0), .val (.int (0 : Int32))] [(.ref a0), (.ref a0)])) rfl rfl (hb hby d4_18)
  have pre25 : Go p.tables e below (s₁.setTop (entryFrame m #[(.ref a0), (.int (0 : Int32))] 2)) T25 (mkF m 21 #[.val (.ref a0), .val (.int (0 : Int32))] [(.ref pa), (.ref a0)]) := fun t k => pre24 t (st25 _ k)
  have pre26 : Go p.tables e below (s₁.setTop (entryFrame m #[(.ref a0), (.int (0 : Int32))] 2)) T25 (mkF m 22 #[.val (.ref a0), .val (.int (0 : Int32))] [(.int (0 : Int32)), (.ref pa), (.ref a0)]) := fun t k => pre25 t (by
      refine XS.iloadN X25.here hx rfl (hb hby d4_21) rfl ?_
      exact k)
  obtain ⟨c27, Ar27, q27, S27, M27, H27, G27⟩ := (id fo15_1)
  have hin27 : ¬ ((0 : Int32) < 0 ∨ c27.slots.size ≤ ((0 : Int32)).toNatClampNeg) := inb_of S27 ⟨by decide, by decide⟩
  have pre27 : Go p.tables e below (s₁.setTop (entryFrame m #[(.ref a0), (.int (0 : Int32))] 2)) T25 (mkF m 23 #[.val (.ref a0), .val (.int (0 : Int32))] [(.int (own_cnt false b1 b2)), (.ref a0)]) := fun t k => pre26 t (X25.iaload hx (j := (0 : Int32)) (v := (.int (own_cnt false b1 b2))) (by rw [e25]; exact Ar27.1) (State.isArrayOf_alike hZ.alike Ar27.2.1) Ar27.2.2 hin27 (H27.at hin27 rfl) (g := (mkF m 22 #[.val (.ref a0), .val (.int (0 : Int32))] [(.int (0 : Int32)), (.ref pa), (.ref a0)])) rfl rfl (hb hby d4_22) _ k)
  obtain ⟨cq28, q28, q28'⟩ := f17.cell
  obtain ⟨_, _, ⟨T28, L28, k28, n28⟩, -, X28, ⟨Lc28, hQ28, l28, y28, z28⟩, st28⟩ := own_private X25 hx (y := (⟨"com/example/octopoll/octopoll/PageHeap", "siftUp", "(I)V"⟩ : MethodName)) hown (mvT hZ (hw _ (List.mem_of_getElem? (i := 34) rfl))) (mvT hZ (hw _ (List.mem_of_getElem? (i := 35) rfl))) (mvT hZ (hw _ (List.mem_of_getElem? (i := 26) rfl))) rfl (Cond.privateMethod_at (mvP hZ (hw _ (List.mem_of_getElem? (i := 36) rfl)) (args := #[]))) (mvT hZ (hw _ (List.mem_of_getElem? (i := 37) rfl))) (by decide) (backOf (W := 0) (rm_su l Z av0 hw [] a0 (own_cnt false b1 b2) ka ha pa kk kh kp d0 d1 d2 (own_u 0 (own_cnt false b1 b2) (0 : Int32) x0) (own_u 1 (own_cnt false b1 b2) (0 : Int32) x1) (own_u 2 (own_cnt false b1 b2) (0 : Int32) x2) (own_cnt false b1 b2) y1 y2 T15.heap n0 f16 f17 f18 f19 f20 f22 fo15_0 fo15_1 g_ha g_pa ne_a0_ha ne_a0_pa ne_ha_pa ne_a0_ka ne_ka_ha ne_ka_pa (own_ur (by decide) hR.1) (own_ur (by decide) hR.2.1) (own_ur (by decide) hR.2.2) (own_ac0 b1 b2).1) hZ (hw _ (List.mem_of_getElem? (i := 37) rfl)) (hw _ (List.mem_of_getElem? (i := 3) rfl)) (by decide) (by decide)) (a := a0) (by rw [e25]; exact q28) q28' (g := (mkF m 23 #[.val (.ref a0), .val (.int (0 : Int32))] [(.int (own_cnt false b1 b2)), (.ref a0)])) rfl (by rw [hml]; rfl) (argsL := [(.int (own_cnt false b1 b2))]) (rest := []) (lenOf pd_2 rfl) rfl (by show 2 * 0 + _ ≤ _; exact Nat.le_of_eq rfl) (hb hby d4_23) (fun _ _ => ⟨rfl, e25, (by decide : 0 + 0 ≤ _), (by decide : 0 + 0 ≤ _)⟩)
  dsimp only [Pt.U, Pt.locs, Pt.cells, Pt.slots] at X28 l28 y28 z28 st28 hQ28
  subst l28 y28 z28
  obtain ⟨z028, z128, z228, z328, z428, z528, hv28, N28q, K28, fo28_0, fo28_1, po28_0⟩ := hQ28
  have f29 : n0 ≤ T28.heap.size := Nat.le_trans f16 K28.1
  have f30 : Exa Z T28.heap a0 "com/example/octopoll/octopoll/PageHeap" := f17.keep K28
  have f31 : Fld Z T28.heap a0 "com/example/octopoll/octopoll/PageHeap" "key" "[D" (.ref ka) := f18.keep K28 (ninS ne_a0_ha (ninS ne_a0_pa nin0))
  have f32 : Fld Z T28.heap a0 "com/example/octopoll/octopoll/PageHeap" "heap" "[I" (.ref ha) := f19.keep K28 (ninS ne_a0_ha (ninS ne_a0_pa nin0))
  have f33 : Fld Z T28.heap a0 "com/example/octopoll/octopoll/PageHeap" "position" "[I" (.ref pa) := f20.keep K28 (ninS ne_a0_ha (ninS ne_a0_pa nin0))
  have f34 : Fld Z T28.heap a0 "com/example/octopoll/octopoll/PageHeap" "size" "I" (.int ((own_cnt false b1 b2) + (1 : Int32))) := f21.keep K28 (ninS ne_a0_ha (ninS ne_a0_pa nin0))
  have f35 : Arv Z T28.heap ka kk .double (3 : Int32) [(.double d0), (.double d1), (.double d2)] (.double 0) := f22.keep K28 (ninS ne_ka_ha (ninS ne_ka_pa nin0))
  have f36 : Keep h0 T28.heap [a0, ha, pa] := f23.trans K28 (allS (Or.inl (List.mem_of_getElem? (i := 1) rfl)) (allS (Or.inl (List.mem_of_getElem? (i := 2) rfl)) all0))
  subst hv28
  have N28 := Fr.app N15 N28q
  have pre28 : Go p.tables e below (s₁.setTop (entryFrame m #[(.ref a0), (.int (0 : Int32))] 2)) T28 (mkF m 26 #[.val (.ref a0), .val (.int (0 : Int32))] []) := fun t k => pre27 t (st28 _ k)
  obtain ⟨fs, hr, hrun, hended, hW, hsame⟩ := X28.leave (v := none) (fun _ => rfl) (BodyLoose.notSynchronized Bd)
  refine ⟨_, _, pre28 _ ?_, hrun, hended, _, _, rfl, ?_, ⟨_, rfl⟩, hW, hsame.mono (Nat.le_of_ble_eq_true rfl) (Nat.le_of_ble_eq_true rfl)⟩
  · exact X28.returnOut hx Bd.returns (hb hby d4_26) hr
  · show Q_add0 Z a0 ka ha pa kk kh kp d0 d1 d2 x0 x1 x2 y0 y1 y2 b1 b2 h0 n0 _ T28.heap _
    have fsz := f34
    rw [(own_ac0 b1 b2).2] at fsz
    exact ⟨z028, z128, z228, z328, z428, z528, rfl, N28, f36, f30, f31, f32, f33, fsz, fo28_0, fo28_1, (own_memU (own_a0 b1 b2 _ hS) po28_0)⟩
theorem d9_0 : decode prog_17_method_7_code 0 = .ok (.aload_n 0, 1) := by decide +kernel
theorem d9_1 : decode prog_17_method_7_code 1 = .ok (.getfield 17, 3) := by decide +kernel
theorem d9_4 : decode prog_17_method_7_code 4 = .ok (.iload_n 1, 1) := by decide +kernel
theorem d9_5 : decode prog_17_method_7_code 5 = .ok (.iaload, 1) := by decide +kernel
theorem d9_6 : decode prog_17_method_7_code 6 = .ok (.istore_n 2, 1) := by decide +kernel
theorem d9_7 : decode prog_17_method_7_code 7 = .ok (.aload_n 0, 1) := by decide +kernel
theorem d9_8 : decode prog_17_method_7_code 8 = .ok (.getfield 13, 3) := by decide +kernel
theorem d9_11 : decode prog_17_method_7_code 11 = .ok (.aload_n 0, 1) := by decide +kernel
theorem d9_12 : decode prog_17_method_7_code 12 = .ok (.dup, 1) := by decide +kernel
theorem d9_13 : decode prog_17_method_7_code 13 = .ok (.getfield 26, 3) := by decide +kernel
theorem d9_16 : decode prog_17_method_7_code 16 = .ok (.iconst 1, 1) := by decide +kernel
theorem d9_17 : decode prog_17_method_7_code 17 = .ok (.isub, 1) := by decide +kernel
theorem d9_18 : decode prog_17_method_7_code 18 = .ok (.dup_x1, 1) := by decide +kernel
theorem d9_19 : decode prog_17_method_7_code 19 = .ok (.putfield 26, 3) := by decide +kernel
theorem d9_22 : decode prog_17_method_7_code 22 = .ok (.iaload, 1) := by decide +kernel
theorem d9_23 : decode prog_17_method_7_code 23 = .ok (.istore_n 3, 1) := by decide +kernel
theorem d9_24 : decode prog_17_method_7_code 24 = .ok (.aload_n 0, 1) := by decide +kernel
theorem d9_25 : decode prog_17_method_7_code 25 = .ok (.getfield 17, 3) := by decide +kernel
theorem d9_28 : decode prog_17_method_7_code 28 = .ok (.iload_n 1, 1) := by decide +kernel
theorem d9_29 : decode prog_17_method_7_code 29 = .ok (.iconst (-1), 1) := by decide +kernel
theorem d9_30 : decode prog_17_method_7_code 30 = .ok (.iastore, 1) := by decide +kernel
theorem d9_31 : decode prog_17_method_7_code 31 = .ok (.iload_n 3, 1) := by decide +kernel
theorem d9_32 : decode prog_17_method_7_code 32 = .ok (.iload_n 1, 1) := by decide +kernel
theorem d9_33 : decode prog_17_method_7_code 33 = .ok (.if_icmp .eq 24, 3) := by decide +kernel
theorem d9_36 : decode prog_17_method_7_code 36 = .ok (.aload_n 0, 1) := by decide +kernel
theorem d9_37 : decode prog_17_method_7_code 37 = .ok (.iload_n 3, 1) := by decide +kernel
theorem d9_38 : decode prog_17_method_7_code 38 = .ok (.iload_n 2, 1) := by decide +kernel
theorem d9_39 : decode prog_17_method_7_code 39 = .ok (.invokevirtual 30, 3) := by decide +kernel
theorem d9_42 : decode prog_17_method_7_code 42 = .ok (.aload_n 0, 1) := by decide +kernel
theorem d9_43 : decode prog_17_method_7_code 43 = .ok (.iload_n 2, 1) := by decide +kernel
theorem d9_44 : decode prog_17_method_7_code 44 = .ok (.invokevirtual 34, 3) := by decide +kernel
theorem d9_47 : decode prog_17_method_7_code 47 = .ok (.aload_n 0, 1) := by decide +kernel
theorem d9_48 : decode prog_17_method_7_code 48 = .ok (.aload_n 0, 1) := by decide +kernel
theorem d9_49 : decode prog_17_method_7_code 49 = .ok (.getfield 17, 3) := by decide +kernel
theorem d9_52 : decode prog_17_method_7_code 52 = .ok (.iload_n 3, 1) := by decide +kernel
theorem d9_53 : decode prog_17_method_7_code 53 = .ok (.iaload, 1) := by decide +kernel
theorem d9_54 : decode prog_17_method_7_code 54 = .ok (.invokevirtual 41, 3) := by decide +kernel
theorem d9_57 : decode prog_17_method_7_code 57 = .ok (.return_, 1) := by decide +kernel
theorem pn_rem0 : plainName "com/example/octopoll/octopoll/PageHeap" = true := by first | (simp [plainName, overriddenIn]; done) | decide +kernel
theorem ef_rem0 (m : MethodId) (a0 : Addr) : entryFrame m #[(.ref a0), (.int (0 : Int32))] 4 = mkF m 0 #[.val (.ref a0), .val (.int (0 : Int32)), .unset, .unset] [] := by first | (simp [entryFrame, mkF, argsToLocals, Value.category]; done) | rfl
def Q_rem0 (Z : State) (a0 : Addr) (ka : Addr) (ha : Addr) (pa : Addr) (kk : ClassId) (kh : ClassId) (kp : ClassId) (d0 : UInt64) (d1 : UInt64) (d2 : UInt64) (x0 : Int32) (x1 : Int32) (x2 : Int32) (y0 : Int32) (y1 : Int32) (y2 : Int32) (b1 : Bool) (b2 : Bool) (h0 : Heap) (n0 : Nat) (v : Option Value) (h : Heap) (L : List Loc) : Prop := ∃ (z0 : Int32) (z1 : Int32) (z2 : Int32) (z3 : Int32) (z4 : Int32) (z5 : Int32), v = none ∧ Fr n0 L ∧ Keep h0 h [a0, ha, pa] ∧ Exa Z h a0 "com/example/octopoll/octopoll/PageHeap" ∧ Fld Z h a0 "com/example/octopoll/octopoll/PageHeap" "key" "[D" (.ref ka) ∧ Fld Z h a0 "com/example/octopoll/octopoll/PageHeap" "heap" "[I" (.ref ha) ∧ Fld Z h a0 "com/example/octopoll/octopoll/PageHeap" "position" "[I" (.ref pa) ∧ Fld Z h a0 "com/example/octopoll/octopoll/PageHeap" "size" "I" (.int (own_cnt false b1 b2)) ∧ Arv Z h ha kh .int (3 : Int32) [(.int z0), (.int z1), (.int z2)] (.int (0 : Int32)) ∧ Arv Z h pa kp .int (3 : Int32) [(.int z3), (.int z4), (.int z5)] (.int (0 : Int32)) ∧ (z0, z1, z2, z3, z4, z5) ∈ own_S false b1 b2
set_option maxRecDepth 65536 in
set_option maxHeartbeats 40000000 in
theorem rm_rem0 (l : Launch) (Z : State) (av0 : Array Value) (hw : ∀ d ∈ tables_1, d.before av0 Z = true) (ws : List Jvm.Cond) (a0 : Addr) (ka : Addr) (ha : Addr) (pa : Addr) (kk : ClassId) (kh : ClassId) (kp : ClassId) (d0 : UInt64) (d1 : UInt64) (d2 : UInt64) (x0 : Int32) (x1 : Int32) (x2 : Int32) (y0 : Int32) (y1 : Int32) (y2 : Int32) (b1 : Bool) (b2 : Bool) (h0 : Heap) (n0 : Nat) (Z0 : n0 ≤ h0.size) (fi0 : Exa Z h0 a0 "com/example/octopoll/octopoll/PageHeap") (fi1 : Fld Z h0 a0 "com/example/octopoll/octopoll/PageHeap" "key" "[D" (.ref ka)) (fi2 : Fld Z h0 a0 "com/example/octopoll/octopoll/PageHeap" "heap" "[I" (.ref ha)) (fi3 : Fld Z h0 a0 "com/example/octopoll/octopoll/PageHeap" "position" "[I" (.ref pa)) (fi4 : Fld Z h0 a0 "com/example/octopoll/octopoll/PageHeap" "size" "I" (.int (own_cnt true b1 b2))) (fi5 : Arv Z h0 ka kk .double (3 : Int32) [(.double d0), (.double d1), (.double d2)] (.double 0)) (fi6 : Arv Z h0 ha kh .int (3 : Int32) [(.int x0), (.int x1), (.int x2)] (.int (0 : Int32))) (fi7 : Arv Z h0 pa kp .int (3 : Int32) [(.int y0), (.int y1), (.int y2)] (.int (0 : Int32))) (g_a0 : n0 ≤ a0) (g_ha : n0 ≤ ha) (g_pa : n0 ≤ pa) (ne_a0_ha : a0 ≠ ha) (ne_a0_pa : a0 ≠ pa) (ne_ha_pa : ha ≠ pa) (ne_a0_ka : a0 ≠ ka) (ne_ka_ha : ka ≠ ha) (ne_ka_pa : ka ≠ pa) (hS : (x0, x1, x2, y0, y1, y2) ∈ own_S true b1 b2) :
    MetFree l (⟨"com/example/octopoll/octopoll/PageHeap", "remove", "(I)V"⟩ : MethodName) (head1 (Jvm.Cond.code (⟨"com/example/octopoll/octopoll/PageHeap", "remove", "(I)V"⟩ : MethodName) prog_17_method_7_code 4 none :: ws) ({ frames := 2, cells := 0, slots := 0, locals := 31 } : Room)) (fun a U => a = #[(.ref a0), (.int (0 : Int32))] ∧ Z.Warmed39 U.vm ∧ U.heap = h0) (fun _ _ _ _ _ => True) (fun _ U o U' => ∃ v L, o = .returned v ∧ Q_rem0 Z a0 ka ha pa kk kh kp d0 d1 d2 x0 x1 x2 y0 y1 y2 b1 b2 h0 n0 v U'.heap L ∧ FrameEnd U o U' L ({ frames := 2, cells := 0, slots := 0, locals := 31 } : Room).cells ({ frames := 2, cells := 0, slots := 0, locals := 31 } : Room).slots) := by
  refine MetFree.of_bodySF (plainFor_of_name pn_rem0) hisR ?_
  intro p e s m args below meth c s₁ Bd hml0 hP hK
  obtain ⟨rfl, hZ, hh⟩ := hP
  have hx := Bd.exec
  have hby := Bd.bytes
  have hml : c.maxLocals = 4 := hml0
  have hown : s.vm.findClass "com/example/octopoll/octopoll/PageHeap" = some m.cls := findClass_of_methodNamed Bd.named
  have hnm := (name_of_methodNamed Bd.named Bd.method).1
  have X0 : Stand p l e ({ frames := 2, cells := 0, slots := 0, locals := 31 } : Room) s m #[(.ref a0), (.int (0 : Int32))] below meth c s₁ [] 0 0 := Stand.of_body Bd
  have e0 : s₁.heap = h0 := by rw [← hh, Bd.state]; rfl
  have N0 := Fr.nil n0
  have pre0 : Go p.tables e below (s₁.setTop (entryFrame m #[(.ref a0), (.int (0 : Int32))] 4)) s₁ (mkF m 0 #[.val (.ref a0), .val (.int (0 : Int32)), .unset, .unset] []) := fun t k => castTop (ef_rem0 m a0) k
  have K0 : Keep h0 h0 [a0, ha, pa] := Keep.refl _ _
  have hR := own_rng true b1 b2 _ hS
  have pre1 : Go p.tables e below (s₁.setTop (entryFrame m #[(.ref a0), (.int (0 : Int32))] 4)) s₁ (mkF m 1 #[.val (.ref a0), .val (.int (0 : Int32)), .unset, .unset] [(.ref a0)]) := fun t k => pre0 t (by
      refine XS.aloadN X0.here hx rfl (hb hby d9_0) rfl rfl ?_
      exact k)
  obtain ⟨T2, X2, e2, st2⟩ := getF X0 hx hZ hown (host := "") (Or.inl (hw _ (List.mem_of_getElem? (i := 15) rfl))) Via.refl e0 fi3 (g := (mkF m 1 #[.val (.ref a0), .val (.int (0 : Int32)), .unset, .unset] [(.ref a0)])) rfl rfl (hb hby d9_1)
  have pre2 : Go p.tables e below (s₁.setTop (entryFrame m #[(.ref a0), (.int (0 : Int32))] 4)) T2 (mkF m 4 #[.val (.ref a0), .val (.int (0 : Int32)), .unset, .unset] [(.ref pa)]) := fun t k => pre1 t (st2 _ k)
  have pre3 : Go p.tables e below (s₁.setTop (entryFrame m #[(.ref a0), (.int (0 : Int32))] 4)) T2 (mkF m 5 #[.val (.ref a0), .val (.int (0 : Int32)), .unset, .unset] [(.int (0 : Int32)), (.ref pa)]) := fun t k => pre2 t (by
      refine XS.iloadN X2.here hx rfl (hb hby d9_4) rfl ?_
      exact k)
  obtain ⟨c4, Ar4, q4, S4, M4, H4, G4⟩ := (id fi7)
  have hin4 : ¬ ((0 : Int32) < 0 ∨ c4.slots.size ≤ ((0 : Int32)).toNatClampNeg) := inb_of S4 ⟨by decide, by decide⟩
  have pre4 : Go p.tables e below (s₁.setTop (entryFrame m #[(.ref a0), (.int (0 : Int32))] 4)) T2 (mkF m 6 #[.val (.ref a0), .val (.int (0 : Int32)), .unset, .unset] [(.int y0)]) := fun t k => pre3 t (X2.iaload hx (j := (0 : Int32)) (v := (.int y0)) (by rw [e2]; exact Ar4.1) (State.isArrayOf_alike hZ.alike Ar4.2.1) Ar4.2.2 hin4 (H4.at hin4 rfl) (g := (mkF m 5 #[.val (.ref a0), .val (.int (0 : Int32)), .unset, .unset] [(.int (0 : Int32)), (.ref pa)])) rfl rfl (hb hby d9_5) _ k)
  have pre5 : Go p.tables e below (s₁.setTop (entryFrame m #[(.ref a0), (.int (0 : Int32))] 4)) T2 (mkF m 8 #[.val (.ref a0), .val (.int (0 : Int32)), .val (.int y0), .unset] [(.ref a0)]) := fun t k => pre4 t (by
      refine XS.istoreN X2.here hx rfl (hb hby d9_6) rfl (l' := #[.val (.ref a0), .val (.int (0 : Int32)), .val (.int y0), .unset]) rfl ?_
      show Steps p.tables e below (T2.setTop (mkF m 7 #[.val (.ref a0), .val (.int (0 : Int32)), .val (.int y0), .unset] [])) _
      refine XS.aloadN X2.here hx rfl (hb hby d9_7) rfl rfl ?_
      exact k)
  obtain ⟨T6, X6, e6, st6⟩ := getF X2 hx hZ hown (host := "") (Or.inl (hw _ (List.mem_of_getElem? (i := 13) rfl))) Via.refl e2 fi2 (g := (mkF m 8 #[.val (.ref a0), .val (.int (0 : Int32)), .val (.int y0), .unset] [(.ref a0)])) rfl rfl (hb hby d9_8)
  have pre6 : Go p.tables e below (s₁.setTop (entryFrame m #[(.ref a0), (.int (0 : Int32))] 4)) T6 (mkF m 11 #[.val (.ref a0), .val (.int (0 : Int32)), .val (.int y0), .unset] [(.ref ha)]) := fun t k => pre5 t (st6 _ k)
  have pre7 : Go p.tables e below (s₁.setTop (entryFrame m #[(.ref a0), (.int (0 : Int32))] 4)) T6 (mkF m 13 #[.val (.ref a0), .val (.int (0 : Int32)), .val (.int y0), .unset] [(.ref a0), (.ref a0), (.ref ha)]) := fun t k => pre6 t (by
      refine XS.aloadN X6.here hx rfl (hb hby d9_11) rfl rfl ?_
      show Steps p.tables e below (T6.setTop (mkF m 12 #[.val (.ref a0), .val (.int (0 : Int32)), .val (.int y0), .unset] [(.ref a0), (.ref ha)])) _
      refine XS.dup X6.here hx rfl (hb hby d9_12) rfl rfl ?_
      exact k)
  obtain ⟨T8, X8, e8, st8⟩ := getF X6 hx hZ hown (host := "") (Or.inl (hw _ (List.mem_of_getElem? (i := 28) rfl))) Via.refl e6 fi4 (g := (mkF m 13 #[.val (.ref a0), .val (.int (0 : Int32)), .val (.int y0), .unset] [(.ref a0), (.ref a0), (.ref ha)])) rfl rfl (hb hby d9_13)
  have pre8 : Go p.tables e below (s₁.setTop (entryFrame m #[(.ref a0), (.int (0 : Int32))] 4)) T8 (mkF m 16 #[.val (.ref a0), .val (.int (0 : Int32)), .val (.int y0), .unset] [(.int (own_cnt true b1 b2)), (.ref a0), (.ref ha)]) := fun t k => pre7 t (st8 _ k)
  have pre9 : Go p.tables e below (s₁.setTop (entryFrame m #[(.ref a0), (.int (0 : Int32))] 4)) T8 (mkF m 19 #[.val (.ref a0), .val (.int (0 : Int32)), .val (.int y0), .unset] [(.int ((own_cnt true b1 b2) - (1 : Int32))), (.ref a0), (.int ((own_cnt true b1 b2) - (1 : Int32))), (.ref ha)]) := fun t k => pre8 t (by
      refine XS.iconst X8.here hx rfl (hb hby d9_16) ?_
      show Steps p.tables e below (T8.setTop (mkF m 17 #[.val (.ref a0), .val (.int (0 : Int32)), .val (.int y0), .unset] [(.int (1 : Int32)), (.int (own_cnt true b1 b2)), (.ref a0), (.ref ha)])) _
      refine XS.isub X8.here hx rfl (hb hby d9_17) rfl ?_
      show Steps p.tables e below (T8.setTop (mkF m 18 #[.val (.ref a0), .val (.int (0 : Int32)), .val (.int y0), .unset] [(.int ((own_cnt true b1 b2) - (1 : Int32))), (.ref a0), (.ref ha)])) _
      refine XS.dupX1 X8.here hx rfl (hb hby d9_18) rfl rfl rfl ?_
      exact k)
  obtain ⟨T10, h10, X10, e10, W10, st10⟩ := putF X8 hx hZ hown (host := "") (Or.inl (hw _ (List.mem_of_getElem? (i := 28) rfl))) Via.refl e8 fi4 fi0 (Or.inl (hw _ (List.mem_of_getElem? (i := 29) rfl))) (hw _ (List.mem_of_getElem? (i := 2) rfl)) (ty := .int) (by decide) rfl rfl (g := (mkF m 19 #[.val (.ref a0), .val (.int (0 : Int32)), .val (.int y0), .unset] [(.int ((own_cnt true b1 b2) - (1 : Int32))), (.ref a0), (.int ((own_cnt true b1 b2) - (1 : Int32))), (.ref ha)])) rfl rfl (hb hby d9_19)
  have N10 := Fr.snoc X10 N0 g_a0
  have f11 : n0 ≤ h10.size := Nat.le_trans Z0 (Keep.of_wr W10).1
  have f12 : Exa Z h10 a0 "com/example/octopoll/octopoll/PageHeap" := fi0.wr W10
  have f13 : Fld Z h10 a0 "com/example/octopoll/octopoll/PageHeap" "key" "[D" (.ref ka) := fi1.other W10 (Or.inr (slot_ne (Or.inr (hw _ (List.mem_of_getElem? (i := 11) rfl))) (Or.inl (hw _ (List.mem_of_getElem? (i := 29) rfl))) (by decide) (t := (.array .double)) (t' := .int) (by decide) (by decide)))
  have f14 : Fld Z h10 a0 "com/example/octopoll/octopoll/PageHeap" "heap" "[I" (.ref ha) := fi2.other W10 (Or.inr (slot_ne (Or.inr (hw _ (List.mem_of_getElem? (i := 14) rfl))) (Or.inl (hw _ (List.mem_of_getElem? (i := 29) rfl))) (by decide) (t := (.array .int)) (t' := .int) (by decide) (by decide)))
  have f15 : Fld Z h10 a0 "com/example/octopoll/octopoll/PageHeap" "position" "[I" (.ref pa) := fi3.other W10 (Or.inr (slot_ne (Or.inr (hw _ (List.mem_of_getElem? (i := 16) rfl))) (Or.inl (hw _ (List.mem_of_getElem? (i := 29) rfl))) (by decide) (t := (.array .int)) (t' := .int) (by decide) (by decide)))
  have f16 : Fld Z h10 a0 "com/example/octopoll/octopoll/PageHeap" "size" "I" (.int ((own_cnt true b1 b2) - (1 : Int32))) := fi4.same W10
  have f17 : Arv Z h10 ka kk .double (3 : Int32) [(.double d0), (.double d1), (.double d2)] (.double 0) := fi5.other W10 ne_a0_ka.symm
  have f18 : Arv Z h10 ha kh .int (3 : Int32) [(.int x0), (.int x1), (.int x2)] (.int (0 : Int32)) := fi6.other W10 ne_a0_ha.symm
  have f19 : Arv Z h10 pa kp .int (3 : Int32) [(.int y0), (.int y1), (.int y2)] (.int (0 : Int32)) := fi7.other W10 ne_a0_pa.symm
  have f20 : Keep h0 h10 [a0, ha, pa] := K0.wr W10 (Or.inl (List.mem_of_getElem? (i := 0) rfl))
  have pre10 : Go p.tables e below (s₁.setTop (entryFrame m #[(.ref a0), (.int (0 : Int32))] 4)) T10 (mkF m 22 #[.val (.ref a0), .val (.int (0 : Int32)), .val (.int y0), .unset] [(.int ((own_cnt true b1 b2) - (1 : Int32))), (.ref ha)]) := fun t k => pre9 t (st10 _ k)
  obtain ⟨c21, Ar21, q21, S21, M21, H21, G21⟩ := (id f18)
  have hin21 : ¬ (((own_cnt true b1 b2) - (1 : Int32)) < 0 ∨ c21.slots.size ≤ (((own_cnt true b1 b2) - (1 : Int32))).toNatClampNeg) := inb_of S21 (own_rc0 b1 b2).1
  have pre21 : Go p.tables e below (s₁.setTop (entryFrame m #[(.ref a0), (.int (0 : Int32))] 4)) T10 (mkF m 23 #[.val (.ref a0), .val (.int (0 : Int32)), .val (.int y0), .unset] [(.int (own_g ((own_cnt true b1 b2) - (1 : Int32)) x0 x1 x2))]) := fun t k => pre10 t (X10.iaload hx (j := ((own_cnt true b1 b2) - (1 : Int32))) (v := (.int (own_g ((own_cnt true b1 b2) - (1 : Int32)) x0 x1 x2))) (by rw [e10]; exact Ar21.1) (State.isArrayOf_alike hZ.alike Ar21.2.1) Ar21.2.2 hin21 (H21.at hin21 (own_get (own_rc0 b1 b2).1)) (g := (mkF m 22 #[.val (.ref a0), .val (.int (0 : Int32)), .val (.int y0), .unset] [(.int ((own_cnt true b1 b2) - (1 : Int32))), (.ref ha)])) rfl rfl (hb hby d9_22) _ k)
  obtain ⟨w22, hw22⟩ : ∃ z : Int32, z = (own_g ((own_cnt true b1 b2) - (1 : Int32)) x0 x1 x2) := ⟨_, rfl⟩
  have pre23 : Go p.tables e below (s₁.setTop (entryFrame m #[(.ref a0), (.int (0 : Int32))] 4)) T10 (mkF m 25 #[.val (.ref a0), .val (.int (0 : Int32)), .val (.int y0), .val (.int w22)] [(.ref a0)]) := fun t k => pre21 t (by
      refine XS.istoreN X10.here hx rfl (x := w22) (rest := []) (hb hby d9_23) (by subst hw22; rfl) (l' := #[.val (.ref a0), .val (.int (0 : Int32)), .val (.int y0), .val (.int w22)]) rfl ?_
      show Steps p.tables e below (T10.setTop (mkF m 24 #[.val (.ref a0), .val (.int (0 : Int32)), .val (.int y0), .val (.int w22)] [])) _
      refine XS.aloadN X10.here hx rfl (hb hby d9_24) rfl rfl ?_
      exact k)
  obtain ⟨T24, X24, e24, st24⟩ := getF X10 hx hZ hown (host := "") (Or.inl (hw _ (List.mem_of_getElem? (i := 15) rfl))) Via.refl e10 f15 (g := (mkF m 25 #[.val (.ref a0), .val (.int (0 : Int32)), .val (.int y0), .val (.int w22)] [(.ref a0)])) rfl rfl (hb hby d9_25)
  have pre24 : Go p.tables e below (s₁.setTop (entryFrame m #[(.ref a0), (.int (0 : Int32))] 4)) T24 (mkF m 28 #[.val (.ref a0), .val (.int (0 : Int32)), .val (.int y0), .val (.int w22)] [(.ref pa)]) := fun t k => pre23 t (st24 _ k)
  have pre25 : Go p.tables e below (s₁.setTop (entryFrame m #[(.ref a0), (.int (0 : Int32))] 4)) T24 (mkF m 30 #[.val (.ref a0), .val (.int (0 : Int32)), .val (.int y0), .val (.int w22)] [(.int (-1 : Int32)), (.int (0 : Int32)), (.ref pa)]) := fun t k => pre24 t (by
      refine XS.iloadN X24.here hx rfl (hb hby d9_28) rfl ?_
      show Steps p.tables e below (T24.setTop (mkF m 29 #[.val (.ref a0), .val (.int (0 : Int32)), .val (.int y0), .val (.int w22)] [(.int (0 : Int32)), (.ref pa)])) _
      refine XS.iconst X24.here hx rfl (hb hby d9_29) ?_
      exact k)
  obtain ⟨c26, Ar26, q26, S26, M26, H26, G26⟩ := (id f19)
  have hin26 : ¬ ((0 : Int32) < 0 ∨ c26.slots.size ≤ ((0 : Int32)).toNatClampNeg) := inb_of S26 ⟨by decide, by decide⟩
  obtain ⟨T26, h26, X26, e26, W26, st26⟩ := stI X24 hx hZ e24 Ar26 (j := (0 : Int32)) hin26 (g := (mkF m 30 #[.val (.ref a0), .val (.int (0 : Int32)), .val (.int y0), .val (.int w22)] [(.int (-1 : Int32)), (.int (0 : Int32)), (.ref pa)])) rfl rfl (hb hby d9_30)
  have fa26 : Arv Z h26 pa kp .int (3 : Int32) [(.int (-1 : Int32)), (.int y1), (.int y2)] (.int (0 : Int32)) := Arv.set Ar26 q26 S26 M26 H26 G26 rfl W26 0 rfl (Nat.le_of_ble_eq_true rfl)
  have N26 := Fr.snoc X26 N10 g_pa
  have f27 : n0 ≤ h26.size := Nat.le_trans f11 (Keep.of_wr W26).1
  have f28 : Exa Z h26 a0 "com/example/octopoll/octopoll/PageHeap" := f12.wr W26
  have f29 : Fld Z h26 a0 "com/example/octopoll/octopoll/PageHeap" "key" "[D" (.ref ka) := f13.other W26 (Or.inl ne_a0_pa)
  have f30 : Fld Z h26 a0 "com/example/octopoll/octopoll/PageHeap" "heap" "[I" (.ref ha) := f14.other W26 (Or.inl ne_a0_pa)
  have f31 : Fld Z h26 a0 "com/example/octopoll/octopoll/PageHeap" "position" "[I" (.ref pa) := f15.other W26 (Or.inl ne_a0_pa)
  have f32 : Fld Z h26 a0 "com/example/octopoll/octopoll/PageHeap" "size" "I" (.int ((own_cnt true b1 b2) - (1 : Int32))) := f16.other W26 (Or.inl ne_a0_pa)
  have f33 : Arv Z h26 ka kk .double (3 : Int32) [(.double d0), (.double d1), (.double d2)] (.double 0) := f17.other W26 ne_ka_pa
  have f34 : Arv Z h26 ha kh .int (3 : Int32) [(.int x0), (.int x1), (.int x2)] (.int (0 : Int32)) := f18.other W26 ne_ha_pa
  have f35 : Keep h0 h26 [a0, ha, pa] := f20.wr W26 (Or.inl (List.mem_of_getElem? (i := 2) rfl))
  have pre26 : Go p.tables e below (s₁.setTop (entryFrame m #[(.ref a0), (.int (0 : Int32))] 4)) T26 (mkF m 31 #[.val (.ref a0), .val (.int (0 : Int32)), .val (.int y0), .val (.int w22)] []) := fun t k => pre25 t (st26 _ k)
  have pre36 : Go p.tables e below (s₁.setTop (entryFrame m #[(.ref a0), (.int (0 : Int32))] 4)) T26 (mkF m 33 #[.val (.ref a0), .val (.int (0 : Int32)), .val (.int y0), .val (.int w22)] [(.int (0 : Int32)), (.int w22)]) := fun t k => pre26 t (by
      refine XS.iloadN X26.here hx rfl (hb hby d9_31) rfl ?_
      show Steps p.tables e below (T26.setTop (mkF m 32 #[.val (.ref a0), .val (.int (0 : Int32)), .val (.int y0), .val (.int w22)] [(.int w22)])) _
      refine XS.iloadN X26.here hx rfl (hb hby d9_32) rfl ?_
      exact k)
  by_cases hc37 : w22 = (0 : Int32)
  · -- hc37: True
    have pre38 : Go p.tables e below (s₁.setTop (entryFrame m #[(.ref a0), (.int (0 : Int32))] 4)) T26 (mkF m 57 #[.val (.ref a0), .val (.int (0 : Int32)), .val (.int y0), .val (.int w22)] []) := fun t k => pre36 t (by
        refine XS.icmpYes X26.here hx rfl (pc0 := 33) (pc' := 57) rfl (hb hby d9_33) rfl (teq hc37).1 (by decide) (by decide) ?_
        exact k)
    obtain ⟨fs, hr, hrun, hended, hW, hsame⟩ := X26.leave (v := none) (fun _ => rfl) (BodyLoose.notSynchronized Bd)
    refine ⟨_, _, pre38 _ ?_, hrun, hended, _, _, rfl, ?_, ⟨_, rfl⟩, hW, hsame.mono (Nat.le_of_ble_eq_true rfl) (Nat.le_of_ble_eq_true rfl)⟩
    · exact X26.returnOut hx Bd.returns (hb hby d9_57) hr
    · show Q_rem0 Z a0 ka ha pa kk kh kp d0 d1 d2 x0 x1 x2 y0 y1 y2 b1 b2 h0 n0 _ T26.heap _
      rw [e26]
      have fsz := f32
      rw [(own_rc0 b1 b2).2] at fsz
      have hM : (x0, x1, x2, (-1 : Int32), y1, y2) ∈ own_S false b1 b2 := own_re0 b1 b2 _ hS (hw22.symm.trans hc37)
      exact ⟨x0, x1, x2, (-1 : Int32), y1, y2, rfl, N26, f35, f28, f29, f30, f31, fsz, f34, fa26, hM⟩
  · -- hc37: False
    have pre39 : Go p.tables e below (s₁.setTop (entryFrame m #[(.ref a0), (.int (0 : Int32))] 4)) T26 (mkF m 36 #[.val (.ref a0), .val (.int (0 : Int32)), .val (.int y0), .val (.int w22)] []) := fun t k => pre36 t (by
        refine XS.icmpNo X26.here hx rfl (hb hby d9_33) rfl (feq hc37).1 ?_
        exact k)
    have hbw : own_bd w22 := by rw [hw22]; exact own_gr hR.1 hR.2.1 hR.2.2
    have hne := fun q => hc37 (hw22.trans q)
    have pre40 : Go p.tables e below (s₁.setTop (entryFrame m #[(.ref a0), (.int (0 : Int32))] 4)) T26 (mkF m 39 #[.val (.ref a0), .val (.int (0 : Int32)), .val (.int y0), .val (.int w22)] [(.int y0), (.int w22), (.ref a0)]) := fun t k => pre39 t (by
        refine XS.aloadN X26.here hx rfl (hb hby d9_36) rfl rfl ?_
        show Steps p.tables e below (T26.setTop (mkF m 37 #[.val (.ref a0), .val (.int (0 : Int32)), .val (.int y0), .val (.int w22)] [(.ref a0)])) _
        refine XS.iloadN X26.here hx rfl (hb hby d9_37) rfl ?_
        show Steps p.tables e below (T26.setTop (mkF m 38 #[.val (.ref a0), .val (.int (0 : Int32)), .val (.int y0), .val (.int w22)] [(.int w22), (.ref a0)])) _
        refine XS.iloadN X26.here hx rfl (hb hby d9_38) rfl ?_
        exact k)
    obtain ⟨cq41, q41, q41'⟩ := f28.cell
    obtain ⟨_, _, ⟨T41, L41, k41, n41⟩, -, X41, ⟨Lc41, hQ41, l41, y41, z41⟩, st41⟩ := own_private X26 hx (y := (⟨"com/example/octopoll/octopoll/PageHeap", "place", "(II)V"⟩ : MethodName)) hown (mvT hZ (hw _ (List.mem_of_getElem? (i := 30) rfl))) (mvT hZ (hw _ (List.mem_of_getElem? (i := 31) rfl))) (mvT hZ (hw _ (List.mem_of_getElem? (i := 26) rfl))) rfl (Cond.privateMethod_at (mvP hZ (hw _ (List.mem_of_getElem? (i := 32) rfl)) (args := #[]))) (mvT hZ (hw _ (List.mem_of_getElem? (i := 33) rfl))) (by decide) (backOf (W := 0) (rm_plc l Z av0 hw [] a0 w22 y0 ha pa kh kp x0 x1 x2 (-1 : Int32) y1 y2 h26 n0 f27 f30 f31 f34 fa26 g_ha g_pa ne_a0_ha ne_a0_pa ne_ha_pa hbw (own_ry0 b1 b2 _ hS)) hZ (hw _ (List.mem_of_getElem? (i := 33) rfl)) (hw _ (List.mem_of_getElem? (i := 3) rfl)) (by decide) (by decide)) (a := a0) (by rw [e26]; exact q41) q41' (g := (mkF m 39 #[.val (.ref a0), .val (.int (0 : Int32)), .val (.int y0), .val (.int w22)] [(.int y0), (.int w22), (.ref a0)])) rfl (by rw [hml]; rfl) (argsL := [(.int w22), (.int y0)]) (rest := []) (lenOf pd_0 rfl) rfl (by show 2 * 0 + _ ≤ _; exact Nat.le_of_eq rfl) (hb hby d9_39) (fun _ _ => ⟨rfl, e26, (by decide : 0 + 0 ≤ _), (by decide : 0 + 0 ≤ _)⟩)
    dsimp only [Pt.U, Pt.locs, Pt.cells, Pt.slots] at X41 l41 y41 z41 st41 hQ41
    subst l41 y41 z41
    obtain ⟨hv41, N41q, K41, fo41_0, fo41_1⟩ := hQ41
    have f42 : n0 ≤ T41.heap.size := Nat.le_trans f27 K41.1
    have f43 : Exa Z T41.heap a0 "com/example/octopoll/octopoll/PageHeap" := f28.keep K41
    have f44 : Fld Z T41.heap a0 "com/example/octopoll/octopoll/PageHeap" "key" "[D" (.ref ka) := f29.keep K41 (ninS ne_a0_ha (ninS ne_a0_pa nin0))
    have f45 : Fld Z T41.heap a0 "com/example/octopoll/octopoll/PageHeap" "heap" "[I" (.ref ha) := f30.keep K41 (ninS ne_a0_ha (ninS ne_a0_pa nin0))
    have f46 : Fld Z T41.heap a0 "com/example/octopoll/octopoll/PageHeap" "position" "[I" (.ref pa) := f31.keep K41 (ninS ne_a0_ha (ninS ne_a0_pa nin0))
    have f47 : Fld Z T41.heap a0 "com/example/octopoll/octopoll/PageHeap" "size" "I" (.int ((own_cnt true b1 b2) - (1 : Int32))) := f32.keep K41 (ninS ne_a0_ha (ninS ne_a0_pa nin0))
    have f48 : Arv Z T41.heap ka kk .double (3 : Int32) [(.double d0), (.double d1), (.double d2)] (.double 0) := f33.keep K41 (ninS ne_ka_ha (ninS ne_ka_pa nin0))
    have f49 : Keep h0 T41.heap [a0, ha, pa] := f35.trans K41 (allS (Or.inl (List.mem_of_getElem? (i := 1) rfl)) (allS (Or.inl (List.mem_of_getElem? (i := 2) rfl)) all0))
    subst hv41
    have N41 := Fr.app N26 N41q
    have pre41 : Go p.tables e below (s₁.setTop (entryFrame m #[(.ref a0), (.int (0 : Int32))] 4)) T41 (mkF m 42 #[.val (.ref a0), .val (.int (0 : Int32)), .val (.int y0), .val (.int w22)] []) := fun t k => pre40 t (st41 _ k)
    have pre50 : Go p.tables e below (s₁.setTop (entryFrame m #[(.ref a0), (.int (0 : Int32))] 4)) T41 (mkF m 44 #[.val (.ref a0), .val (.int (0 : Int32)), .val (.int y0), .val (.int w22)] [(.int y0), (.ref a0)]) := fun t k => pre41 t (by
        refine XS.aloadN X41.here hx rfl (hb hby d9_42) rfl rfl ?_
        show Steps p.tables e below (T41.setTop (mkF m 43 #[.val (.ref a0), .val (.int (0 : Int32)), .val (.int y0), .val (.int w22)] [(.ref a0)])) _
        refine XS.iloadN X41.here hx rfl (hb hby d9_43) rfl ?_
        exact k)
    obtain ⟨cq51, q51, q51'⟩ := f43.cell
    obtain ⟨_, _, ⟨T51, L51, k51, n51⟩, -, X51, ⟨Lc51, hQ51, l51, y51, z51⟩, st51⟩ := own_private X41 hx (y := (⟨"com/example/octopoll/octopoll/PageHeap", "siftUp", "(I)V"⟩ : MethodName)) hown (mvT hZ (hw _ (List.mem_of_getElem? (i := 34) rfl))) (mvT hZ (hw _ (List.mem_of_getElem? (i := 35) rfl))) (mvT hZ (hw _ (List.mem_of_getElem? (i := 26) rfl))) rfl (Cond.privateMethod_at (mvP hZ (hw _ (List.mem_of_getElem? (i := 36) rfl)) (args := #[]))) (mvT hZ (hw _ (List.mem_of_getElem? (i := 37) rfl))) (by decide) (backOf (W := 0) (rm_su l Z av0 hw [] a0 y0 ka ha pa kk kh kp d0 d1 d2 (own_u 0 y0 w22 x0) (own_u 1 y0 w22 x1) (own_u 2 y0 w22 x2) (own_u 0 w22 y0 (-1 : Int32)) (own_u 1 w22 y0 y1) (own_u 2 w22 y0 y2) T41.heap n0 f42 f43 f44 f45 f46 f48 fo41_0 fo41_1 g_ha g_pa ne_a0_ha ne_a0_pa ne_ha_pa ne_a0_ka ne_ka_ha ne_ka_pa (own_ur hbw hR.1) (own_ur hbw hR.2.1) (own_ur hbw hR.2.2) (own_ry0 b1 b2 _ hS)) hZ (hw _ (List.mem_of_getElem? (i := 37) rfl)) (hw _ (List.mem_of_getElem? (i := 3) rfl)) (by decide) (by decide)) (a := a0) q51 q51' (g := (mkF m 44 #[.val (.ref a0), .val (.int (0 : Int32)), .val (.int y0), .val (.int w22)] [(.int y0), (.ref a0)])) rfl (by rw [hml]; rfl) (argsL := [(.int y0)]) (rest := []) (lenOf pd_2 rfl) rfl (by show 2 * 0 + _ ≤ _; exact Nat.le_of_eq rfl) (hb hby d9_44) (fun _ _ => ⟨rfl, rfl, (by decide : 0 + 0 ≤ _), (by decide : 0 + 0 ≤ _)⟩)
    dsimp only [Pt.U, Pt.locs, Pt.cells, Pt.slots] at X51 l51 y51 z51 st51 hQ51
    subst l51 y51 z51
    obtain ⟨z051, z151, z251, z351, z451, z551, hv51, N51q, K51, fo51_0, fo51_1, po51_0⟩ := hQ51
    have f52 : n0 ≤ T51.heap.size := Nat.le_trans f42 K51.1
    have f53 : Exa Z T51.heap a0 "com/example/octopoll/octopoll/PageHeap" := f43.keep K51
    have f54 : Fld Z T51.heap a0 "com/example/octopoll/octopoll/PageHeap" "key" "[D" (.ref ka) := f44.keep K51 (ninS ne_a0_ha (ninS ne_a0_pa nin0))
    have f55 : Fld Z T51.heap a0 "com/example/octopoll/octopoll/PageHeap" "heap" "[I" (.ref ha) := f45.keep K51 (ninS ne_a0_ha (ninS ne_a0_pa nin0))
    have f56 : Fld Z T51.heap a0 "com/example/octopoll/octopoll/PageHeap" "position" "[I" (.ref pa) := f46.keep K51 (ninS ne_a0_ha (ninS ne_a0_pa nin0))
    have f57 : Fld Z T51.heap a0 "com/example/octopoll/octopoll/PageHeap" "size" "I" (.int ((own_cnt true b1 b2) - (1 : Int32))) := f47.keep K51 (ninS ne_a0_ha (ninS ne_a0_pa nin0))
    have f58 : Arv Z T51.heap ka kk .double (3 : Int32) [(.double d0), (.double d1), (.double d2)] (.double 0) := f48.keep K51 (ninS ne_ka_ha (ninS ne_ka_pa nin0))
    have f59 : Keep h0 T51.heap [a0, ha, pa] := f49.trans K51 (allS (Or.inl (List.mem_of_getElem? (i := 1) rfl)) (allS (Or.inl (List.mem_of_getElem? (i := 2) rfl)) all0))
    subst hv51
    have N51 := Fr.app N41 N51q
    have pre51 : Go p.tables e below (s₁.setTop (entryFrame m #[(.ref a0), (.int (0 : Int32))] 4)) T51 (mkF m 47 #[.val (.ref a0), .val (.int (0 : Int32)), .val (.int y0), .val (.int w22)] []) := fun t k => pre50 t (st51 _ k)
    have hU : (own_bd z051 ∧ own_bd z151 ∧ own_bd z251) ∧ own_bd (own_g w22 z351 z451 z551) := by
      have hc0 := hne
      subst hw22
      rcases po51_0 with hq | ⟨hp, hq⟩
      · have hq1 : (z051, z151, z251, z351, z451, z551) = own_s0 (own_gy 0 (x0, x1, x2, y0, y1, y2)) (own_pl (own_gx ((own_cnt true b1 b2) - 1) (x0, x1, x2, y0, y1, y2)) (own_gy 0 (x0, x1, x2, y0, y1, y2)) (own_m 0 (x0, x1, x2, y0, y1, y2))) := hq
        have ha1 := own_via (P := fun t => own_bd t.1 ∧ own_bd t.2.1 ∧ own_bd t.2.2.1) hq1 (own_r0a0 b1 b2 _ hS hc0)
        have ha2 := own_via (P := fun t => own_bd (own_gy (own_gx ((own_cnt true b1 b2) - 1) (x0, x1, x2, y0, y1, y2)) t)) hq1 (own_r0b0 b1 b2 _ hS hc0)
        exact ⟨ha1, ha2⟩
      · have hq1 : (z051, z151, z251, z351, z451, z551) = own_s1 (own_gy 0 (x0, x1, x2, y0, y1, y2)) (own_pl (own_gx ((own_cnt true b1 b2) - 1) (x0, x1, x2, y0, y1, y2)) (own_gy 0 (x0, x1, x2, y0, y1, y2)) (own_m 0 (x0, x1, x2, y0, y1, y2))) := hq
        have ha1 := own_via (P := fun t => own_bd t.1 ∧ own_bd t.2.1 ∧ own_bd t.2.2.1) hq1 (own_r1a0 b1 b2 _ hS hc0 hp)
        have ha2 := own_via (P := fun t => own_bd (own_gy (own_gx ((own_cnt true b1 b2) - 1) (x0, x1, x2, y0, y1, y2)) t)) hq1 (own_r1b0 b1 b2 _ hS hc0 hp)
        exact ⟨ha1, ha2⟩
    have pre60 : Go p.tables e below (s₁.setTop (entryFrame m #[(.ref a0), (.int (0 : Int32))] 4)) T51 (mkF m 49 #[.val (.ref a0), .val (.int (0 : Int32)), .val (.int y0), .val (.int w22)] [(.ref a0), (.ref a0)]) := fun t k => pre51 t (by
        refine XS.aloadN X51.here hx rfl (hb hby d9_47) rfl rfl ?_
        show Steps p.tables e below (T51.setTop (mkF m 48 #[.val (.ref a0), .val (.int (0 : Int32)), .val (.int y0), .val (.int w22)] [(.ref a0)])) _
        refine XS.aloadN X51.here hx rfl (hb hby d9_48) rfl rfl ?_
        exact k)
    obtain ⟨T61, X61, e61, st61⟩ := getF X51 hx hZ hown (host := "") (Or.inl (hw _ (List.mem_of_getElem? (i := 15) rfl))) Via.refl rfl f56 (g := (mkF m 49 #[.val (.ref a0), .val (.int (0 : Int32)), .val (.int y0), .val (.int w22)] [(.ref a0), (.ref a0)])) rfl rfl (hb hby d9_49)
    have pre61 : Go p.tables e below (s₁.setTop (entryFrame m #[(.ref a0), (.int (0 : Int32))] 4)) T61 (mkF m 52 #[.val (.ref a0), .val (.int (0 : Int32)), .val (.int y0), .val (.int w22)] [(.ref pa), (.ref a0)]) := fun t k => pre60 t (st61 _ k)
    have pre62 : Go p.tables e below (s₁.setTop (entryFrame m #[(.ref a0), (.int (0 : Int32))] 4)) T61 (mkF m 53 #[.val (.ref a0), .val (.int (0 : Int32)), .val (.int y0), .val (.int w22)] [(.int w22), (.ref pa), (.ref a0)]) := fun t k => pre61 t (by
        refine XS.iloadN X61.here hx rfl (hb hby d9_52) rfl ?_
        exact k)
    obtain ⟨c63, Ar63, q63, S63, M63, H63, G63⟩ := (id fo51_1)
    have hin63 : ¬ (w22 < 0 ∨ c63.slots.size ≤ (w22).toNatClampNeg) := inb_of S63 hbw
    have pre63 : Go p.tables e below (s₁.setTop (entryFrame m #[(.ref a0), (.int (0 : Int32))] 4)) T61 (mkF m 54 #[.val (.ref a0), .val (.int (0 : Int32)), .val (.int y0), .val (.int w22)] [(.int (own_g w22 z351 z451 z551)), (.ref a0)]) := fun t k => pre62 t (X61.iaload hx (j := w22) (v := (.int (own_g w22 z351 z451 z551))) (by rw [e61]; exact Ar63.1) (State.isArrayOf_alike hZ.alike Ar63.2.1) Ar63.2.2 hin63 (H63.at hin63 (own_get hbw)) (g := (mkF m 53 #[.val (.ref a0), .val (.int (0 : Int32)), .val (.int y0), .val (.int w22)] [(.int w22), (.ref pa), (.ref a0)])) rfl rfl (hb hby d9_53) _ k)
    obtain ⟨cq64, q64, q64'⟩ := f53.cell
    obtain ⟨_, _, ⟨T64, L64, k64, n64⟩, -, X64, ⟨Lc64, hQ64, l64, y64, z64⟩, st64⟩ := own_private X61 hx (y := (⟨"com/example/octopoll/octopoll/PageHeap", "siftDown", "(I)V"⟩ : MethodName)) hown (mvT hZ (hw _ (List.mem_of_getElem? (i := 52) rfl))) (mvT hZ (hw _ (List.mem_of_getElem? (i := 53) rfl))) (mvT hZ (hw _ (List.mem_of_getElem? (i := 26) rfl))) rfl (Cond.privateMethod_at (mvP hZ (hw _ (List.mem_of_getElem? (i := 54) rfl)) (args := #[]))) (mvT hZ (hw _ (List.mem_of_getElem? (i := 55) rfl))) (by decide) (backOf (W := 0) (rm_sd l Z av0 hw [] a0 (own_g w22 z351 z451 z551) ((own_cnt true b1 b2) - (1 : Int32)) ka ha pa kk kh kp d0 d1 d2 z051 z151 z251 z351 z451 z551 T51.heap n0 f52 f53 f54 f55 f56 f57 f58 fo51_0 fo51_1 g_ha g_pa ne_a0_ha ne_a0_pa ne_ha_pa ne_a0_ka ne_ka_ha ne_ka_pa hU.1.1 hU.1.2.1 hU.1.2.2 (own_rn0 b1 b2 _ hS hne) hU.2) hZ (hw _ (List.mem_of_getElem? (i := 55) rfl)) (hw _ (List.mem_of_getElem? (i := 3) rfl)) (by decide) (by decide)) (a := a0) (by rw [e61]; exact q64) q64' (g := (mkF m 54 #[.val (.ref a0), .val (.int (0 : Int32)), .val (.int y0), .val (.int w22)] [(.int (own_g w22 z351 z451 z551)), (.ref a0)])) rfl (by rw [hml]; rfl) (argsL := [(.int (own_g w22 z351 z451 z551))]) (rest := []) (lenOf pd_2 rfl) rfl (by show 2 * 0 + _ ≤ _; exact Nat.le_of_eq rfl) (hb hby d9_54) (fun _ _ => ⟨rfl, e61, (by decide : 0 + 0 ≤ _), (by decide : 0 + 0 ≤ _)⟩)
    dsimp only [Pt.U, Pt.locs, Pt.cells, Pt.slots] at X64 l64 y64 z64 st64 hQ64
    subst l64 y64 z64
    obtain ⟨z064, z164, z264, z364, z464, z564, hv64, N64q, K64, fo64_0, fo64_1, po64_0⟩ := hQ64
    have f65 : n0 ≤ T64.heap.size := Nat.le_trans f52 K64.1
    have f66 : Exa Z T64.heap a0 "com/example/octopoll/octopoll/PageHeap" := f53.keep K64
    have f67 : Fld Z T64.heap a0 "com/example/octopoll/octopoll/PageHeap" "key" "[D" (.ref ka) := f54.keep K64 (ninS ne_a0_ha (ninS ne_a0_pa nin0))
    have f68 : Fld Z T64.heap a0 "com/example/octopoll/octopoll/PageHeap" "heap" "[I" (.ref ha) := f55.keep K64 (ninS ne_a0_ha (ninS ne_a0_pa nin0))
    have f69 : Fld Z T64.heap a0 "com/example/octopoll/octopoll/PageHeap" "position" "[I" (.ref pa) := f56.keep K64 (ninS ne_a0_ha (ninS ne_a0_pa nin0))
    have f70 : Fld Z T64.heap a0 "com/example/octopoll/octopoll/PageHeap" "size" "I" (.int ((own_cnt true b1 b2) - (1 : Int32))) := f57.keep K64 (ninS ne_a0_ha (ninS ne_a0_pa nin0))
    have f71 : Arv Z T64.heap ka kk .double (3 : Int32) [(.double d0), (.double d1), (.double d2)] (.double 0) := f58.keep K64 (ninS ne_ka_ha (ninS ne_ka_pa nin0))
    have f72 : Keep h0 T64.heap [a0, ha, pa] := f59.trans K64 (allS (Or.inl (List.mem_of_getElem? (i := 1) rfl)) (allS (Or.inl (List.mem_of_getElem? (i := 2) rfl)) all0))
    subst hv64
    have N64 := Fr.app N51 N64q
    have pre64 : Go p.tables e below (s₁.setTop (entryFrame m #[(.ref a0), (.int (0 : Int32))] 4)) T64 (mkF m 57 #[.val (.ref a0), .val (.int (0 : Int32)), .val (.int y0), .val (.int w22)] []) := fun t k => pre63 t (st64 _ k)
    obtain ⟨fs, hr, hrun, hended, hW, hsame⟩ := X64.leave (v := none) (fun _ => rfl) (BodyLoose.notSynchronized Bd)
    refine ⟨_, _, pre64 _ ?_, hrun, hended, _, _, rfl, ?_, ⟨_, rfl⟩, hW, hsame.mono (Nat.le_of_ble_eq_true rfl) (Nat.le_of_ble_eq_true rfl)⟩
    · exact X64.returnOut hx Bd.returns (hb hby d9_57) hr
    · show Q_rem0 Z a0 ka ha pa kk kh kp d0 d1 d2 x0 x1 x2 y0 y1 y2 b1 b2 h0 n0 _ T64.heap _
      have fsz := f70
      rw [(own_rc0 b1 b2).2] at fsz
      have hM : (z064, z164, z264, z364, z464, z564) ∈ own_S false b1 b2 := by
        have hc0 := hne
        subst hw22
        rcases po51_0 with hq | ⟨hp, hq⟩
        · have hq1 : (z051, z151, z251, z351, z451, z551) = own_s0 (own_gy 0 (x0, x1, x2, y0, y1, y2)) (own_pl (own_gx ((own_cnt true b1 b2) - 1) (x0, x1, x2, y0, y1, y2)) (own_gy 0 (x0, x1, x2, y0, y1, y2)) (own_m 0 (x0, x1, x2, y0, y1, y2))) := hq
          have hc1 := own_via (P := fun t => own_s0 (own_gy (own_gx ((own_cnt true b1 b2) - 1) (x0, x1, x2, y0, y1, y2)) t) t ∈ own_S false b1 b2) hq1 (own_r0c0 b1 b2 _ hS hc0)
          have hc2 := own_via (P := fun t => own_gy (own_gx ((own_cnt true b1 b2) - 1) (x0, x1, x2, y0, y1, y2)) t = 0 → (own_cnt true b1 b2) - 1 = 2 → own_d1 t ∈ own_S false b1 b2) hq1 (own_r0d0 b1 b2 _ hS hc0)
          exact own_memD hc1 hc2 po64_0
        · have hq1 : (z051, z151, z251, z351, z451, z551) = own_s1 (own_gy 0 (x0, x1, x2, y0, y1, y2)) (own_pl (own_gx ((own_cnt true b1 b2) - 1) (x0, x1, x2, y0, y1, y2)) (own_gy 0 (x0, x1, x2, y0, y1, y2)) (own_m 0 (x0, x1, x2, y0, y1, y2))) := hq
          have hc1 := own_via (P := fun t => own_s0 (own_gy (own_gx ((own_cnt true b1 b2) - 1) (x0, x1, x2, y0, y1, y2)) t) t ∈ own_S false b1 b2) hq1 (own_r1c0 b1 b2 _ hS hc0 hp)
          have hc2 := own_via (P := fun t => own_gy (own_gx ((own_cnt true b1 b2) - 1) (x0, x1, x2, y0, y1, y2)) t = 0 → (own_cnt true b1 b2) - 1 = 2 → own_d1 t ∈ own_S false b1 b2) hq1 (own_r1d0 b1 b2 _ hS hc0 hp)
          exact own_memD hc1 hc2 po64_0
      exact ⟨z064, z164, z264, z364, z464, z564, rfl, N64, f72, f66, f67, f68, f69, fsz, fo64_0, fo64_1, hM⟩
theorem pn_add1 : plainName "com/example/octopoll/octopoll/PageHeap" = true := by first | (simp [plainName, overriddenIn]; done) | decide +kernel
theorem ef_add1 (m : MethodId) (a0 : Addr) : entryFrame m #[(.ref a0), (.int (1 : Int32))] 2 = mkF m 0 #[.val (.ref a0), .val (.int (1 : Int32))] [] := by first | (simp [entryFrame, mkF, argsToLocals, Value.category]; done) | rfl
def Q_add1 (Z : State) (a0 : Addr) (ka : Addr) (ha : Addr) (pa : Addr) (kk : ClassId) (kh : ClassId) (kp : ClassId) (d0 : UInt64) (d1 : UInt64) (d2 : UInt64) (x0 : Int32) (x1 : Int32) (x2 : Int32) (y0 : Int32) (y1 : Int32) (y2 : Int32) (b0 : Bool) (b2 : Bool) (h0 : Heap) (n0 : Nat) (v : Option Value) (h : Heap) (L : List Loc) : Prop := ∃ (z0 : Int32) (z1 : Int32) (z2 : Int32) (z3 : Int32) (z4 : Int32) (z5 : Int32), v = none ∧ Fr n0 L ∧ Keep h0 h [a0, ha, pa] ∧ Exa Z h a0 "com/example/octopoll/octopoll/PageHeap" ∧ Fld Z h a0 "com/example/octopoll/octopoll/PageHeap" "key" "[D" (.ref ka) ∧ Fld Z h a0 "com/example/octopoll/octopoll/PageHeap" "heap" "[I" (.ref ha) ∧ Fld Z h a0 "com/example/octopoll/octopoll/PageHeap" "position" "[I" (.ref pa) ∧ Fld Z h a0 "com/example/octopoll/octopoll/PageHeap" "size" "I" (.int (own_cnt b0 true b2)) ∧ Arv Z h ha kh .int (3 : Int32) [(.int z0), (.int z1), (.int z2)] (.int (0 : Int32)) ∧ Arv Z h pa kp .int (3 : Int32) [(.int z3), (.int z4), (.int z5)] (.int (0 : Int32)) ∧ (z0, z1, z2, z3, z4, z5) ∈ own_S b0 true b2
set_option maxRecDepth 65536 in
set_option maxHeartbeats 40000000 in
theorem rm_add1 (l : Launch) (Z : State) (av0 : Array Value) (hw : ∀ d ∈ tables_1, d.before av0 Z = true) (ws : List Jvm.Cond) (a0 : Addr) (ka : Addr) (ha : Addr) (pa : Addr) (kk : ClassId) (kh : ClassId) (kp : ClassId) (d0 : UInt64) (d1 : UInt64) (d2 : UInt64) (x0 : Int32) (x1 : Int32) (x2 : Int32) (y0 : Int32) (y1 : Int32) (y2 : Int32) (b0 : Bool) (b2 : Bool) (h0 : Heap) (n0 : Nat) (Z0 : n0 ≤ h0.size) (fi0 : Exa Z h0 a0 "com/example/octopoll/octopoll/PageHeap") (fi1 : Fld Z h0 a0 "com/example/octopoll/octopoll/PageHeap" "key" "[D" (.ref ka)) (fi2 : Fld Z h0 a0 "com/example/octopoll/octopoll/PageHeap" "heap" "[I" (.ref ha)) (fi3 : Fld Z h0 a0 "com/example/octopoll/octopoll/PageHeap" "position" "[I" (.ref pa)) (fi4 : Fld Z h0 a0 "com/example/octopoll/octopoll/PageHeap" "size" "I" (.int (own_cnt b0 false b2))) (fi5 : Arv Z h0 ka kk .double (3 : Int32) [(.double d0), (.double d1), (.double d2)] (.double 0)) (fi6 : Arv Z h0 ha kh .int (3 : Int32) [(.int x0), (.int x1), (.int x2)] (.int (0 : Int32))) (fi7 : Arv Z h0 pa kp .int (3 : Int32) [(.int y0), (.int y1), (.int y2)] (.int (0 : Int32))) (g_a0 : n0 ≤ a0) (g_ha : n0 ≤ ha) (g_pa : n0 ≤ pa) (ne_a0_ha : a0 ≠ ha) (ne_a0_pa : a0 ≠ pa) (ne_ha_pa : ha ≠ pa) (ne_a0_ka : a0 ≠ ka) (ne_ka_ha : ka ≠ ha) (ne_ka_pa : ka ≠ pa) (hS : (x0, x1, x2, y0, y1, y2) ∈ own_S b0 false b2) :
    MetFree l (⟨"com/example/octopoll/octopoll/PageHeap", "add", "(I)V"⟩ : MethodName) (head1 (Jvm.Cond.code (⟨"com/example/octopoll/octopoll/PageHeap", "add", "(I)V"⟩ : MethodName) prog_17_method_5_code 2 none :: ws) ({ frames := 2, cells := 0, slots := 0, locals := 30 } : Room)) (fun a U => a = #[(.ref a0), (.int (1 : Int32))] ∧ Z.Warmed39 U.vm ∧ U.heap = h0) (fun _ _ _ _ _ => True) (fun _ U o U' => ∃ v L, o = .returned v ∧ Q_add1 Z a0 ka ha pa kk kh kp d0 d1 d2 x0 x1 x2 y0 y1 y2 b0 b2 h0 n0 v U'.heap L ∧ FrameEnd U o U' L ({ frames := 2, cells := 0, slots := 0, locals := 30 } : Room).cells ({ frames := 2, cells := 0, slots := 0, locals := 30 } : Room).slots) := by
  refine MetFree.of_bodySF (plainFor_of_name pn_add1) hisR ?_
  intro p e s m args below meth c s₁ Bd hml0 hP hK
  obtain ⟨rfl, hZ, hh⟩ := hP
  have hx := Bd.exec
  have hby := Bd.bytes
  have hml : c.maxLocals = 2 := hml0
  have hown : s.vm.findClass "com/example/octopoll/octopoll/PageHeap" = some m.cls := findClass_of_methodNamed Bd.named
  have hnm := (name_of_methodNamed Bd.named Bd.method).1
  have X0 : Stand p l e ({ frames := 2, cells := 0, slots := 0, locals := 30 } : Room) s m #[(.ref a0), (.int (1 : Int32))] below meth c s₁ [] 0 0 := Stand.of_body Bd
  have e0 : s₁.heap = h0 := by rw [← hh, Bd.state]; rfl
  have N0 := Fr.nil n0
  have pre0 : Go p.tables e below (s₁.setTop (entryFrame m #[(.ref a0), (.int (1 : Int32))] 2)) s₁ (mkF m 0 #[.val (.ref a0), .val (.int (1 : Int32))] []) := fun t k => castTop (ef_add1 m a0) k
  have K0 : Keep h0 h0 [a0, ha, pa] := Keep.refl _ _
  have hR := own_rng b0 false b2 _ hS
  have pre1 : Go p.tables e below (s₁.setTop (entryFrame m #[(.ref a0), (.int (1 : Int32))] 2)) s₁ (mkF m 4 #[.val (.ref a0), .val (.int (1 : Int32))] [(.ref a0), (.ref a0), (.int (1 : Int32)), (.ref a0)]) := fun t k => pre0 t (by
      refine XS.aloadN X0.here hx rfl (hb hby d4_0) rfl rfl ?_
      show Steps p.tables e below (s₁.setTop (mkF m 1 #[.val (.ref a0), .val (.int (1 : Int32))] [(.ref a0)])) _
      refine XS.iloadN X0.here hx rfl (hb hby d4_1) rfl ?_
      show Steps p.tables e below (s₁.setTop (mkF m 2 #[.val (.ref a0), .val (.int (1 : Int32))] [(.int (1 : Int32)), (.ref a0)])) _
      refine XS.aloadN X0.here hx rfl (hb hby d4_2) rfl rfl ?_
      show Steps p.tables e below (s₁.setTop (mkF m 3 #[.val (.ref a0), .val (.int (1 : Int32))] [(.ref a0), (.int (1 : Int32)), (.ref a0)])) _
      refine XS.dup X0.here hx rfl (hb hby d4_3) rfl rfl ?_
      exact k)
  obtain ⟨T2, X2, e2, st2⟩ := getF X0 hx hZ hown (host := "") (Or.inl (hw _ (List.mem_of_getElem? (i := 28) rfl))) Via.refl e0 fi4 (g := (mkF m 4 #[.val (.ref a0), .val (.int (1 : Int32))] [(.ref a0), (.ref a0), (.int (1 : Int32)), (.ref a0)])) rfl rfl (hb hby d4_4)
  have pre2 : Go p.tables e below (s₁.setTop (entryFrame m #[(.ref a0), (.int (1 : Int32))] 2)) T2 (mkF m 7 #[.val (.ref a0), .val (.int (1 : Int32))] [(.int (own_cnt b0 false b2)), (.ref a0), (.int (1 : Int32)), (.ref a0)]) := fun t k => pre1 t (st2 _ k)
  have pre3 : Go p.tables e below (s₁.setTop (entryFrame m #[(.ref a0), (.int (1 : Int32))] 2)) T2 (mkF m 10 #[.val (.ref a0), .val (.int (1 : Int32))] [(.int ((own_cnt b0 false b2) + (1 : Int32))), (.ref a0), (.int (own_cnt b0 false b2)), (.int (1 : Int32)), (.ref a0)]) := fun t k => pre2 t (by
      refine XS.dupX1 X2.here hx rfl (hb hby d4_7) rfl rfl rfl ?_
      show Steps p.tables e below (T2.setTop (mkF m 8 #[.val (.ref a0), .val (.int (1 : Int32))] [(.int (own_cnt b0 false b2)), (.ref a0), (.int (own_cnt b0 false b2)), (.int (1 : Int32)), (.ref a0)])) _
      refine XS.iconst X2.here hx rfl (hb hby d4_8) ?_
      show Steps p.tables e below (T2.setTop (mkF m 9 #[.val (.ref a0), .val (.int (1 : Int32))] [(.int (1 : Int32)), (.int (own_cnt b0 false b2)), (.ref a0), (.int (own_cnt b0 false b2)), (.int (1 : Int32)), (.ref a0)])) _
      refine XS.iadd X2.here hx rfl (hb hby d4_9) rfl ?_
      exact k)
  obtain ⟨T4, h4, X4, e4, W4, st4⟩ := putF X2 hx hZ hown (host := "") (Or.inl (hw _ (List.mem_of_getElem? (i := 28) rfl))) Via.refl e2 fi4 fi0 (Or.inl (hw _ (List.mem_of_getElem? (i := 29) rfl))) (hw _ (List.mem_of_getElem? (i := 2) rfl)) (ty := .int) (by decide) rfl rfl (g := (mkF m 10 #[.val (.ref a0), .val (.int (1 : Int32))] [(.int ((own_cnt b0 false b2) + (1 : Int32))), (.ref a0), (.int (own_cnt b0 false b2)), (.int (1 : Int32)), (.ref a0)])) rfl rfl (hb hby d4_10)
  have N4 := Fr.snoc X4 N0 g_a0
  have f5 : n0 ≤ h4.size := Nat.le_trans Z0 (Keep.of_wr W4).1
  have f6 : Exa Z h4 a0 "com/example/octopoll/octopoll/PageHeap" := fi0.wr W4
  have f7 : Fld Z h4 a0 "com/example/octopoll/octopoll/PageHeap" "key" "[D" (.ref ka) := fi1.other W4 (Or.inr (slot_ne (Or.inr (hw _ (List.mem_of_getElem? (i := 11) rfl))) (Or.inl (hw _ (List.mem_of_getElem? (i := 29) rfl))) (by decide) (t := (.array .double)) (t' := .int) (by decide) (by decide)))
  have f8 : Fld Z h4 a0 "com/example/octopoll/octopoll/PageHeap" "heap" "[I" (.ref ha) := fi2.other W4 (Or.inr (slot_ne (Or.inr (hw _ (List.mem_of_getElem? (i := 14) rfl))) (Or.inl (hw _ (List.mem_of_getElem? (i := 29) rfl))) (by decide) (t := (.array .int)) (t' := .int) (by decide) (by decide)))
  have f9 : Fld Z h4 a0 "com/example/octopoll/octopoll/PageHeap" "position" "[I" (.ref pa) := fi3.other W4 (Or.inr (slot_ne (Or.inr (hw _ (List.mem_of_getElem? (i := 16) rfl))) (Or.inl (hw _ (List.mem_of_getElem? (i := 29) rfl))) (by decide) (t := (.array .int)) (t' := .int) (by decide) (by decide)))
  have f10 : Fld Z h4 a0 "com/example/octopoll/octopoll/PageHeap" "size" "I" (.int ((own_cnt b0 false b2) + (1 : Int32))) := fi4.same W4
  have f11 : Arv Z h4 ka kk .double (3 : Int32) [(.double d0), (.double d1), (.double d2)] (.double 0) := fi5.other W4 ne_a0_ka.symm
  have f12 : Arv Z h4 ha kh .int (3 : Int32) [(.int x0), (.int x1), (.int x2)] (.int (0 : Int32)) := fi6.other W4 ne_a0_ha.symm
  have f13 : Arv Z h4 pa kp .int (3 : Int32) [(.int y0), (.int y1), (.int y2)] (.int (0 : Int32)) := fi7.other W4 ne_a0_pa.symm
  have f14 : Keep h0 h4 [a0, ha, pa] := K0.wr W4 (Or.inl (List.mem_of_getElem? (i := 0) rfl))
  have pre4 : Go p.tables e below (s₁.setTop (entryFrame m #[(.ref a0), (.int (1 : Int32))] 2)) T4 (mkF m 13 #[.val (.ref a0), .val (.int (1 : Int32))] [(.int (own_cnt b0 false b2)), (.int (1 : Int32)), (.ref a0)]) := fun t k => pre3 t (st4 _ k)
  obtain ⟨cq15, q15, q15'⟩ := f6.cell
  obtain ⟨_, _, ⟨T15, L15, k15, n15⟩, -, X15, ⟨Lc15, hQ15, l15, y15, z15⟩, st15⟩ := own_private X4 hx (y := (⟨"com/example/octopoll/octopoll/PageHeap", "place", "(II)V"⟩ : MethodName)) hown (mvT hZ (hw _ (List.mem_of_getElem? (i := 30) rfl))) (mvT hZ (hw _ (List.mem_of_getElem? (i := 31) rfl))) (mvT hZ (hw _ (List.mem_of_getElem? (i := 26) rfl))) rfl (Cond.privateMethod_at (mvP hZ (hw _ (List.mem_of_getElem? (i := 32) rfl)) (args := #[]))) (mvT hZ (hw _ (List.mem_of_getElem? (i := 33) rfl))) (by decide) (backOf (W := 0) (rm_plc l Z av0 hw [] a0 (1 : Int32) (own_cnt b0 false b2) ha pa kh kp x0 x1 x2 y0 y1 y2 h4 n0 f5 f8 f9 f12 f13 g_ha g_pa ne_a0_ha ne_a0_pa ne_ha_pa (by decide) (own_ac1 b0 b2).1) hZ (hw _ (List.mem_of_getElem? (i := 33) rfl)) (hw _ (List.mem_of_getElem? (i := 3) rfl)) (by decide) (by decide)) (a := a0) (by rw [e4]; exact q15) q15' (g := (mkF m 13 #[.val (.ref a0), .val (.int (1 : Int32))] [(.int (own_cnt b0 false b2)), (.int (1 : Int32)), (.ref a0)])) rfl (by rw [hml]; rfl) (argsL := [(.int (1 : Int32)), (.int (own_cnt b0 false b2))]) (rest := []) (lenOf pd_0 rfl) rfl (by show 2 * 0 + _ ≤ _; exact Nat.le_of_eq rfl) (hb hby d4_13) (fun _ _ => ⟨rfl, e4, (by decide : 0 + 0 ≤ _), (by decide : 0 + 0 ≤ _)⟩)
  dsimp only [Pt.U, Pt.locs, Pt.cells, Pt.slots] at X15 l15 y15 z15 st15 hQ15
  subst l15 y15 z15
  obtain ⟨hv15, N15q, K15, fo15_0, fo15_1⟩ := hQ15
  have f16 : n0 ≤ T15.heap.size := Nat.le_trans f5 K15.1
  have f17 : Exa Z T15.heap a0 "com/example/octopoll/octopoll/PageHeap" := f6.keep K15
  have f18 : Fld Z T15.heap a0 "com/example/octopoll/octopoll/PageHeap" "key" "[D" (.ref ka) := f7.keep K15 (ninS ne_a0_ha (ninS ne_a0_pa nin0))
  have f19 : Fld Z T15.heap a0 "com/example/octopoll/octopoll/PageHeap" "heap" "[I" (.ref ha) := f8.keep K15 (ninS ne_a0_ha (ninS ne_a0_pa nin0))
  have f20 : Fld Z T15.heap a0 "com/example/octopoll/octopoll/PageHeap" "position" "[I" (.ref pa) := f9.keep K15 (ninS ne_a0_ha (ninS ne_a0_pa nin0))
  have f21 : Fld Z T15.heap a0 "com/example/octopoll/octopoll/PageHeap" "size" "I" (.int ((own_cnt b0 false b2) + (1 : Int32))) := f10.keep K15 (ninS ne_a0_ha (ninS ne_a0_pa nin0))
  have f22 : Arv Z T15.heap ka kk .double (3 : Int32) [(.double d0), (.double d1), (.double d2)] (.double 0) := f11.keep K15 (ninS ne_ka_ha (ninS ne_ka_pa nin0))
  have f23 : Keep h0 T15.heap [a0, ha, pa] := f14.trans K15 (allS (Or.inl (List.mem_of_getElem? (i := 1) rfl)) (allS (Or.inl (List.mem_of_getElem? (i := 2) rfl)) all0))
  subst hv15
  have N15 := Fr.app N4 N15q
  have pre15 : Go p.tables e below (s₁.setTop (entryFrame m #[(.ref a0), (.int (1 : Int32))] 2)) T15 (mkF m 16 #[.val (.ref a0), .val (.int (1 : Int32))] []) := fun t k => pre4 t (st15 _ k)
  have pre24 : Go p.tables e below (s₁.setTop (entryFrame m #[(.ref a0), (.int (1 : Int32))] 2)) T15 (mkF m 18 #[.val (.ref a0), .val (.int (1 : Int32))] [(.ref a0), (.ref a0)]) := fun t k => pre15 t (by
      refine XS.aloadN X15.here hx rfl (hb hby d4_16) rfl rfl ?_
      show Steps p.tables e below (T15.setTop (mkF m 17 #[.val (.ref a0), .val (.int (1 : Int32))] [(.ref a0)])) _
      refine XS.aloadN X15.here hx rfl (hb hby d4_17) rfl rfl ?_
      exact k)
  obtain ⟨T25, X25, e25, st25⟩ := getF X15 hx hZ hown (host := "") (Or.inl (hw _ (List.mem_of_getElem? (i := 15) rfl))) Via.refl rfl f20 (g := (mkF m 18 #[.val (.ref a0), .val (.int (1 : Int32))] [(.ref a0), (.ref a0)])) rfl rfl (hb hby d4_18)
  have pre25 : Go p.tables e below (s₁.setTop (entryFrame m #[(.ref a0), (.int (1 : Int32))] 2)) T25 (mkF m 21 #[.val (.ref a0), .val (.int (1 : Int32))] [(.ref pa), (.ref a0)]) := fun t k => pre24 t (st25 _ k)
  have pre26 : Go p.tables e below (s₁.setTop (entryFrame m #[(.ref a0), (.int (1 : Int32))] 2)) T25 (mkF m 22 #[.val (.ref a0), .val (.int (1 : Int32))] [(.int (1 : Int32)), (.ref pa), (.ref a0)]) := fun t k => pre25 t (by
      refine XS.iloadN X25.here hx rfl (hb hby d4_21) rfl ?_
      exact k)
  obtain ⟨c27, Ar27, q27, S27, M27, H27, G27⟩ := (id fo15_1)
  have hin27 : ¬ ((1 : Int32) < 0 ∨ c27.slots.size ≤ ((1 : Int32)).toNatClampNeg) := inb_of S27 ⟨by decide, by decide⟩
  have pre27 : Go p.tables e below (s₁.setTop (entryFrame m #[(.ref a0), (.int (1 : Int32))] 2)) T25 (mkF m 23 #[.val (.ref a0), .val (.int (1 : Int32))] [(.int (own_cnt b0 false b2)), (.ref a0)]) := fun t k => pre26 t (X25.iaload hx (j := (1 : Int32)) (v := (.int (own_cnt b0 false b2))) (by rw [e25]; exact Ar27.1) (State.isArrayOf_alike hZ.alike Ar27.2.1) Ar27.2.2 hin27 (H27.at hin27 rfl) (g := (mkF m 22 #[.val (.ref a0), .val (.int (1 : Int32))] [(.int (1 : Int32)), (.ref pa), (.ref a0)])) rfl rfl (hb hby d4_22) _ k)
  obtain ⟨cq28, q28, q28'⟩ := f17.cell
  obtain ⟨_, _, ⟨T28, L28, k28, n28⟩, -, X28, ⟨Lc28, hQ28, l28, y28, z28⟩, st28⟩ := own_private X25 hx (y := (⟨"com/example/octopoll/octopoll/PageHeap", "siftUp", "(I)V"⟩ : MethodName)) hown (mvT hZ (hw _ (List.mem_of_getElem? (i := 34) rfl))) (mvT hZ (hw _ (List.mem_of_getElem? (i := 35) rfl))) (mvT hZ (hw _ (List.mem_of_getElem? (i := 26) rfl))) rfl (Cond.privateMethod_at (mvP hZ (hw _ (List.mem_of_getElem? (i := 36) rfl)) (args := #[]))) (mvT hZ (hw _ (List.mem_of_getElem? (i := 37) rfl))) (by decide) (backOf (W := 0) (rm_su l Z av0 hw [] a0 (own_cnt b0 false b2) ka ha pa kk kh kp d0 d1 d2 (own_u 0 (own_cnt b0 false b2) (1 : Int32) x0) (own_u 1 (own_cnt b0 false b2) (1 : Int32) x1) (own_u 2 (own_cnt b0 false b2) (1 : Int32) x2) y0 (own_cnt b0 false b2) y2 T15.heap n0 f16 f17 f18 f19 f20 f22 fo15_0 fo15_1 g_ha g_pa ne_a0_ha ne_a0_pa ne_ha_pa ne_a0_ka ne_ka_ha ne_ka_pa (own_ur (by decide) hR.1) (own_ur (by decide) hR.2.1) (own_ur (by decide) hR.2.2) (own_ac1 b0 b2).1) hZ (hw _ (List.mem_of_getElem? (i := 37) rfl)) (hw _ (List.mem_of_getElem? (i := 3) rfl)) (by decide) (by decide)) (a := a0) (by rw [e25]; exact q28) q28' (g := (mkF m 23 #[.val (.ref a0), .val (.int (1 : Int32))] [(.int (own_cnt b0 false b2)), (.ref a0)])) rfl (by rw [hml]; rfl) (argsL := [(.int (own_cnt b0 false b2))]) (rest := []) (lenOf pd_2 rfl) rfl (by show 2 * 0 + _ ≤ _; exact Nat.le_of_eq rfl) (hb hby d4_23) (fun _ _ => ⟨rfl, e25, (by decide : 0 + 0 ≤ _), (by decide : 0 + 0 ≤ _)⟩)
  dsimp only [Pt.U, Pt.locs, Pt.cells, Pt.slots] at X28 l28 y28 z28 st28 hQ28
  subst l28 y28 z28
  obtain ⟨z028, z128, z228, z328, z428, z528, hv28, N28q, K28, fo28_0, fo28_1, po28_0⟩ := hQ28
  have f29 : n0 ≤ T28.heap.size := Nat.le_trans f16 K28.1
  have f30 : Exa Z T28.heap a0 "com/example/octopoll/octopoll/PageHeap" := f17.keep K28
  have f31 : Fld Z T28.heap a0 "com/example/octopoll/octopoll/PageHeap" "key" "[D" (.ref ka) := f18.keep K28 (ninS ne_a0_ha (ninS ne_a0_pa nin0))
  have f32 : Fld Z T28.heap a0 "com/example/octopoll/octopoll/PageHeap" "heap" "[I" (.ref ha) := f19.keep K28 (ninS ne_a0_ha (ninS ne_a0_pa nin0))
  have f33 : Fld Z T28.heap a0 "com/example/octopoll/octopoll/PageHeap" "position" "[I" (.ref pa) := f20.keep K28 (ninS ne_a0_ha (ninS ne_a0_pa nin0))
  have f34 : Fld Z T28.heap a0 "com/example/octopoll/octopoll/PageHeap" "size" "I" (.int ((own_cnt b0 false b2) + (1 : Int32))) := f21.keep K28 (ninS ne_a0_ha (ninS ne_a0_pa nin0))
  have f35 : Arv Z T28.heap ka kk .double (3 : Int32) [(.double d0), (.double d1), (.double d2)] (.double 0) := f22.keep K28 (ninS ne_ka_ha (ninS ne_ka_pa nin0))
  have f36 : Keep h0 T28.heap [a0, ha, pa] := f23.trans K28 (allS (Or.inl (List.mem_of_getElem? (i := 1) rfl)) (allS (Or.inl (List.mem_of_getElem? (i := 2) rfl)) all0))
  subst hv28
  have N28 := Fr.app N15 N28q
  have pre28 : Go p.tables e below (s₁.setTop (entryFrame m #[(.ref a0), (.int (1 : Int32))] 2)) T28 (mkF m 26 #[.val (.ref a0), .val (.int (1 : Int32))] []) := fun t k => pre27 t (st28 _ k)
  obtain ⟨fs, hr, hrun, hended, hW, hsame⟩ := X28.leave (v := none) (fun _ => rfl) (BodyLoose.notSynchronized Bd)
  refine ⟨_, _, pre28 _ ?_, hrun, hended, _, _, rfl, ?_, ⟨_, rfl⟩, hW, hsame.mono (Nat.le_of_ble_eq_true rfl) (Nat.le_of_ble_eq_true rfl)⟩
  · exact X28.returnOut hx Bd.returns (hb hby d4_26) hr
  · show Q_add1 Z a0 ka ha pa kk kh kp d0 d1 d2 x0 x1 x2 y0 y1 y2 b0 b2 h0 n0 _ T28.heap _
    have fsz := f34
    rw [(own_ac1 b0 b2).2] at fsz
    exact ⟨z028, z128, z228, z328, z428, z528, rfl, N28, f36, f30, f31, f32, f33, fsz, fo28_0, fo28_1, (own_memU (own_a1 b0 b2 _ hS) po28_0)⟩
theorem pn_rem1 : plainName "com/example/octopoll/octopoll/PageHeap" = true := by first | (simp [plainName, overriddenIn]; done) | decide +kernel
theorem ef_rem1 (m : MethodId) (a0 : Addr) : entryFrame m #[(.ref a0), (.int (1 : Int32))] 4 = mkF m 0 #[.val (.ref a0), .val (.int (1 : Int32)), .unset, .unset] [] := by first | (simp [entryFrame, mkF, argsToLocals, Value.category]; done) | rfl
def Q_rem1 (Z : State) (a0 : Addr) (ka : Addr) (ha : Addr) (pa : Addr) (kk : ClassId) (kh : ClassId) (kp : ClassId) (d0 : UInt64) (d1 : UInt64) (d2 : UInt64) (x0 : Int32) (x1 : Int32) (x2 : Int32) (y0 : Int32) (y1 : Int32) (y2 : Int32) (b0 : Bool) (b2 : Bool) (h0 : Heap) (n0 : Nat) (v : Option Value) (h : Heap) (L : List Loc) : Prop := ∃ (z0 : Int32) (z1 : Int32) (z2 : Int32) (z3 : Int32) (z4 : Int32) (z5 : Int32), v = none ∧ Fr n0 L ∧ Keep h0 h [a0, ha, pa] ∧ Exa Z h a0 "com/example/octopoll/octopoll/PageHeap" ∧ Fld Z h a0 "com/example/octopoll/octopoll/PageHeap" "key" "[D" (.ref ka) ∧ Fld Z h a0 "com/example/octopoll/octopoll/PageHeap" "heap" "[I" (.ref ha) ∧ Fld Z h a0 "com/example/octopoll/octopoll/PageHeap" "position" "[I" (.ref pa) ∧ Fld Z h a0 "com/example/octopoll/octopoll/PageHeap" "size" "I" (.int (own_cnt b0 false b2)) ∧ Arv Z h ha kh .int (3 : Int32) [(.int z0), (.int z1), (.int z2)] (.int (0 : Int32)) ∧ Arv Z h pa kp .int (3 : Int32) [(.int z3), (.int z4), (.int z5)] (.int (0 : Int32)) ∧ (z0, z1, z2, z3, z4, z5) ∈ own_S b0 false b2
set_option maxRecDepth 65536 in
set_option maxHeartbeats 40000000 in
theorem rm_rem1 (l : Launch) (Z : State) (av0 : Array Value) (hw : ∀ d ∈ tables_1, d.before av0 Z = true) (ws : List Jvm.Cond) (a0 : Addr) (ka : Addr) (ha : Addr) (pa : Addr) (kk : ClassId) (kh : ClassId) (kp : ClassId) (d0 : UInt64) (d1 : UInt64) (d2 : UInt64) (x0 : Int32) (x1 : Int32) (x2 : Int32) (y0 : Int32) (y1 : Int32) (y2 : Int32) (b0 : Bool) (b2 : Bool) (h0 : Heap) (n0 : Nat) (Z0 : n0 ≤ h0.size) (fi0 : Exa Z h0 a0 "com/example/octopoll/octopoll/PageHeap") (fi1 : Fld Z h0 a0 "com/example/octopoll/octopoll/PageHeap" "key" "[D" (.ref ka)) (fi2 : Fld Z h0 a0 "com/example/octopoll/octopoll/PageHeap" "heap" "[I" (.ref ha)) (fi3 : Fld Z h0 a0 "com/example/octopoll/octopoll/PageHeap" "position" "[I" (.ref pa)) (fi4 : Fld Z h0 a0 "com/example/octopoll/octopoll/PageHeap" "size" "I" (.int (own_cnt b0 true b2))) (fi5 : Arv Z h0 ka kk .double (3 : Int32) [(.double d0), (.double d1), (.double d2)] (.double 0)) (fi6 : Arv Z h0 ha kh .int (3 : Int32) [(.int x0), (.int x1), (.int x2)] (.int (0 : Int32))) (fi7 : Arv Z h0 pa kp .int (3 : Int32) [(.int y0), (.int y1), (.int y2)] (.int (0 : Int32))) (g_a0 : n0 ≤ a0) (g_ha : n0 ≤ ha) (g_pa : n0 ≤ pa) (ne_a0_ha : a0 ≠ ha) (ne_a0_pa : a0 ≠ pa) (ne_ha_pa : ha ≠ pa) (ne_a0_ka : a0 ≠ ka) (ne_ka_ha : ka ≠ ha) (ne_ka_pa : ka ≠ pa) (hS : (x0, x1, x2, y0, y1, y2) ∈ own_S b0 true b2) :
    MetFree l (⟨"com/example/octopoll/octopoll/PageHeap", "remove", "(I)V"⟩ : MethodName) (head1 (Jvm.Cond.code (⟨"com/example/octopoll/octopoll/PageHeap", "remove", "(I)V"⟩ : MethodName) prog_17_method_7_code 4 none :: ws) ({ frames := 2, cells := 0, slots := 0, locals := 31 } : Room)) (fun a U => a = #[(.ref a0), (.int (1 : Int32))] ∧ Z.Warmed39 U.vm ∧ U.heap = h0) (fun _ _ _ _ _ => True) (fun _ U o U' => ∃ v L, o = .returned v ∧ Q_rem1 Z a0 ka ha pa kk kh kp d0 d1 d2 x0 x1 x2 y0 y1 y2 b0 b2 h0 n0 v U'.heap L ∧ FrameEnd U o U' L ({ frames := 2, cells := 0, slots := 0, locals := 31 } : Room).cells ({ frames := 2, cells := 0, slots := 0, locals := 31 } : Room).slots) := by
  refine MetFree.of_bodySF (plainFor_of_name pn_rem1) hisR ?_
  intro p e s m args below meth c s₁ Bd hml0 hP hK
  obtain ⟨rfl, hZ, hh⟩ := hP
  have hx := Bd.exec
  have hby := Bd.bytes
  have hml : c.maxLocals = 4 := hml0
  have hown : s.vm.findClass "com/example/octopoll/octopoll/PageHeap" = some m.cls := findClass_of_methodNamed Bd.named
  have hnm := (name_of_methodNamed Bd.named Bd.method).1
  have X0 : Stand p l e ({ frames := 2, cells := 0, slots := 0, locals := 31 } : Room) s m #[(.ref a0), (.int (1 : Int32))] below meth c s₁ [] 0 0 := Stand.of_body Bd
  have e0 : s₁.heap = h0 := by rw [← hh, Bd.state]; rfl
  have N0 := Fr.nil n0
  have pre0 : Go p.tables e below (s₁.setTop (entryFrame m #[(.ref a0), (.int (1 : Int32))] 4)) s₁ (mkF m 0 #[.val (.ref a0), .val (.int (1 : Int32)), .unset, .unset] []) := fun t k => castTop (ef_rem1 m a0) k
  have K0 : Keep h0 h0 [a0, ha, pa] := Keep.refl _ _
  have hR := own_rng b0 true b2 _ hS
  have pre1 : Go p.tables e below (s₁.setTop (entryFrame m #[(.ref a0), (.int (1 : Int32))] 4)) s₁ (mkF m 1 #[.val (.ref a0), .val (.int (1 : Int32)), .unset, .unset] [(.ref a0)]) := fun t k => pre0 t (by
      refine XS.aloadN X0.here hx rfl (hb hby d9_0) rfl rfl ?_
      exact k)
  obtain ⟨T2, X2, e2, st2⟩ := getF X0 hx hZ hown (host := "") (Or.inl (hw _ (List.mem_of_getElem? (i := 15) rfl))) Via.refl e0 fi3 (g := (mkF m 1 #[.val (.ref a0), .val (.int (1 : Int32)), .unset, .unset] [(.ref a0)])) rfl rfl (hb hby d9_1)
  have pre2 : Go p.tables e below (s₁.setTop (entryFrame m #[(.ref a0), (.int (1 : Int32))] 4)) T2 (mkF m 4 #[.val (.ref a0), .val (.int (1 : Int32)), .unset, .unset] [(.ref pa)]) := fun t k => pre1 t (st2 _ k)
  have pre3 : Go p.tables e below (s₁.setTop (entryFrame m #[(.ref a0), (.int (1 : Int32))] 4)) T2 (mkF m 5 #[.val (.ref a0), .val (.int (1 : Int32)), .unset, .unset] [(.int (1 : Int32)), (.ref pa)]) := fun t k => pre2 t (by
      refine XS.iloadN X2.here hx rfl (hb hby d9_4) rfl ?_
      exact k)
  obtain ⟨c4, Ar4, q4, S4, M4, H4, G4⟩ := (id fi7)
  have hin4 : ¬ ((1 : Int32) < 0 ∨ c4.slots.size ≤ ((1 : Int32)).toNatClampNeg) := inb_of S4 ⟨by decide, by decide⟩
  have pre4 : Go p.tables e below (s₁.setTop (entryFrame m #[(.ref a0), (.int (1 : Int32))] 4)) T2 (mkF m 6 #[.val (.ref a0), .val (.int (1 : Int32)), .unset, .unset] [(.int y1)]) := fun t k => pre3 t (X2.iaload hx (j := (1 : Int32)) (v := (.int y1)) (by rw [e2]; exact Ar4.1) (State.isArrayOf_alike hZ.alike Ar4.2.1) Ar4.2.2 hin4 (H4.at hin4 rfl) (g := (mkF m 5 #[.val (.ref a0), .val (.int (1 : Int32)), .unset, .unset] [(.int (1 : Int32)), (.ref pa)])) rfl rfl (hb hby d9_5) _ k)
  have pre5 : Go p.tables e below (s₁.setTop (entryFrame m #[(.ref a0), (.int (1 : Int32))] 4)) T2 (mkF m 8 #[.val (.ref a0), .val (.int (1 : Int32)), .val (.int y1), .unset] [(.ref a0)]) := fun t k => pre4 t (by
      refine XS.istoreN X2.here hx rfl (hb hby d9_6) rfl (l' := #[.val (.ref a0), .val (.int (1 : Int32)), .val (.int y1), .unset]) rfl ?_
      show Steps p.tables e below (T2.setTop (mkF m 7 #[.val (.ref a0), .val (.int (1 : Int32)), .val (.int y1), .unset] [])) _
      refine XS.aloadN X2.here hx rfl (hb hby d9_7) rfl rfl ?_
      exact k)
  obtain ⟨T6, X6, e6, st6⟩ := getF X2 hx hZ hown (host := "") (Or.inl (hw _ (List.mem_of_getElem? (i := 13) rfl))) Via.refl e2 fi2 (g := (mkF m 8 #[.val (.ref a0), .val (.int (1 : Int32)), .val (.int y1), .unset] [(.ref a0)])) rfl rfl (hb hby d9_8)
  have pre6 : Go p.tables e below (s₁.setTop (entryFrame m #[(.ref a0), (.int (1 : Int32))] 4)) T6 (mkF m 11 #[.val (.ref a0), .val (.int (1 : Int32)), .val (.int y1), .unset] [(.ref ha)]) := fun t k => pre5 t (st6 _ k)
  have pre7 : Go p.tables e below (s₁.setTop (entryFrame m #[(.ref a0), (.int (1 : Int32))] 4)) T6 (mkF m 13 #[.val (.ref a0), .val (.int (1 : Int32)), .val (.int y1), .unset] [(.ref a0), (.ref a0), (.ref ha)]) := fun t k => pre6 t (by
      refine XS.aloadN X6.here hx rfl (hb hby d9_11) rfl rfl ?_
      show Steps p.tables e below (T6.setTop (mkF m 12 #[.val (.ref a0), .val (.int (1 : Int32)), .val (.int y1), .unset] [(.ref a0), (.ref ha)])) _
      refine XS.dup X6.here hx rfl (hb hby d9_12) rfl rfl ?_
      exact k)
  obtain ⟨T8, X8, e8, st8⟩ := getF X6 hx hZ hown (host := "") (Or.inl (hw _ (List.mem_of_getElem? (i := 28) rfl))) Via.refl e6 fi4 (g := (mkF m 13 #[.val (.ref a0), .val (.int (1 : Int32)), .val (.int y1), .unset] [(.ref a0), (.ref a0), (.ref ha)])) rfl rfl (hb hby d9_13)
  have pre8 : Go p.tables e below (s₁.setTop (entryFrame m #[(.ref a0), (.int (1 : Int32))] 4)) T8 (mkF m 16 #[.val (.ref a0), .val (.int (1 : Int32)), .val (.int y1), .unset] [(.int (own_cnt b0 true b2)), (.ref a0), (.ref ha)]) := fun t k => pre7 t (st8 _ k)
  have pre9 : Go p.tables e below (s₁.setTop (entryFrame m #[(.ref a0), (.int (1 : Int32))] 4)) T8 (mkF m 19 #[.val (.ref a0), .val (.int (1 : Int32)), .val (.int y1), .unset] [(.int ((own_cnt b0 true b2) - (1 : Int32))), (.ref a0), (.int ((own_cnt b0 true b2) - (1 : Int32))), (.ref ha)]) := fun t k => pre8 t (by
      refine XS.iconst X8.here hx rfl (hb hby d9_16) ?_
      show Steps p.tables e below (T8.setTop (mkF m 17 #[.val (.ref a0), .val (.int (1 : Int32)), .val (.int y1), .unset] [(.int (1 : Int32)), (.int (own_cnt b0 true b2)), (.ref a0), (.ref ha)])) _
      refine XS.isub X8.here hx rfl (hb hby d9_17) rfl ?_
      show Steps p.tables e below (T8.setTop (mkF m 18 #[.val (.ref a0), .val (.int (1 : Int32)), .val (.int y1), .unset] [(.int ((own_cnt b0 true b2) - (1 : Int32))), (.ref a0), (.ref ha)])) _
      refine XS.dupX1 X8.here hx rfl (hb hby d9_18) rfl rfl rfl ?_
      exact k)
  obtain ⟨T10, h10, X10, e10, W10, st10⟩ := putF X8 hx hZ hown (host := "") (Or.inl (hw _ (List.mem_of_getElem? (i := 28) rfl))) Via.refl e8 fi4 fi0 (Or.inl (hw _ (List.mem_of_getElem? (i := 29) rfl))) (hw _ (List.mem_of_getElem? (i := 2) rfl)) (ty := .int) (by decide) rfl rfl (g := (mkF m 19 #[.val (.ref a0), .val (.int (1 : Int32)), .val (.int y1), .unset] [(.int ((own_cnt b0 true b2) - (1 : Int32))), (.ref a0), (.int ((own_cnt b0 true b2) - (1 : Int32))), (.ref ha)])) rfl rfl (hb hby d9_19)
  have N10 := Fr.snoc X10 N0 g_a0
  have f11 : n0 ≤ h10.size := Nat.le_trans Z0 (Keep.of_wr W10).1
  have f12 : Exa Z h10 a0 "com/example/octopoll/octopoll/PageHeap" := fi0.wr W10
  have f13 : Fld Z h10 a0 "com/example/octopoll/octopoll/PageHeap" "key" "[D" (.ref ka) := fi1.other W10 (Or.inr (slot_ne (Or.inr (hw _ (List.mem_of_getElem? (i := 11) rfl))) (Or.inl (hw _ (List.mem_of_getElem? (i := 29) rfl))) (by decide) (t := (.array .double)) (t' := .int) (by decide) (by decide)))
  have f14 : Fld Z h10 a0 "com/example/octopoll/octopoll/PageHeap" "heap" "[I" (.ref ha) := fi2.other W10 (Or.inr (slot_ne (Or.inr (hw _ (List.mem_of_getElem? (i := 14) rfl))) (Or.inl (hw _ (List.mem_of_getElem? (i := 29) rfl))) (by decide) (t := (.array .int)) (t' := .int) (by decide) (by decide)))
  have f15 : Fld Z h10 a0 "com/example/octopoll/octopoll/PageHeap" "position" "[I" (.ref pa) := fi3.other W10 (Or.inr (slot_ne (Or.inr (hw _ (List.mem_of_getElem? (i := 16) rfl))) (Or.inl (hw _ (List.mem_of_getElem? (i := 29) rfl))) (by decide) (t := (.array .int)) (t' := .int) (by decide) (by decide)))
  have f16 : Fld Z h10 a0 "com/example/octopoll/octopoll/PageHeap" "size" "I" (.int ((own_cnt b0 true b2) - (1 : Int32))) := fi4.same W10
  have f17 : Arv Z h10 ka kk .double (3 : Int32) [(.double d0), (.double d1), (.double d2)] (.double 0) := fi5.other W10 ne_a0_ka.symm
  have f18 : Arv Z h10 ha kh .int (3 : Int32) [(.int x0), (.int x1), (.int x2)] (.int (0 : Int32)) := fi6.other W10 ne_a0_ha.symm
  have f19 : Arv Z h10 pa kp .int (3 : Int32) [(.int y0), (.int y1), (.int y2)] (.int (0 : Int32)) := fi7.other W10 ne_a0_pa.symm
  have f20 : Keep h0 h10 [a0, ha, pa] := K0.wr W10 (Or.inl (List.mem_of_getElem? (i := 0) rfl))
  have pre10 : Go p.tables e below (s₁.setTop (entryFrame m #[(.ref a0), (.int (1 : Int32))] 4)) T10 (mkF m 22 #[.val (.ref a0), .val (.int (1 : Int32)), .val (.int y1), .unset] [(.int ((own_cnt b0 true b2) - (1 : Int32))), (.ref ha)]) := fun t k => pre9 t (st10 _ k)
  obtain ⟨c21, Ar21, q21, S21, M21, H21, G21⟩ := (id f18)
  have hin21 : ¬ (((own_cnt b0 true b2) - (1 : Int32)) < 0 ∨ c21.slots.size ≤ (((own_cnt b0 true b2) - (1 : Int32))).toNatClampNeg) := inb_of S21 (own_rc1 b0 b2).1
  have pre21 : Go p.tables e below (s₁.setTop (entryFrame m #[(.ref a0), (.int (1 : Int32))] 4)) T10 (mkF m 23 #[.val (.ref a0), .val (.int (1 : Int32)), .val (.int y1), .unset] [(.int (own_g ((own_cnt b0 true b2) - (1 : Int32)) x0 x1 x2))]) := fun t k => pre10 t (X10.iaload hx (j := ((own_cnt b0 true b2) - (1 : Int32))) (v := (.int (own_g ((own_cnt b0 true b2) - (1 : Int32)) x0 x1 x2))) (by rw [e10]; exact Ar21.1) (State.isArrayOf_alike hZ.alike Ar21.2.1) Ar21.2.2 hin21 (H21.at hin21 (own_get (own_rc1 b0 b2).1)) (g := (mkF m 22 #[.val (.ref a0), .val (.int (1 : Int32)), .val (.int y1), .unset] [(.int ((own_cnt b0 true b2) - (1 : Int32))), (.ref ha)])) rfl rfl (hb hby d9_22) _ k)
  obtain ⟨w22, hw22⟩ : ∃ z : Int32, z = (own_g ((own_cnt b0 true b2) - (1 : Int32)) x0 x1 x2) := ⟨_, rfl⟩
  have pre23 : Go p.tables e below (s₁.setTop (entryFrame m #[(.ref a0), (.int (1 : Int32))] 4)) T10 (mkF m 25 #[.val (.ref a0), .val (.int (1 : Int32)), .val (.int y1), .val (.int w22)] [(.ref a0)]) := fun t k => pre21 t (by
      refine XS.istoreN X10.here hx rfl (x := w22) (rest := []) (hb hby d9_23) (by subst hw22; rfl) (l' := #[.val (.ref a0), .val (.int (1 : Int32)), .val (.int y1), .val (.int w22)]) rfl ?_
      show Steps p.tables e below (T10.setTop (mkF m 24 #[.val (.ref a0), .val (.int (1 : Int32)), .val (.int y1), .val (.int w22)] [])) _
      refine XS.aloadN X10.here hx rfl (hb hby d9_24) rfl rfl ?_
      exact k)
  obtain ⟨T24, X24, e24, st24⟩ := getF X10 hx hZ hown (host := "") (Or.inl (hw _ (List.mem_of_getElem? (i := 15) rfl))) Via.refl e10 f15 (g := (mkF m 25 #[.val (.ref a0), .val (.int (1 : Int32)), .val (.int y1), .val (.int w22)] [(.ref a0)])) rfl rfl (hb hby d9_25)
  have pre24 : Go p.tables e below (s₁.setTop (entryFrame m #[(.ref a0), (.int (1 : Int32))] 4)) T24 (mkF m 28 #[.val (.ref a0), .val (.int (1 : Int32)), .val (.int y1), .val (.int w22)] [(.ref pa)]) := fun t k => pre23 t (st24 _ k)
  have pre25 : Go p.tables e below (s₁.setTop (entryFrame m #[(.ref a0), (.int (1 : Int32))] 4)) T24 (mkF m 30 #[.val (.ref a0), .val (.int (1 : Int32)), .val (.int y1), .val (.int w22)] [(.int (-1 : Int32)), (.int (1 : Int32)), (.ref pa)]) := fun t k => pre24 t (by
      refine XS.iloadN X24.here hx rfl (hb hby d9_28) rfl ?_
      show Steps p.tables e below (T24.setTop (mkF m 29 #[.val (.ref a0), .val (.int (1 : Int32)), .val (.int y1), .val (.int w22)] [(.int (1 : Int32)), (.ref pa)])) _
      refine XS.iconst X24.here hx rfl (hb hby d9_29) ?_
      exact k)
  obtain ⟨c26, Ar26, q26, S26, M26, H26, G26⟩ := (id f19)
  have hin26 : ¬ ((1 : Int32) < 0 ∨ c26.slots.size ≤ ((1 : Int32)).toNatClampNeg) := inb_of S26 ⟨by decide, by decide⟩
  obtain ⟨T26, h26, X26, e26, W26, st26⟩ := stI X24 hx hZ e24 Ar26 (j := (1 : Int32)) hin26 (g := (mkF m 30 #[.val (.ref a0), .val (.int (1 : Int32)), .val (.int y1), .val (.int w22)] [(.int (-1 : Int32)), (.int (1 : Int32)), (.ref pa)])) rfl rfl (hb hby d9_30)
  have fa26 : Arv Z h26 pa kp .int (3 : Int32) [(.int y0), (.int (-1 : Int32)), (.int y2)] (.int (0 : Int32)) := Arv.set Ar26 q26 S26 M26 H26 G26 rfl W26 1 rfl (Nat.le_of_ble_eq_true rfl)
  have N26 := Fr.snoc X26 N10 g_pa
  have f27 : n0 ≤ h26.size := Nat.le_trans f11 (Keep.of_wr W26).1
  have f28 : Exa Z h26 a0 "com/example/octopoll/octopoll/PageHeap" := f12.wr W26
  have f29 : Fld Z h26 a0 "com/example/octopoll/octopoll/PageHeap" "key" "[D" (.ref ka) := f13.other W26 (Or.inl ne_a0_pa)
  have f30 : Fld Z h26 a0 "com/example/octopoll/octopoll/PageHeap" "heap" "[I" (.ref ha) := f14.other W26 (Or.inl ne_a0_pa)
  have f31 : Fld Z h26 a0 "com/example/octopoll/octopoll/PageHeap" "position" "[I" (.ref pa) := f15.other W26 (Or.inl ne_a0_pa)
  have f32 : Fld Z h26 a0 "com/example/octopoll/octopoll/PageHeap" "size" "I" (.int ((own_cnt b0 true b2) - (1 : Int32))) := f16.other W26 (Or.inl ne_a0_pa)
  have f33 : Arv Z h26 ka kk .double (3 : Int32) [(.double d0), (.double d1), (.double d2)] (.double 0) := f17.other W26 ne_ka_pa
  have f34 : Arv Z h26 ha kh .int (3 : Int32) [(.int x0), (.int x1), (.int x2)] (.int (0 : Int32)) := f18.other W26 ne_ha_pa
  have f35 : Keep h0 h26 [a0, ha, pa] := f20.wr W26 (Or.inl (List.mem_of_getElem? (i := 2) rfl))
  have pre26 : Go p.tables e below (s₁.setTop (entryFrame m #[(.ref a0), (.int (1 : Int32))] 4)) T26 (mkF m 31 #[.val (.ref a0), .val (.int (1 : Int32)), .val (.int y1), .val (.int w22)] []) := fun t k => pre25 t (st26 _ k)
  have pre36 : Go p.tables e below (s₁.setTop (entryFrame m #[(.ref a0), (.int (1 : Int32))] 4)) T26 (mkF m 33 #[.val (.ref a0), .val (.int (1 : Int32)), .val (.int y1), .val (.int w22)] [(.int (1 : Int32)), (.int w22)]) := fun t k => pre26 t (by
      refine XS.iloadN X26.here hx rfl (hb hby d9_31) rfl ?_
      show Steps p.tables e below (T26.setTop (mkF m 32 #[.val (.ref a0), .val (.int (1 : Int32)), .val (.int y1), .val (.int w22)] [(.int w22)])) _
      refine XS.iloadN X26.here hx rfl (hb hby d9_32) rfl ?_
      exact k)
  by_cases hc37 : w22 = (1 : Int32)
  · -- hc37: True
    have pre38 : Go p.tables e below (s₁.setTop (entryFrame m #[(.ref a0), (.int (1 : Int32))] 4)) T26 (mkF m 57 #[.val (.ref a0), .val (.int (1 : Int32)), .val (.int y1), .val (.int w22)] []) := fun t k => pre36 t (by
        refine XS.icmpYes X26.here hx rfl (pc0 := 33) (pc' := 57) rfl (hb hby d9_33) rfl (teq hc37).1 (by decide) (by decide) ?_
        exact k)
    obtain ⟨fs, hr, hrun, hended, hW, hsame⟩ := X26.leave (v := none) (fun _ => rfl) (BodyLoose.notSynchronized Bd)
    refine ⟨_, _, pre38 _ ?_, hrun, hended, _, _, rfl, ?_, ⟨_, rfl⟩, hW, hsame.mono (Nat.le_of_ble_eq_true rfl) (Nat.le_of_ble_eq_true rfl)⟩
    · exact X26.returnOut hx Bd.returns (hb hby d9_57) hr
    · show Q_rem1 Z a0 ka ha pa kk kh kp d0 d1 d2 x0 x1 x2 y0 y1 y2 b0 b2 h0 n0 _ T26.heap _
      rw [e26]
      have fsz := f32
      rw [(own_rc1 b0 b2).2] at fsz
      have hM : (x0, x1, x2, y0, (-1 : Int32), y2) ∈ own_S b0 false b2 := own_re1 b0 b2 _ hS (hw22.symm.trans hc37)
      exact ⟨x0, x1, x2, y0, (-1 : Int32), y2, rfl, N26, f35, f28, f29, f30, f31, fsz, f34, fa26, hM⟩
  · -- hc37: False
    have pre39 : Go p.tables e below (s₁.setTop (entryFrame m #[(.ref a0), (.int (1 : Int32))] 4)) T26 (mkF m 36 #[.val (.ref a0), .val (.int (1 : Int32)), .val (.int y1), .val (.int w22)] []) := fun t k => pre36 t (by
        refine XS.icmpNo X26.here hx rfl (hb hby d9_33) rfl (feq hc37).1 ?_
        exact k)
    have hbw : own_bd w22 := by rw [hw22]; exact own_gr hR.1 hR.2.1 hR.2.2
    have hne := fun q => hc37 (hw22.trans q)
    have pre40 : Go p.tables e below (s₁.setTop (entryFrame m #[(.ref a0), (.int (1 : Int32))] 4)) T26 (mkF m 39 #[.val (.ref a0), .val (.int (1 : Int32)), .val (.int y1), .val (.int w22)] [(.int y1), (.int w22), (.ref a0)]) := fun t k => pre39 t (by
        refine XS.aloadN X26.here hx rfl (hb hby d9_36) rfl rfl ?_
        show Steps p.tables e below (T26.setTop (mkF m 37 #[.val (.ref a0), .val (.int (1 : Int32)), .val (.int y1), .val (.int w22)] [(.ref a0)])) _
        refine XS.iloadN X26.here hx rfl (hb hby d9_37) rfl ?_
        show Steps p.tables e below (T26.setTop (mkF m 38 #[.val (.ref a0), .val (.int (1 : Int32)), .val (.int y1), .val (.int w22)] [(.int w22), (.ref a0)])) _
        refine XS.iloadN X26.here hx rfl (hb hby d9_38) rfl ?_
        exact k)
    obtain ⟨cq41, q41, q41'⟩ := f28.cell
    obtain ⟨_, _, ⟨T41, L41, k41, n41⟩, -, X41, ⟨Lc41, hQ41, l41, y41, z41⟩, st41⟩ := own_private X26 hx (y := (⟨"com/example/octopoll/octopoll/PageHeap", "place", "(II)V"⟩ : MethodName)) hown (mvT hZ (hw _ (List.mem_of_getElem? (i := 30) rfl))) (mvT hZ (hw _ (List.mem_of_getElem? (i := 31) rfl))) (mvT hZ (hw _ (List.mem_of_getElem? (i := 26) rfl))) rfl (Cond.privateMethod_at (mvP hZ (hw _ (List.mem_of_getElem? (i := 32) rfl)) (args := #[]))) (mvT hZ (hw _ (List.mem_of_getElem? (i := 33) rfl))) (by decide) (backOf (W := 0) (rm_plc l Z av0 hw [] a0 w22 y1 ha pa kh kp x0 x1 x2 y0 (-1 : Int32) y2 h26 n0 f27 f30 f31 f34 fa26 g_ha g_pa ne_a0_ha ne_a0_pa ne_ha_pa hbw (own_ry1 b0 b2 _ hS)) hZ (hw _ (List.mem_of_getElem? (i := 33) rfl)) (hw _ (List.mem_of_getElem? (i := 3) rfl)) (by decide) (by decide)) (a := a0) (by rw [e26]; exact q41) q41' (g := (mkF m 39 #[.val (.ref a0), .val (.int (1 : Int32)), .val (.int y1), .val (.int w22)] [(.int y1), (.int w22), (.ref a0)])) rfl (by rw [hml]; rfl) (argsL := [(.int w22), (.int y1)]) (rest := []) (lenOf pd_0 rfl) rfl (by show 2 * 0 + _ ≤ _; exact Nat.le_of_eq rfl) (hb hby d9_39) (fun _ _ => ⟨rfl, e26, (by decide : 0 + 0 ≤ _), (by decide : 0 + 0 ≤ _)⟩)
    dsimp only [Pt.U, Pt.locs, Pt.cells, Pt.slots] at X41 l41 y41 z41 st41 hQ41
    subst l41 y41 z41
    obtain ⟨hv41, N41q, K41, fo41_0, fo41_1⟩ := hQ41
    have f42 : n0 ≤ T41.heap.size := Nat.le_trans f27 K41.1
    have f43 : Exa Z T41.heap a0 "com/example/octopoll/octopoll/PageHeap" := f28.keep K41
    have f44 : Fld Z T41.heap a0 "com/example/octopoll/octopoll/PageHeap" "key" "[D" (.ref ka) := f29.keep K41 (ninS ne_a0_ha (ninS ne_a0_pa nin0))
    have f45 : Fld Z T41.heap a0 "com/example/octopoll/octopoll/PageHeap" "heap" "[I" (.ref ha) := f30.keep K41 (ninS ne_a0_ha (ninS ne_a0_pa nin0))
    have f46 : Fld Z T41.heap a0 "com/example/octopoll/octopoll/PageHeap" "position" "[I" (.ref pa) := f31.keep K41 (ninS ne_a0_ha (ninS ne_a0_pa nin0))
    have f47 : Fld Z T41.heap a0 "com/example/octopoll/octopoll/PageHeap" "size" "I" (.int ((own_cnt b0 true b2) - (1 : Int32))) := f32.keep K41 (ninS ne_a0_ha (ninS ne_a0_pa nin0))
    have f48 : Arv Z T41.heap ka kk .double (3 : Int32) [(.double d0), (.double d1), (.double d2)] (.double 0) := f33.keep K41 (ninS ne_ka_ha (ninS ne_ka_pa nin0))
    have f49 : Keep h0 T41.heap [a0, ha, pa] := f35.trans K41 (allS (Or.inl (List.mem_of_getElem? (i := 1) rfl)) (allS (Or.inl (List.mem_of_getElem? (i := 2) rfl)) all0))
    subst hv41
    have N41 := Fr.app N26 N41q
    have pre41 : Go p.tables e below (s₁.setTop (entryFrame m #[(.ref a0), (.int (1 : Int32))] 4)) T41 (mkF m 42 #[.val (.ref a0), .val (.int (1 : Int32)), .val (.int y1), .val (.int w22)] []) := fun t k => pre40 t (st41 _ k)
    have pre50 : Go p.tables e below (s₁.setTop (entryFrame m #[(.ref a0), (.int (1 : Int32))] 4)) T41 (mkF m 44 #[.val (.ref a0), .val (.int (1 : Int32)), .val (.int y1), .val (.int w22)] [(.int y1), (.ref a0)]) := fun t k => pre41 t (by
        refine XS.aloadN X41.here hx rfl (hb hby d9_42) rfl rfl ?_
        show Steps p.tables e below (T41.setTop (mkF m 43 #[.val (.ref a0), .val (.int (1 : Int32)), .val (.int y1), .val (.int w22)] [(.ref a0)])) _
        refine XS.iloadN X41.here hx rfl (hb hby d9_43) rfl ?_
        exact k)
    obtain ⟨cq51, q51, q51'⟩ := f43.cell
    obtain ⟨_, _, ⟨T51, L51, k51, n51⟩, -, X51, ⟨Lc51, hQ51, l51, y51, z51⟩, st51⟩ := own_private X41 hx (y := (⟨"com/example/octopoll/octopoll/PageHeap", "siftUp", "(I)V"⟩ : MethodName)) hown (mvT hZ (hw _ (List.mem_of_getElem? (i := 34) rfl))) (mvT hZ (hw _ (List.mem_of_getElem? (i := 35) rfl))) (mvT hZ (hw _ (List.mem_of_getElem? (i := 26) rfl))) rfl (Cond.privateMethod_at (mvP hZ (hw _ (List.mem_of_getElem? (i := 36) rfl)) (args := #[]))) (mvT hZ (hw _ (List.mem_of_getElem? (i := 37) rfl))) (by decide) (backOf (W := 0) (rm_su l Z av0 hw [] a0 y1 ka ha pa kk kh kp d0 d1 d2 (own_u 0 y1 w22 x0) (own_u 1 y1 w22 x1) (own_u 2 y1 w22 x2) (own_u 0 w22 y1 y0) (own_u 1 w22 y1 (-1 : Int32)) (own_u 2 w22 y1 y2) T41.heap n0 f42 f43 f44 f45 f46 f48 fo41_0 fo41_1 g_ha g_pa ne_a0_ha ne_a0_pa ne_ha_pa ne_a0_ka ne_ka_ha ne_ka_pa (own_ur hbw hR.1) (own_ur hbw hR.2.1) (own_ur hbw hR.2.2) (own_ry1 b0 b2 _ hS)) hZ (hw _ (List.mem_of_getElem? (i := 37) rfl)) (hw _ (List.mem_of_getElem? (i := 3) rfl)) (by decide) (by decide)) (a := a0) q51 q51' (g := (mkF m 44 #[.val (.ref a0), .val (.int (1 : Int32)), .val (.int y1), .val (.int w22)] [(.int y1), (.ref a0)])) rfl (by rw [hml]; rfl) (argsL := [(.int y1)]) (rest := []) (lenOf pd_2 rfl) rfl (by show 2 * 0 + _ ≤ _; exact Nat.le_of_eq rfl) (hb hby d9_44) (fun _ _ => ⟨rfl, rfl, (by decide : 0 + 0 ≤ _), (by decide : 0 + 0 ≤ _)⟩)
    dsimp only [Pt.U, Pt.locs, Pt.cells, Pt.slots] at X51 l51 y51 z51 st51 hQ51
    subst l51 y51 z51
    obtain ⟨z051, z151, z251, z351, z451, z551, hv51, N51q, K51, fo51_0, fo51_1, po51_0⟩ := hQ51
    have f52 : n0 ≤ T51.heap.size := Nat.le_trans f42 K51.1
    have f53 : Exa Z T51.heap a0 "com/example/octopoll/octopoll/PageHeap" := f43.keep K51
    have f54 : Fld Z T51.heap a0 "com/example/octopoll/octopoll/PageHeap" "key" "[D" (.ref ka) := f44.keep K51 (ninS ne_a0_ha (ninS ne_a0_pa nin0))
    have f55 : Fld Z T51.heap a0 "com/example/octopoll/octopoll/PageHeap" "heap" "[I" (.ref ha) := f45.keep K51 (ninS ne_a0_ha (ninS ne_a0_pa nin0))
    have f56 : Fld Z T51.heap a0 "com/example/octopoll/octopoll/PageHeap" "position" "[I" (.ref pa) := f46.keep K51 (ninS ne_a0_ha (ninS ne_a0_pa nin0))
    have f57 : Fld Z T51.heap a0 "com/example/octopoll/octopoll/PageHeap" "size" "I" (.int ((own_cnt b0 true b2) - (1 : Int32))) := f47.keep K51 (ninS ne_a0_ha (ninS ne_a0_pa nin0))
    have f58 : Arv Z T51.heap ka kk .double (3 : Int32) [(.double d0), (.double d1), (.double d2)] (.double 0) := f48.keep K51 (ninS ne_ka_ha (ninS ne_ka_pa nin0))
    have f59 : Keep h0 T51.heap [a0, ha, pa] := f49.trans K51 (allS (Or.inl (List.mem_of_getElem? (i := 1) rfl)) (allS (Or.inl (List.mem_of_getElem? (i := 2) rfl)) all0))
    subst hv51
    have N51 := Fr.app N41 N51q
    have pre51 : Go p.tables e below (s₁.setTop (entryFrame m #[(.ref a0), (.int (1 : Int32))] 4)) T51 (mkF m 47 #[.val (.ref a0), .val (.int (1 : Int32)), .val (.int y1), .val (.int w22)] []) := fun t k => pre50 t (st51 _ k)
    have hU : (own_bd z051 ∧ own_bd z151 ∧ own_bd z251) ∧ own_bd (own_g w22 z351 z451 z551) := by
      have hc0 := hne
      subst hw22
      rcases po51_0 with hq | ⟨hp, hq⟩
      · have hq1 : (z051, z151, z251, z351, z451, z551) = own_s0 (own_gy 1 (x0, x1, x2, y0, y1, y2)) (own_pl (own_gx ((own_cnt b0 true b2) - 1) (x0, x1, x2, y0, y1, y2)) (own_gy 1 (x0, x1, x2, y0, y1, y2)) (own_m 1 (x0, x1, x2, y0, y1, y2))) := hq
        have ha1 := own_via (P := fun t => own_bd t.1 ∧ own_bd t.2.1 ∧ own_bd t.2.2.1) hq1 (own_r0a1 b0 b2 _ hS hc0)
        have ha2 := own_via (P := fun t => own_bd (own_gy (own_gx ((own_cnt b0 true b2) - 1) (x0, x1, x2, y0, y1, y2)) t)) hq1 (own_r0b1 b0 b2 _ hS hc0)
        exact ⟨ha1, ha2⟩
      · have hq1 : (z051, z151, z251, z351, z451, z551) = own_s1 (own_gy 1 (x0, x1, x2, y0, y1, y2)) (own_pl (own_gx ((own_cnt b0 true b2) - 1) (x0, x1, x2, y0, y1, y2)) (own_gy 1 (x0, x1, x2, y0, y1, y2)) (own_m 1 (x0, x1, x2, y0, y1, y2))) := hq
        have ha1 := own_via (P := fun t => own_bd t.1 ∧ own_bd t.2.1 ∧ own_bd t.2.2.1) hq1 (own_r1a1 b0 b2 _ hS hc0 hp)
        have ha2 := own_via (P := fun t => own_bd (own_gy (own_gx ((own_cnt b0 true b2) - 1) (x0, x1, x2, y0, y1, y2)) t)) hq1 (own_r1b1 b0 b2 _ hS hc0 hp)
        exact ⟨ha1, ha2⟩
    have pre60 : Go p.tables e below (s₁.setTop (entryFrame m #[(.ref a0), (.int (1 : Int32))] 4)) T51 (mkF m 49 #[.val (.ref a0), .val (.int (1 : Int32)), .val (.int y1), .val (.int w22)] [(.ref a0), (.ref a0)]) := fun t k => pre51 t (by
        refine XS.aloadN X51.here hx rfl (hb hby d9_47) rfl rfl ?_
        show Steps p.tables e below (T51.setTop (mkF m 48 #[.val (.ref a0), .val (.int (1 : Int32)), .val (.int y1), .val (.int w22)] [(.ref a0)])) _
        refine XS.aloadN X51.here hx rfl (hb hby d9_48) rfl rfl ?_
        exact k)
    obtain ⟨T61, X61, e61, st61⟩ := getF X51 hx hZ hown (host := "") (Or.inl (hw _ (List.mem_of_getElem? (i := 15) rfl))) Via.refl rfl f56 (g := (mkF m 49 #[.val (.ref a0), .val (.int (1 : Int32)), .val (.int y1), .val (.int w22)] [(.ref a0), (.ref a0)])) rfl rfl (hb hby d9_49)
    have pre61 : Go p.tables e below (s₁.setTop (entryFrame m #[(.ref a0), (.int (1 : Int32))] 4)) T61 (mkF m 52 #[.val (.ref a0), .val (.int (1 : Int32)), .val (.int y1), .val (.int w22)] [(.ref pa), (.ref a0)]) := fun t k => pre60 t (st61 _ k)
    have pre62 : Go p.tables e below (s₁.setTop (entryFrame m #[(.ref a0), (.int (1 : Int32))] 4)) T61 (mkF m 53 #[.val (.ref a0), .val (.int (1 : Int32)), .val (.int y1), .val (.int w22)] [(.int w22), (.ref pa), (.ref a0)]) := fun t k => pre61 t (by
        refine XS.iloadN X61.here hx rfl (hb hby d9_52) rfl ?_
        exact k)
    obtain ⟨c63, Ar63, q63, S63, M63, H63, G63⟩ := (id fo51_1)
    have hin63 : ¬ (w22 < 0 ∨ c63.slots.size ≤ (w22).toNatClampNeg) := inb_of S63 hbw
    have pre63 : Go p.tables e below (s₁.setTop (entryFrame m #[(.ref a0), (.int (1 : Int32))] 4)) T61 (mkF m 54 #[.val (.ref a0), .val (.int (1 : Int32)), .val (.int y1), .val (.int w22)] [(.int (own_g w22 z351 z451 z551)), (.ref a0)]) := fun t k => pre62 t (X61.iaload hx (j := w22) (v := (.int (own_g w22 z351 z451 z551))) (by rw [e61]; exact Ar63.1) (State.isArrayOf_alike hZ.alike Ar63.2.1) Ar63.2.2 hin63 (H63.at hin63 (own_get hbw)) (g := (mkF m 53 #[.val (.ref a0), .val (.int (1 : Int32)), .val (.int y1), .val (.int w22)] [(.int w22), (.ref pa), (.ref a0)])) rfl rfl (hb hby d9_53) _ k)
    obtain ⟨cq64, q64, q64'⟩ := f53.cell
    obtain ⟨_, _, ⟨T64, L64, k64, n64⟩, -, X64, ⟨Lc64, hQ64, l64, y64, z64⟩, st64⟩ := own_private X61 hx (y := (⟨"com/example/octopoll/octopoll/PageHeap", "siftDown", "(I)V"⟩ : MethodName)) hown (mvT hZ (hw _ (List.mem_of_getElem? (i := 52) rfl))) (mvT hZ (hw _ (List.mem_of_getElem? (i := 53) rfl))) (mvT hZ (hw _ (List.mem_of_getElem? (i := 26) rfl))) rfl (Cond.privateMethod_at (mvP hZ (hw _ (List.mem_of_getElem? (i := 54) rfl)) (args := #[]))) (mvT hZ (hw _ (List.mem_of_getElem? (i := 55) rfl))) (by decide) (backOf (W := 0) (rm_sd l Z av0 hw [] a0 (own_g w22 z351 z451 z551) ((own_cnt b0 true b2) - (1 : Int32)) ka ha pa kk kh kp d0 d1 d2 z051 z151 z251 z351 z451 z551 T51.heap n0 f52 f53 f54 f55 f56 f57 f58 fo51_0 fo51_1 g_ha g_pa ne_a0_ha ne_a0_pa ne_ha_pa ne_a0_ka ne_ka_ha ne_ka_pa hU.1.1 hU.1.2.1 hU.1.2.2 (own_rn1 b0 b2 _ hS hne) hU.2) hZ (hw _ (List.mem_of_getElem? (i := 55) rfl)) (hw _ (List.mem_of_getElem? (i := 3) rfl)) (by decide) (by decide)) (a := a0) (by rw [e61]; exact q64) q64' (g := (mkF m 54 #[.val (.ref a0), .val (.int (1 : Int32)), .val (.int y1), .val (.int w22)] [(.int (own_g w22 z351 z451 z551)), (.ref a0)])) rfl (by rw [hml]; rfl) (argsL := [(.int (own_g w22 z351 z451 z551))]) (rest := []) (lenOf pd_2 rfl) rfl (by show 2 * 0 + _ ≤ _; exact Nat.le_of_eq rfl) (hb hby d9_54) (fun _ _ => ⟨rfl, e61, (by decide : 0 + 0 ≤ _), (by decide : 0 + 0 ≤ _)⟩)
    dsimp only [Pt.U, Pt.locs, Pt.cells, Pt.slots] at X64 l64 y64 z64 st64 hQ64
    subst l64 y64 z64
    obtain ⟨z064, z164, z264, z364, z464, z564, hv64, N64q, K64, fo64_0, fo64_1, po64_0⟩ := hQ64
    have f65 : n0 ≤ T64.heap.size := Nat.le_trans f52 K64.1
    have f66 : Exa Z T64.heap a0 "com/example/octopoll/octopoll/PageHeap" := f53.keep K64
    have f67 : Fld Z T64.heap a0 "com/example/octopoll/octopoll/PageHeap" "key" "[D" (.ref ka) := f54.keep K64 (ninS ne_a0_ha (ninS ne_a0_pa nin0))
    have f68 : Fld Z T64.heap a0 "com/example/octopoll/octopoll/PageHeap" "heap" "[I" (.ref ha) := f55.keep K64 (ninS ne_a0_ha (ninS ne_a0_pa nin0))
    have f69 : Fld Z T64.heap a0 "com/example/octopoll/octopoll/PageHeap" "position" "[I" (.ref pa) := f56.keep K64 (ninS ne_a0_ha (ninS ne_a0_pa nin0))
    have f70 : Fld Z T64.heap a0 "com/example/octopoll/octopoll/PageHeap" "size" "I" (.int ((own_cnt b0 true b2) - (1 : Int32))) := f57.keep K64 (ninS ne_a0_ha (ninS ne_a0_pa nin0))
    have f71 : Arv Z T64.heap ka kk .double (3 : Int32) [(.double d0), (.double d1), (.double d2)] (.double 0) := f58.keep K64 (ninS ne_ka_ha (ninS ne_ka_pa nin0))
    have f72 : Keep h0 T64.heap [a0, ha, pa] := f59.trans K64 (allS (Or.inl (List.mem_of_getElem? (i := 1) rfl)) (allS (Or.inl (List.mem_of_getElem? (i := 2) rfl)) all0))
    subst hv64
    have N64 := Fr.app N51 N64q
    have pre64 : Go p.tables e below (s₁.setTop (entryFrame m #[(.ref a0), (.int (1 : Int32))] 4)) T64 (mkF m 57 #[.val (.ref a0), .val (.int (1 : Int32)), .val (.int y1), .val (.int w22)] []) := fun t k => pre63 t (st64 _ k)
    obtain ⟨fs, hr, hrun, hended, hW, hsame⟩ := X64.leave (v := none) (fun _ => rfl) (BodyLoose.notSynchronized Bd)
    refine ⟨_, _, pre64 _ ?_, hrun, hended, _, _, rfl, ?_, ⟨_, rfl⟩, hW, hsame.mono (Nat.le_of_ble_eq_true rfl) (Nat.le_of_ble_eq_true rfl)⟩
    · exact X64.returnOut hx Bd.returns (hb hby d9_57) hr
    · show Q_rem1 Z a0 ka ha pa kk kh kp d0 d1 d2 x0 x1 x2 y0 y1 y2 b0 b2 h0 n0 _ T64.heap _
      have fsz := f70
      rw [(own_rc1 b0 b2).2] at fsz
      have hM : (z064, z164, z264, z364, z464, z564) ∈ own_S b0 false b2 := by
        have hc0 := hne
        subst hw22
        rcases po51_0 with hq | ⟨hp, hq⟩
        · have hq1 : (z051, z151, z251, z351, z451, z551) = own_s0 (own_gy 1 (x0, x1, x2, y0, y1, y2)) (own_pl (own_gx ((own_cnt b0 true b2) - 1) (x0, x1, x2, y0, y1, y2)) (own_gy 1 (x0, x1, x2, y0, y1, y2)) (own_m 1 (x0, x1, x2, y0, y1, y2))) := hq
          have hc1 := own_via (P := fun t => own_s0 (own_gy (own_gx ((own_cnt b0 true b2) - 1) (x0, x1, x2, y0, y1, y2)) t) t ∈ own_S b0 false b2) hq1 (own_r0c1 b0 b2 _ hS hc0)
          have hc2 := own_via (P := fun t => own_gy (own_gx ((own_cnt b0 true b2) - 1) (x0, x1, x2, y0, y1, y2)) t = 0 → (own_cnt b0 true b2) - 1 = 2 → own_d1 t ∈ own_S b0 false b2) hq1 (own_r0d1 b0 b2 _ hS hc0)
          exact own_memD hc1 hc2 po64_0
        · have hq1 : (z051, z151, z251, z351, z451, z551) = own_s1 (own_gy 1 (x0, x1, x2, y0, y1, y2)) (own_pl (own_gx ((own_cnt b0 true b2) - 1) (x0, x1, x2, y0, y1, y2)) (own_gy 1 (x0, x1, x2, y0, y1, y2)) (own_m 1 (x0, x1, x2, y0, y1, y2))) := hq
          have hc1 := own_via (P := fun t => own_s0 (own_gy (own_gx ((own_cnt b0 true b2) - 1) (x0, x1, x2, y0, y1, y2)) t) t ∈ own_S b0 false b2) hq1 (own_r1c1 b0 b2 _ hS hc0 hp)
          have hc2 := own_via (P := fun t => own_gy (own_gx ((own_cnt b0 true b2) - 1) (x0, x1, x2, y0, y1, y2)) t = 0 → (own_cnt b0 true b2) - 1 = 2 → own_d1 t ∈ own_S b0 false b2) hq1 (own_r1d1 b0 b2 _ hS hc0 hp)
          exact own_memD hc1 hc2 po64_0
      exact ⟨z064, z164, z264, z364, z464, z564, rfl, N64, f72, f66, f67, f68, f69, fsz, fo64_0, fo64_1, hM⟩
theorem pn_add2 : plainName "com/example/octopoll/octopoll/PageHeap" = true := by first | (simp [plainName, overriddenIn]; done) | decide +kernel
theorem ef_add2 (m : MethodId) (a0 : Addr) : entryFrame m #[(.ref a0), (.int (2 : Int32))] 2 = mkF m 0 #[.val (.ref a0), .val (.int (2 : Int32))] [] := by first | (simp [entryFrame, mkF, argsToLocals, Value.category]; done) | rfl
def Q_add2 (Z : State) (a0 : Addr) (ka : Addr) (ha : Addr) (pa : Addr) (kk : ClassId) (kh : ClassId) (kp : ClassId) (d0 : UInt64) (d1 : UInt64) (d2 : UInt64) (x0 : Int32) (x1 : Int32) (x2 : Int32) (y0 : Int32) (y1 : Int32) (y2 : Int32) (b0 : Bool) (b1 : Bool) (h0 : Heap) (n0 : Nat) (v : Option Value) (h : Heap) (L : List Loc) : Prop := ∃ (z0 : Int32) (z1 : Int32) (z2 : Int32) (z3 : Int32) (z4 : Int32) (z5 : Int32), v = none ∧ Fr n0 L ∧ Keep h0 h [a0, ha, pa] ∧ Exa Z h a0 "com/example/octopoll/octopoll/PageHeap" ∧ Fld Z h a0 "com/example/octopoll/octopoll/PageHeap" "key" "[D" (.ref ka) ∧ Fld Z h a0 "com/example/octopoll/octopoll/PageHeap" "heap" "[I" (.ref ha) ∧ Fld Z h a0 "com/example/octopoll/octopoll/PageHeap" "position" "[I" (.ref pa) ∧ Fld Z h a0 "com/example/octopoll/octopoll/PageHeap" "size" "I" (.int (own_cnt b0 b1 true)) ∧ Arv Z h ha kh .int (3 : Int32) [(.int z0), (.int z1), (.int z2)] (.int (0 : Int32)) ∧ Arv Z h pa kp .int (3 : Int32) [(.int z3), (.int z4), (.int z5)] (.int (0 : Int32)) ∧ (z0, z1, z2, z3, z4, z5) ∈ own_S b0 b1 true
set_option maxRecDepth 65536 in
set_option maxHeartbeats 40000000 in
theorem rm_add2 (l : Launch) (Z : State) (av0 : Array Value) (hw : ∀ d ∈ tables_1, d.before av0 Z = true) (ws : List Jvm.Cond) (a0 : Addr) (ka : Addr) (ha : Addr) (pa : Addr) (kk : ClassId) (kh : ClassId) (kp : ClassId) (d0 : UInt64) (d1 : UInt64) (d2 : UInt64) (x0 : Int32) (x1 : Int32) (x2 : Int32) (y0 : Int32) (y1 : Int32) (y2 : Int32) (b0 : Bool) (b1 : Bool) (h0 : Heap) (n0 : Nat) (Z0 : n0 ≤ h0.size) (fi0 : Exa Z h0 a0 "com/example/octopoll/octopoll/PageHeap") (fi1 : Fld Z h0 a0 "com/example/octopoll/octopoll/PageHeap" "key" "[D" (.ref ka)) (fi2 : Fld Z h0 a0 "com/example/octopoll/octopoll/PageHeap" "heap" "[I" (.ref ha)) (fi3 : Fld Z h0 a0 "com/example/octopoll/octopoll/PageHeap" "position" "[I" (.ref pa)) (fi4 : Fld Z h0 a0 "com/example/octopoll/octopoll/PageHeap" "size" "I" (.int (own_cnt b0 b1 false))) (fi5 : Arv Z h0 ka kk .double (3 : Int32) [(.double d0), (.double d1), (.double d2)] (.double 0)) (fi6 : Arv Z h0 ha kh .int (3 : Int32) [(.int x0), (.int x1), (.int x2)] (.int (0 : Int32))) (fi7 : Arv Z h0 pa kp .int (3 : Int32) [(.int y0), (.int y1), (.int y2)] (.int (0 : Int32))) (g_a0 : n0 ≤ a0) (g_ha : n0 ≤ ha) (g_pa : n0 ≤ pa) (ne_a0_ha : a0 ≠ ha) (ne_a0_pa : a0 ≠ pa) (ne_ha_pa : ha ≠ pa) (ne_a0_ka : a0 ≠ ka) (ne_ka_ha : ka ≠ ha) (ne_ka_pa : ka ≠ pa) (hS : (x0, x1, x2, y0, y1, y2) ∈ own_S b0 b1 false) :
    MetFree l (⟨"com/example/octopoll/octopoll/PageHeap", "add", "(I)V"⟩ : MethodName) (head1 (Jvm.Cond.code (⟨"com/example/octopoll/octopoll/PageHeap", "add", "(I)V"⟩ : MethodName) prog_17_method_5_code 2 none :: ws) ({ frames := 2, cells := 0, slots := 0, locals := 30 } : Room)) (fun a U => a = #[(.ref a0), (.int (2 : Int32))] ∧ Z.Warmed39 U.vm ∧ U.heap = h0) (fun _ _ _ _ _ => True) (fun _ U o U' => ∃ v L, o = .returned v ∧ Q_add2 Z a0 ka ha pa kk kh kp d0 d1 d2 x0 x1 x2 y0 y1 y2 b0 b1 h0 n0 v U'.heap L ∧ FrameEnd U o U' L ({ frames := 2, cells := 0, slots := 0, locals := 30 } : Room).cells ({ frames := 2, cells := 0, slots := 0, locals := 30 } : Room).slots) := by
  refine MetFree.of_bodySF (plainFor_of_name pn_add2) hisR ?_
  intro p e s m args below meth c s₁ Bd hml0 hP hK
  obtain ⟨rfl, hZ, hh⟩ := hP
  have hx := Bd.exec
  have hby := Bd.bytes
  have hml : c.maxLocals = 2 := hml0
  have hown : s.vm.findClass "com/example/octopoll/octopoll/PageHeap" = some m.cls := findClass_of_methodNamed Bd.named
  have hnm := (name_of_methodNamed Bd.named Bd.method).1
  have X0 : Stand p l e ({ frames := 2, cells := 0, slots := 0, locals := 30 } : Room) s m #[(.ref a0), (.int (2 : Int32))] below meth c s₁ [] 0 0 := Stand.of_body Bd
  have e0 : s₁.heap = h0 := by rw [← hh, Bd.state]; rfl
  have N0 := Fr.nil n0
  have pre0 : Go p.tables e below (s₁.setTop (entryFrame m #[(.ref a0), (.int (2 : Int32))] 2)) s₁ (mkF m 0 #[.val (.ref a0), .val (.int (2 : Int32))] []) := fun t k => castTop (ef_add2 m a0) k
  have K0 : Keep h0 h0 [a0, ha, pa] := Keep.refl _ _
  have hR := own_rng b0 b1 false _ hS
  have pre1 : Go p.tables e below (s₁.setTop (entryFrame m #[(.ref a0), (.int (2 : Int32))] 2)) s₁ (mkF m 4 #[.val (.ref a0), .val (.int (2 : Int32))] [(.ref a0), (.ref a0), (.int (2 : Int32)), (.ref a0)]) := fun t k => pre0 t (by
      refine XS.aloadN X0.here hx rfl (hb hby d4_0) rfl rfl ?_
      show Steps p.tables e below (s₁.setTop (mkF m 1 #[.val (.ref a0), .val (.int (2 : Int32))] [(.ref a0)])) _
      refine XS.iloadN X0.here hx rfl (hb hby d4_1) rfl ?_
      show Steps p.tables e below (s₁.setTop (mkF m 2 #[.val (.ref a0), .val (.int (2 : Int32))] [(.int (2 : Int32)), (.ref a0)])) _
      refine XS.aloadN X0.here hx rfl (hb hby d4_2) rfl rfl ?_
      show Steps p.tables e below (s₁.setTop (mkF m 3 #[.val (.ref a0), .val (.int (2 : Int32))] [(.ref a0), (.int (2 : Int32)), (.ref a0)])) _
      refine XS.dup X0.here hx rfl (hb hby d4_3) rfl rfl ?_
      exact k)
  obtain ⟨T2, X2, e2, st2⟩ := getF X0 hx hZ hown (host := "") (Or.inl (hw _ (List.mem_of_getElem? (i := 28) rfl))) Via.refl e0 fi4 (g := (mkF m 4 #[.val (.ref a0), .val (.int (2 : Int32))] [(.ref a0), (.ref a0), (.int (2 : Int32)), (.ref a0)])) rfl rfl (hb hby d4_4)
  have pre2 : Go p.tables e below (s₁.setTop (entryFrame m #[(.ref a0), (.int (2 : Int32))] 2)) T2 (mkF m 7 #[.val (.ref a0), .val (.int (2 : Int32))] [(.int (own_cnt b0 b1 false)), (.ref a0), (.int (2 : Int32)), (.ref a0)]) := fun t k => pre1 t (st2 _ k)
  have pre3 : Go p.tables e below (s₁.setTop (entryFrame m #[(.ref a0), (.int (2 : Int32))] 2)) T2 (mkF m 10 #[.val (.ref a0), .val (.int (2 : Int32))] [(.int ((own_cnt b0 b1 false) + (1 : Int32))), (.ref a0), (.int (own_cnt b0 b1 false)), (.int (2 : Int32)), (.ref a0)]) := fun t k => pre2 t (by
      refine XS.dupX1 X2.here hx rfl (hb hby d4_7) rfl rfl rfl ?_
      show Steps p.tables e below (T2.setTop (mkF m 8 #[.val (.ref a0), .val (.int (2 : Int32))] [(.int (own_cnt b0 b1 false)), (.ref a0), (.int (own_cnt b0 b1 false)), (.int (2 : Int32)), (.ref a0)])) _
      refine XS.iconst X2.here hx rfl (hb hby d4_8) ?_
      show Steps p.tables e below (T2.setTop (mkF m 9 #[.val (.ref a0), .val (.int (2 : Int32))] [(.int (1 : Int32)), (.int (own_cnt b0 b1 false)), (.ref a0), (.int (own_cnt b0 b1 false)), (.int (2 : Int32)), (.ref a0)])) _
      refine XS.iadd X2.here hx rfl (hb hby d4_9) rfl ?_
      exact k)
  obtain ⟨T4, h4, X4, e4, W4, st4⟩ := putF X2 hx hZ hown (host := "") (Or.inl (hw _ (List.mem_of_getElem? (i := 28) rfl))) Via.refl e2 fi4 fi0 (Or.inl (hw _ (List.mem_of_getElem? (i := 29) rfl))) (hw _ (List.mem_of_getElem? (i := 2) rfl)) (ty := .int) (by decide) rfl rfl (g := (mkF m 10 #[.val (.ref a0), .val (.int (2 : Int32))] [(.int ((own_cnt b0 b1 false) + (1 : Int32))), (.ref a0), (.int (own_cnt b0 b1 false)), (.int (2 : Int32)), (.ref a0)])) rfl rfl (hb hby d4_10)
  have N4 := Fr.snoc X4 N0 g_a0
  have f5 : n0 ≤ h4.size := Nat.le_trans Z0 (Keep.of_wr W4).1
  have f6 : Exa Z h4 a0 "com/example/octopoll/octopoll/PageHeap" := fi0.wr W4
  have f7 : Fld Z h4 a0 "com/example/octopoll/octopoll/PageHeap" "key" "[D" (.ref ka) := fi1.other W4 (Or.inr (slot_ne (Or.inr (hw _ (List.mem_of_getElem? (i := 11) rfl))) (Or.inl (hw _ (List.mem_of_getElem? (i := 29) rfl))) (by decide) (t := (.array .double)) (t' := .int) (by decide) (by decide)))
  have f8 : Fld Z h4 a0 "com/example/octopoll/octopoll/PageHeap" "heap" "[I" (.ref ha) := fi2.other W4 (Or.inr (slot_ne (Or.inr (hw _ (List.mem_of_getElem? (i := 14) rfl))) (Or.inl (hw _ (List.mem_of_getElem? (i := 29) rfl))) (by decide) (t := (.array .int)) (t' := .int) (by decide) (by decide)))
  have f9 : Fld Z h4 a0 "com/example/octopoll/octopoll/PageHeap" "position" "[I" (.ref pa) := fi3.other W4 (Or.inr (slot_ne (Or.inr (hw _ (List.mem_of_getElem? (i := 16) rfl))) (Or.inl (hw _ (List.mem_of_getElem? (i := 29) rfl))) (by decide) (t := (.array .int)) (t' := .int) (by decide) (by decide)))
  have f10 : Fld Z h4 a0 "com/example/octopoll/octopoll/PageHeap" "size" "I" (.int ((own_cnt b0 b1 false) + (1 : Int32))) := fi4.same W4
  have f11 : Arv Z h4 ka kk .double (3 : Int32) [(.double d0), (.double d1), (.double d2)] (.double 0) := fi5.other W4 ne_a0_ka.symm
  have f12 : Arv Z h4 ha kh .int (3 : Int32) [(.int x0), (.int x1), (.int x2)] (.int (0 : Int32)) := fi6.other W4 ne_a0_ha.symm
  have f13 : Arv Z h4 pa kp .int (3 : Int32) [(.int y0), (.int y1), (.int y2)] (.int (0 : Int32)) := fi7.other W4 ne_a0_pa.symm
  have f14 : Keep h0 h4 [a0, ha, pa] := K0.wr W4 (Or.inl (List.mem_of_getElem? (i := 0) rfl))
  have pre4 : Go p.tables e below (s₁.setTop (entryFrame m #[(.ref a0), (.int (2 : Int32))] 2)) T4 (mkF m 13 #[.val (.ref a0), .val (.int (2 : Int32))] [(.int (own_cnt b0 b1 false)), (.int (2 : Int32)), (.ref a0)]) := fun t k => pre3 t (st4 _ k)
  obtain ⟨cq15, q15, q15'⟩ := f6.cell
  obtain ⟨_, _, ⟨T15, L15, k15, n15⟩, -, X15, ⟨Lc15, hQ15, l15, y15, z15⟩, st15⟩ := own_private X4 hx (y := (⟨"com/example/octopoll/octopoll/PageHeap", "place", "(II)V"⟩ : MethodName)) hown (mvT hZ (hw _ (List.mem_of_getElem? (i := 30) rfl))) (mvT hZ (hw _ (List.mem_of_getElem? (i := 31) rfl))) (mvT hZ (hw _ (List.mem_of_getElem? (i := 26) rfl))) rfl (Cond.privateMethod_at (mvP hZ (hw _ (List.mem_of_getElem? (i := 32) rfl)) (args := #[]))) (mvT hZ (hw _ (List.mem_of_getElem? (i := 33) rfl))) (by decide) (backOf (W := 0) (rm_plc l Z av0 hw [] a0 (2 : Int32) (own_cnt b0 b1 false) ha pa kh kp x0 x1 x2 y0 y1 y2 h4 n0 f5 f8 f9 f12 f13 g_ha g_pa ne_a0_ha ne_a0_pa ne_ha_pa (by decide) (own_ac2 b0 b1).1) hZ (hw _ (List.mem_of_getElem? (i := 33) rfl)) (hw _ (List.mem_of_getElem? (i := 3) rfl)) (by decide) (by decide)) (a := a0) (by rw [e4]; exact q15) q15' (g := (mkF m 13 #[.val (.ref a0), .val (.int (2 : Int32))] [(.int (own_cnt b0 b1 false)), (.int (2 : Int32)), (.ref a0)])) rfl (by rw [hml]; rfl) (argsL := [(.int (2 : Int32)), (.int (own_cnt b0 b1 false))]) (rest := []) (lenOf pd_0 rfl) rfl (by show 2 * 0 + _ ≤ _; exact Nat.le_of_eq rfl) (hb hby d4_13) (fun _ _ => ⟨rfl, e4, (by decide : 0 + 0 ≤ _), (by decide : 0 + 0 ≤ _)⟩)
  dsimp only [Pt.U, Pt.locs, Pt.cells, Pt.slots] at X15 l15 y15 z15 st15 hQ15
  subst l15 y15 z15
  obtain ⟨hv15, N15q, K15, fo15_0, fo15_1⟩ := hQ15
  have f16 : n0 ≤ T15.heap.size := Nat.le_trans f5 K15.1
  have f17 : Exa Z T15.heap a0 "com/example/octopoll/octopoll/PageHeap" := f6.keep K15
  have f18 : Fld Z T15.heap a0 "com/example/octopoll/octopoll/PageHeap" "key" "[D" (.ref ka) := f7.keep K15 (ninS ne_a0_ha (ninS ne_a0_pa nin0))
  have f19 : Fld Z T15.heap a0 "com/example/octopoll/octopoll/PageHeap" "heap" "[I" (.ref ha) := f8.keep K15 (ninS ne_a0_ha (ninS ne_a0_pa nin0))
  have f20 : Fld Z T15.heap a0 "com/example/octopoll/octopoll/PageHeap" "position" "[I" (.ref pa) := f9.keep K15 (ninS ne_a0_ha (ninS ne_a0_pa nin0))
  have f21 : Fld Z T15.heap a0 "com/example/octopoll/octopoll/PageHeap" "size" "I" (.int ((own_cnt b0 b1 false) + (1 : Int32))) := f10.keep K15 (ninS ne_a0_ha (ninS ne_a0_pa nin0))
  have f22 : Arv Z T15.heap ka kk .double (3 : Int32) [(.double d0), (.double d1), (.double d2)] (.double 0) := f11.keep K15 (ninS ne_ka_ha (ninS ne_ka_pa nin0))
  have f23 : Keep h0 T15.heap [a0, ha, pa] := f14.trans K15 (allS (Or.inl (List.mem_of_getElem? (i := 1) rfl)) (allS (Or.inl (List.mem_of_getElem? (i := 2) rfl)) all0))
  subst hv15
  have N15 := Fr.app N4 N15q
  have pre15 : Go p.tables e below (s₁.setTop (entryFrame m #[(.ref a0), (.int (2 : Int32))] 2)) T15 (mkF m 16 #[.val (.ref a0), .val (.int (2 : Int32))] []) := fun t k => pre4 t (st15 _ k)
  have pre24 : Go p.tables e below (s₁.setTop (entryFrame m #[(.ref a0), (.int (2 : Int32))] 2)) T15 (mkF m 18 #[.val (.ref a0), .val (.int (2 : Int32))] [(.ref a0), (.ref a0)]) := fun t k => pre15 t (by
      refine XS.aloadN X15.here hx rfl (hb hby d4_16) rfl rfl ?_
      show Steps p.tables e below (T15.setTop (mkF m 17 #[.val (.ref a0), .val (.int (2 : Int32))] [(.ref a0)])) _
      refine XS.aloadN X15.here hx rfl (hb hby d4_17) rfl rfl ?_
      exact k)
  obtain ⟨T25, X25, e25, st25⟩ := getF X15 hx hZ hown (host := "") (Or.inl (hw _ (List.mem_of_getElem? (i := 15) rfl))) Via.refl rfl f20 (g := (mkF m 18 #[.val (.ref a0), .val (.int (2 : Int32))] [(.ref a0), (.ref a0)])) rfl rfl (hb hby d4_18)
  have pre25 : Go p.tables e below (s₁.setTop (entryFrame m #[(.ref a0), (.int (2 : Int32))] 2)) T25 (mkF m 21 #[.val (.ref a0), .val (.int (2 : Int32))] [(.ref pa), (.ref a0)]) := fun t k => pre24 t (st25 _ k)
  have pre26 : Go p.tables e below (s₁.setTop (entryFrame m #[(.ref a0), (.int (2 : Int32))] 2)) T25 (mkF m 22 #[.val (.ref a0), .val (.int (2 : Int32))] [(.int (2 : Int32)), (.ref pa), (.ref a0)]) := fun t k => pre25 t (by
      refine XS.iloadN X25.here hx rfl (hb hby d4_21) rfl ?_
      exact k)
  obtain ⟨c27, Ar27, q27, S27, M27, H27, G27⟩ := (id fo15_1)
  have hin27 : ¬ ((2 : Int32) < 0 ∨ c27.slots.size ≤ ((2 : Int32)).toNatClampNeg) := inb_of S27 ⟨by decide, by decide⟩
  have pre27 : Go p.tables e below (s₁.setTop (entryFrame m #[(.ref a0), (.int (2 : Int32))] 2)) T25 (mkF m 23 #[.val (.ref a0), .val (.int (2 : Int32))] [(.int (own_cnt b0 b1 false)), (.ref a0)]) := fun t k => pre26 t (X25.iaload hx (j := (2 : Int32)) (v := (.int (own_cnt b0 b1 false))) (by rw [e25]; exact Ar27.1) (State.isArrayOf_alike hZ.alike Ar27.2.1) Ar27.2.2 hin27 (H27.at hin27 rfl) (g := (mkF m 22 #[.val (.ref a0), .val (.int (2 : Int32))] [(.int (2 : Int32)), (.ref pa), (.ref a0)])) rfl rfl (hb hby d4_22) _ k)
  obtain ⟨cq28, q28, q28'⟩ := f17.cell
  obtain ⟨_, _, ⟨T28, L28, k28, n28⟩, -, X28, ⟨Lc28, hQ28, l28, y28, z28⟩, st28⟩ := own_private X25 hx (y := (⟨"com/example/octopoll/octopoll/PageHeap", "siftUp", "(I)V"⟩ : MethodName)) hown (mvT hZ (hw _ (List.mem_of_getElem? (i := 34) rfl))) (mvT hZ (hw _ (List.mem_of_getElem? (i := 35) rfl))) (mvT hZ (hw _ (List.mem_of_getElem? (i := 26) rfl))) rfl (Cond.privateMethod_at (mvP hZ (hw _ (List.mem_of_getElem? (i := 36) rfl)) (args := #[]))) (mvT hZ (hw _ (List.mem_of_getElem? (i := 37) rfl))) (by decide) (backOf (W := 0) (rm_su l Z av0 hw [] a0 (own_cnt b0 b1 false) ka ha pa kk kh kp d0 d1 d2 (own_u 0 (own_cnt b0 b1 false) (2 : Int32) x0) (own_u 1 (own_cnt b0 b1 false) (2 : Int32) x1) (own_u 2 (own_cnt b0 b1 false) (2 : Int32) x2) y0 y1 (own_cnt b0 b1 false) T15.heap n0 f16 f17 f18 f19 f20 f22 fo15_0 fo15_1 g_ha g_pa ne_a0_ha ne_a0_pa ne_ha_pa ne_a0_ka ne_ka_ha ne_ka_pa (own_ur (by decide) hR.1) (own_ur (by decide) hR.2.1) (own_ur (by decide) hR.2.2) (own_ac2 b0 b1).1) hZ (hw _ (List.mem_of_getElem? (i := 37) rfl)) (hw _ (List.mem_of_getElem? (i := 3) rfl)) (by decide) (by decide)) (a := a0) (by rw [e25]; exact q28) q28' (g := (mkF m 23 #[.val (.ref a0), .val (.int (2 : Int32))] [(.int (own_cnt b0 b1 false)), (.ref a0)])) rfl (by rw [hml]; rfl) (argsL := [(.int (own_cnt b0 b1 false))]) (rest := []) (lenOf pd_2 rfl) rfl (by show 2 * 0 + _ ≤ _; exact Nat.le_of_eq rfl) (hb hby d4_23) (fun _ _ => ⟨rfl, e25, (by decide : 0 + 0 ≤ _), (by decide : 0 + 0 ≤ _)⟩)
  dsimp only [Pt.U, Pt.locs, Pt.cells, Pt.slots] at X28 l28 y28 z28 st28 hQ28
  subst l28 y28 z28
  obtain ⟨z028, z128, z228, z328, z428, z528, hv28, N28q, K28, fo28_0, fo28_1, po28_0⟩ := hQ28
  have f29 : n0 ≤ T28.heap.size := Nat.le_trans f16 K28.1
  have f30 : Exa Z T28.heap a0 "com/example/octopoll/octopoll/PageHeap" := f17.keep K28
  have f31 : Fld Z T28.heap a0 "com/example/octopoll/octopoll/PageHeap" "key" "[D" (.ref ka) := f18.keep K28 (ninS ne_a0_ha (ninS ne_a0_pa nin0))
  have f32 : Fld Z T28.heap a0 "com/example/octopoll/octopoll/PageHeap" "heap" "[I" (.ref ha) := f19.keep K28 (ninS ne_a0_ha (ninS ne_a0_pa nin0))
  have f33 : Fld Z T28.heap a0 "com/example/octopoll/octopoll/PageHeap" "position" "[I" (.ref pa) := f20.keep K28 (ninS ne_a0_ha (ninS ne_a0_pa nin0))
  have f34 : Fld Z T28.heap a0 "com/example/octopoll/octopoll/PageHeap" "size" "I" (.int ((own_cnt b0 b1 false) + (1 : Int32))) := f21.keep K28 (ninS ne_a0_ha (ninS ne_a0_pa nin0))
  have f35 : Arv Z T28.heap ka kk .double (3 : Int32) [(.double d0), (.double d1), (.double d2)] (.double 0) := f22.keep K28 (ninS ne_ka_ha (ninS ne_ka_pa nin0))
  have f36 : Keep h0 T28.heap [a0, ha, pa] := f23.trans K28 (allS (Or.inl (List.mem_of_getElem? (i := 1) rfl)) (allS (Or.inl (List.mem_of_getElem? (i := 2) rfl)) all0))
  subst hv28
  have N28 := Fr.app N15 N28q
  have pre28 : Go p.tables e below (s₁.setTop (entryFrame m #[(.ref a0), (.int (2 : Int32))] 2)) T28 (mkF m 26 #[.val (.ref a0), .val (.int (2 : Int32))] []) := fun t k => pre27 t (st28 _ k)
  obtain ⟨fs, hr, hrun, hended, hW, hsame⟩ := X28.leave (v := none) (fun _ => rfl) (BodyLoose.notSynchronized Bd)
  refine ⟨_, _, pre28 _ ?_, hrun, hended, _, _, rfl, ?_, ⟨_, rfl⟩, hW, hsame.mono (Nat.le_of_ble_eq_true rfl) (Nat.le_of_ble_eq_true rfl)⟩
  · exact X28.returnOut hx Bd.returns (hb hby d4_26) hr
  · show Q_add2 Z a0 ka ha pa kk kh kp d0 d1 d2 x0 x1 x2 y0 y1 y2 b0 b1 h0 n0 _ T28.heap _
    have fsz := f34
    rw [(own_ac2 b0 b1).2] at fsz
    exact ⟨z028, z128, z228, z328, z428, z528, rfl, N28, f36, f30, f31, f32, f33, fsz, fo28_0, fo28_1, (own_memU (own_a2 b0 b1 _ hS) po28_0)⟩
theorem pn_rem2 : plainName "com/example/octopoll/octopoll/PageHeap" = true := by first | (simp [plainName, overriddenIn]; done) | decide +kernel
theorem ef_rem2 (m : MethodId) (a0 : Addr) : entryFrame m #[(.ref a0), (.int (2 : Int32))] 4 = mkF m 0 #[.val (.ref a0), .val (.int (2 : Int32)), .unset, .unset] [] := by first | (simp [entryFrame, mkF, argsToLocals, Value.category]; done) | rfl
def Q_rem2 (Z : State) (a0 : Addr) (ka : Addr) (ha : Addr) (pa : Addr) (kk : ClassId) (kh : ClassId) (kp : ClassId) (d0 : UInt64) (d1 : UInt64) (d2 : UInt64) (x0 : Int32) (x1 : Int32) (x2 : Int32) (y0 : Int32) (y1 : Int32) (y2 : Int32) (b0 : Bool) (b1 : Bool) (h0 : Heap) (n0 : Nat) (v : Option Value) (h : Heap) (L : List Loc) : Prop := ∃ (z0 : Int32) (z1 : Int32) (z2 : Int32) (z3 : Int32) (z4 : Int32) (z5 : Int32), v = none ∧ Fr n0 L ∧ Keep h0 h [a0, ha, pa] ∧ Exa Z h a0 "com/example/octopoll/octopoll/PageHeap" ∧ Fld Z h a0 "com/example/octopoll/octopoll/PageHeap" "key" "[D" (.ref ka) ∧ Fld Z h a0 "com/example/octopoll/octopoll/PageHeap" "heap" "[I" (.ref ha) ∧ Fld Z h a0 "com/example/octopoll/octopoll/PageHeap" "position" "[I" (.ref pa) ∧ Fld Z h a0 "com/example/octopoll/octopoll/PageHeap" "size" "I" (.int (own_cnt b0 b1 false)) ∧ Arv Z h ha kh .int (3 : Int32) [(.int z0), (.int z1), (.int z2)] (.int (0 : Int32)) ∧ Arv Z h pa kp .int (3 : Int32) [(.int z3), (.int z4), (.int z5)] (.int (0 : Int32)) ∧ (z0, z1, z2, z3, z4, z5) ∈ own_S b0 b1 false
set_option maxRecDepth 65536 in
set_option maxHeartbeats 40000000 in
theorem rm_rem2 (l : Launch) (Z : State) (av0 : Array Value) (hw : ∀ d ∈ tables_1, d.before av0 Z = true) (ws : List Jvm.Cond) (a0 : Addr) (ka : Addr) (ha : Addr) (pa : Addr) (kk : ClassId) (kh : ClassId) (kp : ClassId) (d0 : UInt64) (d1 : UInt64) (d2 : UInt64) (x0 : Int32) (x1 : Int32) (x2 : Int32) (y0 : Int32) (y1 : Int32) (y2 : Int32) (b0 : Bool) (b1 : Bool) (h0 : Heap) (n0 : Nat) (Z0 : n0 ≤ h0.size) (fi0 : Exa Z h0 a0 "com/example/octopoll/octopoll/PageHeap") (fi1 : Fld Z h0 a0 "com/example/octopoll/octopoll/PageHeap" "key" "[D" (.ref ka)) (fi2 : Fld Z h0 a0 "com/example/octopoll/octopoll/PageHeap" "heap" "[I" (.ref ha)) (fi3 : Fld Z h0 a0 "com/example/octopoll/octopoll/PageHeap" "position" "[I" (.ref pa)) (fi4 : Fld Z h0 a0 "com/example/octopoll/octopoll/PageHeap" "size" "I" (.int (own_cnt b0 b1 true))) (fi5 : Arv Z h0 ka kk .double (3 : Int32) [(.double d0), (.double d1), (.double d2)] (.double 0)) (fi6 : Arv Z h0 ha kh .int (3 : Int32) [(.int x0), (.int x1), (.int x2)] (.int (0 : Int32))) (fi7 : Arv Z h0 pa kp .int (3 : Int32) [(.int y0), (.int y1), (.int y2)] (.int (0 : Int32))) (g_a0 : n0 ≤ a0) (g_ha : n0 ≤ ha) (g_pa : n0 ≤ pa) (ne_a0_ha : a0 ≠ ha) (ne_a0_pa : a0 ≠ pa) (ne_ha_pa : ha ≠ pa) (ne_a0_ka : a0 ≠ ka) (ne_ka_ha : ka ≠ ha) (ne_ka_pa : ka ≠ pa) (hS : (x0, x1, x2, y0, y1, y2) ∈ own_S b0 b1 true) :
    MetFree l (⟨"com/example/octopoll/octopoll/PageHeap", "remove", "(I)V"⟩ : MethodName) (head1 (Jvm.Cond.code (⟨"com/example/octopoll/octopoll/PageHeap", "remove", "(I)V"⟩ : MethodName) prog_17_method_7_code 4 none :: ws) ({ frames := 2, cells := 0, slots := 0, locals := 31 } : Room)) (fun a U => a = #[(.ref a0), (.int (2 : Int32))] ∧ Z.Warmed39 U.vm ∧ U.heap = h0) (fun _ _ _ _ _ => True) (fun _ U o U' => ∃ v L, o = .returned v ∧ Q_rem2 Z a0 ka ha pa kk kh kp d0 d1 d2 x0 x1 x2 y0 y1 y2 b0 b1 h0 n0 v U'.heap L ∧ FrameEnd U o U' L ({ frames := 2, cells := 0, slots := 0, locals := 31 } : Room).cells ({ frames := 2, cells := 0, slots := 0, locals := 31 } : Room).slots) := by
  refine MetFree.of_bodySF (plainFor_of_name pn_rem2) hisR ?_
  intro p e s m args below meth c s₁ Bd hml0 hP hK
  obtain ⟨rfl, hZ, hh⟩ := hP
  have hx := Bd.exec
  have hby := Bd.bytes
  have hml : c.maxLocals = 4 := hml0
  have hown : s.vm.findClass "com/example/octopoll/octopoll/PageHeap" = some m.cls := findClass_of_methodNamed Bd.named
  have hnm := (name_of_methodNamed Bd.named Bd.method).1
  have X0 : Stand p l e ({ frames := 2, cells := 0, slots := 0, locals := 31 } : Room) s m #[(.ref a0), (.int (2 : Int32))] below meth c s₁ [] 0 0 := Stand.of_body Bd
  have e0 : s₁.heap = h0 := by rw [← hh, Bd.state]; rfl
  have N0 := Fr.nil n0
  have pre0 : Go p.tables e below (s₁.setTop (entryFrame m #[(.ref a0), (.int (2 : Int32))] 4)) s₁ (mkF m 0 #[.val (.ref a0), .val (.int (2 : Int32)), .unset, .unset] []) := fun t k => castTop (ef_rem2 m a0) k
  have K0 : Keep h0 h0 [a0, ha, pa] := Keep.refl _ _
  have hR := own_rng b0 b1 true _ hS
  have pre1 : Go p.tables e below (s₁.setTop (entryFrame m #[(.ref a0), (.int (2 : Int32))] 4)) s₁ (mkF m 1 #[.val (.ref a0), .val (.int (2 : Int32)), .unset, .unset] [(.ref a0)]) := fun t k => pre0 t (by
      refine XS.aloadN X0.here hx rfl (hb hby d9_0) rfl rfl ?_
      exact k)
  obtain ⟨T2, X2, e2, st2⟩ := getF X0 hx hZ hown (host := "") (Or.inl (hw _ (List.mem_of_getElem? (i := 15) rfl))) Via.refl e0 fi3 (g := (mkF m 1 #[.val (.ref a0), .val (.int (2 : Int32)), .unset, .unset] [(.ref a0)])) rfl rfl (hb hby d9_1)
  have pre2 : Go p.tables e below (s₁.setTop (entryFrame m #[(.ref a0), (.int (2 : Int32))] 4)) T2 (mkF m 4 #[.val (.ref a0), .val (.int (2 : Int32)), .unset, .unset] [(.ref pa)]) := fun t k => pre1 t (st2 _ k)
  have pre3 : Go p.tables e below (s₁.setTop (entryFrame m #[(.ref a0), (.int (2 : Int32))] 4)) T2 (mkF m 5 #[.val (.ref a0), .val (.int (2 : Int32)), .unset, .unset] [(.int (2 : Int32)), (.ref pa)]) := fun t k => pre2 t (by
      refine XS.iloadN X2.here hx rfl (hb hby d9_4) rfl ?_
      exact k)
  obtain ⟨c4, Ar4, q4, S4, M4, H4, G4⟩ := (id fi7)
  have hin4 : ¬ ((2 : Int32) < 0 ∨ c4.slots.size ≤ ((2 : Int32)).toNatClampNeg) := inb_of S4 ⟨by decide, by decide⟩
  have pre4 : Go p.tables e below (s₁.setTop (entryFrame m #[(.ref a0), (.int (2 : Int32))] 4)) T2 (mkF m 6 #[.val (.ref a0), .val (.int (2 : Int32)), .unset, .unset] [(.int y2)]) := fun t k => pre3 t (X2.iaload hx (j := (2 : Int32)) (v := (.int y2)) (by rw [e2]; exact Ar4.1) (State.isArrayOf_alike hZ.alike Ar4.2.1) Ar4.2.2 hin4 (H4.at hin4 rfl) (g := (mkF m 5 #[.val (.ref a0), .val (.int (2 : Int32)), .unset, .unset] [(.int (2 : Int32)), (.ref pa)])) rfl rfl (hb hby d9_5) _ k)
  have pre5 : Go p.tables e below (s₁.setTop (entryFrame m #[(.ref a0), (.int (2 : Int32))] 4)) T2 (mkF m 8 #[.val (.ref a0), .val (.int (2 : Int32)), .val (.int y2), .unset] [(.ref a0)]) := fun t k => pre4 t (by
      refine XS.istoreN X2.here hx rfl (hb hby d9_6) rfl (l' := #[.val (.ref a0), .val (.int (2 : Int32)), .val (.int y2), .unset]) rfl ?_
      show Steps p.tables e below (T2.setTop (mkF m 7 #[.val (.ref a0), .val (.int (2 : Int32)), .val (.int y2), .unset] [])) _
      refine XS.aloadN X2.here hx rfl (hb hby d9_7) rfl rfl ?_
      exact k)
  obtain ⟨T6, X6, e6, st6⟩ := getF X2 hx hZ hown (host := "") (Or.inl (hw _ (List.mem_of_getElem? (i := 13) rfl))) Via.refl e2 fi2 (g := (mkF m 8 #[.val (.ref a0), .val (.int (2 : Int32)), .val (.int y2), .unset] [(.ref a0)])) rfl rfl (hb hby d9_8)
  have pre6 : Go p.tables e below (s₁.setTop (entryFrame m #[(.ref a0), (.int (2 : Int32))] 4)) T6 (mkF m 11 #[.val (.ref a0), .val (.int (2 : Int32)), .val (.int y2), .unset] [(.ref ha)]) := fun t k => pre5 t (st6 _ k)
  have pre7 : Go p.tables e below (s₁.setTop (entryFrame m #[(.ref a0), (.int (2 : Int32))] 4)) T6 (mkF m 13 #[.val (.ref a0), .val (.int (2 : Int32)), .val (.int y2), .unset] [(.ref a0), (.ref a0), (.ref ha)]) := fun t k => pre6 t (by
      refine XS.aloadN X6.here hx rfl (hb hby d9_11) rfl rfl ?_
      show Steps p.tables e below (T6.setTop (mkF m 12 #[.val (.ref a0), .val (.int (2 : Int32)), .val (.int y2), .unset] [(.ref a0), (.ref ha)])) _
      refine XS.dup X6.here hx rfl (hb hby d9_12) rfl rfl ?_
      exact k)
  obtain ⟨T8, X8, e8, st8⟩ := getF X6 hx hZ hown (host := "") (Or.inl (hw _ (List.mem_of_getElem? (i := 28) rfl))) Via.refl e6 fi4 (g := (mkF m 13 #[.val (.ref a0), .val (.int (2 : Int32)), .val (.int y2), .unset] [(.ref a0), (.ref a0), (.ref ha)])) rfl rfl (hb hby d9_13)
  have pre8 : Go p.tables e below (s₁.setTop (entryFrame m #[(.ref a0), (.int (2 : Int32))] 4)) T8 (mkF m 16 #[.val (.ref a0), .val (.int (2 : Int32)), .val (.int y2), .unset] [(.int (own_cnt b0 b1 true)), (.ref a0), (.ref ha)]) := fun t k => pre7 t (st8 _ k)
  have pre9 : Go p.tables e below (s₁.setTop (entryFrame m #[(.ref a0), (.int (2 : Int32))] 4)) T8 (mkF m 19 #[.val (.ref a0), .val (.int (2 : Int32)), .val (.int y2), .unset] [(.int ((own_cnt b0 b1 true) - (1 : Int32))), (.ref a0), (.int ((own_cnt b0 b1 true) - (1 : Int32))), (.ref ha)]) := fun t k => pre8 t (by
      refine XS.iconst X8.here hx rfl (hb hby d9_16) ?_
      show Steps p.tables e below (T8.setTop (mkF m 17 #[.val (.ref a0), .val (.int (2 : Int32)), .val (.int y2), .unset] [(.int (1 : Int32)), (.int (own_cnt b0 b1 true)), (.ref a0), (.ref ha)])) _
      refine XS.isub X8.here hx rfl (hb hby d9_17) rfl ?_
      show Steps p.tables e below (T8.setTop (mkF m 18 #[.val (.ref a0), .val (.int (2 : Int32)), .val (.int y2), .unset] [(.int ((own_cnt b0 b1 true) - (1 : Int32))), (.ref a0), (.ref ha)])) _
      refine XS.dupX1 X8.here hx rfl (hb hby d9_18) rfl rfl rfl ?_
      exact k)
  obtain ⟨T10, h10, X10, e10, W10, st10⟩ := putF X8 hx hZ hown (host := "") (Or.inl (hw _ (List.mem_of_getElem? (i := 28) rfl))) Via.refl e8 fi4 fi0 (Or.inl (hw _ (List.mem_of_getElem? (i := 29) rfl))) (hw _ (List.mem_of_getElem? (i := 2) rfl)) (ty := .int) (by decide) rfl rfl (g := (mkF m 19 #[.val (.ref a0), .val (.int (2 : Int32)), .val (.int y2), .unset] [(.int ((own_cnt b0 b1 true) - (1 : Int32))), (.ref a0), (.int ((own_cnt b0 b1 true) - (1 : Int32))), (.ref ha)])) rfl rfl (hb hby d9_19)
  have N10 := Fr.snoc X10 N0 g_a0
  have f11 : n0 ≤ h10.size := Nat.le_trans Z0 (Keep.of_wr W10).1
  have f12 : Exa Z h10 a0 "com/example/octopoll/octopoll/PageHeap" := fi0.wr W10
  have f13 : Fld Z h10 a0 "com/example/octopoll/octopoll/PageHeap" "key" "[D" (.ref ka) := fi1.other W10 (Or.inr (slot_ne (Or.inr (hw _ (List.mem_of_getElem? (i := 11) rfl))) (Or.inl (hw _ (List.mem_of_getElem? (i := 29) rfl))) (by decide) (t := (.array .double)) (t' := .int) (by decide) (by decide)))
  have f14 : Fld Z h10 a0 "com/example/octopoll/octopoll/PageHeap" "heap" "[I" (.ref ha) := fi2.other W10 (Or.inr (slot_ne (Or.inr (hw _ (List.mem_of_getElem? (i := 14) rfl))) (Or.inl (hw _ (List.mem_of_getElem? (i := 29) rfl))) (by decide) (t := (.array .int)) (t' := .int) (by decide) (by decide)))
  have f15 : Fld Z h10 a0 "com/example/octopoll/octopoll/PageHeap" "position" "[I" (.ref pa) := fi3.other W10 (Or.inr (slot_ne (Or.inr (hw _ (List.mem_of_getElem? (i := 16) rfl))) (Or.inl (hw _ (List.mem_of_getElem? (i := 29) rfl))) (by decide) (t := (.array .int)) (t' := .int) (by decide) (by decide)))
  have f16 : Fld Z h10 a0 "com/example/octopoll/octopoll/PageHeap" "size" "I" (.int ((own_cnt b0 b1 true) - (1 : Int32))) := fi4.same W10
  have f17 : Arv Z h10 ka kk .double (3 : Int32) [(.double d0), (.double d1), (.double d2)] (.double 0) := fi5.other W10 ne_a0_ka.symm
  have f18 : Arv Z h10 ha kh .int (3 : Int32) [(.int x0), (.int x1), (.int x2)] (.int (0 : Int32)) := fi6.other W10 ne_a0_ha.symm
  have f19 : Arv Z h10 pa kp .int (3 : Int32) [(.int y0), (.int y1), (.int y2)] (.int (0 : Int32)) := fi7.other W10 ne_a0_pa.symm
  have f20 : Keep h0 h10 [a0, ha, pa] := K0.wr W10 (Or.inl (List.mem_of_getElem? (i := 0) rfl))
  have pre10 : Go p.tables e below (s₁.setTop (entryFrame m #[(.ref a0), (.int (2 : Int32))] 4)) T10 (mkF m 22 #[.val (.ref a0), .val (.int (2 : Int32)), .val (.int y2), .unset] [(.int ((own_cnt b0 b1 true) - (1 : Int32))), (.ref ha)]) := fun t k => pre9 t (st10 _ k)
  obtain ⟨c21, Ar21, q21, S21, M21, H21, G21⟩ := (id f18)
  have hin21 : ¬ (((own_cnt b0 b1 true) - (1 : Int32)) < 0 ∨ c21.slots.size ≤ (((own_cnt b0 b1 true) - (1 : Int32))).toNatClampNeg) := inb_of S21 (own_rc2 b0 b1).1
  have pre21 : Go p.tables e below (s₁.setTop (entryFrame m #[(.ref a0), (.int (2 : Int32))] 4)) T10 (mkF m 23 #[.val (.ref a0), .val (.int (2 : Int32)), .val (.int y2), .unset] [(.int (own_g ((own_cnt b0 b1 true) - (1 : Int32)) x0 x1 x2))]) := fun t k => pre10 t (X10.iaload hx (j := ((own_cnt b0 b1 true) - (1 : Int32))) (v := (.int (own_g ((own_cnt b0 b1 true) - (1 : Int32)) x0 x1 x2))) (by rw [e10]; exact Ar21.1) (State.isArrayOf_alike hZ.alike Ar21.2.1) Ar21.2.2 hin21 (H21.at hin21 (own_get (own_rc2 b0 b1).1)) (g := (mkF m 22 #[.val (.ref a0), .val (.int (2 : Int32)), .val (.int y2), .unset] [(.int ((own_cnt b0 b1 true) - (1 : Int32))), (.ref ha)])) rfl rfl (hb hby d9_22) _ k)
  obtain ⟨w22, hw22⟩ : ∃ z : Int32, z = (own_g ((own_cnt b0 b1 true) - (1 : Int32)) x0 x1 x2) := ⟨_, rfl⟩
  have pre23 : Go p.tables e below (s₁.setTop (entryFrame m #[(.ref a0), (.int (2 : Int32))] 4)) T10 (mkF m 25 #[.val (.ref a0), .val (.int (2 : Int32)), .val (.int y2), .val (.int w22)] [(.ref a0)]) := fun t k => pre21 t (by
      refine XS.istoreN X10.here hx rfl (x := w22) (rest := []) (hb hby d9_23) (by subst hw22; rfl) (l' := #[.val (.ref a0), .val (.int (2 : Int32)), .val (.int y2), .val (.int w22)]) rfl ?_
      show Steps p.tables e below (T10.setTop (mkF m 24 #[.val (.ref a0), .val (.int (2 : Int32)), .val (.int y2), .val (.int w22)] [])) _
      refine XS.aloadN X10.here hx rfl (hb hby d9_24) rfl rfl ?_
      exact k)
  obtain ⟨T24, X24, e24, st24⟩ := getF X10 hx hZ hown (host := "") (Or.inl (hw _ (List.mem_of_getElem? (i := 15) rfl))) Via.refl e10 f15 (g := (mkF m 25 #[.val (.ref a0), .val (.int (2 : Int32)), .val (.int y2), .val (.int w22)] [(.ref a0)])) rfl rfl (hb hby d9_25)
  have pre24 : Go p.tables e below (s₁.setTop (entryFrame m #[(.ref a0), (.int (2 : Int32))] 4)) T24 (mkF m 28 #[.val (.ref a0), .val (.int (2 : Int32)), .val (.int y2), .val (.int w22)] [(.ref pa)]) := fun t k => pre23 t (st24 _ k)
  have pre25 : Go p.tables e below (s₁.setTop (entryFrame m #[(.ref a0), (.int (2 : Int32))] 4)) T24 (mkF m 30 #[.val (.ref a0), .val (.int (2 : Int32)), .val (.int y2), .val (.int w22)] [(.int (-1 : Int32)), (.int (2 : Int32)), (.ref pa)]) := fun t k => pre24 t (by
      refine XS.iloadN X24.here hx rfl (hb hby d9_28) rfl ?_
      show Steps p.tables e below (T24.setTop (mkF m 29 #[.val (.ref a0), .val (.int (2 : Int32)), .val (.int y2), .val (.int w22)] [(.int (2 : Int32)), (.ref pa)])) _
      refine XS.iconst X24.here hx rfl (hb hby d9_29) ?_
      exact k)
  obtain ⟨c26, Ar26, q26, S26, M26, H26, G26⟩ := (id f19)
  have hin26 : ¬ ((2 : Int32) < 0 ∨ c26.slots.size ≤ ((2 : Int32)).toNatClampNeg) := inb_of S26 ⟨by decide, by decide⟩
  obtain ⟨T26, h26, X26, e26, W26, st26⟩ := stI X24 hx hZ e24 Ar26 (j := (2 : Int32)) hin26 (g := (mkF m 30 #[.val (.ref a0), .val (.int (2 : Int32)), .val (.int y2), .val (.int w22)] [(.int (-1 : Int32)), (.int (2 : Int32)), (.ref pa)])) rfl rfl (hb hby d9_30)
  have fa26 : Arv Z h26 pa kp .int (3 : Int32) [(.int y0), (.int y1), (.int (-1 : Int32))] (.int (0 : Int32)) := Arv.set Ar26 q26 S26 M26 H26 G26 rfl W26 2 rfl (Nat.le_of_ble_eq_true rfl)
  have N26 := Fr.snoc X26 N10 g_pa
  have f27 : n0 ≤ h26.size := Nat.le_trans f11 (Keep.of_wr W26).1
  have f28 : Exa Z h26 a0 "com/example/octopoll/octopoll/PageHeap" := f12.wr W26
  have f29 : Fld Z h26 a0 "com/example/octopoll/octopoll/PageHeap" "key" "[D" (.ref ka) := f13.other W26 (Or.inl ne_a0_pa)
  have f30 : Fld Z h26 a0 "com/example/octopoll/octopoll/PageHeap" "heap" "[I" (.ref ha) := f14.other W26 (Or.inl ne_a0_pa)
  have f31 : Fld Z h26 a0 "com/example/octopoll/octopoll/PageHeap" "position" "[I" (.ref pa) := f15.other W26 (Or.inl ne_a0_pa)
  have f32 : Fld Z h26 a0 "com/example/octopoll/octopoll/PageHeap" "size" "I" (.int ((own_cnt b0 b1 true) - (1 : Int32))) := f16.other W26 (Or.inl ne_a0_pa)
  have f33 : Arv Z h26 ka kk .double (3 : Int32) [(.double d0), (.double d1), (.double d2)] (.double 0) := f17.other W26 ne_ka_pa
  have f34 : Arv Z h26 ha kh .int (3 : Int32) [(.int x0), (.int x1), (.int x2)] (.int (0 : Int32)) := f18.other W26 ne_ha_pa
  have f35 : Keep h0 h26 [a0, ha, pa] := f20.wr W26 (Or.inl (List.mem_of_getElem? (i := 2) rfl))
  have pre26 : Go p.tables e below (s₁.setTop (entryFrame m #[(.ref a0), (.int (2 : Int32))] 4)) T26 (mkF m 31 #[.val (.ref a0), .val (.int (2 : Int32)), .val (.int y2), .val (.int w22)] []) := fun t k => pre25 t (st26 _ k)
  have pre36 : Go p.tables e below (s₁.setTop (entryFrame m #[(.ref a0), (.int (2 : Int32))] 4)) T26 (mkF m 33 #[.val (.ref a0), .val (.int (2 : Int32)), .val (.int y2), .val (.int w22)] [(.int (2 : Int32)), (.int w22)]) := fun t k => pre26 t (by
      refine XS.iloadN X26.here hx rfl (hb hby d9_31) rfl ?_
      show Steps p.tables e below (T26.setTop (mkF m 32 #[.val (.ref a0), .val (.int (2 : Int32)), .val (.int y2), .val (.int w22)] [(.int w22)])) _
      refine XS.iloadN X26.here hx rfl (hb hby d9_32) rfl ?_
      exact k)
  by_cases hc37 : w22 = (2 : Int32)
  · -- hc37: True
    have pre38 : Go p.tables e below (s₁.setTop (entryFrame m #[(.ref a0), (.int (2 : Int32))] 4)) T26 (mkF m 57 #[.val (.ref a0), .val (.int (2 : Int32)), .val (.int y2), .val (.int w22)] []) := fun t k => pre36 t (by
        refine XS.icmpYes X26.here hx rfl (pc0 := 33) (pc' := 57) rfl (hb hby d9_33) rfl (teq hc37).1 (by decide) (by decide) ?_
        exact k)
    obtain ⟨fs, hr, hrun, hended, hW, hsame⟩ := X26.leave (v := none) (fun _ => rfl) (BodyLoose.notSynchronized Bd)
    refine ⟨_, _, pre38 _ ?_, hrun, hended, _, _, rfl, ?_, ⟨_, rfl⟩, hW, hsame.mono (Nat.le_of_ble_eq_true rfl) (Nat.le_of_ble_eq_true rfl)⟩
    · exact X26.returnOut hx Bd.returns (hb hby d9_57) hr
    · show Q_rem2 Z a0 ka ha pa kk kh kp d0 d1 d2 x0 x1 x2 y0 y1 y2 b0 b1 h0 n0 _ T26.heap _
      rw [e26]
      have fsz := f32
      rw [(own_rc2 b0 b1).2] at fsz
      have hM : (x0, x1, x2, y0, y1, (-1 : Int32)) ∈ own_S b0 b1 false := own_re2 b0 b1 _ hS (hw22.symm.trans hc37)
      exact ⟨x0, x1, x2, y0, y1, (-1 : Int32), rfl, N26, f35, f28, f29, f30, f31, fsz, f34, fa26, hM⟩
  · -- hc37: False
    have pre39 : Go p.tables e below (s₁.setTop (entryFrame m #[(.ref a0), (.int (2 : Int32))] 4)) T26 (mkF m 36 #[.val (.ref a0), .val (.int (2 : Int32)), .val (.int y2), .val (.int w22)] []) := fun t k => pre36 t (by
        refine XS.icmpNo X26.here hx rfl (hb hby d9_33) rfl (feq hc37).1 ?_
        exact k)
    have hbw : own_bd w22 := by rw [hw22]; exact own_gr hR.1 hR.2.1 hR.2.2
    have hne := fun q => hc37 (hw22.trans q)
    have pre40 : Go p.tables e below (s₁.setTop (entryFrame m #[(.ref a0), (.int (2 : Int32))] 4)) T26 (mkF m 39 #[.val (.ref a0), .val (.int (2 : Int32)), .val (.int y2), .val (.int w22)] [(.int y2), (.int w22), (.ref a0)]) := fun t k => pre39 t (by
        refine XS.aloadN X26.here hx rfl (hb hby d9_36) rfl rfl ?_
        show Steps p.tables e below (T26.setTop (mkF m 37 #[.val (.ref a0), .val (.int (2 : Int32)), .val (.int y2), .val (.int w22)] [(.ref a0)])) _
        refine XS.iloadN X26.here hx rfl (hb hby d9_37) rfl ?_
        show Steps p.tables e below (T26.setTop (mkF m 38 #[.val (.ref a0), .val (.int (2 : Int32)), .val (.int y2), .val (.int w22)] [(.int w22), (.ref a0)])) _
        refine XS.iloadN X26.here hx rfl (hb hby d9_38) rfl ?_
        exact k)
    obtain ⟨cq41, q41, q41'⟩ := f28.cell
    obtain ⟨_, _, ⟨T41, L41, k41, n41⟩, -, X41, ⟨Lc41, hQ41, l41, y41, z41⟩, st41⟩ := own_private X26 hx (y := (⟨"com/example/octopoll/octopoll/PageHeap", "place", "(II)V"⟩ : MethodName)) hown (mvT hZ (hw _ (List.mem_of_getElem? (i := 30) rfl))) (mvT hZ (hw _ (List.mem_of_getElem? (i := 31) rfl))) (mvT hZ (hw _ (List.mem_of_getElem? (i := 26) rfl))) rfl (Cond.privateMethod_at (mvP hZ (hw _ (List.mem_of_getElem? (i := 32) rfl)) (args := #[]))) (mvT hZ (hw _ (List.mem_of_getElem? (i := 33) rfl))) (by decide) (backOf (W := 0) (rm_plc l Z av0 hw [] a0 w22 y2 ha pa kh kp x0 x1 x2 y0 y1 (-1 : Int32) h26 n0 f27 f30 f31 f34 fa26 g_ha g_pa ne_a0_ha ne_a0_pa ne_ha_pa hbw (own_ry2 b0 b1 _ hS)) hZ (hw _ (List.mem_of_getElem? (i := 33) rfl)) (hw _ (List.mem_of_getElem? (i := 3) rfl)) (by decide) (by decide)) (a := a0) (by rw [e26]; exact q41) q41' (g := (mkF m 39 #[.val (.ref a0), .val (.int (2 : Int32)), .val (.int y2), .val (.int w22)] [(.int y2), (.int w22), (.ref a0)])) rfl (by rw [hml]; rfl) (argsL := [(.int w22), (.int y2)]) (rest := []) (lenOf pd_0 rfl) rfl (by show 2 * 0 + _ ≤ _; exact Nat.le_of_eq rfl) (hb hby d9_39) (fun _ _ => ⟨rfl, e26, (by decide : 0 + 0 ≤ _), (by decide : 0 + 0 ≤ _)⟩)
    dsimp only [Pt.U, Pt.locs, Pt.cells, Pt.slots] at X41 l41 y41 z41 st41 hQ41
    subst l41 y41 z41
    obtain ⟨hv41, N41q, K41, fo41_0, fo41_1⟩ := hQ41
    have f42 : n0 ≤ T41.heap.size := Nat.le_trans f27 K41.1
    have f43 : Exa Z T41.heap a0 "com/example/octopoll/octopoll/PageHeap" := f28.keep K41
    have f44 : Fld Z T41.heap a0 "com/example/octopoll/octopoll/PageHeap" "key" "[D" (.ref ka) := f29.keep K41 (ninS ne_a0_ha (ninS ne_a0_pa nin0))
    have f45 : Fld Z T41.heap a0 "com/example/octopoll/octopoll/PageHeap" "heap" "[I" (.ref ha) := f30.keep K41 (ninS ne_a0_ha (ninS ne_a0_pa nin0))
    have f46 : Fld Z T41.heap a0 "com/example/octopoll/octopoll/PageHeap" "position" "[I" (.ref pa) := f31.keep K41 (ninS ne_a0_ha (ninS ne_a0_pa nin0))
    have f47 : Fld Z T41.heap a0 "com/example/octopoll/octopoll/PageHeap" "size" "I" (.int ((own_cnt b0 b1 true) - (1 : Int32))) := f32.keep K41 (ninS ne_a0_ha (ninS ne_a0_pa nin0))
    have f48 : Arv Z T41.heap ka kk .double (3 : Int32) [(.double d0), (.double d1), (.double d2)] (.double 0) := f33.keep K41 (ninS ne_ka_ha (ninS ne_ka_pa nin0))
    have f49 : Keep h0 T41.heap [a0, ha, pa] := f35.trans K41 (allS (Or.inl (List.mem_of_getElem? (i := 1) rfl)) (allS (Or.inl (List.mem_of_getElem? (i := 2) rfl)) all0))
    subst hv41
    have N41 := Fr.app N26 N41q
    have pre41 : Go p.tables e below (s₁.setTop (entryFrame m #[(.ref a0), (.int (2 : Int32))] 4)) T41 (mkF m 42 #[.val (.ref a0), .val (.int (2 : Int32)), .val (.int y2), .val (.int w22)] []) := fun t k => pre40 t (st41 _ k)
    have pre50 : Go p.tables e below (s₁.setTop (entryFrame m #[(.ref a0), (.int (2 : Int32))] 4)) T41 (mkF m 44 #[.val (.ref a0), .val (.int (2 : Int32)), .val (.int y2), .val (.int w22)] [(.int y2), (.ref a0)]) := fun t k => pre41 t (by
        refine XS.aloadN X41.here hx rfl (hb hby d9_42) rfl rfl ?_
        show Steps p.tables e below (T41.setTop (mkF m 43 #[.val (.ref a0), .val (.int (2 : Int32)), .val (.int y2), .val (.int w22)] [(.ref a0)])) _
        refine XS.iloadN X41.here hx rfl (hb hby d9_43) rfl ?_
        exact k)
    obtain ⟨cq51, q51, q51'⟩ := f43.cell
    obtain ⟨_, _, ⟨T51, L51, k51, n51⟩, -, X51, ⟨Lc51, hQ51, l51, y51, z51⟩, st51⟩ := own_private X41 hx (y := (⟨"com/example/octopoll/octopoll/PageHeap", "siftUp", "(I)V"⟩ : MethodName)) hown (mvT hZ (hw _ (List.mem_of_getElem? (i := 34) rfl))) (mvT hZ (hw _ (List.mem_of_getElem? (i := 35) rfl))) (mvT hZ (hw _ (List.mem_of_getElem? (i := 26) rfl))) rfl (Cond.privateMethod_at (mvP hZ (hw _ (List.mem_of_getElem? (i := 36) rfl)) (args := #[]))) (mvT hZ (hw _ (List.mem_of_getElem? (i := 37) rfl))) (by decide) (backOf (W := 0) (rm_su l Z av0 hw [] a0 y2 ka ha pa kk kh kp d0 d1 d2 (own_u 0 y2 w22 x0) (own_u 1 y2 w22 x1) (own_u 2 y2 w22 x2) (own_u 0 w22 y2 y0) (own_u 1 w22 y2 y1) (own_u 2 w22 y2 (-1 : Int32)) T41.heap n0 f42 f43 f44 f45 f46 f48 fo41_0 fo41_1 g_ha g_pa ne_a0_ha ne_a0_pa ne_ha_pa ne_a0_ka ne_ka_ha ne_ka_pa (own_ur hbw hR.1) (own_ur hbw hR.2.1) (own_ur hbw hR.2.2) (own_ry2 b0 b1 _ hS)) hZ (hw _ (List.mem_of_getElem? (i := 37) rfl)) (hw _ (List.mem_of_getElem? (i := 3) rfl)) (by decide) (by decide)) (a := a0) q51 q51' (g := (mkF m 44 #[.val (.ref a0), .val (.int (2 : Int32)), .val (.int y2), .val (.int w22)] [(.int y2), (.ref a0)])) rfl (by rw [hml]; rfl) (argsL := [(.int y2)]) (rest := []) (lenOf pd_2 rfl) rfl (by show 2 * 0 + _ ≤ _; exact Nat.le_of_eq rfl) (hb hby d9_44) (fun _ _ => ⟨rfl, rfl, (by decide : 0 + 0 ≤ _), (by decide : 0 + 0 ≤ _)⟩)
    dsimp only [Pt.U, Pt.locs, Pt.cells, Pt.slots] at X51 l51 y51 z51 st51 hQ51
    subst l51 y51 z51
    obtain ⟨z051, z151, z251, z351, z451, z551, hv51, N51q, K51, fo51_0, fo51_1, po51_0⟩ := hQ51
    have f52 : n0 ≤ T51.heap.size := Nat.le_trans f42 K51.1
    have f53 : Exa Z T51.heap a0 "com/example/octopoll/octopoll/PageHeap" := f43.keep K51
    have f54 : Fld Z T51.heap a0 "com/example/octopoll/octopoll/PageHeap" "key" "[D" (.ref ka) := f44.keep K51 (ninS ne_a0_ha (ninS ne_a0_pa nin0))
    have f55 : Fld Z T51.heap a0 "com/example/octopoll/octopoll/PageHeap" "heap" "[I" (.ref ha) := f45.keep K51 (ninS ne_a0_ha (ninS ne_a0_pa nin0))
    have f56 : Fld Z T51.heap a0 "com/example/octopoll/octopoll/PageHeap" "position" "[I" (.ref pa) := f46.keep K51 (ninS ne_a0_ha (ninS ne_a0_pa nin0))
    have f57 : Fld Z T51.heap a0 "com/example/octopoll/octopoll/PageHeap" "size" "I" (.int ((own_cnt b0 b1 true) - (1 : Int32))) := f47.keep K51 (ninS ne_a0_ha (ninS ne_a0_pa nin0))
    have f58 : Arv Z T51.heap ka kk .double (3 : Int32) [(.double d0), (.double d1), (.double d2)] (.double 0) := f48.keep K51 (ninS ne_ka_ha (ninS ne_ka_pa nin0))
    have f59 : Keep h0 T51.heap [a0, ha, pa] := f49.trans K51 (allS (Or.inl (List.mem_of_getElem? (i := 1) rfl)) (allS (Or.inl (List.mem_of_getElem? (i := 2) rfl)) all0))
    subst hv51
    have N51 := Fr.app N41 N51q
    have pre51 : Go p.tables e below (s₁.setTop (entryFrame m #[(.ref a0), (.int (2 : Int32))] 4)) T51 (mkF m 47 #[.val (.ref a0), .val (.int (2 : Int32)), .val (.int y2), .val (.int w22)] []) := fun t k => pre50 t (st51 _ k)
    have hU : (own_bd z051 ∧ own_bd z151 ∧ own_bd z251) ∧ own_bd (own_g w22 z351 z451 z551) := by
      have hc0 := hne
      subst hw22
      rcases po51_0 with hq | ⟨hp, hq⟩
      · have hq1 : (z051, z151, z251, z351, z451, z551) = own_s0 (own_gy 2 (x0, x1, x2, y0, y1, y2)) (own_pl (own_gx ((own_cnt b0 b1 true) - 1) (x0, x1, x2, y0, y1, y2)) (own_gy 2 (x0, x1, x2, y0, y1, y2)) (own_m 2 (x0, x1, x2, y0, y1, y2))) := hq
        have ha1 := own_via (P := fun t => own_bd t.1 ∧ own_bd t.2.1 ∧ own_bd t.2.2.1) hq1 (own_r0a2 b0 b1 _ hS hc0)
        have ha2 := own_via (P := fun t => own_bd (own_gy (own_gx ((own_cnt b0 b1 true) - 1) (x0, x1, x2, y0, y1, y2)) t)) hq1 (own_r0b2 b0 b1 _ hS hc0)
        exact ⟨ha1, ha2⟩
      · have hq1 : (z051, z151, z251, z351, z451, z551) = own_s1 (own_gy 2 (x0, x1, x2, y0, y1, y2)) (own_pl (own_gx ((own_cnt b0 b1 true) - 1) (x0, x1, x2, y0, y1, y2)) (own_gy 2 (x0, x1, x2, y0, y1, y2)) (own_m 2 (x0, x1, x2, y0, y1, y2))) := hq
        have ha1 := own_via (P := fun t => own_bd t.1 ∧ own_bd t.2.1 ∧ own_bd t.2.2.1) hq1 (own_r1a2 b0 b1 _ hS hc0 hp)
        have ha2 := own_via (P := fun t => own_bd (own_gy (own_gx ((own_cnt b0 b1 true) - 1) (x0, x1, x2, y0, y1, y2)) t)) hq1 (own_r1b2 b0 b1 _ hS hc0 hp)
        exact ⟨ha1, ha2⟩
    have pre60 : Go p.tables e below (s₁.setTop (entryFrame m #[(.ref a0), (.int (2 : Int32))] 4)) T51 (mkF m 49 #[.val (.ref a0), .val (.int (2 : Int32)), .val (.int y2), .val (.int w22)] [(.ref a0), (.ref a0)]) := fun t k => pre51 t (by
        refine XS.aloadN X51.here hx rfl (hb hby d9_47) rfl rfl ?_
        show Steps p.tables e below (T51.setTop (mkF m 48 #[.val (.ref a0), .val (.int (2 : Int32)), .val (.int y2), .val (.int w22)] [(.ref a0)])) _
        refine XS.aloadN X51.here hx rfl (hb hby d9_48) rfl rfl ?_
        exact k)
    obtain ⟨T61, X61, e61, st61⟩ := getF X51 hx hZ hown (host := "") (Or.inl (hw _ (List.mem_of_getElem? (i := 15) rfl))) Via.refl rfl f56 (g := (mkF m 49 #[.val (.ref a0), .val (.int (2 : Int32)), .val (.int y2), .val (.int w22)] [(.ref a0), (.ref a0)])) rfl rfl (hb hby d9_49)
    have pre61 : Go p.tables e below (s₁.setTop (entryFrame m #[(.ref a0), (.int (2 : Int32))] 4)) T61 (mkF m 52 #[.val (.ref a0), .val (.int (2 : Int32)), .val (.int y2), .val (.int w22)] [(.ref pa), (.ref a0)]) := fun t k => pre60 t (st61 _ k)
    have pre62 : Go p.tables e below (s₁.setTop (entryFrame m #[(.ref a0), (.int (2 : Int32))] 4)) T61 (mkF m 53 #[.val (.ref a0), .val (.int (2 : Int32)), .val (.int y2), .val (.int w22)] [(.int w22), (.ref pa), (.ref a0)]) := fun t k => pre61 t (by
        refine XS.iloadN X61.here hx rfl (hb hby d9_52) rfl ?_
        exact k)
    obtain ⟨c63, Ar63, q63, S63, M63, H63, G63⟩ := (id fo51_1)
    have hin63 : ¬ (w22 < 0 ∨ c63.slots.size ≤ (w22).toNatClampNeg) := inb_of S63 hbw
    have pre63 : Go p.tables e below (s₁.setTop (entryFrame m #[(.ref a0), (.int (2 : Int32))] 4)) T61 (mkF m 54 #[.val (.ref a0), .val (.int (2 : Int32)), .val (.int y2), .val (.int w22)] [(.int (own_g w22 z351 z451 z551)), (.ref a0)]) := fun t k => pre62 t (X61.iaload hx (j := w22) (v := (.int (own_g w22 z351 z451 z551))) (by rw [e61]; exact Ar63.1) (State.isArrayOf_alike hZ.alike Ar63.2.1) Ar63.2.2 hin63 (H63.at hin63 (own_get hbw)) (g := (mkF m 53 #[.val (.ref a0), .val (.int (2 : Int32)), .val (.int y2), .val (.int w22)] [(.int w22), (.ref pa), (.ref a0)])) rfl rfl (hb hby d9_53) _ k)
    obtain ⟨cq64, q64, q64'⟩ := f53.cell
    obtain ⟨_, _, ⟨T64, L64, k64, n64⟩, -, X64, ⟨Lc64, hQ64, l64, y64, z64⟩, st64⟩ := own_private X61 hx (y := (⟨"com/example/octopoll/octopoll/PageHeap", "siftDown", "(I)V"⟩ : MethodName)) hown (mvT hZ (hw _ (List.mem_of_getElem? (i := 52) rfl))) (mvT hZ (hw _ (List.mem_of_getElem? (i := 53) rfl))) (mvT hZ (hw _ (List.mem_of_getElem? (i := 26) rfl))) rfl (Cond.privateMethod_at (mvP hZ (hw _ (List.mem_of_getElem? (i := 54) rfl)) (args := #[]))) (mvT hZ (hw _ (List.mem_of_getElem? (i := 55) rfl))) (by decide) (backOf (W := 0) (rm_sd l Z av0 hw [] a0 (own_g w22 z351 z451 z551) ((own_cnt b0 b1 true) - (1 : Int32)) ka ha pa kk kh kp d0 d1 d2 z051 z151 z251 z351 z451 z551 T51.heap n0 f52 f53 f54 f55 f56 f57 f58 fo51_0 fo51_1 g_ha g_pa ne_a0_ha ne_a0_pa ne_ha_pa ne_a0_ka ne_ka_ha ne_ka_pa hU.1.1 hU.1.2.1 hU.1.2.2 (own_rn2 b0 b1 _ hS hne) hU.2) hZ (hw _ (List.mem_of_getElem? (i := 55) rfl)) (hw _ (List.mem_of_getElem? (i := 3) rfl)) (by decide) (by decide)) (a := a0) (by rw [e61]; exact q64) q64' (g := (mkF m 54 #[.val (.ref a0), .val (.int (2 : Int32)), .val (.int y2), .val (.int w22)] [(.int (own_g w22 z351 z451 z551)), (.ref a0)])) rfl (by rw [hml]; rfl) (argsL := [(.int (own_g w22 z351 z451 z551))]) (rest := []) (lenOf pd_2 rfl) rfl (by show 2 * 0 + _ ≤ _; exact Nat.le_of_eq rfl) (hb hby d9_54) (fun _ _ => ⟨rfl, e61, (by decide : 0 + 0 ≤ _), (by decide : 0 + 0 ≤ _)⟩)
    dsimp only [Pt.U, Pt.locs, Pt.cells, Pt.slots] at X64 l64 y64 z64 st64 hQ64
    subst l64 y64 z64
    obtain ⟨z064, z164, z264, z364, z464, z564, hv64, N64q, K64, fo64_0, fo64_1, po64_0⟩ := hQ64
    have f65 : n0 ≤ T64.heap.size := Nat.le_trans f52 K64.1
    have f66 : Exa Z T64.heap a0 "com/example/octopoll/octopoll/PageHeap" := f53.keep K64
    have f67 : Fld Z T64.heap a0 "com/example/octopoll/octopoll/PageHeap" "key" "[D" (.ref ka) := f54.keep K64 (ninS ne_a0_ha (ninS ne_a0_pa nin0))
    have f68 : Fld Z T64.heap a0 "com/example/octopoll/octopoll/PageHeap" "heap" "[I" (.ref ha) := f55.keep K64 (ninS ne_a0_ha (ninS ne_a0_pa nin0))
    have f69 : Fld Z T64.heap a0 "com/example/octopoll/octopoll/PageHeap" "position" "[I" (.ref pa) := f56.keep K64 (ninS ne_a0_ha (ninS ne_a0_pa nin0))
    have f70 : Fld Z T64.heap a0 "com/example/octopoll/octopoll/PageHeap" "size" "I" (.int ((own_cnt b0 b1 true) - (1 : Int32))) := f57.keep K64 (ninS ne_a0_ha (ninS ne_a0_pa nin0))
    have f71 : Arv Z T64.heap ka kk .double (3 : Int32) [(.double d0), (.double d1), (.double d2)] (.double 0) := f58.keep K64 (ninS ne_ka_ha (ninS ne_ka_pa nin0))
    have f72 : Keep h0 T64.heap [a0, ha, pa] := f59.trans K64 (allS (Or.inl (List.mem_of_getElem? (i := 1) rfl)) (allS (Or.inl (List.mem_of_getElem? (i := 2) rfl)) all0))
    subst hv64
    have N64 := Fr.app N51 N64q
    have pre64 : Go p.tables e below (s₁.setTop (entryFrame m #[(.ref a0), (.int (2 : Int32))] 4)) T64 (mkF m 57 #[.val (.ref a0), .val (.int (2 : Int32)), .val (.int y2), .val (.int w22)] []) := fun t k => pre63 t (st64 _ k)
    obtain ⟨fs, hr, hrun, hended, hW, hsame⟩ := X64.leave (v := none) (fun _ => rfl) (BodyLoose.notSynchronized Bd)
    refine ⟨_, _, pre64 _ ?_, hrun, hended, _, _, rfl, ?_, ⟨_, rfl⟩, hW, hsame.mono (Nat.le_of_ble_eq_true rfl) (Nat.le_of_ble_eq_true rfl)⟩
    · exact X64.returnOut hx Bd.returns (hb hby d9_57) hr
    · show Q_rem2 Z a0 ka ha pa kk kh kp d0 d1 d2 x0 x1 x2 y0 y1 y2 b0 b1 h0 n0 _ T64.heap _
      have fsz := f70
      rw [(own_rc2 b0 b1).2] at fsz
      have hM : (z064, z164, z264, z364, z464, z564) ∈ own_S b0 b1 false := by
        have hc0 := hne
        subst hw22
        rcases po51_0 with hq | ⟨hp, hq⟩
        · have hq1 : (z051, z151, z251, z351, z451, z551) = own_s0 (own_gy 2 (x0, x1, x2, y0, y1, y2)) (own_pl (own_gx ((own_cnt b0 b1 true) - 1) (x0, x1, x2, y0, y1, y2)) (own_gy 2 (x0, x1, x2, y0, y1, y2)) (own_m 2 (x0, x1, x2, y0, y1, y2))) := hq
          have hc1 := own_via (P := fun t => own_s0 (own_gy (own_gx ((own_cnt b0 b1 true) - 1) (x0, x1, x2, y0, y1, y2)) t) t ∈ own_S b0 b1 false) hq1 (own_r0c2 b0 b1 _ hS hc0)
          have hc2 := own_via (P := fun t => own_gy (own_gx ((own_cnt b0 b1 true) - 1) (x0, x1, x2, y0, y1, y2)) t = 0 → (own_cnt b0 b1 true) - 1 = 2 → own_d1 t ∈ own_S b0 b1 false) hq1 (own_r0d2 b0 b1 _ hS hc0)
          exact own_memD hc1 hc2 po64_0
        · have hq1 : (z051, z151, z251, z351, z451, z551) = own_s1 (own_gy 2 (x0, x1, x2, y0, y1, y2)) (own_pl (own_gx ((own_cnt b0 b1 true) - 1) (x0, x1, x2, y0, y1, y2)) (own_gy 2 (x0, x1, x2, y0, y1, y2)) (own_m 2 (x0, x1, x2, y0, y1, y2))) := hq
          have hc1 := own_via (P := fun t => own_s0 (own_gy (own_gx ((own_cnt b0 b1 true) - 1) (x0, x1, x2, y0, y1, y2)) t) t ∈ own_S b0 b1 false) hq1 (own_r1c2 b0 b1 _ hS hc0 hp)
          have hc2 := own_via (P := fun t => own_gy (own_gx ((own_cnt b0 b1 true) - 1) (x0, x1, x2, y0, y1, y2)) t = 0 → (own_cnt b0 b1 true) - 1 = 2 → own_d1 t ∈ own_S b0 b1 false) hq1 (own_r1d2 b0 b1 _ hS hc0 hp)
          exact own_memD hc1 hc2 po64_0
      exact ⟨z064, z164, z264, z364, z464, z564, rfl, N64, f72, f66, f67, f68, f69, fsz, fo64_0, fo64_1, hM⟩
theorem d11_0 : decode prog_17_method_6_code 0 = .ok (.aload_n 0, 1) := by decide +kernel
theorem d11_1 : decode prog_17_method_6_code 1 = .ok (.getfield 13, 3) := by decide +kernel
theorem d11_4 : decode prog_17_method_6_code 4 = .ok (.iconst 0, 1) := by decide +kernel
theorem d11_5 : decode prog_17_method_6_code 5 = .ok (.iaload, 1) := by decide +kernel
theorem d11_6 : decode prog_17_method_6_code 6 = .ok (.istore_n 1, 1) := by decide +kernel
theorem d11_7 : decode prog_17_method_6_code 7 = .ok (.aload_n 0, 1) := by decide +kernel
theorem d11_8 : decode prog_17_method_6_code 8 = .ok (.iload_n 1, 1) := by decide +kernel
theorem d11_9 : decode prog_17_method_6_code 9 = .ok (.invokevirtual 38, 3) := by decide +kernel
theorem d11_12 : decode prog_17_method_6_code 12 = .ok (.iload_n 1, 1) := by decide +kernel
theorem d11_13 : decode prog_17_method_6_code 13 = .ok (.ireturn, 1) := by decide +kernel
theorem pn_pol0 : plainName "com/example/octopoll/octopoll/PageHeap" = true := by first | (simp [plainName, overriddenIn]; done) | decide +kernel
theorem ef_pol0 (m : MethodId) (a0 : Addr) : entryFrame m #[(.ref a0)] 2 = mkF m 0 #[.val (.ref a0), .unset] [] := by first | (simp [entryFrame, mkF, argsToLocals, Value.category]; done) | rfl
def Q_pol0 (Z : State) (a0 : Addr) (ka : Addr) (ha : Addr) (pa : Addr) (kk : ClassId) (kh : ClassId) (kp : ClassId) (d0 : UInt64) (d1 : UInt64) (d2 : UInt64) (x1 : Int32) (x2 : Int32) (y0 : Int32) (y1 : Int32) (y2 : Int32) (b1 : Bool) (b2 : Bool) (h0 : Heap) (n0 : Nat) (v : Option Value) (h : Heap) (L : List Loc) : Prop := ∃ (z0 : Int32) (z1 : Int32) (z2 : Int32) (z3 : Int32) (z4 : Int32) (z5 : Int32), v = some (.int (0 : Int32)) ∧ Fr n0 L ∧ Keep h0 h [a0, ha, pa] ∧ Exa Z h a0 "com/example/octopoll/octopoll/PageHeap" ∧ Fld Z h a0 "com/example/octopoll/octopoll/PageHeap" "key" "[D" (.ref ka) ∧ Fld Z h a0 "com/example/octopoll/octopoll/PageHeap" "heap" "[I" (.ref ha) ∧ Fld Z h a0 "com/example/octopoll/octopoll/PageHeap" "position" "[I" (.ref pa) ∧ Fld Z h a0 "com/example/octopoll/octopoll/PageHeap" "size" "I" (.int (own_cnt false b1 b2)) ∧ Arv Z h ha kh .int (3 : Int32) [(.int z0), (.int z1), (.int z2)] (.int (0 : Int32)) ∧ Arv Z h pa kp .int (3 : Int32) [(.int z3), (.int z4), (.int z5)] (.int (0 : Int32)) ∧ (z0, z1, z2, z3, z4, z5) ∈ own_S false b1 b2
set_option maxRecDepth 65536 in
set_option maxHeartbeats 40000000 in
theorem rm_pol0 (l : Launch) (Z : State) (av0 : Array Value) (hw : ∀ d ∈ tables_1, d.before av0 Z = true) (ws : List Jvm.Cond) (a0 : Addr) (ka : Addr) (ha : Addr) (pa : Addr) (kk : ClassId) (kh : ClassId) (kp : ClassId) (d0 : UInt64) (d1 : UInt64) (d2 : UInt64) (x1 : Int32) (x2 : Int32) (y0 : Int32) (y1 : Int32) (y2 : Int32) (b1 : Bool) (b2 : Bool) (h0 : Heap) (n0 : Nat) (Z0 : n0 ≤ h0.size) (fi0 : Exa Z h0 a0 "com/example/octopoll/octopoll/PageHeap") (fi1 : Fld Z h0 a0 "com/example/octopoll/octopoll/PageHeap" "key" "[D" (.ref ka)) (fi2 : Fld Z h0 a0 "com/example/octopoll/octopoll/PageHeap" "heap" "[I" (.ref ha)) (fi3 : Fld Z h0 a0 "com/example/octopoll/octopoll/PageHeap" "position" "[I" (.ref pa)) (fi4 : Fld Z h0 a0 "com/example/octopoll/octopoll/PageHeap" "size" "I" (.int (own_cnt true b1 b2))) (fi5 : Arv Z h0 ka kk .double (3 : Int32) [(.double d0), (.double d1), (.double d2)] (.double 0)) (fi6 : Arv Z h0 ha kh .int (3 : Int32) [(.int (0 : Int32)), (.int x1), (.int x2)] (.int (0 : Int32))) (fi7 : Arv Z h0 pa kp .int (3 : Int32) [(.int y0), (.int y1), (.int y2)] (.int (0 : Int32))) (g_a0 : n0 ≤ a0) (g_ha : n0 ≤ ha) (g_pa : n0 ≤ pa) (ne_a0_ha : a0 ≠ ha) (ne_a0_pa : a0 ≠ pa) (ne_ha_pa : ha ≠ pa) (ne_a0_ka : a0 ≠ ka) (ne_ka_ha : ka ≠ ha) (ne_ka_pa : ka ≠ pa) (hS : ((0 : Int32), x1, x2, y0, y1, y2) ∈ own_S true b1 b2) :
    MetFree l (⟨"com/example/octopoll/octopoll/PageHeap", "poll", "()I"⟩ : MethodName) (head1 (Jvm.Cond.code (⟨"com/example/octopoll/octopoll/PageHeap", "poll", "()I"⟩ : MethodName) prog_17_method_6_code 2 (some .int) :: ws) ({ frames := 3, cells := 0, slots := 0, locals := 46 } : Room)) (fun a U => a = #[(.ref a0)] ∧ Z.Warmed39 U.vm ∧ U.heap = h0) (fun _ _ _ _ _ => True) (fun _ U o U' => ∃ v L, o = .returned v ∧ Q_pol0 Z a0 ka ha pa kk kh kp d0 d1 d2 x1 x2 y0 y1 y2 b1 b2 h0 n0 v U'.heap L ∧ FrameEnd U o U' L ({ frames := 3, cells := 0, slots := 0, locals := 46 } : Room).cells ({ frames := 3, cells := 0, slots := 0, locals := 46 } : Room).slots) := by
  refine MetFree.of_bodySF (plainFor_of_name pn_pol0) hisR ?_
  intro p e s m args below meth c s₁ Bd hml0 hP hK
  obtain ⟨rfl, hZ, hh⟩ := hP
  have hx := Bd.exec
  have hby := Bd.bytes
  have hml : c.maxLocals = 2 := hml0
  have hown : s.vm.findClass "com/example/octopoll/octopoll/PageHeap" = some m.cls := findClass_of_methodNamed Bd.named
  have hnm := (name_of_methodNamed Bd.named Bd.method).1
  have X0 : Stand p l e ({ frames := 3, cells := 0, slots := 0, locals := 46 } : Room) s m #[(.ref a0)] below meth c s₁ [] 0 0 := Stand.of_body Bd
  have e0 : s₁.heap = h0 := by rw [← hh, Bd.state]; rfl
  have N0 := Fr.nil n0
  have pre0 : Go p.tables e below (s₁.setTop (entryFrame m #[(.ref a0)] 2)) s₁ (mkF m 0 #[.val (.ref a0), .unset] []) := fun t k => castTop (ef_pol0 m a0) k
  have K0 : Keep h0 h0 [a0, ha, pa] := Keep.refl _ _
  have pre1 : Go p.tables e below (s₁.setTop (entryFrame m #[(.ref a0)] 2)) s₁ (mkF m 1 #[.val (.ref a0), .unset] [(.ref a0)]) := fun t k => pre0 t (by
      refine XS.aloadN X0.here hx rfl (hb hby d11_0) rfl rfl ?_
      exact k)
  obtain ⟨T2, X2, e2, st2⟩ := getF X0 hx hZ hown (host := "") (Or.inl (hw _ (List.mem_of_getElem? (i := 13) rfl))) Via.refl e0 fi2 (g := (mkF m 1 #[.val (.ref a0), .unset] [(.ref a0)])) rfl rfl (hb hby d11_1)
  have pre2 : Go p.tables e below (s₁.setTop (entryFrame m #[(.ref a0)] 2)) T2 (mkF m 4 #[.val (.ref a0), .unset] [(.ref ha)]) := fun t k => pre1 t (st2 _ k)
  have pre3 : Go p.tables e below (s₁.setTop (entryFrame m #[(.ref a0)] 2)) T2 (mkF m 5 #[.val (.ref a0), .unset] [(.int (0 : Int32)), (.ref ha)]) := fun t k => pre2 t (by
      refine XS.iconst X2.here hx rfl (hb hby d11_4) ?_
      exact k)
  obtain ⟨c4, Ar4, q4, S4, M4, H4, G4⟩ := (id fi6)
  have hin4 : ¬ ((0 : Int32) < 0 ∨ c4.slots.size ≤ ((0 : Int32)).toNatClampNeg) := inb_of S4 ⟨by decide, by decide⟩
  have pre4 : Go p.tables e below (s₁.setTop (entryFrame m #[(.ref a0)] 2)) T2 (mkF m 6 #[.val (.ref a0), .unset] [(.int (0 : Int32))]) := fun t k => pre3 t (X2.iaload hx (j := (0 : Int32)) (v := (.int (0 : Int32))) (by rw [e2]; exact Ar4.1) (State.isArrayOf_alike hZ.alike Ar4.2.1) Ar4.2.2 hin4 (H4.at hin4 rfl) (g := (mkF m 5 #[.val (.ref a0), .unset] [(.int (0 : Int32)), (.ref ha)])) rfl rfl (hb hby d11_5) _ k)
  have pre5 : Go p.tables e below (s₁.setTop (entryFrame m #[(.ref a0)] 2)) T2 (mkF m 9 #[.val (.ref a0), .val (.int (0 : Int32))] [(.int (0 : Int32)), (.ref a0)]) := fun t k => pre4 t (by
      refine XS.istoreN X2.here hx rfl (hb hby d11_6) rfl (l' := #[.val (.ref a0), .val (.int (0 : Int32))]) rfl ?_
      show Steps p.tables e below (T2.setTop (mkF m 7 #[.val (.ref a0), .val (.int (0 : Int32))] [])) _
      refine XS.aloadN X2.here hx rfl (hb hby d11_7) rfl rfl ?_
      show Steps p.tables e below (T2.setTop (mkF m 8 #[.val (.ref a0), .val (.int (0 : Int32))] [(.ref a0)])) _
      refine XS.iloadN X2.here hx rfl (hb hby d11_8) rfl ?_
      exact k)
  obtain ⟨cq6, kq6, q6a, q6b, q6c⟩ := isOf hZ e2 fi0
  obtain ⟨_, _, ⟨T6, L6, k6, n6⟩, -, X6, ⟨Lc6, hQ6, l6, y6, z6⟩, st6⟩ := X2.virtualBack hx (y := (⟨"com/example/octopoll/octopoll/PageHeap", "remove", "(I)V"⟩ : MethodName)) (z := (⟨"com/example/octopoll/octopoll/PageHeap", "remove", "(I)V"⟩ : MethodName)) hown (mvT hZ (hw _ (List.mem_of_getElem? (i := 61) rfl))) (mvT hZ (hw _ (List.mem_of_getElem? (i := 48) rfl))) (notFace_of_selects (args := #[]) (mvT hZ (hw _ (List.mem_of_getElem? (i := 50) rfl)))) (mvT hZ (hw _ (List.mem_of_getElem? (i := 50) rfl))) (mvT hZ (hw _ (List.mem_of_getElem? (i := 49) rfl))) (by decide) (backOf (W := 0) (rm_rem0 l Z av0 hw [] a0 ka ha pa kk kh kp d0 d1 d2 (0 : Int32) x1 x2 y0 y1 y2 b1 b2 h0 n0 Z0 fi0 fi1 fi2 fi3 fi4 fi5 fi6 fi7 g_a0 g_ha g_pa ne_a0_ha ne_a0_pa ne_ha_pa ne_a0_ka ne_ka_ha ne_ka_pa hS) hZ (hw _ (List.mem_of_getElem? (i := 51) rfl)) (hw _ (List.mem_of_getElem? (i := 3) rfl)) (by decide) (by decide)) q6a q6c (g := (mkF m 9 #[.val (.ref a0), .val (.int (0 : Int32))] [(.int (0 : Int32)), (.ref a0)])) rfl (by rw [hml]; rfl) (Steps.refl _) (argsL := [(.int (0 : Int32))]) (rest := []) (lenOf pd_2 rfl) rfl (by show 2 * 0 + _ ≤ _; exact Nat.le_of_eq rfl) (hb hby d11_9) (fun _ _ => ⟨rfl, e2, (by decide : 0 + 0 ≤ _), (by decide : 0 + 0 ≤ _)⟩)
  dsimp only [Pt.U, Pt.locs, Pt.cells, Pt.slots] at X6 l6 y6 z6 st6 hQ6
  subst l6 y6 z6
  obtain ⟨z06, z16, z26, z36, z46, z56, hv6, N6q, K6, fo6_0, fo6_1, fo6_2, fo6_3, fo6_4, fo6_5, fo6_6, po6_0⟩ := hQ6
  have f7 : n0 ≤ T6.heap.size := Nat.le_trans Z0 K6.1
  have f8 : Exa Z T6.heap a0 "com/example/octopoll/octopoll/PageHeap" := fi0.keep K6
  have f9 : Arv Z T6.heap ka kk .double (3 : Int32) [(.double d0), (.double d1), (.double d2)] (.double 0) := fi5.keep K6 (ninS ne_a0_ka.symm (ninS ne_ka_ha (ninS ne_ka_pa nin0)))
  have f10 : Keep h0 T6.heap [a0, ha, pa] := K0.trans K6 (allS (Or.inl (List.mem_of_getElem? (i := 0) rfl)) (allS (Or.inl (List.mem_of_getElem? (i := 1) rfl)) (allS (Or.inl (List.mem_of_getElem? (i := 2) rfl)) all0)))
  subst hv6
  have N6 := Fr.app N0 N6q
  have pre6 : Go p.tables e below (s₁.setTop (entryFrame m #[(.ref a0)] 2)) T6 (mkF m 12 #[.val (.ref a0), .val (.int (0 : Int32))] []) := fun t k => pre5 t (st6.trans k)
  have pre11 : Go p.tables e below (s₁.setTop (entryFrame m #[(.ref a0)] 2)) T6 (mkF m 13 #[.val (.ref a0), .val (.int (0 : Int32))] [(.int (0 : Int32))]) := fun t k => pre6 t (by
      refine XS.iloadN X6.here hx rfl (hb hby d11_12) rfl ?_
      exact k)
  obtain ⟨fs, hr, hrun, hended, hW, hsame⟩ := X6.leave (v := some (.int (0 : Int32))) (fun h => by rw [Bd.returns] at h; cases h) (BodyLoose.notSynchronized Bd)
  refine ⟨_, _, pre11 _ ?_, hrun, hended, _, _, rfl, ?_, ⟨_, rfl⟩, hW, hsame.mono (Nat.le_of_ble_eq_true rfl) (Nat.le_of_ble_eq_true rfl)⟩
  · exact retI X6 hx Bd.returns (hb hby d11_13) hr
  · show Q_pol0 Z a0 ka ha pa kk kh kp d0 d1 d2 x1 x2 y0 y1 y2 b1 b2 h0 n0 _ T6.heap _
    exact ⟨z06, z16, z26, z36, z46, z56, rfl, N6, f10, fo6_0, fo6_1, fo6_2, fo6_3, fo6_4, fo6_5, fo6_6, po6_0⟩
theorem pn_pol1 : plainName "com/example/octopoll/octopoll/PageHeap" = true := by first | (simp [plainName, overriddenIn]; done) | decide +kernel
theorem ef_pol1 (m : MethodId) (a0 : Addr) : entryFrame m #[(.ref a0)] 2 = mkF m 0 #[.val (.ref a0), .unset] [] := by first | (simp [entryFrame, mkF, argsToLocals, Value.category]; done) | rfl
def Q_pol1 (Z : State) (a0 : Addr) (ka : Addr) (ha : Addr) (pa : Addr) (kk : ClassId) (kh : ClassId) (kp : ClassId) (d0 : UInt64) (d1 : UInt64) (d2 : UInt64) (x1 : Int32) (x2 : Int32) (y0 : Int32) (y1 : Int32) (y2 : Int32) (b0 : Bool) (b2 : Bool) (h0 : Heap) (n0 : Nat) (v : Option Value) (h : Heap) (L : List Loc) : Prop := ∃ (z0 : Int32) (z1 : Int32) (z2 : Int32) (z3 : Int32) (z4 : Int32) (z5 : Int32), v = some (.int (1 : Int32)) ∧ Fr n0 L ∧ Keep h0 h [a0, ha, pa] ∧ Exa Z h a0 "com/example/octopoll/octopoll/PageHeap" ∧ Fld Z h a0 "com/example/octopoll/octopoll/PageHeap" "key" "[D" (.ref ka) ∧ Fld Z h a0 "com/example/octopoll/octopoll/PageHeap" "heap" "[I" (.ref ha) ∧ Fld Z h a0 "com/example/octopoll/octopoll/PageHeap" "position" "[I" (.ref pa) ∧ Fld Z h a0 "com/example/octopoll/octopoll/PageHeap" "size" "I" (.int (own_cnt b0 false b2)) ∧ Arv Z h ha kh .int (3 : Int32) [(.int z0), (.int z1), (.int z2)] (.int (0 : Int32)) ∧ Arv Z h pa kp .int (3 : Int32) [(.int z3), (.int z4), (.int z5)] (.int (0 : Int32)) ∧ (z0, z1, z2, z3, z4, z5) ∈ own_S b0 false b2
set_option maxRecDepth 65536 in
set_option maxHeartbeats 40000000 in
theorem rm_pol1 (l : Launch) (Z : State) (av0 : Array Value) (hw : ∀ d ∈ tables_1, d.before av0 Z = true) (ws : List Jvm.Cond) (a0 : Addr) (ka : Addr) (ha : Addr) (pa : Addr) (kk : ClassId) (kh : ClassId) (kp : ClassId) (d0 : UInt64) (d1 : UInt64) (d2 : UInt64) (x1 : Int32) (x2 : Int32) (y0 : Int32) (y1 : Int32) (y2 : Int32) (b0 : Bool) (b2 : Bool) (h0 : Heap) (n0 : Nat) (Z0 : n0 ≤ h0.size) (fi0 : Exa Z h0 a0 "com/example/octopoll/octopoll/PageHeap") (fi1 : Fld Z h0 a0 "com/example/octopoll/octopoll/PageHeap" "key" "[D" (.ref ka)) (fi2 : Fld Z h0 a0 "com/example/octopoll/octopoll/PageHeap" "heap" "[I" (.ref ha)) (fi3 : Fld Z h0 a0 "com/example/octopoll/octopoll/PageHeap" "position" "[I" (.ref pa)) (fi4 : Fld Z h0 a0 "com/example/octopoll/octopoll/PageHeap" "size" "I" (.int (own_cnt b0 true b2))) (fi5 : Arv Z h0 ka kk .double (3 : Int32) [(.double d0), (.double d1), (.double d2)] (.double 0)) (fi6 : Arv Z h0 ha kh .int (3 : Int32) [(.int (1 : Int32)), (.int x1), (.int x2)] (.int (0 : Int32))) (fi7 : Arv Z h0 pa kp .int (3 : Int32) [(.int y0), (.int y1), (.int y2)] (.int (0 : Int32))) (g_a0 : n0 ≤ a0) (g_ha : n0 ≤ ha) (g_pa : n0 ≤ pa) (ne_a0_ha : a0 ≠ ha) (ne_a0_pa : a0 ≠ pa) (ne_ha_pa : ha ≠ pa) (ne_a0_ka : a0 ≠ ka) (ne_ka_ha : ka ≠ ha) (ne_ka_pa : ka ≠ pa) (hS : ((1 : Int32), x1, x2, y0, y1, y2) ∈ own_S b0 true b2) :
    MetFree l (⟨"com/example/octopoll/octopoll/PageHeap", "poll", "()I"⟩ : MethodName) (head1 (Jvm.Cond.code (⟨"com/example/octopoll/octopoll/PageHeap", "poll", "()I"⟩ : MethodName) prog_17_method_6_code 2 (some .int) :: ws) ({ frames := 3, cells := 0, slots := 0, locals := 46 } : Room)) (fun a U => a = #[(.ref a0)] ∧ Z.Warmed39 U.vm ∧ U.heap = h0) (fun _ _ _ _ _ => True) (fun _ U o U' => ∃ v L, o = .returned v ∧ Q_pol1 Z a0 ka ha pa kk kh kp d0 d1 d2 x1 x2 y0 y1 y2 b0 b2 h0 n0 v U'.heap L ∧ FrameEnd U o U' L ({ frames := 3, cells := 0, slots := 0, locals := 46 } : Room).cells ({ frames := 3, cells := 0, slots := 0, locals := 46 } : Room).slots) := by
  refine MetFree.of_bodySF (plainFor_of_name pn_pol1) hisR ?_
  intro p e s m args below meth c s₁ Bd hml0 hP hK
  obtain ⟨rfl, hZ, hh⟩ := hP
  have hx := Bd.exec
  have hby := Bd.bytes
  have hml : c.maxLocals = 2 := hml0
  have hown : s.vm.findClass "com/example/octopoll/octopoll/PageHeap" = some m.cls := findClass_of_methodNamed Bd.named
  have hnm := (name_of_methodNamed Bd.named Bd.method).1
  have X0 : Stand p l e ({ frames := 3, cells := 0, slots := 0, locals := 46 } : Room) s m #[(.ref a0)] below meth c s₁ [] 0 0 := Stand.of_body Bd
  have e0 : s₁.heap = h0 := by rw [← hh, Bd.state]; rfl
  have N0 := Fr.nil n0
  have pre0 : Go p.tables e below (s₁.setTop (entryFrame m #[(.ref a0)] 2)) s₁ (mkF m 0 #[.val (.ref a0), .unset] []) := fun t k => castTop (ef_pol1 m a0) k
  have K0 : Keep h0 h0 [a0, ha, pa] := Keep.refl _ _
  have pre1 : Go p.tables e below (s₁.setTop (entryFrame m #[(.ref a0)] 2)) s₁ (mkF m 1 #[.val (.ref a0), .unset] [(.ref a0)]) := fun t k => pre0 t (by
      refine XS.aloadN X0.here hx rfl (hb hby d11_0) rfl rfl ?_
      exact k)
  obtain ⟨T2, X2, e2, st2⟩ := getF X0 hx hZ hown (host := "") (Or.inl (hw _ (List.mem_of_getElem? (i := 13) rfl))) Via.refl e0 fi2 (g := (mkF m 1 #[.val (.ref a0), .unset] [(.ref a0)])) rfl rfl (hb hby d11_1)
  have pre2 : Go p.tables e below (s₁.setTop (entryFrame m #[(.ref a0)] 2)) T2 (mkF m 4 #[.val (.ref a0), .unset] [(.ref ha)]) := fun t k => pre1 t (st2 _ k)
  have pre3 : Go p.tables e below (s₁.setTop (entryFrame m #[(.ref a0)] 2)) T2 (mkF m 5 #[.val (.ref a0), .unset] [(.int (0 : Int32)), (.ref ha)]) := fun t k => pre2 t (by
      refine XS.iconst X2.here hx rfl (hb hby d11_4) ?_
      exact k)
  obtain ⟨c4, Ar4, q4, S4, M4, H4, G4⟩ := (id fi6)
  have hin4 : ¬ ((0 : Int32) < 0 ∨ c4.slots.size ≤ ((0 : Int32)).toNatClampNeg) := inb_of S4 ⟨by decide, by decide⟩
  have pre4 : Go p.tables e below (s₁.setTop (entryFrame m #[(.ref a0)] 2)) T2 (mkF m 6 #[.val (.ref a0), .unset] [(.int (1 : Int32))]) := fun t k => pre3 t (X2.iaload hx (j := (0 : Int32)) (v := (.int (1 : Int32))) (by rw [e2]; exact Ar4.1) (State.isArrayOf_alike hZ.alike Ar4.2.1) Ar4.2.2 hin4 (H4.at hin4 rfl) (g := (mkF m 5 #[.val (.ref a0), .unset] [(.int (0 : Int32)), (.ref ha)])) rfl rfl (hb hby d11_5) _ k)
  have pre5 : Go p.tables e below (s₁.setTop (entryFrame m #[(.ref a0)] 2)) T2 (mkF m 9 #[.val (.ref a0), .val (.int (1 : Int32))] [(.int (1 : Int32)), (.ref a0)]) := fun t k => pre4 t (by
      refine XS.istoreN X2.here hx rfl (hb hby d11_6) rfl (l' := #[.val (.ref a0), .val (.int (1 : Int32))]) rfl ?_
      show Steps p.tables e below (T2.setTop (mkF m 7 #[.val (.ref a0), .val (.int (1 : Int32))] [])) _
      refine XS.aloadN X2.here hx rfl (hb hby d11_7) rfl rfl ?_
      show Steps p.tables e below (T2.setTop (mkF m 8 #[.val (.ref a0), .val (.int (1 : Int32))] [(.ref a0)])) _
      refine XS.iloadN X2.here hx rfl (hb hby d11_8) rfl ?_
      exact k)
  obtain ⟨cq6, kq6, q6a, q6b, q6c⟩ := isOf hZ e2 fi0
  obtain ⟨_, _, ⟨T6, L6, k6, n6⟩, -, X6, ⟨Lc6, hQ6, l6, y6, z6⟩, st6⟩ := X2.virtualBack hx (y := (⟨"com/example/octopoll/octopoll/PageHeap", "remove", "(I)V"⟩ : MethodName)) (z := (⟨"com/example/octopoll/octopoll/PageHeap", "remove", "(I)V"⟩ : MethodName)) hown (mvT hZ (hw _ (List.mem_of_getElem? (i := 61) rfl))) (mvT hZ (hw _ (List.mem_of_getElem? (i := 48) rfl))) (notFace_of_selects (args := #[]) (mvT hZ (hw _ (List.mem_of_getElem? (i := 50) rfl)))) (mvT hZ (hw _ (List.mem_of_getElem? (i := 50) rfl))) (mvT hZ (hw _ (List.mem_of_getElem? (i := 49) rfl))) (by decide) (backOf (W := 0) (rm_rem1 l Z av0 hw [] a0 ka ha pa kk kh kp d0 d1 d2 (1 : Int32) x1 x2 y0 y1 y2 b0 b2 h0 n0 Z0 fi0 fi1 fi2 fi3 fi4 fi5 fi6 fi7 g_a0 g_ha g_pa ne_a0_ha ne_a0_pa ne_ha_pa ne_a0_ka ne_ka_ha ne_ka_pa hS) hZ (hw _ (List.mem_of_getElem? (i := 51) rfl)) (hw _ (List.mem_of_getElem? (i := 3) rfl)) (by decide) (by decide)) q6a q6c (g := (mkF m 9 #[.val (.ref a0), .val (.int (1 : Int32))] [(.int (1 : Int32)), (.ref a0)])) rfl (by rw [hml]; rfl) (Steps.refl _) (argsL := [(.int (1 : Int32))]) (rest := []) (lenOf pd_2 rfl) rfl (by show 2 * 0 + _ ≤ _; exact Nat.le_of_eq rfl) (hb hby d11_9) (fun _ _ => ⟨rfl, e2, (by decide : 0 + 0 ≤ _), (by decide : 0 + 0 ≤ _)⟩)
  dsimp only [Pt.U, Pt.locs, Pt.cells, Pt.slots] at X6 l6 y6 z6 st6 hQ6
  subst l6 y6 z6
  obtain ⟨z06, z16, z26, z36, z46, z56, hv6, N6q, K6, fo6_0, fo6_1, fo6_2, fo6_3, fo6_4, fo6_5, fo6_6, po6_0⟩ := hQ6
  have f7 : n0 ≤ T6.heap.size := Nat.le_trans Z0 K6.1
  have f8 : Exa Z T6.heap a0 "com/example/octopoll/octopoll/PageHeap" := fi0.keep K6
  have f9 : Arv Z T6.heap ka kk .double (3 : Int32) [(.double d0), (.double d1), (.double d2)] (.double 0) := fi5.keep K6 (ninS ne_a0_ka.symm (ninS ne_ka_ha (ninS ne_ka_pa nin0)))
  have f10 : Keep h0 T6.heap [a0, ha, pa] := K0.trans K6 (allS (Or.inl (List.mem_of_getElem? (i := 0) rfl)) (allS (Or.inl (List.mem_of_getElem? (i := 1) rfl)) (allS (Or.inl (List.mem_of_getElem? (i := 2) rfl)) all0)))
  subst hv6
  have N6 := Fr.app N0 N6q
  have pre6 : Go p.tables e below (s₁.setTop (entryFrame m #[(.ref a0)] 2)) T6 (mkF m 12 #[.val (.ref a0), .val (.int (1 : Int32))] []) := fun t k => pre5 t (st6.trans k)
  have pre11 : Go p.tables e below (s₁.setTop (entryFrame m #[(.ref a0)] 2)) T6 (mkF m 13 #[.val (.ref a0), .val (.int (1 : Int32))] [(.int (1 : Int32))]) := fun t k => pre6 t (by
      refine XS.iloadN X6.here hx rfl (hb hby d11_12) rfl ?_
      exact k)
  obtain ⟨fs, hr, hrun, hended, hW, hsame⟩ := X6.leave (v := some (.int (1 : Int32))) (fun h => by rw [Bd.returns] at h; cases h) (BodyLoose.notSynchronized Bd)
  refine ⟨_, _, pre11 _ ?_, hrun, hended, _, _, rfl, ?_, ⟨_, rfl⟩, hW, hsame.mono (Nat.le_of_ble_eq_true rfl) (Nat.le_of_ble_eq_true rfl)⟩
  · exact retI X6 hx Bd.returns (hb hby d11_13) hr
  · show Q_pol1 Z a0 ka ha pa kk kh kp d0 d1 d2 x1 x2 y0 y1 y2 b0 b2 h0 n0 _ T6.heap _
    exact ⟨z06, z16, z26, z36, z46, z56, rfl, N6, f10, fo6_0, fo6_1, fo6_2, fo6_3, fo6_4, fo6_5, fo6_6, po6_0⟩
theorem pn_pol2 : plainName "com/example/octopoll/octopoll/PageHeap" = true := by first | (simp [plainName, overriddenIn]; done) | decide +kernel
theorem ef_pol2 (m : MethodId) (a0 : Addr) : entryFrame m #[(.ref a0)] 2 = mkF m 0 #[.val (.ref a0), .unset] [] := by first | (simp [entryFrame, mkF, argsToLocals, Value.category]; done) | rfl
def Q_pol2 (Z : State) (a0 : Addr) (ka : Addr) (ha : Addr) (pa : Addr) (kk : ClassId) (kh : ClassId) (kp : ClassId) (d0 : UInt64) (d1 : UInt64) (d2 : UInt64) (x1 : Int32) (x2 : Int32) (y0 : Int32) (y1 : Int32) (y2 : Int32) (b0 : Bool) (b1 : Bool) (h0 : Heap) (n0 : Nat) (v : Option Value) (h : Heap) (L : List Loc) : Prop := ∃ (z0 : Int32) (z1 : Int32) (z2 : Int32) (z3 : Int32) (z4 : Int32) (z5 : Int32), v = some (.int (2 : Int32)) ∧ Fr n0 L ∧ Keep h0 h [a0, ha, pa] ∧ Exa Z h a0 "com/example/octopoll/octopoll/PageHeap" ∧ Fld Z h a0 "com/example/octopoll/octopoll/PageHeap" "key" "[D" (.ref ka) ∧ Fld Z h a0 "com/example/octopoll/octopoll/PageHeap" "heap" "[I" (.ref ha) ∧ Fld Z h a0 "com/example/octopoll/octopoll/PageHeap" "position" "[I" (.ref pa) ∧ Fld Z h a0 "com/example/octopoll/octopoll/PageHeap" "size" "I" (.int (own_cnt b0 b1 false)) ∧ Arv Z h ha kh .int (3 : Int32) [(.int z0), (.int z1), (.int z2)] (.int (0 : Int32)) ∧ Arv Z h pa kp .int (3 : Int32) [(.int z3), (.int z4), (.int z5)] (.int (0 : Int32)) ∧ (z0, z1, z2, z3, z4, z5) ∈ own_S b0 b1 false
set_option maxRecDepth 65536 in
set_option maxHeartbeats 40000000 in
theorem rm_pol2 (l : Launch) (Z : State) (av0 : Array Value) (hw : ∀ d ∈ tables_1, d.before av0 Z = true) (ws : List Jvm.Cond) (a0 : Addr) (ka : Addr) (ha : Addr) (pa : Addr) (kk : ClassId) (kh : ClassId) (kp : ClassId) (d0 : UInt64) (d1 : UInt64) (d2 : UInt64) (x1 : Int32) (x2 : Int32) (y0 : Int32) (y1 : Int32) (y2 : Int32) (b0 : Bool) (b1 : Bool) (h0 : Heap) (n0 : Nat) (Z0 : n0 ≤ h0.size) (fi0 : Exa Z h0 a0 "com/example/octopoll/octopoll/PageHeap") (fi1 : Fld Z h0 a0 "com/example/octopoll/octopoll/PageHeap" "key" "[D" (.ref ka)) (fi2 : Fld Z h0 a0 "com/example/octopoll/octopoll/PageHeap" "heap" "[I" (.ref ha)) (fi3 : Fld Z h0 a0 "com/example/octopoll/octopoll/PageHeap" "position" "[I" (.ref pa)) (fi4 : Fld Z h0 a0 "com/example/octopoll/octopoll/PageHeap" "size" "I" (.int (own_cnt b0 b1 true))) (fi5 : Arv Z h0 ka kk .double (3 : Int32) [(.double d0), (.double d1), (.double d2)] (.double 0)) (fi6 : Arv Z h0 ha kh .int (3 : Int32) [(.int (2 : Int32)), (.int x1), (.int x2)] (.int (0 : Int32))) (fi7 : Arv Z h0 pa kp .int (3 : Int32) [(.int y0), (.int y1), (.int y2)] (.int (0 : Int32))) (g_a0 : n0 ≤ a0) (g_ha : n0 ≤ ha) (g_pa : n0 ≤ pa) (ne_a0_ha : a0 ≠ ha) (ne_a0_pa : a0 ≠ pa) (ne_ha_pa : ha ≠ pa) (ne_a0_ka : a0 ≠ ka) (ne_ka_ha : ka ≠ ha) (ne_ka_pa : ka ≠ pa) (hS : ((2 : Int32), x1, x2, y0, y1, y2) ∈ own_S b0 b1 true) :
    MetFree l (⟨"com/example/octopoll/octopoll/PageHeap", "poll", "()I"⟩ : MethodName) (head1 (Jvm.Cond.code (⟨"com/example/octopoll/octopoll/PageHeap", "poll", "()I"⟩ : MethodName) prog_17_method_6_code 2 (some .int) :: ws) ({ frames := 3, cells := 0, slots := 0, locals := 46 } : Room)) (fun a U => a = #[(.ref a0)] ∧ Z.Warmed39 U.vm ∧ U.heap = h0) (fun _ _ _ _ _ => True) (fun _ U o U' => ∃ v L, o = .returned v ∧ Q_pol2 Z a0 ka ha pa kk kh kp d0 d1 d2 x1 x2 y0 y1 y2 b0 b1 h0 n0 v U'.heap L ∧ FrameEnd U o U' L ({ frames := 3, cells := 0, slots := 0, locals := 46 } : Room).cells ({ frames := 3, cells := 0, slots := 0, locals := 46 } : Room).slots) := by
  refine MetFree.of_bodySF (plainFor_of_name pn_pol2) hisR ?_
  intro p e s m args below meth c s₁ Bd hml0 hP hK
  obtain ⟨rfl, hZ, hh⟩ := hP
  have hx := Bd.exec
  have hby := Bd.bytes
  have hml : c.maxLocals = 2 := hml0
  have hown : s.vm.findClass "com/example/octopoll/octopoll/PageHeap" = some m.cls := findClass_of_methodNamed Bd.named
  have hnm := (name_of_methodNamed Bd.named Bd.method).1
  have X0 : Stand p l e ({ frames := 3, cells := 0, slots := 0, locals := 46 } : Room) s m #[(.ref a0)] below meth c s₁ [] 0 0 := Stand.of_body Bd
  have e0 : s₁.heap = h0 := by rw [← hh, Bd.state]; rfl
  have N0 := Fr.nil n0
  have pre0 : Go p.tables e below (s₁.setTop (entryFrame m #[(.ref a0)] 2)) s₁ (mkF m 0 #[.val (.ref a0), .unset] []) := fun t k => castTop (ef_pol2 m a0) k
  have K0 : Keep h0 h0 [a0, ha, pa] := Keep.refl _ _
  have pre1 : Go p.tables e below (s₁.setTop (entryFrame m #[(.ref a0)] 2)) s₁ (mkF m 1 #[.val (.ref a0), .unset] [(.ref a0)]) := fun t k => pre0 t (by
      refine XS.aloadN X0.here hx rfl (hb hby d11_0) rfl rfl ?_
      exact k)
  obtain ⟨T2, X2, e2, st2⟩ := getF X0 hx hZ hown (host := "") (Or.inl (hw _ (List.mem_of_getElem? (i := 13) rfl))) Via.refl e0 fi2 (g := (mkF m 1 #[.val (.ref a0), .unset] [(.ref a0)])) rfl rfl (hb hby d11_1)
  have pre2 : Go p.tables e below (s₁.setTop (entryFrame m #[(.ref a0)] 2)) T2 (mkF m 4 #[.val (.ref a0), .unset] [(.ref ha)]) := fun t k => pre1 t (st2 _ k)
  have pre3 : Go p.tables e below (s₁.setTop (entryFrame m #[(.ref a0)] 2)) T2 (mkF m 5 #[.val (.ref a0), .unset] [(.int (0 : Int32)), (.ref ha)]) := fun t k => pre2 t (by
      refine XS.iconst X2.here hx rfl (hb hby d11_4) ?_
      exact k)
  obtain ⟨c4, Ar4, q4, S4, M4, H4, G4⟩ := (id fi6)
  have hin4 : ¬ ((0 : Int32) < 0 ∨ c4.slots.size ≤ ((0 : Int32)).toNatClampNeg) := inb_of S4 ⟨by decide, by decide⟩
  have pre4 : Go p.tables e below (s₁.setTop (entryFrame m #[(.ref a0)] 2)) T2 (mkF m 6 #[.val (.ref a0), .unset] [(.int (2 : Int32))]) := fun t k => pre3 t (X2.iaload hx (j := (0 : Int32)) (v := (.int (2 : Int32))) (by rw [e2]; exact Ar4.1) (State.isArrayOf_alike hZ.alike Ar4.2.1) Ar4.2.2 hin4 (H4.at hin4 rfl) (g := (mkF m 5 #[.val (.ref a0), .unset] [(.int (0 : Int32)), (.ref ha)])) rfl rfl (hb hby d11_5) _ k)
  have pre5 : Go p.tables e below (s₁.setTop (entryFrame m #[(.ref a0)] 2)) T2 (mkF m 9 #[.val (.ref a0), .val (.int (2 : Int32))] [(.int (2 : Int32)), (.ref a0)]) := fun t k => pre4 t (by
      refine XS.istoreN X2.here hx rfl (hb hby d11_6) rfl (l' := #[.val (.ref a0), .val (.int (2 : Int32))]) rfl ?_
      show Steps p.tables e below (T2.setTop (mkF m 7 #[.val (.ref a0), .val (.int (2 : Int32))] [])) _
      refine XS.aloadN X2.here hx rfl (hb hby d11_7) rfl rfl ?_
      show Steps p.tables e below (T2.setTop (mkF m 8 #[.val (.ref a0), .val (.int (2 : Int32))] [(.ref a0)])) _
      refine XS.iloadN X2.here hx rfl (hb hby d11_8) rfl ?_
      exact k)
  obtain ⟨cq6, kq6, q6a, q6b, q6c⟩ := isOf hZ e2 fi0
  obtain ⟨_, _, ⟨T6, L6, k6, n6⟩, -, X6, ⟨Lc6, hQ6, l6, y6, z6⟩, st6⟩ := X2.virtualBack hx (y := (⟨"com/example/octopoll/octopoll/PageHeap", "remove", "(I)V"⟩ : MethodName)) (z := (⟨"com/example/octopoll/octopoll/PageHeap", "remove", "(I)V"⟩ : MethodName)) hown (mvT hZ (hw _ (List.mem_of_getElem? (i := 61) rfl))) (mvT hZ (hw _ (List.mem_of_getElem? (i := 48) rfl))) (notFace_of_selects (args := #[]) (mvT hZ (hw _ (List.mem_of_getElem? (i := 50) rfl)))) (mvT hZ (hw _ (List.mem_of_getElem? (i := 50) rfl))) (mvT hZ (hw _ (List.mem_of_getElem? (i := 49) rfl))) (by decide) (backOf (W := 0) (rm_rem2 l Z av0 hw [] a0 ka ha pa kk kh kp d0 d1 d2 (2 : Int32) x1 x2 y0 y1 y2 b0 b1 h0 n0 Z0 fi0 fi1 fi2 fi3 fi4 fi5 fi6 fi7 g_a0 g_ha g_pa ne_a0_ha ne_a0_pa ne_ha_pa ne_a0_ka ne_ka_ha ne_ka_pa hS) hZ (hw _ (List.mem_of_getElem? (i := 51) rfl)) (hw _ (List.mem_of_getElem? (i := 3) rfl)) (by decide) (by decide)) q6a q6c (g := (mkF m 9 #[.val (.ref a0), .val (.int (2 : Int32))] [(.int (2 : Int32)), (.ref a0)])) rfl (by rw [hml]; rfl) (Steps.refl _) (argsL := [(.int (2 : Int32))]) (rest := []) (lenOf pd_2 rfl) rfl (by show 2 * 0 + _ ≤ _; exact Nat.le_of_eq rfl) (hb hby d11_9) (fun _ _ => ⟨rfl, e2, (by decide : 0 + 0 ≤ _), (by decide : 0 + 0 ≤ _)⟩)
  dsimp only [Pt.U, Pt.locs, Pt.cells, Pt.slots] at X6 l6 y6 z6 st6 hQ6
  subst l6 y6 z6
  obtain ⟨z06, z16, z26, z36, z46, z56, hv6, N6q, K6, fo6_0, fo6_1, fo6_2, fo6_3, fo6_4, fo6_5, fo6_6, po6_0⟩ := hQ6
  have f7 : n0 ≤ T6.heap.size := Nat.le_trans Z0 K6.1
  have f8 : Exa Z T6.heap a0 "com/example/octopoll/octopoll/PageHeap" := fi0.keep K6
  have f9 : Arv Z T6.heap ka kk .double (3 : Int32) [(.double d0), (.double d1), (.double d2)] (.double 0) := fi5.keep K6 (ninS ne_a0_ka.symm (ninS ne_ka_ha (ninS ne_ka_pa nin0)))
  have f10 : Keep h0 T6.heap [a0, ha, pa] := K0.trans K6 (allS (Or.inl (List.mem_of_getElem? (i := 0) rfl)) (allS (Or.inl (List.mem_of_getElem? (i := 1) rfl)) (allS (Or.inl (List.mem_of_getElem? (i := 2) rfl)) all0)))
  subst hv6
  have N6 := Fr.app N0 N6q
  have pre6 : Go p.tables e below (s₁.setTop (entryFrame m #[(.ref a0)] 2)) T6 (mkF m 12 #[.val (.ref a0), .val (.int (2 : Int32))] []) := fun t k => pre5 t (st6.trans k)
  have pre11 : Go p.tables e below (s₁.setTop (entryFrame m #[(.ref a0)] 2)) T6 (mkF m 13 #[.val (.ref a0), .val (.int (2 : Int32))] [(.int (2 : Int32))]) := fun t k => pre6 t (by
      refine XS.iloadN X6.here hx rfl (hb hby d11_12) rfl ?_
      exact k)
  obtain ⟨fs, hr, hrun, hended, hW, hsame⟩ := X6.leave (v := some (.int (2 : Int32))) (fun h => by rw [Bd.returns] at h; cases h) (BodyLoose.notSynchronized Bd)
  refine ⟨_, _, pre11 _ ?_, hrun, hended, _, _, rfl, ?_, ⟨_, rfl⟩, hW, hsame.mono (Nat.le_of_ble_eq_true rfl) (Nat.le_of_ble_eq_true rfl)⟩
  · exact retI X6 hx Bd.returns (hb hby d11_13) hr
  · show Q_pol2 Z a0 ka ha pa kk kh kp d0 d1 d2 x1 x2 y0 y1 y2 b0 b1 h0 n0 _ T6.heap _
    exact ⟨z06, z16, z26, z36, z46, z56, rfl, N6, f10, fo6_0, fo6_1, fo6_2, fo6_3, fo6_4, fo6_5, fo6_6, po6_0⟩
theorem d8_0 : decode prog_17_method_3_code 0 = .ok (.aload_n 0, 1) := by decide +kernel
theorem d8_1 : decode prog_17_method_3_code 1 = .ok (.getfield 17, 3) := by decide +kernel
theorem d8_4 : decode prog_17_method_3_code 4 = .ok (.iload_n 1, 1) := by decide +kernel
theorem d8_5 : decode prog_17_method_3_code 5 = .ok (.iaload, 1) := by decide +kernel
theorem d8_6 : decode prog_17_method_3_code 6 = .ok (.ifCond .lt 7, 3) := by decide +kernel
theorem d8_9 : decode prog_17_method_3_code 9 = .ok (.iconst 1, 1) := by decide +kernel
theorem d8_10 : decode prog_17_method_3_code 10 = .ok (.goto 4, 3) := by decide +kernel
theorem d8_13 : decode prog_17_method_3_code 13 = .ok (.iconst 0, 1) := by decide +kernel
theorem d8_14 : decode prog_17_method_3_code 14 = .ok (.ireturn, 1) := by decide +kernel
theorem pn_con0 : plainName "com/example/octopoll/octopoll/PageHeap" = true := by first | (simp [plainName, overriddenIn]; done) | decide +kernel
theorem ef_con0 (m : MethodId) (a0 : Addr) : entryFrame m #[(.ref a0), (.int (0 : Int32))] 2 = mkF m 0 #[.val (.ref a0), .val (.int (0 : Int32))] [] := by first | (simp [entryFrame, mkF, argsToLocals, Value.category]; done) | rfl
def Q_con0 (Z : State) (a0 : Addr) (pa : Addr) (kp : ClassId) (y0 : Int32) (y1 : Int32) (y2 : Int32) (h0 : Heap) (n0 : Nat) (v : Option Value) (h : Heap) (L : List Loc) : Prop := v = some (.int (own_c y0)) ∧ Fr n0 L ∧ h = h0
set_option maxRecDepth 65536 in
set_option maxHeartbeats 40000000 in
theorem rm_con0 (l : Launch) (Z : State) (av0 : Array Value) (hw : ∀ d ∈ tables_1, d.before av0 Z = true) (ws : List Jvm.Cond) (a0 : Addr) (pa : Addr) (kp : ClassId) (y0 : Int32) (y1 : Int32) (y2 : Int32) (h0 : Heap) (n0 : Nat) (fi0 : Fld Z h0 a0 "com/example/octopoll/octopoll/PageHeap" "position" "[I" (.ref pa)) (fi1 : Arv Z h0 pa kp .int (3 : Int32) [(.int y0), (.int y1), (.int y2)] (.int (0 : Int32))) :
    MetFree l (⟨"com/example/octopoll/octopoll/PageHeap", "contains", "(I)Z"⟩ : MethodName) (head1 (Jvm.Cond.code (⟨"com/example/octopoll/octopoll/PageHeap", "contains", "(I)Z"⟩ : MethodName) prog_17_method_3_code 2 (some .boolean) :: ws) ({ frames := 0, cells := 0, slots := 0, locals := 0 } : Room)) (fun a U => a = #[(.ref a0), (.int (0 : Int32))] ∧ Z.Warmed39 U.vm ∧ U.heap = h0) (fun _ _ _ _ _ => True) (fun _ U o U' => ∃ v L, o = .returned v ∧ Q_con0 Z a0 pa kp y0 y1 y2 h0 n0 v U'.heap L ∧ FrameEnd U o U' L ({ frames := 0, cells := 0, slots := 0, locals := 0 } : Room).cells ({ frames := 0, cells := 0, slots := 0, locals := 0 } : Room).slots) := by
  refine MetFree.of_bodySF (plainFor_of_name pn_con0) hisR ?_
  intro p e s m args below meth c s₁ Bd hml0 hP hK
  obtain ⟨rfl, hZ, hh⟩ := hP
  have hx := Bd.exec
  have hby := Bd.bytes
  have hml : c.maxLocals = 2 := hml0
  have hown : s.vm.findClass "com/example/octopoll/octopoll/PageHeap" = some m.cls := findClass_of_methodNamed Bd.named
  have hnm := (name_of_methodNamed Bd.named Bd.method).1
  have X0 : Stand p l e ({ frames := 0, cells := 0, slots := 0, locals := 0 } : Room) s m #[(.ref a0), (.int (0 : Int32))] below meth c s₁ [] 0 0 := Stand.of_body Bd
  have e0 : s₁.heap = h0 := by rw [← hh, Bd.state]; rfl
  have N0 := Fr.nil n0
  have pre0 : Go p.tables e below (s₁.setTop (entryFrame m #[(.ref a0), (.int (0 : Int32))] 2)) s₁ (mkF m 0 #[.val (.ref a0), .val (.int (0 : Int32))] []) := fun t k => castTop (ef_con0 m a0) k
  have pre1 : Go p.tables e below (s₁.setTop (entryFrame m #[(.ref a0), (.int (0 : Int32))] 2)) s₁ (mkF m 1 #[.val (.ref a0), .val (.int (0 : Int32))] [(.ref a0)]) := fun t k => pre0 t (by
      refine XS.aloadN X0.here hx rfl (hb hby d8_0) rfl rfl ?_
      exact k)
  obtain ⟨T2, X2, e2, st2⟩ := getF X0 hx hZ hown (host := "") (Or.inl (hw _ (List.mem_of_getElem? (i := 15) rfl))) Via.refl e0 fi0 (g := (mkF m 1 #[.val (.ref a0), .val (.int (0 : Int32))] [(.ref a0)])) rfl rfl (hb hby d8_1)
  have pre2 : Go p.tables e below (s₁.setTop (entryFrame m #[(.ref a0), (.int (0 : Int32))] 2)) T2 (mkF m 4 #[.val (.ref a0), .val (.int (0 : Int32))] [(.ref pa)]) := fun t k => pre1 t (st2 _ k)
  have pre3 : Go p.tables e below (s₁.setTop (entryFrame m #[(.ref a0), (.int (0 : Int32))] 2)) T2 (mkF m 5 #[.val (.ref a0), .val (.int (0 : Int32))] [(.int (0 : Int32)), (.ref pa)]) := fun t k => pre2 t (by
      refine XS.iloadN X2.here hx rfl (hb hby d8_4) rfl ?_
      exact k)
  obtain ⟨c4, Ar4, q4, S4, M4, H4, G4⟩ := (id fi1)
  have hin4 : ¬ ((0 : Int32) < 0 ∨ c4.slots.size ≤ ((0 : Int32)).toNatClampNeg) := inb_of S4 ⟨by decide, by decide⟩
  have pre4 : Go p.tables e below (s₁.setTop (entryFrame m #[(.ref a0), (.int (0 : Int32))] 2)) T2 (mkF m 6 #[.val (.ref a0), .val (.int (0 : Int32))] [(.int y0)]) := fun t k => pre3 t (X2.iaload hx (j := (0 : Int32)) (v := (.int y0)) (by rw [e2]; exact Ar4.1) (State.isArrayOf_alike hZ.alike Ar4.2.1) Ar4.2.2 hin4 (H4.at hin4 rfl) (g := (mkF m 5 #[.val (.ref a0), .val (.int (0 : Int32))] [(.int (0 : Int32)), (.ref pa)])) rfl rfl (hb hby d8_5) _ k)
  by_cases hc5 : y0 < (0 : Int32)
  · -- hc5: True
    have pre6 : Go p.tables e below (s₁.setTop (entryFrame m #[(.ref a0), (.int (0 : Int32))] 2)) T2 (mkF m 14 #[.val (.ref a0), .val (.int (0 : Int32))] [(.int (0 : Int32))]) := fun t k => pre4 t (by
        refine XS.ifYes X2.here hx rfl (pc0 := 6) (pc' := 13) rfl (hb hby d8_6) rfl ((if0 _ _).trans (tlt hc5).1) (by decide) (by decide) ?_
        show Steps p.tables e below (T2.setTop (mkF m 13 #[.val (.ref a0), .val (.int (0 : Int32))] [])) _
        refine XS.iconst X2.here hx rfl (hb hby d8_13) ?_
        exact k)
    obtain ⟨fs, hr, hrun, hended, hW, hsame⟩ := X2.leave (v := some (.int (0 : Int32))) (fun h => by rw [Bd.returns] at h; cases h) (BodyLoose.notSynchronized Bd)
    refine ⟨_, _, pre6 _ ?_, hrun, hended, _, _, rfl, ?_, ⟨_, rfl⟩, hW, hsame.mono (Nat.le_of_ble_eq_true rfl) (Nat.le_of_ble_eq_true rfl)⟩
    · exact retN X2 hx (t := .boolean) Bd.returns (by simp) (hb hby d8_14) hr
    · show Q_con0 Z a0 pa kp y0 y1 y2 h0 n0 _ T2.heap _
      rw [e2]
      exact ⟨(by simp [own_c, hc5]), N0, rfl⟩
  · -- hc5: False
    have pre7 : Go p.tables e below (s₁.setTop (entryFrame m #[(.ref a0), (.int (0 : Int32))] 2)) T2 (mkF m 14 #[.val (.ref a0), .val (.int (0 : Int32))] [(.int (1 : Int32))]) := fun t k => pre4 t (by
        refine XS.ifNo X2.here hx rfl (hb hby d8_6) rfl ((if0 _ _).trans (flt hc5).1) ?_
        show Steps p.tables e below (T2.setTop (mkF m 9 #[.val (.ref a0), .val (.int (0 : Int32))] [])) _
        refine XS.iconst X2.here hx rfl (hb hby d8_9) ?_
        show Steps p.tables e below (T2.setTop (mkF m 10 #[.val (.ref a0), .val (.int (0 : Int32))] [(.int (1 : Int32))])) _
        refine XS.goto X2.here hx rfl (pc0 := 10) (pc' := 14) rfl (hb hby d8_10) (by decide) (by decide) ?_
        exact k)
    obtain ⟨fs, hr, hrun, hended, hW, hsame⟩ := X2.leave (v := some (.int (1 : Int32))) (fun h => by rw [Bd.returns] at h; cases h) (BodyLoose.notSynchronized Bd)
    refine ⟨_, _, pre7 _ ?_, hrun, hended, _, _, rfl, ?_, ⟨_, rfl⟩, hW, hsame.mono (Nat.le_of_ble_eq_true rfl) (Nat.le_of_ble_eq_true rfl)⟩
    · exact retN X2 hx (t := .boolean) Bd.returns (by simp) (hb hby d8_14) hr
    · show Q_con0 Z a0 pa kp y0 y1 y2 h0 n0 _ T2.heap _
      rw [e2]
      exact ⟨(by simp [own_c, hc5]), N0, rfl⟩
theorem pn_con1 : plainName "com/example/octopoll/octopoll/PageHeap" = true := by first | (simp [plainName, overriddenIn]; done) | decide +kernel
theorem ef_con1 (m : MethodId) (a0 : Addr) : entryFrame m #[(.ref a0), (.int (1 : Int32))] 2 = mkF m 0 #[.val (.ref a0), .val (.int (1 : Int32))] [] := by first | (simp [entryFrame, mkF, argsToLocals, Value.category]; done) | rfl
def Q_con1 (Z : State) (a0 : Addr) (pa : Addr) (kp : ClassId) (y0 : Int32) (y1 : Int32) (y2 : Int32) (h0 : Heap) (n0 : Nat) (v : Option Value) (h : Heap) (L : List Loc) : Prop := v = some (.int (own_c y1)) ∧ Fr n0 L ∧ h = h0
set_option maxRecDepth 65536 in
set_option maxHeartbeats 40000000 in
theorem rm_con1 (l : Launch) (Z : State) (av0 : Array Value) (hw : ∀ d ∈ tables_1, d.before av0 Z = true) (ws : List Jvm.Cond) (a0 : Addr) (pa : Addr) (kp : ClassId) (y0 : Int32) (y1 : Int32) (y2 : Int32) (h0 : Heap) (n0 : Nat) (fi0 : Fld Z h0 a0 "com/example/octopoll/octopoll/PageHeap" "position" "[I" (.ref pa)) (fi1 : Arv Z h0 pa kp .int (3 : Int32) [(.int y0), (.int y1), (.int y2)] (.int (0 : Int32))) :
    MetFree l (⟨"com/example/octopoll/octopoll/PageHeap", "contains", "(I)Z"⟩ : MethodName) (head1 (Jvm.Cond.code (⟨"com/example/octopoll/octopoll/PageHeap", "contains", "(I)Z"⟩ : MethodName) prog_17_method_3_code 2 (some .boolean) :: ws) ({ frames := 0, cells := 0, slots := 0, locals := 0 } : Room)) (fun a U => a = #[(.ref a0), (.int (1 : Int32))] ∧ Z.Warmed39 U.vm ∧ U.heap = h0) (fun _ _ _ _ _ => True) (fun _ U o U' => ∃ v L, o = .returned v ∧ Q_con1 Z a0 pa kp y0 y1 y2 h0 n0 v U'.heap L ∧ FrameEnd U o U' L ({ frames := 0, cells := 0, slots := 0, locals := 0 } : Room).cells ({ frames := 0, cells := 0, slots := 0, locals := 0 } : Room).slots) := by
  refine MetFree.of_bodySF (plainFor_of_name pn_con1) hisR ?_
  intro p e s m args below meth c s₁ Bd hml0 hP hK
  obtain ⟨rfl, hZ, hh⟩ := hP
  have hx := Bd.exec
  have hby := Bd.bytes
  have hml : c.maxLocals = 2 := hml0
  have hown : s.vm.findClass "com/example/octopoll/octopoll/PageHeap" = some m.cls := findClass_of_methodNamed Bd.named
  have hnm := (name_of_methodNamed Bd.named Bd.method).1
  have X0 : Stand p l e ({ frames := 0, cells := 0, slots := 0, locals := 0 } : Room) s m #[(.ref a0), (.int (1 : Int32))] below meth c s₁ [] 0 0 := Stand.of_body Bd
  have e0 : s₁.heap = h0 := by rw [← hh, Bd.state]; rfl
  have N0 := Fr.nil n0
  have pre0 : Go p.tables e below (s₁.setTop (entryFrame m #[(.ref a0), (.int (1 : Int32))] 2)) s₁ (mkF m 0 #[.val (.ref a0), .val (.int (1 : Int32))] []) := fun t k => castTop (ef_con1 m a0) k
  have pre1 : Go p.tables e below (s₁.setTop (entryFrame m #[(.ref a0), (.int (1 : Int32))] 2)) s₁ (mkF m 1 #[.val (.ref a0), .val (.int (1 : Int32))] [(.ref a0)]) := fun t k => pre0 t (by
      refine XS.aloadN X0.here hx rfl (hb hby d8_0) rfl rfl ?_
      exact k)
  obtain ⟨T2, X2, e2, st2⟩ := getF X0 hx hZ hown (host := "") (Or.inl (hw _ (List.mem_of_getElem? (i := 15) rfl))) Via.refl e0 fi0 (g := (mkF m 1 #[.val (.ref a0), .val (.int (1 : Int32))] [(.ref a0)])) rfl rfl (hb hby d8_1)
  have pre2 : Go p.tables e below (s₁.setTop (entryFrame m #[(.ref a0), (.int (1 : Int32))] 2)) T2 (mkF m 4 #[.val (.ref a0), .val (.int (1 : Int32))] [(.ref pa)]) := fun t k => pre1 t (st2 _ k)
  have pre3 : Go p.tables e below (s₁.setTop (entryFrame m #[(.ref a0), (.int (1 : Int32))] 2)) T2 (mkF m 5 #[.val (.ref a0), .val (.int (1 : Int32))] [(.int (1 : Int32)), (.ref pa)]) := fun t k => pre2 t (by
      refine XS.iloadN X2.here hx rfl (hb hby d8_4) rfl ?_
      exact k)
  obtain ⟨c4, Ar4, q4, S4, M4, H4, G4⟩ := (id fi1)
  have hin4 : ¬ ((1 : Int32) < 0 ∨ c4.slots.size ≤ ((1 : Int32)).toNatClampNeg) := inb_of S4 ⟨by decide, by decide⟩
  have pre4 : Go p.tables e below (s₁.setTop (entryFrame m #[(.ref a0), (.int (1 : Int32))] 2)) T2 (mkF m 6 #[.val (.ref a0), .val (.int (1 : Int32))] [(.int y1)]) := fun t k => pre3 t (X2.iaload hx (j := (1 : Int32)) (v := (.int y1)) (by rw [e2]; exact Ar4.1) (State.isArrayOf_alike hZ.alike Ar4.2.1) Ar4.2.2 hin4 (H4.at hin4 rfl) (g := (mkF m 5 #[.val (.ref a0), .val (.int (1 : Int32))] [(.int (1 : Int32)), (.ref pa)])) rfl rfl (hb hby d8_5) _ k)
  by_cases hc5 : y1 < (0 : Int32)
  · -- hc5: True
    have pre6 : Go p.tables e below (s₁.setTop (entryFrame m #[(.ref a0), (.int (1 : Int32))] 2)) T2 (mkF m 14 #[.val (.ref a0), .val (.int (1 : Int32))] [(.int (0 : Int32))]) := fun t k => pre4 t (by
        refine XS.ifYes X2.here hx rfl (pc0 := 6) (pc' := 13) rfl (hb hby d8_6) rfl ((if0 _ _).trans (tlt hc5).1) (by decide) (by decide) ?_
        show Steps p.tables e below (T2.setTop (mkF m 13 #[.val (.ref a0), .val (.int (1 : Int32))] [])) _
        refine XS.iconst X2.here hx rfl (hb hby d8_13) ?_
        exact k)
    obtain ⟨fs, hr, hrun, hended, hW, hsame⟩ := X2.leave (v := some (.int (0 : Int32))) (fun h => by rw [Bd.returns] at h; cases h) (BodyLoose.notSynchronized Bd)
    refine ⟨_, _, pre6 _ ?_, hrun, hended, _, _, rfl, ?_, ⟨_, rfl⟩, hW, hsame.mono (Nat.le_of_ble_eq_true rfl) (Nat.le_of_ble_eq_true rfl)⟩
    · exact retN X2 hx (t := .boolean) Bd.returns (by simp) (hb hby d8_14) hr
    · show Q_con1 Z a0 pa kp y0 y1 y2 h0 n0 _ T2.heap _
      rw [e2]
      exact ⟨(by simp [own_c, hc5]), N0, rfl⟩
  · -- hc5: False
    have pre7 : Go p.tables e below (s₁.setTop (entryFrame m #[(.ref a0), (.int (1 : Int32))] 2)) T2 (mkF m 14 #[.val (.ref a0), .val (.int (1 : Int32))] [(.int (1 : Int32))]) := fun t k => pre4 t (by
        refine XS.ifNo X2.here hx rfl (hb hby d8_6) rfl ((if0 _ _).trans (flt hc5).1) ?_
        show Steps p.tables e below (T2.setTop (mkF m 9 #[.val (.ref a0), .val (.int (1 : Int32))] [])) _
        refine XS.iconst X2.here hx rfl (hb hby d8_9) ?_
        show Steps p.tables e below (T2.setTop (mkF m 10 #[.val (.ref a0), .val (.int (1 : Int32))] [(.int (1 : Int32))])) _
        refine XS.goto X2.here hx rfl (pc0 := 10) (pc' := 14) rfl (hb hby d8_10) (by decide) (by decide) ?_
        exact k)
    obtain ⟨fs, hr, hrun, hended, hW, hsame⟩ := X2.leave (v := some (.int (1 : Int32))) (fun h => by rw [Bd.returns] at h; cases h) (BodyLoose.notSynchronized Bd)
    refine ⟨_, _, pre7 _ ?_, hrun, hended, _, _, rfl, ?_, ⟨_, rfl⟩, hW, hsame.mono (Nat.le_of_ble_eq_true rfl) (Nat.le_of_ble_eq_true rfl)⟩
    · exact retN X2 hx (t := .boolean) Bd.returns (by simp) (hb hby d8_14) hr
    · show Q_con1 Z a0 pa kp y0 y1 y2 h0 n0 _ T2.heap _
      rw [e2]
      exact ⟨(by simp [own_c, hc5]), N0, rfl⟩
theorem pn_con2 : plainName "com/example/octopoll/octopoll/PageHeap" = true := by first | (simp [plainName, overriddenIn]; done) | decide +kernel
theorem ef_con2 (m : MethodId) (a0 : Addr) : entryFrame m #[(.ref a0), (.int (2 : Int32))] 2 = mkF m 0 #[.val (.ref a0), .val (.int (2 : Int32))] [] := by first | (simp [entryFrame, mkF, argsToLocals, Value.category]; done) | rfl
def Q_con2 (Z : State) (a0 : Addr) (pa : Addr) (kp : ClassId) (y0 : Int32) (y1 : Int32) (y2 : Int32) (h0 : Heap) (n0 : Nat) (v : Option Value) (h : Heap) (L : List Loc) : Prop := v = some (.int (own_c y2)) ∧ Fr n0 L ∧ h = h0
set_option maxRecDepth 65536 in
set_option maxHeartbeats 40000000 in
theorem rm_con2 (l : Launch) (Z : State) (av0 : Array Value) (hw : ∀ d ∈ tables_1, d.before av0 Z = true) (ws : List Jvm.Cond) (a0 : Addr) (pa : Addr) (kp : ClassId) (y0 : Int32) (y1 : Int32) (y2 : Int32) (h0 : Heap) (n0 : Nat) (fi0 : Fld Z h0 a0 "com/example/octopoll/octopoll/PageHeap" "position" "[I" (.ref pa)) (fi1 : Arv Z h0 pa kp .int (3 : Int32) [(.int y0), (.int y1), (.int y2)] (.int (0 : Int32))) :
    MetFree l (⟨"com/example/octopoll/octopoll/PageHeap", "contains", "(I)Z"⟩ : MethodName) (head1 (Jvm.Cond.code (⟨"com/example/octopoll/octopoll/PageHeap", "contains", "(I)Z"⟩ : MethodName) prog_17_method_3_code 2 (some .boolean) :: ws) ({ frames := 0, cells := 0, slots := 0, locals := 0 } : Room)) (fun a U => a = #[(.ref a0), (.int (2 : Int32))] ∧ Z.Warmed39 U.vm ∧ U.heap = h0) (fun _ _ _ _ _ => True) (fun _ U o U' => ∃ v L, o = .returned v ∧ Q_con2 Z a0 pa kp y0 y1 y2 h0 n0 v U'.heap L ∧ FrameEnd U o U' L ({ frames := 0, cells := 0, slots := 0, locals := 0 } : Room).cells ({ frames := 0, cells := 0, slots := 0, locals := 0 } : Room).slots) := by
  refine MetFree.of_bodySF (plainFor_of_name pn_con2) hisR ?_
  intro p e s m args below meth c s₁ Bd hml0 hP hK
  obtain ⟨rfl, hZ, hh⟩ := hP
  have hx := Bd.exec
  have hby := Bd.bytes
  have hml : c.maxLocals = 2 := hml0
  have hown : s.vm.findClass "com/example/octopoll/octopoll/PageHeap" = some m.cls := findClass_of_methodNamed Bd.named
  have hnm := (name_of_methodNamed Bd.named Bd.method).1
  have X0 : Stand p l e ({ frames := 0, cells := 0, slots := 0, locals := 0 } : Room) s m #[(.ref a0), (.int (2 : Int32))] below meth c s₁ [] 0 0 := Stand.of_body Bd
  have e0 : s₁.heap = h0 := by rw [← hh, Bd.state]; rfl
  have N0 := Fr.nil n0
  have pre0 : Go p.tables e below (s₁.setTop (entryFrame m #[(.ref a0), (.int (2 : Int32))] 2)) s₁ (mkF m 0 #[.val (.ref a0), .val (.int (2 : Int32))] []) := fun t k => castTop (ef_con2 m a0) k
  have pre1 : Go p.tables e below (s₁.setTop (entryFrame m #[(.ref a0), (.int (2 : Int32))] 2)) s₁ (mkF m 1 #[.val (.ref a0), .val (.int (2 : Int32))] [(.ref a0)]) := fun t k => pre0 t (by
      refine XS.aloadN X0.here hx rfl (hb hby d8_0) rfl rfl ?_
      exact k)
  obtain ⟨T2, X2, e2, st2⟩ := getF X0 hx hZ hown (host := "") (Or.inl (hw _ (List.mem_of_getElem? (i := 15) rfl))) Via.refl e0 fi0 (g := (mkF m 1 #[.val (.ref a0), .val (.int (2 : Int32))] [(.ref a0)])) rfl rfl (hb hby d8_1)
  have pre2 : Go p.tables e below (s₁.setTop (entryFrame m #[(.ref a0), (.int (2 : Int32))] 2)) T2 (mkF m 4 #[.val (.ref a0), .val (.int (2 : Int32))] [(.ref pa)]) := fun t k => pre1 t (st2 _ k)
  have pre3 : Go p.tables e below (s₁.setTop (entryFrame m #[(.ref a0), (.int (2 : Int32))] 2)) T2 (mkF m 5 #[.val (.ref a0), .val (.int (2 : Int32))] [(.int (2 : Int32)), (.ref pa)]) := fun t k => pre2 t (by
      refine XS.iloadN X2.here hx rfl (hb hby d8_4) rfl ?_
      exact k)
  obtain ⟨c4, Ar4, q4, S4, M4, H4, G4⟩ := (id fi1)
  have hin4 : ¬ ((2 : Int32) < 0 ∨ c4.slots.size ≤ ((2 : Int32)).toNatClampNeg) := inb_of S4 ⟨by decide, by decide⟩
  have pre4 : Go p.tables e below (s₁.setTop (entryFrame m #[(.ref a0), (.int (2 : Int32))] 2)) T2 (mkF m 6 #[.val (.ref a0), .val (.int (2 : Int32))] [(.int y2)]) := fun t k => pre3 t (X2.iaload hx (j := (2 : Int32)) (v := (.int y2)) (by rw [e2]; exact Ar4.1) (State.isArrayOf_alike hZ.alike Ar4.2.1) Ar4.2.2 hin4 (H4.at hin4 rfl) (g := (mkF m 5 #[.val (.ref a0), .val (.int (2 : Int32))] [(.int (2 : Int32)), (.ref pa)])) rfl rfl (hb hby d8_5) _ k)
  by_cases hc5 : y2 < (0 : Int32)
  · -- hc5: True
    have pre6 : Go p.tables e below (s₁.setTop (entryFrame m #[(.ref a0), (.int (2 : Int32))] 2)) T2 (mkF m 14 #[.val (.ref a0), .val (.int (2 : Int32))] [(.int (0 : Int32))]) := fun t k => pre4 t (by
        refine XS.ifYes X2.here hx rfl (pc0 := 6) (pc' := 13) rfl (hb hby d8_6) rfl ((if0 _ _).trans (tlt hc5).1) (by decide) (by decide) ?_
        show Steps p.tables e below (T2.setTop (mkF m 13 #[.val (.ref a0), .val (.int (2 : Int32))] [])) _
        refine XS.iconst X2.here hx rfl (hb hby d8_13) ?_
        exact k)
    obtain ⟨fs, hr, hrun, hended, hW, hsame⟩ := X2.leave (v := some (.int (0 : Int32))) (fun h => by rw [Bd.returns] at h; cases h) (BodyLoose.notSynchronized Bd)
    refine ⟨_, _, pre6 _ ?_, hrun, hended, _, _, rfl, ?_, ⟨_, rfl⟩, hW, hsame.mono (Nat.le_of_ble_eq_true rfl) (Nat.le_of_ble_eq_true rfl)⟩
    · exact retN X2 hx (t := .boolean) Bd.returns (by simp) (hb hby d8_14) hr
    · show Q_con2 Z a0 pa kp y0 y1 y2 h0 n0 _ T2.heap _
      rw [e2]
      exact ⟨(by simp [own_c, hc5]), N0, rfl⟩
  · -- hc5: False
    have pre7 : Go p.tables e below (s₁.setTop (entryFrame m #[(.ref a0), (.int (2 : Int32))] 2)) T2 (mkF m 14 #[.val (.ref a0), .val (.int (2 : Int32))] [(.int (1 : Int32))]) := fun t k => pre4 t (by
        refine XS.ifNo X2.here hx rfl (hb hby d8_6) rfl ((if0 _ _).trans (flt hc5).1) ?_
        show Steps p.tables e below (T2.setTop (mkF m 9 #[.val (.ref a0), .val (.int (2 : Int32))] [])) _
        refine XS.iconst X2.here hx rfl (hb hby d8_9) ?_
        show Steps p.tables e below (T2.setTop (mkF m 10 #[.val (.ref a0), .val (.int (2 : Int32))] [(.int (1 : Int32))])) _
        refine XS.goto X2.here hx rfl (pc0 := 10) (pc' := 14) rfl (hb hby d8_10) (by decide) (by decide) ?_
        exact k)
    obtain ⟨fs, hr, hrun, hended, hW, hsame⟩ := X2.leave (v := some (.int (1 : Int32))) (fun h => by rw [Bd.returns] at h; cases h) (BodyLoose.notSynchronized Bd)
    refine ⟨_, _, pre7 _ ?_, hrun, hended, _, _, rfl, ?_, ⟨_, rfl⟩, hW, hsame.mono (Nat.le_of_ble_eq_true rfl) (Nat.le_of_ble_eq_true rfl)⟩
    · exact retN X2 hx (t := .boolean) Bd.returns (by simp) (hb hby d8_14) hr
    · show Q_con2 Z a0 pa kp y0 y1 y2 h0 n0 _ T2.heap _
      rw [e2]
      exact ⟨(by simp [own_c, hc5]), N0, rfl⟩
theorem d3_0 : decode jdk_65_method_103_code 0 = .ok (.iconst 0, 1) := by decide +kernel
theorem d3_1 : decode jdk_65_method_103_code 1 = .ok (.istore_n 2, 1) := by decide +kernel
theorem d3_2 : decode jdk_65_method_103_code 2 = .ok (.aload_n 0, 1) := by decide +kernel
theorem d3_3 : decode jdk_65_method_103_code 3 = .ok (.arraylength, 1) := by decide +kernel
theorem d3_4 : decode jdk_65_method_103_code 4 = .ok (.istore_n 3, 1) := by decide +kernel
theorem d3_5 : decode jdk_65_method_103_code 5 = .ok (.iload_n 2, 1) := by decide +kernel
theorem d3_6 : decode jdk_65_method_103_code 6 = .ok (.iload_n 3, 1) := by decide +kernel
theorem d3_7 : decode jdk_65_method_103_code 7 = .ok (.if_icmp .ge 13, 3) := by decide +kernel
theorem d3_10 : decode jdk_65_method_103_code 10 = .ok (.aload_n 0, 1) := by decide +kernel
theorem d3_11 : decode jdk_65_method_103_code 11 = .ok (.iload_n 2, 1) := by decide +kernel
theorem d3_12 : decode jdk_65_method_103_code 12 = .ok (.iload_n 1, 1) := by decide +kernel
theorem d3_13 : decode jdk_65_method_103_code 13 = .ok (.iastore, 1) := by decide +kernel
theorem d3_14 : decode jdk_65_method_103_code 14 = .ok (.iinc 2 1, 3) := by decide +kernel
theorem d3_17 : decode jdk_65_method_103_code 17 = .ok (.goto (-12), 3) := by decide +kernel
theorem d3_20 : decode jdk_65_method_103_code 20 = .ok (.return_, 1) := by decide +kernel
theorem pn_fil : plainName "java/util/Arrays" = true := by first | (simp [plainName, overriddenIn]; done) | decide +kernel
theorem ef_fil (m : MethodId) (a0 : Addr) : entryFrame m #[(.ref a0), (.int (-1 : Int32))] 4 = mkF m 0 #[.val (.ref a0), .val (.int (-1 : Int32)), .unset, .unset] [] := by first | (simp [entryFrame, mkF, argsToLocals, Value.category]; done) | rfl
def Q_fil (Z : State) (a0 : Addr) (k0 : ClassId) (x0 : Int32) (x1 : Int32) (x2 : Int32) (h0 : Heap) (n0 : Nat) (v : Option Value) (h : Heap) (L : List Loc) : Prop := v = none ∧ Fr n0 L ∧ Keep h0 h [a0] ∧ Arv Z h a0 k0 .int (3 : Int32) [(.int (-1 : Int32)), (.int (-1 : Int32)), (.int (-1 : Int32))] (.int (0 : Int32))
set_option maxRecDepth 65536 in
set_option maxHeartbeats 40000000 in
theorem rm_fil (l : Launch) (Z : State) (av0 : Array Value) (hw : ∀ d ∈ tables_1, d.before av0 Z = true) (ws : List Jvm.Cond) (a0 : Addr) (k0 : ClassId) (x0 : Int32) (x1 : Int32) (x2 : Int32) (h0 : Heap) (n0 : Nat) (Z0 : n0 ≤ h0.size) (fi0 : Arv Z h0 a0 k0 .int (3 : Int32) [(.int x0), (.int x1), (.int x2)] (.int (0 : Int32))) (g_a0 : n0 ≤ a0) :
    MetFree l (⟨"java/util/Arrays", "fill", "([II)V"⟩ : MethodName) (head1 (Jvm.Cond.code (⟨"java/util/Arrays", "fill", "([II)V"⟩ : MethodName) jdk_65_method_103_code 4 none :: ws) ({ frames := 0, cells := 0, slots := 0, locals := 0 } : Room)) (fun a U => a = #[(.ref a0), (.int (-1 : Int32))] ∧ Z.Warmed39 U.vm ∧ U.heap = h0) (fun _ _ _ _ _ => True) (fun _ U o U' => ∃ v L, o = .returned v ∧ Q_fil Z a0 k0 x0 x1 x2 h0 n0 v U'.heap L ∧ FrameEnd U o U' L ({ frames := 0, cells := 0, slots := 0, locals := 0 } : Room).cells ({ frames := 0, cells := 0, slots := 0, locals := 0 } : Room).slots) := by
  refine MetFree.of_bodySF (plainFor_of_name pn_fil) hisR ?_
  intro p e s m args below meth c s₁ Bd hml0 hP hK
  obtain ⟨rfl, hZ, hh⟩ := hP
  have hx := Bd.exec
  have hby := Bd.bytes
  have hml : c.maxLocals = 4 := hml0
  have hown : s.vm.findClass "java/util/Arrays" = some m.cls := findClass_of_methodNamed Bd.named
  have hnm := (name_of_methodNamed Bd.named Bd.method).1
  have X0 : Stand p l e ({ frames := 0, cells := 0, slots := 0, locals := 0 } : Room) s m #[(.ref a0), (.int (-1 : Int32))] below meth c s₁ [] 0 0 := Stand.of_body Bd
  have e0 : s₁.heap = h0 := by rw [← hh, Bd.state]; rfl
  have N0 := Fr.nil n0
  have pre0 : Go p.tables e below (s₁.setTop (entryFrame m #[(.ref a0), (.int (-1 : Int32))] 4)) s₁ (mkF m 0 #[.val (.ref a0), .val (.int (-1 : Int32)), .unset, .unset] []) := fun t k => castTop (ef_fil m a0) k
  have K0 : Keep h0 h0 [a0] := Keep.refl _ _
  have pre1 : Go p.tables e below (s₁.setTop (entryFrame m #[(.ref a0), (.int (-1 : Int32))] 4)) s₁ (mkF m 3 #[.val (.ref a0), .val (.int (-1 : Int32)), .val (.int (0 : Int32)), .unset] [(.ref a0)]) := fun t k => pre0 t (by
      refine XS.iconst X0.here hx rfl (hb hby d3_0) ?_
      show Steps p.tables e below (s₁.setTop (mkF m 1 #[.val (.ref a0), .val (.int (-1 : Int32)), .unset, .unset] [(.int (0 : Int32))])) _
      refine XS.istoreN X0.here hx rfl (hb hby d3_1) rfl (l' := #[.val (.ref a0), .val (.int (-1 : Int32)), .val (.int (0 : Int32)), .unset]) rfl ?_
      show Steps p.tables e below (s₁.setTop (mkF m 2 #[.val (.ref a0), .val (.int (-1 : Int32)), .val (.int (0 : Int32)), .unset] [])) _
      refine XS.aloadN X0.here hx rfl (hb hby d3_2) rfl rfl ?_
      exact k)
  obtain ⟨c2, Ar2, q2, S2, M2, H2, G2⟩ := (id fi0)
  have pre2 : Go p.tables e below (s₁.setTop (entryFrame m #[(.ref a0), (.int (-1 : Int32))] 4)) s₁ (mkF m 4 #[.val (.ref a0), .val (.int (-1 : Int32)), .val (.int (0 : Int32)), .unset] [(.int (3 : Int32))]) := fun t k => pre1 t (X0.arraylength hx (by rw [e0]; exact Ar2.1) (State.isArrayOf_alike hZ.alike Ar2.2.1) (g := (mkF m 3 #[.val (.ref a0), .val (.int (-1 : Int32)), .val (.int (0 : Int32)), .unset] [(.ref a0)])) rfl rfl (hb hby d3_3) _ (by rw [len_of S2 M2]; exact k))
  have pre3 : Go p.tables e below (s₁.setTop (entryFrame m #[(.ref a0), (.int (-1 : Int32))] 4)) s₁ (mkF m 13 #[.val (.ref a0), .val (.int (-1 : Int32)), .val (.int (0 : Int32)), .val (.int (3 : Int32))] [(.int (-1 : Int32)), (.int (0 : Int32)), (.ref a0)]) := fun t k => pre2 t (by
      refine XS.istoreN X0.here hx rfl (hb hby d3_4) rfl (l' := #[.val (.ref a0), .val (.int (-1 : Int32)), .val (.int (0 : Int32)), .val (.int (3 : Int32))]) rfl ?_
      show Steps p.tables e below (s₁.setTop (mkF m 5 #[.val (.ref a0), .val (.int (-1 : Int32)), .val (.int (0 : Int32)), .val (.int (3 : Int32))] [])) _
      refine XS.iloadN X0.here hx rfl (hb hby d3_5) rfl ?_
      show Steps p.tables e below (s₁.setTop (mkF m 6 #[.val (.ref a0), .val (.int (-1 : Int32)), .val (.int (0 : Int32)), .val (.int (3 : Int32))] [(.int (0 : Int32))])) _
      refine XS.iloadN X0.here hx rfl (hb hby d3_6) rfl ?_
      show Steps p.tables e below (s₁.setTop (mkF m 7 #[.val (.ref a0), .val (.int (-1 : Int32)), .val (.int (0 : Int32)), .val (.int (3 : Int32))] [(.int (3 : Int32)), (.int (0 : Int32))])) _
      refine XS.icmpNo X0.here hx rfl (hb hby d3_7) rfl (tlt (by decide)).2.1 ?_
      show Steps p.tables e below (s₁.setTop (mkF m 10 #[.val (.ref a0), .val (.int (-1 : Int32)), .val (.int (0 : Int32)), .val (.int (3 : Int32))] [])) _
      refine XS.aloadN X0.here hx rfl (hb hby d3_10) rfl rfl ?_
      show Steps p.tables e below (s₁.setTop (mkF m 11 #[.val (.ref a0), .val (.int (-1 : Int32)), .val (.int (0 : Int32)), .val (.int (3 : Int32))] [(.ref a0)])) _
      refine XS.iloadN X0.here hx rfl (hb hby d3_11) rfl ?_
      show Steps p.tables e below (s₁.setTop (mkF m 12 #[.val (.ref a0), .val (.int (-1 : Int32)), .val (.int (0 : Int32)), .val (.int (3 : Int32))] [(.int (0 : Int32)), (.ref a0)])) _
      refine XS.iloadN X0.here hx rfl (hb hby d3_12) rfl ?_
      exact k)
  obtain ⟨c4, Ar4, q4, S4, M4, H4, G4⟩ := (id fi0)
  have hin4 : ¬ ((0 : Int32) < 0 ∨ c4.slots.size ≤ ((0 : Int32)).toNatClampNeg) := inb_of S4 ⟨by decide, by decide⟩
  obtain ⟨T4, h4, X4, e4, W4, st4⟩ := stI X0 hx hZ e0 Ar4 (j := (0 : Int32)) hin4 (g := (mkF m 13 #[.val (.ref a0), .val (.int (-1 : Int32)), .val (.int (0 : Int32)), .val (.int (3 : Int32))] [(.int (-1 : Int32)), (.int (0 : Int32)), (.ref a0)])) rfl rfl (hb hby d3_13)
  have fa4 : Arv Z h4 a0 k0 .int (3 : Int32) [(.int (-1 : Int32)), (.int x1), (.int x2)] (.int (0 : Int32)) := Arv.set Ar4 q4 S4 M4 H4 G4 rfl W4 0 rfl (Nat.le_of_ble_eq_true rfl)
  have N4 := Fr.snoc X4 N0 g_a0
  have f5 : n0 ≤ h4.size := Nat.le_trans Z0 (Keep.of_wr W4).1
  have f6 : Keep h0 h4 [a0] := K0.wr W4 (Or.inl (List.mem_of_getElem? (i := 0) rfl))
  have pre4 : Go p.tables e below (s₁.setTop (entryFrame m #[(.ref a0), (.int (-1 : Int32))] 4)) T4 (mkF m 14 #[.val (.ref a0), .val (.int (-1 : Int32)), .val (.int (0 : Int32)), .val (.int (3 : Int32))] []) := fun t k => pre3 t (st4 _ k)
  have pre7 : Go p.tables e below (s₁.setTop (entryFrame m #[(.ref a0), (.int (-1 : Int32))] 4)) T4 (mkF m 13 #[.val (.ref a0), .val (.int (-1 : Int32)), .val (.int (1 : Int32)), .val (.int (3 : Int32))] [(.int (-1 : Int32)), (.int (1 : Int32)), (.ref a0)]) := fun t k => pre4 t (by
      refine XS.iinc X4.here hx rfl (hb hby d3_14) rfl (l' := #[.val (.ref a0), .val (.int (-1 : Int32)), .val (.int (1 : Int32)), .val (.int (3 : Int32))]) rfl ?_
      show Steps p.tables e below (T4.setTop (mkF m 17 #[.val (.ref a0), .val (.int (-1 : Int32)), .val (.int (1 : Int32)), .val (.int (3 : Int32))] [])) _
      refine XS.goto X4.here hx rfl (pc0 := 17) (pc' := 5) rfl (hb hby d3_17) (by decide) (by decide) ?_
      show Steps p.tables e below (T4.setTop (mkF m 5 #[.val (.ref a0), .val (.int (-1 : Int32)), .val (.int (1 : Int32)), .val (.int (3 : Int32))] [])) _
      refine XS.iloadN X4.here hx rfl (hb hby d3_5) rfl ?_
      show Steps p.tables e below (T4.setTop (mkF m 6 #[.val (.ref a0), .val (.int (-1 : Int32)), .val (.int (1 : Int32)), .val (.int (3 : Int32))] [(.int (1 : Int32))])) _
      refine XS.iloadN X4.here hx rfl (hb hby d3_6) rfl ?_
      show Steps p.tables e below (T4.setTop (mkF m 7 #[.val (.ref a0), .val (.int (-1 : Int32)), .val (.int (1 : Int32)), .val (.int (3 : Int32))] [(.int (3 : Int32)), (.int (1 : Int32))])) _
      refine XS.icmpNo X4.here hx rfl (hb hby d3_7) rfl (tlt (by decide)).2.1 ?_
      show Steps p.tables e below (T4.setTop (mkF m 10 #[.val (.ref a0), .val (.int (-1 : Int32)), .val (.int (1 : Int32)), .val (.int (3 : Int32))] [])) _
      refine XS.aloadN X4.here hx rfl (hb hby d3_10) rfl rfl ?_
      show Steps p.tables e below (T4.setTop (mkF m 11 #[.val (.ref a0), .val (.int (-1 : Int32)), .val (.int (1 : Int32)), .val (.int (3 : Int32))] [(.ref a0)])) _
      refine XS.iloadN X4.here hx rfl (hb hby d3_11) rfl ?_
      show Steps p.tables e below (T4.setTop (mkF m 12 #[.val (.ref a0), .val (.int (-1 : Int32)), .val (.int (1 : Int32)), .val (.int (3 : Int32))] [(.int (1 : Int32)), (.ref a0)])) _
      refine XS.iloadN X4.here hx rfl (hb hby d3_12) rfl ?_
      exact k)
  obtain ⟨c8, Ar8, q8, S8, M8, H8, G8⟩ := (id fa4)
  have hin8 : ¬ ((1 : Int32) < 0 ∨ c8.slots.size ≤ ((1 : Int32)).toNatClampNeg) := inb_of S8 ⟨by decide, by decide⟩
  obtain ⟨T8, h8, X8, e8, W8, st8⟩ := stI X4 hx hZ e4 Ar8 (j := (1 : Int32)) hin8 (g := (mkF m 13 #[.val (.ref a0), .val (.int (-1 : Int32)), .val (.int (1 : Int32)), .val (.int (3 : Int32))] [(.int (-1 : Int32)), (.int (1 : Int32)), (.ref a0)])) rfl rfl (hb hby d3_13)
  have fa8 : Arv Z h8 a0 k0 .int (3 : Int32) [(.int (-1 : Int32)), (.int (-1 : Int32)), (.int x2)] (.int (0 : Int32)) := Arv.set Ar8 q8 S8 M8 H8 G8 rfl W8 1 rfl (Nat.le_of_ble_eq_true rfl)
  have N8 := Fr.snoc X8 N4 g_a0
  have f9 : n0 ≤ h8.size := Nat.le_trans f5 (Keep.of_wr W8).1
  have f10 : Keep h0 h8 [a0] := f6.wr W8 (Or.inl (List.mem_of_getElem? (i := 0) rfl))
  have pre8 : Go p.tables e below (s₁.setTop (entryFrame m #[(.ref a0), (.int (-1 : Int32))] 4)) T8 (mkF m 14 #[.val (.ref a0), .val (.int (-1 : Int32)), .val (.int (1 : Int32)), .val (.int (3 : Int32))] []) := fun t k => pre7 t (st8 _ k)
  have pre11 : Go p.tables e below (s₁.setTop (entryFrame m #[(.ref a0), (.int (-1 : Int32))] 4)) T8 (mkF m 13 #[.val (.ref a0), .val (.int (-1 : Int32)), .val (.int (2 : Int32)), .val (.int (3 : Int32))] [(.int (-1 : Int32)), (.int (2 : Int32)), (.ref a0)]) := fun t k => pre8 t (by
      refine XS.iinc X8.here hx rfl (hb hby d3_14) rfl (l' := #[.val (.ref a0), .val (.int (-1 : Int32)), .val (.int (2 : Int32)), .val (.int (3 : Int32))]) rfl ?_
      show Steps p.tables e below (T8.setTop (mkF m 17 #[.val (.ref a0), .val (.int (-1 : Int32)), .val (.int (2 : Int32)), .val (.int (3 : Int32))] [])) _
      refine XS.goto X8.here hx rfl (pc0 := 17) (pc' := 5) rfl (hb hby d3_17) (by decide) (by decide) ?_
      show Steps p.tables e below (T8.setTop (mkF m 5 #[.val (.ref a0), .val (.int (-1 : Int32)), .val (.int (2 : Int32)), .val (.int (3 : Int32))] [])) _
      refine XS.iloadN X8.here hx rfl (hb hby d3_5) rfl ?_
      show Steps p.tables e below (T8.setTop (mkF m 6 #[.val (.ref a0), .val (.int (-1 : Int32)), .val (.int (2 : Int32)), .val (.int (3 : Int32))] [(.int (2 : Int32))])) _
      refine XS.iloadN X8.here hx rfl (hb hby d3_6) rfl ?_
      show Steps p.tables e below (T8.setTop (mkF m 7 #[.val (.ref a0), .val (.int (-1 : Int32)), .val (.int (2 : Int32)), .val (.int (3 : Int32))] [(.int (3 : Int32)), (.int (2 : Int32))])) _
      refine XS.icmpNo X8.here hx rfl (hb hby d3_7) rfl (tlt (by decide)).2.1 ?_
      show Steps p.tables e below (T8.setTop (mkF m 10 #[.val (.ref a0), .val (.int (-1 : Int32)), .val (.int (2 : Int32)), .val (.int (3 : Int32))] [])) _
      refine XS.aloadN X8.here hx rfl (hb hby d3_10) rfl rfl ?_
      show Steps p.tables e below (T8.setTop (mkF m 11 #[.val (.ref a0), .val (.int (-1 : Int32)), .val (.int (2 : Int32)), .val (.int (3 : Int32))] [(.ref a0)])) _
      refine XS.iloadN X8.here hx rfl (hb hby d3_11) rfl ?_
      show Steps p.tables e below (T8.setTop (mkF m 12 #[.val (.ref a0), .val (.int (-1 : Int32)), .val (.int (2 : Int32)), .val (.int (3 : Int32))] [(.int (2 : Int32)), (.ref a0)])) _
      refine XS.iloadN X8.here hx rfl (hb hby d3_12) rfl ?_
      exact k)
  obtain ⟨c12, Ar12, q12, S12, M12, H12, G12⟩ := (id fa8)
  have hin12 : ¬ ((2 : Int32) < 0 ∨ c12.slots.size ≤ ((2 : Int32)).toNatClampNeg) := inb_of S12 ⟨by decide, by decide⟩
  obtain ⟨T12, h12, X12, e12, W12, st12⟩ := stI X8 hx hZ e8 Ar12 (j := (2 : Int32)) hin12 (g := (mkF m 13 #[.val (.ref a0), .val (.int (-1 : Int32)), .val (.int (2 : Int32)), .val (.int (3 : Int32))] [(.int (-1 : Int32)), (.int (2 : Int32)), (.ref a0)])) rfl rfl (hb hby d3_13)
  have fa12 : Arv Z h12 a0 k0 .int (3 : Int32) [(.int (-1 : Int32)), (.int (-1 : Int32)), (.int (-1 : Int32))] (.int (0 : Int32)) := Arv.set Ar12 q12 S12 M12 H12 G12 rfl W12 2 rfl (Nat.le_of_ble_eq_true rfl)
  have N12 := Fr.snoc X12 N8 g_a0
  have f13 : n0 ≤ h12.size := Nat.le_trans f9 (Keep.of_wr W12).1
  have f14 : Keep h0 h12 [a0] := f10.wr W12 (Or.inl (List.mem_of_getElem? (i := 0) rfl))
  have pre12 : Go p.tables e below (s₁.setTop (entryFrame m #[(.ref a0), (.int (-1 : Int32))] 4)) T12 (mkF m 14 #[.val (.ref a0), .val (.int (-1 : Int32)), .val (.int (2 : Int32)), .val (.int (3 : Int32))] []) := fun t k => pre11 t (st12 _ k)
  have pre15 : Go p.tables e below (s₁.setTop (entryFrame m #[(.ref a0), (.int (-1 : Int32))] 4)) T12 (mkF m 20 #[.val (.ref a0), .val (.int (-1 : Int32)), .val (.int (3 : Int32)), .val (.int (3 : Int32))] []) := fun t k => pre12 t (by
      refine XS.iinc X12.here hx rfl (hb hby d3_14) rfl (l' := #[.val (.ref a0), .val (.int (-1 : Int32)), .val (.int (3 : Int32)), .val (.int (3 : Int32))]) rfl ?_
      show Steps p.tables e below (T12.setTop (mkF m 17 #[.val (.ref a0), .val (.int (-1 : Int32)), .val (.int (3 : Int32)), .val (.int (3 : Int32))] [])) _
      refine XS.goto X12.here hx rfl (pc0 := 17) (pc' := 5) rfl (hb hby d3_17) (by decide) (by decide) ?_
      show Steps p.tables e below (T12.setTop (mkF m 5 #[.val (.ref a0), .val (.int (-1 : Int32)), .val (.int (3 : Int32)), .val (.int (3 : Int32))] [])) _
      refine XS.iloadN X12.here hx rfl (hb hby d3_5) rfl ?_
      show Steps p.tables e below (T12.setTop (mkF m 6 #[.val (.ref a0), .val (.int (-1 : Int32)), .val (.int (3 : Int32)), .val (.int (3 : Int32))] [(.int (3 : Int32))])) _
      refine XS.iloadN X12.here hx rfl (hb hby d3_6) rfl ?_
      show Steps p.tables e below (T12.setTop (mkF m 7 #[.val (.ref a0), .val (.int (-1 : Int32)), .val (.int (3 : Int32)), .val (.int (3 : Int32))] [(.int (3 : Int32)), (.int (3 : Int32))])) _
      refine XS.icmpYes X12.here hx rfl (pc0 := 7) (pc' := 20) rfl (hb hby d3_7) rfl (flt (by decide)).2.1 (by decide) (by decide) ?_
      exact k)
  obtain ⟨fs, hr, hrun, hended, hW, hsame⟩ := X12.leave (v := none) (fun _ => rfl) (BodyLoose.notSynchronized Bd)
  refine ⟨_, _, pre15 _ ?_, hrun, hended, _, _, rfl, ?_, ⟨_, rfl⟩, hW, hsame.mono (Nat.le_of_ble_eq_true rfl) (Nat.le_of_ble_eq_true rfl)⟩
  · exact X12.returnOut hx Bd.returns (hb hby d3_20) hr
  · show Q_fil Z a0 k0 x0 x1 x2 h0 n0 _ T12.heap _
    rw [e12]
    exact ⟨rfl, N12, f14, fa12⟩
theorem d1_0 : decode prog_17_method_1_code 0 = .ok (.aload_n 0, 1) := by decide +kernel
theorem d1_1 : decode prog_17_method_1_code 1 = .ok (.invokespecial 1, 3) := by decide +kernel
theorem d1_4 : decode prog_17_method_1_code 4 = .ok (.aload_n 0, 1) := by decide +kernel
theorem d1_5 : decode prog_17_method_1_code 5 = .ok (.aload_n 1, 1) := by decide +kernel
theorem d1_6 : decode prog_17_method_1_code 6 = .ok (.putfield 7, 3) := by decide +kernel
theorem d1_9 : decode prog_17_method_1_code 9 = .ok (.aload_n 0, 1) := by decide +kernel
theorem d1_10 : decode prog_17_method_1_code 10 = .ok (.aload_n 1, 1) := by decide +kernel
theorem d1_11 : decode prog_17_method_1_code 11 = .ok (.arraylength, 1) := by decide +kernel
theorem d1_12 : decode prog_17_method_1_code 12 = .ok (.newarray .int, 2) := by decide +kernel
theorem d1_14 : decode prog_17_method_1_code 14 = .ok (.putfield 13, 3) := by decide +kernel
theorem d1_17 : decode prog_17_method_1_code 17 = .ok (.aload_n 0, 1) := by decide +kernel
theorem d1_18 : decode prog_17_method_1_code 18 = .ok (.aload_n 1, 1) := by decide +kernel
theorem d1_19 : decode prog_17_method_1_code 19 = .ok (.arraylength, 1) := by decide +kernel
theorem d1_20 : decode prog_17_method_1_code 20 = .ok (.newarray .int, 2) := by decide +kernel
theorem d1_22 : decode prog_17_method_1_code 22 = .ok (.putfield 17, 3) := by decide +kernel
theorem d1_25 : decode prog_17_method_1_code 25 = .ok (.aload_n 0, 1) := by decide +kernel
theorem d1_26 : decode prog_17_method_1_code 26 = .ok (.getfield 17, 3) := by decide +kernel
theorem d1_29 : decode prog_17_method_1_code 29 = .ok (.iconst (-1), 1) := by decide +kernel
theorem d1_30 : decode prog_17_method_1_code 30 = .ok (.invokestatic 20, 3) := by decide +kernel
theorem d1_33 : decode prog_17_method_1_code 33 = .ok (.return_, 1) := by decide +kernel
theorem pn_ini : plainName "com/example/octopoll/octopoll/PageHeap" = true := by first | (simp [plainName, overriddenIn]; done) | decide +kernel
theorem ef_ini (m : MethodId) (a0 : Addr) (ka : Addr) : entryFrame m #[(.ref a0), (.ref ka)] 2 = mkF m 0 #[.val (.ref a0), .val (.ref ka)] [] := by first | (simp [entryFrame, mkF, argsToLocals, Value.category]; done) | rfl
def Q_ini (Z : State) (a0 : Addr) (ka : Addr) (kk : ClassId) (d0 : UInt64) (d1 : UInt64) (d2 : UInt64) (h0 : Heap) (n0 : Nat) (v : Option Value) (h : Heap) (L : List Loc) : Prop := ∃ (ha : Addr) (pa : Addr) (kh : ClassId) (kp : ClassId), v = none ∧ Fr n0 L ∧ Keep h0 h [a0] ∧ h0.size ≤ ha ∧ n0 ≤ ha ∧ h0.size ≤ pa ∧ n0 ≤ pa ∧ Exa Z h a0 "com/example/octopoll/octopoll/PageHeap" ∧ Fld Z h a0 "com/example/octopoll/octopoll/PageHeap" "key" "[D" (.ref ka) ∧ Fld Z h a0 "com/example/octopoll/octopoll/PageHeap" "heap" "[I" (.ref ha) ∧ Fld Z h a0 "com/example/octopoll/octopoll/PageHeap" "position" "[I" (.ref pa) ∧ Fld Z h a0 "com/example/octopoll/octopoll/PageHeap" "size" "I" (.int (0 : Int32)) ∧ Arv Z h ha kh .int (3 : Int32) [(.int (0 : Int32)), (.int (0 : Int32)), (.int (0 : Int32))] (.int (0 : Int32)) ∧ Arv Z h pa kp .int (3 : Int32) [(.int (-1 : Int32)), (.int (-1 : Int32)), (.int (-1 : Int32))] (.int (0 : Int32)) ∧ ha ≠ pa
set_option maxRecDepth 65536 in
set_option maxHeartbeats 40000000 in
theorem rm_ini (l : Launch) (Z : State) (av0 : Array Value) (hw : ∀ d ∈ tables_1, d.before av0 Z = true) (ws : List Jvm.Cond) (a0 : Addr) (ka : Addr) (kk : ClassId) (d0 : UInt64) (d1 : UInt64) (d2 : UInt64) (h0 : Heap) (n0 : Nat) (Z0 : n0 ≤ h0.size) (fi0 : Exa Z h0 a0 "com/example/octopoll/octopoll/PageHeap") (fi1 : Fld Z h0 a0 "com/example/octopoll/octopoll/PageHeap" "key" "[D" .null) (fi2 : Fld Z h0 a0 "com/example/octopoll/octopoll/PageHeap" "heap" "[I" .null) (fi3 : Fld Z h0 a0 "com/example/octopoll/octopoll/PageHeap" "position" "[I" .null) (fi4 : Fld Z h0 a0 "com/example/octopoll/octopoll/PageHeap" "size" "I" (.int (0 : Int32))) (fi5 : Arv Z h0 ka kk .double (3 : Int32) [(.double d0), (.double d1), (.double d2)] (.double 0)) (g_a0 : n0 ≤ a0) (ne_a0_ka : a0 ≠ ka) :
    MetFree l (⟨"com/example/octopoll/octopoll/PageHeap", "<init>", "([D)V"⟩ : MethodName) (head1 (Jvm.Cond.code (⟨"com/example/octopoll/octopoll/PageHeap", "<init>", "([D)V"⟩ : MethodName) prog_17_method_1_code 2 none :: ws) ({ frames := 1, cells := 2, slots := 6, locals := 15 } : Room)) (fun a U => a = #[(.ref a0), (.ref ka)] ∧ Z.Warmed39 U.vm ∧ U.heap = h0) (fun _ _ _ _ _ => True) (fun _ U o U' => ∃ v L, o = .returned v ∧ Q_ini Z a0 ka kk d0 d1 d2 h0 n0 v U'.heap L ∧ FrameEnd U o U' L ({ frames := 1, cells := 2, slots := 6, locals := 15 } : Room).cells ({ frames := 1, cells := 2, slots := 6, locals := 15 } : Room).slots) := by
  refine MetFree.of_bodySF (plainFor_of_name pn_ini) hisR ?_
  intro p e s m args below meth c s₁ Bd hml0 hP hK
  obtain ⟨rfl, hZ, hh⟩ := hP
  have hx := Bd.exec
  have hby := Bd.bytes
  have hml : c.maxLocals = 2 := hml0
  have hown : s.vm.findClass "com/example/octopoll/octopoll/PageHeap" = some m.cls := findClass_of_methodNamed Bd.named
  have hnm := (name_of_methodNamed Bd.named Bd.method).1
  have X0 : Stand p l e ({ frames := 1, cells := 2, slots := 6, locals := 15 } : Room) s m #[(.ref a0), (.ref ka)] below meth c s₁ [] 0 0 := Stand.of_body Bd
  have e0 : s₁.heap = h0 := by rw [← hh, Bd.state]; rfl
  have N0 := Fr.nil n0
  have pre0 : Go p.tables e below (s₁.setTop (entryFrame m #[(.ref a0), (.ref ka)] 2)) s₁ (mkF m 0 #[.val (.ref a0), .val (.ref ka)] []) := fun t k => castTop (ef_ini m a0 ka) k
  have K0 : Keep h0 h0 [a0] := Keep.refl _ _
  have pre1 : Go p.tables e below (s₁.setTop (entryFrame m #[(.ref a0), (.ref ka)] 2)) s₁ (mkF m 1 #[.val (.ref a0), .val (.ref ka)] [(.ref a0)]) := fun t k => pre0 t (by
      refine XS.aloadN X0.here hx rfl (hb hby d1_0) rfl rfl ?_
      exact k)
  obtain ⟨T2, X2, e2, st2⟩ := initO X0 hx hZ hown (hw _ (List.mem_of_getElem? (i := 7) rfl)) (hw _ (List.mem_of_getElem? (i := 8) rfl)) (hw _ (List.mem_of_getElem? (i := 9) rfl)) e0 (g := (mkF m 1 #[.val (.ref a0), .val (.ref ka)] [(.ref a0)])) rfl (by rw [hml]; rfl) rfl (hb hby d1_1) (by decide) (W := 0) (by show 2 * 0 + _ ≤ _; exact Nat.le_of_eq rfl) (by decide)
  have pre2 : Go p.tables e below (s₁.setTop (entryFrame m #[(.ref a0), (.ref ka)] 2)) T2 (mkF m 4 #[.val (.ref a0), .val (.ref ka)] []) := fun t k => pre1 t (st2 _ k)
  have pre3 : Go p.tables e below (s₁.setTop (entryFrame m #[(.ref a0), (.ref ka)] 2)) T2 (mkF m 6 #[.val (.ref a0), .val (.ref ka)] [(.ref ka), (.ref a0)]) := fun t k => pre2 t (by
      refine XS.aloadN X2.here hx rfl (hb hby d1_4) rfl rfl ?_
      show Steps p.tables e below (T2.setTop (mkF m 5 #[.val (.ref a0), .val (.ref ka)] [(.ref a0)])) _
      refine XS.aloadN X2.here hx rfl (hb hby d1_5) rfl rfl ?_
      exact k)
  obtain ⟨T4, h4, X4, e4, W4, st4⟩ := putF X2 hx hZ hown (host := "") (Or.inl (hw _ (List.mem_of_getElem? (i := 10) rfl))) Via.refl e2 fi1 fi0 (Or.inr ⟨(hw _ (List.mem_of_getElem? (i := 11) rfl)), rfl, hnm⟩) (hw _ (List.mem_of_getElem? (i := 2) rfl)) (ty := (.array .double)) (by decide) rfl rfl (g := (mkF m 6 #[.val (.ref a0), .val (.ref ka)] [(.ref ka), (.ref a0)])) rfl rfl (hb hby d1_6)
  have N4 := Fr.snoc X4 N0 g_a0
  have f5 : n0 ≤ h4.size := Nat.le_trans Z0 (Keep.of_wr W4).1
  have f6 : Exa Z h4 a0 "com/example/octopoll/octopoll/PageHeap" := fi0.wr W4
  have f7 : Fld Z h4 a0 "com/example/octopoll/octopoll/PageHeap" "key" "[D" (.ref ka) := fi1.same W4
  have f8 : Fld Z h4 a0 "com/example/octopoll/octopoll/PageHeap" "heap" "[I" .null := fi2.other W4 (Or.inr (slot_ne (Or.inr (hw _ (List.mem_of_getElem? (i := 14) rfl))) (Or.inr (hw _ (List.mem_of_getElem? (i := 11) rfl))) (by decide) (t := (.array .int)) (t' := (.array .double)) (by decide) (by decide)))
  have f9 : Fld Z h4 a0 "com/example/octopoll/octopoll/PageHeap" "position" "[I" .null := fi3.other W4 (Or.inr (slot_ne (Or.inr (hw _ (List.mem_of_getElem? (i := 16) rfl))) (Or.inr (hw _ (List.mem_of_getElem? (i := 11) rfl))) (by decide) (t := (.array .int)) (t' := (.array .double)) (by decide) (by decide)))
  have f10 : Fld Z h4 a0 "com/example/octopoll/octopoll/PageHeap" "size" "I" (.int (0 : Int32)) := fi4.other W4 (Or.inr (slot_ne (Or.inl (hw _ (List.mem_of_getElem? (i := 29) rfl))) (Or.inr (hw _ (List.mem_of_getElem? (i := 11) rfl))) (by decide) (t := .int) (t' := (.array .double)) (by decide) (by decide)))
  have f11 : Arv Z h4 ka kk .double (3 : Int32) [(.double d0), (.double d1), (.double d2)] (.double 0) := fi5.other W4 ne_a0_ka.symm
  have f12 : Keep h0 h4 [a0] := K0.wr W4 (Or.inl (List.mem_of_getElem? (i := 0) rfl))
  have pre4 : Go p.tables e below (s₁.setTop (entryFrame m #[(.ref a0), (.ref ka)] 2)) T4 (mkF m 9 #[.val (.ref a0), .val (.ref ka)] []) := fun t k => pre3 t (st4 _ k)
  have pre13 : Go p.tables e below (s₁.setTop (entryFrame m #[(.ref a0), (.ref ka)] 2)) T4 (mkF m 11 #[.val (.ref a0), .val (.ref ka)] [(.ref ka), (.ref a0)]) := fun t k => pre4 t (by
      refine XS.aloadN X4.here hx rfl (hb hby d1_9) rfl rfl ?_
      show Steps p.tables e below (T4.setTop (mkF m 10 #[.val (.ref a0), .val (.ref ka)] [(.ref a0)])) _
      refine XS.aloadN X4.here hx rfl (hb hby d1_10) rfl rfl ?_
      exact k)
  obtain ⟨c14, Ar14, q14, S14, M14, H14, G14⟩ := (id f11)
  have pre14 : Go p.tables e below (s₁.setTop (entryFrame m #[(.ref a0), (.ref ka)] 2)) T4 (mkF m 12 #[.val (.ref a0), .val (.ref ka)] [(.int (3 : Int32)), (.ref a0)]) := fun t k => pre13 t (X4.arraylength hx (by rw [e4]; exact Ar14.1) (State.isArrayOf_alike hZ.alike Ar14.2.1) (g := (mkF m 11 #[.val (.ref a0), .val (.ref ka)] [(.ref ka), (.ref a0)])) rfl rfl (hb hby d1_11) _ (by rw [len_of S14 M14]; exact k))
  obtain ⟨T15, h15, k15, X15, e15, E15, A15, st15⟩ := newP X4 hx hZ (hw _ (List.mem_of_getElem? (i := 12) rfl)) e4 (g := (mkF m 12 #[.val (.ref a0), .val (.ref ka)] [(.int (3 : Int32)), (.ref a0)])) rfl (hb hby d1_12) rfl (by decide) (cap := 3) (by decide) (by decide) (by decide) (by decide)
  obtain ⟨b15, ga15⟩ : ∃ z, z = h4.size := ⟨_, rfl⟩
  rw [← ga15] at A15 st15
  have ne16 : a0 ≠ b15 := Nat.ne_of_lt (Nat.lt_of_lt_of_le f6.lt (Nat.le_of_eq ga15.symm))
  have ne17 : ka ≠ b15 := Nat.ne_of_lt (Nat.lt_of_lt_of_le f11.lt (Nat.le_of_eq ga15.symm))
  have g18 : n0 ≤ b15 := Nat.le_trans f5 (Nat.le_of_eq ga15.symm)
  have sz19 : h0.size ≤ b15 := Nat.le_trans f12.1 (Nat.le_of_eq ga15.symm)
  have f20 : n0 ≤ h15.size := Nat.le_trans f5 E15.1
  have f21 : Exa Z h15 a0 "com/example/octopoll/octopoll/PageHeap" := f6.ext E15
  have f22 : Fld Z h15 a0 "com/example/octopoll/octopoll/PageHeap" "key" "[D" (.ref ka) := f7.ext E15
  have f23 : Fld Z h15 a0 "com/example/octopoll/octopoll/PageHeap" "heap" "[I" .null := f8.ext E15
  have f24 : Fld Z h15 a0 "com/example/octopoll/octopoll/PageHeap" "position" "[I" .null := f9.ext E15
  have f25 : Fld Z h15 a0 "com/example/octopoll/octopoll/PageHeap" "size" "I" (.int (0 : Int32)) := f10.ext E15
  have f26 : Arv Z h15 ka kk .double (3 : Int32) [(.double d0), (.double d1), (.double d2)] (.double 0) := f11.ext E15
  have f27 : Keep h0 h15 [a0] := f12.ext E15
  have f28 : Arv Z h15 b15 k15 .int (3 : Int32) [(.int (0 : Int32)), (.int (0 : Int32)), (.int (0 : Int32))] (.int (0 : Int32)) := (Arv.new A15 (by decide)).pad (pad_rep [] (.int (0 : Int32)) 3)
  have pre15 : Go p.tables e below (s₁.setTop (entryFrame m #[(.ref a0), (.ref ka)] 2)) T15 (mkF m 14 #[.val (.ref a0), .val (.ref ka)] [(.ref b15), (.ref a0)]) := fun t k => pre14 t (st15 _ k)
  obtain ⟨T29, h29, X29, e29, W29, st29⟩ := putF X15 hx hZ hown (host := "") (Or.inl (hw _ (List.mem_of_getElem? (i := 13) rfl))) Via.refl e15 f23 f21 (Or.inr ⟨(hw _ (List.mem_of_getElem? (i := 14) rfl)), rfl, hnm⟩) (hw _ (List.mem_of_getElem? (i := 2) rfl)) (ty := (.array .int)) (by decide) rfl rfl (g := (mkF m 14 #[.val (.ref a0), .val (.ref ka)] [(.ref b15), (.ref a0)])) rfl rfl (hb hby d1_14)
  have N29 := Fr.snoc X29 N4 g_a0
  have f30 : n0 ≤ h29.size := Nat.le_trans f20 (Keep.of_wr W29).1
  have f31 : Exa Z h29 a0 "com/example/octopoll/octopoll/PageHeap" := f21.wr W29
  have f32 : Fld Z h29 a0 "com/example/octopoll/octopoll/PageHeap" "key" "[D" (.ref ka) := f22.other W29 (Or.inr (slot_ne (Or.inr (hw _ (List.mem_of_getElem? (i := 11) rfl))) (Or.inr (hw _ (List.mem_of_getElem? (i := 14) rfl))) (by decide) (t := (.array .double)) (t' := (.array .int)) (by decide) (by decide)))
  have f33 : Fld Z h29 a0 "com/example/octopoll/octopoll/PageHeap" "heap" "[I" (.ref b15) := f23.same W29
  have f34 : Fld Z h29 a0 "com/example/octopoll/octopoll/PageHeap" "position" "[I" .null := f24.other W29 (Or.inr (slot_ne (Or.inr (hw _ (List.mem_of_getElem? (i := 16) rfl))) (Or.inr (hw _ (List.mem_of_getElem? (i := 14) rfl))) (by decide) (t := (.array .int)) (t' := (.array .int)) (by decide) (by decide)))
  have f35 : Fld Z h29 a0 "com/example/octopoll/octopoll/PageHeap" "size" "I" (.int (0 : Int32)) := f25.other W29 (Or.inr (slot_ne (Or.inl (hw _ (List.mem_of_getElem? (i := 29) rfl))) (Or.inr (hw _ (List.mem_of_getElem? (i := 14) rfl))) (by decide) (t := .int) (t' := (.array .int)) (by decide) (by decide)))
  have f36 : Arv Z h29 ka kk .double (3 : Int32) [(.double d0), (.double d1), (.double d2)] (.double 0) := f26.other W29 ne_a0_ka.symm
  have f37 : Keep h0 h29 [a0] := f27.wr W29 (Or.inl (List.mem_of_getElem? (i := 0) rfl))
  have f38 : Arv Z h29 b15 k15 .int (3 : Int32) [(.int (0 : Int32)), (.int (0 : Int32)), (.int (0 : Int32))] (.int (0 : Int32)) := f28.other W29 ne16.symm
  have pre29 : Go p.tables e below (s₁.setTop (entryFrame m #[(.ref a0), (.ref ka)] 2)) T29 (mkF m 17 #[.val (.ref a0), .val (.ref ka)] []) := fun t k => pre15 t (st29 _ k)
  have pre39 : Go p.tables e below (s₁.setTop (entryFrame m #[(.ref a0), (.ref ka)] 2)) T29 (mkF m 19 #[.val (.ref a0), .val (.ref ka)] [(.ref ka), (.ref a0)]) := fun t k => pre29 t (by
      refine XS.aloadN X29.here hx rfl (hb hby d1_17) rfl rfl ?_
      show Steps p.tables e below (T29.setTop (mkF m 18 #[.val (.ref a0), .val (.ref ka)] [(.ref a0)])) _
      refine XS.aloadN X29.here hx rfl (hb hby d1_18) rfl rfl ?_
      exact k)
  obtain ⟨c40, Ar40, q40, S40, M40, H40, G40⟩ := (id f36)
  have pre40 : Go p.tables e below (s₁.setTop (entryFrame m #[(.ref a0), (.ref ka)] 2)) T29 (mkF m 20 #[.val (.ref a0), .val (.ref ka)] [(.int (3 : Int32)), (.ref a0)]) := fun t k => pre39 t (X29.arraylength hx (by rw [e29]; exact Ar40.1) (State.isArrayOf_alike hZ.alike Ar40.2.1) (g := (mkF m 19 #[.val (.ref a0), .val (.ref ka)] [(.ref ka), (.ref a0)])) rfl rfl (hb hby d1_19) _ (by rw [len_of S40 M40]; exact k))
  obtain ⟨T41, h41, k41, X41, e41, E41, A41, st41⟩ := newP X29 hx hZ (hw _ (List.mem_of_getElem? (i := 12) rfl)) e29 (g := (mkF m 20 #[.val (.ref a0), .val (.ref ka)] [(.int (3 : Int32)), (.ref a0)])) rfl (hb hby d1_20) rfl (by decide) (cap := 3) (by decide) (by decide) (by decide) (by decide)
  obtain ⟨b41, ga41⟩ : ∃ z, z = h29.size := ⟨_, rfl⟩
  rw [← ga41] at A41 st41
  have ne42 : a0 ≠ b41 := Nat.ne_of_lt (Nat.lt_of_lt_of_le f31.lt (Nat.le_of_eq ga41.symm))
  have ne43 : ka ≠ b41 := Nat.ne_of_lt (Nat.lt_of_lt_of_le f36.lt (Nat.le_of_eq ga41.symm))
  have ne44 : b15 ≠ b41 := Nat.ne_of_lt (Nat.lt_of_lt_of_le f38.lt (Nat.le_of_eq ga41.symm))
  have g45 : n0 ≤ b41 := Nat.le_trans f30 (Nat.le_of_eq ga41.symm)
  have sz46 : h0.size ≤ b41 := Nat.le_trans f37.1 (Nat.le_of_eq ga41.symm)
  have f47 : n0 ≤ h41.size := Nat.le_trans f30 E41.1
  have f48 : Exa Z h41 a0 "com/example/octopoll/octopoll/PageHeap" := f31.ext E41
  have f49 : Fld Z h41 a0 "com/example/octopoll/octopoll/PageHeap" "key" "[D" (.ref ka) := f32.ext E41
  have f50 : Fld Z h41 a0 "com/example/octopoll/octopoll/PageHeap" "heap" "[I" (.ref b15) := f33.ext E41
  have f51 : Fld Z h41 a0 "com/example/octopoll/octopoll/PageHeap" "position" "[I" .null := f34.ext E41
  have f52 : Fld Z h41 a0 "com/example/octopoll/octopoll/PageHeap" "size" "I" (.int (0 : Int32)) := f35.ext E41
  have f53 : Arv Z h41 ka kk .double (3 : Int32) [(.double d0), (.double d1), (.double d2)] (.double 0) := f36.ext E41
  have f54 : Keep h0 h41 [a0] := f37.ext E41
  have f55 : Arv Z h41 b15 k15 .int (3 : Int32) [(.int (0 : Int32)), (.int (0 : Int32)), (.int (0 : Int32))] (.int (0 : Int32)) := f38.ext E41
  have f56 : Arv Z h41 b41 k41 .int (3 : Int32) [(.int (0 : Int32)), (.int (0 : Int32)), (.int (0 : Int32))] (.int (0 : Int32)) := (Arv.new A41 (by decide)).pad (pad_rep [] (.int (0 : Int32)) 3)
  have pre41 : Go p.tables e below (s₁.setTop (entryFrame m #[(.ref a0), (.ref ka)] 2)) T41 (mkF m 22 #[.val (.ref a0), .val (.ref ka)] [(.ref b41), (.ref a0)]) := fun t k => pre40 t (st41 _ k)
  obtain ⟨T57, h57, X57, e57, W57, st57⟩ := putF X41 hx hZ hown (host := "") (Or.inl (hw _ (List.mem_of_getElem? (i := 15) rfl))) Via.refl e41 f51 f48 (Or.inr ⟨(hw _ (List.mem_of_getElem? (i := 16) rfl)), rfl, hnm⟩) (hw _ (List.mem_of_getElem? (i := 2) rfl)) (ty := (.array .int)) (by decide) rfl rfl (g := (mkF m 22 #[.val (.ref a0), .val (.ref ka)] [(.ref b41), (.ref a0)])) rfl rfl (hb hby d1_22)
  have N57 := Fr.snoc X57 N29 g_a0
  have f58 : n0 ≤ h57.size := Nat.le_trans f47 (Keep.of_wr W57).1
  have f59 : Exa Z h57 a0 "com/example/octopoll/octopoll/PageHeap" := f48.wr W57
  have f60 : Fld Z h57 a0 "com/example/octopoll/octopoll/PageHeap" "key" "[D" (.ref ka) := f49.other W57 (Or.inr (slot_ne (Or.inr (hw _ (List.mem_of_getElem? (i := 11) rfl))) (Or.inr (hw _ (List.mem_of_getElem? (i := 16) rfl))) (by decide) (t := (.array .double)) (t' := (.array .int)) (by decide) (by decide)))
  have f61 : Fld Z h57 a0 "com/example/octopoll/octopoll/PageHeap" "heap" "[I" (.ref b15) := f50.other W57 (Or.inr (slot_ne (Or.inr (hw _ (List.mem_of_getElem? (i := 14) rfl))) (Or.inr (hw _ (List.mem_of_getElem? (i := 16) rfl))) (by decide) (t := (.array .int)) (t' := (.array .int)) (by decide) (by decide)))
  have f62 : Fld Z h57 a0 "com/example/octopoll/octopoll/PageHeap" "position" "[I" (.ref b41) := f51.same W57
  have f63 : Fld Z h57 a0 "com/example/octopoll/octopoll/PageHeap" "size" "I" (.int (0 : Int32)) := f52.other W57 (Or.inr (slot_ne (Or.inl (hw _ (List.mem_of_getElem? (i := 29) rfl))) (Or.inr (hw _ (List.mem_of_getElem? (i := 16) rfl))) (by decide) (t := .int) (t' := (.array .int)) (by decide) (by decide)))
  have f64 : Arv Z h57 ka kk .double (3 : Int32) [(.double d0), (.double d1), (.double d2)] (.double 0) := f53.other W57 ne_a0_ka.symm
  have f65 : Keep h0 h57 [a0] := f54.wr W57 (Or.inl (List.mem_of_getElem? (i := 0) rfl))
  have f66 : Arv Z h57 b15 k15 .int (3 : Int32) [(.int (0 : Int32)), (.int (0 : Int32)), (.int (0 : Int32))] (.int (0 : Int32)) := f55.other W57 ne16.symm
  have f67 : Arv Z h57 b41 k41 .int (3 : Int32) [(.int (0 : Int32)), (.int (0 : Int32)), (.int (0 : Int32))] (.int (0 : Int32)) := f56.other W57 ne42.symm
  have pre57 : Go p.tables e below (s₁.setTop (entryFrame m #[(.ref a0), (.ref ka)] 2)) T57 (mkF m 25 #[.val (.ref a0), .val (.ref ka)] []) := fun t k => pre41 t (st57 _ k)
  have pre68 : Go p.tables e below (s₁.setTop (entryFrame m #[(.ref a0), (.ref ka)] 2)) T57 (mkF m 26 #[.val (.ref a0), .val (.ref ka)] [(.ref a0)]) := fun t k => pre57 t (by
      refine XS.aloadN X57.here hx rfl (hb hby d1_25) rfl rfl ?_
      exact k)
  obtain ⟨T69, X69, e69, st69⟩ := getF X57 hx hZ hown (host := "") (Or.inl (hw _ (List.mem_of_getElem? (i := 15) rfl))) Via.refl e57 f62 (g := (mkF m 26 #[.val (.ref a0), .val (.ref ka)] [(.ref a0)])) rfl rfl (hb hby d1_26)
  have pre69 : Go p.tables e below (s₁.setTop (entryFrame m #[(.ref a0), (.ref ka)] 2)) T69 (mkF m 29 #[.val (.ref a0), .val (.ref ka)] [(.ref b41)]) := fun t k => pre68 t (st69 _ k)
  have pre70 : Go p.tables e below (s₁.setTop (entryFrame m #[(.ref a0), (.ref ka)] 2)) T69 (mkF m 30 #[.val (.ref a0), .val (.ref ka)] [(.int (-1 : Int32)), (.ref b41)]) := fun t k => pre69 t (by
      refine XS.iconst X69.here hx rfl (hb hby d1_29) ?_
      exact k)
  obtain ⟨_, _, ⟨T71, L71, k71, n71⟩, -, X71, ⟨Lc71, hQ71, l71, y71, z71⟩, st71⟩ := Jvm.LawKit.callS X69 hx (y := (⟨"java/util/Arrays", "fill", "([II)V"⟩ : MethodName)) hown (mvT hZ (hw _ (List.mem_of_getElem? (i := 17) rfl))) (mvT hZ (hw _ (List.mem_of_getElem? (i := 18) rfl))) (mvT hZ (hw _ (List.mem_of_getElem? (i := 19) rfl))) (mvT hZ (hw _ (List.mem_of_getElem? (i := 20) rfl))) (by decide) (backOf (W := 0) (rm_fil l Z av0 hw [] b41 k41 (0 : Int32) (0 : Int32) (0 : Int32) h57 n0 f58 f67 g45) hZ (hw _ (List.mem_of_getElem? (i := 20) rfl)) (hw _ (List.mem_of_getElem? (i := 19) rfl)) (by decide) (by decide)) (g := (mkF m 30 #[.val (.ref a0), .val (.ref ka)] [(.int (-1 : Int32)), (.ref b41)])) rfl (by rw [hml]; rfl) (argsL := [(.ref b41), (.int (-1 : Int32))]) (rest := []) (lenOf pd_3 rfl) rfl (by show 2 * 0 + _ ≤ _; exact Nat.le_of_eq rfl) (hb hby d1_30) (fun _ _ => ⟨rfl, e69, (by decide : 2 + 0 ≤ _), (by decide : 6 + 0 ≤ _)⟩)
  dsimp only [Pt.U, Pt.locs, Pt.cells, Pt.slots] at X71 l71 y71 z71 st71 hQ71
  subst l71 y71 z71
  obtain ⟨hv71, N71q, K71, fo71_0⟩ := hQ71
  have f72 : n0 ≤ T71.heap.size := Nat.le_trans f58 K71.1
  have f73 : Exa Z T71.heap a0 "com/example/octopoll/octopoll/PageHeap" := f59.keep K71
  have f74 : Fld Z T71.heap a0 "com/example/octopoll/octopoll/PageHeap" "key" "[D" (.ref ka) := f60.keep K71 (ninS ne42 nin0)
  have f75 : Fld Z T71.heap a0 "com/example/octopoll/octopoll/PageHeap" "heap" "[I" (.ref b15) := f61.keep K71 (ninS ne42 nin0)
  have f76 : Fld Z T71.heap a0 "com/example/octopoll/octopoll/PageHeap" "position" "[I" (.ref b41) := f62.keep K71 (ninS ne42 nin0)
  have f77 : Fld Z T71.heap a0 "com/example/octopoll/octopoll/PageHeap" "size" "I" (.int (0 : Int32)) := f63.keep K71 (ninS ne42 nin0)
  have f78 : Arv Z T71.heap ka kk .double (3 : Int32) [(.double d0), (.double d1), (.double d2)] (.double 0) := f64.keep K71 (ninS ne43 nin0)
  have f79 : Keep h0 T71.heap [a0] := f65.trans K71 (allS (Or.inr sz46) all0)
  have f80 : Arv Z T71.heap b15 k15 .int (3 : Int32) [(.int (0 : Int32)), (.int (0 : Int32)), (.int (0 : Int32))] (.int (0 : Int32)) := f66.keep K71 (ninS ne44 nin0)
  subst hv71
  have N71 := Fr.app N57 N71q
  have pre71 : Go p.tables e below (s₁.setTop (entryFrame m #[(.ref a0), (.ref ka)] 2)) T71 (mkF m 33 #[.val (.ref a0), .val (.ref ka)] []) := fun t k => pre70 t (st71 _ k)
  obtain ⟨fs, hr, hrun, hended, hW, hsame⟩ := X71.leave (v := none) (fun _ => rfl) (BodyLoose.notSynchronized Bd)
  refine ⟨_, _, pre71 _ ?_, hrun, hended, _, _, rfl, ?_, ⟨_, rfl⟩, hW, hsame.mono (Nat.le_of_ble_eq_true rfl) (Nat.le_of_ble_eq_true rfl)⟩
  · exact X71.returnOut hx Bd.returns (hb hby d1_33) hr
  · show Q_ini Z a0 ka kk d0 d1 d2 h0 n0 _ T71.heap _
    exact ⟨b15, b41, k15, k41, rfl, N71, f79, sz19, g18, sz46, g45, f73, f74, f75, f76, f77, f80, fo71_0, ne44⟩
theorem pn_law : plainName "com/example/octopoll/octopoll/PageHeapContainsPinLaw" = true := by first | (simp [plainName, overriddenIn]; done) | decide +kernel
theorem ef_law (m : MethodId) (u0 : Int32) (u1 : Int32) (u2 : Int32) (u3 : Int32) (u4 : Int32) : entryFrame m #[(.int u0), (.int u1), (.int u2), (.int u3), (.int u4)] maxLocals = mkF m 0 #[.val (.int u0), .val (.int u1), .val (.int u2), .val (.int u3), .val (.int u4), .unset, .unset, .unset, .unset, .unset, .unset, .unset, .unset, .unset] [] := by first | (simp [entryFrame, mkF, argsToLocals, Value.category, maxLocals]; done) | rfl
def Q_law (Z : State) (u0 : Int32) (u1 : Int32) (u2 : Int32) (u3 : Int32) (u4 : Int32) (h0 : Heap) (n0 : Nat) (v : Option Value) (h : Heap) (L : List Loc) : Prop := v = some (.int 1) ∧ Fr n0 L
set_option maxRecDepth 65536 in
set_option maxHeartbeats 40000000 in
theorem rm_law (l : Launch) (Z : State) (av0 : Array Value) (hw : ∀ d ∈ tables_1, d.before av0 Z = true) (ws : List Jvm.Cond) (u0 : Int32) (u1 : Int32) (u2 : Int32) (u3 : Int32) (u4 : Int32) (h0 : Heap) (n0 : Nat) (Z0 : n0 ≤ h0.size) :
    MetFree l x (head1 (Jvm.Cond.code x code maxLocals ret :: ws) room_1) (fun a U => a = #[(.int u0), (.int u1), (.int u2), (.int u3), (.int u4)] ∧ Z.Warmed39 U.vm ∧ U.heap = h0) (fun _ _ _ _ _ => True) (fun _ U o U' => ∃ v L, o = .returned v ∧ Q_law Z u0 u1 u2 u3 u4 h0 n0 v U'.heap L ∧ FrameEnd U o U' L room_1.cells room_1.slots) := by
  refine MetFree.of_bodySF (plainFor_of_name pn_law) hisR ?_
  intro p e s m args below meth c s₁ Bd hml0 hP hK
  obtain ⟨rfl, hZ, hh⟩ := hP
  have hx := Bd.exec
  have hby := Bd.bytes
  have hml : c.maxLocals = 14 := hml0
  have hown : s.vm.findClass "com/example/octopoll/octopoll/PageHeapContainsPinLaw" = some m.cls := findClass_of_methodNamed Bd.named
  have hnm := (name_of_methodNamed Bd.named Bd.method).1
  have X0 : Stand p l e room_1 s m #[(.int u0), (.int u1), (.int u2), (.int u3), (.int u4)] below meth c s₁ [] 0 0 := Stand.of_body Bd
  have e0 : s₁.heap = h0 := by rw [← hh, Bd.state]; rfl
  have N0 := Fr.nil n0
  have pre0 : Go p.tables e below (s₁.setTop (entryFrame m #[(.int u0), (.int u1), (.int u2), (.int u3), (.int u4)] maxLocals)) s₁ (mkF m 0 #[.val (.int u0), .val (.int u1), .val (.int u2), .val (.int u3), .val (.int u4), .unset, .unset, .unset, .unset, .unset, .unset, .unset, .unset, .unset] []) := fun t k => castTop (ef_law m u0 u1 u2 u3 u4) k
  have pre1 : Go p.tables e below (s₁.setTop (entryFrame m #[(.int u0), (.int u1), (.int u2), (.int u3), (.int u4)] maxLocals)) s₁ (mkF m 1 #[.val (.int u0), .val (.int u1), .val (.int u2), .val (.int u3), .val (.int u4), .unset, .unset, .unset, .unset, .unset, .unset, .unset, .unset, .unset] [(.int (3 : Int32))]) := fun t k => pre0 t (by
      refine XS.iconst X0.here hx rfl (hb hby at_0) ?_
      exact k)
  obtain ⟨T2, h2, k2, X2, e2, E2, A2, st2⟩ := newP X0 hx hZ (hw _ (List.mem_of_getElem? (i := 0) rfl)) e0 (g := (mkF m 1 #[.val (.int u0), .val (.int u1), .val (.int u2), .val (.int u3), .val (.int u4), .unset, .unset, .unset, .unset, .unset, .unset, .unset, .unset, .unset] [(.int (3 : Int32))])) rfl (hb hby at_1) rfl (by decide) (cap := 3) (by decide) (by decide) (by decide) (by decide)
  obtain ⟨b2, ga2⟩ : ∃ z, z = h0.size := ⟨_, rfl⟩
  rw [← ga2] at A2 st2
  have g3 : n0 ≤ b2 := Nat.le_trans Z0 (Nat.le_of_eq ga2.symm)
  have f4 := Nat.le_trans Z0 E2.1
  have f5 : Arv Z h2 b2 k2 .double (3 : Int32) [(.double 0), (.double 0), (.double 0)] (.double 0) := (Arv.new A2 (by decide)).pad (pad_rep [] (.double 0) 3)
  have pre2 : Go p.tables e below (s₁.setTop (entryFrame m #[(.int u0), (.int u1), (.int u2), (.int u3), (.int u4)] maxLocals)) T2 (mkF m 3 #[.val (.int u0), .val (.int u1), .val (.int u2), .val (.int u3), .val (.int u4), .unset, .unset, .unset, .unset, .unset, .unset, .unset, .unset, .unset] [(.ref b2)]) := fun t k => pre1 t (st2 _ k)
  have pre6 : Go p.tables e below (s₁.setTop (entryFrame m #[(.int u0), (.int u1), (.int u2), (.int u3), (.int u4)] maxLocals)) T2 (mkF m 12 #[.val (.int u0), .val (.int u1), .val (.int u2), .val (.int u3), .val (.int u4), .val (.ref b2), .unset, .unset, .unset, .unset, .unset, .unset, .unset, .unset] [(.double (FP.i2d (u0 &&& (3 : Int32)))), (.int (0 : Int32)), (.ref b2)]) := fun t k => pre2 t (by
      refine XS.astore X2.here hx rfl (hb hby at_3) rfl rfl (l' := #[.val (.int u0), .val (.int u1), .val (.int u2), .val (.int u3), .val (.int u4), .val (.ref b2), .unset, .unset, .unset, .unset, .unset, .unset, .unset, .unset]) rfl ?_
      show Steps p.tables e below (T2.setTop (mkF m 5 #[.val (.int u0), .val (.int u1), .val (.int u2), .val (.int u3), .val (.int u4), .val (.ref b2), .unset, .unset, .unset, .unset, .unset, .unset, .unset, .unset] [])) _
      refine XS.aload X2.here hx rfl (hb hby at_5) rfl rfl ?_
      refine XS.iconst X2.here hx rfl (hb hby at_7) ?_
      refine XS.iloadN X2.here hx rfl (hb hby at_8) rfl ?_
      refine XS.iconst X2.here hx rfl (hb hby at_9) ?_
      refine XS.iand X2.here hx rfl (hb hby at_10) rfl ?_
      refine XS.i2dS X2.here hx rfl (hb hby at_11) rfl rfl ?_
      exact k)
  obtain ⟨c7, Ar7, q7, S7, M7, H7, G7⟩ := (id f5)
  have hin7 : ¬ ((0 : Int32) < 0 ∨ c7.slots.size ≤ ((0 : Int32)).toNatClampNeg) := inb_of S7 ⟨by decide, by decide⟩
  obtain ⟨T7, h7, X7, e7, W7, st7⟩ := stD X2 hx hZ e2 Ar7 (j := (0 : Int32)) hin7 (g := (mkF m 12 #[.val (.int u0), .val (.int u1), .val (.int u2), .val (.int u3), .val (.int u4), .val (.ref b2), .unset, .unset, .unset, .unset, .unset, .unset, .unset, .unset] [(.double (FP.i2d (u0 &&& (3 : Int32)))), (.int (0 : Int32)), (.ref b2)])) rfl rfl (hb hby at_12)
  have fa7 : Arv Z h7 b2 k2 .double (3 : Int32) [(.double (FP.i2d (u0 &&& (3 : Int32)))), (.double 0), (.double 0)] (.double 0) := Arv.set Ar7 q7 S7 M7 H7 G7 rfl W7 0 rfl (Nat.le_of_ble_eq_true rfl)
  have N7 := Fr.snoc X7 N0 g3
  have f8 : n0 ≤ h7.size := Nat.le_trans f4 (Keep.of_wr W7).1
  have pre7 : Go p.tables e below (s₁.setTop (entryFrame m #[(.int u0), (.int u1), (.int u2), (.int u3), (.int u4)] maxLocals)) T7 (mkF m 13 #[.val (.int u0), .val (.int u1), .val (.int u2), .val (.int u3), .val (.int u4), .val (.ref b2), .unset, .unset, .unset, .unset, .unset, .unset, .unset, .unset] []) := fun t k => pre6 t (st7 _ k)
  have pre9 : Go p.tables e below (s₁.setTop (entryFrame m #[(.int u0), (.int u1), (.int u2), (.int u3), (.int u4)] maxLocals)) T7 (mkF m 22 #[.val (.int u0), .val (.int u1), .val (.int u2), .val (.int u3), .val (.int u4), .val (.ref b2), .unset, .unset, .unset, .unset, .unset, .unset, .unset, .unset] [(.double (FP.i2d ((u0 >>> ((2 : Int32) &&& 31)) &&& (3 : Int32)))), (.int (1 : Int32)), (.ref b2)]) := fun t k => pre7 t (by
      refine XS.aload X7.here hx rfl (hb hby at_13) rfl rfl ?_
      refine XS.iconst X7.here hx rfl (hb hby at_15) ?_
      refine XS.iloadN X7.here hx rfl (hb hby at_16) rfl ?_
      refine XS.iconst X7.here hx rfl (hb hby at_17) ?_
      refine XS.ishr X7.here hx rfl (hb hby at_18) rfl ?_
      show Steps p.tables e below (T7.setTop (mkF m 19 #[.val (.int u0), .val (.int u1), .val (.int u2), .val (.int u3), .val (.int u4), .val (.ref b2), .unset, .unset, .unset, .unset, .unset, .unset, .unset, .unset] [(.int (u0 >>> ((2 : Int32) &&& 31))), (.int (1 : Int32)), (.ref b2)])) _
      refine XS.iconst X7.here hx rfl (hb hby at_19) ?_
      refine XS.iand X7.here hx rfl (hb hby at_20) rfl ?_
      refine XS.i2dS X7.here hx rfl (hb hby at_21) rfl rfl ?_
      exact k)
  obtain ⟨c10, Ar10, q10, S10, M10, H10, G10⟩ := (id fa7)
  have hin10 : ¬ ((1 : Int32) < 0 ∨ c10.slots.size ≤ ((1 : Int32)).toNatClampNeg) := inb_of S10 ⟨by decide, by decide⟩
  obtain ⟨T10, h10, X10, e10, W10, st10⟩ := stD X7 hx hZ e7 Ar10 (j := (1 : Int32)) hin10 (g := (mkF m 22 #[.val (.int u0), .val (.int u1), .val (.int u2), .val (.int u3), .val (.int u4), .val (.ref b2), .unset, .unset, .unset, .unset, .unset, .unset, .unset, .unset] [(.double (FP.i2d ((u0 >>> ((2 : Int32) &&& 31)) &&& (3 : Int32)))), (.int (1 : Int32)), (.ref b2)])) rfl rfl (hb hby at_22)
  have fa10 : Arv Z h10 b2 k2 .double (3 : Int32) [(.double (FP.i2d (u0 &&& (3 : Int32)))), (.double (FP.i2d ((u0 >>> ((2 : Int32) &&& 31)) &&& (3 : Int32)))), (.double 0)] (.double 0) := Arv.set Ar10 q10 S10 M10 H10 G10 rfl W10 1 rfl (Nat.le_of_ble_eq_true rfl)
  have N10 := Fr.snoc X10 N7 g3
  have f11 : n0 ≤ h10.size := Nat.le_trans f8 (Keep.of_wr W10).1
  have pre10 : Go p.tables e below (s₁.setTop (entryFrame m #[(.int u0), (.int u1), (.int u2), (.int u3), (.int u4)] maxLocals)) T10 (mkF m 23 #[.val (.int u0), .val (.int u1), .val (.int u2), .val (.int u3), .val (.int u4), .val (.ref b2), .unset, .unset, .unset, .unset, .unset, .unset, .unset, .unset] []) := fun t k => pre9 t (st10 _ k)
  have pre12 : Go p.tables e below (s₁.setTop (entryFrame m #[(.int u0), (.int u1), (.int u2), (.int u3), (.int u4)] maxLocals)) T10 (mkF m 32 #[.val (.int u0), .val (.int u1), .val (.int u2), .val (.int u3), .val (.int u4), .val (.ref b2), .unset, .unset, .unset, .unset, .unset, .unset, .unset, .unset] [(.double (FP.i2d ((u0 >>> ((4 : Int32) &&& 31)) &&& (3 : Int32)))), (.int (2 : Int32)), (.ref b2)]) := fun t k => pre10 t (by
      refine XS.aload X10.here hx rfl (hb hby at_23) rfl rfl ?_
      refine XS.iconst X10.here hx rfl (hb hby at_25) ?_
      refine XS.iloadN X10.here hx rfl (hb hby at_26) rfl ?_
      refine XS.iconst X10.here hx rfl (hb hby at_27) ?_
      refine XS.ishr X10.here hx rfl (hb hby at_28) rfl ?_
      show Steps p.tables e below (T10.setTop (mkF m 29 #[.val (.int u0), .val (.int u1), .val (.int u2), .val (.int u3), .val (.int u4), .val (.ref b2), .unset, .unset, .unset, .unset, .unset, .unset, .unset, .unset] [(.int (u0 >>> ((4 : Int32) &&& 31))), (.int (2 : Int32)), (.ref b2)])) _
      refine XS.iconst X10.here hx rfl (hb hby at_29) ?_
      refine XS.iand X10.here hx rfl (hb hby at_30) rfl ?_
      refine XS.i2dS X10.here hx rfl (hb hby at_31) rfl rfl ?_
      exact k)
  obtain ⟨c13, Ar13, q13, S13, M13, H13, G13⟩ := (id fa10)
  have hin13 : ¬ ((2 : Int32) < 0 ∨ c13.slots.size ≤ ((2 : Int32)).toNatClampNeg) := inb_of S13 ⟨by decide, by decide⟩
  obtain ⟨T13, h13, X13, e13, W13, st13⟩ := stD X10 hx hZ e10 Ar13 (j := (2 : Int32)) hin13 (g := (mkF m 32 #[.val (.int u0), .val (.int u1), .val (.int u2), .val (.int u3), .val (.int u4), .val (.ref b2), .unset, .unset, .unset, .unset, .unset, .unset, .unset, .unset] [(.double (FP.i2d ((u0 >>> ((4 : Int32) &&& 31)) &&& (3 : Int32)))), (.int (2 : Int32)), (.ref b2)])) rfl rfl (hb hby at_32)
  have fa13 : Arv Z h13 b2 k2 .double (3 : Int32) [(.double (FP.i2d (u0 &&& (3 : Int32)))), (.double (FP.i2d ((u0 >>> ((2 : Int32) &&& 31)) &&& (3 : Int32)))), (.double (FP.i2d ((u0 >>> ((4 : Int32) &&& 31)) &&& (3 : Int32))))] (.double 0) := Arv.set Ar13 q13 S13 M13 H13 G13 rfl W13 2 rfl (Nat.le_of_ble_eq_true rfl)
  have N13 := Fr.snoc X13 N10 g3
  have f14 : n0 ≤ h13.size := Nat.le_trans f11 (Keep.of_wr W13).1
  have pre13 : Go p.tables e below (s₁.setTop (entryFrame m #[(.int u0), (.int u1), (.int u2), (.int u3), (.int u4)] maxLocals)) T13 (mkF m 33 #[.val (.int u0), .val (.int u1), .val (.int u2), .val (.int u3), .val (.int u4), .val (.ref b2), .unset, .unset, .unset, .unset, .unset, .unset, .unset, .unset] []) := fun t k => pre12 t (st13 _ k)
  obtain ⟨T15, h15, X15, e15, E15, A15, D15, -, st15⟩ := newO X13 hx hZ hown (hw _ (List.mem_of_getElem? (i := 1) rfl)) (hw _ (List.mem_of_getElem? (i := 2) rfl)) (hw _ (List.mem_of_getElem? (i := 3) rfl)) e13 (g := (mkF m 33 #[.val (.int u0), .val (.int u1), .val (.int u2), .val (.int u3), .val (.int u4), .val (.ref b2), .unset, .unset, .unset, .unset, .unset, .unset, .unset, .unset] [])) rfl (hb hby at_33) (by decide) (by decide)
  obtain ⟨b15, ga15⟩ : ∃ z, z = h13.size := ⟨_, rfl⟩
  rw [← ga15] at A15 D15 st15
  have ne16 : b2 ≠ b15 := Nat.ne_of_lt (Nat.lt_of_lt_of_le fa13.lt (Nat.le_of_eq ga15.symm))
  have g17 : n0 ≤ b15 := Nat.le_trans f14 (Nat.le_of_eq ga15.symm)
  have f18 := Nat.le_trans f14 E15.1
  have f19 := fa13.ext E15
  have f20 : Fld Z h15 b15 "com/example/octopoll/octopoll/PageHeap" "key" "[D" .null := D15 (Or.inr (hw _ (List.mem_of_getElem? (i := 11) rfl))) (ty := (.array .double)) (by decide)
  have f21 : Fld Z h15 b15 "com/example/octopoll/octopoll/PageHeap" "heap" "[I" .null := D15 (Or.inr (hw _ (List.mem_of_getElem? (i := 14) rfl))) (ty := (.array .int)) (by decide)
  have f22 : Fld Z h15 b15 "com/example/octopoll/octopoll/PageHeap" "position" "[I" .null := D15 (Or.inr (hw _ (List.mem_of_getElem? (i := 16) rfl))) (ty := (.array .int)) (by decide)
  have f23 : Fld Z h15 b15 "com/example/octopoll/octopoll/PageHeap" "size" "I" (.int (0 : Int32)) := D15 (Or.inl (hw _ (List.mem_of_getElem? (i := 29) rfl))) (ty := .int) (by decide)
  have pre15 : Go p.tables e below (s₁.setTop (entryFrame m #[(.int u0), (.int u1), (.int u2), (.int u3), (.int u4)] maxLocals)) T15 (mkF m 36 #[.val (.int u0), .val (.int u1), .val (.int u2), .val (.int u3), .val (.int u4), .val (.ref b2), .unset, .unset, .unset, .unset, .unset, .unset, .unset, .unset] [(.ref b15)]) := fun t k => pre13 t (st15 _ k)
  have pre24 : Go p.tables e below (s₁.setTop (entryFrame m #[(.int u0), (.int u1), (.int u2), (.int u3), (.int u4)] maxLocals)) T15 (mkF m 39 #[.val (.int u0), .val (.int u1), .val (.int u2), .val (.int u3), .val (.int u4), .val (.ref b2), .unset, .unset, .unset, .unset, .unset, .unset, .unset, .unset] [(.ref b2), (.ref b15), (.ref b15)]) := fun t k => pre15 t (by
      refine XS.dup X15.here hx rfl (hb hby at_36) rfl rfl ?_
      show Steps p.tables e below (T15.setTop (mkF m 37 #[.val (.int u0), .val (.int u1), .val (.int u2), .val (.int u3), .val (.int u4), .val (.ref b2), .unset, .unset, .unset, .unset, .unset, .unset, .unset, .unset] [(.ref b15), (.ref b15)])) _
      refine XS.aload X15.here hx rfl (hb hby at_37) rfl rfl ?_
      exact k)
  obtain ⟨_, _, ⟨T25, L25, k25, n25⟩, -, X25, ⟨Lc25, hQ25, l25, y25, z25⟩, st25⟩ := X15.specialBack hx (y := (⟨"com/example/octopoll/octopoll/PageHeap", "<init>", "([D)V"⟩ : MethodName)) rfl hown (mvT hZ (hw _ (List.mem_of_getElem? (i := 4) rfl))) (mvT hZ (hw _ (List.mem_of_getElem? (i := 5) rfl))) (mvT hZ (hw _ (List.mem_of_getElem? (i := 6) rfl))) (by decide) (backOf (W := 1) (rm_ini l Z av0 hw [] b15 b2 k2 (FP.i2d (u0 &&& (3 : Int32))) (FP.i2d ((u0 >>> ((2 : Int32) &&& 31)) &&& (3 : Int32))) (FP.i2d ((u0 >>> ((4 : Int32) &&& 31)) &&& (3 : Int32))) h15 n0 f18 A15 f20 f21 f22 f23 f19 g17 ne16.symm) hZ (hw _ (List.mem_of_getElem? (i := 6) rfl)) (hw _ (List.mem_of_getElem? (i := 3) rfl)) (by decide) (by decide)) (g := (mkF m 39 #[.val (.int u0), .val (.int u1), .val (.int u2), .val (.int u3), .val (.int u4), .val (.ref b2), .unset, .unset, .unset, .unset, .unset, .unset, .unset, .unset] [(.ref b2), (.ref b15), (.ref b15)])) rfl (by rw [hml]; rfl) (Steps.refl _) (a := b15) (argsL := [(.ref b2)]) (rest := [(.ref b15)]) (lenOf pd_4 rfl) rfl (by show 2 * 0 + _ ≤ _; exact Nat.le_of_eq rfl) (hb hby at_39) (fun _ _ => ⟨rfl, e15, (by decide : 2 + 2 ≤ _), (by decide : 7 + 6 ≤ _)⟩)
  dsimp only [Pt.U, Pt.locs, Pt.cells, Pt.slots] at X25 l25 y25 z25 st25 hQ25
  subst l25 y25 z25
  obtain ⟨ha25, pa25, kh25, kp25, hv25, N25q, K25, sha25, gha25, spa25, gpa25, fo25_0, fo25_1, fo25_2, fo25_3, fo25_4, fo25_5, fo25_6, po25_0⟩ := hQ25
  have ne26 : b2 ≠ ha25 := Nat.ne_of_lt (Nat.lt_of_lt_of_le f19.lt sha25)
  have ne27 : b15 ≠ ha25 := Nat.ne_of_lt (Nat.lt_of_lt_of_le A15.lt sha25)
  have g28 : n0 ≤ ha25 := Nat.le_trans f18 sha25
  have ne29 : b2 ≠ pa25 := Nat.ne_of_lt (Nat.lt_of_lt_of_le f19.lt spa25)
  have ne30 : b15 ≠ pa25 := Nat.ne_of_lt (Nat.lt_of_lt_of_le A15.lt spa25)
  have g31 : n0 ≤ pa25 := Nat.le_trans f18 spa25
  have f32 := Nat.le_trans f18 K25.1
  have f33 := f19.keep K25 (ninS ne16 nin0)
  have f34 := A15.keep K25
  subst hv25
  have N25 := Fr.app N13 N25q
  have pre25 : Go p.tables e below (s₁.setTop (entryFrame m #[(.int u0), (.int u1), (.int u2), (.int u3), (.int u4)] maxLocals)) T25 (mkF m 42 #[.val (.int u0), .val (.int u1), .val (.int u2), .val (.int u3), .val (.int u4), .val (.ref b2), .unset, .unset, .unset, .unset, .unset, .unset, .unset, .unset] [(.ref b15)]) := fun t k => pre24 t (st25.trans k)
  have pre35 : Go p.tables e below (s₁.setTop (entryFrame m #[(.int u0), (.int u1), (.int u2), (.int u3), (.int u4)] maxLocals)) T25 (mkF m 44 #[.val (.int u0), .val (.int u1), .val (.int u2), .val (.int u3), .val (.int u4), .val (.ref b2), .val (.ref b15), .unset, .unset, .unset, .unset, .unset, .unset, .unset] []) := fun t k => pre25 t (by
      refine XS.astore X25.here hx rfl (hb hby at_42) rfl rfl (l' := #[.val (.int u0), .val (.int u1), .val (.int u2), .val (.int u3), .val (.int u4), .val (.ref b2), .val (.ref b15), .unset, .unset, .unset, .unset, .unset, .unset, .unset]) rfl ?_
      exact k)
  have hS0 : ((0 : Int32), (0 : Int32), (0 : Int32), (-1 : Int32), (-1 : Int32), (-1 : Int32)) ∈ own_S false false false := by decide
  have pre36 : Go p.tables e below (s₁.setTop (entryFrame m #[(.int u0), (.int u1), (.int u2), (.int u3), (.int u4)] maxLocals)) T25 (mkF m 45 #[.val (.int u0), .val (.int u1), .val (.int u2), .val (.int u3), .val (.int u4), .val (.ref b2), .val (.ref b15), .unset, .unset, .unset, .unset, .unset, .unset, .unset] [(.int (3 : Int32))]) := fun t k => pre35 t (by
      refine XS.iconst X25.here hx rfl (hb hby at_44) ?_
      exact k)
  obtain ⟨T37, h37, k37, X37, e37, E37, A37, st37⟩ := newP X25 hx hZ (hw _ (List.mem_of_getElem? (i := 21) rfl)) rfl (g := (mkF m 45 #[.val (.int u0), .val (.int u1), .val (.int u2), .val (.int u3), .val (.int u4), .val (.ref b2), .val (.ref b15), .unset, .unset, .unset, .unset, .unset, .unset, .unset] [(.int (3 : Int32))])) rfl (hb hby at_45) rfl (by decide) (cap := 3) (by decide) (by decide) (by decide) (by decide)
  obtain ⟨b37, ga37⟩ : ∃ z, z = T25.heap.size := ⟨_, rfl⟩
  rw [← ga37] at A37 st37
  have ne38 : b2 ≠ b37 := Nat.ne_of_lt (Nat.lt_of_lt_of_le f33.lt (Nat.le_of_eq ga37.symm))
  have ne39 : b15 ≠ b37 := Nat.ne_of_lt (Nat.lt_of_lt_of_le fo25_0.lt (Nat.le_of_eq ga37.symm))
  have ne40 : ha25 ≠ b37 := Nat.ne_of_lt (Nat.lt_of_lt_of_le fo25_5.lt (Nat.le_of_eq ga37.symm))
  have ne41 : pa25 ≠ b37 := Nat.ne_of_lt (Nat.lt_of_lt_of_le fo25_6.lt (Nat.le_of_eq ga37.symm))
  have g42 : n0 ≤ b37 := Nat.le_trans f32 (Nat.le_of_eq ga37.symm)
  have f43 := Nat.le_trans f32 E37.1
  have f44 := f33.ext E37
  have f45 := fo25_0.ext E37
  have f46 := fo25_1.ext E37
  have f47 := fo25_2.ext E37
  have f48 := fo25_3.ext E37
  have f49 := fo25_4.ext E37
  have f50 := fo25_5.ext E37
  have f51 := fo25_6.ext E37
  have f52 : Arv Z h37 b37 k37 .boolean (3 : Int32) [(.int (0 : Int32)), (.int (0 : Int32)), (.int (0 : Int32))] (.int (0 : Int32)) := (Arv.new A37 (by decide)).pad (pad_rep [] (.int (0 : Int32)) 3)
  have pre37 : Go p.tables e below (s₁.setTop (entryFrame m #[(.int u0), (.int u1), (.int u2), (.int u3), (.int u4)] maxLocals)) T37 (mkF m 47 #[.val (.int u0), .val (.int u1), .val (.int u2), .val (.int u3), .val (.int u4), .val (.ref b2), .val (.ref b15), .unset, .unset, .unset, .unset, .unset, .unset, .unset] [(.ref b37)]) := fun t k => pre36 t (st37 _ k)
  obtain ⟨w53, hw53⟩ : ∃ z : Int32, z = ((u2 &&& (2147483647 : Int32)) % (3 : Int32)) := ⟨_, rfl⟩
  have pre54 : Go p.tables e below (s₁.setTop (entryFrame m #[(.int u0), (.int u1), (.int u2), (.int u3), (.int u4)] maxLocals)) T37 (mkF m 57 #[.val (.int u0), .val (.int u1), .val (.int u2), .val (.int u3), .val (.int u4), .val (.ref b2), .val (.ref b15), .val (.ref b37), .val (.int w53), .unset, .unset, .unset, .unset, .unset] []) := fun t k => pre37 t (by
      refine XS.astore X37.here hx rfl (hb hby at_47) rfl rfl (l' := #[.val (.int u0), .val (.int u1), .val (.int u2), .val (.int u3), .val (.int u4), .val (.ref b2), .val (.ref b15), .val (.ref b37), .unset, .unset, .unset, .unset, .unset, .unset]) rfl ?_
      show Steps p.tables e below (T37.setTop (mkF m 49 #[.val (.int u0), .val (.int u1), .val (.int u2), .val (.int u3), .val (.int u4), .val (.ref b2), .val (.ref b15), .val (.ref b37), .unset, .unset, .unset, .unset, .unset, .unset] [])) _
      refine XS.iloadN X37.here hx rfl (hb hby at_49) rfl ?_
      refine X37.ldcInt hx hown (mvT hZ (hw _ (List.mem_of_getElem? (i := 22) rfl))) (g := (mkF m 50 #[.val (.int u0), .val (.int u1), .val (.int u2), .val (.int u3), .val (.int u4), .val (.ref b2), .val (.ref b15), .val (.ref b37), .unset, .unset, .unset, .unset, .unset, .unset] [(.int u2)])) rfl (hb hby at_50) _ ?_
      show Steps p.tables e below (T37.setTop (mkF m 52 #[.val (.int u0), .val (.int u1), .val (.int u2), .val (.int u3), .val (.int u4), .val (.ref b2), .val (.ref b15), .val (.ref b37), .unset, .unset, .unset, .unset, .unset, .unset] [(.int (2147483647 : Int32)), (.int u2)])) _
      refine XS.iand X37.here hx rfl (hb hby at_52) rfl ?_
      refine XS.iconst X37.here hx rfl (hb hby at_53) ?_
      refine iremM X37 hx (g := (mkF m 54 #[.val (.int u0), .val (.int u1), .val (.int u2), .val (.int u3), .val (.int u4), .val (.ref b2), .val (.ref b15), .val (.ref b37), .unset, .unset, .unset, .unset, .unset, .unset] [(.int (3 : Int32)), (.int (u2 &&& (2147483647 : Int32)))])) rfl (hb hby at_54) rfl (by decide) ?_
      show Steps p.tables e below (T37.setTop (mkF m 55 #[.val (.int u0), .val (.int u1), .val (.int u2), .val (.int u3), .val (.int u4), .val (.ref b2), .val (.ref b15), .val (.ref b37), .unset, .unset, .unset, .unset, .unset, .unset] [(.int ((u2 &&& (2147483647 : Int32)) % (3 : Int32)))])) _
      refine XS.istore X37.here hx rfl (x := w53) (rest := []) (hb hby at_55) (by subst hw53; rfl) (l' := #[.val (.int u0), .val (.int u1), .val (.int u2), .val (.int u3), .val (.int u4), .val (.ref b2), .val (.ref b15), .val (.ref b37), .val (.int w53), .unset, .unset, .unset, .unset, .unset]) rfl ?_
      exact k)
  obtain ⟨T55, L55, h55, q8_55, q9_55, q10_55, q11_55, b0_55, b1_55, b2_55, z0_55, z1_55, z2_55, z3_55, z4_55, z5_55, X55, e55, N55, fm55_0, fm55_1, fm55_2, fm55_3, fm55_4, fm55_5, fm55_6, fm55_7, fm55_8, fm55_9, pm55_0, pre55⟩ : ∃ (T55 : State) (L55 : List Loc) (h55 : Heap) (q8_55 : Int32) (q9_55 : Int32) (q10_55 : Int32) (q11_55 : Int32) (b0_55 : Bool) (b1_55 : Bool) (b2_55 : Bool) (z0_55 : Int32) (z1_55 : Int32) (z2_55 : Int32) (z3_55 : Int32) (z4_55 : Int32) (z5_55 : Int32), Stand p l e room_1 s m #[(.int u0), (.int u1), (.int u2), (.int u3), (.int u4)] below meth c T55 L55 5 16 ∧ T55.heap = h55 ∧ Fr n0 L55 ∧ n0 ≤ h55.size ∧ Exa Z h55 b15 "com/example/octopoll/octopoll/PageHeap" ∧ Fld Z h55 b15 "com/example/octopoll/octopoll/PageHeap" "key" "[D" (.ref b2) ∧ Fld Z h55 b15 "com/example/octopoll/octopoll/PageHeap" "heap" "[I" (.ref ha25) ∧ Fld Z h55 b15 "com/example/octopoll/octopoll/PageHeap" "position" "[I" (.ref pa25) ∧ Fld Z h55 b15 "com/example/octopoll/octopoll/PageHeap" "size" "I" (.int (own_cnt b0_55 b1_55 b2_55)) ∧ Arv Z h55 b2 k2 .double (3 : Int32) [(.double (FP.i2d (u0 &&& (3 : Int32)))), (.double (FP.i2d ((u0 >>> ((2 : Int32) &&& 31)) &&& (3 : Int32)))), (.double (FP.i2d ((u0 >>> ((4 : Int32) &&& 31)) &&& (3 : Int32))))] (.double 0) ∧ Arv Z h55 ha25 kh25 .int (3 : Int32) [(.int z0_55), (.int z1_55), (.int z2_55)] (.int (0 : Int32)) ∧ Arv Z h55 pa25 kp25 .int (3 : Int32) [(.int z3_55), (.int z4_55), (.int z5_55)] (.int (0 : Int32)) ∧ Arv Z h55 b37 k37 .boolean (3 : Int32) [(.int (own_bi b0_55)), (.int (own_bi b1_55)), (.int (own_bi b2_55))] (.int (0 : Int32)) ∧ (z0_55, z1_55, z2_55, z3_55, z4_55, z5_55) ∈ own_S b0_55 b1_55 b2_55 ∧ Go p.tables e below (s₁.setTop (entryFrame m #[(.int u0), (.int u1), (.int u2), (.int u3), (.int u4)] maxLocals)) T55 (mkF m 134 #[.val (.int u0), .val (.int u1), .val (.int u2), .val (.int u3), .val (.int u4), .val (.ref b2), .val (.ref b15), .val (.ref b37), .val (.int q8_55), .val (.int q9_55), .val (.int q10_55), .val (.int q11_55), .unset, .unset] []) := by
    have pre56 : Go p.tables e below (s₁.setTop (entryFrame m #[(.int u0), (.int u1), (.int u2), (.int u3), (.int u4)] maxLocals)) T37 (mkF m 59 #[.val (.int u0), .val (.int u1), .val (.int u2), .val (.int u3), .val (.int u4), .val (.ref b2), .val (.ref b15), .val (.ref b37), .val (.int w53), .unset, .unset, .unset, .unset, .unset] [(.int w53)]) := fun t k => pre54 t (by
        refine XS.iload X37.here hx rfl (hb hby at_57) rfl ?_
        exact k)
    have hq_w53 := own_mod3 (u2)
    rw [← hw53] at hq_w53
    clear hw53
    rcases (hq_w53) with rfl | rfl | rfl
    · -- w53 = (0 : Int32)
      have pre57 : Go p.tables e below (s₁.setTop (entryFrame m #[(.int u0), (.int u1), (.int u2), (.int u3), (.int u4)] maxLocals)) T37 (mkF m 80 #[.val (.int u0), .val (.int u1), .val (.int u2), .val (.int u3), .val (.int u4), .val (.ref b2), .val (.ref b15), .val (.ref b37), .val (.int (0 : Int32)), .val (.int (0 : Int32)), .val (.int (1 : Int32)), .val (.int (2 : Int32)), .unset, .unset] [(.int (u1 &&& (1 : Int32)))]) := fun t k => pre56 t (by
          refine XS.istore X37.here hx rfl (hb hby at_59) rfl (l' := #[.val (.int u0), .val (.int u1), .val (.int u2), .val (.int u3), .val (.int u4), .val (.ref b2), .val (.ref b15), .val (.ref b37), .val (.int (0 : Int32)), .val (.int (0 : Int32)), .unset, .unset, .unset, .unset]) rfl ?_
          show Steps p.tables e below (T37.setTop (mkF m 61 #[.val (.int u0), .val (.int u1), .val (.int u2), .val (.int u3), .val (.int u4), .val (.ref b2), .val (.ref b15), .val (.ref b37), .val (.int (0 : Int32)), .val (.int (0 : Int32)), .unset, .unset, .unset, .unset] [])) _
          refine XS.iload X37.here hx rfl (hb hby at_61) rfl ?_
          refine XS.iconst X37.here hx rfl (hb hby at_63) ?_
          refine XS.iadd X37.here hx rfl (hb hby at_64) rfl ?_
          show Steps p.tables e below (T37.setTop (mkF m 65 #[.val (.int u0), .val (.int u1), .val (.int u2), .val (.int u3), .val (.int u4), .val (.ref b2), .val (.ref b15), .val (.ref b37), .val (.int (0 : Int32)), .val (.int (0 : Int32)), .unset, .unset, .unset, .unset] [(.int (1 : Int32))])) _
          refine XS.iconst X37.here hx rfl (hb hby at_65) ?_
          refine iremM X37 hx (g := (mkF m 66 #[.val (.int u0), .val (.int u1), .val (.int u2), .val (.int u3), .val (.int u4), .val (.ref b2), .val (.ref b15), .val (.ref b37), .val (.int (0 : Int32)), .val (.int (0 : Int32)), .unset, .unset, .unset, .unset] [(.int (3 : Int32)), (.int (1 : Int32))])) rfl (hb hby at_66) rfl (by decide) ?_
          show Steps p.tables e below (T37.setTop (mkF m 67 #[.val (.int u0), .val (.int u1), .val (.int u2), .val (.int u3), .val (.int u4), .val (.ref b2), .val (.ref b15), .val (.ref b37), .val (.int (0 : Int32)), .val (.int (0 : Int32)), .unset, .unset, .unset, .unset] [(.int (1 : Int32))])) _
          refine XS.istore X37.here hx rfl (hb hby at_67) rfl (l' := #[.val (.int u0), .val (.int u1), .val (.int u2), .val (.int u3), .val (.int u4), .val (.ref b2), .val (.ref b15), .val (.ref b37), .val (.int (0 : Int32)), .val (.int (0 : Int32)), .val (.int (1 : Int32)), .unset, .unset, .unset]) rfl ?_
          show Steps p.tables e below (T37.setTop (mkF m 69 #[.val (.int u0), .val (.int u1), .val (.int u2), .val (.int u3), .val (.int u4), .val (.ref b2), .val (.ref b15), .val (.ref b37), .val (.int (0 : Int32)), .val (.int (0 : Int32)), .val (.int (1 : Int32)), .unset, .unset, .unset] [])) _
          refine XS.iload X37.here hx rfl (hb hby at_69) rfl ?_
          refine XS.iconst X37.here hx rfl (hb hby at_71) ?_
          refine XS.iadd X37.here hx rfl (hb hby at_72) rfl ?_
          show Steps p.tables e below (T37.setTop (mkF m 73 #[.val (.int u0), .val (.int u1), .val (.int u2), .val (.int u3), .val (.int u4), .val (.ref b2), .val (.ref b15), .val (.ref b37), .val (.int (0 : Int32)), .val (.int (0 : Int32)), .val (.int (1 : Int32)), .unset, .unset, .unset] [(.int (2 : Int32))])) _
          refine XS.iconst X37.here hx rfl (hb hby at_73) ?_
          refine iremM X37 hx (g := (mkF m 74 #[.val (.int u0), .val (.int u1), .val (.int u2), .val (.int u3), .val (.int u4), .val (.ref b2), .val (.ref b15), .val (.ref b37), .val (.int (0 : Int32)), .val (.int (0 : Int32)), .val (.int (1 : Int32)), .unset, .unset, .unset] [(.int (3 : Int32)), (.int (2 : Int32))])) rfl (hb hby at_74) rfl (by decide) ?_
          show Steps p.tables e below (T37.setTop (mkF m 75 #[.val (.int u0), .val (.int u1), .val (.int u2), .val (.int u3), .val (.int u4), .val (.ref b2), .val (.ref b15), .val (.ref b37), .val (.int (0 : Int32)), .val (.int (0 : Int32)), .val (.int (1 : Int32)), .unset, .unset, .unset] [(.int (2 : Int32))])) _
          refine XS.istore X37.here hx rfl (hb hby at_75) rfl (l' := #[.val (.int u0), .val (.int u1), .val (.int u2), .val (.int u3), .val (.int u4), .val (.ref b2), .val (.ref b15), .val (.ref b37), .val (.int (0 : Int32)), .val (.int (0 : Int32)), .val (.int (1 : Int32)), .val (.int (2 : Int32)), .unset, .unset]) rfl ?_
          show Steps p.tables e below (T37.setTop (mkF m 77 #[.val (.int u0), .val (.int u1), .val (.int u2), .val (.int u3), .val (.int u4), .val (.ref b2), .val (.ref b15), .val (.ref b37), .val (.int (0 : Int32)), .val (.int (0 : Int32)), .val (.int (1 : Int32)), .val (.int (2 : Int32)), .unset, .unset] [])) _
          refine XS.iloadN X37.here hx rfl (hb hby at_77) rfl ?_
          refine XS.iconst X37.here hx rfl (hb hby at_78) ?_
          refine XS.iand X37.here hx rfl (hb hby at_79) rfl ?_
          exact k)
      by_cases hc58 : (u1 &&& (1 : Int32)) = (0 : Int32)
      · -- hc58: True
        have pre59 : Go p.tables e below (s₁.setTop (entryFrame m #[(.int u0), (.int u1), (.int u2), (.int u3), (.int u4)] maxLocals)) T37 (mkF m 99 #[.val (.int u0), .val (.int u1), .val (.int u2), .val (.int u3), .val (.int u4), .val (.ref b2), .val (.ref b15), .val (.ref b37), .val (.int (0 : Int32)), .val (.int (0 : Int32)), .val (.int (1 : Int32)), .val (.int (2 : Int32)), .unset, .unset] [(.int (u1 &&& (2 : Int32)))]) := fun t k => pre57 t (by
            refine XS.ifYes X37.here hx rfl (pc0 := 80) (pc' := 96) rfl (hb hby at_80) rfl ((if0 _ _).trans (teq hc58).1) (by decide) (by decide) ?_
            refine XS.iloadN X37.here hx rfl (hb hby at_96) rfl ?_
            refine XS.iconst X37.here hx rfl (hb hby at_97) ?_
            refine XS.iand X37.here hx rfl (hb hby at_98) rfl ?_
            exact k)
        by_cases hc60 : (u1 &&& (2 : Int32)) = (0 : Int32)
        · -- hc60: True
          have pre61 : Go p.tables e below (s₁.setTop (entryFrame m #[(.int u0), (.int u1), (.int u2), (.int u3), (.int u4)] maxLocals)) T37 (mkF m 118 #[.val (.int u0), .val (.int u1), .val (.int u2), .val (.int u3), .val (.int u4), .val (.ref b2), .val (.ref b15), .val (.ref b37), .val (.int (0 : Int32)), .val (.int (0 : Int32)), .val (.int (1 : Int32)), .val (.int (2 : Int32)), .unset, .unset] [(.int (u1 &&& (4 : Int32)))]) := fun t k => pre59 t (by
              refine XS.ifYes X37.here hx rfl (pc0 := 99) (pc' := 115) rfl (hb hby at_99) rfl ((if0 _ _).trans (teq hc60).1) (by decide) (by decide) ?_
              refine XS.iloadN X37.here hx rfl (hb hby at_115) rfl ?_
              refine XS.iconst X37.here hx rfl (hb hby at_116) ?_
              refine XS.iand X37.here hx rfl (hb hby at_117) rfl ?_
              exact k)
          by_cases hc62 : (u1 &&& (4 : Int32)) = (0 : Int32)
          · -- hc62: True
            have pre63 : Go p.tables e below (s₁.setTop (entryFrame m #[(.int u0), (.int u1), (.int u2), (.int u3), (.int u4)] maxLocals)) T37 (mkF m 134 #[.val (.int u0), .val (.int u1), .val (.int u2), .val (.int u3), .val (.int u4), .val (.ref b2), .val (.ref b15), .val (.ref b37), .val (.int (0 : Int32)), .val (.int (0 : Int32)), .val (.int (1 : Int32)), .val (.int (2 : Int32)), .unset, .unset] []) := fun t k => pre61 t (by
                refine XS.ifYes X37.here hx rfl (pc0 := 118) (pc' := 134) rfl (hb hby at_118) rfl ((if0 _ _).trans (teq hc62).1) (by decide) (by decide) ?_
                exact k)
            exact ⟨T37, _, h37, (0 : Int32), (0 : Int32), (1 : Int32), (2 : Int32), false, false, false, (0 : Int32), (0 : Int32), (0 : Int32), (-1 : Int32), (-1 : Int32), (-1 : Int32), X37, e37, N25, f43, f45, f46, f47, f48, f49, f44, f50, f51, f52, hS0, pre63⟩
          · -- hc62: False
            have pre64 : Go p.tables e below (s₁.setTop (entryFrame m #[(.int u0), (.int u1), (.int u2), (.int u3), (.int u4)] maxLocals)) T37 (mkF m 125 #[.val (.int u0), .val (.int u1), .val (.int u2), .val (.int u3), .val (.int u4), .val (.ref b2), .val (.ref b15), .val (.ref b37), .val (.int (0 : Int32)), .val (.int (0 : Int32)), .val (.int (1 : Int32)), .val (.int (2 : Int32)), .unset, .unset] [(.int (2 : Int32)), (.ref b15)]) := fun t k => pre61 t (by
                refine XS.ifNo X37.here hx rfl (hb hby at_118) rfl ((if0 _ _).trans (feq hc62).1) ?_
                refine XS.aload X37.here hx rfl (hb hby at_121) rfl rfl ?_
                refine XS.iload X37.here hx rfl (hb hby at_123) rfl ?_
                exact k)
            obtain ⟨cq65, kq65, q65a, q65b, q65c⟩ := isOf hZ e37 f45
            obtain ⟨_, _, ⟨T65, L65, k65, n65⟩, -, X65, ⟨Lc65, hQ65, l65, y65, z65⟩, st65⟩ := X37.virtualBack hx (y := (⟨"com/example/octopoll/octopoll/PageHeap", "add", "(I)V"⟩ : MethodName)) (z := (⟨"com/example/octopoll/octopoll/PageHeap", "add", "(I)V"⟩ : MethodName)) hown (mvT hZ (hw _ (List.mem_of_getElem? (i := 23) rfl))) (mvT hZ (hw _ (List.mem_of_getElem? (i := 24) rfl))) (notFace_of_selects (args := #[]) (mvT hZ (hw _ (List.mem_of_getElem? (i := 26) rfl)))) (mvT hZ (hw _ (List.mem_of_getElem? (i := 26) rfl))) (mvT hZ (hw _ (List.mem_of_getElem? (i := 25) rfl))) (by decide) (backOf (W := 0) (rm_add2 l Z av0 hw [] b15 b2 ha25 pa25 k2 kh25 kp25 (FP.i2d (u0 &&& (3 : Int32))) (FP.i2d ((u0 >>> ((2 : Int32) &&& 31)) &&& (3 : Int32))) (FP.i2d ((u0 >>> ((4 : Int32) &&& 31)) &&& (3 : Int32))) (0 : Int32) (0 : Int32) (0 : Int32) (-1 : Int32) (-1 : Int32) (-1 : Int32) false false h37 n0 f43 f45 f46 f47 f48 f49 f44 f50 f51 g17 gha25 gpa25 ne27 ne30 po25_0 ne16.symm ne26 ne29 hS0) hZ (hw _ (List.mem_of_getElem? (i := 27) rfl)) (hw _ (List.mem_of_getElem? (i := 3) rfl)) (by decide) (by decide)) q65a q65c (g := (mkF m 125 #[.val (.int u0), .val (.int u1), .val (.int u2), .val (.int u3), .val (.int u4), .val (.ref b2), .val (.ref b15), .val (.ref b37), .val (.int (0 : Int32)), .val (.int (0 : Int32)), .val (.int (1 : Int32)), .val (.int (2 : Int32)), .unset, .unset] [(.int (2 : Int32)), (.ref b15)])) rfl (by rw [hml]; rfl) (Steps.refl _) (argsL := [(.int (2 : Int32))]) (rest := []) (lenOf pd_2 rfl) rfl (by show 2 * 0 + _ ≤ _; exact Nat.le_of_eq rfl) (hb hby at_125) (fun _ _ => ⟨rfl, e37, (by decide : 5 + 0 ≤ _), (by decide : 16 + 0 ≤ _)⟩)
            dsimp only [Pt.U, Pt.locs, Pt.cells, Pt.slots] at X65 l65 y65 z65 st65 hQ65
            subst l65 y65 z65
            obtain ⟨z065, z165, z265, z365, z465, z565, hv65, N65q, K65, fo65_0, fo65_1, fo65_2, fo65_3, fo65_4, fo65_5, fo65_6, po65_0⟩ := hQ65
            have f66 := Nat.le_trans f43 K65.1
            have f67 := f44.keep K65 (ninS ne16 (ninS ne26 (ninS ne29 nin0)))
            have f68 := f45.keep K65
            have f69 := f52.keep K65 (ninS ne39.symm (ninS ne40.symm (ninS ne41.symm nin0)))
            subst hv65
            have N65 := Fr.app N25 N65q
            have pre65 : Go p.tables e below (s₁.setTop (entryFrame m #[(.int u0), (.int u1), (.int u2), (.int u3), (.int u4)] maxLocals)) T65 (mkF m 128 #[.val (.int u0), .val (.int u1), .val (.int u2), .val (.int u3), .val (.int u4), .val (.ref b2), .val (.ref b15), .val (.ref b37), .val (.int (0 : Int32)), .val (.int (0 : Int32)), .val (.int (1 : Int32)), .val (.int (2 : Int32)), .unset, .unset] []) := fun t k => pre64 t (st65.trans k)
            have pre70 : Go p.tables e below (s₁.setTop (entryFrame m #[(.int u0), (.int u1), (.int u2), (.int u3), (.int u4)] maxLocals)) T65 (mkF m 133 #[.val (.int u0), .val (.int u1), .val (.int u2), .val (.int u3), .val (.int u4), .val (.ref b2), .val (.ref b15), .val (.ref b37), .val (.int (0 : Int32)), .val (.int (0 : Int32)), .val (.int (1 : Int32)), .val (.int (2 : Int32)), .unset, .unset] [(.int (1 : Int32)), (.int (2 : Int32)), (.ref b37)]) := fun t k => pre65 t (by
                refine XS.aload X65.here hx rfl (hb hby at_128) rfl rfl ?_
                refine XS.iload X65.here hx rfl (hb hby at_130) rfl ?_
                refine XS.iconst X65.here hx rfl (hb hby at_132) ?_
                exact k)
            obtain ⟨c71, Ar71, q71, S71, M71, H71, G71⟩ := (id f69)
            have hin71 : ¬ ((2 : Int32) < 0 ∨ c71.slots.size ≤ ((2 : Int32)).toNatClampNeg) := inb_of S71 ⟨by decide, by decide⟩
            obtain ⟨T71, h71, X71, e71, W71, st71⟩ := stZ X65 hx hZ rfl Ar71 (j := (2 : Int32)) hin71 (g := (mkF m 133 #[.val (.int u0), .val (.int u1), .val (.int u2), .val (.int u3), .val (.int u4), .val (.ref b2), .val (.ref b15), .val (.ref b37), .val (.int (0 : Int32)), .val (.int (0 : Int32)), .val (.int (1 : Int32)), .val (.int (2 : Int32)), .unset, .unset] [(.int (1 : Int32)), (.int (2 : Int32)), (.ref b37)])) rfl rfl (hb hby at_133)
            have fa71 : Arv Z h71 b37 k37 .boolean (3 : Int32) [(.int (0 : Int32)), (.int (0 : Int32)), (.int (1 : Int32))] (.int (0 : Int32)) := Arv.set Ar71 q71 S71 M71 H71 G71 (fits_nar_bool _) W71 2 rfl (Nat.le_of_ble_eq_true rfl)
            have N71 := Fr.snoc X71 N65 g42
            have f72 : n0 ≤ h71.size := Nat.le_trans f66 (Keep.of_wr W71).1
            have f73 : Arv Z h71 b2 k2 .double (3 : Int32) [(.double (FP.i2d (u0 &&& (3 : Int32)))), (.double (FP.i2d ((u0 >>> ((2 : Int32) &&& 31)) &&& (3 : Int32)))), (.double (FP.i2d ((u0 >>> ((4 : Int32) &&& 31)) &&& (3 : Int32))))] (.double 0) := f67.other W71 ne38
            have f74 : Exa Z h71 b15 "com/example/octopoll/octopoll/PageHeap" := fo65_0.wr W71
            have f75 : Fld Z h71 b15 "com/example/octopoll/octopoll/PageHeap" "key" "[D" (.ref b2) := fo65_1.other W71 (Or.inl ne39)
            have f76 : Fld Z h71 b15 "com/example/octopoll/octopoll/PageHeap" "heap" "[I" (.ref ha25) := fo65_2.other W71 (Or.inl ne39)
            have f77 : Fld Z h71 b15 "com/example/octopoll/octopoll/PageHeap" "position" "[I" (.ref pa25) := fo65_3.other W71 (Or.inl ne39)
            have f78 : Fld Z h71 b15 "com/example/octopoll/octopoll/PageHeap" "size" "I" (.int (1 : Int32)) := fo65_4.other W71 (Or.inl ne39)
            have f79 : Arv Z h71 ha25 kh25 .int (3 : Int32) [(.int z065), (.int z165), (.int z265)] (.int (0 : Int32)) := fo65_5.other W71 ne40
            have f80 : Arv Z h71 pa25 kp25 .int (3 : Int32) [(.int z365), (.int z465), (.int z565)] (.int (0 : Int32)) := fo65_6.other W71 ne41
            have pre71 : Go p.tables e below (s₁.setTop (entryFrame m #[(.int u0), (.int u1), (.int u2), (.int u3), (.int u4)] maxLocals)) T71 (mkF m 134 #[.val (.int u0), .val (.int u1), .val (.int u2), .val (.int u3), .val (.int u4), .val (.ref b2), .val (.ref b15), .val (.ref b37), .val (.int (0 : Int32)), .val (.int (0 : Int32)), .val (.int (1 : Int32)), .val (.int (2 : Int32)), .unset, .unset] []) := fun t k => pre70 t (st71 _ k)
            exact ⟨T71, _, h71, (0 : Int32), (0 : Int32), (1 : Int32), (2 : Int32), false, false, true, z065, z165, z265, z365, z465, z565, X71, e71, N71, f72, f74, f75, f76, f77, f78, f73, f79, f80, fa71, po65_0, pre71⟩
        · -- hc60: False
          have pre81 : Go p.tables e below (s₁.setTop (entryFrame m #[(.int u0), (.int u1), (.int u2), (.int u3), (.int u4)] maxLocals)) T37 (mkF m 106 #[.val (.int u0), .val (.int u1), .val (.int u2), .val (.int u3), .val (.int u4), .val (.ref b2), .val (.ref b15), .val (.ref b37), .val (.int (0 : Int32)), .val (.int (0 : Int32)), .val (.int (1 : Int32)), .val (.int (2 : Int32)), .unset, .unset] [(.int (1 : Int32)), (.ref b15)]) := fun t k => pre59 t (by
              refine XS.ifNo X37.here hx rfl (hb hby at_99) rfl ((if0 _ _).trans (feq hc60).1) ?_
              refine XS.aload X37.here hx rfl (hb hby at_102) rfl rfl ?_
              refine XS.iload X37.here hx rfl (hb hby at_104) rfl ?_
              exact k)
          obtain ⟨cq82, kq82, q82a, q82b, q82c⟩ := isOf hZ e37 f45
          obtain ⟨_, _, ⟨T82, L82, k82, n82⟩, -, X82, ⟨Lc82, hQ82, l82, y82, z82⟩, st82⟩ := X37.virtualBack hx (y := (⟨"com/example/octopoll/octopoll/PageHeap", "add", "(I)V"⟩ : MethodName)) (z := (⟨"com/example/octopoll/octopoll/PageHeap", "add", "(I)V"⟩ : MethodName)) hown (mvT hZ (hw _ (List.mem_of_getElem? (i := 23) rfl))) (mvT hZ (hw _ (List.mem_of_getElem? (i := 24) rfl))) (notFace_of_selects (args := #[]) (mvT hZ (hw _ (List.mem_of_getElem? (i := 26) rfl)))) (mvT hZ (hw _ (List.mem_of_getElem? (i := 26) rfl))) (mvT hZ (hw _ (List.mem_of_getElem? (i := 25) rfl))) (by decide) (backOf (W := 0) (rm_add1 l Z av0 hw [] b15 b2 ha25 pa25 k2 kh25 kp25 (FP.i2d (u0 &&& (3 : Int32))) (FP.i2d ((u0 >>> ((2 : Int32) &&& 31)) &&& (3 : Int32))) (FP.i2d ((u0 >>> ((4 : Int32) &&& 31)) &&& (3 : Int32))) (0 : Int32) (0 : Int32) (0 : Int32) (-1 : Int32) (-1 : Int32) (-1 : Int32) false false h37 n0 f43 f45 f46 f47 f48 f49 f44 f50 f51 g17 gha25 gpa25 ne27 ne30 po25_0 ne16.symm ne26 ne29 hS0) hZ (hw _ (List.mem_of_getElem? (i := 27) rfl)) (hw _ (List.mem_of_getElem? (i := 3) rfl)) (by decide) (by decide)) q82a q82c (g := (mkF m 106 #[.val (.int u0), .val (.int u1), .val (.int u2), .val (.int u3), .val (.int u4), .val (.ref b2), .val (.ref b15), .val (.ref b37), .val (.int (0 : Int32)), .val (.int (0 : Int32)), .val (.int (1 : Int32)), .val (.int (2 : Int32)), .unset, .unset] [(.int (1 : Int32)), (.ref b15)])) rfl (by rw [hml]; rfl) (Steps.refl _) (argsL := [(.int (1 : Int32))]) (rest := []) (lenOf pd_2 rfl) rfl (by show 2 * 0 + _ ≤ _; exact Nat.le_of_eq rfl) (hb hby at_106) (fun _ _ => ⟨rfl, e37, (by decide : 5 + 0 ≤ _), (by decide : 16 + 0 ≤ _)⟩)
          dsimp only [Pt.U, Pt.locs, Pt.cells, Pt.slots] at X82 l82 y82 z82 st82 hQ82
          subst l82 y82 z82
          obtain ⟨z082, z182, z282, z382, z482, z582, hv82, N82q, K82, fo82_0, fo82_1, fo82_2, fo82_3, fo82_4, fo82_5, fo82_6, po82_0⟩ := hQ82
          have f83 := Nat.le_trans f43 K82.1
          have f84 := f44.keep K82 (ninS ne16 (ninS ne26 (ninS ne29 nin0)))
          have f85 := f45.keep K82
          have f86 := f52.keep K82 (ninS ne39.symm (ninS ne40.symm (ninS ne41.symm nin0)))
          subst hv82
          have N82 := Fr.app N25 N82q
          have pre82 : Go p.tables e below (s₁.setTop (entryFrame m #[(.int u0), (.int u1), (.int u2), (.int u3), (.int u4)] maxLocals)) T82 (mkF m 109 #[.val (.int u0), .val (.int u1), .val (.int u2), .val (.int u3), .val (.int u4), .val (.ref b2), .val (.ref b15), .val (.ref b37), .val (.int (0 : Int32)), .val (.int (0 : Int32)), .val (.int (1 : Int32)), .val (.int (2 : Int32)), .unset, .unset] []) := fun t k => pre81 t (st82.trans k)
          have pre87 : Go p.tables e below (s₁.setTop (entryFrame m #[(.int u0), (.int u1), (.int u2), (.int u3), (.int u4)] maxLocals)) T82 (mkF m 114 #[.val (.int u0), .val (.int u1), .val (.int u2), .val (.int u3), .val (.int u4), .val (.ref b2), .val (.ref b15), .val (.ref b37), .val (.int (0 : Int32)), .val (.int (0 : Int32)), .val (.int (1 : Int32)), .val (.int (2 : Int32)), .unset, .unset] [(.int (1 : Int32)), (.int (1 : Int32)), (.ref b37)]) := fun t k => pre82 t (by
              refine XS.aload X82.here hx rfl (hb hby at_109) rfl rfl ?_
              refine XS.iload X82.here hx rfl (hb hby at_111) rfl ?_
              refine XS.iconst X82.here hx rfl (hb hby at_113) ?_
              exact k)
          obtain ⟨c88, Ar88, q88, S88, M88, H88, G88⟩ := (id f86)
          have hin88 : ¬ ((1 : Int32) < 0 ∨ c88.slots.size ≤ ((1 : Int32)).toNatClampNeg) := inb_of S88 ⟨by decide, by decide⟩
          obtain ⟨T88, h88, X88, e88, W88, st88⟩ := stZ X82 hx hZ rfl Ar88 (j := (1 : Int32)) hin88 (g := (mkF m 114 #[.val (.int u0), .val (.int u1), .val (.int u2), .val (.int u3), .val (.int u4), .val (.ref b2), .val (.ref b15), .val (.ref b37), .val (.int (0 : Int32)), .val (.int (0 : Int32)), .val (.int (1 : Int32)), .val (.int (2 : Int32)), .unset, .unset] [(.int (1 : Int32)), (.int (1 : Int32)), (.ref b37)])) rfl rfl (hb hby at_114)
          have fa88 : Arv Z h88 b37 k37 .boolean (3 : Int32) [(.int (0 : Int32)), (.int (1 : Int32)), (.int (0 : Int32))] (.int (0 : Int32)) := Arv.set Ar88 q88 S88 M88 H88 G88 (fits_nar_bool _) W88 1 rfl (Nat.le_of_ble_eq_true rfl)
          have N88 := Fr.snoc X88 N82 g42
          have f89 : n0 ≤ h88.size := Nat.le_trans f83 (Keep.of_wr W88).1
          have f90 : Arv Z h88 b2 k2 .double (3 : Int32) [(.double (FP.i2d (u0 &&& (3 : Int32)))), (.double (FP.i2d ((u0 >>> ((2 : Int32) &&& 31)) &&& (3 : Int32)))), (.double (FP.i2d ((u0 >>> ((4 : Int32) &&& 31)) &&& (3 : Int32))))] (.double 0) := f84.other W88 ne38
          have f91 : Exa Z h88 b15 "com/example/octopoll/octopoll/PageHeap" := fo82_0.wr W88
          have f92 : Fld Z h88 b15 "com/example/octopoll/octopoll/PageHeap" "key" "[D" (.ref b2) := fo82_1.other W88 (Or.inl ne39)
          have f93 : Fld Z h88 b15 "com/example/octopoll/octopoll/PageHeap" "heap" "[I" (.ref ha25) := fo82_2.other W88 (Or.inl ne39)
          have f94 : Fld Z h88 b15 "com/example/octopoll/octopoll/PageHeap" "position" "[I" (.ref pa25) := fo82_3.other W88 (Or.inl ne39)
          have f95 : Fld Z h88 b15 "com/example/octopoll/octopoll/PageHeap" "size" "I" (.int (1 : Int32)) := fo82_4.other W88 (Or.inl ne39)
          have f96 : Arv Z h88 ha25 kh25 .int (3 : Int32) [(.int z082), (.int z182), (.int z282)] (.int (0 : Int32)) := fo82_5.other W88 ne40
          have f97 : Arv Z h88 pa25 kp25 .int (3 : Int32) [(.int z382), (.int z482), (.int z582)] (.int (0 : Int32)) := fo82_6.other W88 ne41
          have pre88 : Go p.tables e below (s₁.setTop (entryFrame m #[(.int u0), (.int u1), (.int u2), (.int u3), (.int u4)] maxLocals)) T88 (mkF m 115 #[.val (.int u0), .val (.int u1), .val (.int u2), .val (.int u3), .val (.int u4), .val (.ref b2), .val (.ref b15), .val (.ref b37), .val (.int (0 : Int32)), .val (.int (0 : Int32)), .val (.int (1 : Int32)), .val (.int (2 : Int32)), .unset, .unset] []) := fun t k => pre87 t (st88 _ k)
          have pre98 : Go p.tables e below (s₁.setTop (entryFrame m #[(.int u0), (.int u1), (.int u2), (.int u3), (.int u4)] maxLocals)) T88 (mkF m 118 #[.val (.int u0), .val (.int u1), .val (.int u2), .val (.int u3), .val (.int u4), .val (.ref b2), .val (.ref b15), .val (.ref b37), .val (.int (0 : Int32)), .val (.int (0 : Int32)), .val (.int (1 : Int32)), .val (.int (2 : Int32)), .unset, .unset] [(.int (u1 &&& (4 : Int32)))]) := fun t k => pre88 t (by
              refine XS.iloadN X88.here hx rfl (hb hby at_115) rfl ?_
              refine XS.iconst X88.here hx rfl (hb hby at_116) ?_
              refine XS.iand X88.here hx rfl (hb hby at_117) rfl ?_
              exact k)
          by_cases hc99 : (u1 &&& (4 : Int32)) = (0 : Int32)
          · -- hc99: True
            have pre100 : Go p.tables e below (s₁.setTop (entryFrame m #[(.int u0), (.int u1), (.int u2), (.int u3), (.int u4)] maxLocals)) T88 (mkF m 134 #[.val (.int u0), .val (.int u1), .val (.int u2), .val (.int u3), .val (.int u4), .val (.ref b2), .val (.ref b15), .val (.ref b37), .val (.int (0 : Int32)), .val (.int (0 : Int32)), .val (.int (1 : Int32)), .val (.int (2 : Int32)), .unset, .unset] []) := fun t k => pre98 t (by
                refine XS.ifYes X88.here hx rfl (pc0 := 118) (pc' := 134) rfl (hb hby at_118) rfl ((if0 _ _).trans (teq hc99).1) (by decide) (by decide) ?_
                exact k)
            exact ⟨T88, _, h88, (0 : Int32), (0 : Int32), (1 : Int32), (2 : Int32), false, true, false, z082, z182, z282, z382, z482, z582, X88, e88, N88, f89, f91, f92, f93, f94, f95, f90, f96, f97, fa88, po82_0, pre100⟩
          · -- hc99: False
            have pre101 : Go p.tables e below (s₁.setTop (entryFrame m #[(.int u0), (.int u1), (.int u2), (.int u3), (.int u4)] maxLocals)) T88 (mkF m 125 #[.val (.int u0), .val (.int u1), .val (.int u2), .val (.int u3), .val (.int u4), .val (.ref b2), .val (.ref b15), .val (.ref b37), .val (.int (0 : Int32)), .val (.int (0 : Int32)), .val (.int (1 : Int32)), .val (.int (2 : Int32)), .unset, .unset] [(.int (2 : Int32)), (.ref b15)]) := fun t k => pre98 t (by
                refine XS.ifNo X88.here hx rfl (hb hby at_118) rfl ((if0 _ _).trans (feq hc99).1) ?_
                refine XS.aload X88.here hx rfl (hb hby at_121) rfl rfl ?_
                refine XS.iload X88.here hx rfl (hb hby at_123) rfl ?_
                exact k)
            obtain ⟨cq102, kq102, q102a, q102b, q102c⟩ := isOf hZ e88 f91
            obtain ⟨_, _, ⟨T102, L102, k102, n102⟩, -, X102, ⟨Lc102, hQ102, l102, y102, z102⟩, st102⟩ := X88.virtualBack hx (y := (⟨"com/example/octopoll/octopoll/PageHeap", "add", "(I)V"⟩ : MethodName)) (z := (⟨"com/example/octopoll/octopoll/PageHeap", "add", "(I)V"⟩ : MethodName)) hown (mvT hZ (hw _ (List.mem_of_getElem? (i := 23) rfl))) (mvT hZ (hw _ (List.mem_of_getElem? (i := 24) rfl))) (notFace_of_selects (args := #[]) (mvT hZ (hw _ (List.mem_of_getElem? (i := 26) rfl)))) (mvT hZ (hw _ (List.mem_of_getElem? (i := 26) rfl))) (mvT hZ (hw _ (List.mem_of_getElem? (i := 25) rfl))) (by decide) (backOf (W := 0) (rm_add2 l Z av0 hw [] b15 b2 ha25 pa25 k2 kh25 kp25 (FP.i2d (u0 &&& (3 : Int32))) (FP.i2d ((u0 >>> ((2 : Int32) &&& 31)) &&& (3 : Int32))) (FP.i2d ((u0 >>> ((4 : Int32) &&& 31)) &&& (3 : Int32))) z082 z182 z282 z382 z482 z582 false true h88 n0 f89 f91 f92 f93 f94 f95 f90 f96 f97 g17 gha25 gpa25 ne27 ne30 po25_0 ne16.symm ne26 ne29 po82_0) hZ (hw _ (List.mem_of_getElem? (i := 27) rfl)) (hw _ (List.mem_of_getElem? (i := 3) rfl)) (by decide) (by decide)) q102a q102c (g := (mkF m 125 #[.val (.int u0), .val (.int u1), .val (.int u2), .val (.int u3), .val (.int u4), .val (.ref b2), .val (.ref b15), .val (.ref b37), .val (.int (0 : Int32)), .val (.int (0 : Int32)), .val (.int (1 : Int32)), .val (.int (2 : Int32)), .unset, .unset] [(.int (2 : Int32)), (.ref b15)])) rfl (by rw [hml]; rfl) (Steps.refl _) (argsL := [(.int (2 : Int32))]) (rest := []) (lenOf pd_2 rfl) rfl (by show 2 * 0 + _ ≤ _; exact Nat.le_of_eq rfl) (hb hby at_125) (fun _ _ => ⟨rfl, e88, (by decide : 5 + 0 ≤ _), (by decide : 16 + 0 ≤ _)⟩)
            dsimp only [Pt.U, Pt.locs, Pt.cells, Pt.slots] at X102 l102 y102 z102 st102 hQ102
            subst l102 y102 z102
            obtain ⟨z0102, z1102, z2102, z3102, z4102, z5102, hv102, N102q, K102, fo102_0, fo102_1, fo102_2, fo102_3, fo102_4, fo102_5, fo102_6, po102_0⟩ := hQ102
            have f103 := Nat.le_trans f89 K102.1
            have f104 := f90.keep K102 (ninS ne16 (ninS ne26 (ninS ne29 nin0)))
            have f105 := f91.keep K102
            have f106 := fa88.keep K102 (ninS ne39.symm (ninS ne40.symm (ninS ne41.symm nin0)))
            subst hv102
            have N102 := Fr.app N88 N102q
            have pre102 : Go p.tables e below (s₁.setTop (entryFrame m #[(.int u0), (.int u1), (.int u2), (.int u3), (.int u4)] maxLocals)) T102 (mkF m 128 #[.val (.int u0), .val (.int u1), .val (.int u2), .val (.int u3), .val (.int u4), .val (.ref b2), .val (.ref b15), .val (.ref b37), .val (.int (0 : Int32)), .val (.int (0 : Int32)), .val (.int (1 : Int32)), .val (.int (2 : Int32)), .unset, .unset] []) := fun t k => pre101 t (st102.trans k)
            have pre107 : Go p.tables e below (s₁.setTop (entryFrame m #[(.int u0), (.int u1), (.int u2), (.int u3), (.int u4)] maxLocals)) T102 (mkF m 133 #[.val (.int u0), .val (.int u1), .val (.int u2), .val (.int u3), .val (.int u4), .val (.ref b2), .val (.ref b15), .val (.ref b37), .val (.int (0 : Int32)), .val (.int (0 : Int32)), .val (.int (1 : Int32)), .val (.int (2 : Int32)), .unset, .unset] [(.int (1 : Int32)), (.int (2 : Int32)), (.ref b37)]) := fun t k => pre102 t (by
                refine XS.aload X102.here hx rfl (hb hby at_128) rfl rfl ?_
                refine XS.iload X102.here hx rfl (hb hby at_130) rfl ?_
                refine XS.iconst X102.here hx rfl (hb hby at_132) ?_
                exact k)
            obtain ⟨c108, Ar108, q108, S108, M108, H108, G108⟩ := (id f106)
            have hin108 : ¬ ((2 : Int32) < 0 ∨ c108.slots.size ≤ ((2 : Int32)).toNatClampNeg) := inb_of S108 ⟨by decide, by decide⟩
            obtain ⟨T108, h108, X108, e108, W108, st108⟩ := stZ X102 hx hZ rfl Ar108 (j := (2 : Int32)) hin108 (g := (mkF m 133 #[.val (.int u0), .val (.int u1), .val (.int u2), .val (.int u3), .val (.int u4), .val (.ref b2), .val (.ref b15), .val (.ref b37), .val (.int (0 : Int32)), .val (.int (0 : Int32)), .val (.int (1 : Int32)), .val (.int (2 : Int32)), .unset, .unset] [(.int (1 : Int32)), (.int (2 : Int32)), (.ref b37)])) rfl rfl (hb hby at_133)
            have fa108 : Arv Z h108 b37 k37 .boolean (3 : Int32) [(.int (0 : Int32)), (.int (1 : Int32)), (.int (1 : Int32))] (.int (0 : Int32)) := Arv.set Ar108 q108 S108 M108 H108 G108 (fits_nar_bool _) W108 2 rfl (Nat.le_of_ble_eq_true rfl)
            have N108 := Fr.snoc X108 N102 g42
            have f109 : n0 ≤ h108.size := Nat.le_trans f103 (Keep.of_wr W108).1
            have f110 : Arv Z h108 b2 k2 .double (3 : Int32) [(.double (FP.i2d (u0 &&& (3 : Int32)))), (.double (FP.i2d ((u0 >>> ((2 : Int32) &&& 31)) &&& (3 : Int32)))), (.double (FP.i2d ((u0 >>> ((4 : Int32) &&& 31)) &&& (3 : Int32))))] (.double 0) := f104.other W108 ne38
            have f111 : Exa Z h108 b15 "com/example/octopoll/octopoll/PageHeap" := fo102_0.wr W108
            have f112 : Fld Z h108 b15 "com/example/octopoll/octopoll/PageHeap" "key" "[D" (.ref b2) := fo102_1.other W108 (Or.inl ne39)
            have f113 : Fld Z h108 b15 "com/example/octopoll/octopoll/PageHeap" "heap" "[I" (.ref ha25) := fo102_2.other W108 (Or.inl ne39)
            have f114 : Fld Z h108 b15 "com/example/octopoll/octopoll/PageHeap" "position" "[I" (.ref pa25) := fo102_3.other W108 (Or.inl ne39)
            have f115 : Fld Z h108 b15 "com/example/octopoll/octopoll/PageHeap" "size" "I" (.int (2 : Int32)) := fo102_4.other W108 (Or.inl ne39)
            have f116 : Arv Z h108 ha25 kh25 .int (3 : Int32) [(.int z0102), (.int z1102), (.int z2102)] (.int (0 : Int32)) := fo102_5.other W108 ne40
            have f117 : Arv Z h108 pa25 kp25 .int (3 : Int32) [(.int z3102), (.int z4102), (.int z5102)] (.int (0 : Int32)) := fo102_6.other W108 ne41
            have pre108 : Go p.tables e below (s₁.setTop (entryFrame m #[(.int u0), (.int u1), (.int u2), (.int u3), (.int u4)] maxLocals)) T108 (mkF m 134 #[.val (.int u0), .val (.int u1), .val (.int u2), .val (.int u3), .val (.int u4), .val (.ref b2), .val (.ref b15), .val (.ref b37), .val (.int (0 : Int32)), .val (.int (0 : Int32)), .val (.int (1 : Int32)), .val (.int (2 : Int32)), .unset, .unset] []) := fun t k => pre107 t (st108 _ k)
            exact ⟨T108, _, h108, (0 : Int32), (0 : Int32), (1 : Int32), (2 : Int32), false, true, true, z0102, z1102, z2102, z3102, z4102, z5102, X108, e108, N108, f109, f111, f112, f113, f114, f115, f110, f116, f117, fa108, po102_0, pre108⟩
      · -- hc58: False
        have pre118 : Go p.tables e below (s₁.setTop (entryFrame m #[(.int u0), (.int u1), (.int u2), (.int u3), (.int u4)] maxLocals)) T37 (mkF m 87 #[.val (.int u0), .val (.int u1), .val (.int u2), .val (.int u3), .val (.int u4), .val (.ref b2), .val (.ref b15), .val (.ref b37), .val (.int (0 : Int32)), .val (.int (0 : Int32)), .val (.int (1 : Int32)), .val (.int (2 : Int32)), .unset, .unset] [(.int (0 : Int32)), (.ref b15)]) := fun t k => pre57 t (by
            refine XS.ifNo X37.here hx rfl (hb hby at_80) rfl ((if0 _ _).trans (feq hc58).1) ?_
            refine XS.aload X37.here hx rfl (hb hby at_83) rfl rfl ?_
            refine XS.iload X37.here hx rfl (hb hby at_85) rfl ?_
            exact k)
        obtain ⟨cq119, kq119, q119a, q119b, q119c⟩ := isOf hZ e37 f45
        obtain ⟨_, _, ⟨T119, L119, k119, n119⟩, -, X119, ⟨Lc119, hQ119, l119, y119, z119⟩, st119⟩ := X37.virtualBack hx (y := (⟨"com/example/octopoll/octopoll/PageHeap", "add", "(I)V"⟩ : MethodName)) (z := (⟨"com/example/octopoll/octopoll/PageHeap", "add", "(I)V"⟩ : MethodName)) hown (mvT hZ (hw _ (List.mem_of_getElem? (i := 23) rfl))) (mvT hZ (hw _ (List.mem_of_getElem? (i := 24) rfl))) (notFace_of_selects (args := #[]) (mvT hZ (hw _ (List.mem_of_getElem? (i := 26) rfl)))) (mvT hZ (hw _ (List.mem_of_getElem? (i := 26) rfl))) (mvT hZ (hw _ (List.mem_of_getElem? (i := 25) rfl))) (by decide) (backOf (W := 0) (rm_add0 l Z av0 hw [] b15 b2 ha25 pa25 k2 kh25 kp25 (FP.i2d (u0 &&& (3 : Int32))) (FP.i2d ((u0 >>> ((2 : Int32) &&& 31)) &&& (3 : Int32))) (FP.i2d ((u0 >>> ((4 : Int32) &&& 31)) &&& (3 : Int32))) (0 : Int32) (0 : Int32) (0 : Int32) (-1 : Int32) (-1 : Int32) (-1 : Int32) false false h37 n0 f43 f45 f46 f47 f48 f49 f44 f50 f51 g17 gha25 gpa25 ne27 ne30 po25_0 ne16.symm ne26 ne29 hS0) hZ (hw _ (List.mem_of_getElem? (i := 27) rfl)) (hw _ (List.mem_of_getElem? (i := 3) rfl)) (by decide) (by decide)) q119a q119c (g := (mkF m 87 #[.val (.int u0), .val (.int u1), .val (.int u2), .val (.int u3), .val (.int u4), .val (.ref b2), .val (.ref b15), .val (.ref b37), .val (.int (0 : Int32)), .val (.int (0 : Int32)), .val (.int (1 : Int32)), .val (.int (2 : Int32)), .unset, .unset] [(.int (0 : Int32)), (.ref b15)])) rfl (by rw [hml]; rfl) (Steps.refl _) (argsL := [(.int (0 : Int32))]) (rest := []) (lenOf pd_2 rfl) rfl (by show 2 * 0 + _ ≤ _; exact Nat.le_of_eq rfl) (hb hby at_87) (fun _ _ => ⟨rfl, e37, (by decide : 5 + 0 ≤ _), (by decide : 16 + 0 ≤ _)⟩)
        dsimp only [Pt.U, Pt.locs, Pt.cells, Pt.slots] at X119 l119 y119 z119 st119 hQ119
        subst l119 y119 z119
        obtain ⟨z0119, z1119, z2119, z3119, z4119, z5119, hv119, N119q, K119, fo119_0, fo119_1, fo119_2, fo119_3, fo119_4, fo119_5, fo119_6, po119_0⟩ := hQ119
        have f120 := Nat.le_trans f43 K119.1
        have f121 := f44.keep K119 (ninS ne16 (ninS ne26 (ninS ne29 nin0)))
        have f122 := f45.keep K119
        have f123 := f52.keep K119 (ninS ne39.symm (ninS ne40.symm (ninS ne41.symm nin0)))
        subst hv119
        have N119 := Fr.app N25 N119q
        have pre119 : Go p.tables e below (s₁.setTop (entryFrame m #[(.int u0), (.int u1), (.int u2), (.int u3), (.int u4)] maxLocals)) T119 (mkF m 90 #[.val (.int u0), .val (.int u1), .val (.int u2), .val (.int u3), .val (.int u4), .val (.ref b2), .val (.ref b15), .val (.ref b37), .val (.int (0 : Int32)), .val (.int (0 : Int32)), .val (.int (1 : Int32)), .val (.int (2 : Int32)), .unset, .unset] []) := fun t k => pre118 t (st119.trans k)
        have pre124 : Go p.tables e below (s₁.setTop (entryFrame m #[(.int u0), (.int u1), (.int u2), (.int u3), (.int u4)] maxLocals)) T119 (mkF m 95 #[.val (.int u0), .val (.int u1), .val (.int u2), .val (.int u3), .val (.int u4), .val (.ref b2), .val (.ref b15), .val (.ref b37), .val (.int (0 : Int32)), .val (.int (0 : Int32)), .val (.int (1 : Int32)), .val (.int (2 : Int32)), .unset, .unset] [(.int (1 : Int32)), (.int (0 : Int32)), (.ref b37)]) := fun t k => pre119 t (by
            refine XS.aload X119.here hx rfl (hb hby at_90) rfl rfl ?_
            refine XS.iload X119.here hx rfl (hb hby at_92) rfl ?_
            refine XS.iconst X119.here hx rfl (hb hby at_94) ?_
            exact k)
        obtain ⟨c125, Ar125, q125, S125, M125, H125, G125⟩ := (id f123)
        have hin125 : ¬ ((0 : Int32) < 0 ∨ c125.slots.size ≤ ((0 : Int32)).toNatClampNeg) := inb_of S125 ⟨by decide, by decide⟩
        obtain ⟨T125, h125, X125, e125, W125, st125⟩ := stZ X119 hx hZ rfl Ar125 (j := (0 : Int32)) hin125 (g := (mkF m 95 #[.val (.int u0), .val (.int u1), .val (.int u2), .val (.int u3), .val (.int u4), .val (.ref b2), .val (.ref b15), .val (.ref b37), .val (.int (0 : Int32)), .val (.int (0 : Int32)), .val (.int (1 : Int32)), .val (.int (2 : Int32)), .unset, .unset] [(.int (1 : Int32)), (.int (0 : Int32)), (.ref b37)])) rfl rfl (hb hby at_95)
        have fa125 : Arv Z h125 b37 k37 .boolean (3 : Int32) [(.int (1 : Int32)), (.int (0 : Int32)), (.int (0 : Int32))] (.int (0 : Int32)) := Arv.set Ar125 q125 S125 M125 H125 G125 (fits_nar_bool _) W125 0 rfl (Nat.le_of_ble_eq_true rfl)
        have N125 := Fr.snoc X125 N119 g42
        have f126 : n0 ≤ h125.size := Nat.le_trans f120 (Keep.of_wr W125).1
        have f127 : Arv Z h125 b2 k2 .double (3 : Int32) [(.double (FP.i2d (u0 &&& (3 : Int32)))), (.double (FP.i2d ((u0 >>> ((2 : Int32) &&& 31)) &&& (3 : Int32)))), (.double (FP.i2d ((u0 >>> ((4 : Int32) &&& 31)) &&& (3 : Int32))))] (.double 0) := f121.other W125 ne38
        have f128 : Exa Z h125 b15 "com/example/octopoll/octopoll/PageHeap" := fo119_0.wr W125
        have f129 : Fld Z h125 b15 "com/example/octopoll/octopoll/PageHeap" "key" "[D" (.ref b2) := fo119_1.other W125 (Or.inl ne39)
        have f130 : Fld Z h125 b15 "com/example/octopoll/octopoll/PageHeap" "heap" "[I" (.ref ha25) := fo119_2.other W125 (Or.inl ne39)
        have f131 : Fld Z h125 b15 "com/example/octopoll/octopoll/PageHeap" "position" "[I" (.ref pa25) := fo119_3.other W125 (Or.inl ne39)
        have f132 : Fld Z h125 b15 "com/example/octopoll/octopoll/PageHeap" "size" "I" (.int (1 : Int32)) := fo119_4.other W125 (Or.inl ne39)
        have f133 : Arv Z h125 ha25 kh25 .int (3 : Int32) [(.int z0119), (.int z1119), (.int z2119)] (.int (0 : Int32)) := fo119_5.other W125 ne40
        have f134 : Arv Z h125 pa25 kp25 .int (3 : Int32) [(.int z3119), (.int z4119), (.int z5119)] (.int (0 : Int32)) := fo119_6.other W125 ne41
        have pre125 : Go p.tables e below (s₁.setTop (entryFrame m #[(.int u0), (.int u1), (.int u2), (.int u3), (.int u4)] maxLocals)) T125 (mkF m 96 #[.val (.int u0), .val (.int u1), .val (.int u2), .val (.int u3), .val (.int u4), .val (.ref b2), .val (.ref b15), .val (.ref b37), .val (.int (0 : Int32)), .val (.int (0 : Int32)), .val (.int (1 : Int32)), .val (.int (2 : Int32)), .unset, .unset] []) := fun t k => pre124 t (st125 _ k)
        have pre135 : Go p.tables e below (s₁.setTop (entryFrame m #[(.int u0), (.int u1), (.int u2), (.int u3), (.int u4)] maxLocals)) T125 (mkF m 99 #[.val (.int u0), .val (.int u1), .val (.int u2), .val (.int u3), .val (.int u4), .val (.ref b2), .val (.ref b15), .val (.ref b37), .val (.int (0 : Int32)), .val (.int (0 : Int32)), .val (.int (1 : Int32)), .val (.int (2 : Int32)), .unset, .unset] [(.int (u1 &&& (2 : Int32)))]) := fun t k => pre125 t (by
            refine XS.iloadN X125.here hx rfl (hb hby at_96) rfl ?_
            refine XS.iconst X125.here hx rfl (hb hby at_97) ?_
            refine XS.iand X125.here hx rfl (hb hby at_98) rfl ?_
            exact k)
        by_cases hc136 : (u1 &&& (2 : Int32)) = (0 : Int32)
        · -- hc136: True
          have pre137 : Go p.tables e below (s₁.setTop (entryFrame m #[(.int u0), (.int u1), (.int u2), (.int u3), (.int u4)] maxLocals)) T125 (mkF m 118 #[.val (.int u0), .val (.int u1), .val (.int u2), .val (.int u3), .val (.int u4), .val (.ref b2), .val (.ref b15), .val (.ref b37), .val (.int (0 : Int32)), .val (.int (0 : Int32)), .val (.int (1 : Int32)), .val (.int (2 : Int32)), .unset, .unset] [(.int (u1 &&& (4 : Int32)))]) := fun t k => pre135 t (by
              refine XS.ifYes X125.here hx rfl (pc0 := 99) (pc' := 115) rfl (hb hby at_99) rfl ((if0 _ _).trans (teq hc136).1) (by decide) (by decide) ?_
              refine XS.iloadN X125.here hx rfl (hb hby at_115) rfl ?_
              refine XS.iconst X125.here hx rfl (hb hby at_116) ?_
              refine XS.iand X125.here hx rfl (hb hby at_117) rfl ?_
              exact k)
          by_cases hc138 : (u1 &&& (4 : Int32)) = (0 : Int32)
          · -- hc138: True
            have pre139 : Go p.tables e below (s₁.setTop (entryFrame m #[(.int u0), (.int u1), (.int u2), (.int u3), (.int u4)] maxLocals)) T125 (mkF m 134 #[.val (.int u0), .val (.int u1), .val (.int u2), .val (.int u3), .val (.int u4), .val (.ref b2), .val (.ref b15), .val (.ref b37), .val (.int (0 : Int32)), .val (.int (0 : Int32)), .val (.int (1 : Int32)), .val (.int (2 : Int32)), .unset, .unset] []) := fun t k => pre137 t (by
                refine XS.ifYes X125.here hx rfl (pc0 := 118) (pc' := 134) rfl (hb hby at_118) rfl ((if0 _ _).trans (teq hc138).1) (by decide) (by decide) ?_
                exact k)
            exact ⟨T125, _, h125, (0 : Int32), (0 : Int32), (1 : Int32), (2 : Int32), true, false, false, z0119, z1119, z2119, z3119, z4119, z5119, X125, e125, N125, f126, f128, f129, f130, f131, f132, f127, f133, f134, fa125, po119_0, pre139⟩
          · -- hc138: False
            have pre140 : Go p.tables e below (s₁.setTop (entryFrame m #[(.int u0), (.int u1), (.int u2), (.int u3), (.int u4)] maxLocals)) T125 (mkF m 125 #[.val (.int u0), .val (.int u1), .val (.int u2), .val (.int u3), .val (.int u4), .val (.ref b2), .val (.ref b15), .val (.ref b37), .val (.int (0 : Int32)), .val (.int (0 : Int32)), .val (.int (1 : Int32)), .val (.int (2 : Int32)), .unset, .unset] [(.int (2 : Int32)), (.ref b15)]) := fun t k => pre137 t (by
                refine XS.ifNo X125.here hx rfl (hb hby at_118) rfl ((if0 _ _).trans (feq hc138).1) ?_
                refine XS.aload X125.here hx rfl (hb hby at_121) rfl rfl ?_
                refine XS.iload X125.here hx rfl (hb hby at_123) rfl ?_
                exact k)
            obtain ⟨cq141, kq141, q141a, q141b, q141c⟩ := isOf hZ e125 f128
            obtain ⟨_, _, ⟨T141, L141, k141, n141⟩, -, X141, ⟨Lc141, hQ141, l141, y141, z141⟩, st141⟩ := X125.virtualBack hx (y := (⟨"com/example/octopoll/octopoll/PageHeap", "add", "(I)V"⟩ : MethodName)) (z := (⟨"com/example/octopoll/octopoll/PageHeap", "add", "(I)V"⟩ : MethodName)) hown (mvT hZ (hw _ (List.mem_of_getElem? (i := 23) rfl))) (mvT hZ (hw _ (List.mem_of_getElem? (i := 24) rfl))) (notFace_of_selects (args := #[]) (mvT hZ (hw _ (List.mem_of_getElem? (i := 26) rfl)))) (mvT hZ (hw _ (List.mem_of_getElem? (i := 26) rfl))) (mvT hZ (hw _ (List.mem_of_getElem? (i := 25) rfl))) (by decide) (backOf (W := 0) (rm_add2 l Z av0 hw [] b15 b2 ha25 pa25 k2 kh25 kp25 (FP.i2d (u0 &&& (3 : Int32))) (FP.i2d ((u0 >>> ((2 : Int32) &&& 31)) &&& (3 : Int32))) (FP.i2d ((u0 >>> ((4 : Int32) &&& 31)) &&& (3 : Int32))) z0119 z1119 z2119 z3119 z4119 z5119 true false h125 n0 f126 f128 f129 f130 f131 f132 f127 f133 f134 g17 gha25 gpa25 ne27 ne30 po25_0 ne16.symm ne26 ne29 po119_0) hZ (hw _ (List.mem_of_getElem? (i := 27) rfl)) (hw _ (List.mem_of_getElem? (i := 3) rfl)) (by decide) (by decide)) q141a q141c (g := (mkF m 125 #[.val (.int u0), .val (.int u1), .val (.int u2), .val (.int u3), .val (.int u4), .val (.ref b2), .val (.ref b15), .val (.ref b37), .val (.int (0 : Int32)), .val (.int (0 : Int32)), .val (.int (1 : Int32)), .val (.int (2 : Int32)), .unset, .unset] [(.int (2 : Int32)), (.ref b15)])) rfl (by rw [hml]; rfl) (Steps.refl _) (argsL := [(.int (2 : Int32))]) (rest := []) (lenOf pd_2 rfl) rfl (by show 2 * 0 + _ ≤ _; exact Nat.le_of_eq rfl) (hb hby at_125) (fun _ _ => ⟨rfl, e125, (by decide : 5 + 0 ≤ _), (by decide : 16 + 0 ≤ _)⟩)
            dsimp only [Pt.U, Pt.locs, Pt.cells, Pt.slots] at X141 l141 y141 z141 st141 hQ141
            subst l141 y141 z141
            obtain ⟨z0141, z1141, z2141, z3141, z4141, z5141, hv141, N141q, K141, fo141_0, fo141_1, fo141_2, fo141_3, fo141_4, fo141_5, fo141_6, po141_0⟩ := hQ141
            have f142 := Nat.le_trans f126 K141.1
            have f143 := f127.keep K141 (ninS ne16 (ninS ne26 (ninS ne29 nin0)))
            have f144 := f128.keep K141
            have f145 := fa125.keep K141 (ninS ne39.symm (ninS ne40.symm (ninS ne41.symm nin0)))
            subst hv141
            have N141 := Fr.app N125 N141q
            have pre141 : Go p.tables e below (s₁.setTop (entryFrame m #[(.int u0), (.int u1), (.int u2), (.int u3), (.int u4)] maxLocals)) T141 (mkF m 128 #[.val (.int u0), .val (.int u1), .val (.int u2), .val (.int u3), .val (.int u4), .val (.ref b2), .val (.ref b15), .val (.ref b37), .val (.int (0 : Int32)), .val (.int (0 : Int32)), .val (.int (1 : Int32)), .val (.int (2 : Int32)), .unset, .unset] []) := fun t k => pre140 t (st141.trans k)
            have pre146 : Go p.tables e below (s₁.setTop (entryFrame m #[(.int u0), (.int u1), (.int u2), (.int u3), (.int u4)] maxLocals)) T141 (mkF m 133 #[.val (.int u0), .val (.int u1), .val (.int u2), .val (.int u3), .val (.int u4), .val (.ref b2), .val (.ref b15), .val (.ref b37), .val (.int (0 : Int32)), .val (.int (0 : Int32)), .val (.int (1 : Int32)), .val (.int (2 : Int32)), .unset, .unset] [(.int (1 : Int32)), (.int (2 : Int32)), (.ref b37)]) := fun t k => pre141 t (by
                refine XS.aload X141.here hx rfl (hb hby at_128) rfl rfl ?_
                refine XS.iload X141.here hx rfl (hb hby at_130) rfl ?_
                refine XS.iconst X141.here hx rfl (hb hby at_132) ?_
                exact k)
            obtain ⟨c147, Ar147, q147, S147, M147, H147, G147⟩ := (id f145)
            have hin147 : ¬ ((2 : Int32) < 0 ∨ c147.slots.size ≤ ((2 : Int32)).toNatClampNeg) := inb_of S147 ⟨by decide, by decide⟩
            obtain ⟨T147, h147, X147, e147, W147, st147⟩ := stZ X141 hx hZ rfl Ar147 (j := (2 : Int32)) hin147 (g := (mkF m 133 #[.val (.int u0), .val (.int u1), .val (.int u2), .val (.int u3), .val (.int u4), .val (.ref b2), .val (.ref b15), .val (.ref b37), .val (.int (0 : Int32)), .val (.int (0 : Int32)), .val (.int (1 : Int32)), .val (.int (2 : Int32)), .unset, .unset] [(.int (1 : Int32)), (.int (2 : Int32)), (.ref b37)])) rfl rfl (hb hby at_133)
            have fa147 : Arv Z h147 b37 k37 .boolean (3 : Int32) [(.int (1 : Int32)), (.int (0 : Int32)), (.int (1 : Int32))] (.int (0 : Int32)) := Arv.set Ar147 q147 S147 M147 H147 G147 (fits_nar_bool _) W147 2 rfl (Nat.le_of_ble_eq_true rfl)
            have N147 := Fr.snoc X147 N141 g42
            have f148 : n0 ≤ h147.size := Nat.le_trans f142 (Keep.of_wr W147).1
            have f149 : Arv Z h147 b2 k2 .double (3 : Int32) [(.double (FP.i2d (u0 &&& (3 : Int32)))), (.double (FP.i2d ((u0 >>> ((2 : Int32) &&& 31)) &&& (3 : Int32)))), (.double (FP.i2d ((u0 >>> ((4 : Int32) &&& 31)) &&& (3 : Int32))))] (.double 0) := f143.other W147 ne38
            have f150 : Exa Z h147 b15 "com/example/octopoll/octopoll/PageHeap" := fo141_0.wr W147
            have f151 : Fld Z h147 b15 "com/example/octopoll/octopoll/PageHeap" "key" "[D" (.ref b2) := fo141_1.other W147 (Or.inl ne39)
            have f152 : Fld Z h147 b15 "com/example/octopoll/octopoll/PageHeap" "heap" "[I" (.ref ha25) := fo141_2.other W147 (Or.inl ne39)
            have f153 : Fld Z h147 b15 "com/example/octopoll/octopoll/PageHeap" "position" "[I" (.ref pa25) := fo141_3.other W147 (Or.inl ne39)
            have f154 : Fld Z h147 b15 "com/example/octopoll/octopoll/PageHeap" "size" "I" (.int (2 : Int32)) := fo141_4.other W147 (Or.inl ne39)
            have f155 : Arv Z h147 ha25 kh25 .int (3 : Int32) [(.int z0141), (.int z1141), (.int z2141)] (.int (0 : Int32)) := fo141_5.other W147 ne40
            have f156 : Arv Z h147 pa25 kp25 .int (3 : Int32) [(.int z3141), (.int z4141), (.int z5141)] (.int (0 : Int32)) := fo141_6.other W147 ne41
            have pre147 : Go p.tables e below (s₁.setTop (entryFrame m #[(.int u0), (.int u1), (.int u2), (.int u3), (.int u4)] maxLocals)) T147 (mkF m 134 #[.val (.int u0), .val (.int u1), .val (.int u2), .val (.int u3), .val (.int u4), .val (.ref b2), .val (.ref b15), .val (.ref b37), .val (.int (0 : Int32)), .val (.int (0 : Int32)), .val (.int (1 : Int32)), .val (.int (2 : Int32)), .unset, .unset] []) := fun t k => pre146 t (st147 _ k)
            exact ⟨T147, _, h147, (0 : Int32), (0 : Int32), (1 : Int32), (2 : Int32), true, false, true, z0141, z1141, z2141, z3141, z4141, z5141, X147, e147, N147, f148, f150, f151, f152, f153, f154, f149, f155, f156, fa147, po141_0, pre147⟩
        · -- hc136: False
          have pre157 : Go p.tables e below (s₁.setTop (entryFrame m #[(.int u0), (.int u1), (.int u2), (.int u3), (.int u4)] maxLocals)) T125 (mkF m 106 #[.val (.int u0), .val (.int u1), .val (.int u2), .val (.int u3), .val (.int u4), .val (.ref b2), .val (.ref b15), .val (.ref b37), .val (.int (0 : Int32)), .val (.int (0 : Int32)), .val (.int (1 : Int32)), .val (.int (2 : Int32)), .unset, .unset] [(.int (1 : Int32)), (.ref b15)]) := fun t k => pre135 t (by
              refine XS.ifNo X125.here hx rfl (hb hby at_99) rfl ((if0 _ _).trans (feq hc136).1) ?_
              refine XS.aload X125.here hx rfl (hb hby at_102) rfl rfl ?_
              refine XS.iload X125.here hx rfl (hb hby at_104) rfl ?_
              exact k)
          obtain ⟨cq158, kq158, q158a, q158b, q158c⟩ := isOf hZ e125 f128
          obtain ⟨_, _, ⟨T158, L158, k158, n158⟩, -, X158, ⟨Lc158, hQ158, l158, y158, z158⟩, st158⟩ := X125.virtualBack hx (y := (⟨"com/example/octopoll/octopoll/PageHeap", "add", "(I)V"⟩ : MethodName)) (z := (⟨"com/example/octopoll/octopoll/PageHeap", "add", "(I)V"⟩ : MethodName)) hown (mvT hZ (hw _ (List.mem_of_getElem? (i := 23) rfl))) (mvT hZ (hw _ (List.mem_of_getElem? (i := 24) rfl))) (notFace_of_selects (args := #[]) (mvT hZ (hw _ (List.mem_of_getElem? (i := 26) rfl)))) (mvT hZ (hw _ (List.mem_of_getElem? (i := 26) rfl))) (mvT hZ (hw _ (List.mem_of_getElem? (i := 25) rfl))) (by decide) (backOf (W := 0) (rm_add1 l Z av0 hw [] b15 b2 ha25 pa25 k2 kh25 kp25 (FP.i2d (u0 &&& (3 : Int32))) (FP.i2d ((u0 >>> ((2 : Int32) &&& 31)) &&& (3 : Int32))) (FP.i2d ((u0 >>> ((4 : Int32) &&& 31)) &&& (3 : Int32))) z0119 z1119 z2119 z3119 z4119 z5119 true false h125 n0 f126 f128 f129 f130 f131 f132 f127 f133 f134 g17 gha25 gpa25 ne27 ne30 po25_0 ne16.symm ne26 ne29 po119_0) hZ (hw _ (List.mem_of_getElem? (i := 27) rfl)) (hw _ (List.mem_of_getElem? (i := 3) rfl)) (by decide) (by decide)) q158a q158c (g := (mkF m 106 #[.val (.int u0), .val (.int u1), .val (.int u2), .val (.int u3), .val (.int u4), .val (.ref b2), .val (.ref b15), .val (.ref b37), .val (.int (0 : Int32)), .val (.int (0 : Int32)), .val (.int (1 : Int32)), .val (.int (2 : Int32)), .unset, .unset] [(.int (1 : Int32)), (.ref b15)])) rfl (by rw [hml]; rfl) (Steps.refl _) (argsL := [(.int (1 : Int32))]) (rest := []) (lenOf pd_2 rfl) rfl (by show 2 * 0 + _ ≤ _; exact Nat.le_of_eq rfl) (hb hby at_106) (fun _ _ => ⟨rfl, e125, (by decide : 5 + 0 ≤ _), (by decide : 16 + 0 ≤ _)⟩)
          dsimp only [Pt.U, Pt.locs, Pt.cells, Pt.slots] at X158 l158 y158 z158 st158 hQ158
          subst l158 y158 z158
          obtain ⟨z0158, z1158, z2158, z3158, z4158, z5158, hv158, N158q, K158, fo158_0, fo158_1, fo158_2, fo158_3, fo158_4, fo158_5, fo158_6, po158_0⟩ := hQ158
          have f159 := Nat.le_trans f126 K158.1
          have f160 := f127.keep K158 (ninS ne16 (ninS ne26 (ninS ne29 nin0)))
          have f161 := f128.keep K158
          have f162 := fa125.keep K158 (ninS ne39.symm (ninS ne40.symm (ninS ne41.symm nin0)))
          subst hv158
          have N158 := Fr.app N125 N158q
          have pre158 : Go p.tables e below (s₁.setTop (entryFrame m #[(.int u0), (.int u1), (.int u2), (.int u3), (.int u4)] maxLocals)) T158 (mkF m 109 #[.val (.int u0), .val (.int u1), .val (.int u2), .val (.int u3), .val (.int u4), .val (.ref b2), .val (.ref b15), .val (.ref b37), .val (.int (0 : Int32)), .val (.int (0 : Int32)), .val (.int (1 : Int32)), .val (.int (2 : Int32)), .unset, .unset] []) := fun t k => pre157 t (st158.trans k)
          have pre163 : Go p.tables e below (s₁.setTop (entryFrame m #[(.int u0), (.int u1), (.int u2), (.int u3), (.int u4)] maxLocals)) T158 (mkF m 114 #[.val (.int u0), .val (.int u1), .val (.int u2), .val (.int u3), .val (.int u4), .val (.ref b2), .val (.ref b15), .val (.ref b37), .val (.int (0 : Int32)), .val (.int (0 : Int32)), .val (.int (1 : Int32)), .val (.int (2 : Int32)), .unset, .unset] [(.int (1 : Int32)), (.int (1 : Int32)), (.ref b37)]) := fun t k => pre158 t (by
              refine XS.aload X158.here hx rfl (hb hby at_109) rfl rfl ?_
              refine XS.iload X158.here hx rfl (hb hby at_111) rfl ?_
              refine XS.iconst X158.here hx rfl (hb hby at_113) ?_
              exact k)
          obtain ⟨c164, Ar164, q164, S164, M164, H164, G164⟩ := (id f162)
          have hin164 : ¬ ((1 : Int32) < 0 ∨ c164.slots.size ≤ ((1 : Int32)).toNatClampNeg) := inb_of S164 ⟨by decide, by decide⟩
          obtain ⟨T164, h164, X164, e164, W164, st164⟩ := stZ X158 hx hZ rfl Ar164 (j := (1 : Int32)) hin164 (g := (mkF m 114 #[.val (.int u0), .val (.int u1), .val (.int u2), .val (.int u3), .val (.int u4), .val (.ref b2), .val (.ref b15), .val (.ref b37), .val (.int (0 : Int32)), .val (.int (0 : Int32)), .val (.int (1 : Int32)), .val (.int (2 : Int32)), .unset, .unset] [(.int (1 : Int32)), (.int (1 : Int32)), (.ref b37)])) rfl rfl (hb hby at_114)
          have fa164 : Arv Z h164 b37 k37 .boolean (3 : Int32) [(.int (1 : Int32)), (.int (1 : Int32)), (.int (0 : Int32))] (.int (0 : Int32)) := Arv.set Ar164 q164 S164 M164 H164 G164 (fits_nar_bool _) W164 1 rfl (Nat.le_of_ble_eq_true rfl)
          have N164 := Fr.snoc X164 N158 g42
          have f165 : n0 ≤ h164.size := Nat.le_trans f159 (Keep.of_wr W164).1
          have f166 : Arv Z h164 b2 k2 .double (3 : Int32) [(.double (FP.i2d (u0 &&& (3 : Int32)))), (.double (FP.i2d ((u0 >>> ((2 : Int32) &&& 31)) &&& (3 : Int32)))), (.double (FP.i2d ((u0 >>> ((4 : Int32) &&& 31)) &&& (3 : Int32))))] (.double 0) := f160.other W164 ne38
          have f167 : Exa Z h164 b15 "com/example/octopoll/octopoll/PageHeap" := fo158_0.wr W164
          have f168 : Fld Z h164 b15 "com/example/octopoll/octopoll/PageHeap" "key" "[D" (.ref b2) := fo158_1.other W164 (Or.inl ne39)
          have f169 : Fld Z h164 b15 "com/example/octopoll/octopoll/PageHeap" "heap" "[I" (.ref ha25) := fo158_2.other W164 (Or.inl ne39)
          have f170 : Fld Z h164 b15 "com/example/octopoll/octopoll/PageHeap" "position" "[I" (.ref pa25) := fo158_3.other W164 (Or.inl ne39)
          have f171 : Fld Z h164 b15 "com/example/octopoll/octopoll/PageHeap" "size" "I" (.int (2 : Int32)) := fo158_4.other W164 (Or.inl ne39)
          have f172 : Arv Z h164 ha25 kh25 .int (3 : Int32) [(.int z0158), (.int z1158), (.int z2158)] (.int (0 : Int32)) := fo158_5.other W164 ne40
          have f173 : Arv Z h164 pa25 kp25 .int (3 : Int32) [(.int z3158), (.int z4158), (.int z5158)] (.int (0 : Int32)) := fo158_6.other W164 ne41
          have pre164 : Go p.tables e below (s₁.setTop (entryFrame m #[(.int u0), (.int u1), (.int u2), (.int u3), (.int u4)] maxLocals)) T164 (mkF m 115 #[.val (.int u0), .val (.int u1), .val (.int u2), .val (.int u3), .val (.int u4), .val (.ref b2), .val (.ref b15), .val (.ref b37), .val (.int (0 : Int32)), .val (.int (0 : Int32)), .val (.int (1 : Int32)), .val (.int (2 : Int32)), .unset, .unset] []) := fun t k => pre163 t (st164 _ k)
          have pre174 : Go p.tables e below (s₁.setTop (entryFrame m #[(.int u0), (.int u1), (.int u2), (.int u3), (.int u4)] maxLocals)) T164 (mkF m 118 #[.val (.int u0), .val (.int u1), .val (.int u2), .val (.int u3), .val (.int u4), .val (.ref b2), .val (.ref b15), .val (.ref b37), .val (.int (0 : Int32)), .val (.int (0 : Int32)), .val (.int (1 : Int32)), .val (.int (2 : Int32)), .unset, .unset] [(.int (u1 &&& (4 : Int32)))]) := fun t k => pre164 t (by
              refine XS.iloadN X164.here hx rfl (hb hby at_115) rfl ?_
              refine XS.iconst X164.here hx rfl (hb hby at_116) ?_
              refine XS.iand X164.here hx rfl (hb hby at_117) rfl ?_
              exact k)
          by_cases hc175 : (u1 &&& (4 : Int32)) = (0 : Int32)
          · -- hc175: True
            have pre176 : Go p.tables e below (s₁.setTop (entryFrame m #[(.int u0), (.int u1), (.int u2), (.int u3), (.int u4)] maxLocals)) T164 (mkF m 134 #[.val (.int u0), .val (.int u1), .val (.int u2), .val (.int u3), .val (.int u4), .val (.ref b2), .val (.ref b15), .val (.ref b37), .val (.int (0 : Int32)), .val (.int (0 : Int32)), .val (.int (1 : Int32)), .val (.int (2 : Int32)), .unset, .unset] []) := fun t k => pre174 t (by
                refine XS.ifYes X164.here hx rfl (pc0 := 118) (pc' := 134) rfl (hb hby at_118) rfl ((if0 _ _).trans (teq hc175).1) (by decide) (by decide) ?_
                exact k)
            exact ⟨T164, _, h164, (0 : Int32), (0 : Int32), (1 : Int32), (2 : Int32), true, true, false, z0158, z1158, z2158, z3158, z4158, z5158, X164, e164, N164, f165, f167, f168, f169, f170, f171, f166, f172, f173, fa164, po158_0, pre176⟩
          · -- hc175: False
            have pre177 : Go p.tables e below (s₁.setTop (entryFrame m #[(.int u0), (.int u1), (.int u2), (.int u3), (.int u4)] maxLocals)) T164 (mkF m 125 #[.val (.int u0), .val (.int u1), .val (.int u2), .val (.int u3), .val (.int u4), .val (.ref b2), .val (.ref b15), .val (.ref b37), .val (.int (0 : Int32)), .val (.int (0 : Int32)), .val (.int (1 : Int32)), .val (.int (2 : Int32)), .unset, .unset] [(.int (2 : Int32)), (.ref b15)]) := fun t k => pre174 t (by
                refine XS.ifNo X164.here hx rfl (hb hby at_118) rfl ((if0 _ _).trans (feq hc175).1) ?_
                refine XS.aload X164.here hx rfl (hb hby at_121) rfl rfl ?_
                refine XS.iload X164.here hx rfl (hb hby at_123) rfl ?_
                exact k)
            obtain ⟨cq178, kq178, q178a, q178b, q178c⟩ := isOf hZ e164 f167
            obtain ⟨_, _, ⟨T178, L178, k178, n178⟩, -, X178, ⟨Lc178, hQ178, l178, y178, z178⟩, st178⟩ := X164.virtualBack hx (y := (⟨"com/example/octopoll/octopoll/PageHeap", "add", "(I)V"⟩ : MethodName)) (z := (⟨"com/example/octopoll/octopoll/PageHeap", "add", "(I)V"⟩ : MethodName)) hown (mvT hZ (hw _ (List.mem_of_getElem? (i := 23) rfl))) (mvT hZ (hw _ (List.mem_of_getElem? (i := 24) rfl))) (notFace_of_selects (args := #[]) (mvT hZ (hw _ (List.mem_of_getElem? (i := 26) rfl)))) (mvT hZ (hw _ (List.mem_of_getElem? (i := 26) rfl))) (mvT hZ (hw _ (List.mem_of_getElem? (i := 25) rfl))) (by decide) (backOf (W := 0) (rm_add2 l Z av0 hw [] b15 b2 ha25 pa25 k2 kh25 kp25 (FP.i2d (u0 &&& (3 : Int32))) (FP.i2d ((u0 >>> ((2 : Int32) &&& 31)) &&& (3 : Int32))) (FP.i2d ((u0 >>> ((4 : Int32) &&& 31)) &&& (3 : Int32))) z0158 z1158 z2158 z3158 z4158 z5158 true true h164 n0 f165 f167 f168 f169 f170 f171 f166 f172 f173 g17 gha25 gpa25 ne27 ne30 po25_0 ne16.symm ne26 ne29 po158_0) hZ (hw _ (List.mem_of_getElem? (i := 27) rfl)) (hw _ (List.mem_of_getElem? (i := 3) rfl)) (by decide) (by decide)) q178a q178c (g := (mkF m 125 #[.val (.int u0), .val (.int u1), .val (.int u2), .val (.int u3), .val (.int u4), .val (.ref b2), .val (.ref b15), .val (.ref b37), .val (.int (0 : Int32)), .val (.int (0 : Int32)), .val (.int (1 : Int32)), .val (.int (2 : Int32)), .unset, .unset] [(.int (2 : Int32)), (.ref b15)])) rfl (by rw [hml]; rfl) (Steps.refl _) (argsL := [(.int (2 : Int32))]) (rest := []) (lenOf pd_2 rfl) rfl (by show 2 * 0 + _ ≤ _; exact Nat.le_of_eq rfl) (hb hby at_125) (fun _ _ => ⟨rfl, e164, (by decide : 5 + 0 ≤ _), (by decide : 16 + 0 ≤ _)⟩)
            dsimp only [Pt.U, Pt.locs, Pt.cells, Pt.slots] at X178 l178 y178 z178 st178 hQ178
            subst l178 y178 z178
            obtain ⟨z0178, z1178, z2178, z3178, z4178, z5178, hv178, N178q, K178, fo178_0, fo178_1, fo178_2, fo178_3, fo178_4, fo178_5, fo178_6, po178_0⟩ := hQ178
            have f179 := Nat.le_trans f165 K178.1
            have f180 := f166.keep K178 (ninS ne16 (ninS ne26 (ninS ne29 nin0)))
            have f181 := f167.keep K178
            have f182 := fa164.keep K178 (ninS ne39.symm (ninS ne40.symm (ninS ne41.symm nin0)))
            subst hv178
            have N178 := Fr.app N164 N178q
            have pre178 : Go p.tables e below (s₁.setTop (entryFrame m #[(.int u0), (.int u1), (.int u2), (.int u3), (.int u4)] maxLocals)) T178 (mkF m 128 #[.val (.int u0), .val (.int u1), .val (.int u2), .val (.int u3), .val (.int u4), .val (.ref b2), .val (.ref b15), .val (.ref b37), .val (.int (0 : Int32)), .val (.int (0 : Int32)), .val (.int (1 : Int32)), .val (.int (2 : Int32)), .unset, .unset] []) := fun t k => pre177 t (st178.trans k)
            have pre183 : Go p.tables e below (s₁.setTop (entryFrame m #[(.int u0), (.int u1), (.int u2), (.int u3), (.int u4)] maxLocals)) T178 (mkF m 133 #[.val (.int u0), .val (.int u1), .val (.int u2), .val (.int u3), .val (.int u4), .val (.ref b2), .val (.ref b15), .val (.ref b37), .val (.int (0 : Int32)), .val (.int (0 : Int32)), .val (.int (1 : Int32)), .val (.int (2 : Int32)), .unset, .unset] [(.int (1 : Int32)), (.int (2 : Int32)), (.ref b37)]) := fun t k => pre178 t (by
                refine XS.aload X178.here hx rfl (hb hby at_128) rfl rfl ?_
                refine XS.iload X178.here hx rfl (hb hby at_130) rfl ?_
                refine XS.iconst X178.here hx rfl (hb hby at_132) ?_
                exact k)
            obtain ⟨c184, Ar184, q184, S184, M184, H184, G184⟩ := (id f182)
            have hin184 : ¬ ((2 : Int32) < 0 ∨ c184.slots.size ≤ ((2 : Int32)).toNatClampNeg) := inb_of S184 ⟨by decide, by decide⟩
            obtain ⟨T184, h184, X184, e184, W184, st184⟩ := stZ X178 hx hZ rfl Ar184 (j := (2 : Int32)) hin184 (g := (mkF m 133 #[.val (.int u0), .val (.int u1), .val (.int u2), .val (.int u3), .val (.int u4), .val (.ref b2), .val (.ref b15), .val (.ref b37), .val (.int (0 : Int32)), .val (.int (0 : Int32)), .val (.int (1 : Int32)), .val (.int (2 : Int32)), .unset, .unset] [(.int (1 : Int32)), (.int (2 : Int32)), (.ref b37)])) rfl rfl (hb hby at_133)
            have fa184 : Arv Z h184 b37 k37 .boolean (3 : Int32) [(.int (1 : Int32)), (.int (1 : Int32)), (.int (1 : Int32))] (.int (0 : Int32)) := Arv.set Ar184 q184 S184 M184 H184 G184 (fits_nar_bool _) W184 2 rfl (Nat.le_of_ble_eq_true rfl)
            have N184 := Fr.snoc X184 N178 g42
            have f185 : n0 ≤ h184.size := Nat.le_trans f179 (Keep.of_wr W184).1
            have f186 : Arv Z h184 b2 k2 .double (3 : Int32) [(.double (FP.i2d (u0 &&& (3 : Int32)))), (.double (FP.i2d ((u0 >>> ((2 : Int32) &&& 31)) &&& (3 : Int32)))), (.double (FP.i2d ((u0 >>> ((4 : Int32) &&& 31)) &&& (3 : Int32))))] (.double 0) := f180.other W184 ne38
            have f187 : Exa Z h184 b15 "com/example/octopoll/octopoll/PageHeap" := fo178_0.wr W184
            have f188 : Fld Z h184 b15 "com/example/octopoll/octopoll/PageHeap" "key" "[D" (.ref b2) := fo178_1.other W184 (Or.inl ne39)
            have f189 : Fld Z h184 b15 "com/example/octopoll/octopoll/PageHeap" "heap" "[I" (.ref ha25) := fo178_2.other W184 (Or.inl ne39)
            have f190 : Fld Z h184 b15 "com/example/octopoll/octopoll/PageHeap" "position" "[I" (.ref pa25) := fo178_3.other W184 (Or.inl ne39)
            have f191 : Fld Z h184 b15 "com/example/octopoll/octopoll/PageHeap" "size" "I" (.int (3 : Int32)) := fo178_4.other W184 (Or.inl ne39)
            have f192 : Arv Z h184 ha25 kh25 .int (3 : Int32) [(.int z0178), (.int z1178), (.int z2178)] (.int (0 : Int32)) := fo178_5.other W184 ne40
            have f193 : Arv Z h184 pa25 kp25 .int (3 : Int32) [(.int z3178), (.int z4178), (.int z5178)] (.int (0 : Int32)) := fo178_6.other W184 ne41
            have pre184 : Go p.tables e below (s₁.setTop (entryFrame m #[(.int u0), (.int u1), (.int u2), (.int u3), (.int u4)] maxLocals)) T184 (mkF m 134 #[.val (.int u0), .val (.int u1), .val (.int u2), .val (.int u3), .val (.int u4), .val (.ref b2), .val (.ref b15), .val (.ref b37), .val (.int (0 : Int32)), .val (.int (0 : Int32)), .val (.int (1 : Int32)), .val (.int (2 : Int32)), .unset, .unset] []) := fun t k => pre183 t (st184 _ k)
            exact ⟨T184, _, h184, (0 : Int32), (0 : Int32), (1 : Int32), (2 : Int32), true, true, true, z0178, z1178, z2178, z3178, z4178, z5178, X184, e184, N184, f185, f187, f188, f189, f190, f191, f186, f192, f193, fa184, po178_0, pre184⟩
    · -- w53 = (1 : Int32)
      have pre194 : Go p.tables e below (s₁.setTop (entryFrame m #[(.int u0), (.int u1), (.int u2), (.int u3), (.int u4)] maxLocals)) T37 (mkF m 80 #[.val (.int u0), .val (.int u1), .val (.int u2), .val (.int u3), .val (.int u4), .val (.ref b2), .val (.ref b15), .val (.ref b37), .val (.int (1 : Int32)), .val (.int (1 : Int32)), .val (.int (2 : Int32)), .val (.int (0 : Int32)), .unset, .unset] [(.int (u1 &&& (1 : Int32)))]) := fun t k => pre56 t (by
          refine XS.istore X37.here hx rfl (hb hby at_59) rfl (l' := #[.val (.int u0), .val (.int u1), .val (.int u2), .val (.int u3), .val (.int u4), .val (.ref b2), .val (.ref b15), .val (.ref b37), .val (.int (1 : Int32)), .val (.int (1 : Int32)), .unset, .unset, .unset, .unset]) rfl ?_
          show Steps p.tables e below (T37.setTop (mkF m 61 #[.val (.int u0), .val (.int u1), .val (.int u2), .val (.int u3), .val (.int u4), .val (.ref b2), .val (.ref b15), .val (.ref b37), .val (.int (1 : Int32)), .val (.int (1 : Int32)), .unset, .unset, .unset, .unset] [])) _
          refine XS.iload X37.here hx rfl (hb hby at_61) rfl ?_
          refine XS.iconst X37.here hx rfl (hb hby at_63) ?_
          refine XS.iadd X37.here hx rfl (hb hby at_64) rfl ?_
          show Steps p.tables e below (T37.setTop (mkF m 65 #[.val (.int u0), .val (.int u1), .val (.int u2), .val (.int u3), .val (.int u4), .val (.ref b2), .val (.ref b15), .val (.ref b37), .val (.int (1 : Int32)), .val (.int (1 : Int32)), .unset, .unset, .unset, .unset] [(.int (2 : Int32))])) _
          refine XS.iconst X37.here hx rfl (hb hby at_65) ?_
          refine iremM X37 hx (g := (mkF m 66 #[.val (.int u0), .val (.int u1), .val (.int u2), .val (.int u3), .val (.int u4), .val (.ref b2), .val (.ref b15), .val (.ref b37), .val (.int (1 : Int32)), .val (.int (1 : Int32)), .unset, .unset, .unset, .unset] [(.int (3 : Int32)), (.int (2 : Int32))])) rfl (hb hby at_66) rfl (by decide) ?_
          show Steps p.tables e below (T37.setTop (mkF m 67 #[.val (.int u0), .val (.int u1), .val (.int u2), .val (.int u3), .val (.int u4), .val (.ref b2), .val (.ref b15), .val (.ref b37), .val (.int (1 : Int32)), .val (.int (1 : Int32)), .unset, .unset, .unset, .unset] [(.int (2 : Int32))])) _
          refine XS.istore X37.here hx rfl (hb hby at_67) rfl (l' := #[.val (.int u0), .val (.int u1), .val (.int u2), .val (.int u3), .val (.int u4), .val (.ref b2), .val (.ref b15), .val (.ref b37), .val (.int (1 : Int32)), .val (.int (1 : Int32)), .val (.int (2 : Int32)), .unset, .unset, .unset]) rfl ?_
          show Steps p.tables e below (T37.setTop (mkF m 69 #[.val (.int u0), .val (.int u1), .val (.int u2), .val (.int u3), .val (.int u4), .val (.ref b2), .val (.ref b15), .val (.ref b37), .val (.int (1 : Int32)), .val (.int (1 : Int32)), .val (.int (2 : Int32)), .unset, .unset, .unset] [])) _
          refine XS.iload X37.here hx rfl (hb hby at_69) rfl ?_
          refine XS.iconst X37.here hx rfl (hb hby at_71) ?_
          refine XS.iadd X37.here hx rfl (hb hby at_72) rfl ?_
          show Steps p.tables e below (T37.setTop (mkF m 73 #[.val (.int u0), .val (.int u1), .val (.int u2), .val (.int u3), .val (.int u4), .val (.ref b2), .val (.ref b15), .val (.ref b37), .val (.int (1 : Int32)), .val (.int (1 : Int32)), .val (.int (2 : Int32)), .unset, .unset, .unset] [(.int (3 : Int32))])) _
          refine XS.iconst X37.here hx rfl (hb hby at_73) ?_
          refine iremM X37 hx (g := (mkF m 74 #[.val (.int u0), .val (.int u1), .val (.int u2), .val (.int u3), .val (.int u4), .val (.ref b2), .val (.ref b15), .val (.ref b37), .val (.int (1 : Int32)), .val (.int (1 : Int32)), .val (.int (2 : Int32)), .unset, .unset, .unset] [(.int (3 : Int32)), (.int (3 : Int32))])) rfl (hb hby at_74) rfl (by decide) ?_
          show Steps p.tables e below (T37.setTop (mkF m 75 #[.val (.int u0), .val (.int u1), .val (.int u2), .val (.int u3), .val (.int u4), .val (.ref b2), .val (.ref b15), .val (.ref b37), .val (.int (1 : Int32)), .val (.int (1 : Int32)), .val (.int (2 : Int32)), .unset, .unset, .unset] [(.int (0 : Int32))])) _
          refine XS.istore X37.here hx rfl (hb hby at_75) rfl (l' := #[.val (.int u0), .val (.int u1), .val (.int u2), .val (.int u3), .val (.int u4), .val (.ref b2), .val (.ref b15), .val (.ref b37), .val (.int (1 : Int32)), .val (.int (1 : Int32)), .val (.int (2 : Int32)), .val (.int (0 : Int32)), .unset, .unset]) rfl ?_
          show Steps p.tables e below (T37.setTop (mkF m 77 #[.val (.int u0), .val (.int u1), .val (.int u2), .val (.int u3), .val (.int u4), .val (.ref b2), .val (.ref b15), .val (.ref b37), .val (.int (1 : Int32)), .val (.int (1 : Int32)), .val (.int (2 : Int32)), .val (.int (0 : Int32)), .unset, .unset] [])) _
          refine XS.iloadN X37.here hx rfl (hb hby at_77) rfl ?_
          refine XS.iconst X37.here hx rfl (hb hby at_78) ?_
          refine XS.iand X37.here hx rfl (hb hby at_79) rfl ?_
          exact k)
      by_cases hc195 : (u1 &&& (1 : Int32)) = (0 : Int32)
      · -- hc195: True
        have pre196 : Go p.tables e below (s₁.setTop (entryFrame m #[(.int u0), (.int u1), (.int u2), (.int u3), (.int u4)] maxLocals)) T37 (mkF m 99 #[.val (.int u0), .val (.int u1), .val (.int u2), .val (.int u3), .val (.int u4), .val (.ref b2), .val (.ref b15), .val (.ref b37), .val (.int (1 : Int32)), .val (.int (1 : Int32)), .val (.int (2 : Int32)), .val (.int (0 : Int32)), .unset, .unset] [(.int (u1 &&& (2 : Int32)))]) := fun t k => pre194 t (by
            refine XS.ifYes X37.here hx rfl (pc0 := 80) (pc' := 96) rfl (hb hby at_80) rfl ((if0 _ _).trans (teq hc195).1) (by decide) (by decide) ?_
            refine XS.iloadN X37.here hx rfl (hb hby at_96) rfl ?_
            refine XS.iconst X37.here hx rfl (hb hby at_97) ?_
            refine XS.iand X37.here hx rfl (hb hby at_98) rfl ?_
            exact k)
        by_cases hc197 : (u1 &&& (2 : Int32)) = (0 : Int32)
        · -- hc197: True
          have pre198 : Go p.tables e below (s₁.setTop (entryFrame m #[(.int u0), (.int u1), (.int u2), (.int u3), (.int u4)] maxLocals)) T37 (mkF m 118 #[.val (.int u0), .val (.int u1), .val (.int u2), .val (.int u3), .val (.int u4), .val (.ref b2), .val (.ref b15), .val (.ref b37), .val (.int (1 : Int32)), .val (.int (1 : Int32)), .val (.int (2 : Int32)), .val (.int (0 : Int32)), .unset, .unset] [(.int (u1 &&& (4 : Int32)))]) := fun t k => pre196 t (by
              refine XS.ifYes X37.here hx rfl (pc0 := 99) (pc' := 115) rfl (hb hby at_99) rfl ((if0 _ _).trans (teq hc197).1) (by decide) (by decide) ?_
              refine XS.iloadN X37.here hx rfl (hb hby at_115) rfl ?_
              refine XS.iconst X37.here hx rfl (hb hby at_116) ?_
              refine XS.iand X37.here hx rfl (hb hby at_117) rfl ?_
              exact k)
          by_cases hc199 : (u1 &&& (4 : Int32)) = (0 : Int32)
          · -- hc199: True
            have pre200 : Go p.tables e below (s₁.setTop (entryFrame m #[(.int u0), (.int u1), (.int u2), (.int u3), (.int u4)] maxLocals)) T37 (mkF m 134 #[.val (.int u0), .val (.int u1), .val (.int u2), .val (.int u3), .val (.int u4), .val (.ref b2), .val (.ref b15), .val (.ref b37), .val (.int (1 : Int32)), .val (.int (1 : Int32)), .val (.int (2 : Int32)), .val (.int (0 : Int32)), .unset, .unset] []) := fun t k => pre198 t (by
                refine XS.ifYes X37.here hx rfl (pc0 := 118) (pc' := 134) rfl (hb hby at_118) rfl ((if0 _ _).trans (teq hc199).1) (by decide) (by decide) ?_
                exact k)
            exact ⟨T37, _, h37, (1 : Int32), (1 : Int32), (2 : Int32), (0 : Int32), false, false, false, (0 : Int32), (0 : Int32), (0 : Int32), (-1 : Int32), (-1 : Int32), (-1 : Int32), X37, e37, N25, f43, f45, f46, f47, f48, f49, f44, f50, f51, f52, hS0, pre200⟩
          · -- hc199: False
            have pre201 : Go p.tables e below (s₁.setTop (entryFrame m #[(.int u0), (.int u1), (.int u2), (.int u3), (.int u4)] maxLocals)) T37 (mkF m 125 #[.val (.int u0), .val (.int u1), .val (.int u2), .val (.int u3), .val (.int u4), .val (.ref b2), .val (.ref b15), .val (.ref b37), .val (.int (1 : Int32)), .val (.int (1 : Int32)), .val (.int (2 : Int32)), .val (.int (0 : Int32)), .unset, .unset] [(.int (0 : Int32)), (.ref b15)]) := fun t k => pre198 t (by
                refine XS.ifNo X37.here hx rfl (hb hby at_118) rfl ((if0 _ _).trans (feq hc199).1) ?_
                refine XS.aload X37.here hx rfl (hb hby at_121) rfl rfl ?_
                refine XS.iload X37.here hx rfl (hb hby at_123) rfl ?_
                exact k)
            obtain ⟨cq202, kq202, q202a, q202b, q202c⟩ := isOf hZ e37 f45
            obtain ⟨_, _, ⟨T202, L202, k202, n202⟩, -, X202, ⟨Lc202, hQ202, l202, y202, z202⟩, st202⟩ := X37.virtualBack hx (y := (⟨"com/example/octopoll/octopoll/PageHeap", "add", "(I)V"⟩ : MethodName)) (z := (⟨"com/example/octopoll/octopoll/PageHeap", "add", "(I)V"⟩ : MethodName)) hown (mvT hZ (hw _ (List.mem_of_getElem? (i := 23) rfl))) (mvT hZ (hw _ (List.mem_of_getElem? (i := 24) rfl))) (notFace_of_selects (args := #[]) (mvT hZ (hw _ (List.mem_of_getElem? (i := 26) rfl)))) (mvT hZ (hw _ (List.mem_of_getElem? (i := 26) rfl))) (mvT hZ (hw _ (List.mem_of_getElem? (i := 25) rfl))) (by decide) (backOf (W := 0) (rm_add0 l Z av0 hw [] b15 b2 ha25 pa25 k2 kh25 kp25 (FP.i2d (u0 &&& (3 : Int32))) (FP.i2d ((u0 >>> ((2 : Int32) &&& 31)) &&& (3 : Int32))) (FP.i2d ((u0 >>> ((4 : Int32) &&& 31)) &&& (3 : Int32))) (0 : Int32) (0 : Int32) (0 : Int32) (-1 : Int32) (-1 : Int32) (-1 : Int32) false false h37 n0 f43 f45 f46 f47 f48 f49 f44 f50 f51 g17 gha25 gpa25 ne27 ne30 po25_0 ne16.symm ne26 ne29 hS0) hZ (hw _ (List.mem_of_getElem? (i := 27) rfl)) (hw _ (List.mem_of_getElem? (i := 3) rfl)) (by decide) (by decide)) q202a q202c (g := (mkF m 125 #[.val (.int u0), .val (.int u1), .val (.int u2), .val (.int u3), .val (.int u4), .val (.ref b2), .val (.ref b15), .val (.ref b37), .val (.int (1 : Int32)), .val (.int (1 : Int32)), .val (.int (2 : Int32)), .val (.int (0 : Int32)), .unset, .unset] [(.int (0 : Int32)), (.ref b15)])) rfl (by rw [hml]; rfl) (Steps.refl _) (argsL := [(.int (0 : Int32))]) (rest := []) (lenOf pd_2 rfl) rfl (by show 2 * 0 + _ ≤ _; exact Nat.le_of_eq rfl) (hb hby at_125) (fun _ _ => ⟨rfl, e37, (by decide : 5 + 0 ≤ _), (by decide : 16 + 0 ≤ _)⟩)
            dsimp only [Pt.U, Pt.locs, Pt.cells, Pt.slots] at X202 l202 y202 z202 st202 hQ202
            subst l202 y202 z202
            obtain ⟨z0202, z1202, z2202, z3202, z4202, z5202, hv202, N202q, K202, fo202_0, fo202_1, fo202_2, fo202_3, fo202_4, fo202_5, fo202_6, po202_0⟩ := hQ202
            have f203 := Nat.le_trans f43 K202.1
            have f204 := f44.keep K202 (ninS ne16 (ninS ne26 (ninS ne29 nin0)))
            have f205 := f45.keep K202
            have f206 := f52.keep K202 (ninS ne39.symm (ninS ne40.symm (ninS ne41.symm nin0)))
            subst hv202
            have N202 := Fr.app N25 N202q
            have pre202 : Go p.tables e below (s₁.setTop (entryFrame m #[(.int u0), (.int u1), (.int u2), (.int u3), (.int u4)] maxLocals)) T202 (mkF m 128 #[.val (.int u0), .val (.int u1), .val (.int u2), .val (.int u3), .val (.int u4), .val (.ref b2), .val (.ref b15), .val (.ref b37), .val (.int (1 : Int32)), .val (.int (1 : Int32)), .val (.int (2 : Int32)), .val (.int (0 : Int32)), .unset, .unset] []) := fun t k => pre201 t (st202.trans k)
            have pre207 : Go p.tables e below (s₁.setTop (entryFrame m #[(.int u0), (.int u1), (.int u2), (.int u3), (.int u4)] maxLocals)) T202 (mkF m 133 #[.val (.int u0), .val (.int u1), .val (.int u2), .val (.int u3), .val (.int u4), .val (.ref b2), .val (.ref b15), .val (.ref b37), .val (.int (1 : Int32)), .val (.int (1 : Int32)), .val (.int (2 : Int32)), .val (.int (0 : Int32)), .unset, .unset] [(.int (1 : Int32)), (.int (0 : Int32)), (.ref b37)]) := fun t k => pre202 t (by
                refine XS.aload X202.here hx rfl (hb hby at_128) rfl rfl ?_
                refine XS.iload X202.here hx rfl (hb hby at_130) rfl ?_
                refine XS.iconst X202.here hx rfl (hb hby at_132) ?_
                exact k)
            obtain ⟨c208, Ar208, q208, S208, M208, H208, G208⟩ := (id f206)
            have hin208 : ¬ ((0 : Int32) < 0 ∨ c208.slots.size ≤ ((0 : Int32)).toNatClampNeg) := inb_of S208 ⟨by decide, by decide⟩
            obtain ⟨T208, h208, X208, e208, W208, st208⟩ := stZ X202 hx hZ rfl Ar208 (j := (0 : Int32)) hin208 (g := (mkF m 133 #[.val (.int u0), .val (.int u1), .val (.int u2), .val (.int u3), .val (.int u4), .val (.ref b2), .val (.ref b15), .val (.ref b37), .val (.int (1 : Int32)), .val (.int (1 : Int32)), .val (.int (2 : Int32)), .val (.int (0 : Int32)), .unset, .unset] [(.int (1 : Int32)), (.int (0 : Int32)), (.ref b37)])) rfl rfl (hb hby at_133)
            have fa208 : Arv Z h208 b37 k37 .boolean (3 : Int32) [(.int (1 : Int32)), (.int (0 : Int32)), (.int (0 : Int32))] (.int (0 : Int32)) := Arv.set Ar208 q208 S208 M208 H208 G208 (fits_nar_bool _) W208 0 rfl (Nat.le_of_ble_eq_true rfl)
            have N208 := Fr.snoc X208 N202 g42
            have f209 : n0 ≤ h208.size := Nat.le_trans f203 (Keep.of_wr W208).1
            have f210 : Arv Z h208 b2 k2 .double (3 : Int32) [(.double (FP.i2d (u0 &&& (3 : Int32)))), (.double (FP.i2d ((u0 >>> ((2 : Int32) &&& 31)) &&& (3 : Int32)))), (.double (FP.i2d ((u0 >>> ((4 : Int32) &&& 31)) &&& (3 : Int32))))] (.double 0) := f204.other W208 ne38
            have f211 : Exa Z h208 b15 "com/example/octopoll/octopoll/PageHeap" := fo202_0.wr W208
            have f212 : Fld Z h208 b15 "com/example/octopoll/octopoll/PageHeap" "key" "[D" (.ref b2) := fo202_1.other W208 (Or.inl ne39)
            have f213 : Fld Z h208 b15 "com/example/octopoll/octopoll/PageHeap" "heap" "[I" (.ref ha25) := fo202_2.other W208 (Or.inl ne39)
            have f214 : Fld Z h208 b15 "com/example/octopoll/octopoll/PageHeap" "position" "[I" (.ref pa25) := fo202_3.other W208 (Or.inl ne39)
            have f215 : Fld Z h208 b15 "com/example/octopoll/octopoll/PageHeap" "size" "I" (.int (1 : Int32)) := fo202_4.other W208 (Or.inl ne39)
            have f216 : Arv Z h208 ha25 kh25 .int (3 : Int32) [(.int z0202), (.int z1202), (.int z2202)] (.int (0 : Int32)) := fo202_5.other W208 ne40
            have f217 : Arv Z h208 pa25 kp25 .int (3 : Int32) [(.int z3202), (.int z4202), (.int z5202)] (.int (0 : Int32)) := fo202_6.other W208 ne41
            have pre208 : Go p.tables e below (s₁.setTop (entryFrame m #[(.int u0), (.int u1), (.int u2), (.int u3), (.int u4)] maxLocals)) T208 (mkF m 134 #[.val (.int u0), .val (.int u1), .val (.int u2), .val (.int u3), .val (.int u4), .val (.ref b2), .val (.ref b15), .val (.ref b37), .val (.int (1 : Int32)), .val (.int (1 : Int32)), .val (.int (2 : Int32)), .val (.int (0 : Int32)), .unset, .unset] []) := fun t k => pre207 t (st208 _ k)
            exact ⟨T208, _, h208, (1 : Int32), (1 : Int32), (2 : Int32), (0 : Int32), true, false, false, z0202, z1202, z2202, z3202, z4202, z5202, X208, e208, N208, f209, f211, f212, f213, f214, f215, f210, f216, f217, fa208, po202_0, pre208⟩
        · -- hc197: False
          have pre218 : Go p.tables e below (s₁.setTop (entryFrame m #[(.int u0), (.int u1), (.int u2), (.int u3), (.int u4)] maxLocals)) T37 (mkF m 106 #[.val (.int u0), .val (.int u1), .val (.int u2), .val (.int u3), .val (.int u4), .val (.ref b2), .val (.ref b15), .val (.ref b37), .val (.int (1 : Int32)), .val (.int (1 : Int32)), .val (.int (2 : Int32)), .val (.int (0 : Int32)), .unset, .unset] [(.int (2 : Int32)), (.ref b15)]) := fun t k => pre196 t (by
              refine XS.ifNo X37.here hx rfl (hb hby at_99) rfl ((if0 _ _).trans (feq hc197).1) ?_
              refine XS.aload X37.here hx rfl (hb hby at_102) rfl rfl ?_
              refine XS.iload X37.here hx rfl (hb hby at_104) rfl ?_
              exact k)
          obtain ⟨cq219, kq219, q219a, q219b, q219c⟩ := isOf hZ e37 f45
          obtain ⟨_, _, ⟨T219, L219, k219, n219⟩, -, X219, ⟨Lc219, hQ219, l219, y219, z219⟩, st219⟩ := X37.virtualBack hx (y := (⟨"com/example/octopoll/octopoll/PageHeap", "add", "(I)V"⟩ : MethodName)) (z := (⟨"com/example/octopoll/octopoll/PageHeap", "add", "(I)V"⟩ : MethodName)) hown (mvT hZ (hw _ (List.mem_of_getElem? (i := 23) rfl))) (mvT hZ (hw _ (List.mem_of_getElem? (i := 24) rfl))) (notFace_of_selects (args := #[]) (mvT hZ (hw _ (List.mem_of_getElem? (i := 26) rfl)))) (mvT hZ (hw _ (List.mem_of_getElem? (i := 26) rfl))) (mvT hZ (hw _ (List.mem_of_getElem? (i := 25) rfl))) (by decide) (backOf (W := 0) (rm_add2 l Z av0 hw [] b15 b2 ha25 pa25 k2 kh25 kp25 (FP.i2d (u0 &&& (3 : Int32))) (FP.i2d ((u0 >>> ((2 : Int32) &&& 31)) &&& (3 : Int32))) (FP.i2d ((u0 >>> ((4 : Int32) &&& 31)) &&& (3 : Int32))) (0 : Int32) (0 : Int32) (0 : Int32) (-1 : Int32) (-1 : Int32) (-1 : Int32) false false h37 n0 f43 f45 f46 f47 f48 f49 f44 f50 f51 g17 gha25 gpa25 ne27 ne30 po25_0 ne16.symm ne26 ne29 hS0) hZ (hw _ (List.mem_of_getElem? (i := 27) rfl)) (hw _ (List.mem_of_getElem? (i := 3) rfl)) (by decide) (by decide)) q219a q219c (g := (mkF m 106 #[.val (.int u0), .val (.int u1), .val (.int u2), .val (.int u3), .val (.int u4), .val (.ref b2), .val (.ref b15), .val (.ref b37), .val (.int (1 : Int32)), .val (.int (1 : Int32)), .val (.int (2 : Int32)), .val (.int (0 : Int32)), .unset, .unset] [(.int (2 : Int32)), (.ref b15)])) rfl (by rw [hml]; rfl) (Steps.refl _) (argsL := [(.int (2 : Int32))]) (rest := []) (lenOf pd_2 rfl) rfl (by show 2 * 0 + _ ≤ _; exact Nat.le_of_eq rfl) (hb hby at_106) (fun _ _ => ⟨rfl, e37, (by decide : 5 + 0 ≤ _), (by decide : 16 + 0 ≤ _)⟩)
          dsimp only [Pt.U, Pt.locs, Pt.cells, Pt.slots] at X219 l219 y219 z219 st219 hQ219
          subst l219 y219 z219
          obtain ⟨z0219, z1219, z2219, z3219, z4219, z5219, hv219, N219q, K219, fo219_0, fo219_1, fo219_2, fo219_3, fo219_4, fo219_5, fo219_6, po219_0⟩ := hQ219
          have f220 := Nat.le_trans f43 K219.1
          have f221 := f44.keep K219 (ninS ne16 (ninS ne26 (ninS ne29 nin0)))
          have f222 := f45.keep K219
          have f223 := f52.keep K219 (ninS ne39.symm (ninS ne40.symm (ninS ne41.symm nin0)))
          subst hv219
          have N219 := Fr.app N25 N219q
          have pre219 : Go p.tables e below (s₁.setTop (entryFrame m #[(.int u0), (.int u1), (.int u2), (.int u3), (.int u4)] maxLocals)) T219 (mkF m 109 #[.val (.int u0), .val (.int u1), .val (.int u2), .val (.int u3), .val (.int u4), .val (.ref b2), .val (.ref b15), .val (.ref b37), .val (.int (1 : Int32)), .val (.int (1 : Int32)), .val (.int (2 : Int32)), .val (.int (0 : Int32)), .unset, .unset] []) := fun t k => pre218 t (st219.trans k)
          have pre224 : Go p.tables e below (s₁.setTop (entryFrame m #[(.int u0), (.int u1), (.int u2), (.int u3), (.int u4)] maxLocals)) T219 (mkF m 114 #[.val (.int u0), .val (.int u1), .val (.int u2), .val (.int u3), .val (.int u4), .val (.ref b2), .val (.ref b15), .val (.ref b37), .val (.int (1 : Int32)), .val (.int (1 : Int32)), .val (.int (2 : Int32)), .val (.int (0 : Int32)), .unset, .unset] [(.int (1 : Int32)), (.int (2 : Int32)), (.ref b37)]) := fun t k => pre219 t (by
              refine XS.aload X219.here hx rfl (hb hby at_109) rfl rfl ?_
              refine XS.iload X219.here hx rfl (hb hby at_111) rfl ?_
              refine XS.iconst X219.here hx rfl (hb hby at_113) ?_
              exact k)
          obtain ⟨c225, Ar225, q225, S225, M225, H225, G225⟩ := (id f223)
          have hin225 : ¬ ((2 : Int32) < 0 ∨ c225.slots.size ≤ ((2 : Int32)).toNatClampNeg) := inb_of S225 ⟨by decide, by decide⟩
          obtain ⟨T225, h225, X225, e225, W225, st225⟩ := stZ X219 hx hZ rfl Ar225 (j := (2 : Int32)) hin225 (g := (mkF m 114 #[.val (.int u0), .val (.int u1), .val (.int u2), .val (.int u3), .val (.int u4), .val (.ref b2), .val (.ref b15), .val (.ref b37), .val (.int (1 : Int32)), .val (.int (1 : Int32)), .val (.int (2 : Int32)), .val (.int (0 : Int32)), .unset, .unset] [(.int (1 : Int32)), (.int (2 : Int32)), (.ref b37)])) rfl rfl (hb hby at_114)
          have fa225 : Arv Z h225 b37 k37 .boolean (3 : Int32) [(.int (0 : Int32)), (.int (0 : Int32)), (.int (1 : Int32))] (.int (0 : Int32)) := Arv.set Ar225 q225 S225 M225 H225 G225 (fits_nar_bool _) W225 2 rfl (Nat.le_of_ble_eq_true rfl)
          have N225 := Fr.snoc X225 N219 g42
          have f226 : n0 ≤ h225.size := Nat.le_trans f220 (Keep.of_wr W225).1
          have f227 : Arv Z h225 b2 k2 .double (3 : Int32) [(.double (FP.i2d (u0 &&& (3 : Int32)))), (.double (FP.i2d ((u0 >>> ((2 : Int32) &&& 31)) &&& (3 : Int32)))), (.double (FP.i2d ((u0 >>> ((4 : Int32) &&& 31)) &&& (3 : Int32))))] (.double 0) := f221.other W225 ne38
          have f228 : Exa Z h225 b15 "com/example/octopoll/octopoll/PageHeap" := fo219_0.wr W225
          have f229 : Fld Z h225 b15 "com/example/octopoll/octopoll/PageHeap" "key" "[D" (.ref b2) := fo219_1.other W225 (Or.inl ne39)
          have f230 : Fld Z h225 b15 "com/example/octopoll/octopoll/PageHeap" "heap" "[I" (.ref ha25) := fo219_2.other W225 (Or.inl ne39)
          have f231 : Fld Z h225 b15 "com/example/octopoll/octopoll/PageHeap" "position" "[I" (.ref pa25) := fo219_3.other W225 (Or.inl ne39)
          have f232 : Fld Z h225 b15 "com/example/octopoll/octopoll/PageHeap" "size" "I" (.int (1 : Int32)) := fo219_4.other W225 (Or.inl ne39)
          have f233 : Arv Z h225 ha25 kh25 .int (3 : Int32) [(.int z0219), (.int z1219), (.int z2219)] (.int (0 : Int32)) := fo219_5.other W225 ne40
          have f234 : Arv Z h225 pa25 kp25 .int (3 : Int32) [(.int z3219), (.int z4219), (.int z5219)] (.int (0 : Int32)) := fo219_6.other W225 ne41
          have pre225 : Go p.tables e below (s₁.setTop (entryFrame m #[(.int u0), (.int u1), (.int u2), (.int u3), (.int u4)] maxLocals)) T225 (mkF m 115 #[.val (.int u0), .val (.int u1), .val (.int u2), .val (.int u3), .val (.int u4), .val (.ref b2), .val (.ref b15), .val (.ref b37), .val (.int (1 : Int32)), .val (.int (1 : Int32)), .val (.int (2 : Int32)), .val (.int (0 : Int32)), .unset, .unset] []) := fun t k => pre224 t (st225 _ k)
          have pre235 : Go p.tables e below (s₁.setTop (entryFrame m #[(.int u0), (.int u1), (.int u2), (.int u3), (.int u4)] maxLocals)) T225 (mkF m 118 #[.val (.int u0), .val (.int u1), .val (.int u2), .val (.int u3), .val (.int u4), .val (.ref b2), .val (.ref b15), .val (.ref b37), .val (.int (1 : Int32)), .val (.int (1 : Int32)), .val (.int (2 : Int32)), .val (.int (0 : Int32)), .unset, .unset] [(.int (u1 &&& (4 : Int32)))]) := fun t k => pre225 t (by
              refine XS.iloadN X225.here hx rfl (hb hby at_115) rfl ?_
              refine XS.iconst X225.here hx rfl (hb hby at_116) ?_
              refine XS.iand X225.here hx rfl (hb hby at_117) rfl ?_
              exact k)
          by_cases hc236 : (u1 &&& (4 : Int32)) = (0 : Int32)
          · -- hc236: True
            have pre237 : Go p.tables e below (s₁.setTop (entryFrame m #[(.int u0), (.int u1), (.int u2), (.int u3), (.int u4)] maxLocals)) T225 (mkF m 134 #[.val (.int u0), .val (.int u1), .val (.int u2), .val (.int u3), .val (.int u4), .val (.ref b2), .val (.ref b15), .val (.ref b37), .val (.int (1 : Int32)), .val (.int (1 : Int32)), .val (.int (2 : Int32)), .val (.int (0 : Int32)), .unset, .unset] []) := fun t k => pre235 t (by
                refine XS.ifYes X225.here hx rfl (pc0 := 118) (pc' := 134) rfl (hb hby at_118) rfl ((if0 _ _).trans (teq hc236).1) (by decide) (by decide) ?_
                exact k)
            exact ⟨T225, _, h225, (1 : Int32), (1 : Int32), (2 : Int32), (0 : Int32), false, false, true, z0219, z1219, z2219, z3219, z4219, z5219, X225, e225, N225, f226, f228, f229, f230, f231, f232, f227, f233, f234, fa225, po219_0, pre237⟩
          · -- hc236: False
            have pre238 : Go p.tables e below (s₁.setTop (entryFrame m #[(.int u0), (.int u1), (.int u2), (.int u3), (.int u4)] maxLocals)) T225 (mkF m 125 #[.val (.int u0), .val (.int u1), .val (.int u2), .val (.int u3), .val (.int u4), .val (.ref b2), .val (.ref b15), .val (.ref b37), .val (.int (1 : Int32)), .val (.int (1 : Int32)), .val (.int (2 : Int32)), .val (.int (0 : Int32)), .unset, .unset] [(.int (0 : Int32)), (.ref b15)]) := fun t k => pre235 t (by
                refine XS.ifNo X225.here hx rfl (hb hby at_118) rfl ((if0 _ _).trans (feq hc236).1) ?_
                refine XS.aload X225.here hx rfl (hb hby at_121) rfl rfl ?_
                refine XS.iload X225.here hx rfl (hb hby at_123) rfl ?_
                exact k)
            obtain ⟨cq239, kq239, q239a, q239b, q239c⟩ := isOf hZ e225 f228
            obtain ⟨_, _, ⟨T239, L239, k239, n239⟩, -, X239, ⟨Lc239, hQ239, l239, y239, z239⟩, st239⟩ := X225.virtualBack hx (y := (⟨"com/example/octopoll/octopoll/PageHeap", "add", "(I)V"⟩ : MethodName)) (z := (⟨"com/example/octopoll/octopoll/PageHeap", "add", "(I)V"⟩ : MethodName)) hown (mvT hZ (hw _ (List.mem_of_getElem? (i := 23) rfl))) (mvT hZ (hw _ (List.mem_of_getElem? (i := 24) rfl))) (notFace_of_selects (args := #[]) (mvT hZ (hw _ (List.mem_of_getElem? (i := 26) rfl)))) (mvT hZ (hw _ (List.mem_of_getElem? (i := 26) rfl))) (mvT hZ (hw _ (List.mem_of_getElem? (i := 25) rfl))) (by decide) (backOf (W := 0) (rm_add0 l Z av0 hw [] b15 b2 ha25 pa25 k2 kh25 kp25 (FP.i2d (u0 &&& (3 : Int32))) (FP.i2d ((u0 >>> ((2 : Int32) &&& 31)) &&& (3 : Int32))) (FP.i2d ((u0 >>> ((4 : Int32) &&& 31)) &&& (3 : Int32))) z0219 z1219 z2219 z3219 z4219 z5219 false true h225 n0 f226 f228 f229 f230 f231 f232 f227 f233 f234 g17 gha25 gpa25 ne27 ne30 po25_0 ne16.symm ne26 ne29 po219_0) hZ (hw _ (List.mem_of_getElem? (i := 27) rfl)) (hw _ (List.mem_of_getElem? (i := 3) rfl)) (by decide) (by decide)) q239a q239c (g := (mkF m 125 #[.val (.int u0), .val (.int u1), .val (.int u2), .val (.int u3), .val (.int u4), .val (.ref b2), .val (.ref b15), .val (.ref b37), .val (.int (1 : Int32)), .val (.int (1 : Int32)), .val (.int (2 : Int32)), .val (.int (0 : Int32)), .unset, .unset] [(.int (0 : Int32)), (.ref b15)])) rfl (by rw [hml]; rfl) (Steps.refl _) (argsL := [(.int (0 : Int32))]) (rest := []) (lenOf pd_2 rfl) rfl (by show 2 * 0 + _ ≤ _; exact Nat.le_of_eq rfl) (hb hby at_125) (fun _ _ => ⟨rfl, e225, (by decide : 5 + 0 ≤ _), (by decide : 16 + 0 ≤ _)⟩)
            dsimp only [Pt.U, Pt.locs, Pt.cells, Pt.slots] at X239 l239 y239 z239 st239 hQ239
            subst l239 y239 z239
            obtain ⟨z0239, z1239, z2239, z3239, z4239, z5239, hv239, N239q, K239, fo239_0, fo239_1, fo239_2, fo239_3, fo239_4, fo239_5, fo239_6, po239_0⟩ := hQ239
            have f240 := Nat.le_trans f226 K239.1
            have f241 := f227.keep K239 (ninS ne16 (ninS ne26 (ninS ne29 nin0)))
            have f242 := f228.keep K239
            have f243 := fa225.keep K239 (ninS ne39.symm (ninS ne40.symm (ninS ne41.symm nin0)))
            subst hv239
            have N239 := Fr.app N225 N239q
            have pre239 : Go p.tables e below (s₁.setTop (entryFrame m #[(.int u0), (.int u1), (.int u2), (.int u3), (.int u4)] maxLocals)) T239 (mkF m 128 #[.val (.int u0), .val (.int u1), .val (.int u2), .val (.int u3), .val (.int u4), .val (.ref b2), .val (.ref b15), .val (.ref b37), .val (.int (1 : Int32)), .val (.int (1 : Int32)), .val (.int (2 : Int32)), .val (.int (0 : Int32)), .unset, .unset] []) := fun t k => pre238 t (st239.trans k)
            have pre244 : Go p.tables e below (s₁.setTop (entryFrame m #[(.int u0), (.int u1), (.int u2), (.int u3), (.int u4)] maxLocals)) T239 (mkF m 133 #[.val (.int u0), .val (.int u1), .val (.int u2), .val (.int u3), .val (.int u4), .val (.ref b2), .val (.ref b15), .val (.ref b37), .val (.int (1 : Int32)), .val (.int (1 : Int32)), .val (.int (2 : Int32)), .val (.int (0 : Int32)), .unset, .unset] [(.int (1 : Int32)), (.int (0 : Int32)), (.ref b37)]) := fun t k => pre239 t (by
                refine XS.aload X239.here hx rfl (hb hby at_128) rfl rfl ?_
                refine XS.iload X239.here hx rfl (hb hby at_130) rfl ?_
                refine XS.iconst X239.here hx rfl (hb hby at_132) ?_
                exact k)
            obtain ⟨c245, Ar245, q245, S245, M245, H245, G245⟩ := (id f243)
            have hin245 : ¬ ((0 : Int32) < 0 ∨ c245.slots.size ≤ ((0 : Int32)).toNatClampNeg) := inb_of S245 ⟨by decide, by decide⟩
            obtain ⟨T245, h245, X245, e245, W245, st245⟩ := stZ X239 hx hZ rfl Ar245 (j := (0 : Int32)) hin245 (g := (mkF m 133 #[.val (.int u0), .val (.int u1), .val (.int u2), .val (.int u3), .val (.int u4), .val (.ref b2), .val (.ref b15), .val (.ref b37), .val (.int (1 : Int32)), .val (.int (1 : Int32)), .val (.int (2 : Int32)), .val (.int (0 : Int32)), .unset, .unset] [(.int (1 : Int32)), (.int (0 : Int32)), (.ref b37)])) rfl rfl (hb hby at_133)
            have fa245 : Arv Z h245 b37 k37 .boolean (3 : Int32) [(.int (1 : Int32)), (.int (0 : Int32)), (.int (1 : Int32))] (.int (0 : Int32)) := Arv.set Ar245 q245 S245 M245 H245 G245 (fits_nar_bool _) W245 0 rfl (Nat.le_of_ble_eq_true rfl)
            have N245 := Fr.snoc X245 N239 g42
            have f246 : n0 ≤ h245.size := Nat.le_trans f240 (Keep.of_wr W245).1
            have f247 : Arv Z h245 b2 k2 .double (3 : Int32) [(.double (FP.i2d (u0 &&& (3 : Int32)))), (.double (FP.i2d ((u0 >>> ((2 : Int32) &&& 31)) &&& (3 : Int32)))), (.double (FP.i2d ((u0 >>> ((4 : Int32) &&& 31)) &&& (3 : Int32))))] (.double 0) := f241.other W245 ne38
            have f248 : Exa Z h245 b15 "com/example/octopoll/octopoll/PageHeap" := fo239_0.wr W245
            have f249 : Fld Z h245 b15 "com/example/octopoll/octopoll/PageHeap" "key" "[D" (.ref b2) := fo239_1.other W245 (Or.inl ne39)
            have f250 : Fld Z h245 b15 "com/example/octopoll/octopoll/PageHeap" "heap" "[I" (.ref ha25) := fo239_2.other W245 (Or.inl ne39)
            have f251 : Fld Z h245 b15 "com/example/octopoll/octopoll/PageHeap" "position" "[I" (.ref pa25) := fo239_3.other W245 (Or.inl ne39)
            have f252 : Fld Z h245 b15 "com/example/octopoll/octopoll/PageHeap" "size" "I" (.int (2 : Int32)) := fo239_4.other W245 (Or.inl ne39)
            have f253 : Arv Z h245 ha25 kh25 .int (3 : Int32) [(.int z0239), (.int z1239), (.int z2239)] (.int (0 : Int32)) := fo239_5.other W245 ne40
            have f254 : Arv Z h245 pa25 kp25 .int (3 : Int32) [(.int z3239), (.int z4239), (.int z5239)] (.int (0 : Int32)) := fo239_6.other W245 ne41
            have pre245 : Go p.tables e below (s₁.setTop (entryFrame m #[(.int u0), (.int u1), (.int u2), (.int u3), (.int u4)] maxLocals)) T245 (mkF m 134 #[.val (.int u0), .val (.int u1), .val (.int u2), .val (.int u3), .val (.int u4), .val (.ref b2), .val (.ref b15), .val (.ref b37), .val (.int (1 : Int32)), .val (.int (1 : Int32)), .val (.int (2 : Int32)), .val (.int (0 : Int32)), .unset, .unset] []) := fun t k => pre244 t (st245 _ k)
            exact ⟨T245, _, h245, (1 : Int32), (1 : Int32), (2 : Int32), (0 : Int32), true, false, true, z0239, z1239, z2239, z3239, z4239, z5239, X245, e245, N245, f246, f248, f249, f250, f251, f252, f247, f253, f254, fa245, po239_0, pre245⟩
      · -- hc195: False
        have pre255 : Go p.tables e below (s₁.setTop (entryFrame m #[(.int u0), (.int u1), (.int u2), (.int u3), (.int u4)] maxLocals)) T37 (mkF m 87 #[.val (.int u0), .val (.int u1), .val (.int u2), .val (.int u3), .val (.int u4), .val (.ref b2), .val (.ref b15), .val (.ref b37), .val (.int (1 : Int32)), .val (.int (1 : Int32)), .val (.int (2 : Int32)), .val (.int (0 : Int32)), .unset, .unset] [(.int (1 : Int32)), (.ref b15)]) := fun t k => pre194 t (by
            refine XS.ifNo X37.here hx rfl (hb hby at_80) rfl ((if0 _ _).trans (feq hc195).1) ?_
            refine XS.aload X37.here hx rfl (hb hby at_83) rfl rfl ?_
            refine XS.iload X37.here hx rfl (hb hby at_85) rfl ?_
            exact k)
        obtain ⟨cq256, kq256, q256a, q256b, q256c⟩ := isOf hZ e37 f45
        obtain ⟨_, _, ⟨T256, L256, k256, n256⟩, -, X256, ⟨Lc256, hQ256, l256, y256, z256⟩, st256⟩ := X37.virtualBack hx (y := (⟨"com/example/octopoll/octopoll/PageHeap", "add", "(I)V"⟩ : MethodName)) (z := (⟨"com/example/octopoll/octopoll/PageHeap", "add", "(I)V"⟩ : MethodName)) hown (mvT hZ (hw _ (List.mem_of_getElem? (i := 23) rfl))) (mvT hZ (hw _ (List.mem_of_getElem? (i := 24) rfl))) (notFace_of_selects (args := #[]) (mvT hZ (hw _ (List.mem_of_getElem? (i := 26) rfl)))) (mvT hZ (hw _ (List.mem_of_getElem? (i := 26) rfl))) (mvT hZ (hw _ (List.mem_of_getElem? (i := 25) rfl))) (by decide) (backOf (W := 0) (rm_add1 l Z av0 hw [] b15 b2 ha25 pa25 k2 kh25 kp25 (FP.i2d (u0 &&& (3 : Int32))) (FP.i2d ((u0 >>> ((2 : Int32) &&& 31)) &&& (3 : Int32))) (FP.i2d ((u0 >>> ((4 : Int32) &&& 31)) &&& (3 : Int32))) (0 : Int32) (0 : Int32) (0 : Int32) (-1 : Int32) (-1 : Int32) (-1 : Int32) false false h37 n0 f43 f45 f46 f47 f48 f49 f44 f50 f51 g17 gha25 gpa25 ne27 ne30 po25_0 ne16.symm ne26 ne29 hS0) hZ (hw _ (List.mem_of_getElem? (i := 27) rfl)) (hw _ (List.mem_of_getElem? (i := 3) rfl)) (by decide) (by decide)) q256a q256c (g := (mkF m 87 #[.val (.int u0), .val (.int u1), .val (.int u2), .val (.int u3), .val (.int u4), .val (.ref b2), .val (.ref b15), .val (.ref b37), .val (.int (1 : Int32)), .val (.int (1 : Int32)), .val (.int (2 : Int32)), .val (.int (0 : Int32)), .unset, .unset] [(.int (1 : Int32)), (.ref b15)])) rfl (by rw [hml]; rfl) (Steps.refl _) (argsL := [(.int (1 : Int32))]) (rest := []) (lenOf pd_2 rfl) rfl (by show 2 * 0 + _ ≤ _; exact Nat.le_of_eq rfl) (hb hby at_87) (fun _ _ => ⟨rfl, e37, (by decide : 5 + 0 ≤ _), (by decide : 16 + 0 ≤ _)⟩)
        dsimp only [Pt.U, Pt.locs, Pt.cells, Pt.slots] at X256 l256 y256 z256 st256 hQ256
        subst l256 y256 z256
        obtain ⟨z0256, z1256, z2256, z3256, z4256, z5256, hv256, N256q, K256, fo256_0, fo256_1, fo256_2, fo256_3, fo256_4, fo256_5, fo256_6, po256_0⟩ := hQ256
        have f257 := Nat.le_trans f43 K256.1
        have f258 := f44.keep K256 (ninS ne16 (ninS ne26 (ninS ne29 nin0)))
        have f259 := f45.keep K256
        have f260 := f52.keep K256 (ninS ne39.symm (ninS ne40.symm (ninS ne41.symm nin0)))
        subst hv256
        have N256 := Fr.app N25 N256q
        have pre256 : Go p.tables e below (s₁.setTop (entryFrame m #[(.int u0), (.int u1), (.int u2), (.int u3), (.int u4)] maxLocals)) T256 (mkF m 90 #[.val (.int u0), .val (.int u1), .val (.int u2), .val (.int u3), .val (.int u4), .val (.ref b2), .val (.ref b15), .val (.ref b37), .val (.int (1 : Int32)), .val (.int (1 : Int32)), .val (.int (2 : Int32)), .val (.int (0 : Int32)), .unset, .unset] []) := fun t k => pre255 t (st256.trans k)
        have pre261 : Go p.tables e below (s₁.setTop (entryFrame m #[(.int u0), (.int u1), (.int u2), (.int u3), (.int u4)] maxLocals)) T256 (mkF m 95 #[.val (.int u0), .val (.int u1), .val (.int u2), .val (.int u3), .val (.int u4), .val (.ref b2), .val (.ref b15), .val (.ref b37), .val (.int (1 : Int32)), .val (.int (1 : Int32)), .val (.int (2 : Int32)), .val (.int (0 : Int32)), .unset, .unset] [(.int (1 : Int32)), (.int (1 : Int32)), (.ref b37)]) := fun t k => pre256 t (by
            refine XS.aload X256.here hx rfl (hb hby at_90) rfl rfl ?_
            refine XS.iload X256.here hx rfl (hb hby at_92) rfl ?_
            refine XS.iconst X256.here hx rfl (hb hby at_94) ?_
            exact k)
        obtain ⟨c262, Ar262, q262, S262, M262, H262, G262⟩ := (id f260)
        have hin262 : ¬ ((1 : Int32) < 0 ∨ c262.slots.size ≤ ((1 : Int32)).toNatClampNeg) := inb_of S262 ⟨by decide, by decide⟩
        obtain ⟨T262, h262, X262, e262, W262, st262⟩ := stZ X256 hx hZ rfl Ar262 (j := (1 : Int32)) hin262 (g := (mkF m 95 #[.val (.int u0), .val (.int u1), .val (.int u2), .val (.int u3), .val (.int u4), .val (.ref b2), .val (.ref b15), .val (.ref b37), .val (.int (1 : Int32)), .val (.int (1 : Int32)), .val (.int (2 : Int32)), .val (.int (0 : Int32)), .unset, .unset] [(.int (1 : Int32)), (.int (1 : Int32)), (.ref b37)])) rfl rfl (hb hby at_95)
        have fa262 : Arv Z h262 b37 k37 .boolean (3 : Int32) [(.int (0 : Int32)), (.int (1 : Int32)), (.int (0 : Int32))] (.int (0 : Int32)) := Arv.set Ar262 q262 S262 M262 H262 G262 (fits_nar_bool _) W262 1 rfl (Nat.le_of_ble_eq_true rfl)
        have N262 := Fr.snoc X262 N256 g42
        have f263 : n0 ≤ h262.size := Nat.le_trans f257 (Keep.of_wr W262).1
        have f264 : Arv Z h262 b2 k2 .double (3 : Int32) [(.double (FP.i2d (u0 &&& (3 : Int32)))), (.double (FP.i2d ((u0 >>> ((2 : Int32) &&& 31)) &&& (3 : Int32)))), (.double (FP.i2d ((u0 >>> ((4 : Int32) &&& 31)) &&& (3 : Int32))))] (.double 0) := f258.other W262 ne38
        have f265 : Exa Z h262 b15 "com/example/octopoll/octopoll/PageHeap" := fo256_0.wr W262
        have f266 : Fld Z h262 b15 "com/example/octopoll/octopoll/PageHeap" "key" "[D" (.ref b2) := fo256_1.other W262 (Or.inl ne39)
        have f267 : Fld Z h262 b15 "com/example/octopoll/octopoll/PageHeap" "heap" "[I" (.ref ha25) := fo256_2.other W262 (Or.inl ne39)
        have f268 : Fld Z h262 b15 "com/example/octopoll/octopoll/PageHeap" "position" "[I" (.ref pa25) := fo256_3.other W262 (Or.inl ne39)
        have f269 : Fld Z h262 b15 "com/example/octopoll/octopoll/PageHeap" "size" "I" (.int (1 : Int32)) := fo256_4.other W262 (Or.inl ne39)
        have f270 : Arv Z h262 ha25 kh25 .int (3 : Int32) [(.int z0256), (.int z1256), (.int z2256)] (.int (0 : Int32)) := fo256_5.other W262 ne40
        have f271 : Arv Z h262 pa25 kp25 .int (3 : Int32) [(.int z3256), (.int z4256), (.int z5256)] (.int (0 : Int32)) := fo256_6.other W262 ne41
        have pre262 : Go p.tables e below (s₁.setTop (entryFrame m #[(.int u0), (.int u1), (.int u2), (.int u3), (.int u4)] maxLocals)) T262 (mkF m 96 #[.val (.int u0), .val (.int u1), .val (.int u2), .val (.int u3), .val (.int u4), .val (.ref b2), .val (.ref b15), .val (.ref b37), .val (.int (1 : Int32)), .val (.int (1 : Int32)), .val (.int (2 : Int32)), .val (.int (0 : Int32)), .unset, .unset] []) := fun t k => pre261 t (st262 _ k)
        have pre272 : Go p.tables e below (s₁.setTop (entryFrame m #[(.int u0), (.int u1), (.int u2), (.int u3), (.int u4)] maxLocals)) T262 (mkF m 99 #[.val (.int u0), .val (.int u1), .val (.int u2), .val (.int u3), .val (.int u4), .val (.ref b2), .val (.ref b15), .val (.ref b37), .val (.int (1 : Int32)), .val (.int (1 : Int32)), .val (.int (2 : Int32)), .val (.int (0 : Int32)), .unset, .unset] [(.int (u1 &&& (2 : Int32)))]) := fun t k => pre262 t (by
            refine XS.iloadN X262.here hx rfl (hb hby at_96) rfl ?_
            refine XS.iconst X262.here hx rfl (hb hby at_97) ?_
            refine XS.iand X262.here hx rfl (hb hby at_98) rfl ?_
            exact k)
        by_cases hc273 : (u1 &&& (2 : Int32)) = (0 : Int32)
        · -- hc273: True
          have pre274 : Go p.tables e below (s₁.setTop (entryFrame m #[(.int u0), (.int u1), (.int u2), (.int u3), (.int u4)] maxLocals)) T262 (mkF m 118 #[.val (.int u0), .val (.int u1), .val (.int u2), .val (.int u3), .val (.int u4), .val (.ref b2), .val (.ref b15), .val (.ref b37), .val (.int (1 : Int32)), .val (.int (1 : Int32)), .val (.int (2 : Int32)), .val (.int (0 : Int32)), .unset, .unset] [(.int (u1 &&& (4 : Int32)))]) := fun t k => pre272 t (by
              refine XS.ifYes X262.here hx rfl (pc0 := 99) (pc' := 115) rfl (hb hby at_99) rfl ((if0 _ _).trans (teq hc273).1) (by decide) (by decide) ?_
              refine XS.iloadN X262.here hx rfl (hb hby at_115) rfl ?_
              refine XS.iconst X262.here hx rfl (hb hby at_116) ?_
              refine XS.iand X262.here hx rfl (hb hby at_117) rfl ?_
              exact k)
          by_cases hc275 : (u1 &&& (4 : Int32)) = (0 : Int32)
          · -- hc275: True
            have pre276 : Go p.tables e below (s₁.setTop (entryFrame m #[(.int u0), (.int u1), (.int u2), (.int u3), (.int u4)] maxLocals)) T262 (mkF m 134 #[.val (.int u0), .val (.int u1), .val (.int u2), .val (.int u3), .val (.int u4), .val (.ref b2), .val (.ref b15), .val (.ref b37), .val (.int (1 : Int32)), .val (.int (1 : Int32)), .val (.int (2 : Int32)), .val (.int (0 : Int32)), .unset, .unset] []) := fun t k => pre274 t (by
                refine XS.ifYes X262.here hx rfl (pc0 := 118) (pc' := 134) rfl (hb hby at_118) rfl ((if0 _ _).trans (teq hc275).1) (by decide) (by decide) ?_
                exact k)
            exact ⟨T262, _, h262, (1 : Int32), (1 : Int32), (2 : Int32), (0 : Int32), false, true, false, z0256, z1256, z2256, z3256, z4256, z5256, X262, e262, N262, f263, f265, f266, f267, f268, f269, f264, f270, f271, fa262, po256_0, pre276⟩
          · -- hc275: False
            have pre277 : Go p.tables e below (s₁.setTop (entryFrame m #[(.int u0), (.int u1), (.int u2), (.int u3), (.int u4)] maxLocals)) T262 (mkF m 125 #[.val (.int u0), .val (.int u1), .val (.int u2), .val (.int u3), .val (.int u4), .val (.ref b2), .val (.ref b15), .val (.ref b37), .val (.int (1 : Int32)), .val (.int (1 : Int32)), .val (.int (2 : Int32)), .val (.int (0 : Int32)), .unset, .unset] [(.int (0 : Int32)), (.ref b15)]) := fun t k => pre274 t (by
                refine XS.ifNo X262.here hx rfl (hb hby at_118) rfl ((if0 _ _).trans (feq hc275).1) ?_
                refine XS.aload X262.here hx rfl (hb hby at_121) rfl rfl ?_
                refine XS.iload X262.here hx rfl (hb hby at_123) rfl ?_
                exact k)
            obtain ⟨cq278, kq278, q278a, q278b, q278c⟩ := isOf hZ e262 f265
            obtain ⟨_, _, ⟨T278, L278, k278, n278⟩, -, X278, ⟨Lc278, hQ278, l278, y278, z278⟩, st278⟩ := X262.virtualBack hx (y := (⟨"com/example/octopoll/octopoll/PageHeap", "add", "(I)V"⟩ : MethodName)) (z := (⟨"com/example/octopoll/octopoll/PageHeap", "add", "(I)V"⟩ : MethodName)) hown (mvT hZ (hw _ (List.mem_of_getElem? (i := 23) rfl))) (mvT hZ (hw _ (List.mem_of_getElem? (i := 24) rfl))) (notFace_of_selects (args := #[]) (mvT hZ (hw _ (List.mem_of_getElem? (i := 26) rfl)))) (mvT hZ (hw _ (List.mem_of_getElem? (i := 26) rfl))) (mvT hZ (hw _ (List.mem_of_getElem? (i := 25) rfl))) (by decide) (backOf (W := 0) (rm_add0 l Z av0 hw [] b15 b2 ha25 pa25 k2 kh25 kp25 (FP.i2d (u0 &&& (3 : Int32))) (FP.i2d ((u0 >>> ((2 : Int32) &&& 31)) &&& (3 : Int32))) (FP.i2d ((u0 >>> ((4 : Int32) &&& 31)) &&& (3 : Int32))) z0256 z1256 z2256 z3256 z4256 z5256 true false h262 n0 f263 f265 f266 f267 f268 f269 f264 f270 f271 g17 gha25 gpa25 ne27 ne30 po25_0 ne16.symm ne26 ne29 po256_0) hZ (hw _ (List.mem_of_getElem? (i := 27) rfl)) (hw _ (List.mem_of_getElem? (i := 3) rfl)) (by decide) (by decide)) q278a q278c (g := (mkF m 125 #[.val (.int u0), .val (.int u1), .val (.int u2), .val (.int u3), .val (.int u4), .val (.ref b2), .val (.ref b15), .val (.ref b37), .val (.int (1 : Int32)), .val (.int (1 : Int32)), .val (.int (2 : Int32)), .val (.int (0 : Int32)), .unset, .unset] [(.int (0 : Int32)), (.ref b15)])) rfl (by rw [hml]; rfl) (Steps.refl _) (argsL := [(.int (0 : Int32))]) (rest := []) (lenOf pd_2 rfl) rfl (by show 2 * 0 + _ ≤ _; exact Nat.le_of_eq rfl) (hb hby at_125) (fun _ _ => ⟨rfl, e262, (by decide : 5 + 0 ≤ _), (by decide : 16 + 0 ≤ _)⟩)
            dsimp only [Pt.U, Pt.locs, Pt.cells, Pt.slots] at X278 l278 y278 z278 st278 hQ278
            subst l278 y278 z278
            obtain ⟨z0278, z1278, z2278, z3278, z4278, z5278, hv278, N278q, K278, fo278_0, fo278_1, fo278_2, fo278_3, fo278_4, fo278_5, fo278_6, po278_0⟩ := hQ278
            have f279 := Nat.le_trans f263 K278.1
            have f280 := f264.keep K278 (ninS ne16 (ninS ne26 (ninS ne29 nin0)))
            have f281 := f265.keep K278
            have f282 := fa262.keep K278 (ninS ne39.symm (ninS ne40.symm (ninS ne41.symm nin0)))
            subst hv278
            have N278 := Fr.app N262 N278q
            have pre278 : Go p.tables e below (s₁.setTop (entryFrame m #[(.int u0), (.int u1), (.int u2), (.int u3), (.int u4)] maxLocals)) T278 (mkF m 128 #[.val (.int u0), .val (.int u1), .val (.int u2), .val (.int u3), .val (.int u4), .val (.ref b2), .val (.ref b15), .val (.ref b37), .val (.int (1 : Int32)), .val (.int (1 : Int32)), .val (.int (2 : Int32)), .val (.int (0 : Int32)), .unset, .unset] []) := fun t k => pre277 t (st278.trans k)
            have pre283 : Go p.tables e below (s₁.setTop (entryFrame m #[(.int u0), (.int u1), (.int u2), (.int u3), (.int u4)] maxLocals)) T278 (mkF m 133 #[.val (.int u0), .val (.int u1), .val (.int u2), .val (.int u3), .val (.int u4), .val (.ref b2), .val (.ref b15), .val (.ref b37), .val (.int (1 : Int32)), .val (.int (1 : Int32)), .val (.int (2 : Int32)), .val (.int (0 : Int32)), .unset, .unset] [(.int (1 : Int32)), (.int (0 : Int32)), (.ref b37)]) := fun t k => pre278 t (by
                refine XS.aload X278.here hx rfl (hb hby at_128) rfl rfl ?_
                refine XS.iload X278.here hx rfl (hb hby at_130) rfl ?_
                refine XS.iconst X278.here hx rfl (hb hby at_132) ?_
                exact k)
            obtain ⟨c284, Ar284, q284, S284, M284, H284, G284⟩ := (id f282)
            have hin284 : ¬ ((0 : Int32) < 0 ∨ c284.slots.size ≤ ((0 : Int32)).toNatClampNeg) := inb_of S284 ⟨by decide, by decide⟩
            obtain ⟨T284, h284, X284, e284, W284, st284⟩ := stZ X278 hx hZ rfl Ar284 (j := (0 : Int32)) hin284 (g := (mkF m 133 #[.val (.int u0), .val (.int u1), .val (.int u2), .val (.int u3), .val (.int u4), .val (.ref b2), .val (.ref b15), .val (.ref b37), .val (.int (1 : Int32)), .val (.int (1 : Int32)), .val (.int (2 : Int32)), .val (.int (0 : Int32)), .unset, .unset] [(.int (1 : Int32)), (.int (0 : Int32)), (.ref b37)])) rfl rfl (hb hby at_133)
            have fa284 : Arv Z h284 b37 k37 .boolean (3 : Int32) [(.int (1 : Int32)), (.int (1 : Int32)), (.int (0 : Int32))] (.int (0 : Int32)) := Arv.set Ar284 q284 S284 M284 H284 G284 (fits_nar_bool _) W284 0 rfl (Nat.le_of_ble_eq_true rfl)
            have N284 := Fr.snoc X284 N278 g42
            have f285 : n0 ≤ h284.size := Nat.le_trans f279 (Keep.of_wr W284).1
            have f286 : Arv Z h284 b2 k2 .double (3 : Int32) [(.double (FP.i2d (u0 &&& (3 : Int32)))), (.double (FP.i2d ((u0 >>> ((2 : Int32) &&& 31)) &&& (3 : Int32)))), (.double (FP.i2d ((u0 >>> ((4 : Int32) &&& 31)) &&& (3 : Int32))))] (.double 0) := f280.other W284 ne38
            have f287 : Exa Z h284 b15 "com/example/octopoll/octopoll/PageHeap" := fo278_0.wr W284
            have f288 : Fld Z h284 b15 "com/example/octopoll/octopoll/PageHeap" "key" "[D" (.ref b2) := fo278_1.other W284 (Or.inl ne39)
            have f289 : Fld Z h284 b15 "com/example/octopoll/octopoll/PageHeap" "heap" "[I" (.ref ha25) := fo278_2.other W284 (Or.inl ne39)
            have f290 : Fld Z h284 b15 "com/example/octopoll/octopoll/PageHeap" "position" "[I" (.ref pa25) := fo278_3.other W284 (Or.inl ne39)
            have f291 : Fld Z h284 b15 "com/example/octopoll/octopoll/PageHeap" "size" "I" (.int (2 : Int32)) := fo278_4.other W284 (Or.inl ne39)
            have f292 : Arv Z h284 ha25 kh25 .int (3 : Int32) [(.int z0278), (.int z1278), (.int z2278)] (.int (0 : Int32)) := fo278_5.other W284 ne40
            have f293 : Arv Z h284 pa25 kp25 .int (3 : Int32) [(.int z3278), (.int z4278), (.int z5278)] (.int (0 : Int32)) := fo278_6.other W284 ne41
            have pre284 : Go p.tables e below (s₁.setTop (entryFrame m #[(.int u0), (.int u1), (.int u2), (.int u3), (.int u4)] maxLocals)) T284 (mkF m 134 #[.val (.int u0), .val (.int u1), .val (.int u2), .val (.int u3), .val (.int u4), .val (.ref b2), .val (.ref b15), .val (.ref b37), .val (.int (1 : Int32)), .val (.int (1 : Int32)), .val (.int (2 : Int32)), .val (.int (0 : Int32)), .unset, .unset] []) := fun t k => pre283 t (st284 _ k)
            exact ⟨T284, _, h284, (1 : Int32), (1 : Int32), (2 : Int32), (0 : Int32), true, true, false, z0278, z1278, z2278, z3278, z4278, z5278, X284, e284, N284, f285, f287, f288, f289, f290, f291, f286, f292, f293, fa284, po278_0, pre284⟩
        · -- hc273: False
          have pre294 : Go p.tables e below (s₁.setTop (entryFrame m #[(.int u0), (.int u1), (.int u2), (.int u3), (.int u4)] maxLocals)) T262 (mkF m 106 #[.val (.int u0), .val (.int u1), .val (.int u2), .val (.int u3), .val (.int u4), .val (.ref b2), .val (.ref b15), .val (.ref b37), .val (.int (1 : Int32)), .val (.int (1 : Int32)), .val (.int (2 : Int32)), .val (.int (0 : Int32)), .unset, .unset] [(.int (2 : Int32)), (.ref b15)]) := fun t k => pre272 t (by
              refine XS.ifNo X262.here hx rfl (hb hby at_99) rfl ((if0 _ _).trans (feq hc273).1) ?_
              refine XS.aload X262.here hx rfl (hb hby at_102) rfl rfl ?_
              refine XS.iload X262.here hx rfl (hb hby at_104) rfl ?_
              exact k)
          obtain ⟨cq295, kq295, q295a, q295b, q295c⟩ := isOf hZ e262 f265
          obtain ⟨_, _, ⟨T295, L295, k295, n295⟩, -, X295, ⟨Lc295, hQ295, l295, y295, z295⟩, st295⟩ := X262.virtualBack hx (y := (⟨"com/example/octopoll/octopoll/PageHeap", "add", "(I)V"⟩ : MethodName)) (z := (⟨"com/example/octopoll/octopoll/PageHeap", "add", "(I)V"⟩ : MethodName)) hown (mvT hZ (hw _ (List.mem_of_getElem? (i := 23) rfl))) (mvT hZ (hw _ (List.mem_of_getElem? (i := 24) rfl))) (notFace_of_selects (args := #[]) (mvT hZ (hw _ (List.mem_of_getElem? (i := 26) rfl)))) (mvT hZ (hw _ (List.mem_of_getElem? (i := 26) rfl))) (mvT hZ (hw _ (List.mem_of_getElem? (i := 25) rfl))) (by decide) (backOf (W := 0) (rm_add2 l Z av0 hw [] b15 b2 ha25 pa25 k2 kh25 kp25 (FP.i2d (u0 &&& (3 : Int32))) (FP.i2d ((u0 >>> ((2 : Int32) &&& 31)) &&& (3 : Int32))) (FP.i2d ((u0 >>> ((4 : Int32) &&& 31)) &&& (3 : Int32))) z0256 z1256 z2256 z3256 z4256 z5256 false true h262 n0 f263 f265 f266 f267 f268 f269 f264 f270 f271 g17 gha25 gpa25 ne27 ne30 po25_0 ne16.symm ne26 ne29 po256_0) hZ (hw _ (List.mem_of_getElem? (i := 27) rfl)) (hw _ (List.mem_of_getElem? (i := 3) rfl)) (by decide) (by decide)) q295a q295c (g := (mkF m 106 #[.val (.int u0), .val (.int u1), .val (.int u2), .val (.int u3), .val (.int u4), .val (.ref b2), .val (.ref b15), .val (.ref b37), .val (.int (1 : Int32)), .val (.int (1 : Int32)), .val (.int (2 : Int32)), .val (.int (0 : Int32)), .unset, .unset] [(.int (2 : Int32)), (.ref b15)])) rfl (by rw [hml]; rfl) (Steps.refl _) (argsL := [(.int (2 : Int32))]) (rest := []) (lenOf pd_2 rfl) rfl (by show 2 * 0 + _ ≤ _; exact Nat.le_of_eq rfl) (hb hby at_106) (fun _ _ => ⟨rfl, e262, (by decide : 5 + 0 ≤ _), (by decide : 16 + 0 ≤ _)⟩)
          dsimp only [Pt.U, Pt.locs, Pt.cells, Pt.slots] at X295 l295 y295 z295 st295 hQ295
          subst l295 y295 z295
          obtain ⟨z0295, z1295, z2295, z3295, z4295, z5295, hv295, N295q, K295, fo295_0, fo295_1, fo295_2, fo295_3, fo295_4, fo295_5, fo295_6, po295_0⟩ := hQ295
          have f296 := Nat.le_trans f263 K295.1
          have f297 := f264.keep K295 (ninS ne16 (ninS ne26 (ninS ne29 nin0)))
          have f298 := f265.keep K295
          have f299 := fa262.keep K295 (ninS ne39.symm (ninS ne40.symm (ninS ne41.symm nin0)))
          subst hv295
          have N295 := Fr.app N262 N295q
          have pre295 : Go p.tables e below (s₁.setTop (entryFrame m #[(.int u0), (.int u1), (.int u2), (.int u3), (.int u4)] maxLocals)) T295 (mkF m 109 #[.val (.int u0), .val (.int u1), .val (.int u2), .val (.int u3), .val (.int u4), .val (.ref b2), .val (.ref b15), .val (.ref b37), .val (.int (1 : Int32)), .val (.int (1 : Int32)), .val (.int (2 : Int32)), .val (.int (0 : Int32)), .unset, .unset] []) := fun t k => pre294 t (st295.trans k)
          have pre300 : Go p.tables e below (s₁.setTop (entryFrame m #[(.int u0), (.int u1), (.int u2), (.int u3), (.int u4)] maxLocals)) T295 (mkF m 114 #[.val (.int u0), .val (.int u1), .val (.int u2), .val (.int u3), .val (.int u4), .val (.ref b2), .val (.ref b15), .val (.ref b37), .val (.int (1 : Int32)), .val (.int (1 : Int32)), .val (.int (2 : Int32)), .val (.int (0 : Int32)), .unset, .unset] [(.int (1 : Int32)), (.int (2 : Int32)), (.ref b37)]) := fun t k => pre295 t (by
              refine XS.aload X295.here hx rfl (hb hby at_109) rfl rfl ?_
              refine XS.iload X295.here hx rfl (hb hby at_111) rfl ?_
              refine XS.iconst X295.here hx rfl (hb hby at_113) ?_
              exact k)
          obtain ⟨c301, Ar301, q301, S301, M301, H301, G301⟩ := (id f299)
          have hin301 : ¬ ((2 : Int32) < 0 ∨ c301.slots.size ≤ ((2 : Int32)).toNatClampNeg) := inb_of S301 ⟨by decide, by decide⟩
          obtain ⟨T301, h301, X301, e301, W301, st301⟩ := stZ X295 hx hZ rfl Ar301 (j := (2 : Int32)) hin301 (g := (mkF m 114 #[.val (.int u0), .val (.int u1), .val (.int u2), .val (.int u3), .val (.int u4), .val (.ref b2), .val (.ref b15), .val (.ref b37), .val (.int (1 : Int32)), .val (.int (1 : Int32)), .val (.int (2 : Int32)), .val (.int (0 : Int32)), .unset, .unset] [(.int (1 : Int32)), (.int (2 : Int32)), (.ref b37)])) rfl rfl (hb hby at_114)
          have fa301 : Arv Z h301 b37 k37 .boolean (3 : Int32) [(.int (0 : Int32)), (.int (1 : Int32)), (.int (1 : Int32))] (.int (0 : Int32)) := Arv.set Ar301 q301 S301 M301 H301 G301 (fits_nar_bool _) W301 2 rfl (Nat.le_of_ble_eq_true rfl)
          have N301 := Fr.snoc X301 N295 g42
          have f302 : n0 ≤ h301.size := Nat.le_trans f296 (Keep.of_wr W301).1
          have f303 : Arv Z h301 b2 k2 .double (3 : Int32) [(.double (FP.i2d (u0 &&& (3 : Int32)))), (.double (FP.i2d ((u0 >>> ((2 : Int32) &&& 31)) &&& (3 : Int32)))), (.double (FP.i2d ((u0 >>> ((4 : Int32) &&& 31)) &&& (3 : Int32))))] (.double 0) := f297.other W301 ne38
          have f304 : Exa Z h301 b15 "com/example/octopoll/octopoll/PageHeap" := fo295_0.wr W301
          have f305 : Fld Z h301 b15 "com/example/octopoll/octopoll/PageHeap" "key" "[D" (.ref b2) := fo295_1.other W301 (Or.inl ne39)
          have f306 : Fld Z h301 b15 "com/example/octopoll/octopoll/PageHeap" "heap" "[I" (.ref ha25) := fo295_2.other W301 (Or.inl ne39)
          have f307 : Fld Z h301 b15 "com/example/octopoll/octopoll/PageHeap" "position" "[I" (.ref pa25) := fo295_3.other W301 (Or.inl ne39)
          have f308 : Fld Z h301 b15 "com/example/octopoll/octopoll/PageHeap" "size" "I" (.int (2 : Int32)) := fo295_4.other W301 (Or.inl ne39)
          have f309 : Arv Z h301 ha25 kh25 .int (3 : Int32) [(.int z0295), (.int z1295), (.int z2295)] (.int (0 : Int32)) := fo295_5.other W301 ne40
          have f310 : Arv Z h301 pa25 kp25 .int (3 : Int32) [(.int z3295), (.int z4295), (.int z5295)] (.int (0 : Int32)) := fo295_6.other W301 ne41
          have pre301 : Go p.tables e below (s₁.setTop (entryFrame m #[(.int u0), (.int u1), (.int u2), (.int u3), (.int u4)] maxLocals)) T301 (mkF m 115 #[.val (.int u0), .val (.int u1), .val (.int u2), .val (.int u3), .val (.int u4), .val (.ref b2), .val (.ref b15), .val (.ref b37), .val (.int (1 : Int32)), .val (.int (1 : Int32)), .val (.int (2 : Int32)), .val (.int (0 : Int32)), .unset, .unset] []) := fun t k => pre300 t (st301 _ k)
          have pre311 : Go p.tables e below (s₁.setTop (entryFrame m #[(.int u0), (.int u1), (.int u2), (.int u3), (.int u4)] maxLocals)) T301 (mkF m 118 #[.val (.int u0), .val (.int u1), .val (.int u2), .val (.int u3), .val (.int u4), .val (.ref b2), .val (.ref b15), .val (.ref b37), .val (.int (1 : Int32)), .val (.int (1 : Int32)), .val (.int (2 : Int32)), .val (.int (0 : Int32)), .unset, .unset] [(.int (u1 &&& (4 : Int32)))]) := fun t k => pre301 t (by
              refine XS.iloadN X301.here hx rfl (hb hby at_115) rfl ?_
              refine XS.iconst X301.here hx rfl (hb hby at_116) ?_
              refine XS.iand X301.here hx rfl (hb hby at_117) rfl ?_
              exact k)
          by_cases hc312 : (u1 &&& (4 : Int32)) = (0 : Int32)
          · -- hc312: True
            have pre313 : Go p.tables e below (s₁.setTop (entryFrame m #[(.int u0), (.int u1), (.int u2), (.int u3), (.int u4)] maxLocals)) T301 (mkF m 134 #[.val (.int u0), .val (.int u1), .val (.int u2), .val (.int u3), .val (.int u4), .val (.ref b2), .val (.ref b15), .val (.ref b37), .val (.int (1 : Int32)), .val (.int (1 : Int32)), .val (.int (2 : Int32)), .val (.int (0 : Int32)), .unset, .unset] []) := fun t k => pre311 t (by
                refine XS.ifYes X301.here hx rfl (pc0 := 118) (pc' := 134) rfl (hb hby at_118) rfl ((if0 _ _).trans (teq hc312).1) (by decide) (by decide) ?_
                exact k)
            exact ⟨T301, _, h301, (1 : Int32), (1 : Int32), (2 : Int32), (0 : Int32), false, true, true, z0295, z1295, z2295, z3295, z4295, z5295, X301, e301, N301, f302, f304, f305, f306, f307, f308, f303, f309, f310, fa301, po295_0, pre313⟩
          · -- hc312: False
            have pre314 : Go p.tables e below (s₁.setTop (entryFrame m #[(.int u0), (.int u1), (.int u2), (.int u3), (.int u4)] maxLocals)) T301 (mkF m 125 #[.val (.int u0), .val (.int u1), .val (.int u2), .val (.int u3), .val (.int u4), .val (.ref b2), .val (.ref b15), .val (.ref b37), .val (.int (1 : Int32)), .val (.int (1 : Int32)), .val (.int (2 : Int32)), .val (.int (0 : Int32)), .unset, .unset] [(.int (0 : Int32)), (.ref b15)]) := fun t k => pre311 t (by
                refine XS.ifNo X301.here hx rfl (hb hby at_118) rfl ((if0 _ _).trans (feq hc312).1) ?_
                refine XS.aload X301.here hx rfl (hb hby at_121) rfl rfl ?_
                refine XS.iload X301.here hx rfl (hb hby at_123) rfl ?_
                exact k)
            obtain ⟨cq315, kq315, q315a, q315b, q315c⟩ := isOf hZ e301 f304
            obtain ⟨_, _, ⟨T315, L315, k315, n315⟩, -, X315, ⟨Lc315, hQ315, l315, y315, z315⟩, st315⟩ := X301.virtualBack hx (y := (⟨"com/example/octopoll/octopoll/PageHeap", "add", "(I)V"⟩ : MethodName)) (z := (⟨"com/example/octopoll/octopoll/PageHeap", "add", "(I)V"⟩ : MethodName)) hown (mvT hZ (hw _ (List.mem_of_getElem? (i := 23) rfl))) (mvT hZ (hw _ (List.mem_of_getElem? (i := 24) rfl))) (notFace_of_selects (args := #[]) (mvT hZ (hw _ (List.mem_of_getElem? (i := 26) rfl)))) (mvT hZ (hw _ (List.mem_of_getElem? (i := 26) rfl))) (mvT hZ (hw _ (List.mem_of_getElem? (i := 25) rfl))) (by decide) (backOf (W := 0) (rm_add0 l Z av0 hw [] b15 b2 ha25 pa25 k2 kh25 kp25 (FP.i2d (u0 &&& (3 : Int32))) (FP.i2d ((u0 >>> ((2 : Int32) &&& 31)) &&& (3 : Int32))) (FP.i2d ((u0 >>> ((4 : Int32) &&& 31)) &&& (3 : Int32))) z0295 z1295 z2295 z3295 z4295 z5295 true true h301 n0 f302 f304 f305 f306 f307 f308 f303 f309 f310 g17 gha25 gpa25 ne27 ne30 po25_0 ne16.symm ne26 ne29 po295_0) hZ (hw _ (List.mem_of_getElem? (i := 27) rfl)) (hw _ (List.mem_of_getElem? (i := 3) rfl)) (by decide) (by decide)) q315a q315c (g := (mkF m 125 #[.val (.int u0), .val (.int u1), .val (.int u2), .val (.int u3), .val (.int u4), .val (.ref b2), .val (.ref b15), .val (.ref b37), .val (.int (1 : Int32)), .val (.int (1 : Int32)), .val (.int (2 : Int32)), .val (.int (0 : Int32)), .unset, .unset] [(.int (0 : Int32)), (.ref b15)])) rfl (by rw [hml]; rfl) (Steps.refl _) (argsL := [(.int (0 : Int32))]) (rest := []) (lenOf pd_2 rfl) rfl (by show 2 * 0 + _ ≤ _; exact Nat.le_of_eq rfl) (hb hby at_125) (fun _ _ => ⟨rfl, e301, (by decide : 5 + 0 ≤ _), (by decide : 16 + 0 ≤ _)⟩)
            dsimp only [Pt.U, Pt.locs, Pt.cells, Pt.slots] at X315 l315 y315 z315 st315 hQ315
            subst l315 y315 z315
            obtain ⟨z0315, z1315, z2315, z3315, z4315, z5315, hv315, N315q, K315, fo315_0, fo315_1, fo315_2, fo315_3, fo315_4, fo315_5, fo315_6, po315_0⟩ := hQ315
            have f316 := Nat.le_trans f302 K315.1
            have f317 := f303.keep K315 (ninS ne16 (ninS ne26 (ninS ne29 nin0)))
            have f318 := f304.keep K315
            have f319 := fa301.keep K315 (ninS ne39.symm (ninS ne40.symm (ninS ne41.symm nin0)))
            subst hv315
            have N315 := Fr.app N301 N315q
            have pre315 : Go p.tables e below (s₁.setTop (entryFrame m #[(.int u0), (.int u1), (.int u2), (.int u3), (.int u4)] maxLocals)) T315 (mkF m 128 #[.val (.int u0), .val (.int u1), .val (.int u2), .val (.int u3), .val (.int u4), .val (.ref b2), .val (.ref b15), .val (.ref b37), .val (.int (1 : Int32)), .val (.int (1 : Int32)), .val (.int (2 : Int32)), .val (.int (0 : Int32)), .unset, .unset] []) := fun t k => pre314 t (st315.trans k)
            have pre320 : Go p.tables e below (s₁.setTop (entryFrame m #[(.int u0), (.int u1), (.int u2), (.int u3), (.int u4)] maxLocals)) T315 (mkF m 133 #[.val (.int u0), .val (.int u1), .val (.int u2), .val (.int u3), .val (.int u4), .val (.ref b2), .val (.ref b15), .val (.ref b37), .val (.int (1 : Int32)), .val (.int (1 : Int32)), .val (.int (2 : Int32)), .val (.int (0 : Int32)), .unset, .unset] [(.int (1 : Int32)), (.int (0 : Int32)), (.ref b37)]) := fun t k => pre315 t (by
                refine XS.aload X315.here hx rfl (hb hby at_128) rfl rfl ?_
                refine XS.iload X315.here hx rfl (hb hby at_130) rfl ?_
                refine XS.iconst X315.here hx rfl (hb hby at_132) ?_
                exact k)
            obtain ⟨c321, Ar321, q321, S321, M321, H321, G321⟩ := (id f319)
            have hin321 : ¬ ((0 : Int32) < 0 ∨ c321.slots.size ≤ ((0 : Int32)).toNatClampNeg) := inb_of S321 ⟨by decide, by decide⟩
            obtain ⟨T321, h321, X321, e321, W321, st321⟩ := stZ X315 hx hZ rfl Ar321 (j := (0 : Int32)) hin321 (g := (mkF m 133 #[.val (.int u0), .val (.int u1), .val (.int u2), .val (.int u3), .val (.int u4), .val (.ref b2), .val (.ref b15), .val (.ref b37), .val (.int (1 : Int32)), .val (.int (1 : Int32)), .val (.int (2 : Int32)), .val (.int (0 : Int32)), .unset, .unset] [(.int (1 : Int32)), (.int (0 : Int32)), (.ref b37)])) rfl rfl (hb hby at_133)
            have fa321 : Arv Z h321 b37 k37 .boolean (3 : Int32) [(.int (1 : Int32)), (.int (1 : Int32)), (.int (1 : Int32))] (.int (0 : Int32)) := Arv.set Ar321 q321 S321 M321 H321 G321 (fits_nar_bool _) W321 0 rfl (Nat.le_of_ble_eq_true rfl)
            have N321 := Fr.snoc X321 N315 g42
            have f322 : n0 ≤ h321.size := Nat.le_trans f316 (Keep.of_wr W321).1
            have f323 : Arv Z h321 b2 k2 .double (3 : Int32) [(.double (FP.i2d (u0 &&& (3 : Int32)))), (.double (FP.i2d ((u0 >>> ((2 : Int32) &&& 31)) &&& (3 : Int32)))), (.double (FP.i2d ((u0 >>> ((4 : Int32) &&& 31)) &&& (3 : Int32))))] (.double 0) := f317.other W321 ne38
            have f324 : Exa Z h321 b15 "com/example/octopoll/octopoll/PageHeap" := fo315_0.wr W321
            have f325 : Fld Z h321 b15 "com/example/octopoll/octopoll/PageHeap" "key" "[D" (.ref b2) := fo315_1.other W321 (Or.inl ne39)
            have f326 : Fld Z h321 b15 "com/example/octopoll/octopoll/PageHeap" "heap" "[I" (.ref ha25) := fo315_2.other W321 (Or.inl ne39)
            have f327 : Fld Z h321 b15 "com/example/octopoll/octopoll/PageHeap" "position" "[I" (.ref pa25) := fo315_3.other W321 (Or.inl ne39)
            have f328 : Fld Z h321 b15 "com/example/octopoll/octopoll/PageHeap" "size" "I" (.int (3 : Int32)) := fo315_4.other W321 (Or.inl ne39)
            have f329 : Arv Z h321 ha25 kh25 .int (3 : Int32) [(.int z0315), (.int z1315), (.int z2315)] (.int (0 : Int32)) := fo315_5.other W321 ne40
            have f330 : Arv Z h321 pa25 kp25 .int (3 : Int32) [(.int z3315), (.int z4315), (.int z5315)] (.int (0 : Int32)) := fo315_6.other W321 ne41
            have pre321 : Go p.tables e below (s₁.setTop (entryFrame m #[(.int u0), (.int u1), (.int u2), (.int u3), (.int u4)] maxLocals)) T321 (mkF m 134 #[.val (.int u0), .val (.int u1), .val (.int u2), .val (.int u3), .val (.int u4), .val (.ref b2), .val (.ref b15), .val (.ref b37), .val (.int (1 : Int32)), .val (.int (1 : Int32)), .val (.int (2 : Int32)), .val (.int (0 : Int32)), .unset, .unset] []) := fun t k => pre320 t (st321 _ k)
            exact ⟨T321, _, h321, (1 : Int32), (1 : Int32), (2 : Int32), (0 : Int32), true, true, true, z0315, z1315, z2315, z3315, z4315, z5315, X321, e321, N321, f322, f324, f325, f326, f327, f328, f323, f329, f330, fa321, po315_0, pre321⟩
    · -- w53 = (2 : Int32)
      have pre331 : Go p.tables e below (s₁.setTop (entryFrame m #[(.int u0), (.int u1), (.int u2), (.int u3), (.int u4)] maxLocals)) T37 (mkF m 80 #[.val (.int u0), .val (.int u1), .val (.int u2), .val (.int u3), .val (.int u4), .val (.ref b2), .val (.ref b15), .val (.ref b37), .val (.int (2 : Int32)), .val (.int (2 : Int32)), .val (.int (0 : Int32)), .val (.int (1 : Int32)), .unset, .unset] [(.int (u1 &&& (1 : Int32)))]) := fun t k => pre56 t (by
          refine XS.istore X37.here hx rfl (hb hby at_59) rfl (l' := #[.val (.int u0), .val (.int u1), .val (.int u2), .val (.int u3), .val (.int u4), .val (.ref b2), .val (.ref b15), .val (.ref b37), .val (.int (2 : Int32)), .val (.int (2 : Int32)), .unset, .unset, .unset, .unset]) rfl ?_
          show Steps p.tables e below (T37.setTop (mkF m 61 #[.val (.int u0), .val (.int u1), .val (.int u2), .val (.int u3), .val (.int u4), .val (.ref b2), .val (.ref b15), .val (.ref b37), .val (.int (2 : Int32)), .val (.int (2 : Int32)), .unset, .unset, .unset, .unset] [])) _
          refine XS.iload X37.here hx rfl (hb hby at_61) rfl ?_
          refine XS.iconst X37.here hx rfl (hb hby at_63) ?_
          refine XS.iadd X37.here hx rfl (hb hby at_64) rfl ?_
          show Steps p.tables e below (T37.setTop (mkF m 65 #[.val (.int u0), .val (.int u1), .val (.int u2), .val (.int u3), .val (.int u4), .val (.ref b2), .val (.ref b15), .val (.ref b37), .val (.int (2 : Int32)), .val (.int (2 : Int32)), .unset, .unset, .unset, .unset] [(.int (3 : Int32))])) _
          refine XS.iconst X37.here hx rfl (hb hby at_65) ?_
          refine iremM X37 hx (g := (mkF m 66 #[.val (.int u0), .val (.int u1), .val (.int u2), .val (.int u3), .val (.int u4), .val (.ref b2), .val (.ref b15), .val (.ref b37), .val (.int (2 : Int32)), .val (.int (2 : Int32)), .unset, .unset, .unset, .unset] [(.int (3 : Int32)), (.int (3 : Int32))])) rfl (hb hby at_66) rfl (by decide) ?_
          show Steps p.tables e below (T37.setTop (mkF m 67 #[.val (.int u0), .val (.int u1), .val (.int u2), .val (.int u3), .val (.int u4), .val (.ref b2), .val (.ref b15), .val (.ref b37), .val (.int (2 : Int32)), .val (.int (2 : Int32)), .unset, .unset, .unset, .unset] [(.int (0 : Int32))])) _
          refine XS.istore X37.here hx rfl (hb hby at_67) rfl (l' := #[.val (.int u0), .val (.int u1), .val (.int u2), .val (.int u3), .val (.int u4), .val (.ref b2), .val (.ref b15), .val (.ref b37), .val (.int (2 : Int32)), .val (.int (2 : Int32)), .val (.int (0 : Int32)), .unset, .unset, .unset]) rfl ?_
          show Steps p.tables e below (T37.setTop (mkF m 69 #[.val (.int u0), .val (.int u1), .val (.int u2), .val (.int u3), .val (.int u4), .val (.ref b2), .val (.ref b15), .val (.ref b37), .val (.int (2 : Int32)), .val (.int (2 : Int32)), .val (.int (0 : Int32)), .unset, .unset, .unset] [])) _
          refine XS.iload X37.here hx rfl (hb hby at_69) rfl ?_
          refine XS.iconst X37.here hx rfl (hb hby at_71) ?_
          refine XS.iadd X37.here hx rfl (hb hby at_72) rfl ?_
          show Steps p.tables e below (T37.setTop (mkF m 73 #[.val (.int u0), .val (.int u1), .val (.int u2), .val (.int u3), .val (.int u4), .val (.ref b2), .val (.ref b15), .val (.ref b37), .val (.int (2 : Int32)), .val (.int (2 : Int32)), .val (.int (0 : Int32)), .unset, .unset, .unset] [(.int (4 : Int32))])) _
          refine XS.iconst X37.here hx rfl (hb hby at_73) ?_
          refine iremM X37 hx (g := (mkF m 74 #[.val (.int u0), .val (.int u1), .val (.int u2), .val (.int u3), .val (.int u4), .val (.ref b2), .val (.ref b15), .val (.ref b37), .val (.int (2 : Int32)), .val (.int (2 : Int32)), .val (.int (0 : Int32)), .unset, .unset, .unset] [(.int (3 : Int32)), (.int (4 : Int32))])) rfl (hb hby at_74) rfl (by decide) ?_
          show Steps p.tables e below (T37.setTop (mkF m 75 #[.val (.int u0), .val (.int u1), .val (.int u2), .val (.int u3), .val (.int u4), .val (.ref b2), .val (.ref b15), .val (.ref b37), .val (.int (2 : Int32)), .val (.int (2 : Int32)), .val (.int (0 : Int32)), .unset, .unset, .unset] [(.int (1 : Int32))])) _
          refine XS.istore X37.here hx rfl (hb hby at_75) rfl (l' := #[.val (.int u0), .val (.int u1), .val (.int u2), .val (.int u3), .val (.int u4), .val (.ref b2), .val (.ref b15), .val (.ref b37), .val (.int (2 : Int32)), .val (.int (2 : Int32)), .val (.int (0 : Int32)), .val (.int (1 : Int32)), .unset, .unset]) rfl ?_
          show Steps p.tables e below (T37.setTop (mkF m 77 #[.val (.int u0), .val (.int u1), .val (.int u2), .val (.int u3), .val (.int u4), .val (.ref b2), .val (.ref b15), .val (.ref b37), .val (.int (2 : Int32)), .val (.int (2 : Int32)), .val (.int (0 : Int32)), .val (.int (1 : Int32)), .unset, .unset] [])) _
          refine XS.iloadN X37.here hx rfl (hb hby at_77) rfl ?_
          refine XS.iconst X37.here hx rfl (hb hby at_78) ?_
          refine XS.iand X37.here hx rfl (hb hby at_79) rfl ?_
          exact k)
      by_cases hc332 : (u1 &&& (1 : Int32)) = (0 : Int32)
      · -- hc332: True
        have pre333 : Go p.tables e below (s₁.setTop (entryFrame m #[(.int u0), (.int u1), (.int u2), (.int u3), (.int u4)] maxLocals)) T37 (mkF m 99 #[.val (.int u0), .val (.int u1), .val (.int u2), .val (.int u3), .val (.int u4), .val (.ref b2), .val (.ref b15), .val (.ref b37), .val (.int (2 : Int32)), .val (.int (2 : Int32)), .val (.int (0 : Int32)), .val (.int (1 : Int32)), .unset, .unset] [(.int (u1 &&& (2 : Int32)))]) := fun t k => pre331 t (by
            refine XS.ifYes X37.here hx rfl (pc0 := 80) (pc' := 96) rfl (hb hby at_80) rfl ((if0 _ _).trans (teq hc332).1) (by decide) (by decide) ?_
            refine XS.iloadN X37.here hx rfl (hb hby at_96) rfl ?_
            refine XS.iconst X37.here hx rfl (hb hby at_97) ?_
            refine XS.iand X37.here hx rfl (hb hby at_98) rfl ?_
            exact k)
        by_cases hc334 : (u1 &&& (2 : Int32)) = (0 : Int32)
        · -- hc334: True
          have pre335 : Go p.tables e below (s₁.setTop (entryFrame m #[(.int u0), (.int u1), (.int u2), (.int u3), (.int u4)] maxLocals)) T37 (mkF m 118 #[.val (.int u0), .val (.int u1), .val (.int u2), .val (.int u3), .val (.int u4), .val (.ref b2), .val (.ref b15), .val (.ref b37), .val (.int (2 : Int32)), .val (.int (2 : Int32)), .val (.int (0 : Int32)), .val (.int (1 : Int32)), .unset, .unset] [(.int (u1 &&& (4 : Int32)))]) := fun t k => pre333 t (by
              refine XS.ifYes X37.here hx rfl (pc0 := 99) (pc' := 115) rfl (hb hby at_99) rfl ((if0 _ _).trans (teq hc334).1) (by decide) (by decide) ?_
              refine XS.iloadN X37.here hx rfl (hb hby at_115) rfl ?_
              refine XS.iconst X37.here hx rfl (hb hby at_116) ?_
              refine XS.iand X37.here hx rfl (hb hby at_117) rfl ?_
              exact k)
          by_cases hc336 : (u1 &&& (4 : Int32)) = (0 : Int32)
          · -- hc336: True
            have pre337 : Go p.tables e below (s₁.setTop (entryFrame m #[(.int u0), (.int u1), (.int u2), (.int u3), (.int u4)] maxLocals)) T37 (mkF m 134 #[.val (.int u0), .val (.int u1), .val (.int u2), .val (.int u3), .val (.int u4), .val (.ref b2), .val (.ref b15), .val (.ref b37), .val (.int (2 : Int32)), .val (.int (2 : Int32)), .val (.int (0 : Int32)), .val (.int (1 : Int32)), .unset, .unset] []) := fun t k => pre335 t (by
                refine XS.ifYes X37.here hx rfl (pc0 := 118) (pc' := 134) rfl (hb hby at_118) rfl ((if0 _ _).trans (teq hc336).1) (by decide) (by decide) ?_
                exact k)
            exact ⟨T37, _, h37, (2 : Int32), (2 : Int32), (0 : Int32), (1 : Int32), false, false, false, (0 : Int32), (0 : Int32), (0 : Int32), (-1 : Int32), (-1 : Int32), (-1 : Int32), X37, e37, N25, f43, f45, f46, f47, f48, f49, f44, f50, f51, f52, hS0, pre337⟩
          · -- hc336: False
            have pre338 : Go p.tables e below (s₁.setTop (entryFrame m #[(.int u0), (.int u1), (.int u2), (.int u3), (.int u4)] maxLocals)) T37 (mkF m 125 #[.val (.int u0), .val (.int u1), .val (.int u2), .val (.int u3), .val (.int u4), .val (.ref b2), .val (.ref b15), .val (.ref b37), .val (.int (2 : Int32)), .val (.int (2 : Int32)), .val (.int (0 : Int32)), .val (.int (1 : Int32)), .unset, .unset] [(.int (1 : Int32)), (.ref b15)]) := fun t k => pre335 t (by
                refine XS.ifNo X37.here hx rfl (hb hby at_118) rfl ((if0 _ _).trans (feq hc336).1) ?_
                refine XS.aload X37.here hx rfl (hb hby at_121) rfl rfl ?_
                refine XS.iload X37.here hx rfl (hb hby at_123) rfl ?_
                exact k)
            obtain ⟨cq339, kq339, q339a, q339b, q339c⟩ := isOf hZ e37 f45
            obtain ⟨_, _, ⟨T339, L339, k339, n339⟩, -, X339, ⟨Lc339, hQ339, l339, y339, z339⟩, st339⟩ := X37.virtualBack hx (y := (⟨"com/example/octopoll/octopoll/PageHeap", "add", "(I)V"⟩ : MethodName)) (z := (⟨"com/example/octopoll/octopoll/PageHeap", "add", "(I)V"⟩ : MethodName)) hown (mvT hZ (hw _ (List.mem_of_getElem? (i := 23) rfl))) (mvT hZ (hw _ (List.mem_of_getElem? (i := 24) rfl))) (notFace_of_selects (args := #[]) (mvT hZ (hw _ (List.mem_of_getElem? (i := 26) rfl)))) (mvT hZ (hw _ (List.mem_of_getElem? (i := 26) rfl))) (mvT hZ (hw _ (List.mem_of_getElem? (i := 25) rfl))) (by decide) (backOf (W := 0) (rm_add1 l Z av0 hw [] b15 b2 ha25 pa25 k2 kh25 kp25 (FP.i2d (u0 &&& (3 : Int32))) (FP.i2d ((u0 >>> ((2 : Int32) &&& 31)) &&& (3 : Int32))) (FP.i2d ((u0 >>> ((4 : Int32) &&& 31)) &&& (3 : Int32))) (0 : Int32) (0 : Int32) (0 : Int32) (-1 : Int32) (-1 : Int32) (-1 : Int32) false false h37 n0 f43 f45 f46 f47 f48 f49 f44 f50 f51 g17 gha25 gpa25 ne27 ne30 po25_0 ne16.symm ne26 ne29 hS0) hZ (hw _ (List.mem_of_getElem? (i := 27) rfl)) (hw _ (List.mem_of_getElem? (i := 3) rfl)) (by decide) (by decide)) q339a q339c (g := (mkF m 125 #[.val (.int u0), .val (.int u1), .val (.int u2), .val (.int u3), .val (.int u4), .val (.ref b2), .val (.ref b15), .val (.ref b37), .val (.int (2 : Int32)), .val (.int (2 : Int32)), .val (.int (0 : Int32)), .val (.int (1 : Int32)), .unset, .unset] [(.int (1 : Int32)), (.ref b15)])) rfl (by rw [hml]; rfl) (Steps.refl _) (argsL := [(.int (1 : Int32))]) (rest := []) (lenOf pd_2 rfl) rfl (by show 2 * 0 + _ ≤ _; exact Nat.le_of_eq rfl) (hb hby at_125) (fun _ _ => ⟨rfl, e37, (by decide : 5 + 0 ≤ _), (by decide : 16 + 0 ≤ _)⟩)
            dsimp only [Pt.U, Pt.locs, Pt.cells, Pt.slots] at X339 l339 y339 z339 st339 hQ339
            subst l339 y339 z339
            obtain ⟨z0339, z1339, z2339, z3339, z4339, z5339, hv339, N339q, K339, fo339_0, fo339_1, fo339_2, fo339_3, fo339_4, fo339_5, fo339_6, po339_0⟩ := hQ339
            have f340 := Nat.le_trans f43 K339.1
            have f341 := f44.keep K339 (ninS ne16 (ninS ne26 (ninS ne29 nin0)))
            have f342 := f45.keep K339
            have f343 := f52.keep K339 (ninS ne39.symm (ninS ne40.symm (ninS ne41.symm nin0)))
            subst hv339
            have N339 := Fr.app N25 N339q
            have pre339 : Go p.tables e below (s₁.setTop (entryFrame m #[(.int u0), (.int u1), (.int u2), (.int u3), (.int u4)] maxLocals)) T339 (mkF m 128 #[.val (.int u0), .val (.int u1), .val (.int u2), .val (.int u3), .val (.int u4), .val (.ref b2), .val (.ref b15), .val (.ref b37), .val (.int (2 : Int32)), .val (.int (2 : Int32)), .val (.int (0 : Int32)), .val (.int (1 : Int32)), .unset, .unset] []) := fun t k => pre338 t (st339.trans k)
            have pre344 : Go p.tables e below (s₁.setTop (entryFrame m #[(.int u0), (.int u1), (.int u2), (.int u3), (.int u4)] maxLocals)) T339 (mkF m 133 #[.val (.int u0), .val (.int u1), .val (.int u2), .val (.int u3), .val (.int u4), .val (.ref b2), .val (.ref b15), .val (.ref b37), .val (.int (2 : Int32)), .val (.int (2 : Int32)), .val (.int (0 : Int32)), .val (.int (1 : Int32)), .unset, .unset] [(.int (1 : Int32)), (.int (1 : Int32)), (.ref b37)]) := fun t k => pre339 t (by
                refine XS.aload X339.here hx rfl (hb hby at_128) rfl rfl ?_
                refine XS.iload X339.here hx rfl (hb hby at_130) rfl ?_
                refine XS.iconst X339.here hx rfl (hb hby at_132) ?_
                exact k)
            obtain ⟨c345, Ar345, q345, S345, M345, H345, G345⟩ := (id f343)
            have hin345 : ¬ ((1 : Int32) < 0 ∨ c345.slots.size ≤ ((1 : Int32)).toNatClampNeg) := inb_of S345 ⟨by decide, by decide⟩
            obtain ⟨T345, h345, X345, e345, W345, st345⟩ := stZ X339 hx hZ rfl Ar345 (j := (1 : Int32)) hin345 (g := (mkF m 133 #[.val (.int u0), .val (.int u1), .val (.int u2), .val (.int u3), .val (.int u4), .val (.ref b2), .val (.ref b15), .val (.ref b37), .val (.int (2 : Int32)), .val (.int (2 : Int32)), .val (.int (0 : Int32)), .val (.int (1 : Int32)), .unset, .unset] [(.int (1 : Int32)), (.int (1 : Int32)), (.ref b37)])) rfl rfl (hb hby at_133)
            have fa345 : Arv Z h345 b37 k37 .boolean (3 : Int32) [(.int (0 : Int32)), (.int (1 : Int32)), (.int (0 : Int32))] (.int (0 : Int32)) := Arv.set Ar345 q345 S345 M345 H345 G345 (fits_nar_bool _) W345 1 rfl (Nat.le_of_ble_eq_true rfl)
            have N345 := Fr.snoc X345 N339 g42
            have f346 : n0 ≤ h345.size := Nat.le_trans f340 (Keep.of_wr W345).1
            have f347 : Arv Z h345 b2 k2 .double (3 : Int32) [(.double (FP.i2d (u0 &&& (3 : Int32)))), (.double (FP.i2d ((u0 >>> ((2 : Int32) &&& 31)) &&& (3 : Int32)))), (.double (FP.i2d ((u0 >>> ((4 : Int32) &&& 31)) &&& (3 : Int32))))] (.double 0) := f341.other W345 ne38
            have f348 : Exa Z h345 b15 "com/example/octopoll/octopoll/PageHeap" := fo339_0.wr W345
            have f349 : Fld Z h345 b15 "com/example/octopoll/octopoll/PageHeap" "key" "[D" (.ref b2) := fo339_1.other W345 (Or.inl ne39)
            have f350 : Fld Z h345 b15 "com/example/octopoll/octopoll/PageHeap" "heap" "[I" (.ref ha25) := fo339_2.other W345 (Or.inl ne39)
            have f351 : Fld Z h345 b15 "com/example/octopoll/octopoll/PageHeap" "position" "[I" (.ref pa25) := fo339_3.other W345 (Or.inl ne39)
            have f352 : Fld Z h345 b15 "com/example/octopoll/octopoll/PageHeap" "size" "I" (.int (1 : Int32)) := fo339_4.other W345 (Or.inl ne39)
            have f353 : Arv Z h345 ha25 kh25 .int (3 : Int32) [(.int z0339), (.int z1339), (.int z2339)] (.int (0 : Int32)) := fo339_5.other W345 ne40
            have f354 : Arv Z h345 pa25 kp25 .int (3 : Int32) [(.int z3339), (.int z4339), (.int z5339)] (.int (0 : Int32)) := fo339_6.other W345 ne41
            have pre345 : Go p.tables e below (s₁.setTop (entryFrame m #[(.int u0), (.int u1), (.int u2), (.int u3), (.int u4)] maxLocals)) T345 (mkF m 134 #[.val (.int u0), .val (.int u1), .val (.int u2), .val (.int u3), .val (.int u4), .val (.ref b2), .val (.ref b15), .val (.ref b37), .val (.int (2 : Int32)), .val (.int (2 : Int32)), .val (.int (0 : Int32)), .val (.int (1 : Int32)), .unset, .unset] []) := fun t k => pre344 t (st345 _ k)
            exact ⟨T345, _, h345, (2 : Int32), (2 : Int32), (0 : Int32), (1 : Int32), false, true, false, z0339, z1339, z2339, z3339, z4339, z5339, X345, e345, N345, f346, f348, f349, f350, f351, f352, f347, f353, f354, fa345, po339_0, pre345⟩
        · -- hc334: False
          have pre355 : Go p.tables e below (s₁.setTop (entryFrame m #[(.int u0), (.int u1), (.int u2), (.int u3), (.int u4)] maxLocals)) T37 (mkF m 106 #[.val (.int u0), .val (.int u1), .val (.int u2), .val (.int u3), .val (.int u4), .val (.ref b2), .val (.ref b15), .val (.ref b37), .val (.int (2 : Int32)), .val (.int (2 : Int32)), .val (.int (0 : Int32)), .val (.int (1 : Int32)), .unset, .unset] [(.int (0 : Int32)), (.ref b15)]) := fun t k => pre333 t (by
              refine XS.ifNo X37.here hx rfl (hb hby at_99) rfl ((if0 _ _).trans (feq hc334).1) ?_
              refine XS.aload X37.here hx rfl (hb hby at_102) rfl rfl ?_
              refine XS.iload X37.here hx rfl (hb hby at_104) rfl ?_
              exact k)
          obtain ⟨cq356, kq356, q356a, q356b, q356c⟩ := isOf hZ e37 f45
          obtain ⟨_, _, ⟨T356, L356, k356, n356⟩, -, X356, ⟨Lc356, hQ356, l356, y356, z356⟩, st356⟩ := X37.virtualBack hx (y := (⟨"com/example/octopoll/octopoll/PageHeap", "add", "(I)V"⟩ : MethodName)) (z := (⟨"com/example/octopoll/octopoll/PageHeap", "add", "(I)V"⟩ : MethodName)) hown (mvT hZ (hw _ (List.mem_of_getElem? (i := 23) rfl))) (mvT hZ (hw _ (List.mem_of_getElem? (i := 24) rfl))) (notFace_of_selects (args := #[]) (mvT hZ (hw _ (List.mem_of_getElem? (i := 26) rfl)))) (mvT hZ (hw _ (List.mem_of_getElem? (i := 26) rfl))) (mvT hZ (hw _ (List.mem_of_getElem? (i := 25) rfl))) (by decide) (backOf (W := 0) (rm_add0 l Z av0 hw [] b15 b2 ha25 pa25 k2 kh25 kp25 (FP.i2d (u0 &&& (3 : Int32))) (FP.i2d ((u0 >>> ((2 : Int32) &&& 31)) &&& (3 : Int32))) (FP.i2d ((u0 >>> ((4 : Int32) &&& 31)) &&& (3 : Int32))) (0 : Int32) (0 : Int32) (0 : Int32) (-1 : Int32) (-1 : Int32) (-1 : Int32) false false h37 n0 f43 f45 f46 f47 f48 f49 f44 f50 f51 g17 gha25 gpa25 ne27 ne30 po25_0 ne16.symm ne26 ne29 hS0) hZ (hw _ (List.mem_of_getElem? (i := 27) rfl)) (hw _ (List.mem_of_getElem? (i := 3) rfl)) (by decide) (by decide)) q356a q356c (g := (mkF m 106 #[.val (.int u0), .val (.int u1), .val (.int u2), .val (.int u3), .val (.int u4), .val (.ref b2), .val (.ref b15), .val (.ref b37), .val (.int (2 : Int32)), .val (.int (2 : Int32)), .val (.int (0 : Int32)), .val (.int (1 : Int32)), .unset, .unset] [(.int (0 : Int32)), (.ref b15)])) rfl (by rw [hml]; rfl) (Steps.refl _) (argsL := [(.int (0 : Int32))]) (rest := []) (lenOf pd_2 rfl) rfl (by show 2 * 0 + _ ≤ _; exact Nat.le_of_eq rfl) (hb hby at_106) (fun _ _ => ⟨rfl, e37, (by decide : 5 + 0 ≤ _), (by decide : 16 + 0 ≤ _)⟩)
          dsimp only [Pt.U, Pt.locs, Pt.cells, Pt.slots] at X356 l356 y356 z356 st356 hQ356
          subst l356 y356 z356
          obtain ⟨z0356, z1356, z2356, z3356, z4356, z5356, hv356, N356q, K356, fo356_0, fo356_1, fo356_2, fo356_3, fo356_4, fo356_5, fo356_6, po356_0⟩ := hQ356
          have f357 := Nat.le_trans f43 K356.1
          have f358 := f44.keep K356 (ninS ne16 (ninS ne26 (ninS ne29 nin0)))
          have f359 := f45.keep K356
          have f360 := f52.keep K356 (ninS ne39.symm (ninS ne40.symm (ninS ne41.symm nin0)))
          subst hv356
          have N356 := Fr.app N25 N356q
          have pre356 : Go p.tables e below (s₁.setTop (entryFrame m #[(.int u0), (.int u1), (.int u2), (.int u3), (.int u4)] maxLocals)) T356 (mkF m 109 #[.val (.int u0), .val (.int u1), .val (.int u2), .val (.int u3), .val (.int u4), .val (.ref b2), .val (.ref b15), .val (.ref b37), .val (.int (2 : Int32)), .val (.int (2 : Int32)), .val (.int (0 : Int32)), .val (.int (1 : Int32)), .unset, .unset] []) := fun t k => pre355 t (st356.trans k)
          have pre361 : Go p.tables e below (s₁.setTop (entryFrame m #[(.int u0), (.int u1), (.int u2), (.int u3), (.int u4)] maxLocals)) T356 (mkF m 114 #[.val (.int u0), .val (.int u1), .val (.int u2), .val (.int u3), .val (.int u4), .val (.ref b2), .val (.ref b15), .val (.ref b37), .val (.int (2 : Int32)), .val (.int (2 : Int32)), .val (.int (0 : Int32)), .val (.int (1 : Int32)), .unset, .unset] [(.int (1 : Int32)), (.int (0 : Int32)), (.ref b37)]) := fun t k => pre356 t (by
              refine XS.aload X356.here hx rfl (hb hby at_109) rfl rfl ?_
              refine XS.iload X356.here hx rfl (hb hby at_111) rfl ?_
              refine XS.iconst X356.here hx rfl (hb hby at_113) ?_
              exact k)
          obtain ⟨c362, Ar362, q362, S362, M362, H362, G362⟩ := (id f360)
          have hin362 : ¬ ((0 : Int32) < 0 ∨ c362.slots.size ≤ ((0 : Int32)).toNatClampNeg) := inb_of S362 ⟨by decide, by decide⟩
          obtain ⟨T362, h362, X362, e362, W362, st362⟩ := stZ X356 hx hZ rfl Ar362 (j := (0 : Int32)) hin362 (g := (mkF m 114 #[.val (.int u0), .val (.int u1), .val (.int u2), .val (.int u3), .val (.int u4), .val (.ref b2), .val (.ref b15), .val (.ref b37), .val (.int (2 : Int32)), .val (.int (2 : Int32)), .val (.int (0 : Int32)), .val (.int (1 : Int32)), .unset, .unset] [(.int (1 : Int32)), (.int (0 : Int32)), (.ref b37)])) rfl rfl (hb hby at_114)
          have fa362 : Arv Z h362 b37 k37 .boolean (3 : Int32) [(.int (1 : Int32)), (.int (0 : Int32)), (.int (0 : Int32))] (.int (0 : Int32)) := Arv.set Ar362 q362 S362 M362 H362 G362 (fits_nar_bool _) W362 0 rfl (Nat.le_of_ble_eq_true rfl)
          have N362 := Fr.snoc X362 N356 g42
          have f363 : n0 ≤ h362.size := Nat.le_trans f357 (Keep.of_wr W362).1
          have f364 : Arv Z h362 b2 k2 .double (3 : Int32) [(.double (FP.i2d (u0 &&& (3 : Int32)))), (.double (FP.i2d ((u0 >>> ((2 : Int32) &&& 31)) &&& (3 : Int32)))), (.double (FP.i2d ((u0 >>> ((4 : Int32) &&& 31)) &&& (3 : Int32))))] (.double 0) := f358.other W362 ne38
          have f365 : Exa Z h362 b15 "com/example/octopoll/octopoll/PageHeap" := fo356_0.wr W362
          have f366 : Fld Z h362 b15 "com/example/octopoll/octopoll/PageHeap" "key" "[D" (.ref b2) := fo356_1.other W362 (Or.inl ne39)
          have f367 : Fld Z h362 b15 "com/example/octopoll/octopoll/PageHeap" "heap" "[I" (.ref ha25) := fo356_2.other W362 (Or.inl ne39)
          have f368 : Fld Z h362 b15 "com/example/octopoll/octopoll/PageHeap" "position" "[I" (.ref pa25) := fo356_3.other W362 (Or.inl ne39)
          have f369 : Fld Z h362 b15 "com/example/octopoll/octopoll/PageHeap" "size" "I" (.int (1 : Int32)) := fo356_4.other W362 (Or.inl ne39)
          have f370 : Arv Z h362 ha25 kh25 .int (3 : Int32) [(.int z0356), (.int z1356), (.int z2356)] (.int (0 : Int32)) := fo356_5.other W362 ne40
          have f371 : Arv Z h362 pa25 kp25 .int (3 : Int32) [(.int z3356), (.int z4356), (.int z5356)] (.int (0 : Int32)) := fo356_6.other W362 ne41
          have pre362 : Go p.tables e below (s₁.setTop (entryFrame m #[(.int u0), (.int u1), (.int u2), (.int u3), (.int u4)] maxLocals)) T362 (mkF m 115 #[.val (.int u0), .val (.int u1), .val (.int u2), .val (.int u3), .val (.int u4), .val (.ref b2), .val (.ref b15), .val (.ref b37), .val (.int (2 : Int32)), .val (.int (2 : Int32)), .val (.int (0 : Int32)), .val (.int (1 : Int32)), .unset, .unset] []) := fun t k => pre361 t (st362 _ k)
          have pre372 : Go p.tables e below (s₁.setTop (entryFrame m #[(.int u0), (.int u1), (.int u2), (.int u3), (.int u4)] maxLocals)) T362 (mkF m 118 #[.val (.int u0), .val (.int u1), .val (.int u2), .val (.int u3), .val (.int u4), .val (.ref b2), .val (.ref b15), .val (.ref b37), .val (.int (2 : Int32)), .val (.int (2 : Int32)), .val (.int (0 : Int32)), .val (.int (1 : Int32)), .unset, .unset] [(.int (u1 &&& (4 : Int32)))]) := fun t k => pre362 t (by
              refine XS.iloadN X362.here hx rfl (hb hby at_115) rfl ?_
              refine XS.iconst X362.here hx rfl (hb hby at_116) ?_
              refine XS.iand X362.here hx rfl (hb hby at_117) rfl ?_
              exact k)
          by_cases hc373 : (u1 &&& (4 : Int32)) = (0 : Int32)
          · -- hc373: True
            have pre374 : Go p.tables e below (s₁.setTop (entryFrame m #[(.int u0), (.int u1), (.int u2), (.int u3), (.int u4)] maxLocals)) T362 (mkF m 134 #[.val (.int u0), .val (.int u1), .val (.int u2), .val (.int u3), .val (.int u4), .val (.ref b2), .val (.ref b15), .val (.ref b37), .val (.int (2 : Int32)), .val (.int (2 : Int32)), .val (.int (0 : Int32)), .val (.int (1 : Int32)), .unset, .unset] []) := fun t k => pre372 t (by
                refine XS.ifYes X362.here hx rfl (pc0 := 118) (pc' := 134) rfl (hb hby at_118) rfl ((if0 _ _).trans (teq hc373).1) (by decide) (by decide) ?_
                exact k)
            exact ⟨T362, _, h362, (2 : Int32), (2 : Int32), (0 : Int32), (1 : Int32), true, false, false, z0356, z1356, z2356, z3356, z4356, z5356, X362, e362, N362, f363, f365, f366, f367, f368, f369, f364, f370, f371, fa362, po356_0, pre374⟩
          · -- hc373: False
            have pre375 : Go p.tables e below (s₁.setTop (entryFrame m #[(.int u0), (.int u1), (.int u2), (.int u3), (.int u4)] maxLocals)) T362 (mkF m 125 #[.val (.int u0), .val (.int u1), .val (.int u2), .val (.int u3), .val (.int u4), .val (.ref b2), .val (.ref b15), .val (.ref b37), .val (.int (2 : Int32)), .val (.int (2 : Int32)), .val (.int (0 : Int32)), .val (.int (1 : Int32)), .unset, .unset] [(.int (1 : Int32)), (.ref b15)]) := fun t k => pre372 t (by
                refine XS.ifNo X362.here hx rfl (hb hby at_118) rfl ((if0 _ _).trans (feq hc373).1) ?_
                refine XS.aload X362.here hx rfl (hb hby at_121) rfl rfl ?_
                refine XS.iload X362.here hx rfl (hb hby at_123) rfl ?_
                exact k)
            obtain ⟨cq376, kq376, q376a, q376b, q376c⟩ := isOf hZ e362 f365
            obtain ⟨_, _, ⟨T376, L376, k376, n376⟩, -, X376, ⟨Lc376, hQ376, l376, y376, z376⟩, st376⟩ := X362.virtualBack hx (y := (⟨"com/example/octopoll/octopoll/PageHeap", "add", "(I)V"⟩ : MethodName)) (z := (⟨"com/example/octopoll/octopoll/PageHeap", "add", "(I)V"⟩ : MethodName)) hown (mvT hZ (hw _ (List.mem_of_getElem? (i := 23) rfl))) (mvT hZ (hw _ (List.mem_of_getElem? (i := 24) rfl))) (notFace_of_selects (args := #[]) (mvT hZ (hw _ (List.mem_of_getElem? (i := 26) rfl)))) (mvT hZ (hw _ (List.mem_of_getElem? (i := 26) rfl))) (mvT hZ (hw _ (List.mem_of_getElem? (i := 25) rfl))) (by decide) (backOf (W := 0) (rm_add1 l Z av0 hw [] b15 b2 ha25 pa25 k2 kh25 kp25 (FP.i2d (u0 &&& (3 : Int32))) (FP.i2d ((u0 >>> ((2 : Int32) &&& 31)) &&& (3 : Int32))) (FP.i2d ((u0 >>> ((4 : Int32) &&& 31)) &&& (3 : Int32))) z0356 z1356 z2356 z3356 z4356 z5356 true false h362 n0 f363 f365 f366 f367 f368 f369 f364 f370 f371 g17 gha25 gpa25 ne27 ne30 po25_0 ne16.symm ne26 ne29 po356_0) hZ (hw _ (List.mem_of_getElem? (i := 27) rfl)) (hw _ (List.mem_of_getElem? (i := 3) rfl)) (by decide) (by decide)) q376a q376c (g := (mkF m 125 #[.val (.int u0), .val (.int u1), .val (.int u2), .val (.int u3), .val (.int u4), .val (.ref b2), .val (.ref b15), .val (.ref b37), .val (.int (2 : Int32)), .val (.int (2 : Int32)), .val (.int (0 : Int32)), .val (.int (1 : Int32)), .unset, .unset] [(.int (1 : Int32)), (.ref b15)])) rfl (by rw [hml]; rfl) (Steps.refl _) (argsL := [(.int (1 : Int32))]) (rest := []) (lenOf pd_2 rfl) rfl (by show 2 * 0 + _ ≤ _; exact Nat.le_of_eq rfl) (hb hby at_125) (fun _ _ => ⟨rfl, e362, (by decide : 5 + 0 ≤ _), (by decide : 16 + 0 ≤ _)⟩)
            dsimp only [Pt.U, Pt.locs, Pt.cells, Pt.slots] at X376 l376 y376 z376 st376 hQ376
            subst l376 y376 z376
            obtain ⟨z0376, z1376, z2376, z3376, z4376, z5376, hv376, N376q, K376, fo376_0, fo376_1, fo376_2, fo376_3, fo376_4, fo376_5, fo376_6, po376_0⟩ := hQ376
            have f377 := Nat.le_trans f363 K376.1
            have f378 := f364.keep K376 (ninS ne16 (ninS ne26 (ninS ne29 nin0)))
            have f379 := f365.keep K376
            have f380 := fa362.keep K376 (ninS ne39.symm (ninS ne40.symm (ninS ne41.symm nin0)))
            subst hv376
            have N376 := Fr.app N362 N376q
            have pre376 : Go p.tables e below (s₁.setTop (entryFrame m #[(.int u0), (.int u1), (.int u2), (.int u3), (.int u4)] maxLocals)) T376 (mkF m 128 #[.val (.int u0), .val (.int u1), .val (.int u2), .val (.int u3), .val (.int u4), .val (.ref b2), .val (.ref b15), .val (.ref b37), .val (.int (2 : Int32)), .val (.int (2 : Int32)), .val (.int (0 : Int32)), .val (.int (1 : Int32)), .unset, .unset] []) := fun t k => pre375 t (st376.trans k)
            have pre381 : Go p.tables e below (s₁.setTop (entryFrame m #[(.int u0), (.int u1), (.int u2), (.int u3), (.int u4)] maxLocals)) T376 (mkF m 133 #[.val (.int u0), .val (.int u1), .val (.int u2), .val (.int u3), .val (.int u4), .val (.ref b2), .val (.ref b15), .val (.ref b37), .val (.int (2 : Int32)), .val (.int (2 : Int32)), .val (.int (0 : Int32)), .val (.int (1 : Int32)), .unset, .unset] [(.int (1 : Int32)), (.int (1 : Int32)), (.ref b37)]) := fun t k => pre376 t (by
                refine XS.aload X376.here hx rfl (hb hby at_128) rfl rfl ?_
                refine XS.iload X376.here hx rfl (hb hby at_130) rfl ?_
                refine XS.iconst X376.here hx rfl (hb hby at_132) ?_
                exact k)
            obtain ⟨c382, Ar382, q382, S382, M382, H382, G382⟩ := (id f380)
            have hin382 : ¬ ((1 : Int32) < 0 ∨ c382.slots.size ≤ ((1 : Int32)).toNatClampNeg) := inb_of S382 ⟨by decide, by decide⟩
            obtain ⟨T382, h382, X382, e382, W382, st382⟩ := stZ X376 hx hZ rfl Ar382 (j := (1 : Int32)) hin382 (g := (mkF m 133 #[.val (.int u0), .val (.int u1), .val (.int u2), .val (.int u3), .val (.int u4), .val (.ref b2), .val (.ref b15), .val (.ref b37), .val (.int (2 : Int32)), .val (.int (2 : Int32)), .val (.int (0 : Int32)), .val (.int (1 : Int32)), .unset, .unset] [(.int (1 : Int32)), (.int (1 : Int32)), (.ref b37)])) rfl rfl (hb hby at_133)
            have fa382 : Arv Z h382 b37 k37 .boolean (3 : Int32) [(.int (1 : Int32)), (.int (1 : Int32)), (.int (0 : Int32))] (.int (0 : Int32)) := Arv.set Ar382 q382 S382 M382 H382 G382 (fits_nar_bool _) W382 1 rfl (Nat.le_of_ble_eq_true rfl)
            have N382 := Fr.snoc X382 N376 g42
            have f383 : n0 ≤ h382.size := Nat.le_trans f377 (Keep.of_wr W382).1
            have f384 : Arv Z h382 b2 k2 .double (3 : Int32) [(.double (FP.i2d (u0 &&& (3 : Int32)))), (.double (FP.i2d ((u0 >>> ((2 : Int32) &&& 31)) &&& (3 : Int32)))), (.double (FP.i2d ((u0 >>> ((4 : Int32) &&& 31)) &&& (3 : Int32))))] (.double 0) := f378.other W382 ne38
            have f385 : Exa Z h382 b15 "com/example/octopoll/octopoll/PageHeap" := fo376_0.wr W382
            have f386 : Fld Z h382 b15 "com/example/octopoll/octopoll/PageHeap" "key" "[D" (.ref b2) := fo376_1.other W382 (Or.inl ne39)
            have f387 : Fld Z h382 b15 "com/example/octopoll/octopoll/PageHeap" "heap" "[I" (.ref ha25) := fo376_2.other W382 (Or.inl ne39)
            have f388 : Fld Z h382 b15 "com/example/octopoll/octopoll/PageHeap" "position" "[I" (.ref pa25) := fo376_3.other W382 (Or.inl ne39)
            have f389 : Fld Z h382 b15 "com/example/octopoll/octopoll/PageHeap" "size" "I" (.int (2 : Int32)) := fo376_4.other W382 (Or.inl ne39)
            have f390 : Arv Z h382 ha25 kh25 .int (3 : Int32) [(.int z0376), (.int z1376), (.int z2376)] (.int (0 : Int32)) := fo376_5.other W382 ne40
            have f391 : Arv Z h382 pa25 kp25 .int (3 : Int32) [(.int z3376), (.int z4376), (.int z5376)] (.int (0 : Int32)) := fo376_6.other W382 ne41
            have pre382 : Go p.tables e below (s₁.setTop (entryFrame m #[(.int u0), (.int u1), (.int u2), (.int u3), (.int u4)] maxLocals)) T382 (mkF m 134 #[.val (.int u0), .val (.int u1), .val (.int u2), .val (.int u3), .val (.int u4), .val (.ref b2), .val (.ref b15), .val (.ref b37), .val (.int (2 : Int32)), .val (.int (2 : Int32)), .val (.int (0 : Int32)), .val (.int (1 : Int32)), .unset, .unset] []) := fun t k => pre381 t (st382 _ k)
            exact ⟨T382, _, h382, (2 : Int32), (2 : Int32), (0 : Int32), (1 : Int32), true, true, false, z0376, z1376, z2376, z3376, z4376, z5376, X382, e382, N382, f383, f385, f386, f387, f388, f389, f384, f390, f391, fa382, po376_0, pre382⟩
      · -- hc332: False
        have pre392 : Go p.tables e below (s₁.setTop (entryFrame m #[(.int u0), (.int u1), (.int u2), (.int u3), (.int u4)] maxLocals)) T37 (mkF m 87 #[.val (.int u0), .val (.int u1), .val (.int u2), .val (.int u3), .val (.int u4), .val (.ref b2), .val (.ref b15), .val (.ref b37), .val (.int (2 : Int32)), .val (.int (2 : Int32)), .val (.int (0 : Int32)), .val (.int (1 : Int32)), .unset, .unset] [(.int (2 : Int32)), (.ref b15)]) := fun t k => pre331 t (by
            refine XS.ifNo X37.here hx rfl (hb hby at_80) rfl ((if0 _ _).trans (feq hc332).1) ?_
            refine XS.aload X37.here hx rfl (hb hby at_83) rfl rfl ?_
            refine XS.iload X37.here hx rfl (hb hby at_85) rfl ?_
            exact k)
        obtain ⟨cq393, kq393, q393a, q393b, q393c⟩ := isOf hZ e37 f45
        obtain ⟨_, _, ⟨T393, L393, k393, n393⟩, -, X393, ⟨Lc393, hQ393, l393, y393, z393⟩, st393⟩ := X37.virtualBack hx (y := (⟨"com/example/octopoll/octopoll/PageHeap", "add", "(I)V"⟩ : MethodName)) (z := (⟨"com/example/octopoll/octopoll/PageHeap", "add", "(I)V"⟩ : MethodName)) hown (mvT hZ (hw _ (List.mem_of_getElem? (i := 23) rfl))) (mvT hZ (hw _ (List.mem_of_getElem? (i := 24) rfl))) (notFace_of_selects (args := #[]) (mvT hZ (hw _ (List.mem_of_getElem? (i := 26) rfl)))) (mvT hZ (hw _ (List.mem_of_getElem? (i := 26) rfl))) (mvT hZ (hw _ (List.mem_of_getElem? (i := 25) rfl))) (by decide) (backOf (W := 0) (rm_add2 l Z av0 hw [] b15 b2 ha25 pa25 k2 kh25 kp25 (FP.i2d (u0 &&& (3 : Int32))) (FP.i2d ((u0 >>> ((2 : Int32) &&& 31)) &&& (3 : Int32))) (FP.i2d ((u0 >>> ((4 : Int32) &&& 31)) &&& (3 : Int32))) (0 : Int32) (0 : Int32) (0 : Int32) (-1 : Int32) (-1 : Int32) (-1 : Int32) false false h37 n0 f43 f45 f46 f47 f48 f49 f44 f50 f51 g17 gha25 gpa25 ne27 ne30 po25_0 ne16.symm ne26 ne29 hS0) hZ (hw _ (List.mem_of_getElem? (i := 27) rfl)) (hw _ (List.mem_of_getElem? (i := 3) rfl)) (by decide) (by decide)) q393a q393c (g := (mkF m 87 #[.val (.int u0), .val (.int u1), .val (.int u2), .val (.int u3), .val (.int u4), .val (.ref b2), .val (.ref b15), .val (.ref b37), .val (.int (2 : Int32)), .val (.int (2 : Int32)), .val (.int (0 : Int32)), .val (.int (1 : Int32)), .unset, .unset] [(.int (2 : Int32)), (.ref b15)])) rfl (by rw [hml]; rfl) (Steps.refl _) (argsL := [(.int (2 : Int32))]) (rest := []) (lenOf pd_2 rfl) rfl (by show 2 * 0 + _ ≤ _; exact Nat.le_of_eq rfl) (hb hby at_87) (fun _ _ => ⟨rfl, e37, (by decide : 5 + 0 ≤ _), (by decide : 16 + 0 ≤ _)⟩)
        dsimp only [Pt.U, Pt.locs, Pt.cells, Pt.slots] at X393 l393 y393 z393 st393 hQ393
        subst l393 y393 z393
        obtain ⟨z0393, z1393, z2393, z3393, z4393, z5393, hv393, N393q, K393, fo393_0, fo393_1, fo393_2, fo393_3, fo393_4, fo393_5, fo393_6, po393_0⟩ := hQ393
        have f394 := Nat.le_trans f43 K393.1
        have f395 := f44.keep K393 (ninS ne16 (ninS ne26 (ninS ne29 nin0)))
        have f396 := f45.keep K393
        have f397 := f52.keep K393 (ninS ne39.symm (ninS ne40.symm (ninS ne41.symm nin0)))
        subst hv393
        have N393 := Fr.app N25 N393q
        have pre393 : Go p.tables e below (s₁.setTop (entryFrame m #[(.int u0), (.int u1), (.int u2), (.int u3), (.int u4)] maxLocals)) T393 (mkF m 90 #[.val (.int u0), .val (.int u1), .val (.int u2), .val (.int u3), .val (.int u4), .val (.ref b2), .val (.ref b15), .val (.ref b37), .val (.int (2 : Int32)), .val (.int (2 : Int32)), .val (.int (0 : Int32)), .val (.int (1 : Int32)), .unset, .unset] []) := fun t k => pre392 t (st393.trans k)
        have pre398 : Go p.tables e below (s₁.setTop (entryFrame m #[(.int u0), (.int u1), (.int u2), (.int u3), (.int u4)] maxLocals)) T393 (mkF m 95 #[.val (.int u0), .val (.int u1), .val (.int u2), .val (.int u3), .val (.int u4), .val (.ref b2), .val (.ref b15), .val (.ref b37), .val (.int (2 : Int32)), .val (.int (2 : Int32)), .val (.int (0 : Int32)), .val (.int (1 : Int32)), .unset, .unset] [(.int (1 : Int32)), (.int (2 : Int32)), (.ref b37)]) := fun t k => pre393 t (by
            refine XS.aload X393.here hx rfl (hb hby at_90) rfl rfl ?_
            refine XS.iload X393.here hx rfl (hb hby at_92) rfl ?_
            refine XS.iconst X393.here hx rfl (hb hby at_94) ?_
            exact k)
        obtain ⟨c399, Ar399, q399, S399, M399, H399, G399⟩ := (id f397)
        have hin399 : ¬ ((2 : Int32) < 0 ∨ c399.slots.size ≤ ((2 : Int32)).toNatClampNeg) := inb_of S399 ⟨by decide, by decide⟩
        obtain ⟨T399, h399, X399, e399, W399, st399⟩ := stZ X393 hx hZ rfl Ar399 (j := (2 : Int32)) hin399 (g := (mkF m 95 #[.val (.int u0), .val (.int u1), .val (.int u2), .val (.int u3), .val (.int u4), .val (.ref b2), .val (.ref b15), .val (.ref b37), .val (.int (2 : Int32)), .val (.int (2 : Int32)), .val (.int (0 : Int32)), .val (.int (1 : Int32)), .unset, .unset] [(.int (1 : Int32)), (.int (2 : Int32)), (.ref b37)])) rfl rfl (hb hby at_95)
        have fa399 : Arv Z h399 b37 k37 .boolean (3 : Int32) [(.int (0 : Int32)), (.int (0 : Int32)), (.int (1 : Int32))] (.int (0 : Int32)) := Arv.set Ar399 q399 S399 M399 H399 G399 (fits_nar_bool _) W399 2 rfl (Nat.le_of_ble_eq_true rfl)
        have N399 := Fr.snoc X399 N393 g42
        have f400 : n0 ≤ h399.size := Nat.le_trans f394 (Keep.of_wr W399).1
        have f401 : Arv Z h399 b2 k2 .double (3 : Int32) [(.double (FP.i2d (u0 &&& (3 : Int32)))), (.double (FP.i2d ((u0 >>> ((2 : Int32) &&& 31)) &&& (3 : Int32)))), (.double (FP.i2d ((u0 >>> ((4 : Int32) &&& 31)) &&& (3 : Int32))))] (.double 0) := f395.other W399 ne38
        have f402 : Exa Z h399 b15 "com/example/octopoll/octopoll/PageHeap" := fo393_0.wr W399
        have f403 : Fld Z h399 b15 "com/example/octopoll/octopoll/PageHeap" "key" "[D" (.ref b2) := fo393_1.other W399 (Or.inl ne39)
        have f404 : Fld Z h399 b15 "com/example/octopoll/octopoll/PageHeap" "heap" "[I" (.ref ha25) := fo393_2.other W399 (Or.inl ne39)
        have f405 : Fld Z h399 b15 "com/example/octopoll/octopoll/PageHeap" "position" "[I" (.ref pa25) := fo393_3.other W399 (Or.inl ne39)
        have f406 : Fld Z h399 b15 "com/example/octopoll/octopoll/PageHeap" "size" "I" (.int (1 : Int32)) := fo393_4.other W399 (Or.inl ne39)
        have f407 : Arv Z h399 ha25 kh25 .int (3 : Int32) [(.int z0393), (.int z1393), (.int z2393)] (.int (0 : Int32)) := fo393_5.other W399 ne40
        have f408 : Arv Z h399 pa25 kp25 .int (3 : Int32) [(.int z3393), (.int z4393), (.int z5393)] (.int (0 : Int32)) := fo393_6.other W399 ne41
        have pre399 : Go p.tables e below (s₁.setTop (entryFrame m #[(.int u0), (.int u1), (.int u2), (.int u3), (.int u4)] maxLocals)) T399 (mkF m 96 #[.val (.int u0), .val (.int u1), .val (.int u2), .val (.int u3), .val (.int u4), .val (.ref b2), .val (.ref b15), .val (.ref b37), .val (.int (2 : Int32)), .val (.int (2 : Int32)), .val (.int (0 : Int32)), .val (.int (1 : Int32)), .unset, .unset] []) := fun t k => pre398 t (st399 _ k)
        have pre409 : Go p.tables e below (s₁.setTop (entryFrame m #[(.int u0), (.int u1), (.int u2), (.int u3), (.int u4)] maxLocals)) T399 (mkF m 99 #[.val (.int u0), .val (.int u1), .val (.int u2), .val (.int u3), .val (.int u4), .val (.ref b2), .val (.ref b15), .val (.ref b37), .val (.int (2 : Int32)), .val (.int (2 : Int32)), .val (.int (0 : Int32)), .val (.int (1 : Int32)), .unset, .unset] [(.int (u1 &&& (2 : Int32)))]) := fun t k => pre399 t (by
            refine XS.iloadN X399.here hx rfl (hb hby at_96) rfl ?_
            refine XS.iconst X399.here hx rfl (hb hby at_97) ?_
            refine XS.iand X399.here hx rfl (hb hby at_98) rfl ?_
            exact k)
        by_cases hc410 : (u1 &&& (2 : Int32)) = (0 : Int32)
        · -- hc410: True
          have pre411 : Go p.tables e below (s₁.setTop (entryFrame m #[(.int u0), (.int u1), (.int u2), (.int u3), (.int u4)] maxLocals)) T399 (mkF m 118 #[.val (.int u0), .val (.int u1), .val (.int u2), .val (.int u3), .val (.int u4), .val (.ref b2), .val (.ref b15), .val (.ref b37), .val (.int (2 : Int32)), .val (.int (2 : Int32)), .val (.int (0 : Int32)), .val (.int (1 : Int32)), .unset, .unset] [(.int (u1 &&& (4 : Int32)))]) := fun t k => pre409 t (by
              refine XS.ifYes X399.here hx rfl (pc0 := 99) (pc' := 115) rfl (hb hby at_99) rfl ((if0 _ _).trans (teq hc410).1) (by decide) (by decide) ?_
              refine XS.iloadN X399.here hx rfl (hb hby at_115) rfl ?_
              refine XS.iconst X399.here hx rfl (hb hby at_116) ?_
              refine XS.iand X399.here hx rfl (hb hby at_117) rfl ?_
              exact k)
          by_cases hc412 : (u1 &&& (4 : Int32)) = (0 : Int32)
          · -- hc412: True
            have pre413 : Go p.tables e below (s₁.setTop (entryFrame m #[(.int u0), (.int u1), (.int u2), (.int u3), (.int u4)] maxLocals)) T399 (mkF m 134 #[.val (.int u0), .val (.int u1), .val (.int u2), .val (.int u3), .val (.int u4), .val (.ref b2), .val (.ref b15), .val (.ref b37), .val (.int (2 : Int32)), .val (.int (2 : Int32)), .val (.int (0 : Int32)), .val (.int (1 : Int32)), .unset, .unset] []) := fun t k => pre411 t (by
                refine XS.ifYes X399.here hx rfl (pc0 := 118) (pc' := 134) rfl (hb hby at_118) rfl ((if0 _ _).trans (teq hc412).1) (by decide) (by decide) ?_
                exact k)
            exact ⟨T399, _, h399, (2 : Int32), (2 : Int32), (0 : Int32), (1 : Int32), false, false, true, z0393, z1393, z2393, z3393, z4393, z5393, X399, e399, N399, f400, f402, f403, f404, f405, f406, f401, f407, f408, fa399, po393_0, pre413⟩
          · -- hc412: False
            have pre414 : Go p.tables e below (s₁.setTop (entryFrame m #[(.int u0), (.int u1), (.int u2), (.int u3), (.int u4)] maxLocals)) T399 (mkF m 125 #[.val (.int u0), .val (.int u1), .val (.int u2), .val (.int u3), .val (.int u4), .val (.ref b2), .val (.ref b15), .val (.ref b37), .val (.int (2 : Int32)), .val (.int (2 : Int32)), .val (.int (0 : Int32)), .val (.int (1 : Int32)), .unset, .unset] [(.int (1 : Int32)), (.ref b15)]) := fun t k => pre411 t (by
                refine XS.ifNo X399.here hx rfl (hb hby at_118) rfl ((if0 _ _).trans (feq hc412).1) ?_
                refine XS.aload X399.here hx rfl (hb hby at_121) rfl rfl ?_
                refine XS.iload X399.here hx rfl (hb hby at_123) rfl ?_
                exact k)
            obtain ⟨cq415, kq415, q415a, q415b, q415c⟩ := isOf hZ e399 f402
            obtain ⟨_, _, ⟨T415, L415, k415, n415⟩, -, X415, ⟨Lc415, hQ415, l415, y415, z415⟩, st415⟩ := X399.virtualBack hx (y := (⟨"com/example/octopoll/octopoll/PageHeap", "add", "(I)V"⟩ : MethodName)) (z := (⟨"com/example/octopoll/octopoll/PageHeap", "add", "(I)V"⟩ : MethodName)) hown (mvT hZ (hw _ (List.mem_of_getElem? (i := 23) rfl))) (mvT hZ (hw _ (List.mem_of_getElem? (i := 24) rfl))) (notFace_of_selects (args := #[]) (mvT hZ (hw _ (List.mem_of_getElem? (i := 26) rfl)))) (mvT hZ (hw _ (List.mem_of_getElem? (i := 26) rfl))) (mvT hZ (hw _ (List.mem_of_getElem? (i := 25) rfl))) (by decide) (backOf (W := 0) (rm_add1 l Z av0 hw [] b15 b2 ha25 pa25 k2 kh25 kp25 (FP.i2d (u0 &&& (3 : Int32))) (FP.i2d ((u0 >>> ((2 : Int32) &&& 31)) &&& (3 : Int32))) (FP.i2d ((u0 >>> ((4 : Int32) &&& 31)) &&& (3 : Int32))) z0393 z1393 z2393 z3393 z4393 z5393 false true h399 n0 f400 f402 f403 f404 f405 f406 f401 f407 f408 g17 gha25 gpa25 ne27 ne30 po25_0 ne16.symm ne26 ne29 po393_0) hZ (hw _ (List.mem_of_getElem? (i := 27) rfl)) (hw _ (List.mem_of_getElem? (i := 3) rfl)) (by decide) (by decide)) q415a q415c (g := (mkF m 125 #[.val (.int u0), .val (.int u1), .val (.int u2), .val (.int u3), .val (.int u4), .val (.ref b2), .val (.ref b15), .val (.ref b37), .val (.int (2 : Int32)), .val (.int (2 : Int32)), .val (.int (0 : Int32)), .val (.int (1 : Int32)), .unset, .unset] [(.int (1 : Int32)), (.ref b15)])) rfl (by rw [hml]; rfl) (Steps.refl _) (argsL := [(.int (1 : Int32))]) (rest := []) (lenOf pd_2 rfl) rfl (by show 2 * 0 + _ ≤ _; exact Nat.le_of_eq rfl) (hb hby at_125) (fun _ _ => ⟨rfl, e399, (by decide : 5 + 0 ≤ _), (by decide : 16 + 0 ≤ _)⟩)
            dsimp only [Pt.U, Pt.locs, Pt.cells, Pt.slots] at X415 l415 y415 z415 st415 hQ415
            subst l415 y415 z415
            obtain ⟨z0415, z1415, z2415, z3415, z4415, z5415, hv415, N415q, K415, fo415_0, fo415_1, fo415_2, fo415_3, fo415_4, fo415_5, fo415_6, po415_0⟩ := hQ415
            have f416 := Nat.le_trans f400 K415.1
            have f417 := f401.keep K415 (ninS ne16 (ninS ne26 (ninS ne29 nin0)))
            have f418 := f402.keep K415
            have f419 := fa399.keep K415 (ninS ne39.symm (ninS ne40.symm (ninS ne41.symm nin0)))
            subst hv415
            have N415 := Fr.app N399 N415q
            have pre415 : Go p.tables e below (s₁.setTop (entryFrame m #[(.int u0), (.int u1), (.int u2), (.int u3), (.int u4)] maxLocals)) T415 (mkF m 128 #[.val (.int u0), .val (.int u1), .val (.int u2), .val (.int u3), .val (.int u4), .val (.ref b2), .val (.ref b15), .val (.ref b37), .val (.int (2 : Int32)), .val (.int (2 : Int32)), .val (.int (0 : Int32)), .val (.int (1 : Int32)), .unset, .unset] []) := fun t k => pre414 t (st415.trans k)
            have pre420 : Go p.tables e below (s₁.setTop (entryFrame m #[(.int u0), (.int u1), (.int u2), (.int u3), (.int u4)] maxLocals)) T415 (mkF m 133 #[.val (.int u0), .val (.int u1), .val (.int u2), .val (.int u3), .val (.int u4), .val (.ref b2), .val (.ref b15), .val (.ref b37), .val (.int (2 : Int32)), .val (.int (2 : Int32)), .val (.int (0 : Int32)), .val (.int (1 : Int32)), .unset, .unset] [(.int (1 : Int32)), (.int (1 : Int32)), (.ref b37)]) := fun t k => pre415 t (by
                refine XS.aload X415.here hx rfl (hb hby at_128) rfl rfl ?_
                refine XS.iload X415.here hx rfl (hb hby at_130) rfl ?_
                refine XS.iconst X415.here hx rfl (hb hby at_132) ?_
                exact k)
            obtain ⟨c421, Ar421, q421, S421, M421, H421, G421⟩ := (id f419)
            have hin421 : ¬ ((1 : Int32) < 0 ∨ c421.slots.size ≤ ((1 : Int32)).toNatClampNeg) := inb_of S421 ⟨by decide, by decide⟩
            obtain ⟨T421, h421, X421, e421, W421, st421⟩ := stZ X415 hx hZ rfl Ar421 (j := (1 : Int32)) hin421 (g := (mkF m 133 #[.val (.int u0), .val (.int u1), .val (.int u2), .val (.int u3), .val (.int u4), .val (.ref b2), .val (.ref b15), .val (.ref b37), .val (.int (2 : Int32)), .val (.int (2 : Int32)), .val (.int (0 : Int32)), .val (.int (1 : Int32)), .unset, .unset] [(.int (1 : Int32)), (.int (1 : Int32)), (.ref b37)])) rfl rfl (hb hby at_133)
            have fa421 : Arv Z h421 b37 k37 .boolean (3 : Int32) [(.int (0 : Int32)), (.int (1 : Int32)), (.int (1 : Int32))] (.int (0 : Int32)) := Arv.set Ar421 q421 S421 M421 H421 G421 (fits_nar_bool _) W421 1 rfl (Nat.le_of_ble_eq_true rfl)
            have N421 := Fr.snoc X421 N415 g42
            have f422 : n0 ≤ h421.size := Nat.le_trans f416 (Keep.of_wr W421).1
            have f423 : Arv Z h421 b2 k2 .double (3 : Int32) [(.double (FP.i2d (u0 &&& (3 : Int32)))), (.double (FP.i2d ((u0 >>> ((2 : Int32) &&& 31)) &&& (3 : Int32)))), (.double (FP.i2d ((u0 >>> ((4 : Int32) &&& 31)) &&& (3 : Int32))))] (.double 0) := f417.other W421 ne38
            have f424 : Exa Z h421 b15 "com/example/octopoll/octopoll/PageHeap" := fo415_0.wr W421
            have f425 : Fld Z h421 b15 "com/example/octopoll/octopoll/PageHeap" "key" "[D" (.ref b2) := fo415_1.other W421 (Or.inl ne39)
            have f426 : Fld Z h421 b15 "com/example/octopoll/octopoll/PageHeap" "heap" "[I" (.ref ha25) := fo415_2.other W421 (Or.inl ne39)
            have f427 : Fld Z h421 b15 "com/example/octopoll/octopoll/PageHeap" "position" "[I" (.ref pa25) := fo415_3.other W421 (Or.inl ne39)
            have f428 : Fld Z h421 b15 "com/example/octopoll/octopoll/PageHeap" "size" "I" (.int (2 : Int32)) := fo415_4.other W421 (Or.inl ne39)
            have f429 : Arv Z h421 ha25 kh25 .int (3 : Int32) [(.int z0415), (.int z1415), (.int z2415)] (.int (0 : Int32)) := fo415_5.other W421 ne40
            have f430 : Arv Z h421 pa25 kp25 .int (3 : Int32) [(.int z3415), (.int z4415), (.int z5415)] (.int (0 : Int32)) := fo415_6.other W421 ne41
            have pre421 : Go p.tables e below (s₁.setTop (entryFrame m #[(.int u0), (.int u1), (.int u2), (.int u3), (.int u4)] maxLocals)) T421 (mkF m 134 #[.val (.int u0), .val (.int u1), .val (.int u2), .val (.int u3), .val (.int u4), .val (.ref b2), .val (.ref b15), .val (.ref b37), .val (.int (2 : Int32)), .val (.int (2 : Int32)), .val (.int (0 : Int32)), .val (.int (1 : Int32)), .unset, .unset] []) := fun t k => pre420 t (st421 _ k)
            exact ⟨T421, _, h421, (2 : Int32), (2 : Int32), (0 : Int32), (1 : Int32), false, true, true, z0415, z1415, z2415, z3415, z4415, z5415, X421, e421, N421, f422, f424, f425, f426, f427, f428, f423, f429, f430, fa421, po415_0, pre421⟩
        · -- hc410: False
          have pre431 : Go p.tables e below (s₁.setTop (entryFrame m #[(.int u0), (.int u1), (.int u2), (.int u3), (.int u4)] maxLocals)) T399 (mkF m 106 #[.val (.int u0), .val (.int u1), .val (.int u2), .val (.int u3), .val (.int u4), .val (.ref b2), .val (.ref b15), .val (.ref b37), .val (.int (2 : Int32)), .val (.int (2 : Int32)), .val (.int (0 : Int32)), .val (.int (1 : Int32)), .unset, .unset] [(.int (0 : Int32)), (.ref b15)]) := fun t k => pre409 t (by
              refine XS.ifNo X399.here hx rfl (hb hby at_99) rfl ((if0 _ _).trans (feq hc410).1) ?_
              refine XS.aload X399.here hx rfl (hb hby at_102) rfl rfl ?_
              refine XS.iload X399.here hx rfl (hb hby at_104) rfl ?_
              exact k)
          obtain ⟨cq432, kq432, q432a, q432b, q432c⟩ := isOf hZ e399 f402
          obtain ⟨_, _, ⟨T432, L432, k432, n432⟩, -, X432, ⟨Lc432, hQ432, l432, y432, z432⟩, st432⟩ := X399.virtualBack hx (y := (⟨"com/example/octopoll/octopoll/PageHeap", "add", "(I)V"⟩ : MethodName)) (z := (⟨"com/example/octopoll/octopoll/PageHeap", "add", "(I)V"⟩ : MethodName)) hown (mvT hZ (hw _ (List.mem_of_getElem? (i := 23) rfl))) (mvT hZ (hw _ (List.mem_of_getElem? (i := 24) rfl))) (notFace_of_selects (args := #[]) (mvT hZ (hw _ (List.mem_of_getElem? (i := 26) rfl)))) (mvT hZ (hw _ (List.mem_of_getElem? (i := 26) rfl))) (mvT hZ (hw _ (List.mem_of_getElem? (i := 25) rfl))) (by decide) (backOf (W := 0) (rm_add0 l Z av0 hw [] b15 b2 ha25 pa25 k2 kh25 kp25 (FP.i2d (u0 &&& (3 : Int32))) (FP.i2d ((u0 >>> ((2 : Int32) &&& 31)) &&& (3 : Int32))) (FP.i2d ((u0 >>> ((4 : Int32) &&& 31)) &&& (3 : Int32))) z0393 z1393 z2393 z3393 z4393 z5393 false true h399 n0 f400 f402 f403 f404 f405 f406 f401 f407 f408 g17 gha25 gpa25 ne27 ne30 po25_0 ne16.symm ne26 ne29 po393_0) hZ (hw _ (List.mem_of_getElem? (i := 27) rfl)) (hw _ (List.mem_of_getElem? (i := 3) rfl)) (by decide) (by decide)) q432a q432c (g := (mkF m 106 #[.val (.int u0), .val (.int u1), .val (.int u2), .val (.int u3), .val (.int u4), .val (.ref b2), .val (.ref b15), .val (.ref b37), .val (.int (2 : Int32)), .val (.int (2 : Int32)), .val (.int (0 : Int32)), .val (.int (1 : Int32)), .unset, .unset] [(.int (0 : Int32)), (.ref b15)])) rfl (by rw [hml]; rfl) (Steps.refl _) (argsL := [(.int (0 : Int32))]) (rest := []) (lenOf pd_2 rfl) rfl (by show 2 * 0 + _ ≤ _; exact Nat.le_of_eq rfl) (hb hby at_106) (fun _ _ => ⟨rfl, e399, (by decide : 5 + 0 ≤ _), (by decide : 16 + 0 ≤ _)⟩)
          dsimp only [Pt.U, Pt.locs, Pt.cells, Pt.slots] at X432 l432 y432 z432 st432 hQ432
          subst l432 y432 z432
          obtain ⟨z0432, z1432, z2432, z3432, z4432, z5432, hv432, N432q, K432, fo432_0, fo432_1, fo432_2, fo432_3, fo432_4, fo432_5, fo432_6, po432_0⟩ := hQ432
          have f433 := Nat.le_trans f400 K432.1
          have f434 := f401.keep K432 (ninS ne16 (ninS ne26 (ninS ne29 nin0)))
          have f435 := f402.keep K432
          have f436 := fa399.keep K432 (ninS ne39.symm (ninS ne40.symm (ninS ne41.symm nin0)))
          subst hv432
          have N432 := Fr.app N399 N432q
          have pre432 : Go p.tables e below (s₁.setTop (entryFrame m #[(.int u0), (.int u1), (.int u2), (.int u3), (.int u4)] maxLocals)) T432 (mkF m 109 #[.val (.int u0), .val (.int u1), .val (.int u2), .val (.int u3), .val (.int u4), .val (.ref b2), .val (.ref b15), .val (.ref b37), .val (.int (2 : Int32)), .val (.int (2 : Int32)), .val (.int (0 : Int32)), .val (.int (1 : Int32)), .unset, .unset] []) := fun t k => pre431 t (st432.trans k)
          have pre437 : Go p.tables e below (s₁.setTop (entryFrame m #[(.int u0), (.int u1), (.int u2), (.int u3), (.int u4)] maxLocals)) T432 (mkF m 114 #[.val (.int u0), .val (.int u1), .val (.int u2), .val (.int u3), .val (.int u4), .val (.ref b2), .val (.ref b15), .val (.ref b37), .val (.int (2 : Int32)), .val (.int (2 : Int32)), .val (.int (0 : Int32)), .val (.int (1 : Int32)), .unset, .unset] [(.int (1 : Int32)), (.int (0 : Int32)), (.ref b37)]) := fun t k => pre432 t (by
              refine XS.aload X432.here hx rfl (hb hby at_109) rfl rfl ?_
              refine XS.iload X432.here hx rfl (hb hby at_111) rfl ?_
              refine XS.iconst X432.here hx rfl (hb hby at_113) ?_
              exact k)
          obtain ⟨c438, Ar438, q438, S438, M438, H438, G438⟩ := (id f436)
          have hin438 : ¬ ((0 : Int32) < 0 ∨ c438.slots.size ≤ ((0 : Int32)).toNatClampNeg) := inb_of S438 ⟨by decide, by decide⟩
          obtain ⟨T438, h438, X438, e438, W438, st438⟩ := stZ X432 hx hZ rfl Ar438 (j := (0 : Int32)) hin438 (g := (mkF m 114 #[.val (.int u0), .val (.int u1), .val (.int u2), .val (.int u3), .val (.int u4), .val (.ref b2), .val (.ref b15), .val (.ref b37), .val (.int (2 : Int32)), .val (.int (2 : Int32)), .val (.int (0 : Int32)), .val (.int (1 : Int32)), .unset, .unset] [(.int (1 : Int32)), (.int (0 : Int32)), (.ref b37)])) rfl rfl (hb hby at_114)
          have fa438 : Arv Z h438 b37 k37 .boolean (3 : Int32) [(.int (1 : Int32)), (.int (0 : Int32)), (.int (1 : Int32))] (.int (0 : Int32)) := Arv.set Ar438 q438 S438 M438 H438 G438 (fits_nar_bool _) W438 0 rfl (Nat.le_of_ble_eq_true rfl)
          have N438 := Fr.snoc X438 N432 g42
          have f439 : n0 ≤ h438.size := Nat.le_trans f433 (Keep.of_wr W438).1
          have f440 : Arv Z h438 b2 k2 .double (3 : Int32) [(.double (FP.i2d (u0 &&& (3 : Int32)))), (.double (FP.i2d ((u0 >>> ((2 : Int32) &&& 31)) &&& (3 : Int32)))), (.double (FP.i2d ((u0 >>> ((4 : Int32) &&& 31)) &&& (3 : Int32))))] (.double 0) := f434.other W438 ne38
          have f441 : Exa Z h438 b15 "com/example/octopoll/octopoll/PageHeap" := fo432_0.wr W438
          have f442 : Fld Z h438 b15 "com/example/octopoll/octopoll/PageHeap" "key" "[D" (.ref b2) := fo432_1.other W438 (Or.inl ne39)
          have f443 : Fld Z h438 b15 "com/example/octopoll/octopoll/PageHeap" "heap" "[I" (.ref ha25) := fo432_2.other W438 (Or.inl ne39)
          have f444 : Fld Z h438 b15 "com/example/octopoll/octopoll/PageHeap" "position" "[I" (.ref pa25) := fo432_3.other W438 (Or.inl ne39)
          have f445 : Fld Z h438 b15 "com/example/octopoll/octopoll/PageHeap" "size" "I" (.int (2 : Int32)) := fo432_4.other W438 (Or.inl ne39)
          have f446 : Arv Z h438 ha25 kh25 .int (3 : Int32) [(.int z0432), (.int z1432), (.int z2432)] (.int (0 : Int32)) := fo432_5.other W438 ne40
          have f447 : Arv Z h438 pa25 kp25 .int (3 : Int32) [(.int z3432), (.int z4432), (.int z5432)] (.int (0 : Int32)) := fo432_6.other W438 ne41
          have pre438 : Go p.tables e below (s₁.setTop (entryFrame m #[(.int u0), (.int u1), (.int u2), (.int u3), (.int u4)] maxLocals)) T438 (mkF m 115 #[.val (.int u0), .val (.int u1), .val (.int u2), .val (.int u3), .val (.int u4), .val (.ref b2), .val (.ref b15), .val (.ref b37), .val (.int (2 : Int32)), .val (.int (2 : Int32)), .val (.int (0 : Int32)), .val (.int (1 : Int32)), .unset, .unset] []) := fun t k => pre437 t (st438 _ k)
          have pre448 : Go p.tables e below (s₁.setTop (entryFrame m #[(.int u0), (.int u1), (.int u2), (.int u3), (.int u4)] maxLocals)) T438 (mkF m 118 #[.val (.int u0), .val (.int u1), .val (.int u2), .val (.int u3), .val (.int u4), .val (.ref b2), .val (.ref b15), .val (.ref b37), .val (.int (2 : Int32)), .val (.int (2 : Int32)), .val (.int (0 : Int32)), .val (.int (1 : Int32)), .unset, .unset] [(.int (u1 &&& (4 : Int32)))]) := fun t k => pre438 t (by
              refine XS.iloadN X438.here hx rfl (hb hby at_115) rfl ?_
              refine XS.iconst X438.here hx rfl (hb hby at_116) ?_
              refine XS.iand X438.here hx rfl (hb hby at_117) rfl ?_
              exact k)
          by_cases hc449 : (u1 &&& (4 : Int32)) = (0 : Int32)
          · -- hc449: True
            have pre450 : Go p.tables e below (s₁.setTop (entryFrame m #[(.int u0), (.int u1), (.int u2), (.int u3), (.int u4)] maxLocals)) T438 (mkF m 134 #[.val (.int u0), .val (.int u1), .val (.int u2), .val (.int u3), .val (.int u4), .val (.ref b2), .val (.ref b15), .val (.ref b37), .val (.int (2 : Int32)), .val (.int (2 : Int32)), .val (.int (0 : Int32)), .val (.int (1 : Int32)), .unset, .unset] []) := fun t k => pre448 t (by
                refine XS.ifYes X438.here hx rfl (pc0 := 118) (pc' := 134) rfl (hb hby at_118) rfl ((if0 _ _).trans (teq hc449).1) (by decide) (by decide) ?_
                exact k)
            exact ⟨T438, _, h438, (2 : Int32), (2 : Int32), (0 : Int32), (1 : Int32), true, false, true, z0432, z1432, z2432, z3432, z4432, z5432, X438, e438, N438, f439, f441, f442, f443, f444, f445, f440, f446, f447, fa438, po432_0, pre450⟩
          · -- hc449: False
            have pre451 : Go p.tables e below (s₁.setTop (entryFrame m #[(.int u0), (.int u1), (.int u2), (.int u3), (.int u4)] maxLocals)) T438 (mkF m 125 #[.val (.int u0), .val (.int u1), .val (.int u2), .val (.int u3), .val (.int u4), .val (.ref b2), .val (.ref b15), .val (.ref b37), .val (.int (2 : Int32)), .val (.int (2 : Int32)), .val (.int (0 : Int32)), .val (.int (1 : Int32)), .unset, .unset] [(.int (1 : Int32)), (.ref b15)]) := fun t k => pre448 t (by
                refine XS.ifNo X438.here hx rfl (hb hby at_118) rfl ((if0 _ _).trans (feq hc449).1) ?_
                refine XS.aload X438.here hx rfl (hb hby at_121) rfl rfl ?_
                refine XS.iload X438.here hx rfl (hb hby at_123) rfl ?_
                exact k)
            obtain ⟨cq452, kq452, q452a, q452b, q452c⟩ := isOf hZ e438 f441
            obtain ⟨_, _, ⟨T452, L452, k452, n452⟩, -, X452, ⟨Lc452, hQ452, l452, y452, z452⟩, st452⟩ := X438.virtualBack hx (y := (⟨"com/example/octopoll/octopoll/PageHeap", "add", "(I)V"⟩ : MethodName)) (z := (⟨"com/example/octopoll/octopoll/PageHeap", "add", "(I)V"⟩ : MethodName)) hown (mvT hZ (hw _ (List.mem_of_getElem? (i := 23) rfl))) (mvT hZ (hw _ (List.mem_of_getElem? (i := 24) rfl))) (notFace_of_selects (args := #[]) (mvT hZ (hw _ (List.mem_of_getElem? (i := 26) rfl)))) (mvT hZ (hw _ (List.mem_of_getElem? (i := 26) rfl))) (mvT hZ (hw _ (List.mem_of_getElem? (i := 25) rfl))) (by decide) (backOf (W := 0) (rm_add1 l Z av0 hw [] b15 b2 ha25 pa25 k2 kh25 kp25 (FP.i2d (u0 &&& (3 : Int32))) (FP.i2d ((u0 >>> ((2 : Int32) &&& 31)) &&& (3 : Int32))) (FP.i2d ((u0 >>> ((4 : Int32) &&& 31)) &&& (3 : Int32))) z0432 z1432 z2432 z3432 z4432 z5432 true true h438 n0 f439 f441 f442 f443 f444 f445 f440 f446 f447 g17 gha25 gpa25 ne27 ne30 po25_0 ne16.symm ne26 ne29 po432_0) hZ (hw _ (List.mem_of_getElem? (i := 27) rfl)) (hw _ (List.mem_of_getElem? (i := 3) rfl)) (by decide) (by decide)) q452a q452c (g := (mkF m 125 #[.val (.int u0), .val (.int u1), .val (.int u2), .val (.int u3), .val (.int u4), .val (.ref b2), .val (.ref b15), .val (.ref b37), .val (.int (2 : Int32)), .val (.int (2 : Int32)), .val (.int (0 : Int32)), .val (.int (1 : Int32)), .unset, .unset] [(.int (1 : Int32)), (.ref b15)])) rfl (by rw [hml]; rfl) (Steps.refl _) (argsL := [(.int (1 : Int32))]) (rest := []) (lenOf pd_2 rfl) rfl (by show 2 * 0 + _ ≤ _; exact Nat.le_of_eq rfl) (hb hby at_125) (fun _ _ => ⟨rfl, e438, (by decide : 5 + 0 ≤ _), (by decide : 16 + 0 ≤ _)⟩)
            dsimp only [Pt.U, Pt.locs, Pt.cells, Pt.slots] at X452 l452 y452 z452 st452 hQ452
            subst l452 y452 z452
            obtain ⟨z0452, z1452, z2452, z3452, z4452, z5452, hv452, N452q, K452, fo452_0, fo452_1, fo452_2, fo452_3, fo452_4, fo452_5, fo452_6, po452_0⟩ := hQ452
            have f453 := Nat.le_trans f439 K452.1
            have f454 := f440.keep K452 (ninS ne16 (ninS ne26 (ninS ne29 nin0)))
            have f455 := f441.keep K452
            have f456 := fa438.keep K452 (ninS ne39.symm (ninS ne40.symm (ninS ne41.symm nin0)))
            subst hv452
            have N452 := Fr.app N438 N452q
            have pre452 : Go p.tables e below (s₁.setTop (entryFrame m #[(.int u0), (.int u1), (.int u2), (.int u3), (.int u4)] maxLocals)) T452 (mkF m 128 #[.val (.int u0), .val (.int u1), .val (.int u2), .val (.int u3), .val (.int u4), .val (.ref b2), .val (.ref b15), .val (.ref b37), .val (.int (2 : Int32)), .val (.int (2 : Int32)), .val (.int (0 : Int32)), .val (.int (1 : Int32)), .unset, .unset] []) := fun t k => pre451 t (st452.trans k)
            have pre457 : Go p.tables e below (s₁.setTop (entryFrame m #[(.int u0), (.int u1), (.int u2), (.int u3), (.int u4)] maxLocals)) T452 (mkF m 133 #[.val (.int u0), .val (.int u1), .val (.int u2), .val (.int u3), .val (.int u4), .val (.ref b2), .val (.ref b15), .val (.ref b37), .val (.int (2 : Int32)), .val (.int (2 : Int32)), .val (.int (0 : Int32)), .val (.int (1 : Int32)), .unset, .unset] [(.int (1 : Int32)), (.int (1 : Int32)), (.ref b37)]) := fun t k => pre452 t (by
                refine XS.aload X452.here hx rfl (hb hby at_128) rfl rfl ?_
                refine XS.iload X452.here hx rfl (hb hby at_130) rfl ?_
                refine XS.iconst X452.here hx rfl (hb hby at_132) ?_
                exact k)
            obtain ⟨c458, Ar458, q458, S458, M458, H458, G458⟩ := (id f456)
            have hin458 : ¬ ((1 : Int32) < 0 ∨ c458.slots.size ≤ ((1 : Int32)).toNatClampNeg) := inb_of S458 ⟨by decide, by decide⟩
            obtain ⟨T458, h458, X458, e458, W458, st458⟩ := stZ X452 hx hZ rfl Ar458 (j := (1 : Int32)) hin458 (g := (mkF m 133 #[.val (.int u0), .val (.int u1), .val (.int u2), .val (.int u3), .val (.int u4), .val (.ref b2), .val (.ref b15), .val (.ref b37), .val (.int (2 : Int32)), .val (.int (2 : Int32)), .val (.int (0 : Int32)), .val (.int (1 : Int32)), .unset, .unset] [(.int (1 : Int32)), (.int (1 : Int32)), (.ref b37)])) rfl rfl (hb hby at_133)
            have fa458 : Arv Z h458 b37 k37 .boolean (3 : Int32) [(.int (1 : Int32)), (.int (1 : Int32)), (.int (1 : Int32))] (.int (0 : Int32)) := Arv.set Ar458 q458 S458 M458 H458 G458 (fits_nar_bool _) W458 1 rfl (Nat.le_of_ble_eq_true rfl)
            have N458 := Fr.snoc X458 N452 g42
            have f459 : n0 ≤ h458.size := Nat.le_trans f453 (Keep.of_wr W458).1
            have f460 : Arv Z h458 b2 k2 .double (3 : Int32) [(.double (FP.i2d (u0 &&& (3 : Int32)))), (.double (FP.i2d ((u0 >>> ((2 : Int32) &&& 31)) &&& (3 : Int32)))), (.double (FP.i2d ((u0 >>> ((4 : Int32) &&& 31)) &&& (3 : Int32))))] (.double 0) := f454.other W458 ne38
            have f461 : Exa Z h458 b15 "com/example/octopoll/octopoll/PageHeap" := fo452_0.wr W458
            have f462 : Fld Z h458 b15 "com/example/octopoll/octopoll/PageHeap" "key" "[D" (.ref b2) := fo452_1.other W458 (Or.inl ne39)
            have f463 : Fld Z h458 b15 "com/example/octopoll/octopoll/PageHeap" "heap" "[I" (.ref ha25) := fo452_2.other W458 (Or.inl ne39)
            have f464 : Fld Z h458 b15 "com/example/octopoll/octopoll/PageHeap" "position" "[I" (.ref pa25) := fo452_3.other W458 (Or.inl ne39)
            have f465 : Fld Z h458 b15 "com/example/octopoll/octopoll/PageHeap" "size" "I" (.int (3 : Int32)) := fo452_4.other W458 (Or.inl ne39)
            have f466 : Arv Z h458 ha25 kh25 .int (3 : Int32) [(.int z0452), (.int z1452), (.int z2452)] (.int (0 : Int32)) := fo452_5.other W458 ne40
            have f467 : Arv Z h458 pa25 kp25 .int (3 : Int32) [(.int z3452), (.int z4452), (.int z5452)] (.int (0 : Int32)) := fo452_6.other W458 ne41
            have pre458 : Go p.tables e below (s₁.setTop (entryFrame m #[(.int u0), (.int u1), (.int u2), (.int u3), (.int u4)] maxLocals)) T458 (mkF m 134 #[.val (.int u0), .val (.int u1), .val (.int u2), .val (.int u3), .val (.int u4), .val (.ref b2), .val (.ref b15), .val (.ref b37), .val (.int (2 : Int32)), .val (.int (2 : Int32)), .val (.int (0 : Int32)), .val (.int (1 : Int32)), .unset, .unset] []) := fun t k => pre457 t (st458 _ k)
            exact ⟨T458, _, h458, (2 : Int32), (2 : Int32), (0 : Int32), (1 : Int32), true, true, true, z0452, z1452, z2452, z3452, z4452, z5452, X458, e458, N458, f459, f461, f462, f463, f464, f465, f460, f466, f467, fa458, po452_0, pre458⟩
  obtain ⟨w468, hw468⟩ : ∃ z : Int32, z = ((u3 &&& (2147483647 : Int32)) % (3 : Int32)) := ⟨_, rfl⟩
  have pre469 : Go p.tables e below (s₁.setTop (entryFrame m #[(.int u0), (.int u1), (.int u2), (.int u3), (.int u4)] maxLocals)) T55 (mkF m 142 #[.val (.int u0), .val (.int u1), .val (.int u2), .val (.int u3), .val (.int u4), .val (.ref b2), .val (.ref b15), .val (.ref b37), .val (.int q8_55), .val (.int q9_55), .val (.int q10_55), .val (.int q11_55), .val (.int w468), .unset] []) := fun t k => pre55 t (by
      refine XS.iloadN X55.here hx rfl (hb hby at_134) rfl ?_
      refine X55.ldcInt hx hown (mvT hZ (hw _ (List.mem_of_getElem? (i := 22) rfl))) (g := (mkF m 135 #[.val (.int u0), .val (.int u1), .val (.int u2), .val (.int u3), .val (.int u4), .val (.ref b2), .val (.ref b15), .val (.ref b37), .val (.int q8_55), .val (.int q9_55), .val (.int q10_55), .val (.int q11_55), .unset, .unset] [(.int u3)])) rfl (hb hby at_135) _ ?_
      show Steps p.tables e below (T55.setTop (mkF m 137 #[.val (.int u0), .val (.int u1), .val (.int u2), .val (.int u3), .val (.int u4), .val (.ref b2), .val (.ref b15), .val (.ref b37), .val (.int q8_55), .val (.int q9_55), .val (.int q10_55), .val (.int q11_55), .unset, .unset] [(.int (2147483647 : Int32)), (.int u3)])) _
      refine XS.iand X55.here hx rfl (hb hby at_137) rfl ?_
      refine XS.iconst X55.here hx rfl (hb hby at_138) ?_
      refine iremM X55 hx (g := (mkF m 139 #[.val (.int u0), .val (.int u1), .val (.int u2), .val (.int u3), .val (.int u4), .val (.ref b2), .val (.ref b15), .val (.ref b37), .val (.int q8_55), .val (.int q9_55), .val (.int q10_55), .val (.int q11_55), .unset, .unset] [(.int (3 : Int32)), (.int (u3 &&& (2147483647 : Int32)))])) rfl (hb hby at_139) rfl (by decide) ?_
      show Steps p.tables e below (T55.setTop (mkF m 140 #[.val (.int u0), .val (.int u1), .val (.int u2), .val (.int u3), .val (.int u4), .val (.ref b2), .val (.ref b15), .val (.ref b37), .val (.int q8_55), .val (.int q9_55), .val (.int q10_55), .val (.int q11_55), .unset, .unset] [(.int ((u3 &&& (2147483647 : Int32)) % (3 : Int32)))])) _
      refine XS.istore X55.here hx rfl (x := w468) (rest := []) (hb hby at_140) (by subst hw468; rfl) (l' := #[.val (.int u0), .val (.int u1), .val (.int u2), .val (.int u3), .val (.int u4), .val (.ref b2), .val (.ref b15), .val (.ref b37), .val (.int q8_55), .val (.int q9_55), .val (.int q10_55), .val (.int q11_55), .val (.int w468), .unset]) rfl ?_
      exact k)
  obtain ⟨T470, L470, h470, b0_470, b1_470, b2_470, z0_470, z1_470, z2_470, z3_470, z4_470, z5_470, X470, e470, N470, fm470_0, fm470_1, fm470_2, fm470_3, fm470_4, fm470_5, fm470_6, fm470_7, fm470_8, fm470_9, pm470_0, pre470⟩ : ∃ (T470 : State) (L470 : List Loc) (h470 : Heap) (b0_470 : Bool) (b1_470 : Bool) (b2_470 : Bool) (z0_470 : Int32) (z1_470 : Int32) (z2_470 : Int32) (z3_470 : Int32) (z4_470 : Int32) (z5_470 : Int32), Stand p l e room_1 s m #[(.int u0), (.int u1), (.int u2), (.int u3), (.int u4)] below meth c T470 L470 5 16 ∧ T470.heap = h470 ∧ Fr n0 L470 ∧ n0 ≤ h470.size ∧ Exa Z h470 b15 "com/example/octopoll/octopoll/PageHeap" ∧ Fld Z h470 b15 "com/example/octopoll/octopoll/PageHeap" "key" "[D" (.ref b2) ∧ Fld Z h470 b15 "com/example/octopoll/octopoll/PageHeap" "heap" "[I" (.ref ha25) ∧ Fld Z h470 b15 "com/example/octopoll/octopoll/PageHeap" "position" "[I" (.ref pa25) ∧ Fld Z h470 b15 "com/example/octopoll/octopoll/PageHeap" "size" "I" (.int (own_cnt b0_470 b1_470 b2_470)) ∧ Arv Z h470 b2 k2 .double (3 : Int32) [(.double (FP.i2d (u0 &&& (3 : Int32)))), (.double (FP.i2d ((u0 >>> ((2 : Int32) &&& 31)) &&& (3 : Int32)))), (.double (FP.i2d ((u0 >>> ((4 : Int32) &&& 31)) &&& (3 : Int32))))] (.double 0) ∧ Arv Z h470 ha25 kh25 .int (3 : Int32) [(.int z0_470), (.int z1_470), (.int z2_470)] (.int (0 : Int32)) ∧ Arv Z h470 pa25 kp25 .int (3 : Int32) [(.int z3_470), (.int z4_470), (.int z5_470)] (.int (0 : Int32)) ∧ Arv Z h470 b37 k37 .boolean (3 : Int32) [(.int (own_bi b0_470)), (.int (own_bi b1_470)), (.int (own_bi b2_470))] (.int (0 : Int32)) ∧ (z0_470, z1_470, z2_470, z3_470, z4_470, z5_470) ∈ own_S b0_470 b1_470 b2_470 ∧ Go p.tables e below (s₁.setTop (entryFrame m #[(.int u0), (.int u1), (.int u2), (.int u3), (.int u4)] maxLocals)) T470 (mkF m 170 #[.val (.int u0), .val (.int u1), .val (.int u2), .val (.int u3), .val (.int u4), .val (.ref b2), .val (.ref b15), .val (.ref b37), .val (.int q8_55), .val (.int q9_55), .val (.int q10_55), .val (.int q11_55), .val (.int w468), .unset] []) := by
    have pre471 : Go p.tables e below (s₁.setTop (entryFrame m #[(.int u0), (.int u1), (.int u2), (.int u3), (.int u4)] maxLocals)) T55 (mkF m 146 #[.val (.int u0), .val (.int u1), .val (.int u2), .val (.int u3), .val (.int u4), .val (.ref b2), .val (.ref b15), .val (.ref b37), .val (.int q8_55), .val (.int q9_55), .val (.int q10_55), .val (.int q11_55), .val (.int w468), .unset] [(.int (u4 &&& (1 : Int32)))]) := fun t k => pre469 t (by
        refine XS.iload X55.here hx rfl (hb hby at_142) rfl ?_
        refine XS.iconst X55.here hx rfl (hb hby at_144) ?_
        refine XS.iand X55.here hx rfl (hb hby at_145) rfl ?_
        exact k)
    by_cases hc472 : (u4 &&& (1 : Int32)) = (0 : Int32)
    · -- hc472: True
      have pre473 : Go p.tables e below (s₁.setTop (entryFrame m #[(.int u0), (.int u1), (.int u2), (.int u3), (.int u4)] maxLocals)) T55 (mkF m 170 #[.val (.int u0), .val (.int u1), .val (.int u2), .val (.int u3), .val (.int u4), .val (.ref b2), .val (.ref b15), .val (.ref b37), .val (.int q8_55), .val (.int q9_55), .val (.int q10_55), .val (.int q11_55), .val (.int w468), .unset] []) := fun t k => pre471 t (by
          refine XS.ifYes X55.here hx rfl (pc0 := 146) (pc' := 170) rfl (hb hby at_146) rfl ((if0 _ _).trans (teq hc472).1) (by decide) (by decide) ?_
          exact k)
      exact ⟨T55, _, h55, b0_55, b1_55, b2_55, z0_55, z1_55, z2_55, z3_55, z4_55, z5_55, X55, e55, N55, fm55_0, fm55_1, fm55_2, fm55_3, fm55_4, fm55_5, fm55_6, fm55_7, fm55_8, fm55_9, pm55_0, pre473⟩
    · -- hc472: False
      have pre474 : Go p.tables e below (s₁.setTop (entryFrame m #[(.int u0), (.int u1), (.int u2), (.int u3), (.int u4)] maxLocals)) T55 (mkF m 149 #[.val (.int u0), .val (.int u1), .val (.int u2), .val (.int u3), .val (.int u4), .val (.ref b2), .val (.ref b15), .val (.ref b37), .val (.int q8_55), .val (.int q9_55), .val (.int q10_55), .val (.int q11_55), .val (.int w468), .unset] []) := fun t k => pre471 t (by
          refine XS.ifNo X55.here hx rfl (hb hby at_146) rfl ((if0 _ _).trans (feq hc472).1) ?_
          exact k)
      have hq_w468 := own_mod3 (u3)
      rw [← hw468] at hq_w468
      clear hw468
      rcases (hq_w468) with rfl | rfl | rfl
      · -- w468 = (0 : Int32)
        have pre475 : Go p.tables e below (s₁.setTop (entryFrame m #[(.int u0), (.int u1), (.int u2), (.int u3), (.int u4)] maxLocals)) T55 (mkF m 153 #[.val (.int u0), .val (.int u1), .val (.int u2), .val (.int u3), .val (.int u4), .val (.ref b2), .val (.ref b15), .val (.ref b37), .val (.int q8_55), .val (.int q9_55), .val (.int q10_55), .val (.int q11_55), .val (.int (0 : Int32)), .unset] [(.int (0 : Int32)), (.ref b37)]) := fun t k => pre474 t (by
            refine XS.aload X55.here hx rfl (hb hby at_149) rfl rfl ?_
            refine XS.iload X55.here hx rfl (hb hby at_151) rfl ?_
            exact k)
        obtain ⟨c476, Ar476, q476, S476, M476, H476, G476⟩ := (id fm55_9)
        have hin476 : ¬ ((0 : Int32) < 0 ∨ c476.slots.size ≤ ((0 : Int32)).toNatClampNeg) := inb_of S476 ⟨by decide, by decide⟩
        have pre476 : Go p.tables e below (s₁.setTop (entryFrame m #[(.int u0), (.int u1), (.int u2), (.int u3), (.int u4)] maxLocals)) T55 (mkF m 154 #[.val (.int u0), .val (.int u1), .val (.int u2), .val (.int u3), .val (.int u4), .val (.ref b2), .val (.ref b15), .val (.ref b37), .val (.int q8_55), .val (.int q9_55), .val (.int q10_55), .val (.int q11_55), .val (.int (0 : Int32)), .unset] [(.int (own_bi b0_55))]) := fun t k => pre475 t (X55.baloadBooleans hx (j := (0 : Int32)) (v := (.int (own_bi b0_55))) (by rw [e55]; exact Ar476.1) (State.isArrayOf_alike hZ.alike Ar476.2.1) Ar476.2.2 hin476 (H476.at hin476 rfl) (g := (mkF m 153 #[.val (.int u0), .val (.int u1), .val (.int u2), .val (.int u3), .val (.int u4), .val (.ref b2), .val (.ref b15), .val (.ref b37), .val (.int q8_55), .val (.int q9_55), .val (.int q10_55), .val (.int q11_55), .val (.int (0 : Int32)), .unset] [(.int (0 : Int32)), (.ref b37)])) rfl rfl (hb hby at_153) _ k)
        rcases own_tf b0_55 with rfl | rfl
        · -- bit 0 True
          have pre477 : Go p.tables e below (s₁.setTop (entryFrame m #[(.int u0), (.int u1), (.int u2), (.int u3), (.int u4)] maxLocals)) T55 (mkF m 161 #[.val (.int u0), .val (.int u1), .val (.int u2), .val (.int u3), .val (.int u4), .val (.ref b2), .val (.ref b15), .val (.ref b37), .val (.int q8_55), .val (.int q9_55), .val (.int q10_55), .val (.int q11_55), .val (.int (0 : Int32)), .unset] [(.int (0 : Int32)), (.ref b15)]) := fun t k => pre476 t (by
              refine XS.ifNo X55.here hx rfl (hb hby at_154) rfl ((if0 _ _).trans (feq (by decide)).1) ?_
              refine XS.aload X55.here hx rfl (hb hby at_157) rfl rfl ?_
              refine XS.iload X55.here hx rfl (hb hby at_159) rfl ?_
              exact k)
          obtain ⟨cq478, kq478, q478a, q478b, q478c⟩ := isOf hZ e55 fm55_1
          obtain ⟨_, _, ⟨T478, L478, k478, n478⟩, -, X478, ⟨Lc478, hQ478, l478, y478, z478⟩, st478⟩ := X55.virtualBack hx (y := (⟨"com/example/octopoll/octopoll/PageHeap", "remove", "(I)V"⟩ : MethodName)) (z := (⟨"com/example/octopoll/octopoll/PageHeap", "remove", "(I)V"⟩ : MethodName)) hown (mvT hZ (hw _ (List.mem_of_getElem? (i := 47) rfl))) (mvT hZ (hw _ (List.mem_of_getElem? (i := 48) rfl))) (notFace_of_selects (args := #[]) (mvT hZ (hw _ (List.mem_of_getElem? (i := 50) rfl)))) (mvT hZ (hw _ (List.mem_of_getElem? (i := 50) rfl))) (mvT hZ (hw _ (List.mem_of_getElem? (i := 49) rfl))) (by decide) (backOf (W := 0) (rm_rem0 l Z av0 hw [] b15 b2 ha25 pa25 k2 kh25 kp25 (FP.i2d (u0 &&& (3 : Int32))) (FP.i2d ((u0 >>> ((2 : Int32) &&& 31)) &&& (3 : Int32))) (FP.i2d ((u0 >>> ((4 : Int32) &&& 31)) &&& (3 : Int32))) z0_55 z1_55 z2_55 z3_55 z4_55 z5_55 b1_55 b2_55 h55 n0 fm55_0 fm55_1 fm55_2 fm55_3 fm55_4 fm55_5 fm55_6 fm55_7 fm55_8 g17 gha25 gpa25 ne27 ne30 po25_0 ne16.symm ne26 ne29 pm55_0) hZ (hw _ (List.mem_of_getElem? (i := 51) rfl)) (hw _ (List.mem_of_getElem? (i := 3) rfl)) (by decide) (by decide)) q478a q478c (g := (mkF m 161 #[.val (.int u0), .val (.int u1), .val (.int u2), .val (.int u3), .val (.int u4), .val (.ref b2), .val (.ref b15), .val (.ref b37), .val (.int q8_55), .val (.int q9_55), .val (.int q10_55), .val (.int q11_55), .val (.int (0 : Int32)), .unset] [(.int (0 : Int32)), (.ref b15)])) rfl (by rw [hml]; rfl) (Steps.refl _) (argsL := [(.int (0 : Int32))]) (rest := []) (lenOf pd_2 rfl) rfl (by show 2 * 0 + _ ≤ _; exact Nat.le_of_eq rfl) (hb hby at_161) (fun _ _ => ⟨rfl, e55, (by decide : 5 + 0 ≤ _), (by decide : 16 + 0 ≤ _)⟩)
          dsimp only [Pt.U, Pt.locs, Pt.cells, Pt.slots] at X478 l478 y478 z478 st478 hQ478
          subst l478 y478 z478
          obtain ⟨z0478, z1478, z2478, z3478, z4478, z5478, hv478, N478q, K478, fo478_0, fo478_1, fo478_2, fo478_3, fo478_4, fo478_5, fo478_6, po478_0⟩ := hQ478
          have f479 := Nat.le_trans fm55_0 K478.1
          have f480 := fm55_1.keep K478
          have f481 := fm55_6.keep K478 (ninS ne16 (ninS ne26 (ninS ne29 nin0)))
          have f482 := fm55_9.keep K478 (ninS ne39.symm (ninS ne40.symm (ninS ne41.symm nin0)))
          subst hv478
          have N478 := Fr.app N55 N478q
          have pre478 : Go p.tables e below (s₁.setTop (entryFrame m #[(.int u0), (.int u1), (.int u2), (.int u3), (.int u4)] maxLocals)) T478 (mkF m 164 #[.val (.int u0), .val (.int u1), .val (.int u2), .val (.int u3), .val (.int u4), .val (.ref b2), .val (.ref b15), .val (.ref b37), .val (.int q8_55), .val (.int q9_55), .val (.int q10_55), .val (.int q11_55), .val (.int (0 : Int32)), .unset] []) := fun t k => pre477 t (st478.trans k)
          have pre483 : Go p.tables e below (s₁.setTop (entryFrame m #[(.int u0), (.int u1), (.int u2), (.int u3), (.int u4)] maxLocals)) T478 (mkF m 169 #[.val (.int u0), .val (.int u1), .val (.int u2), .val (.int u3), .val (.int u4), .val (.ref b2), .val (.ref b15), .val (.ref b37), .val (.int q8_55), .val (.int q9_55), .val (.int q10_55), .val (.int q11_55), .val (.int (0 : Int32)), .unset] [(.int (0 : Int32)), (.int (0 : Int32)), (.ref b37)]) := fun t k => pre478 t (by
              refine XS.aload X478.here hx rfl (hb hby at_164) rfl rfl ?_
              refine XS.iload X478.here hx rfl (hb hby at_166) rfl ?_
              refine XS.iconst X478.here hx rfl (hb hby at_168) ?_
              exact k)
          obtain ⟨c484, Ar484, q484, S484, M484, H484, G484⟩ := (id f482)
          have hin484 : ¬ ((0 : Int32) < 0 ∨ c484.slots.size ≤ ((0 : Int32)).toNatClampNeg) := inb_of S484 ⟨by decide, by decide⟩
          obtain ⟨T484, h484, X484, e484, W484, st484⟩ := stZ X478 hx hZ rfl Ar484 (j := (0 : Int32)) hin484 (g := (mkF m 169 #[.val (.int u0), .val (.int u1), .val (.int u2), .val (.int u3), .val (.int u4), .val (.ref b2), .val (.ref b15), .val (.ref b37), .val (.int q8_55), .val (.int q9_55), .val (.int q10_55), .val (.int q11_55), .val (.int (0 : Int32)), .unset] [(.int (0 : Int32)), (.int (0 : Int32)), (.ref b37)])) rfl rfl (hb hby at_169)
          have fa484 : Arv Z h484 b37 k37 .boolean (3 : Int32) [(.int (0 : Int32)), (.int (own_bi b1_55)), (.int (own_bi b2_55))] (.int (0 : Int32)) := Arv.set Ar484 q484 S484 M484 H484 G484 (fits_nar_bool _) W484 0 rfl (Nat.le_of_ble_eq_true rfl)
          have N484 := Fr.snoc X484 N478 g42
          have f485 : n0 ≤ h484.size := Nat.le_trans f479 (Keep.of_wr W484).1
          have f486 : Arv Z h484 b2 k2 .double (3 : Int32) [(.double (FP.i2d (u0 &&& (3 : Int32)))), (.double (FP.i2d ((u0 >>> ((2 : Int32) &&& 31)) &&& (3 : Int32)))), (.double (FP.i2d ((u0 >>> ((4 : Int32) &&& 31)) &&& (3 : Int32))))] (.double 0) := f481.other W484 ne38
          have f487 : Exa Z h484 b15 "com/example/octopoll/octopoll/PageHeap" := fo478_0.wr W484
          have f488 : Fld Z h484 b15 "com/example/octopoll/octopoll/PageHeap" "key" "[D" (.ref b2) := fo478_1.other W484 (Or.inl ne39)
          have f489 : Fld Z h484 b15 "com/example/octopoll/octopoll/PageHeap" "heap" "[I" (.ref ha25) := fo478_2.other W484 (Or.inl ne39)
          have f490 : Fld Z h484 b15 "com/example/octopoll/octopoll/PageHeap" "position" "[I" (.ref pa25) := fo478_3.other W484 (Or.inl ne39)
          have f491 : Fld Z h484 b15 "com/example/octopoll/octopoll/PageHeap" "size" "I" (.int (own_cnt false b1_55 b2_55)) := fo478_4.other W484 (Or.inl ne39)
          have f492 : Arv Z h484 ha25 kh25 .int (3 : Int32) [(.int z0478), (.int z1478), (.int z2478)] (.int (0 : Int32)) := fo478_5.other W484 ne40
          have f493 : Arv Z h484 pa25 kp25 .int (3 : Int32) [(.int z3478), (.int z4478), (.int z5478)] (.int (0 : Int32)) := fo478_6.other W484 ne41
          have pre484 : Go p.tables e below (s₁.setTop (entryFrame m #[(.int u0), (.int u1), (.int u2), (.int u3), (.int u4)] maxLocals)) T484 (mkF m 170 #[.val (.int u0), .val (.int u1), .val (.int u2), .val (.int u3), .val (.int u4), .val (.ref b2), .val (.ref b15), .val (.ref b37), .val (.int q8_55), .val (.int q9_55), .val (.int q10_55), .val (.int q11_55), .val (.int (0 : Int32)), .unset] []) := fun t k => pre483 t (st484 _ k)
          exact ⟨T484, _, h484, false, b1_55, b2_55, z0478, z1478, z2478, z3478, z4478, z5478, X484, e484, N484, f485, f487, f488, f489, f490, f491, f486, f492, f493, fa484, po478_0, pre484⟩
        · -- bit 0 False
          have pre494 : Go p.tables e below (s₁.setTop (entryFrame m #[(.int u0), (.int u1), (.int u2), (.int u3), (.int u4)] maxLocals)) T55 (mkF m 170 #[.val (.int u0), .val (.int u1), .val (.int u2), .val (.int u3), .val (.int u4), .val (.ref b2), .val (.ref b15), .val (.ref b37), .val (.int q8_55), .val (.int q9_55), .val (.int q10_55), .val (.int q11_55), .val (.int (0 : Int32)), .unset] []) := fun t k => pre476 t (by
              refine XS.ifYes X55.here hx rfl (pc0 := 154) (pc' := 170) rfl (hb hby at_154) rfl ((if0 _ _).trans (teq rfl).1) (by decide) (by decide) ?_
              exact k)
          exact ⟨T55, _, h55, false, b1_55, b2_55, z0_55, z1_55, z2_55, z3_55, z4_55, z5_55, X55, e55, N55, fm55_0, fm55_1, fm55_2, fm55_3, fm55_4, fm55_5, fm55_6, fm55_7, fm55_8, fm55_9, pm55_0, pre494⟩
      · -- w468 = (1 : Int32)
        have pre495 : Go p.tables e below (s₁.setTop (entryFrame m #[(.int u0), (.int u1), (.int u2), (.int u3), (.int u4)] maxLocals)) T55 (mkF m 153 #[.val (.int u0), .val (.int u1), .val (.int u2), .val (.int u3), .val (.int u4), .val (.ref b2), .val (.ref b15), .val (.ref b37), .val (.int q8_55), .val (.int q9_55), .val (.int q10_55), .val (.int q11_55), .val (.int (1 : Int32)), .unset] [(.int (1 : Int32)), (.ref b37)]) := fun t k => pre474 t (by
            refine XS.aload X55.here hx rfl (hb hby at_149) rfl rfl ?_
            refine XS.iload X55.here hx rfl (hb hby at_151) rfl ?_
            exact k)
        obtain ⟨c496, Ar496, q496, S496, M496, H496, G496⟩ := (id fm55_9)
        have hin496 : ¬ ((1 : Int32) < 0 ∨ c496.slots.size ≤ ((1 : Int32)).toNatClampNeg) := inb_of S496 ⟨by decide, by decide⟩
        have pre496 : Go p.tables e below (s₁.setTop (entryFrame m #[(.int u0), (.int u1), (.int u2), (.int u3), (.int u4)] maxLocals)) T55 (mkF m 154 #[.val (.int u0), .val (.int u1), .val (.int u2), .val (.int u3), .val (.int u4), .val (.ref b2), .val (.ref b15), .val (.ref b37), .val (.int q8_55), .val (.int q9_55), .val (.int q10_55), .val (.int q11_55), .val (.int (1 : Int32)), .unset] [(.int (own_bi b1_55))]) := fun t k => pre495 t (X55.baloadBooleans hx (j := (1 : Int32)) (v := (.int (own_bi b1_55))) (by rw [e55]; exact Ar496.1) (State.isArrayOf_alike hZ.alike Ar496.2.1) Ar496.2.2 hin496 (H496.at hin496 rfl) (g := (mkF m 153 #[.val (.int u0), .val (.int u1), .val (.int u2), .val (.int u3), .val (.int u4), .val (.ref b2), .val (.ref b15), .val (.ref b37), .val (.int q8_55), .val (.int q9_55), .val (.int q10_55), .val (.int q11_55), .val (.int (1 : Int32)), .unset] [(.int (1 : Int32)), (.ref b37)])) rfl rfl (hb hby at_153) _ k)
        rcases own_tf b1_55 with rfl | rfl
        · -- bit 1 True
          have pre497 : Go p.tables e below (s₁.setTop (entryFrame m #[(.int u0), (.int u1), (.int u2), (.int u3), (.int u4)] maxLocals)) T55 (mkF m 161 #[.val (.int u0), .val (.int u1), .val (.int u2), .val (.int u3), .val (.int u4), .val (.ref b2), .val (.ref b15), .val (.ref b37), .val (.int q8_55), .val (.int q9_55), .val (.int q10_55), .val (.int q11_55), .val (.int (1 : Int32)), .unset] [(.int (1 : Int32)), (.ref b15)]) := fun t k => pre496 t (by
              refine XS.ifNo X55.here hx rfl (hb hby at_154) rfl ((if0 _ _).trans (feq (by decide)).1) ?_
              refine XS.aload X55.here hx rfl (hb hby at_157) rfl rfl ?_
              refine XS.iload X55.here hx rfl (hb hby at_159) rfl ?_
              exact k)
          obtain ⟨cq498, kq498, q498a, q498b, q498c⟩ := isOf hZ e55 fm55_1
          obtain ⟨_, _, ⟨T498, L498, k498, n498⟩, -, X498, ⟨Lc498, hQ498, l498, y498, z498⟩, st498⟩ := X55.virtualBack hx (y := (⟨"com/example/octopoll/octopoll/PageHeap", "remove", "(I)V"⟩ : MethodName)) (z := (⟨"com/example/octopoll/octopoll/PageHeap", "remove", "(I)V"⟩ : MethodName)) hown (mvT hZ (hw _ (List.mem_of_getElem? (i := 47) rfl))) (mvT hZ (hw _ (List.mem_of_getElem? (i := 48) rfl))) (notFace_of_selects (args := #[]) (mvT hZ (hw _ (List.mem_of_getElem? (i := 50) rfl)))) (mvT hZ (hw _ (List.mem_of_getElem? (i := 50) rfl))) (mvT hZ (hw _ (List.mem_of_getElem? (i := 49) rfl))) (by decide) (backOf (W := 0) (rm_rem1 l Z av0 hw [] b15 b2 ha25 pa25 k2 kh25 kp25 (FP.i2d (u0 &&& (3 : Int32))) (FP.i2d ((u0 >>> ((2 : Int32) &&& 31)) &&& (3 : Int32))) (FP.i2d ((u0 >>> ((4 : Int32) &&& 31)) &&& (3 : Int32))) z0_55 z1_55 z2_55 z3_55 z4_55 z5_55 b0_55 b2_55 h55 n0 fm55_0 fm55_1 fm55_2 fm55_3 fm55_4 fm55_5 fm55_6 fm55_7 fm55_8 g17 gha25 gpa25 ne27 ne30 po25_0 ne16.symm ne26 ne29 pm55_0) hZ (hw _ (List.mem_of_getElem? (i := 51) rfl)) (hw _ (List.mem_of_getElem? (i := 3) rfl)) (by decide) (by decide)) q498a q498c (g := (mkF m 161 #[.val (.int u0), .val (.int u1), .val (.int u2), .val (.int u3), .val (.int u4), .val (.ref b2), .val (.ref b15), .val (.ref b37), .val (.int q8_55), .val (.int q9_55), .val (.int q10_55), .val (.int q11_55), .val (.int (1 : Int32)), .unset] [(.int (1 : Int32)), (.ref b15)])) rfl (by rw [hml]; rfl) (Steps.refl _) (argsL := [(.int (1 : Int32))]) (rest := []) (lenOf pd_2 rfl) rfl (by show 2 * 0 + _ ≤ _; exact Nat.le_of_eq rfl) (hb hby at_161) (fun _ _ => ⟨rfl, e55, (by decide : 5 + 0 ≤ _), (by decide : 16 + 0 ≤ _)⟩)
          dsimp only [Pt.U, Pt.locs, Pt.cells, Pt.slots] at X498 l498 y498 z498 st498 hQ498
          subst l498 y498 z498
          obtain ⟨z0498, z1498, z2498, z3498, z4498, z5498, hv498, N498q, K498, fo498_0, fo498_1, fo498_2, fo498_3, fo498_4, fo498_5, fo498_6, po498_0⟩ := hQ498
          have f499 := Nat.le_trans fm55_0 K498.1
          have f500 := fm55_1.keep K498
          have f501 := fm55_6.keep K498 (ninS ne16 (ninS ne26 (ninS ne29 nin0)))
          have f502 := fm55_9.keep K498 (ninS ne39.symm (ninS ne40.symm (ninS ne41.symm nin0)))
          subst hv498
          have N498 := Fr.app N55 N498q
          have pre498 : Go p.tables e below (s₁.setTop (entryFrame m #[(.int u0), (.int u1), (.int u2), (.int u3), (.int u4)] maxLocals)) T498 (mkF m 164 #[.val (.int u0), .val (.int u1), .val (.int u2), .val (.int u3), .val (.int u4), .val (.ref b2), .val (.ref b15), .val (.ref b37), .val (.int q8_55), .val (.int q9_55), .val (.int q10_55), .val (.int q11_55), .val (.int (1 : Int32)), .unset] []) := fun t k => pre497 t (st498.trans k)
          have pre503 : Go p.tables e below (s₁.setTop (entryFrame m #[(.int u0), (.int u1), (.int u2), (.int u3), (.int u4)] maxLocals)) T498 (mkF m 169 #[.val (.int u0), .val (.int u1), .val (.int u2), .val (.int u3), .val (.int u4), .val (.ref b2), .val (.ref b15), .val (.ref b37), .val (.int q8_55), .val (.int q9_55), .val (.int q10_55), .val (.int q11_55), .val (.int (1 : Int32)), .unset] [(.int (0 : Int32)), (.int (1 : Int32)), (.ref b37)]) := fun t k => pre498 t (by
              refine XS.aload X498.here hx rfl (hb hby at_164) rfl rfl ?_
              refine XS.iload X498.here hx rfl (hb hby at_166) rfl ?_
              refine XS.iconst X498.here hx rfl (hb hby at_168) ?_
              exact k)
          obtain ⟨c504, Ar504, q504, S504, M504, H504, G504⟩ := (id f502)
          have hin504 : ¬ ((1 : Int32) < 0 ∨ c504.slots.size ≤ ((1 : Int32)).toNatClampNeg) := inb_of S504 ⟨by decide, by decide⟩
          obtain ⟨T504, h504, X504, e504, W504, st504⟩ := stZ X498 hx hZ rfl Ar504 (j := (1 : Int32)) hin504 (g := (mkF m 169 #[.val (.int u0), .val (.int u1), .val (.int u2), .val (.int u3), .val (.int u4), .val (.ref b2), .val (.ref b15), .val (.ref b37), .val (.int q8_55), .val (.int q9_55), .val (.int q10_55), .val (.int q11_55), .val (.int (1 : Int32)), .unset] [(.int (0 : Int32)), (.int (1 : Int32)), (.ref b37)])) rfl rfl (hb hby at_169)
          have fa504 : Arv Z h504 b37 k37 .boolean (3 : Int32) [(.int (own_bi b0_55)), (.int (0 : Int32)), (.int (own_bi b2_55))] (.int (0 : Int32)) := Arv.set Ar504 q504 S504 M504 H504 G504 (fits_nar_bool _) W504 1 rfl (Nat.le_of_ble_eq_true rfl)
          have N504 := Fr.snoc X504 N498 g42
          have f505 : n0 ≤ h504.size := Nat.le_trans f499 (Keep.of_wr W504).1
          have f506 : Arv Z h504 b2 k2 .double (3 : Int32) [(.double (FP.i2d (u0 &&& (3 : Int32)))), (.double (FP.i2d ((u0 >>> ((2 : Int32) &&& 31)) &&& (3 : Int32)))), (.double (FP.i2d ((u0 >>> ((4 : Int32) &&& 31)) &&& (3 : Int32))))] (.double 0) := f501.other W504 ne38
          have f507 : Exa Z h504 b15 "com/example/octopoll/octopoll/PageHeap" := fo498_0.wr W504
          have f508 : Fld Z h504 b15 "com/example/octopoll/octopoll/PageHeap" "key" "[D" (.ref b2) := fo498_1.other W504 (Or.inl ne39)
          have f509 : Fld Z h504 b15 "com/example/octopoll/octopoll/PageHeap" "heap" "[I" (.ref ha25) := fo498_2.other W504 (Or.inl ne39)
          have f510 : Fld Z h504 b15 "com/example/octopoll/octopoll/PageHeap" "position" "[I" (.ref pa25) := fo498_3.other W504 (Or.inl ne39)
          have f511 : Fld Z h504 b15 "com/example/octopoll/octopoll/PageHeap" "size" "I" (.int (own_cnt b0_55 false b2_55)) := fo498_4.other W504 (Or.inl ne39)
          have f512 : Arv Z h504 ha25 kh25 .int (3 : Int32) [(.int z0498), (.int z1498), (.int z2498)] (.int (0 : Int32)) := fo498_5.other W504 ne40
          have f513 : Arv Z h504 pa25 kp25 .int (3 : Int32) [(.int z3498), (.int z4498), (.int z5498)] (.int (0 : Int32)) := fo498_6.other W504 ne41
          have pre504 : Go p.tables e below (s₁.setTop (entryFrame m #[(.int u0), (.int u1), (.int u2), (.int u3), (.int u4)] maxLocals)) T504 (mkF m 170 #[.val (.int u0), .val (.int u1), .val (.int u2), .val (.int u3), .val (.int u4), .val (.ref b2), .val (.ref b15), .val (.ref b37), .val (.int q8_55), .val (.int q9_55), .val (.int q10_55), .val (.int q11_55), .val (.int (1 : Int32)), .unset] []) := fun t k => pre503 t (st504 _ k)
          exact ⟨T504, _, h504, b0_55, false, b2_55, z0498, z1498, z2498, z3498, z4498, z5498, X504, e504, N504, f505, f507, f508, f509, f510, f511, f506, f512, f513, fa504, po498_0, pre504⟩
        · -- bit 1 False
          have pre514 : Go p.tables e below (s₁.setTop (entryFrame m #[(.int u0), (.int u1), (.int u2), (.int u3), (.int u4)] maxLocals)) T55 (mkF m 170 #[.val (.int u0), .val (.int u1), .val (.int u2), .val (.int u3), .val (.int u4), .val (.ref b2), .val (.ref b15), .val (.ref b37), .val (.int q8_55), .val (.int q9_55), .val (.int q10_55), .val (.int q11_55), .val (.int (1 : Int32)), .unset] []) := fun t k => pre496 t (by
              refine XS.ifYes X55.here hx rfl (pc0 := 154) (pc' := 170) rfl (hb hby at_154) rfl ((if0 _ _).trans (teq rfl).1) (by decide) (by decide) ?_
              exact k)
          exact ⟨T55, _, h55, b0_55, false, b2_55, z0_55, z1_55, z2_55, z3_55, z4_55, z5_55, X55, e55, N55, fm55_0, fm55_1, fm55_2, fm55_3, fm55_4, fm55_5, fm55_6, fm55_7, fm55_8, fm55_9, pm55_0, pre514⟩
      · -- w468 = (2 : Int32)
        have pre515 : Go p.tables e below (s₁.setTop (entryFrame m #[(.int u0), (.int u1), (.int u2), (.int u3), (.int u4)] maxLocals)) T55 (mkF m 153 #[.val (.int u0), .val (.int u1), .val (.int u2), .val (.int u3), .val (.int u4), .val (.ref b2), .val (.ref b15), .val (.ref b37), .val (.int q8_55), .val (.int q9_55), .val (.int q10_55), .val (.int q11_55), .val (.int (2 : Int32)), .unset] [(.int (2 : Int32)), (.ref b37)]) := fun t k => pre474 t (by
            refine XS.aload X55.here hx rfl (hb hby at_149) rfl rfl ?_
            refine XS.iload X55.here hx rfl (hb hby at_151) rfl ?_
            exact k)
        obtain ⟨c516, Ar516, q516, S516, M516, H516, G516⟩ := (id fm55_9)
        have hin516 : ¬ ((2 : Int32) < 0 ∨ c516.slots.size ≤ ((2 : Int32)).toNatClampNeg) := inb_of S516 ⟨by decide, by decide⟩
        have pre516 : Go p.tables e below (s₁.setTop (entryFrame m #[(.int u0), (.int u1), (.int u2), (.int u3), (.int u4)] maxLocals)) T55 (mkF m 154 #[.val (.int u0), .val (.int u1), .val (.int u2), .val (.int u3), .val (.int u4), .val (.ref b2), .val (.ref b15), .val (.ref b37), .val (.int q8_55), .val (.int q9_55), .val (.int q10_55), .val (.int q11_55), .val (.int (2 : Int32)), .unset] [(.int (own_bi b2_55))]) := fun t k => pre515 t (X55.baloadBooleans hx (j := (2 : Int32)) (v := (.int (own_bi b2_55))) (by rw [e55]; exact Ar516.1) (State.isArrayOf_alike hZ.alike Ar516.2.1) Ar516.2.2 hin516 (H516.at hin516 rfl) (g := (mkF m 153 #[.val (.int u0), .val (.int u1), .val (.int u2), .val (.int u3), .val (.int u4), .val (.ref b2), .val (.ref b15), .val (.ref b37), .val (.int q8_55), .val (.int q9_55), .val (.int q10_55), .val (.int q11_55), .val (.int (2 : Int32)), .unset] [(.int (2 : Int32)), (.ref b37)])) rfl rfl (hb hby at_153) _ k)
        rcases own_tf b2_55 with rfl | rfl
        · -- bit 2 True
          have pre517 : Go p.tables e below (s₁.setTop (entryFrame m #[(.int u0), (.int u1), (.int u2), (.int u3), (.int u4)] maxLocals)) T55 (mkF m 161 #[.val (.int u0), .val (.int u1), .val (.int u2), .val (.int u3), .val (.int u4), .val (.ref b2), .val (.ref b15), .val (.ref b37), .val (.int q8_55), .val (.int q9_55), .val (.int q10_55), .val (.int q11_55), .val (.int (2 : Int32)), .unset] [(.int (2 : Int32)), (.ref b15)]) := fun t k => pre516 t (by
              refine XS.ifNo X55.here hx rfl (hb hby at_154) rfl ((if0 _ _).trans (feq (by decide)).1) ?_
              refine XS.aload X55.here hx rfl (hb hby at_157) rfl rfl ?_
              refine XS.iload X55.here hx rfl (hb hby at_159) rfl ?_
              exact k)
          obtain ⟨cq518, kq518, q518a, q518b, q518c⟩ := isOf hZ e55 fm55_1
          obtain ⟨_, _, ⟨T518, L518, k518, n518⟩, -, X518, ⟨Lc518, hQ518, l518, y518, z518⟩, st518⟩ := X55.virtualBack hx (y := (⟨"com/example/octopoll/octopoll/PageHeap", "remove", "(I)V"⟩ : MethodName)) (z := (⟨"com/example/octopoll/octopoll/PageHeap", "remove", "(I)V"⟩ : MethodName)) hown (mvT hZ (hw _ (List.mem_of_getElem? (i := 47) rfl))) (mvT hZ (hw _ (List.mem_of_getElem? (i := 48) rfl))) (notFace_of_selects (args := #[]) (mvT hZ (hw _ (List.mem_of_getElem? (i := 50) rfl)))) (mvT hZ (hw _ (List.mem_of_getElem? (i := 50) rfl))) (mvT hZ (hw _ (List.mem_of_getElem? (i := 49) rfl))) (by decide) (backOf (W := 0) (rm_rem2 l Z av0 hw [] b15 b2 ha25 pa25 k2 kh25 kp25 (FP.i2d (u0 &&& (3 : Int32))) (FP.i2d ((u0 >>> ((2 : Int32) &&& 31)) &&& (3 : Int32))) (FP.i2d ((u0 >>> ((4 : Int32) &&& 31)) &&& (3 : Int32))) z0_55 z1_55 z2_55 z3_55 z4_55 z5_55 b0_55 b1_55 h55 n0 fm55_0 fm55_1 fm55_2 fm55_3 fm55_4 fm55_5 fm55_6 fm55_7 fm55_8 g17 gha25 gpa25 ne27 ne30 po25_0 ne16.symm ne26 ne29 pm55_0) hZ (hw _ (List.mem_of_getElem? (i := 51) rfl)) (hw _ (List.mem_of_getElem? (i := 3) rfl)) (by decide) (by decide)) q518a q518c (g := (mkF m 161 #[.val (.int u0), .val (.int u1), .val (.int u2), .val (.int u3), .val (.int u4), .val (.ref b2), .val (.ref b15), .val (.ref b37), .val (.int q8_55), .val (.int q9_55), .val (.int q10_55), .val (.int q11_55), .val (.int (2 : Int32)), .unset] [(.int (2 : Int32)), (.ref b15)])) rfl (by rw [hml]; rfl) (Steps.refl _) (argsL := [(.int (2 : Int32))]) (rest := []) (lenOf pd_2 rfl) rfl (by show 2 * 0 + _ ≤ _; exact Nat.le_of_eq rfl) (hb hby at_161) (fun _ _ => ⟨rfl, e55, (by decide : 5 + 0 ≤ _), (by decide : 16 + 0 ≤ _)⟩)
          dsimp only [Pt.U, Pt.locs, Pt.cells, Pt.slots] at X518 l518 y518 z518 st518 hQ518
          subst l518 y518 z518
          obtain ⟨z0518, z1518, z2518, z3518, z4518, z5518, hv518, N518q, K518, fo518_0, fo518_1, fo518_2, fo518_3, fo518_4, fo518_5, fo518_6, po518_0⟩ := hQ518
          have f519 := Nat.le_trans fm55_0 K518.1
          have f520 := fm55_1.keep K518
          have f521 := fm55_6.keep K518 (ninS ne16 (ninS ne26 (ninS ne29 nin0)))
          have f522 := fm55_9.keep K518 (ninS ne39.symm (ninS ne40.symm (ninS ne41.symm nin0)))
          subst hv518
          have N518 := Fr.app N55 N518q
          have pre518 : Go p.tables e below (s₁.setTop (entryFrame m #[(.int u0), (.int u1), (.int u2), (.int u3), (.int u4)] maxLocals)) T518 (mkF m 164 #[.val (.int u0), .val (.int u1), .val (.int u2), .val (.int u3), .val (.int u4), .val (.ref b2), .val (.ref b15), .val (.ref b37), .val (.int q8_55), .val (.int q9_55), .val (.int q10_55), .val (.int q11_55), .val (.int (2 : Int32)), .unset] []) := fun t k => pre517 t (st518.trans k)
          have pre523 : Go p.tables e below (s₁.setTop (entryFrame m #[(.int u0), (.int u1), (.int u2), (.int u3), (.int u4)] maxLocals)) T518 (mkF m 169 #[.val (.int u0), .val (.int u1), .val (.int u2), .val (.int u3), .val (.int u4), .val (.ref b2), .val (.ref b15), .val (.ref b37), .val (.int q8_55), .val (.int q9_55), .val (.int q10_55), .val (.int q11_55), .val (.int (2 : Int32)), .unset] [(.int (0 : Int32)), (.int (2 : Int32)), (.ref b37)]) := fun t k => pre518 t (by
              refine XS.aload X518.here hx rfl (hb hby at_164) rfl rfl ?_
              refine XS.iload X518.here hx rfl (hb hby at_166) rfl ?_
              refine XS.iconst X518.here hx rfl (hb hby at_168) ?_
              exact k)
          obtain ⟨c524, Ar524, q524, S524, M524, H524, G524⟩ := (id f522)
          have hin524 : ¬ ((2 : Int32) < 0 ∨ c524.slots.size ≤ ((2 : Int32)).toNatClampNeg) := inb_of S524 ⟨by decide, by decide⟩
          obtain ⟨T524, h524, X524, e524, W524, st524⟩ := stZ X518 hx hZ rfl Ar524 (j := (2 : Int32)) hin524 (g := (mkF m 169 #[.val (.int u0), .val (.int u1), .val (.int u2), .val (.int u3), .val (.int u4), .val (.ref b2), .val (.ref b15), .val (.ref b37), .val (.int q8_55), .val (.int q9_55), .val (.int q10_55), .val (.int q11_55), .val (.int (2 : Int32)), .unset] [(.int (0 : Int32)), (.int (2 : Int32)), (.ref b37)])) rfl rfl (hb hby at_169)
          have fa524 : Arv Z h524 b37 k37 .boolean (3 : Int32) [(.int (own_bi b0_55)), (.int (own_bi b1_55)), (.int (0 : Int32))] (.int (0 : Int32)) := Arv.set Ar524 q524 S524 M524 H524 G524 (fits_nar_bool _) W524 2 rfl (Nat.le_of_ble_eq_true rfl)
          have N524 := Fr.snoc X524 N518 g42
          have f525 : n0 ≤ h524.size := Nat.le_trans f519 (Keep.of_wr W524).1
          have f526 : Arv Z h524 b2 k2 .double (3 : Int32) [(.double (FP.i2d (u0 &&& (3 : Int32)))), (.double (FP.i2d ((u0 >>> ((2 : Int32) &&& 31)) &&& (3 : Int32)))), (.double (FP.i2d ((u0 >>> ((4 : Int32) &&& 31)) &&& (3 : Int32))))] (.double 0) := f521.other W524 ne38
          have f527 : Exa Z h524 b15 "com/example/octopoll/octopoll/PageHeap" := fo518_0.wr W524
          have f528 : Fld Z h524 b15 "com/example/octopoll/octopoll/PageHeap" "key" "[D" (.ref b2) := fo518_1.other W524 (Or.inl ne39)
          have f529 : Fld Z h524 b15 "com/example/octopoll/octopoll/PageHeap" "heap" "[I" (.ref ha25) := fo518_2.other W524 (Or.inl ne39)
          have f530 : Fld Z h524 b15 "com/example/octopoll/octopoll/PageHeap" "position" "[I" (.ref pa25) := fo518_3.other W524 (Or.inl ne39)
          have f531 : Fld Z h524 b15 "com/example/octopoll/octopoll/PageHeap" "size" "I" (.int (own_cnt b0_55 b1_55 false)) := fo518_4.other W524 (Or.inl ne39)
          have f532 : Arv Z h524 ha25 kh25 .int (3 : Int32) [(.int z0518), (.int z1518), (.int z2518)] (.int (0 : Int32)) := fo518_5.other W524 ne40
          have f533 : Arv Z h524 pa25 kp25 .int (3 : Int32) [(.int z3518), (.int z4518), (.int z5518)] (.int (0 : Int32)) := fo518_6.other W524 ne41
          have pre524 : Go p.tables e below (s₁.setTop (entryFrame m #[(.int u0), (.int u1), (.int u2), (.int u3), (.int u4)] maxLocals)) T524 (mkF m 170 #[.val (.int u0), .val (.int u1), .val (.int u2), .val (.int u3), .val (.int u4), .val (.ref b2), .val (.ref b15), .val (.ref b37), .val (.int q8_55), .val (.int q9_55), .val (.int q10_55), .val (.int q11_55), .val (.int (2 : Int32)), .unset] []) := fun t k => pre523 t (st524 _ k)
          exact ⟨T524, _, h524, b0_55, b1_55, false, z0518, z1518, z2518, z3518, z4518, z5518, X524, e524, N524, f525, f527, f528, f529, f530, f531, f526, f532, f533, fa524, po518_0, pre524⟩
        · -- bit 2 False
          have pre534 : Go p.tables e below (s₁.setTop (entryFrame m #[(.int u0), (.int u1), (.int u2), (.int u3), (.int u4)] maxLocals)) T55 (mkF m 170 #[.val (.int u0), .val (.int u1), .val (.int u2), .val (.int u3), .val (.int u4), .val (.ref b2), .val (.ref b15), .val (.ref b37), .val (.int q8_55), .val (.int q9_55), .val (.int q10_55), .val (.int q11_55), .val (.int (2 : Int32)), .unset] []) := fun t k => pre516 t (by
              refine XS.ifYes X55.here hx rfl (pc0 := 154) (pc' := 170) rfl (hb hby at_154) rfl ((if0 _ _).trans (teq rfl).1) (by decide) (by decide) ?_
              exact k)
          exact ⟨T55, _, h55, b0_55, b1_55, false, z0_55, z1_55, z2_55, z3_55, z4_55, z5_55, X55, e55, N55, fm55_0, fm55_1, fm55_2, fm55_3, fm55_4, fm55_5, fm55_6, fm55_7, fm55_8, fm55_9, pm55_0, pre534⟩
  obtain ⟨T535, L535, h535, o13_535, b0_535, b1_535, b2_535, z0_535, z1_535, z2_535, z3_535, z4_535, z5_535, X535, e535, N535, fm535_0, fm535_1, fm535_2, fm535_3, fm535_4, fm535_5, fm535_6, fm535_7, fm535_8, fm535_9, pm535_0, pre535⟩ : ∃ (T535 : State) (L535 : List Loc) (h535 : Heap) (o13_535 : Slot) (b0_535 : Bool) (b1_535 : Bool) (b2_535 : Bool) (z0_535 : Int32) (z1_535 : Int32) (z2_535 : Int32) (z3_535 : Int32) (z4_535 : Int32) (z5_535 : Int32), Stand p l e room_1 s m #[(.int u0), (.int u1), (.int u2), (.int u3), (.int u4)] below meth c T535 L535 5 16 ∧ T535.heap = h535 ∧ Fr n0 L535 ∧ n0 ≤ h535.size ∧ Exa Z h535 b15 "com/example/octopoll/octopoll/PageHeap" ∧ Fld Z h535 b15 "com/example/octopoll/octopoll/PageHeap" "key" "[D" (.ref b2) ∧ Fld Z h535 b15 "com/example/octopoll/octopoll/PageHeap" "heap" "[I" (.ref ha25) ∧ Fld Z h535 b15 "com/example/octopoll/octopoll/PageHeap" "position" "[I" (.ref pa25) ∧ Fld Z h535 b15 "com/example/octopoll/octopoll/PageHeap" "size" "I" (.int (own_cnt b0_535 b1_535 b2_535)) ∧ Arv Z h535 b2 k2 .double (3 : Int32) [(.double (FP.i2d (u0 &&& (3 : Int32)))), (.double (FP.i2d ((u0 >>> ((2 : Int32) &&& 31)) &&& (3 : Int32)))), (.double (FP.i2d ((u0 >>> ((4 : Int32) &&& 31)) &&& (3 : Int32))))] (.double 0) ∧ Arv Z h535 ha25 kh25 .int (3 : Int32) [(.int z0_535), (.int z1_535), (.int z2_535)] (.int (0 : Int32)) ∧ Arv Z h535 pa25 kp25 .int (3 : Int32) [(.int z3_535), (.int z4_535), (.int z5_535)] (.int (0 : Int32)) ∧ Arv Z h535 b37 k37 .boolean (3 : Int32) [(.int (own_bi b0_535)), (.int (own_bi b1_535)), (.int (own_bi b2_535))] (.int (0 : Int32)) ∧ (z0_535, z1_535, z2_535, z3_535, z4_535, z5_535) ∈ own_S b0_535 b1_535 b2_535 ∧ Go p.tables e below (s₁.setTop (entryFrame m #[(.int u0), (.int u1), (.int u2), (.int u3), (.int u4)] maxLocals)) T535 (mkF m 232 #[.val (.int u0), .val (.int u1), .val (.int u2), .val (.int u3), .val (.int u4), .val (.ref b2), .val (.ref b15), .val (.ref b37), .val (.int q8_55), .val (.int q9_55), .val (.int q10_55), .val (.int q11_55), .val (.int w468), o13_535] []) := by
    have pre536 : Go p.tables e below (s₁.setTop (entryFrame m #[(.int u0), (.int u1), (.int u2), (.int u3), (.int u4)] maxLocals)) T470 (mkF m 174 #[.val (.int u0), .val (.int u1), .val (.int u2), .val (.int u3), .val (.int u4), .val (.ref b2), .val (.ref b15), .val (.ref b37), .val (.int q8_55), .val (.int q9_55), .val (.int q10_55), .val (.int q11_55), .val (.int w468), .unset] [(.int (u4 &&& (2 : Int32)))]) := fun t k => pre470 t (by
        refine XS.iload X470.here hx rfl (hb hby at_170) rfl ?_
        refine XS.iconst X470.here hx rfl (hb hby at_172) ?_
        refine XS.iand X470.here hx rfl (hb hby at_173) rfl ?_
        exact k)
    by_cases hc537 : (u4 &&& (2 : Int32)) = (0 : Int32)
    · -- hc537: True
      have pre538 : Go p.tables e below (s₁.setTop (entryFrame m #[(.int u0), (.int u1), (.int u2), (.int u3), (.int u4)] maxLocals)) T470 (mkF m 232 #[.val (.int u0), .val (.int u1), .val (.int u2), .val (.int u3), .val (.int u4), .val (.ref b2), .val (.ref b15), .val (.ref b37), .val (.int q8_55), .val (.int q9_55), .val (.int q10_55), .val (.int q11_55), .val (.int w468), .unset] []) := fun t k => pre536 t (by
          refine XS.ifYes X470.here hx rfl (pc0 := 174) (pc' := 232) rfl (hb hby at_174) rfl ((if0 _ _).trans (teq hc537).1) (by decide) (by decide) ?_
          exact k)
      exact ⟨T470, _, h470, .unset, b0_470, b1_470, b2_470, z0_470, z1_470, z2_470, z3_470, z4_470, z5_470, X470, e470, N470, fm470_0, fm470_1, fm470_2, fm470_3, fm470_4, fm470_5, fm470_6, fm470_7, fm470_8, fm470_9, pm470_0, pre538⟩
    · -- hc537: False
      have pre539 : Go p.tables e below (s₁.setTop (entryFrame m #[(.int u0), (.int u1), (.int u2), (.int u3), (.int u4)] maxLocals)) T470 (mkF m 177 #[.val (.int u0), .val (.int u1), .val (.int u2), .val (.int u3), .val (.int u4), .val (.ref b2), .val (.ref b15), .val (.ref b37), .val (.int q8_55), .val (.int q9_55), .val (.int q10_55), .val (.int q11_55), .val (.int w468), .unset] []) := fun t k => pre536 t (by
          refine XS.ifNo X470.here hx rfl (hb hby at_174) rfl ((if0 _ _).trans (feq hc537).1) ?_
          exact k)
      rcases own_tf b0_470 with rfl | rfl
      · -- bit 0 True
        rcases own_tf b1_470 with rfl | rfl
        · -- bit 1 True
          rcases own_tf b2_470 with rfl | rfl
          · -- bit 2 True
            have pre540 : Go p.tables e below (s₁.setTop (entryFrame m #[(.int u0), (.int u1), (.int u2), (.int u3), (.int u4)] maxLocals)) T470 (mkF m 180 #[.val (.int u0), .val (.int u1), .val (.int u2), .val (.int u3), .val (.int u4), .val (.ref b2), .val (.ref b15), .val (.ref b37), .val (.int q8_55), .val (.int q9_55), .val (.int q10_55), .val (.int q11_55), .val (.int w468), .unset] [(.int (0 : Int32)), (.ref b37)]) := fun t k => pre539 t (by
                refine XS.aload X470.here hx rfl (hb hby at_177) rfl rfl ?_
                refine XS.iconst X470.here hx rfl (hb hby at_179) ?_
                exact k)
            obtain ⟨c541, Ar541, q541, S541, M541, H541, G541⟩ := (id fm470_9)
            have hin541 : ¬ ((0 : Int32) < 0 ∨ c541.slots.size ≤ ((0 : Int32)).toNatClampNeg) := inb_of S541 ⟨by decide, by decide⟩
            have pre541 : Go p.tables e below (s₁.setTop (entryFrame m #[(.int u0), (.int u1), (.int u2), (.int u3), (.int u4)] maxLocals)) T470 (mkF m 181 #[.val (.int u0), .val (.int u1), .val (.int u2), .val (.int u3), .val (.int u4), .val (.ref b2), .val (.ref b15), .val (.ref b37), .val (.int q8_55), .val (.int q9_55), .val (.int q10_55), .val (.int q11_55), .val (.int w468), .unset] [(.int (1 : Int32))]) := fun t k => pre540 t (X470.baloadBooleans hx (j := (0 : Int32)) (v := (.int (1 : Int32))) (by rw [e470]; exact Ar541.1) (State.isArrayOf_alike hZ.alike Ar541.2.1) Ar541.2.2 hin541 (H541.at hin541 rfl) (g := (mkF m 180 #[.val (.int u0), .val (.int u1), .val (.int u2), .val (.int u3), .val (.int u4), .val (.ref b2), .val (.ref b15), .val (.ref b37), .val (.int q8_55), .val (.int q9_55), .val (.int q10_55), .val (.int q11_55), .val (.int w468), .unset] [(.int (0 : Int32)), (.ref b37)])) rfl rfl (hb hby at_180) _ k)
            have pre542 : Go p.tables e below (s₁.setTop (entryFrame m #[(.int u0), (.int u1), (.int u2), (.int u3), (.int u4)] maxLocals)) T470 (mkF m 198 #[.val (.int u0), .val (.int u1), .val (.int u2), .val (.int u3), .val (.int u4), .val (.ref b2), .val (.ref b15), .val (.ref b37), .val (.int q8_55), .val (.int q9_55), .val (.int q10_55), .val (.int q11_55), .val (.int w468), .unset] []) := fun t k => pre541 t (by
                refine XS.ifYes X470.here hx rfl (pc0 := 181) (pc' := 198) rfl (hb hby at_181) rfl ((if0 _ _).trans (feq (by decide)).2) (by decide) (by decide) ?_
                exact k)
            have hz543 : z0_470 = 0 ∨ z0_470 = 1 ∨ z0_470 = 2 := (by decide +kernel : ∀ t ∈ own_S true true true, t.1 = 0 ∨ t.1 = 1 ∨ t.1 = 2) _ pm470_0
            rcases (hz543) with rfl | rfl | rfl
            · -- z0_470 = (0 : Int32)
              have pre544 : Go p.tables e below (s₁.setTop (entryFrame m #[(.int u0), (.int u1), (.int u2), (.int u3), (.int u4)] maxLocals)) T470 (mkF m 200 #[.val (.int u0), .val (.int u1), .val (.int u2), .val (.int u3), .val (.int u4), .val (.ref b2), .val (.ref b15), .val (.ref b37), .val (.int q8_55), .val (.int q9_55), .val (.int q10_55), .val (.int q11_55), .val (.int w468), .unset] [(.ref b15)]) := fun t k => pre542 t (by
                  refine XS.aload X470.here hx rfl (hb hby at_198) rfl rfl ?_
                  exact k)
              obtain ⟨cq545, kq545, q545a, q545b, q545c⟩ := isOf hZ e470 fm470_1
              obtain ⟨_, _, ⟨T545, L545, k545, n545⟩, -, X545, ⟨Lc545, hQ545, l545, y545, z545⟩, st545⟩ := X470.virtualBack hx (y := (⟨"com/example/octopoll/octopoll/PageHeap", "poll", "()I"⟩ : MethodName)) (z := (⟨"com/example/octopoll/octopoll/PageHeap", "poll", "()I"⟩ : MethodName)) hown (mvT hZ (hw _ (List.mem_of_getElem? (i := 56) rfl))) (mvT hZ (hw _ (List.mem_of_getElem? (i := 57) rfl))) (notFace_of_selects (args := #[]) (mvT hZ (hw _ (List.mem_of_getElem? (i := 59) rfl)))) (mvT hZ (hw _ (List.mem_of_getElem? (i := 59) rfl))) (mvT hZ (hw _ (List.mem_of_getElem? (i := 58) rfl))) (by decide) (backOf (W := 0) (rm_pol0 l Z av0 hw [] b15 b2 ha25 pa25 k2 kh25 kp25 (FP.i2d (u0 &&& (3 : Int32))) (FP.i2d ((u0 >>> ((2 : Int32) &&& 31)) &&& (3 : Int32))) (FP.i2d ((u0 >>> ((4 : Int32) &&& 31)) &&& (3 : Int32))) z1_470 z2_470 z3_470 z4_470 z5_470 true true h470 n0 fm470_0 fm470_1 fm470_2 fm470_3 fm470_4 fm470_5 fm470_6 fm470_7 fm470_8 g17 gha25 gpa25 ne27 ne30 po25_0 ne16.symm ne26 ne29 pm470_0) hZ (hw _ (List.mem_of_getElem? (i := 60) rfl)) (hw _ (List.mem_of_getElem? (i := 3) rfl)) (by decide) (by decide)) q545a q545c (g := (mkF m 200 #[.val (.int u0), .val (.int u1), .val (.int u2), .val (.int u3), .val (.int u4), .val (.ref b2), .val (.ref b15), .val (.ref b37), .val (.int q8_55), .val (.int q9_55), .val (.int q10_55), .val (.int q11_55), .val (.int w468), .unset] [(.ref b15)])) rfl (by rw [hml]; rfl) (Steps.refl _) (argsL := []) (rest := []) (lenOf pd_5 rfl) rfl (by show 2 * 0 + _ ≤ _; exact Nat.le_of_eq rfl) (hb hby at_200) (fun _ _ => ⟨rfl, e470, (by decide : 5 + 0 ≤ _), (by decide : 16 + 0 ≤ _)⟩)
              dsimp only [Pt.U, Pt.locs, Pt.cells, Pt.slots] at X545 l545 y545 z545 st545 hQ545
              subst l545 y545 z545
              obtain ⟨z0545, z1545, z2545, z3545, z4545, z5545, hv545, N545q, K545, fo545_0, fo545_1, fo545_2, fo545_3, fo545_4, fo545_5, fo545_6, po545_0⟩ := hQ545
              have f546 := Nat.le_trans fm470_0 K545.1
              have f547 := fm470_1.keep K545
              have f548 := fm470_6.keep K545 (ninS ne16 (ninS ne26 (ninS ne29 nin0)))
              have f549 := fm470_9.keep K545 (ninS ne39.symm (ninS ne40.symm (ninS ne41.symm nin0)))
              subst hv545
              have N545 := Fr.app N470 N545q
              have pre545 : Go p.tables e below (s₁.setTop (entryFrame m #[(.int u0), (.int u1), (.int u2), (.int u3), (.int u4)] maxLocals)) T545 (mkF m 203 #[.val (.int u0), .val (.int u1), .val (.int u2), .val (.int u3), .val (.int u4), .val (.ref b2), .val (.ref b15), .val (.ref b37), .val (.int q8_55), .val (.int q9_55), .val (.int q10_55), .val (.int q11_55), .val (.int w468), .unset] [(.int (0 : Int32))]) := fun t k => pre544 t (st545.trans k)
              have pre550 : Go p.tables e below (s₁.setTop (entryFrame m #[(.int u0), (.int u1), (.int u2), (.int u3), (.int u4)] maxLocals)) T545 (mkF m 220 #[.val (.int u0), .val (.int u1), .val (.int u2), .val (.int u3), .val (.int u4), .val (.ref b2), .val (.ref b15), .val (.ref b37), .val (.int q8_55), .val (.int q9_55), .val (.int q10_55), .val (.int q11_55), .val (.int w468), .val (.int (0 : Int32))] [(.int (0 : Int32)), (.ref b37)]) := fun t k => pre545 t (by
                  refine XS.istore X545.here hx rfl (hb hby at_203) rfl (l' := #[.val (.int u0), .val (.int u1), .val (.int u2), .val (.int u3), .val (.int u4), .val (.ref b2), .val (.ref b15), .val (.ref b37), .val (.int q8_55), .val (.int q9_55), .val (.int q10_55), .val (.int q11_55), .val (.int w468), .val (.int (0 : Int32))]) rfl ?_
                  show Steps p.tables e below (T545.setTop (mkF m 205 #[.val (.int u0), .val (.int u1), .val (.int u2), .val (.int u3), .val (.int u4), .val (.ref b2), .val (.ref b15), .val (.ref b37), .val (.int q8_55), .val (.int q9_55), .val (.int q10_55), .val (.int q11_55), .val (.int w468), .val (.int (0 : Int32))] [])) _
                  refine XS.iload X545.here hx rfl (hb hby at_205) rfl ?_
                  refine XS.ifNo X545.here hx rfl (hb hby at_207) rfl ((if0 _ _).trans (flt (by decide)).1) ?_
                  refine XS.iload X545.here hx rfl (hb hby at_210) rfl ?_
                  refine XS.iconst X545.here hx rfl (hb hby at_212) ?_
                  refine XS.icmpNo X545.here hx rfl (hb hby at_213) rfl (flt (by decide)).2.2.1 ?_
                  refine XS.aload X545.here hx rfl (hb hby at_216) rfl rfl ?_
                  refine XS.iload X545.here hx rfl (hb hby at_218) rfl ?_
                  exact k)
              obtain ⟨c551, Ar551, q551, S551, M551, H551, G551⟩ := (id f549)
              have hin551 : ¬ ((0 : Int32) < 0 ∨ c551.slots.size ≤ ((0 : Int32)).toNatClampNeg) := inb_of S551 ⟨by decide, by decide⟩
              have pre551 : Go p.tables e below (s₁.setTop (entryFrame m #[(.int u0), (.int u1), (.int u2), (.int u3), (.int u4)] maxLocals)) T545 (mkF m 221 #[.val (.int u0), .val (.int u1), .val (.int u2), .val (.int u3), .val (.int u4), .val (.ref b2), .val (.ref b15), .val (.ref b37), .val (.int q8_55), .val (.int q9_55), .val (.int q10_55), .val (.int q11_55), .val (.int w468), .val (.int (0 : Int32))] [(.int (1 : Int32))]) := fun t k => pre550 t (X545.baloadBooleans hx (j := (0 : Int32)) (v := (.int (1 : Int32))) (by exact Ar551.1) (State.isArrayOf_alike hZ.alike Ar551.2.1) Ar551.2.2 hin551 (H551.at hin551 rfl) (g := (mkF m 220 #[.val (.int u0), .val (.int u1), .val (.int u2), .val (.int u3), .val (.int u4), .val (.ref b2), .val (.ref b15), .val (.ref b37), .val (.int q8_55), .val (.int q9_55), .val (.int q10_55), .val (.int q11_55), .val (.int w468), .val (.int (0 : Int32))] [(.int (0 : Int32)), (.ref b37)])) rfl rfl (hb hby at_220) _ k)
              have pre552 : Go p.tables e below (s₁.setTop (entryFrame m #[(.int u0), (.int u1), (.int u2), (.int u3), (.int u4)] maxLocals)) T545 (mkF m 231 #[.val (.int u0), .val (.int u1), .val (.int u2), .val (.int u3), .val (.int u4), .val (.ref b2), .val (.ref b15), .val (.ref b37), .val (.int q8_55), .val (.int q9_55), .val (.int q10_55), .val (.int q11_55), .val (.int w468), .val (.int (0 : Int32))] [(.int (0 : Int32)), (.int (0 : Int32)), (.ref b37)]) := fun t k => pre551 t (by
                  refine XS.ifYes X545.here hx rfl (pc0 := 221) (pc' := 226) rfl (hb hby at_221) rfl ((if0 _ _).trans (feq (by decide)).2) (by decide) (by decide) ?_
                  refine XS.aload X545.here hx rfl (hb hby at_226) rfl rfl ?_
                  refine XS.iload X545.here hx rfl (hb hby at_228) rfl ?_
                  refine XS.iconst X545.here hx rfl (hb hby at_230) ?_
                  exact k)
              obtain ⟨c553, Ar553, q553, S553, M553, H553, G553⟩ := (id f549)
              have hin553 : ¬ ((0 : Int32) < 0 ∨ c553.slots.size ≤ ((0 : Int32)).toNatClampNeg) := inb_of S553 ⟨by decide, by decide⟩
              obtain ⟨T553, h553, X553, e553, W553, st553⟩ := stZ X545 hx hZ rfl Ar553 (j := (0 : Int32)) hin553 (g := (mkF m 231 #[.val (.int u0), .val (.int u1), .val (.int u2), .val (.int u3), .val (.int u4), .val (.ref b2), .val (.ref b15), .val (.ref b37), .val (.int q8_55), .val (.int q9_55), .val (.int q10_55), .val (.int q11_55), .val (.int w468), .val (.int (0 : Int32))] [(.int (0 : Int32)), (.int (0 : Int32)), (.ref b37)])) rfl rfl (hb hby at_231)
              have fa553 : Arv Z h553 b37 k37 .boolean (3 : Int32) [(.int (0 : Int32)), (.int (1 : Int32)), (.int (1 : Int32))] (.int (0 : Int32)) := Arv.set Ar553 q553 S553 M553 H553 G553 (fits_nar_bool _) W553 0 rfl (Nat.le_of_ble_eq_true rfl)
              have N553 := Fr.snoc X553 N545 g42
              have f554 : n0 ≤ h553.size := Nat.le_trans f546 (Keep.of_wr W553).1
              have f555 : Arv Z h553 b2 k2 .double (3 : Int32) [(.double (FP.i2d (u0 &&& (3 : Int32)))), (.double (FP.i2d ((u0 >>> ((2 : Int32) &&& 31)) &&& (3 : Int32)))), (.double (FP.i2d ((u0 >>> ((4 : Int32) &&& 31)) &&& (3 : Int32))))] (.double 0) := f548.other W553 ne38
              have f556 : Exa Z h553 b15 "com/example/octopoll/octopoll/PageHeap" := fo545_0.wr W553
              have f557 : Fld Z h553 b15 "com/example/octopoll/octopoll/PageHeap" "key" "[D" (.ref b2) := fo545_1.other W553 (Or.inl ne39)
              have f558 : Fld Z h553 b15 "com/example/octopoll/octopoll/PageHeap" "heap" "[I" (.ref ha25) := fo545_2.other W553 (Or.inl ne39)
              have f559 : Fld Z h553 b15 "com/example/octopoll/octopoll/PageHeap" "position" "[I" (.ref pa25) := fo545_3.other W553 (Or.inl ne39)
              have f560 : Fld Z h553 b15 "com/example/octopoll/octopoll/PageHeap" "size" "I" (.int (2 : Int32)) := fo545_4.other W553 (Or.inl ne39)
              have f561 : Arv Z h553 ha25 kh25 .int (3 : Int32) [(.int z0545), (.int z1545), (.int z2545)] (.int (0 : Int32)) := fo545_5.other W553 ne40
              have f562 : Arv Z h553 pa25 kp25 .int (3 : Int32) [(.int z3545), (.int z4545), (.int z5545)] (.int (0 : Int32)) := fo545_6.other W553 ne41
              have pre553 : Go p.tables e below (s₁.setTop (entryFrame m #[(.int u0), (.int u1), (.int u2), (.int u3), (.int u4)] maxLocals)) T553 (mkF m 232 #[.val (.int u0), .val (.int u1), .val (.int u2), .val (.int u3), .val (.int u4), .val (.ref b2), .val (.ref b15), .val (.ref b37), .val (.int q8_55), .val (.int q9_55), .val (.int q10_55), .val (.int q11_55), .val (.int w468), .val (.int (0 : Int32))] []) := fun t k => pre552 t (st553 _ k)
              exact ⟨T553, _, h553, (.val (.int (0 : Int32))), false, true, true, z0545, z1545, z2545, z3545, z4545, z5545, X553, e553, N553, f554, f556, f557, f558, f559, f560, f555, f561, f562, fa553, po545_0, pre553⟩
            · -- z0_470 = (1 : Int32)
              have pre563 : Go p.tables e below (s₁.setTop (entryFrame m #[(.int u0), (.int u1), (.int u2), (.int u3), (.int u4)] maxLocals)) T470 (mkF m 200 #[.val (.int u0), .val (.int u1), .val (.int u2), .val (.int u3), .val (.int u4), .val (.ref b2), .val (.ref b15), .val (.ref b37), .val (.int q8_55), .val (.int q9_55), .val (.int q10_55), .val (.int q11_55), .val (.int w468), .unset] [(.ref b15)]) := fun t k => pre542 t (by
                  refine XS.aload X470.here hx rfl (hb hby at_198) rfl rfl ?_
                  exact k)
              obtain ⟨cq564, kq564, q564a, q564b, q564c⟩ := isOf hZ e470 fm470_1
              obtain ⟨_, _, ⟨T564, L564, k564, n564⟩, -, X564, ⟨Lc564, hQ564, l564, y564, z564⟩, st564⟩ := X470.virtualBack hx (y := (⟨"com/example/octopoll/octopoll/PageHeap", "poll", "()I"⟩ : MethodName)) (z := (⟨"com/example/octopoll/octopoll/PageHeap", "poll", "()I"⟩ : MethodName)) hown (mvT hZ (hw _ (List.mem_of_getElem? (i := 56) rfl))) (mvT hZ (hw _ (List.mem_of_getElem? (i := 57) rfl))) (notFace_of_selects (args := #[]) (mvT hZ (hw _ (List.mem_of_getElem? (i := 59) rfl)))) (mvT hZ (hw _ (List.mem_of_getElem? (i := 59) rfl))) (mvT hZ (hw _ (List.mem_of_getElem? (i := 58) rfl))) (by decide) (backOf (W := 0) (rm_pol1 l Z av0 hw [] b15 b2 ha25 pa25 k2 kh25 kp25 (FP.i2d (u0 &&& (3 : Int32))) (FP.i2d ((u0 >>> ((2 : Int32) &&& 31)) &&& (3 : Int32))) (FP.i2d ((u0 >>> ((4 : Int32) &&& 31)) &&& (3 : Int32))) z1_470 z2_470 z3_470 z4_470 z5_470 true true h470 n0 fm470_0 fm470_1 fm470_2 fm470_3 fm470_4 fm470_5 fm470_6 fm470_7 fm470_8 g17 gha25 gpa25 ne27 ne30 po25_0 ne16.symm ne26 ne29 pm470_0) hZ (hw _ (List.mem_of_getElem? (i := 60) rfl)) (hw _ (List.mem_of_getElem? (i := 3) rfl)) (by decide) (by decide)) q564a q564c (g := (mkF m 200 #[.val (.int u0), .val (.int u1), .val (.int u2), .val (.int u3), .val (.int u4), .val (.ref b2), .val (.ref b15), .val (.ref b37), .val (.int q8_55), .val (.int q9_55), .val (.int q10_55), .val (.int q11_55), .val (.int w468), .unset] [(.ref b15)])) rfl (by rw [hml]; rfl) (Steps.refl _) (argsL := []) (rest := []) (lenOf pd_5 rfl) rfl (by show 2 * 0 + _ ≤ _; exact Nat.le_of_eq rfl) (hb hby at_200) (fun _ _ => ⟨rfl, e470, (by decide : 5 + 0 ≤ _), (by decide : 16 + 0 ≤ _)⟩)
              dsimp only [Pt.U, Pt.locs, Pt.cells, Pt.slots] at X564 l564 y564 z564 st564 hQ564
              subst l564 y564 z564
              obtain ⟨z0564, z1564, z2564, z3564, z4564, z5564, hv564, N564q, K564, fo564_0, fo564_1, fo564_2, fo564_3, fo564_4, fo564_5, fo564_6, po564_0⟩ := hQ564
              have f565 := Nat.le_trans fm470_0 K564.1
              have f566 := fm470_1.keep K564
              have f567 := fm470_6.keep K564 (ninS ne16 (ninS ne26 (ninS ne29 nin0)))
              have f568 := fm470_9.keep K564 (ninS ne39.symm (ninS ne40.symm (ninS ne41.symm nin0)))
              subst hv564
              have N564 := Fr.app N470 N564q
              have pre564 : Go p.tables e below (s₁.setTop (entryFrame m #[(.int u0), (.int u1), (.int u2), (.int u3), (.int u4)] maxLocals)) T564 (mkF m 203 #[.val (.int u0), .val (.int u1), .val (.int u2), .val (.int u3), .val (.int u4), .val (.ref b2), .val (.ref b15), .val (.ref b37), .val (.int q8_55), .val (.int q9_55), .val (.int q10_55), .val (.int q11_55), .val (.int w468), .unset] [(.int (1 : Int32))]) := fun t k => pre563 t (st564.trans k)
              have pre569 : Go p.tables e below (s₁.setTop (entryFrame m #[(.int u0), (.int u1), (.int u2), (.int u3), (.int u4)] maxLocals)) T564 (mkF m 220 #[.val (.int u0), .val (.int u1), .val (.int u2), .val (.int u3), .val (.int u4), .val (.ref b2), .val (.ref b15), .val (.ref b37), .val (.int q8_55), .val (.int q9_55), .val (.int q10_55), .val (.int q11_55), .val (.int w468), .val (.int (1 : Int32))] [(.int (1 : Int32)), (.ref b37)]) := fun t k => pre564 t (by
                  refine XS.istore X564.here hx rfl (hb hby at_203) rfl (l' := #[.val (.int u0), .val (.int u1), .val (.int u2), .val (.int u3), .val (.int u4), .val (.ref b2), .val (.ref b15), .val (.ref b37), .val (.int q8_55), .val (.int q9_55), .val (.int q10_55), .val (.int q11_55), .val (.int w468), .val (.int (1 : Int32))]) rfl ?_
                  show Steps p.tables e below (T564.setTop (mkF m 205 #[.val (.int u0), .val (.int u1), .val (.int u2), .val (.int u3), .val (.int u4), .val (.ref b2), .val (.ref b15), .val (.ref b37), .val (.int q8_55), .val (.int q9_55), .val (.int q10_55), .val (.int q11_55), .val (.int w468), .val (.int (1 : Int32))] [])) _
                  refine XS.iload X564.here hx rfl (hb hby at_205) rfl ?_
                  refine XS.ifNo X564.here hx rfl (hb hby at_207) rfl ((if0 _ _).trans (flt (by decide)).1) ?_
                  refine XS.iload X564.here hx rfl (hb hby at_210) rfl ?_
                  refine XS.iconst X564.here hx rfl (hb hby at_212) ?_
                  refine XS.icmpNo X564.here hx rfl (hb hby at_213) rfl (flt (by decide)).2.2.1 ?_
                  refine XS.aload X564.here hx rfl (hb hby at_216) rfl rfl ?_
                  refine XS.iload X564.here hx rfl (hb hby at_218) rfl ?_
                  exact k)
              obtain ⟨c570, Ar570, q570, S570, M570, H570, G570⟩ := (id f568)
              have hin570 : ¬ ((1 : Int32) < 0 ∨ c570.slots.size ≤ ((1 : Int32)).toNatClampNeg) := inb_of S570 ⟨by decide, by decide⟩
              have pre570 : Go p.tables e below (s₁.setTop (entryFrame m #[(.int u0), (.int u1), (.int u2), (.int u3), (.int u4)] maxLocals)) T564 (mkF m 221 #[.val (.int u0), .val (.int u1), .val (.int u2), .val (.int u3), .val (.int u4), .val (.ref b2), .val (.ref b15), .val (.ref b37), .val (.int q8_55), .val (.int q9_55), .val (.int q10_55), .val (.int q11_55), .val (.int w468), .val (.int (1 : Int32))] [(.int (1 : Int32))]) := fun t k => pre569 t (X564.baloadBooleans hx (j := (1 : Int32)) (v := (.int (1 : Int32))) (by exact Ar570.1) (State.isArrayOf_alike hZ.alike Ar570.2.1) Ar570.2.2 hin570 (H570.at hin570 rfl) (g := (mkF m 220 #[.val (.int u0), .val (.int u1), .val (.int u2), .val (.int u3), .val (.int u4), .val (.ref b2), .val (.ref b15), .val (.ref b37), .val (.int q8_55), .val (.int q9_55), .val (.int q10_55), .val (.int q11_55), .val (.int w468), .val (.int (1 : Int32))] [(.int (1 : Int32)), (.ref b37)])) rfl rfl (hb hby at_220) _ k)
              have pre571 : Go p.tables e below (s₁.setTop (entryFrame m #[(.int u0), (.int u1), (.int u2), (.int u3), (.int u4)] maxLocals)) T564 (mkF m 231 #[.val (.int u0), .val (.int u1), .val (.int u2), .val (.int u3), .val (.int u4), .val (.ref b2), .val (.ref b15), .val (.ref b37), .val (.int q8_55), .val (.int q9_55), .val (.int q10_55), .val (.int q11_55), .val (.int w468), .val (.int (1 : Int32))] [(.int (0 : Int32)), (.int (1 : Int32)), (.ref b37)]) := fun t k => pre570 t (by
                  refine XS.ifYes X564.here hx rfl (pc0 := 221) (pc' := 226) rfl (hb hby at_221) rfl ((if0 _ _).trans (feq (by decide)).2) (by decide) (by decide) ?_
                  refine XS.aload X564.here hx rfl (hb hby at_226) rfl rfl ?_
                  refine XS.iload X564.here hx rfl (hb hby at_228) rfl ?_
                  refine XS.iconst X564.here hx rfl (hb hby at_230) ?_
                  exact k)
              obtain ⟨c572, Ar572, q572, S572, M572, H572, G572⟩ := (id f568)
              have hin572 : ¬ ((1 : Int32) < 0 ∨ c572.slots.size ≤ ((1 : Int32)).toNatClampNeg) := inb_of S572 ⟨by decide, by decide⟩
              obtain ⟨T572, h572, X572, e572, W572, st572⟩ := stZ X564 hx hZ rfl Ar572 (j := (1 : Int32)) hin572 (g := (mkF m 231 #[.val (.int u0), .val (.int u1), .val (.int u2), .val (.int u3), .val (.int u4), .val (.ref b2), .val (.ref b15), .val (.ref b37), .val (.int q8_55), .val (.int q9_55), .val (.int q10_55), .val (.int q11_55), .val (.int w468), .val (.int (1 : Int32))] [(.int (0 : Int32)), (.int (1 : Int32)), (.ref b37)])) rfl rfl (hb hby at_231)
              have fa572 : Arv Z h572 b37 k37 .boolean (3 : Int32) [(.int (1 : Int32)), (.int (0 : Int32)), (.int (1 : Int32))] (.int (0 : Int32)) := Arv.set Ar572 q572 S572 M572 H572 G572 (fits_nar_bool _) W572 1 rfl (Nat.le_of_ble_eq_true rfl)
              have N572 := Fr.snoc X572 N564 g42
              have f573 : n0 ≤ h572.size := Nat.le_trans f565 (Keep.of_wr W572).1
              have f574 : Arv Z h572 b2 k2 .double (3 : Int32) [(.double (FP.i2d (u0 &&& (3 : Int32)))), (.double (FP.i2d ((u0 >>> ((2 : Int32) &&& 31)) &&& (3 : Int32)))), (.double (FP.i2d ((u0 >>> ((4 : Int32) &&& 31)) &&& (3 : Int32))))] (.double 0) := f567.other W572 ne38
              have f575 : Exa Z h572 b15 "com/example/octopoll/octopoll/PageHeap" := fo564_0.wr W572
              have f576 : Fld Z h572 b15 "com/example/octopoll/octopoll/PageHeap" "key" "[D" (.ref b2) := fo564_1.other W572 (Or.inl ne39)
              have f577 : Fld Z h572 b15 "com/example/octopoll/octopoll/PageHeap" "heap" "[I" (.ref ha25) := fo564_2.other W572 (Or.inl ne39)
              have f578 : Fld Z h572 b15 "com/example/octopoll/octopoll/PageHeap" "position" "[I" (.ref pa25) := fo564_3.other W572 (Or.inl ne39)
              have f579 : Fld Z h572 b15 "com/example/octopoll/octopoll/PageHeap" "size" "I" (.int (2 : Int32)) := fo564_4.other W572 (Or.inl ne39)
              have f580 : Arv Z h572 ha25 kh25 .int (3 : Int32) [(.int z0564), (.int z1564), (.int z2564)] (.int (0 : Int32)) := fo564_5.other W572 ne40
              have f581 : Arv Z h572 pa25 kp25 .int (3 : Int32) [(.int z3564), (.int z4564), (.int z5564)] (.int (0 : Int32)) := fo564_6.other W572 ne41
              have pre572 : Go p.tables e below (s₁.setTop (entryFrame m #[(.int u0), (.int u1), (.int u2), (.int u3), (.int u4)] maxLocals)) T572 (mkF m 232 #[.val (.int u0), .val (.int u1), .val (.int u2), .val (.int u3), .val (.int u4), .val (.ref b2), .val (.ref b15), .val (.ref b37), .val (.int q8_55), .val (.int q9_55), .val (.int q10_55), .val (.int q11_55), .val (.int w468), .val (.int (1 : Int32))] []) := fun t k => pre571 t (st572 _ k)
              exact ⟨T572, _, h572, (.val (.int (1 : Int32))), true, false, true, z0564, z1564, z2564, z3564, z4564, z5564, X572, e572, N572, f573, f575, f576, f577, f578, f579, f574, f580, f581, fa572, po564_0, pre572⟩
            · -- z0_470 = (2 : Int32)
              have pre582 : Go p.tables e below (s₁.setTop (entryFrame m #[(.int u0), (.int u1), (.int u2), (.int u3), (.int u4)] maxLocals)) T470 (mkF m 200 #[.val (.int u0), .val (.int u1), .val (.int u2), .val (.int u3), .val (.int u4), .val (.ref b2), .val (.ref b15), .val (.ref b37), .val (.int q8_55), .val (.int q9_55), .val (.int q10_55), .val (.int q11_55), .val (.int w468), .unset] [(.ref b15)]) := fun t k => pre542 t (by
                  refine XS.aload X470.here hx rfl (hb hby at_198) rfl rfl ?_
                  exact k)
              obtain ⟨cq583, kq583, q583a, q583b, q583c⟩ := isOf hZ e470 fm470_1
              obtain ⟨_, _, ⟨T583, L583, k583, n583⟩, -, X583, ⟨Lc583, hQ583, l583, y583, z583⟩, st583⟩ := X470.virtualBack hx (y := (⟨"com/example/octopoll/octopoll/PageHeap", "poll", "()I"⟩ : MethodName)) (z := (⟨"com/example/octopoll/octopoll/PageHeap", "poll", "()I"⟩ : MethodName)) hown (mvT hZ (hw _ (List.mem_of_getElem? (i := 56) rfl))) (mvT hZ (hw _ (List.mem_of_getElem? (i := 57) rfl))) (notFace_of_selects (args := #[]) (mvT hZ (hw _ (List.mem_of_getElem? (i := 59) rfl)))) (mvT hZ (hw _ (List.mem_of_getElem? (i := 59) rfl))) (mvT hZ (hw _ (List.mem_of_getElem? (i := 58) rfl))) (by decide) (backOf (W := 0) (rm_pol2 l Z av0 hw [] b15 b2 ha25 pa25 k2 kh25 kp25 (FP.i2d (u0 &&& (3 : Int32))) (FP.i2d ((u0 >>> ((2 : Int32) &&& 31)) &&& (3 : Int32))) (FP.i2d ((u0 >>> ((4 : Int32) &&& 31)) &&& (3 : Int32))) z1_470 z2_470 z3_470 z4_470 z5_470 true true h470 n0 fm470_0 fm470_1 fm470_2 fm470_3 fm470_4 fm470_5 fm470_6 fm470_7 fm470_8 g17 gha25 gpa25 ne27 ne30 po25_0 ne16.symm ne26 ne29 pm470_0) hZ (hw _ (List.mem_of_getElem? (i := 60) rfl)) (hw _ (List.mem_of_getElem? (i := 3) rfl)) (by decide) (by decide)) q583a q583c (g := (mkF m 200 #[.val (.int u0), .val (.int u1), .val (.int u2), .val (.int u3), .val (.int u4), .val (.ref b2), .val (.ref b15), .val (.ref b37), .val (.int q8_55), .val (.int q9_55), .val (.int q10_55), .val (.int q11_55), .val (.int w468), .unset] [(.ref b15)])) rfl (by rw [hml]; rfl) (Steps.refl _) (argsL := []) (rest := []) (lenOf pd_5 rfl) rfl (by show 2 * 0 + _ ≤ _; exact Nat.le_of_eq rfl) (hb hby at_200) (fun _ _ => ⟨rfl, e470, (by decide : 5 + 0 ≤ _), (by decide : 16 + 0 ≤ _)⟩)
              dsimp only [Pt.U, Pt.locs, Pt.cells, Pt.slots] at X583 l583 y583 z583 st583 hQ583
              subst l583 y583 z583
              obtain ⟨z0583, z1583, z2583, z3583, z4583, z5583, hv583, N583q, K583, fo583_0, fo583_1, fo583_2, fo583_3, fo583_4, fo583_5, fo583_6, po583_0⟩ := hQ583
              have f584 := Nat.le_trans fm470_0 K583.1
              have f585 := fm470_1.keep K583
              have f586 := fm470_6.keep K583 (ninS ne16 (ninS ne26 (ninS ne29 nin0)))
              have f587 := fm470_9.keep K583 (ninS ne39.symm (ninS ne40.symm (ninS ne41.symm nin0)))
              subst hv583
              have N583 := Fr.app N470 N583q
              have pre583 : Go p.tables e below (s₁.setTop (entryFrame m #[(.int u0), (.int u1), (.int u2), (.int u3), (.int u4)] maxLocals)) T583 (mkF m 203 #[.val (.int u0), .val (.int u1), .val (.int u2), .val (.int u3), .val (.int u4), .val (.ref b2), .val (.ref b15), .val (.ref b37), .val (.int q8_55), .val (.int q9_55), .val (.int q10_55), .val (.int q11_55), .val (.int w468), .unset] [(.int (2 : Int32))]) := fun t k => pre582 t (st583.trans k)
              have pre588 : Go p.tables e below (s₁.setTop (entryFrame m #[(.int u0), (.int u1), (.int u2), (.int u3), (.int u4)] maxLocals)) T583 (mkF m 220 #[.val (.int u0), .val (.int u1), .val (.int u2), .val (.int u3), .val (.int u4), .val (.ref b2), .val (.ref b15), .val (.ref b37), .val (.int q8_55), .val (.int q9_55), .val (.int q10_55), .val (.int q11_55), .val (.int w468), .val (.int (2 : Int32))] [(.int (2 : Int32)), (.ref b37)]) := fun t k => pre583 t (by
                  refine XS.istore X583.here hx rfl (hb hby at_203) rfl (l' := #[.val (.int u0), .val (.int u1), .val (.int u2), .val (.int u3), .val (.int u4), .val (.ref b2), .val (.ref b15), .val (.ref b37), .val (.int q8_55), .val (.int q9_55), .val (.int q10_55), .val (.int q11_55), .val (.int w468), .val (.int (2 : Int32))]) rfl ?_
                  show Steps p.tables e below (T583.setTop (mkF m 205 #[.val (.int u0), .val (.int u1), .val (.int u2), .val (.int u3), .val (.int u4), .val (.ref b2), .val (.ref b15), .val (.ref b37), .val (.int q8_55), .val (.int q9_55), .val (.int q10_55), .val (.int q11_55), .val (.int w468), .val (.int (2 : Int32))] [])) _
                  refine XS.iload X583.here hx rfl (hb hby at_205) rfl ?_
                  refine XS.ifNo X583.here hx rfl (hb hby at_207) rfl ((if0 _ _).trans (flt (by decide)).1) ?_
                  refine XS.iload X583.here hx rfl (hb hby at_210) rfl ?_
                  refine XS.iconst X583.here hx rfl (hb hby at_212) ?_
                  refine XS.icmpNo X583.here hx rfl (hb hby at_213) rfl (flt (by decide)).2.2.1 ?_
                  refine XS.aload X583.here hx rfl (hb hby at_216) rfl rfl ?_
                  refine XS.iload X583.here hx rfl (hb hby at_218) rfl ?_
                  exact k)
              obtain ⟨c589, Ar589, q589, S589, M589, H589, G589⟩ := (id f587)
              have hin589 : ¬ ((2 : Int32) < 0 ∨ c589.slots.size ≤ ((2 : Int32)).toNatClampNeg) := inb_of S589 ⟨by decide, by decide⟩
              have pre589 : Go p.tables e below (s₁.setTop (entryFrame m #[(.int u0), (.int u1), (.int u2), (.int u3), (.int u4)] maxLocals)) T583 (mkF m 221 #[.val (.int u0), .val (.int u1), .val (.int u2), .val (.int u3), .val (.int u4), .val (.ref b2), .val (.ref b15), .val (.ref b37), .val (.int q8_55), .val (.int q9_55), .val (.int q10_55), .val (.int q11_55), .val (.int w468), .val (.int (2 : Int32))] [(.int (1 : Int32))]) := fun t k => pre588 t (X583.baloadBooleans hx (j := (2 : Int32)) (v := (.int (1 : Int32))) (by exact Ar589.1) (State.isArrayOf_alike hZ.alike Ar589.2.1) Ar589.2.2 hin589 (H589.at hin589 rfl) (g := (mkF m 220 #[.val (.int u0), .val (.int u1), .val (.int u2), .val (.int u3), .val (.int u4), .val (.ref b2), .val (.ref b15), .val (.ref b37), .val (.int q8_55), .val (.int q9_55), .val (.int q10_55), .val (.int q11_55), .val (.int w468), .val (.int (2 : Int32))] [(.int (2 : Int32)), (.ref b37)])) rfl rfl (hb hby at_220) _ k)
              have pre590 : Go p.tables e below (s₁.setTop (entryFrame m #[(.int u0), (.int u1), (.int u2), (.int u3), (.int u4)] maxLocals)) T583 (mkF m 231 #[.val (.int u0), .val (.int u1), .val (.int u2), .val (.int u3), .val (.int u4), .val (.ref b2), .val (.ref b15), .val (.ref b37), .val (.int q8_55), .val (.int q9_55), .val (.int q10_55), .val (.int q11_55), .val (.int w468), .val (.int (2 : Int32))] [(.int (0 : Int32)), (.int (2 : Int32)), (.ref b37)]) := fun t k => pre589 t (by
                  refine XS.ifYes X583.here hx rfl (pc0 := 221) (pc' := 226) rfl (hb hby at_221) rfl ((if0 _ _).trans (feq (by decide)).2) (by decide) (by decide) ?_
                  refine XS.aload X583.here hx rfl (hb hby at_226) rfl rfl ?_
                  refine XS.iload X583.here hx rfl (hb hby at_228) rfl ?_
                  refine XS.iconst X583.here hx rfl (hb hby at_230) ?_
                  exact k)
              obtain ⟨c591, Ar591, q591, S591, M591, H591, G591⟩ := (id f587)
              have hin591 : ¬ ((2 : Int32) < 0 ∨ c591.slots.size ≤ ((2 : Int32)).toNatClampNeg) := inb_of S591 ⟨by decide, by decide⟩
              obtain ⟨T591, h591, X591, e591, W591, st591⟩ := stZ X583 hx hZ rfl Ar591 (j := (2 : Int32)) hin591 (g := (mkF m 231 #[.val (.int u0), .val (.int u1), .val (.int u2), .val (.int u3), .val (.int u4), .val (.ref b2), .val (.ref b15), .val (.ref b37), .val (.int q8_55), .val (.int q9_55), .val (.int q10_55), .val (.int q11_55), .val (.int w468), .val (.int (2 : Int32))] [(.int (0 : Int32)), (.int (2 : Int32)), (.ref b37)])) rfl rfl (hb hby at_231)
              have fa591 : Arv Z h591 b37 k37 .boolean (3 : Int32) [(.int (1 : Int32)), (.int (1 : Int32)), (.int (0 : Int32))] (.int (0 : Int32)) := Arv.set Ar591 q591 S591 M591 H591 G591 (fits_nar_bool _) W591 2 rfl (Nat.le_of_ble_eq_true rfl)
              have N591 := Fr.snoc X591 N583 g42
              have f592 : n0 ≤ h591.size := Nat.le_trans f584 (Keep.of_wr W591).1
              have f593 : Arv Z h591 b2 k2 .double (3 : Int32) [(.double (FP.i2d (u0 &&& (3 : Int32)))), (.double (FP.i2d ((u0 >>> ((2 : Int32) &&& 31)) &&& (3 : Int32)))), (.double (FP.i2d ((u0 >>> ((4 : Int32) &&& 31)) &&& (3 : Int32))))] (.double 0) := f586.other W591 ne38
              have f594 : Exa Z h591 b15 "com/example/octopoll/octopoll/PageHeap" := fo583_0.wr W591
              have f595 : Fld Z h591 b15 "com/example/octopoll/octopoll/PageHeap" "key" "[D" (.ref b2) := fo583_1.other W591 (Or.inl ne39)
              have f596 : Fld Z h591 b15 "com/example/octopoll/octopoll/PageHeap" "heap" "[I" (.ref ha25) := fo583_2.other W591 (Or.inl ne39)
              have f597 : Fld Z h591 b15 "com/example/octopoll/octopoll/PageHeap" "position" "[I" (.ref pa25) := fo583_3.other W591 (Or.inl ne39)
              have f598 : Fld Z h591 b15 "com/example/octopoll/octopoll/PageHeap" "size" "I" (.int (2 : Int32)) := fo583_4.other W591 (Or.inl ne39)
              have f599 : Arv Z h591 ha25 kh25 .int (3 : Int32) [(.int z0583), (.int z1583), (.int z2583)] (.int (0 : Int32)) := fo583_5.other W591 ne40
              have f600 : Arv Z h591 pa25 kp25 .int (3 : Int32) [(.int z3583), (.int z4583), (.int z5583)] (.int (0 : Int32)) := fo583_6.other W591 ne41
              have pre591 : Go p.tables e below (s₁.setTop (entryFrame m #[(.int u0), (.int u1), (.int u2), (.int u3), (.int u4)] maxLocals)) T591 (mkF m 232 #[.val (.int u0), .val (.int u1), .val (.int u2), .val (.int u3), .val (.int u4), .val (.ref b2), .val (.ref b15), .val (.ref b37), .val (.int q8_55), .val (.int q9_55), .val (.int q10_55), .val (.int q11_55), .val (.int w468), .val (.int (2 : Int32))] []) := fun t k => pre590 t (st591 _ k)
              exact ⟨T591, _, h591, (.val (.int (2 : Int32))), true, true, false, z0583, z1583, z2583, z3583, z4583, z5583, X591, e591, N591, f592, f594, f595, f596, f597, f598, f593, f599, f600, fa591, po583_0, pre591⟩
          · -- bit 2 False
            have pre601 : Go p.tables e below (s₁.setTop (entryFrame m #[(.int u0), (.int u1), (.int u2), (.int u3), (.int u4)] maxLocals)) T470 (mkF m 180 #[.val (.int u0), .val (.int u1), .val (.int u2), .val (.int u3), .val (.int u4), .val (.ref b2), .val (.ref b15), .val (.ref b37), .val (.int q8_55), .val (.int q9_55), .val (.int q10_55), .val (.int q11_55), .val (.int w468), .unset] [(.int (0 : Int32)), (.ref b37)]) := fun t k => pre539 t (by
                refine XS.aload X470.here hx rfl (hb hby at_177) rfl rfl ?_
                refine XS.iconst X470.here hx rfl (hb hby at_179) ?_
                exact k)
            obtain ⟨c602, Ar602, q602, S602, M602, H602, G602⟩ := (id fm470_9)
            have hin602 : ¬ ((0 : Int32) < 0 ∨ c602.slots.size ≤ ((0 : Int32)).toNatClampNeg) := inb_of S602 ⟨by decide, by decide⟩
            have pre602 : Go p.tables e below (s₁.setTop (entryFrame m #[(.int u0), (.int u1), (.int u2), (.int u3), (.int u4)] maxLocals)) T470 (mkF m 181 #[.val (.int u0), .val (.int u1), .val (.int u2), .val (.int u3), .val (.int u4), .val (.ref b2), .val (.ref b15), .val (.ref b37), .val (.int q8_55), .val (.int q9_55), .val (.int q10_55), .val (.int q11_55), .val (.int w468), .unset] [(.int (1 : Int32))]) := fun t k => pre601 t (X470.baloadBooleans hx (j := (0 : Int32)) (v := (.int (1 : Int32))) (by rw [e470]; exact Ar602.1) (State.isArrayOf_alike hZ.alike Ar602.2.1) Ar602.2.2 hin602 (H602.at hin602 rfl) (g := (mkF m 180 #[.val (.int u0), .val (.int u1), .val (.int u2), .val (.int u3), .val (.int u4), .val (.ref b2), .val (.ref b15), .val (.ref b37), .val (.int q8_55), .val (.int q9_55), .val (.int q10_55), .val (.int q11_55), .val (.int w468), .unset] [(.int (0 : Int32)), (.ref b37)])) rfl rfl (hb hby at_180) _ k)
            have pre603 : Go p.tables e below (s₁.setTop (entryFrame m #[(.int u0), (.int u1), (.int u2), (.int u3), (.int u4)] maxLocals)) T470 (mkF m 198 #[.val (.int u0), .val (.int u1), .val (.int u2), .val (.int u3), .val (.int u4), .val (.ref b2), .val (.ref b15), .val (.ref b37), .val (.int q8_55), .val (.int q9_55), .val (.int q10_55), .val (.int q11_55), .val (.int w468), .unset] []) := fun t k => pre602 t (by
                refine XS.ifYes X470.here hx rfl (pc0 := 181) (pc' := 198) rfl (hb hby at_181) rfl ((if0 _ _).trans (feq (by decide)).2) (by decide) (by decide) ?_
                exact k)
            have hz604 : z0_470 = 0 ∨ z0_470 = 1 := (by decide +kernel : ∀ t ∈ own_S true true false, t.1 = 0 ∨ t.1 = 1) _ pm470_0
            rcases (hz604) with rfl | rfl
            · -- z0_470 = (0 : Int32)
              have pre605 : Go p.tables e below (s₁.setTop (entryFrame m #[(.int u0), (.int u1), (.int u2), (.int u3), (.int u4)] maxLocals)) T470 (mkF m 200 #[.val (.int u0), .val (.int u1), .val (.int u2), .val (.int u3), .val (.int u4), .val (.ref b2), .val (.ref b15), .val (.ref b37), .val (.int q8_55), .val (.int q9_55), .val (.int q10_55), .val (.int q11_55), .val (.int w468), .unset] [(.ref b15)]) := fun t k => pre603 t (by
                  refine XS.aload X470.here hx rfl (hb hby at_198) rfl rfl ?_
                  exact k)
              obtain ⟨cq606, kq606, q606a, q606b, q606c⟩ := isOf hZ e470 fm470_1
              obtain ⟨_, _, ⟨T606, L606, k606, n606⟩, -, X606, ⟨Lc606, hQ606, l606, y606, z606⟩, st606⟩ := X470.virtualBack hx (y := (⟨"com/example/octopoll/octopoll/PageHeap", "poll", "()I"⟩ : MethodName)) (z := (⟨"com/example/octopoll/octopoll/PageHeap", "poll", "()I"⟩ : MethodName)) hown (mvT hZ (hw _ (List.mem_of_getElem? (i := 56) rfl))) (mvT hZ (hw _ (List.mem_of_getElem? (i := 57) rfl))) (notFace_of_selects (args := #[]) (mvT hZ (hw _ (List.mem_of_getElem? (i := 59) rfl)))) (mvT hZ (hw _ (List.mem_of_getElem? (i := 59) rfl))) (mvT hZ (hw _ (List.mem_of_getElem? (i := 58) rfl))) (by decide) (backOf (W := 0) (rm_pol0 l Z av0 hw [] b15 b2 ha25 pa25 k2 kh25 kp25 (FP.i2d (u0 &&& (3 : Int32))) (FP.i2d ((u0 >>> ((2 : Int32) &&& 31)) &&& (3 : Int32))) (FP.i2d ((u0 >>> ((4 : Int32) &&& 31)) &&& (3 : Int32))) z1_470 z2_470 z3_470 z4_470 z5_470 true false h470 n0 fm470_0 fm470_1 fm470_2 fm470_3 fm470_4 fm470_5 fm470_6 fm470_7 fm470_8 g17 gha25 gpa25 ne27 ne30 po25_0 ne16.symm ne26 ne29 pm470_0) hZ (hw _ (List.mem_of_getElem? (i := 60) rfl)) (hw _ (List.mem_of_getElem? (i := 3) rfl)) (by decide) (by decide)) q606a q606c (g := (mkF m 200 #[.val (.int u0), .val (.int u1), .val (.int u2), .val (.int u3), .val (.int u4), .val (.ref b2), .val (.ref b15), .val (.ref b37), .val (.int q8_55), .val (.int q9_55), .val (.int q10_55), .val (.int q11_55), .val (.int w468), .unset] [(.ref b15)])) rfl (by rw [hml]; rfl) (Steps.refl _) (argsL := []) (rest := []) (lenOf pd_5 rfl) rfl (by show 2 * 0 + _ ≤ _; exact Nat.le_of_eq rfl) (hb hby at_200) (fun _ _ => ⟨rfl, e470, (by decide : 5 + 0 ≤ _), (by decide : 16 + 0 ≤ _)⟩)
              dsimp only [Pt.U, Pt.locs, Pt.cells, Pt.slots] at X606 l606 y606 z606 st606 hQ606
              subst l606 y606 z606
              obtain ⟨z0606, z1606, z2606, z3606, z4606, z5606, hv606, N606q, K606, fo606_0, fo606_1, fo606_2, fo606_3, fo606_4, fo606_5, fo606_6, po606_0⟩ := hQ606
              have f607 := Nat.le_trans fm470_0 K606.1
              have f608 := fm470_1.keep K606
              have f609 := fm470_6.keep K606 (ninS ne16 (ninS ne26 (ninS ne29 nin0)))
              have f610 := fm470_9.keep K606 (ninS ne39.symm (ninS ne40.symm (ninS ne41.symm nin0)))
              subst hv606
              have N606 := Fr.app N470 N606q
              have pre606 : Go p.tables e below (s₁.setTop (entryFrame m #[(.int u0), (.int u1), (.int u2), (.int u3), (.int u4)] maxLocals)) T606 (mkF m 203 #[.val (.int u0), .val (.int u1), .val (.int u2), .val (.int u3), .val (.int u4), .val (.ref b2), .val (.ref b15), .val (.ref b37), .val (.int q8_55), .val (.int q9_55), .val (.int q10_55), .val (.int q11_55), .val (.int w468), .unset] [(.int (0 : Int32))]) := fun t k => pre605 t (st606.trans k)
              have pre611 : Go p.tables e below (s₁.setTop (entryFrame m #[(.int u0), (.int u1), (.int u2), (.int u3), (.int u4)] maxLocals)) T606 (mkF m 220 #[.val (.int u0), .val (.int u1), .val (.int u2), .val (.int u3), .val (.int u4), .val (.ref b2), .val (.ref b15), .val (.ref b37), .val (.int q8_55), .val (.int q9_55), .val (.int q10_55), .val (.int q11_55), .val (.int w468), .val (.int (0 : Int32))] [(.int (0 : Int32)), (.ref b37)]) := fun t k => pre606 t (by
                  refine XS.istore X606.here hx rfl (hb hby at_203) rfl (l' := #[.val (.int u0), .val (.int u1), .val (.int u2), .val (.int u3), .val (.int u4), .val (.ref b2), .val (.ref b15), .val (.ref b37), .val (.int q8_55), .val (.int q9_55), .val (.int q10_55), .val (.int q11_55), .val (.int w468), .val (.int (0 : Int32))]) rfl ?_
                  show Steps p.tables e below (T606.setTop (mkF m 205 #[.val (.int u0), .val (.int u1), .val (.int u2), .val (.int u3), .val (.int u4), .val (.ref b2), .val (.ref b15), .val (.ref b37), .val (.int q8_55), .val (.int q9_55), .val (.int q10_55), .val (.int q11_55), .val (.int w468), .val (.int (0 : Int32))] [])) _
                  refine XS.iload X606.here hx rfl (hb hby at_205) rfl ?_
                  refine XS.ifNo X606.here hx rfl (hb hby at_207) rfl ((if0 _ _).trans (flt (by decide)).1) ?_
                  refine XS.iload X606.here hx rfl (hb hby at_210) rfl ?_
                  refine XS.iconst X606.here hx rfl (hb hby at_212) ?_
                  refine XS.icmpNo X606.here hx rfl (hb hby at_213) rfl (flt (by decide)).2.2.1 ?_
                  refine XS.aload X606.here hx rfl (hb hby at_216) rfl rfl ?_
                  refine XS.iload X606.here hx rfl (hb hby at_218) rfl ?_
                  exact k)
              obtain ⟨c612, Ar612, q612, S612, M612, H612, G612⟩ := (id f610)
              have hin612 : ¬ ((0 : Int32) < 0 ∨ c612.slots.size ≤ ((0 : Int32)).toNatClampNeg) := inb_of S612 ⟨by decide, by decide⟩
              have pre612 : Go p.tables e below (s₁.setTop (entryFrame m #[(.int u0), (.int u1), (.int u2), (.int u3), (.int u4)] maxLocals)) T606 (mkF m 221 #[.val (.int u0), .val (.int u1), .val (.int u2), .val (.int u3), .val (.int u4), .val (.ref b2), .val (.ref b15), .val (.ref b37), .val (.int q8_55), .val (.int q9_55), .val (.int q10_55), .val (.int q11_55), .val (.int w468), .val (.int (0 : Int32))] [(.int (1 : Int32))]) := fun t k => pre611 t (X606.baloadBooleans hx (j := (0 : Int32)) (v := (.int (1 : Int32))) (by exact Ar612.1) (State.isArrayOf_alike hZ.alike Ar612.2.1) Ar612.2.2 hin612 (H612.at hin612 rfl) (g := (mkF m 220 #[.val (.int u0), .val (.int u1), .val (.int u2), .val (.int u3), .val (.int u4), .val (.ref b2), .val (.ref b15), .val (.ref b37), .val (.int q8_55), .val (.int q9_55), .val (.int q10_55), .val (.int q11_55), .val (.int w468), .val (.int (0 : Int32))] [(.int (0 : Int32)), (.ref b37)])) rfl rfl (hb hby at_220) _ k)
              have pre613 : Go p.tables e below (s₁.setTop (entryFrame m #[(.int u0), (.int u1), (.int u2), (.int u3), (.int u4)] maxLocals)) T606 (mkF m 231 #[.val (.int u0), .val (.int u1), .val (.int u2), .val (.int u3), .val (.int u4), .val (.ref b2), .val (.ref b15), .val (.ref b37), .val (.int q8_55), .val (.int q9_55), .val (.int q10_55), .val (.int q11_55), .val (.int w468), .val (.int (0 : Int32))] [(.int (0 : Int32)), (.int (0 : Int32)), (.ref b37)]) := fun t k => pre612 t (by
                  refine XS.ifYes X606.here hx rfl (pc0 := 221) (pc' := 226) rfl (hb hby at_221) rfl ((if0 _ _).trans (feq (by decide)).2) (by decide) (by decide) ?_
                  refine XS.aload X606.here hx rfl (hb hby at_226) rfl rfl ?_
                  refine XS.iload X606.here hx rfl (hb hby at_228) rfl ?_
                  refine XS.iconst X606.here hx rfl (hb hby at_230) ?_
                  exact k)
              obtain ⟨c614, Ar614, q614, S614, M614, H614, G614⟩ := (id f610)
              have hin614 : ¬ ((0 : Int32) < 0 ∨ c614.slots.size ≤ ((0 : Int32)).toNatClampNeg) := inb_of S614 ⟨by decide, by decide⟩
              obtain ⟨T614, h614, X614, e614, W614, st614⟩ := stZ X606 hx hZ rfl Ar614 (j := (0 : Int32)) hin614 (g := (mkF m 231 #[.val (.int u0), .val (.int u1), .val (.int u2), .val (.int u3), .val (.int u4), .val (.ref b2), .val (.ref b15), .val (.ref b37), .val (.int q8_55), .val (.int q9_55), .val (.int q10_55), .val (.int q11_55), .val (.int w468), .val (.int (0 : Int32))] [(.int (0 : Int32)), (.int (0 : Int32)), (.ref b37)])) rfl rfl (hb hby at_231)
              have fa614 : Arv Z h614 b37 k37 .boolean (3 : Int32) [(.int (0 : Int32)), (.int (1 : Int32)), (.int (0 : Int32))] (.int (0 : Int32)) := Arv.set Ar614 q614 S614 M614 H614 G614 (fits_nar_bool _) W614 0 rfl (Nat.le_of_ble_eq_true rfl)
              have N614 := Fr.snoc X614 N606 g42
              have f615 : n0 ≤ h614.size := Nat.le_trans f607 (Keep.of_wr W614).1
              have f616 : Arv Z h614 b2 k2 .double (3 : Int32) [(.double (FP.i2d (u0 &&& (3 : Int32)))), (.double (FP.i2d ((u0 >>> ((2 : Int32) &&& 31)) &&& (3 : Int32)))), (.double (FP.i2d ((u0 >>> ((4 : Int32) &&& 31)) &&& (3 : Int32))))] (.double 0) := f609.other W614 ne38
              have f617 : Exa Z h614 b15 "com/example/octopoll/octopoll/PageHeap" := fo606_0.wr W614
              have f618 : Fld Z h614 b15 "com/example/octopoll/octopoll/PageHeap" "key" "[D" (.ref b2) := fo606_1.other W614 (Or.inl ne39)
              have f619 : Fld Z h614 b15 "com/example/octopoll/octopoll/PageHeap" "heap" "[I" (.ref ha25) := fo606_2.other W614 (Or.inl ne39)
              have f620 : Fld Z h614 b15 "com/example/octopoll/octopoll/PageHeap" "position" "[I" (.ref pa25) := fo606_3.other W614 (Or.inl ne39)
              have f621 : Fld Z h614 b15 "com/example/octopoll/octopoll/PageHeap" "size" "I" (.int (1 : Int32)) := fo606_4.other W614 (Or.inl ne39)
              have f622 : Arv Z h614 ha25 kh25 .int (3 : Int32) [(.int z0606), (.int z1606), (.int z2606)] (.int (0 : Int32)) := fo606_5.other W614 ne40
              have f623 : Arv Z h614 pa25 kp25 .int (3 : Int32) [(.int z3606), (.int z4606), (.int z5606)] (.int (0 : Int32)) := fo606_6.other W614 ne41
              have pre614 : Go p.tables e below (s₁.setTop (entryFrame m #[(.int u0), (.int u1), (.int u2), (.int u3), (.int u4)] maxLocals)) T614 (mkF m 232 #[.val (.int u0), .val (.int u1), .val (.int u2), .val (.int u3), .val (.int u4), .val (.ref b2), .val (.ref b15), .val (.ref b37), .val (.int q8_55), .val (.int q9_55), .val (.int q10_55), .val (.int q11_55), .val (.int w468), .val (.int (0 : Int32))] []) := fun t k => pre613 t (st614 _ k)
              exact ⟨T614, _, h614, (.val (.int (0 : Int32))), false, true, false, z0606, z1606, z2606, z3606, z4606, z5606, X614, e614, N614, f615, f617, f618, f619, f620, f621, f616, f622, f623, fa614, po606_0, pre614⟩
            · -- z0_470 = (1 : Int32)
              have pre624 : Go p.tables e below (s₁.setTop (entryFrame m #[(.int u0), (.int u1), (.int u2), (.int u3), (.int u4)] maxLocals)) T470 (mkF m 200 #[.val (.int u0), .val (.int u1), .val (.int u2), .val (.int u3), .val (.int u4), .val (.ref b2), .val (.ref b15), .val (.ref b37), .val (.int q8_55), .val (.int q9_55), .val (.int q10_55), .val (.int q11_55), .val (.int w468), .unset] [(.ref b15)]) := fun t k => pre603 t (by
                  refine XS.aload X470.here hx rfl (hb hby at_198) rfl rfl ?_
                  exact k)
              obtain ⟨cq625, kq625, q625a, q625b, q625c⟩ := isOf hZ e470 fm470_1
              obtain ⟨_, _, ⟨T625, L625, k625, n625⟩, -, X625, ⟨Lc625, hQ625, l625, y625, z625⟩, st625⟩ := X470.virtualBack hx (y := (⟨"com/example/octopoll/octopoll/PageHeap", "poll", "()I"⟩ : MethodName)) (z := (⟨"com/example/octopoll/octopoll/PageHeap", "poll", "()I"⟩ : MethodName)) hown (mvT hZ (hw _ (List.mem_of_getElem? (i := 56) rfl))) (mvT hZ (hw _ (List.mem_of_getElem? (i := 57) rfl))) (notFace_of_selects (args := #[]) (mvT hZ (hw _ (List.mem_of_getElem? (i := 59) rfl)))) (mvT hZ (hw _ (List.mem_of_getElem? (i := 59) rfl))) (mvT hZ (hw _ (List.mem_of_getElem? (i := 58) rfl))) (by decide) (backOf (W := 0) (rm_pol1 l Z av0 hw [] b15 b2 ha25 pa25 k2 kh25 kp25 (FP.i2d (u0 &&& (3 : Int32))) (FP.i2d ((u0 >>> ((2 : Int32) &&& 31)) &&& (3 : Int32))) (FP.i2d ((u0 >>> ((4 : Int32) &&& 31)) &&& (3 : Int32))) z1_470 z2_470 z3_470 z4_470 z5_470 true false h470 n0 fm470_0 fm470_1 fm470_2 fm470_3 fm470_4 fm470_5 fm470_6 fm470_7 fm470_8 g17 gha25 gpa25 ne27 ne30 po25_0 ne16.symm ne26 ne29 pm470_0) hZ (hw _ (List.mem_of_getElem? (i := 60) rfl)) (hw _ (List.mem_of_getElem? (i := 3) rfl)) (by decide) (by decide)) q625a q625c (g := (mkF m 200 #[.val (.int u0), .val (.int u1), .val (.int u2), .val (.int u3), .val (.int u4), .val (.ref b2), .val (.ref b15), .val (.ref b37), .val (.int q8_55), .val (.int q9_55), .val (.int q10_55), .val (.int q11_55), .val (.int w468), .unset] [(.ref b15)])) rfl (by rw [hml]; rfl) (Steps.refl _) (argsL := []) (rest := []) (lenOf pd_5 rfl) rfl (by show 2 * 0 + _ ≤ _; exact Nat.le_of_eq rfl) (hb hby at_200) (fun _ _ => ⟨rfl, e470, (by decide : 5 + 0 ≤ _), (by decide : 16 + 0 ≤ _)⟩)
              dsimp only [Pt.U, Pt.locs, Pt.cells, Pt.slots] at X625 l625 y625 z625 st625 hQ625
              subst l625 y625 z625
              obtain ⟨z0625, z1625, z2625, z3625, z4625, z5625, hv625, N625q, K625, fo625_0, fo625_1, fo625_2, fo625_3, fo625_4, fo625_5, fo625_6, po625_0⟩ := hQ625
              have f626 := Nat.le_trans fm470_0 K625.1
              have f627 := fm470_1.keep K625
              have f628 := fm470_6.keep K625 (ninS ne16 (ninS ne26 (ninS ne29 nin0)))
              have f629 := fm470_9.keep K625 (ninS ne39.symm (ninS ne40.symm (ninS ne41.symm nin0)))
              subst hv625
              have N625 := Fr.app N470 N625q
              have pre625 : Go p.tables e below (s₁.setTop (entryFrame m #[(.int u0), (.int u1), (.int u2), (.int u3), (.int u4)] maxLocals)) T625 (mkF m 203 #[.val (.int u0), .val (.int u1), .val (.int u2), .val (.int u3), .val (.int u4), .val (.ref b2), .val (.ref b15), .val (.ref b37), .val (.int q8_55), .val (.int q9_55), .val (.int q10_55), .val (.int q11_55), .val (.int w468), .unset] [(.int (1 : Int32))]) := fun t k => pre624 t (st625.trans k)
              have pre630 : Go p.tables e below (s₁.setTop (entryFrame m #[(.int u0), (.int u1), (.int u2), (.int u3), (.int u4)] maxLocals)) T625 (mkF m 220 #[.val (.int u0), .val (.int u1), .val (.int u2), .val (.int u3), .val (.int u4), .val (.ref b2), .val (.ref b15), .val (.ref b37), .val (.int q8_55), .val (.int q9_55), .val (.int q10_55), .val (.int q11_55), .val (.int w468), .val (.int (1 : Int32))] [(.int (1 : Int32)), (.ref b37)]) := fun t k => pre625 t (by
                  refine XS.istore X625.here hx rfl (hb hby at_203) rfl (l' := #[.val (.int u0), .val (.int u1), .val (.int u2), .val (.int u3), .val (.int u4), .val (.ref b2), .val (.ref b15), .val (.ref b37), .val (.int q8_55), .val (.int q9_55), .val (.int q10_55), .val (.int q11_55), .val (.int w468), .val (.int (1 : Int32))]) rfl ?_
                  show Steps p.tables e below (T625.setTop (mkF m 205 #[.val (.int u0), .val (.int u1), .val (.int u2), .val (.int u3), .val (.int u4), .val (.ref b2), .val (.ref b15), .val (.ref b37), .val (.int q8_55), .val (.int q9_55), .val (.int q10_55), .val (.int q11_55), .val (.int w468), .val (.int (1 : Int32))] [])) _
                  refine XS.iload X625.here hx rfl (hb hby at_205) rfl ?_
                  refine XS.ifNo X625.here hx rfl (hb hby at_207) rfl ((if0 _ _).trans (flt (by decide)).1) ?_
                  refine XS.iload X625.here hx rfl (hb hby at_210) rfl ?_
                  refine XS.iconst X625.here hx rfl (hb hby at_212) ?_
                  refine XS.icmpNo X625.here hx rfl (hb hby at_213) rfl (flt (by decide)).2.2.1 ?_
                  refine XS.aload X625.here hx rfl (hb hby at_216) rfl rfl ?_
                  refine XS.iload X625.here hx rfl (hb hby at_218) rfl ?_
                  exact k)
              obtain ⟨c631, Ar631, q631, S631, M631, H631, G631⟩ := (id f629)
              have hin631 : ¬ ((1 : Int32) < 0 ∨ c631.slots.size ≤ ((1 : Int32)).toNatClampNeg) := inb_of S631 ⟨by decide, by decide⟩
              have pre631 : Go p.tables e below (s₁.setTop (entryFrame m #[(.int u0), (.int u1), (.int u2), (.int u3), (.int u4)] maxLocals)) T625 (mkF m 221 #[.val (.int u0), .val (.int u1), .val (.int u2), .val (.int u3), .val (.int u4), .val (.ref b2), .val (.ref b15), .val (.ref b37), .val (.int q8_55), .val (.int q9_55), .val (.int q10_55), .val (.int q11_55), .val (.int w468), .val (.int (1 : Int32))] [(.int (1 : Int32))]) := fun t k => pre630 t (X625.baloadBooleans hx (j := (1 : Int32)) (v := (.int (1 : Int32))) (by exact Ar631.1) (State.isArrayOf_alike hZ.alike Ar631.2.1) Ar631.2.2 hin631 (H631.at hin631 rfl) (g := (mkF m 220 #[.val (.int u0), .val (.int u1), .val (.int u2), .val (.int u3), .val (.int u4), .val (.ref b2), .val (.ref b15), .val (.ref b37), .val (.int q8_55), .val (.int q9_55), .val (.int q10_55), .val (.int q11_55), .val (.int w468), .val (.int (1 : Int32))] [(.int (1 : Int32)), (.ref b37)])) rfl rfl (hb hby at_220) _ k)
              have pre632 : Go p.tables e below (s₁.setTop (entryFrame m #[(.int u0), (.int u1), (.int u2), (.int u3), (.int u4)] maxLocals)) T625 (mkF m 231 #[.val (.int u0), .val (.int u1), .val (.int u2), .val (.int u3), .val (.int u4), .val (.ref b2), .val (.ref b15), .val (.ref b37), .val (.int q8_55), .val (.int q9_55), .val (.int q10_55), .val (.int q11_55), .val (.int w468), .val (.int (1 : Int32))] [(.int (0 : Int32)), (.int (1 : Int32)), (.ref b37)]) := fun t k => pre631 t (by
                  refine XS.ifYes X625.here hx rfl (pc0 := 221) (pc' := 226) rfl (hb hby at_221) rfl ((if0 _ _).trans (feq (by decide)).2) (by decide) (by decide) ?_
                  refine XS.aload X625.here hx rfl (hb hby at_226) rfl rfl ?_
                  refine XS.iload X625.here hx rfl (hb hby at_228) rfl ?_
                  refine XS.iconst X625.here hx rfl (hb hby at_230) ?_
                  exact k)
              obtain ⟨c633, Ar633, q633, S633, M633, H633, G633⟩ := (id f629)
              have hin633 : ¬ ((1 : Int32) < 0 ∨ c633.slots.size ≤ ((1 : Int32)).toNatClampNeg) := inb_of S633 ⟨by decide, by decide⟩
              obtain ⟨T633, h633, X633, e633, W633, st633⟩ := stZ X625 hx hZ rfl Ar633 (j := (1 : Int32)) hin633 (g := (mkF m 231 #[.val (.int u0), .val (.int u1), .val (.int u2), .val (.int u3), .val (.int u4), .val (.ref b2), .val (.ref b15), .val (.ref b37), .val (.int q8_55), .val (.int q9_55), .val (.int q10_55), .val (.int q11_55), .val (.int w468), .val (.int (1 : Int32))] [(.int (0 : Int32)), (.int (1 : Int32)), (.ref b37)])) rfl rfl (hb hby at_231)
              have fa633 : Arv Z h633 b37 k37 .boolean (3 : Int32) [(.int (1 : Int32)), (.int (0 : Int32)), (.int (0 : Int32))] (.int (0 : Int32)) := Arv.set Ar633 q633 S633 M633 H633 G633 (fits_nar_bool _) W633 1 rfl (Nat.le_of_ble_eq_true rfl)
              have N633 := Fr.snoc X633 N625 g42
              have f634 : n0 ≤ h633.size := Nat.le_trans f626 (Keep.of_wr W633).1
              have f635 : Arv Z h633 b2 k2 .double (3 : Int32) [(.double (FP.i2d (u0 &&& (3 : Int32)))), (.double (FP.i2d ((u0 >>> ((2 : Int32) &&& 31)) &&& (3 : Int32)))), (.double (FP.i2d ((u0 >>> ((4 : Int32) &&& 31)) &&& (3 : Int32))))] (.double 0) := f628.other W633 ne38
              have f636 : Exa Z h633 b15 "com/example/octopoll/octopoll/PageHeap" := fo625_0.wr W633
              have f637 : Fld Z h633 b15 "com/example/octopoll/octopoll/PageHeap" "key" "[D" (.ref b2) := fo625_1.other W633 (Or.inl ne39)
              have f638 : Fld Z h633 b15 "com/example/octopoll/octopoll/PageHeap" "heap" "[I" (.ref ha25) := fo625_2.other W633 (Or.inl ne39)
              have f639 : Fld Z h633 b15 "com/example/octopoll/octopoll/PageHeap" "position" "[I" (.ref pa25) := fo625_3.other W633 (Or.inl ne39)
              have f640 : Fld Z h633 b15 "com/example/octopoll/octopoll/PageHeap" "size" "I" (.int (1 : Int32)) := fo625_4.other W633 (Or.inl ne39)
              have f641 : Arv Z h633 ha25 kh25 .int (3 : Int32) [(.int z0625), (.int z1625), (.int z2625)] (.int (0 : Int32)) := fo625_5.other W633 ne40
              have f642 : Arv Z h633 pa25 kp25 .int (3 : Int32) [(.int z3625), (.int z4625), (.int z5625)] (.int (0 : Int32)) := fo625_6.other W633 ne41
              have pre633 : Go p.tables e below (s₁.setTop (entryFrame m #[(.int u0), (.int u1), (.int u2), (.int u3), (.int u4)] maxLocals)) T633 (mkF m 232 #[.val (.int u0), .val (.int u1), .val (.int u2), .val (.int u3), .val (.int u4), .val (.ref b2), .val (.ref b15), .val (.ref b37), .val (.int q8_55), .val (.int q9_55), .val (.int q10_55), .val (.int q11_55), .val (.int w468), .val (.int (1 : Int32))] []) := fun t k => pre632 t (st633 _ k)
              exact ⟨T633, _, h633, (.val (.int (1 : Int32))), true, false, false, z0625, z1625, z2625, z3625, z4625, z5625, X633, e633, N633, f634, f636, f637, f638, f639, f640, f635, f641, f642, fa633, po625_0, pre633⟩
        · -- bit 1 False
          rcases own_tf b2_470 with rfl | rfl
          · -- bit 2 True
            have pre643 : Go p.tables e below (s₁.setTop (entryFrame m #[(.int u0), (.int u1), (.int u2), (.int u3), (.int u4)] maxLocals)) T470 (mkF m 180 #[.val (.int u0), .val (.int u1), .val (.int u2), .val (.int u3), .val (.int u4), .val (.ref b2), .val (.ref b15), .val (.ref b37), .val (.int q8_55), .val (.int q9_55), .val (.int q10_55), .val (.int q11_55), .val (.int w468), .unset] [(.int (0 : Int32)), (.ref b37)]) := fun t k => pre539 t (by
                refine XS.aload X470.here hx rfl (hb hby at_177) rfl rfl ?_
                refine XS.iconst X470.here hx rfl (hb hby at_179) ?_
                exact k)
            obtain ⟨c644, Ar644, q644, S644, M644, H644, G644⟩ := (id fm470_9)
            have hin644 : ¬ ((0 : Int32) < 0 ∨ c644.slots.size ≤ ((0 : Int32)).toNatClampNeg) := inb_of S644 ⟨by decide, by decide⟩
            have pre644 : Go p.tables e below (s₁.setTop (entryFrame m #[(.int u0), (.int u1), (.int u2), (.int u3), (.int u4)] maxLocals)) T470 (mkF m 181 #[.val (.int u0), .val (.int u1), .val (.int u2), .val (.int u3), .val (.int u4), .val (.ref b2), .val (.ref b15), .val (.ref b37), .val (.int q8_55), .val (.int q9_55), .val (.int q10_55), .val (.int q11_55), .val (.int w468), .unset] [(.int (1 : Int32))]) := fun t k => pre643 t (X470.baloadBooleans hx (j := (0 : Int32)) (v := (.int (1 : Int32))) (by rw [e470]; exact Ar644.1) (State.isArrayOf_alike hZ.alike Ar644.2.1) Ar644.2.2 hin644 (H644.at hin644 rfl) (g := (mkF m 180 #[.val (.int u0), .val (.int u1), .val (.int u2), .val (.int u3), .val (.int u4), .val (.ref b2), .val (.ref b15), .val (.ref b37), .val (.int q8_55), .val (.int q9_55), .val (.int q10_55), .val (.int q11_55), .val (.int w468), .unset] [(.int (0 : Int32)), (.ref b37)])) rfl rfl (hb hby at_180) _ k)
            have pre645 : Go p.tables e below (s₁.setTop (entryFrame m #[(.int u0), (.int u1), (.int u2), (.int u3), (.int u4)] maxLocals)) T470 (mkF m 198 #[.val (.int u0), .val (.int u1), .val (.int u2), .val (.int u3), .val (.int u4), .val (.ref b2), .val (.ref b15), .val (.ref b37), .val (.int q8_55), .val (.int q9_55), .val (.int q10_55), .val (.int q11_55), .val (.int w468), .unset] []) := fun t k => pre644 t (by
                refine XS.ifYes X470.here hx rfl (pc0 := 181) (pc' := 198) rfl (hb hby at_181) rfl ((if0 _ _).trans (feq (by decide)).2) (by decide) (by decide) ?_
                exact k)
            have hz646 : z0_470 = 0 ∨ z0_470 = 2 := (by decide +kernel : ∀ t ∈ own_S true false true, t.1 = 0 ∨ t.1 = 2) _ pm470_0
            rcases (hz646) with rfl | rfl
            · -- z0_470 = (0 : Int32)
              have pre647 : Go p.tables e below (s₁.setTop (entryFrame m #[(.int u0), (.int u1), (.int u2), (.int u3), (.int u4)] maxLocals)) T470 (mkF m 200 #[.val (.int u0), .val (.int u1), .val (.int u2), .val (.int u3), .val (.int u4), .val (.ref b2), .val (.ref b15), .val (.ref b37), .val (.int q8_55), .val (.int q9_55), .val (.int q10_55), .val (.int q11_55), .val (.int w468), .unset] [(.ref b15)]) := fun t k => pre645 t (by
                  refine XS.aload X470.here hx rfl (hb hby at_198) rfl rfl ?_
                  exact k)
              obtain ⟨cq648, kq648, q648a, q648b, q648c⟩ := isOf hZ e470 fm470_1
              obtain ⟨_, _, ⟨T648, L648, k648, n648⟩, -, X648, ⟨Lc648, hQ648, l648, y648, z648⟩, st648⟩ := X470.virtualBack hx (y := (⟨"com/example/octopoll/octopoll/PageHeap", "poll", "()I"⟩ : MethodName)) (z := (⟨"com/example/octopoll/octopoll/PageHeap", "poll", "()I"⟩ : MethodName)) hown (mvT hZ (hw _ (List.mem_of_getElem? (i := 56) rfl))) (mvT hZ (hw _ (List.mem_of_getElem? (i := 57) rfl))) (notFace_of_selects (args := #[]) (mvT hZ (hw _ (List.mem_of_getElem? (i := 59) rfl)))) (mvT hZ (hw _ (List.mem_of_getElem? (i := 59) rfl))) (mvT hZ (hw _ (List.mem_of_getElem? (i := 58) rfl))) (by decide) (backOf (W := 0) (rm_pol0 l Z av0 hw [] b15 b2 ha25 pa25 k2 kh25 kp25 (FP.i2d (u0 &&& (3 : Int32))) (FP.i2d ((u0 >>> ((2 : Int32) &&& 31)) &&& (3 : Int32))) (FP.i2d ((u0 >>> ((4 : Int32) &&& 31)) &&& (3 : Int32))) z1_470 z2_470 z3_470 z4_470 z5_470 false true h470 n0 fm470_0 fm470_1 fm470_2 fm470_3 fm470_4 fm470_5 fm470_6 fm470_7 fm470_8 g17 gha25 gpa25 ne27 ne30 po25_0 ne16.symm ne26 ne29 pm470_0) hZ (hw _ (List.mem_of_getElem? (i := 60) rfl)) (hw _ (List.mem_of_getElem? (i := 3) rfl)) (by decide) (by decide)) q648a q648c (g := (mkF m 200 #[.val (.int u0), .val (.int u1), .val (.int u2), .val (.int u3), .val (.int u4), .val (.ref b2), .val (.ref b15), .val (.ref b37), .val (.int q8_55), .val (.int q9_55), .val (.int q10_55), .val (.int q11_55), .val (.int w468), .unset] [(.ref b15)])) rfl (by rw [hml]; rfl) (Steps.refl _) (argsL := []) (rest := []) (lenOf pd_5 rfl) rfl (by show 2 * 0 + _ ≤ _; exact Nat.le_of_eq rfl) (hb hby at_200) (fun _ _ => ⟨rfl, e470, (by decide : 5 + 0 ≤ _), (by decide : 16 + 0 ≤ _)⟩)
              dsimp only [Pt.U, Pt.locs, Pt.cells, Pt.slots] at X648 l648 y648 z648 st648 hQ648
              subst l648 y648 z648
              obtain ⟨z0648, z1648, z2648, z3648, z4648, z5648, hv648, N648q, K648, fo648_0, fo648_1, fo648_2, fo648_3, fo648_4, fo648_5, fo648_6, po648_0⟩ := hQ648
              have f649 := Nat.le_trans fm470_0 K648.1
              have f650 := fm470_1.keep K648
              have f651 := fm470_6.keep K648 (ninS ne16 (ninS ne26 (ninS ne29 nin0)))
              have f652 := fm470_9.keep K648 (ninS ne39.symm (ninS ne40.symm (ninS ne41.symm nin0)))
              subst hv648
              have N648 := Fr.app N470 N648q
              have pre648 : Go p.tables e below (s₁.setTop (entryFrame m #[(.int u0), (.int u1), (.int u2), (.int u3), (.int u4)] maxLocals)) T648 (mkF m 203 #[.val (.int u0), .val (.int u1), .val (.int u2), .val (.int u3), .val (.int u4), .val (.ref b2), .val (.ref b15), .val (.ref b37), .val (.int q8_55), .val (.int q9_55), .val (.int q10_55), .val (.int q11_55), .val (.int w468), .unset] [(.int (0 : Int32))]) := fun t k => pre647 t (st648.trans k)
              have pre653 : Go p.tables e below (s₁.setTop (entryFrame m #[(.int u0), (.int u1), (.int u2), (.int u3), (.int u4)] maxLocals)) T648 (mkF m 220 #[.val (.int u0), .val (.int u1), .val (.int u2), .val (.int u3), .val (.int u4), .val (.ref b2), .val (.ref b15), .val (.ref b37), .val (.int q8_55), .val (.int q9_55), .val (.int q10_55), .val (.int q11_55), .val (.int w468), .val (.int (0 : Int32))] [(.int (0 : Int32)), (.ref b37)]) := fun t k => pre648 t (by
                  refine XS.istore X648.here hx rfl (hb hby at_203) rfl (l' := #[.val (.int u0), .val (.int u1), .val (.int u2), .val (.int u3), .val (.int u4), .val (.ref b2), .val (.ref b15), .val (.ref b37), .val (.int q8_55), .val (.int q9_55), .val (.int q10_55), .val (.int q11_55), .val (.int w468), .val (.int (0 : Int32))]) rfl ?_
                  show Steps p.tables e below (T648.setTop (mkF m 205 #[.val (.int u0), .val (.int u1), .val (.int u2), .val (.int u3), .val (.int u4), .val (.ref b2), .val (.ref b15), .val (.ref b37), .val (.int q8_55), .val (.int q9_55), .val (.int q10_55), .val (.int q11_55), .val (.int w468), .val (.int (0 : Int32))] [])) _
                  refine XS.iload X648.here hx rfl (hb hby at_205) rfl ?_
                  refine XS.ifNo X648.here hx rfl (hb hby at_207) rfl ((if0 _ _).trans (flt (by decide)).1) ?_
                  refine XS.iload X648.here hx rfl (hb hby at_210) rfl ?_
                  refine XS.iconst X648.here hx rfl (hb hby at_212) ?_
                  refine XS.icmpNo X648.here hx rfl (hb hby at_213) rfl (flt (by decide)).2.2.1 ?_
                  refine XS.aload X648.here hx rfl (hb hby at_216) rfl rfl ?_
                  refine XS.iload X648.here hx rfl (hb hby at_218) rfl ?_
                  exact k)
              obtain ⟨c654, Ar654, q654, S654, M654, H654, G654⟩ := (id f652)
              have hin654 : ¬ ((0 : Int32) < 0 ∨ c654.slots.size ≤ ((0 : Int32)).toNatClampNeg) := inb_of S654 ⟨by decide, by decide⟩
              have pre654 : Go p.tables e below (s₁.setTop (entryFrame m #[(.int u0), (.int u1), (.int u2), (.int u3), (.int u4)] maxLocals)) T648 (mkF m 221 #[.val (.int u0), .val (.int u1), .val (.int u2), .val (.int u3), .val (.int u4), .val (.ref b2), .val (.ref b15), .val (.ref b37), .val (.int q8_55), .val (.int q9_55), .val (.int q10_55), .val (.int q11_55), .val (.int w468), .val (.int (0 : Int32))] [(.int (1 : Int32))]) := fun t k => pre653 t (X648.baloadBooleans hx (j := (0 : Int32)) (v := (.int (1 : Int32))) (by exact Ar654.1) (State.isArrayOf_alike hZ.alike Ar654.2.1) Ar654.2.2 hin654 (H654.at hin654 rfl) (g := (mkF m 220 #[.val (.int u0), .val (.int u1), .val (.int u2), .val (.int u3), .val (.int u4), .val (.ref b2), .val (.ref b15), .val (.ref b37), .val (.int q8_55), .val (.int q9_55), .val (.int q10_55), .val (.int q11_55), .val (.int w468), .val (.int (0 : Int32))] [(.int (0 : Int32)), (.ref b37)])) rfl rfl (hb hby at_220) _ k)
              have pre655 : Go p.tables e below (s₁.setTop (entryFrame m #[(.int u0), (.int u1), (.int u2), (.int u3), (.int u4)] maxLocals)) T648 (mkF m 231 #[.val (.int u0), .val (.int u1), .val (.int u2), .val (.int u3), .val (.int u4), .val (.ref b2), .val (.ref b15), .val (.ref b37), .val (.int q8_55), .val (.int q9_55), .val (.int q10_55), .val (.int q11_55), .val (.int w468), .val (.int (0 : Int32))] [(.int (0 : Int32)), (.int (0 : Int32)), (.ref b37)]) := fun t k => pre654 t (by
                  refine XS.ifYes X648.here hx rfl (pc0 := 221) (pc' := 226) rfl (hb hby at_221) rfl ((if0 _ _).trans (feq (by decide)).2) (by decide) (by decide) ?_
                  refine XS.aload X648.here hx rfl (hb hby at_226) rfl rfl ?_
                  refine XS.iload X648.here hx rfl (hb hby at_228) rfl ?_
                  refine XS.iconst X648.here hx rfl (hb hby at_230) ?_
                  exact k)
              obtain ⟨c656, Ar656, q656, S656, M656, H656, G656⟩ := (id f652)
              have hin656 : ¬ ((0 : Int32) < 0 ∨ c656.slots.size ≤ ((0 : Int32)).toNatClampNeg) := inb_of S656 ⟨by decide, by decide⟩
              obtain ⟨T656, h656, X656, e656, W656, st656⟩ := stZ X648 hx hZ rfl Ar656 (j := (0 : Int32)) hin656 (g := (mkF m 231 #[.val (.int u0), .val (.int u1), .val (.int u2), .val (.int u3), .val (.int u4), .val (.ref b2), .val (.ref b15), .val (.ref b37), .val (.int q8_55), .val (.int q9_55), .val (.int q10_55), .val (.int q11_55), .val (.int w468), .val (.int (0 : Int32))] [(.int (0 : Int32)), (.int (0 : Int32)), (.ref b37)])) rfl rfl (hb hby at_231)
              have fa656 : Arv Z h656 b37 k37 .boolean (3 : Int32) [(.int (0 : Int32)), (.int (0 : Int32)), (.int (1 : Int32))] (.int (0 : Int32)) := Arv.set Ar656 q656 S656 M656 H656 G656 (fits_nar_bool _) W656 0 rfl (Nat.le_of_ble_eq_true rfl)
              have N656 := Fr.snoc X656 N648 g42
              have f657 : n0 ≤ h656.size := Nat.le_trans f649 (Keep.of_wr W656).1
              have f658 : Arv Z h656 b2 k2 .double (3 : Int32) [(.double (FP.i2d (u0 &&& (3 : Int32)))), (.double (FP.i2d ((u0 >>> ((2 : Int32) &&& 31)) &&& (3 : Int32)))), (.double (FP.i2d ((u0 >>> ((4 : Int32) &&& 31)) &&& (3 : Int32))))] (.double 0) := f651.other W656 ne38
              have f659 : Exa Z h656 b15 "com/example/octopoll/octopoll/PageHeap" := fo648_0.wr W656
              have f660 : Fld Z h656 b15 "com/example/octopoll/octopoll/PageHeap" "key" "[D" (.ref b2) := fo648_1.other W656 (Or.inl ne39)
              have f661 : Fld Z h656 b15 "com/example/octopoll/octopoll/PageHeap" "heap" "[I" (.ref ha25) := fo648_2.other W656 (Or.inl ne39)
              have f662 : Fld Z h656 b15 "com/example/octopoll/octopoll/PageHeap" "position" "[I" (.ref pa25) := fo648_3.other W656 (Or.inl ne39)
              have f663 : Fld Z h656 b15 "com/example/octopoll/octopoll/PageHeap" "size" "I" (.int (1 : Int32)) := fo648_4.other W656 (Or.inl ne39)
              have f664 : Arv Z h656 ha25 kh25 .int (3 : Int32) [(.int z0648), (.int z1648), (.int z2648)] (.int (0 : Int32)) := fo648_5.other W656 ne40
              have f665 : Arv Z h656 pa25 kp25 .int (3 : Int32) [(.int z3648), (.int z4648), (.int z5648)] (.int (0 : Int32)) := fo648_6.other W656 ne41
              have pre656 : Go p.tables e below (s₁.setTop (entryFrame m #[(.int u0), (.int u1), (.int u2), (.int u3), (.int u4)] maxLocals)) T656 (mkF m 232 #[.val (.int u0), .val (.int u1), .val (.int u2), .val (.int u3), .val (.int u4), .val (.ref b2), .val (.ref b15), .val (.ref b37), .val (.int q8_55), .val (.int q9_55), .val (.int q10_55), .val (.int q11_55), .val (.int w468), .val (.int (0 : Int32))] []) := fun t k => pre655 t (st656 _ k)
              exact ⟨T656, _, h656, (.val (.int (0 : Int32))), false, false, true, z0648, z1648, z2648, z3648, z4648, z5648, X656, e656, N656, f657, f659, f660, f661, f662, f663, f658, f664, f665, fa656, po648_0, pre656⟩
            · -- z0_470 = (2 : Int32)
              have pre666 : Go p.tables e below (s₁.setTop (entryFrame m #[(.int u0), (.int u1), (.int u2), (.int u3), (.int u4)] maxLocals)) T470 (mkF m 200 #[.val (.int u0), .val (.int u1), .val (.int u2), .val (.int u3), .val (.int u4), .val (.ref b2), .val (.ref b15), .val (.ref b37), .val (.int q8_55), .val (.int q9_55), .val (.int q10_55), .val (.int q11_55), .val (.int w468), .unset] [(.ref b15)]) := fun t k => pre645 t (by
                  refine XS.aload X470.here hx rfl (hb hby at_198) rfl rfl ?_
                  exact k)
              obtain ⟨cq667, kq667, q667a, q667b, q667c⟩ := isOf hZ e470 fm470_1
              obtain ⟨_, _, ⟨T667, L667, k667, n667⟩, -, X667, ⟨Lc667, hQ667, l667, y667, z667⟩, st667⟩ := X470.virtualBack hx (y := (⟨"com/example/octopoll/octopoll/PageHeap", "poll", "()I"⟩ : MethodName)) (z := (⟨"com/example/octopoll/octopoll/PageHeap", "poll", "()I"⟩ : MethodName)) hown (mvT hZ (hw _ (List.mem_of_getElem? (i := 56) rfl))) (mvT hZ (hw _ (List.mem_of_getElem? (i := 57) rfl))) (notFace_of_selects (args := #[]) (mvT hZ (hw _ (List.mem_of_getElem? (i := 59) rfl)))) (mvT hZ (hw _ (List.mem_of_getElem? (i := 59) rfl))) (mvT hZ (hw _ (List.mem_of_getElem? (i := 58) rfl))) (by decide) (backOf (W := 0) (rm_pol2 l Z av0 hw [] b15 b2 ha25 pa25 k2 kh25 kp25 (FP.i2d (u0 &&& (3 : Int32))) (FP.i2d ((u0 >>> ((2 : Int32) &&& 31)) &&& (3 : Int32))) (FP.i2d ((u0 >>> ((4 : Int32) &&& 31)) &&& (3 : Int32))) z1_470 z2_470 z3_470 z4_470 z5_470 true false h470 n0 fm470_0 fm470_1 fm470_2 fm470_3 fm470_4 fm470_5 fm470_6 fm470_7 fm470_8 g17 gha25 gpa25 ne27 ne30 po25_0 ne16.symm ne26 ne29 pm470_0) hZ (hw _ (List.mem_of_getElem? (i := 60) rfl)) (hw _ (List.mem_of_getElem? (i := 3) rfl)) (by decide) (by decide)) q667a q667c (g := (mkF m 200 #[.val (.int u0), .val (.int u1), .val (.int u2), .val (.int u3), .val (.int u4), .val (.ref b2), .val (.ref b15), .val (.ref b37), .val (.int q8_55), .val (.int q9_55), .val (.int q10_55), .val (.int q11_55), .val (.int w468), .unset] [(.ref b15)])) rfl (by rw [hml]; rfl) (Steps.refl _) (argsL := []) (rest := []) (lenOf pd_5 rfl) rfl (by show 2 * 0 + _ ≤ _; exact Nat.le_of_eq rfl) (hb hby at_200) (fun _ _ => ⟨rfl, e470, (by decide : 5 + 0 ≤ _), (by decide : 16 + 0 ≤ _)⟩)
              dsimp only [Pt.U, Pt.locs, Pt.cells, Pt.slots] at X667 l667 y667 z667 st667 hQ667
              subst l667 y667 z667
              obtain ⟨z0667, z1667, z2667, z3667, z4667, z5667, hv667, N667q, K667, fo667_0, fo667_1, fo667_2, fo667_3, fo667_4, fo667_5, fo667_6, po667_0⟩ := hQ667
              have f668 := Nat.le_trans fm470_0 K667.1
              have f669 := fm470_1.keep K667
              have f670 := fm470_6.keep K667 (ninS ne16 (ninS ne26 (ninS ne29 nin0)))
              have f671 := fm470_9.keep K667 (ninS ne39.symm (ninS ne40.symm (ninS ne41.symm nin0)))
              subst hv667
              have N667 := Fr.app N470 N667q
              have pre667 : Go p.tables e below (s₁.setTop (entryFrame m #[(.int u0), (.int u1), (.int u2), (.int u3), (.int u4)] maxLocals)) T667 (mkF m 203 #[.val (.int u0), .val (.int u1), .val (.int u2), .val (.int u3), .val (.int u4), .val (.ref b2), .val (.ref b15), .val (.ref b37), .val (.int q8_55), .val (.int q9_55), .val (.int q10_55), .val (.int q11_55), .val (.int w468), .unset] [(.int (2 : Int32))]) := fun t k => pre666 t (st667.trans k)
              have pre672 : Go p.tables e below (s₁.setTop (entryFrame m #[(.int u0), (.int u1), (.int u2), (.int u3), (.int u4)] maxLocals)) T667 (mkF m 220 #[.val (.int u0), .val (.int u1), .val (.int u2), .val (.int u3), .val (.int u4), .val (.ref b2), .val (.ref b15), .val (.ref b37), .val (.int q8_55), .val (.int q9_55), .val (.int q10_55), .val (.int q11_55), .val (.int w468), .val (.int (2 : Int32))] [(.int (2 : Int32)), (.ref b37)]) := fun t k => pre667 t (by
                  refine XS.istore X667.here hx rfl (hb hby at_203) rfl (l' := #[.val (.int u0), .val (.int u1), .val (.int u2), .val (.int u3), .val (.int u4), .val (.ref b2), .val (.ref b15), .val (.ref b37), .val (.int q8_55), .val (.int q9_55), .val (.int q10_55), .val (.int q11_55), .val (.int w468), .val (.int (2 : Int32))]) rfl ?_
                  show Steps p.tables e below (T667.setTop (mkF m 205 #[.val (.int u0), .val (.int u1), .val (.int u2), .val (.int u3), .val (.int u4), .val (.ref b2), .val (.ref b15), .val (.ref b37), .val (.int q8_55), .val (.int q9_55), .val (.int q10_55), .val (.int q11_55), .val (.int w468), .val (.int (2 : Int32))] [])) _
                  refine XS.iload X667.here hx rfl (hb hby at_205) rfl ?_
                  refine XS.ifNo X667.here hx rfl (hb hby at_207) rfl ((if0 _ _).trans (flt (by decide)).1) ?_
                  refine XS.iload X667.here hx rfl (hb hby at_210) rfl ?_
                  refine XS.iconst X667.here hx rfl (hb hby at_212) ?_
                  refine XS.icmpNo X667.here hx rfl (hb hby at_213) rfl (flt (by decide)).2.2.1 ?_
                  refine XS.aload X667.here hx rfl (hb hby at_216) rfl rfl ?_
                  refine XS.iload X667.here hx rfl (hb hby at_218) rfl ?_
                  exact k)
              obtain ⟨c673, Ar673, q673, S673, M673, H673, G673⟩ := (id f671)
              have hin673 : ¬ ((2 : Int32) < 0 ∨ c673.slots.size ≤ ((2 : Int32)).toNatClampNeg) := inb_of S673 ⟨by decide, by decide⟩
              have pre673 : Go p.tables e below (s₁.setTop (entryFrame m #[(.int u0), (.int u1), (.int u2), (.int u3), (.int u4)] maxLocals)) T667 (mkF m 221 #[.val (.int u0), .val (.int u1), .val (.int u2), .val (.int u3), .val (.int u4), .val (.ref b2), .val (.ref b15), .val (.ref b37), .val (.int q8_55), .val (.int q9_55), .val (.int q10_55), .val (.int q11_55), .val (.int w468), .val (.int (2 : Int32))] [(.int (1 : Int32))]) := fun t k => pre672 t (X667.baloadBooleans hx (j := (2 : Int32)) (v := (.int (1 : Int32))) (by exact Ar673.1) (State.isArrayOf_alike hZ.alike Ar673.2.1) Ar673.2.2 hin673 (H673.at hin673 rfl) (g := (mkF m 220 #[.val (.int u0), .val (.int u1), .val (.int u2), .val (.int u3), .val (.int u4), .val (.ref b2), .val (.ref b15), .val (.ref b37), .val (.int q8_55), .val (.int q9_55), .val (.int q10_55), .val (.int q11_55), .val (.int w468), .val (.int (2 : Int32))] [(.int (2 : Int32)), (.ref b37)])) rfl rfl (hb hby at_220) _ k)
              have pre674 : Go p.tables e below (s₁.setTop (entryFrame m #[(.int u0), (.int u1), (.int u2), (.int u3), (.int u4)] maxLocals)) T667 (mkF m 231 #[.val (.int u0), .val (.int u1), .val (.int u2), .val (.int u3), .val (.int u4), .val (.ref b2), .val (.ref b15), .val (.ref b37), .val (.int q8_55), .val (.int q9_55), .val (.int q10_55), .val (.int q11_55), .val (.int w468), .val (.int (2 : Int32))] [(.int (0 : Int32)), (.int (2 : Int32)), (.ref b37)]) := fun t k => pre673 t (by
                  refine XS.ifYes X667.here hx rfl (pc0 := 221) (pc' := 226) rfl (hb hby at_221) rfl ((if0 _ _).trans (feq (by decide)).2) (by decide) (by decide) ?_
                  refine XS.aload X667.here hx rfl (hb hby at_226) rfl rfl ?_
                  refine XS.iload X667.here hx rfl (hb hby at_228) rfl ?_
                  refine XS.iconst X667.here hx rfl (hb hby at_230) ?_
                  exact k)
              obtain ⟨c675, Ar675, q675, S675, M675, H675, G675⟩ := (id f671)
              have hin675 : ¬ ((2 : Int32) < 0 ∨ c675.slots.size ≤ ((2 : Int32)).toNatClampNeg) := inb_of S675 ⟨by decide, by decide⟩
              obtain ⟨T675, h675, X675, e675, W675, st675⟩ := stZ X667 hx hZ rfl Ar675 (j := (2 : Int32)) hin675 (g := (mkF m 231 #[.val (.int u0), .val (.int u1), .val (.int u2), .val (.int u3), .val (.int u4), .val (.ref b2), .val (.ref b15), .val (.ref b37), .val (.int q8_55), .val (.int q9_55), .val (.int q10_55), .val (.int q11_55), .val (.int w468), .val (.int (2 : Int32))] [(.int (0 : Int32)), (.int (2 : Int32)), (.ref b37)])) rfl rfl (hb hby at_231)
              have fa675 : Arv Z h675 b37 k37 .boolean (3 : Int32) [(.int (1 : Int32)), (.int (0 : Int32)), (.int (0 : Int32))] (.int (0 : Int32)) := Arv.set Ar675 q675 S675 M675 H675 G675 (fits_nar_bool _) W675 2 rfl (Nat.le_of_ble_eq_true rfl)
              have N675 := Fr.snoc X675 N667 g42
              have f676 : n0 ≤ h675.size := Nat.le_trans f668 (Keep.of_wr W675).1
              have f677 : Arv Z h675 b2 k2 .double (3 : Int32) [(.double (FP.i2d (u0 &&& (3 : Int32)))), (.double (FP.i2d ((u0 >>> ((2 : Int32) &&& 31)) &&& (3 : Int32)))), (.double (FP.i2d ((u0 >>> ((4 : Int32) &&& 31)) &&& (3 : Int32))))] (.double 0) := f670.other W675 ne38
              have f678 : Exa Z h675 b15 "com/example/octopoll/octopoll/PageHeap" := fo667_0.wr W675
              have f679 : Fld Z h675 b15 "com/example/octopoll/octopoll/PageHeap" "key" "[D" (.ref b2) := fo667_1.other W675 (Or.inl ne39)
              have f680 : Fld Z h675 b15 "com/example/octopoll/octopoll/PageHeap" "heap" "[I" (.ref ha25) := fo667_2.other W675 (Or.inl ne39)
              have f681 : Fld Z h675 b15 "com/example/octopoll/octopoll/PageHeap" "position" "[I" (.ref pa25) := fo667_3.other W675 (Or.inl ne39)
              have f682 : Fld Z h675 b15 "com/example/octopoll/octopoll/PageHeap" "size" "I" (.int (1 : Int32)) := fo667_4.other W675 (Or.inl ne39)
              have f683 : Arv Z h675 ha25 kh25 .int (3 : Int32) [(.int z0667), (.int z1667), (.int z2667)] (.int (0 : Int32)) := fo667_5.other W675 ne40
              have f684 : Arv Z h675 pa25 kp25 .int (3 : Int32) [(.int z3667), (.int z4667), (.int z5667)] (.int (0 : Int32)) := fo667_6.other W675 ne41
              have pre675 : Go p.tables e below (s₁.setTop (entryFrame m #[(.int u0), (.int u1), (.int u2), (.int u3), (.int u4)] maxLocals)) T675 (mkF m 232 #[.val (.int u0), .val (.int u1), .val (.int u2), .val (.int u3), .val (.int u4), .val (.ref b2), .val (.ref b15), .val (.ref b37), .val (.int q8_55), .val (.int q9_55), .val (.int q10_55), .val (.int q11_55), .val (.int w468), .val (.int (2 : Int32))] []) := fun t k => pre674 t (st675 _ k)
              exact ⟨T675, _, h675, (.val (.int (2 : Int32))), true, false, false, z0667, z1667, z2667, z3667, z4667, z5667, X675, e675, N675, f676, f678, f679, f680, f681, f682, f677, f683, f684, fa675, po667_0, pre675⟩
          · -- bit 2 False
            have pre685 : Go p.tables e below (s₁.setTop (entryFrame m #[(.int u0), (.int u1), (.int u2), (.int u3), (.int u4)] maxLocals)) T470 (mkF m 180 #[.val (.int u0), .val (.int u1), .val (.int u2), .val (.int u3), .val (.int u4), .val (.ref b2), .val (.ref b15), .val (.ref b37), .val (.int q8_55), .val (.int q9_55), .val (.int q10_55), .val (.int q11_55), .val (.int w468), .unset] [(.int (0 : Int32)), (.ref b37)]) := fun t k => pre539 t (by
                refine XS.aload X470.here hx rfl (hb hby at_177) rfl rfl ?_
                refine XS.iconst X470.here hx rfl (hb hby at_179) ?_
                exact k)
            obtain ⟨c686, Ar686, q686, S686, M686, H686, G686⟩ := (id fm470_9)
            have hin686 : ¬ ((0 : Int32) < 0 ∨ c686.slots.size ≤ ((0 : Int32)).toNatClampNeg) := inb_of S686 ⟨by decide, by decide⟩
            have pre686 : Go p.tables e below (s₁.setTop (entryFrame m #[(.int u0), (.int u1), (.int u2), (.int u3), (.int u4)] maxLocals)) T470 (mkF m 181 #[.val (.int u0), .val (.int u1), .val (.int u2), .val (.int u3), .val (.int u4), .val (.ref b2), .val (.ref b15), .val (.ref b37), .val (.int q8_55), .val (.int q9_55), .val (.int q10_55), .val (.int q11_55), .val (.int w468), .unset] [(.int (1 : Int32))]) := fun t k => pre685 t (X470.baloadBooleans hx (j := (0 : Int32)) (v := (.int (1 : Int32))) (by rw [e470]; exact Ar686.1) (State.isArrayOf_alike hZ.alike Ar686.2.1) Ar686.2.2 hin686 (H686.at hin686 rfl) (g := (mkF m 180 #[.val (.int u0), .val (.int u1), .val (.int u2), .val (.int u3), .val (.int u4), .val (.ref b2), .val (.ref b15), .val (.ref b37), .val (.int q8_55), .val (.int q9_55), .val (.int q10_55), .val (.int q11_55), .val (.int w468), .unset] [(.int (0 : Int32)), (.ref b37)])) rfl rfl (hb hby at_180) _ k)
            have pre687 : Go p.tables e below (s₁.setTop (entryFrame m #[(.int u0), (.int u1), (.int u2), (.int u3), (.int u4)] maxLocals)) T470 (mkF m 198 #[.val (.int u0), .val (.int u1), .val (.int u2), .val (.int u3), .val (.int u4), .val (.ref b2), .val (.ref b15), .val (.ref b37), .val (.int q8_55), .val (.int q9_55), .val (.int q10_55), .val (.int q11_55), .val (.int w468), .unset] []) := fun t k => pre686 t (by
                refine XS.ifYes X470.here hx rfl (pc0 := 181) (pc' := 198) rfl (hb hby at_181) rfl ((if0 _ _).trans (feq (by decide)).2) (by decide) (by decide) ?_
                exact k)
            have hz688 : z0_470 = 0 := (by decide +kernel : ∀ t ∈ own_S true false false, t.1 = 0) _ pm470_0
            rcases (hz688) with rfl
            · -- z0_470 = (0 : Int32)
              have pre689 : Go p.tables e below (s₁.setTop (entryFrame m #[(.int u0), (.int u1), (.int u2), (.int u3), (.int u4)] maxLocals)) T470 (mkF m 200 #[.val (.int u0), .val (.int u1), .val (.int u2), .val (.int u3), .val (.int u4), .val (.ref b2), .val (.ref b15), .val (.ref b37), .val (.int q8_55), .val (.int q9_55), .val (.int q10_55), .val (.int q11_55), .val (.int w468), .unset] [(.ref b15)]) := fun t k => pre687 t (by
                  refine XS.aload X470.here hx rfl (hb hby at_198) rfl rfl ?_
                  exact k)
              obtain ⟨cq690, kq690, q690a, q690b, q690c⟩ := isOf hZ e470 fm470_1
              obtain ⟨_, _, ⟨T690, L690, k690, n690⟩, -, X690, ⟨Lc690, hQ690, l690, y690, z690⟩, st690⟩ := X470.virtualBack hx (y := (⟨"com/example/octopoll/octopoll/PageHeap", "poll", "()I"⟩ : MethodName)) (z := (⟨"com/example/octopoll/octopoll/PageHeap", "poll", "()I"⟩ : MethodName)) hown (mvT hZ (hw _ (List.mem_of_getElem? (i := 56) rfl))) (mvT hZ (hw _ (List.mem_of_getElem? (i := 57) rfl))) (notFace_of_selects (args := #[]) (mvT hZ (hw _ (List.mem_of_getElem? (i := 59) rfl)))) (mvT hZ (hw _ (List.mem_of_getElem? (i := 59) rfl))) (mvT hZ (hw _ (List.mem_of_getElem? (i := 58) rfl))) (by decide) (backOf (W := 0) (rm_pol0 l Z av0 hw [] b15 b2 ha25 pa25 k2 kh25 kp25 (FP.i2d (u0 &&& (3 : Int32))) (FP.i2d ((u0 >>> ((2 : Int32) &&& 31)) &&& (3 : Int32))) (FP.i2d ((u0 >>> ((4 : Int32) &&& 31)) &&& (3 : Int32))) z1_470 z2_470 z3_470 z4_470 z5_470 false false h470 n0 fm470_0 fm470_1 fm470_2 fm470_3 fm470_4 fm470_5 fm470_6 fm470_7 fm470_8 g17 gha25 gpa25 ne27 ne30 po25_0 ne16.symm ne26 ne29 pm470_0) hZ (hw _ (List.mem_of_getElem? (i := 60) rfl)) (hw _ (List.mem_of_getElem? (i := 3) rfl)) (by decide) (by decide)) q690a q690c (g := (mkF m 200 #[.val (.int u0), .val (.int u1), .val (.int u2), .val (.int u3), .val (.int u4), .val (.ref b2), .val (.ref b15), .val (.ref b37), .val (.int q8_55), .val (.int q9_55), .val (.int q10_55), .val (.int q11_55), .val (.int w468), .unset] [(.ref b15)])) rfl (by rw [hml]; rfl) (Steps.refl _) (argsL := []) (rest := []) (lenOf pd_5 rfl) rfl (by show 2 * 0 + _ ≤ _; exact Nat.le_of_eq rfl) (hb hby at_200) (fun _ _ => ⟨rfl, e470, (by decide : 5 + 0 ≤ _), (by decide : 16 + 0 ≤ _)⟩)
              dsimp only [Pt.U, Pt.locs, Pt.cells, Pt.slots] at X690 l690 y690 z690 st690 hQ690
              subst l690 y690 z690
              obtain ⟨z0690, z1690, z2690, z3690, z4690, z5690, hv690, N690q, K690, fo690_0, fo690_1, fo690_2, fo690_3, fo690_4, fo690_5, fo690_6, po690_0⟩ := hQ690
              have f691 := Nat.le_trans fm470_0 K690.1
              have f692 := fm470_1.keep K690
              have f693 := fm470_6.keep K690 (ninS ne16 (ninS ne26 (ninS ne29 nin0)))
              have f694 := fm470_9.keep K690 (ninS ne39.symm (ninS ne40.symm (ninS ne41.symm nin0)))
              subst hv690
              have N690 := Fr.app N470 N690q
              have pre690 : Go p.tables e below (s₁.setTop (entryFrame m #[(.int u0), (.int u1), (.int u2), (.int u3), (.int u4)] maxLocals)) T690 (mkF m 203 #[.val (.int u0), .val (.int u1), .val (.int u2), .val (.int u3), .val (.int u4), .val (.ref b2), .val (.ref b15), .val (.ref b37), .val (.int q8_55), .val (.int q9_55), .val (.int q10_55), .val (.int q11_55), .val (.int w468), .unset] [(.int (0 : Int32))]) := fun t k => pre689 t (st690.trans k)
              have pre695 : Go p.tables e below (s₁.setTop (entryFrame m #[(.int u0), (.int u1), (.int u2), (.int u3), (.int u4)] maxLocals)) T690 (mkF m 220 #[.val (.int u0), .val (.int u1), .val (.int u2), .val (.int u3), .val (.int u4), .val (.ref b2), .val (.ref b15), .val (.ref b37), .val (.int q8_55), .val (.int q9_55), .val (.int q10_55), .val (.int q11_55), .val (.int w468), .val (.int (0 : Int32))] [(.int (0 : Int32)), (.ref b37)]) := fun t k => pre690 t (by
                  refine XS.istore X690.here hx rfl (hb hby at_203) rfl (l' := #[.val (.int u0), .val (.int u1), .val (.int u2), .val (.int u3), .val (.int u4), .val (.ref b2), .val (.ref b15), .val (.ref b37), .val (.int q8_55), .val (.int q9_55), .val (.int q10_55), .val (.int q11_55), .val (.int w468), .val (.int (0 : Int32))]) rfl ?_
                  show Steps p.tables e below (T690.setTop (mkF m 205 #[.val (.int u0), .val (.int u1), .val (.int u2), .val (.int u3), .val (.int u4), .val (.ref b2), .val (.ref b15), .val (.ref b37), .val (.int q8_55), .val (.int q9_55), .val (.int q10_55), .val (.int q11_55), .val (.int w468), .val (.int (0 : Int32))] [])) _
                  refine XS.iload X690.here hx rfl (hb hby at_205) rfl ?_
                  refine XS.ifNo X690.here hx rfl (hb hby at_207) rfl ((if0 _ _).trans (flt (by decide)).1) ?_
                  refine XS.iload X690.here hx rfl (hb hby at_210) rfl ?_
                  refine XS.iconst X690.here hx rfl (hb hby at_212) ?_
                  refine XS.icmpNo X690.here hx rfl (hb hby at_213) rfl (flt (by decide)).2.2.1 ?_
                  refine XS.aload X690.here hx rfl (hb hby at_216) rfl rfl ?_
                  refine XS.iload X690.here hx rfl (hb hby at_218) rfl ?_
                  exact k)
              obtain ⟨c696, Ar696, q696, S696, M696, H696, G696⟩ := (id f694)
              have hin696 : ¬ ((0 : Int32) < 0 ∨ c696.slots.size ≤ ((0 : Int32)).toNatClampNeg) := inb_of S696 ⟨by decide, by decide⟩
              have pre696 : Go p.tables e below (s₁.setTop (entryFrame m #[(.int u0), (.int u1), (.int u2), (.int u3), (.int u4)] maxLocals)) T690 (mkF m 221 #[.val (.int u0), .val (.int u1), .val (.int u2), .val (.int u3), .val (.int u4), .val (.ref b2), .val (.ref b15), .val (.ref b37), .val (.int q8_55), .val (.int q9_55), .val (.int q10_55), .val (.int q11_55), .val (.int w468), .val (.int (0 : Int32))] [(.int (1 : Int32))]) := fun t k => pre695 t (X690.baloadBooleans hx (j := (0 : Int32)) (v := (.int (1 : Int32))) (by exact Ar696.1) (State.isArrayOf_alike hZ.alike Ar696.2.1) Ar696.2.2 hin696 (H696.at hin696 rfl) (g := (mkF m 220 #[.val (.int u0), .val (.int u1), .val (.int u2), .val (.int u3), .val (.int u4), .val (.ref b2), .val (.ref b15), .val (.ref b37), .val (.int q8_55), .val (.int q9_55), .val (.int q10_55), .val (.int q11_55), .val (.int w468), .val (.int (0 : Int32))] [(.int (0 : Int32)), (.ref b37)])) rfl rfl (hb hby at_220) _ k)
              have pre697 : Go p.tables e below (s₁.setTop (entryFrame m #[(.int u0), (.int u1), (.int u2), (.int u3), (.int u4)] maxLocals)) T690 (mkF m 231 #[.val (.int u0), .val (.int u1), .val (.int u2), .val (.int u3), .val (.int u4), .val (.ref b2), .val (.ref b15), .val (.ref b37), .val (.int q8_55), .val (.int q9_55), .val (.int q10_55), .val (.int q11_55), .val (.int w468), .val (.int (0 : Int32))] [(.int (0 : Int32)), (.int (0 : Int32)), (.ref b37)]) := fun t k => pre696 t (by
                  refine XS.ifYes X690.here hx rfl (pc0 := 221) (pc' := 226) rfl (hb hby at_221) rfl ((if0 _ _).trans (feq (by decide)).2) (by decide) (by decide) ?_
                  refine XS.aload X690.here hx rfl (hb hby at_226) rfl rfl ?_
                  refine XS.iload X690.here hx rfl (hb hby at_228) rfl ?_
                  refine XS.iconst X690.here hx rfl (hb hby at_230) ?_
                  exact k)
              obtain ⟨c698, Ar698, q698, S698, M698, H698, G698⟩ := (id f694)
              have hin698 : ¬ ((0 : Int32) < 0 ∨ c698.slots.size ≤ ((0 : Int32)).toNatClampNeg) := inb_of S698 ⟨by decide, by decide⟩
              obtain ⟨T698, h698, X698, e698, W698, st698⟩ := stZ X690 hx hZ rfl Ar698 (j := (0 : Int32)) hin698 (g := (mkF m 231 #[.val (.int u0), .val (.int u1), .val (.int u2), .val (.int u3), .val (.int u4), .val (.ref b2), .val (.ref b15), .val (.ref b37), .val (.int q8_55), .val (.int q9_55), .val (.int q10_55), .val (.int q11_55), .val (.int w468), .val (.int (0 : Int32))] [(.int (0 : Int32)), (.int (0 : Int32)), (.ref b37)])) rfl rfl (hb hby at_231)
              have fa698 : Arv Z h698 b37 k37 .boolean (3 : Int32) [(.int (0 : Int32)), (.int (0 : Int32)), (.int (0 : Int32))] (.int (0 : Int32)) := Arv.set Ar698 q698 S698 M698 H698 G698 (fits_nar_bool _) W698 0 rfl (Nat.le_of_ble_eq_true rfl)
              have N698 := Fr.snoc X698 N690 g42
              have f699 : n0 ≤ h698.size := Nat.le_trans f691 (Keep.of_wr W698).1
              have f700 : Arv Z h698 b2 k2 .double (3 : Int32) [(.double (FP.i2d (u0 &&& (3 : Int32)))), (.double (FP.i2d ((u0 >>> ((2 : Int32) &&& 31)) &&& (3 : Int32)))), (.double (FP.i2d ((u0 >>> ((4 : Int32) &&& 31)) &&& (3 : Int32))))] (.double 0) := f693.other W698 ne38
              have f701 : Exa Z h698 b15 "com/example/octopoll/octopoll/PageHeap" := fo690_0.wr W698
              have f702 : Fld Z h698 b15 "com/example/octopoll/octopoll/PageHeap" "key" "[D" (.ref b2) := fo690_1.other W698 (Or.inl ne39)
              have f703 : Fld Z h698 b15 "com/example/octopoll/octopoll/PageHeap" "heap" "[I" (.ref ha25) := fo690_2.other W698 (Or.inl ne39)
              have f704 : Fld Z h698 b15 "com/example/octopoll/octopoll/PageHeap" "position" "[I" (.ref pa25) := fo690_3.other W698 (Or.inl ne39)
              have f705 : Fld Z h698 b15 "com/example/octopoll/octopoll/PageHeap" "size" "I" (.int (0 : Int32)) := fo690_4.other W698 (Or.inl ne39)
              have f706 : Arv Z h698 ha25 kh25 .int (3 : Int32) [(.int z0690), (.int z1690), (.int z2690)] (.int (0 : Int32)) := fo690_5.other W698 ne40
              have f707 : Arv Z h698 pa25 kp25 .int (3 : Int32) [(.int z3690), (.int z4690), (.int z5690)] (.int (0 : Int32)) := fo690_6.other W698 ne41
              have pre698 : Go p.tables e below (s₁.setTop (entryFrame m #[(.int u0), (.int u1), (.int u2), (.int u3), (.int u4)] maxLocals)) T698 (mkF m 232 #[.val (.int u0), .val (.int u1), .val (.int u2), .val (.int u3), .val (.int u4), .val (.ref b2), .val (.ref b15), .val (.ref b37), .val (.int q8_55), .val (.int q9_55), .val (.int q10_55), .val (.int q11_55), .val (.int w468), .val (.int (0 : Int32))] []) := fun t k => pre697 t (st698 _ k)
              exact ⟨T698, _, h698, (.val (.int (0 : Int32))), false, false, false, z0690, z1690, z2690, z3690, z4690, z5690, X698, e698, N698, f699, f701, f702, f703, f704, f705, f700, f706, f707, fa698, po690_0, pre698⟩
      · -- bit 0 False
        rcases own_tf b1_470 with rfl | rfl
        · -- bit 1 True
          rcases own_tf b2_470 with rfl | rfl
          · -- bit 2 True
            have pre708 : Go p.tables e below (s₁.setTop (entryFrame m #[(.int u0), (.int u1), (.int u2), (.int u3), (.int u4)] maxLocals)) T470 (mkF m 180 #[.val (.int u0), .val (.int u1), .val (.int u2), .val (.int u3), .val (.int u4), .val (.ref b2), .val (.ref b15), .val (.ref b37), .val (.int q8_55), .val (.int q9_55), .val (.int q10_55), .val (.int q11_55), .val (.int w468), .unset] [(.int (0 : Int32)), (.ref b37)]) := fun t k => pre539 t (by
                refine XS.aload X470.here hx rfl (hb hby at_177) rfl rfl ?_
                refine XS.iconst X470.here hx rfl (hb hby at_179) ?_
                exact k)
            obtain ⟨c709, Ar709, q709, S709, M709, H709, G709⟩ := (id fm470_9)
            have hin709 : ¬ ((0 : Int32) < 0 ∨ c709.slots.size ≤ ((0 : Int32)).toNatClampNeg) := inb_of S709 ⟨by decide, by decide⟩
            have pre709 : Go p.tables e below (s₁.setTop (entryFrame m #[(.int u0), (.int u1), (.int u2), (.int u3), (.int u4)] maxLocals)) T470 (mkF m 181 #[.val (.int u0), .val (.int u1), .val (.int u2), .val (.int u3), .val (.int u4), .val (.ref b2), .val (.ref b15), .val (.ref b37), .val (.int q8_55), .val (.int q9_55), .val (.int q10_55), .val (.int q11_55), .val (.int w468), .unset] [(.int (0 : Int32))]) := fun t k => pre708 t (X470.baloadBooleans hx (j := (0 : Int32)) (v := (.int (0 : Int32))) (by rw [e470]; exact Ar709.1) (State.isArrayOf_alike hZ.alike Ar709.2.1) Ar709.2.2 hin709 (H709.at hin709 rfl) (g := (mkF m 180 #[.val (.int u0), .val (.int u1), .val (.int u2), .val (.int u3), .val (.int u4), .val (.ref b2), .val (.ref b15), .val (.ref b37), .val (.int q8_55), .val (.int q9_55), .val (.int q10_55), .val (.int q11_55), .val (.int w468), .unset] [(.int (0 : Int32)), (.ref b37)])) rfl rfl (hb hby at_180) _ k)
            have pre710 : Go p.tables e below (s₁.setTop (entryFrame m #[(.int u0), (.int u1), (.int u2), (.int u3), (.int u4)] maxLocals)) T470 (mkF m 187 #[.val (.int u0), .val (.int u1), .val (.int u2), .val (.int u3), .val (.int u4), .val (.ref b2), .val (.ref b15), .val (.ref b37), .val (.int q8_55), .val (.int q9_55), .val (.int q10_55), .val (.int q11_55), .val (.int w468), .unset] [(.int (1 : Int32)), (.ref b37)]) := fun t k => pre709 t (by
                refine XS.ifNo X470.here hx rfl (hb hby at_181) rfl ((if0 _ _).trans (teq rfl).2) ?_
                refine XS.aload X470.here hx rfl (hb hby at_184) rfl rfl ?_
                refine XS.iconst X470.here hx rfl (hb hby at_186) ?_
                exact k)
            obtain ⟨c711, Ar711, q711, S711, M711, H711, G711⟩ := (id fm470_9)
            have hin711 : ¬ ((1 : Int32) < 0 ∨ c711.slots.size ≤ ((1 : Int32)).toNatClampNeg) := inb_of S711 ⟨by decide, by decide⟩
            have pre711 : Go p.tables e below (s₁.setTop (entryFrame m #[(.int u0), (.int u1), (.int u2), (.int u3), (.int u4)] maxLocals)) T470 (mkF m 188 #[.val (.int u0), .val (.int u1), .val (.int u2), .val (.int u3), .val (.int u4), .val (.ref b2), .val (.ref b15), .val (.ref b37), .val (.int q8_55), .val (.int q9_55), .val (.int q10_55), .val (.int q11_55), .val (.int w468), .unset] [(.int (1 : Int32))]) := fun t k => pre710 t (X470.baloadBooleans hx (j := (1 : Int32)) (v := (.int (1 : Int32))) (by rw [e470]; exact Ar711.1) (State.isArrayOf_alike hZ.alike Ar711.2.1) Ar711.2.2 hin711 (H711.at hin711 rfl) (g := (mkF m 187 #[.val (.int u0), .val (.int u1), .val (.int u2), .val (.int u3), .val (.int u4), .val (.ref b2), .val (.ref b15), .val (.ref b37), .val (.int q8_55), .val (.int q9_55), .val (.int q10_55), .val (.int q11_55), .val (.int w468), .unset] [(.int (1 : Int32)), (.ref b37)])) rfl rfl (hb hby at_187) _ k)
            have pre712 : Go p.tables e below (s₁.setTop (entryFrame m #[(.int u0), (.int u1), (.int u2), (.int u3), (.int u4)] maxLocals)) T470 (mkF m 198 #[.val (.int u0), .val (.int u1), .val (.int u2), .val (.int u3), .val (.int u4), .val (.ref b2), .val (.ref b15), .val (.ref b37), .val (.int q8_55), .val (.int q9_55), .val (.int q10_55), .val (.int q11_55), .val (.int w468), .unset] []) := fun t k => pre711 t (by
                refine XS.ifYes X470.here hx rfl (pc0 := 188) (pc' := 198) rfl (hb hby at_188) rfl ((if0 _ _).trans (feq (by decide)).2) (by decide) (by decide) ?_
                exact k)
            have hz713 : z0_470 = 1 ∨ z0_470 = 2 := (by decide +kernel : ∀ t ∈ own_S false true true, t.1 = 1 ∨ t.1 = 2) _ pm470_0
            rcases (hz713) with rfl | rfl
            · -- z0_470 = (1 : Int32)
              have pre714 : Go p.tables e below (s₁.setTop (entryFrame m #[(.int u0), (.int u1), (.int u2), (.int u3), (.int u4)] maxLocals)) T470 (mkF m 200 #[.val (.int u0), .val (.int u1), .val (.int u2), .val (.int u3), .val (.int u4), .val (.ref b2), .val (.ref b15), .val (.ref b37), .val (.int q8_55), .val (.int q9_55), .val (.int q10_55), .val (.int q11_55), .val (.int w468), .unset] [(.ref b15)]) := fun t k => pre712 t (by
                  refine XS.aload X470.here hx rfl (hb hby at_198) rfl rfl ?_
                  exact k)
              obtain ⟨cq715, kq715, q715a, q715b, q715c⟩ := isOf hZ e470 fm470_1
              obtain ⟨_, _, ⟨T715, L715, k715, n715⟩, -, X715, ⟨Lc715, hQ715, l715, y715, z715⟩, st715⟩ := X470.virtualBack hx (y := (⟨"com/example/octopoll/octopoll/PageHeap", "poll", "()I"⟩ : MethodName)) (z := (⟨"com/example/octopoll/octopoll/PageHeap", "poll", "()I"⟩ : MethodName)) hown (mvT hZ (hw _ (List.mem_of_getElem? (i := 56) rfl))) (mvT hZ (hw _ (List.mem_of_getElem? (i := 57) rfl))) (notFace_of_selects (args := #[]) (mvT hZ (hw _ (List.mem_of_getElem? (i := 59) rfl)))) (mvT hZ (hw _ (List.mem_of_getElem? (i := 59) rfl))) (mvT hZ (hw _ (List.mem_of_getElem? (i := 58) rfl))) (by decide) (backOf (W := 0) (rm_pol1 l Z av0 hw [] b15 b2 ha25 pa25 k2 kh25 kp25 (FP.i2d (u0 &&& (3 : Int32))) (FP.i2d ((u0 >>> ((2 : Int32) &&& 31)) &&& (3 : Int32))) (FP.i2d ((u0 >>> ((4 : Int32) &&& 31)) &&& (3 : Int32))) z1_470 z2_470 z3_470 z4_470 z5_470 false true h470 n0 fm470_0 fm470_1 fm470_2 fm470_3 fm470_4 fm470_5 fm470_6 fm470_7 fm470_8 g17 gha25 gpa25 ne27 ne30 po25_0 ne16.symm ne26 ne29 pm470_0) hZ (hw _ (List.mem_of_getElem? (i := 60) rfl)) (hw _ (List.mem_of_getElem? (i := 3) rfl)) (by decide) (by decide)) q715a q715c (g := (mkF m 200 #[.val (.int u0), .val (.int u1), .val (.int u2), .val (.int u3), .val (.int u4), .val (.ref b2), .val (.ref b15), .val (.ref b37), .val (.int q8_55), .val (.int q9_55), .val (.int q10_55), .val (.int q11_55), .val (.int w468), .unset] [(.ref b15)])) rfl (by rw [hml]; rfl) (Steps.refl _) (argsL := []) (rest := []) (lenOf pd_5 rfl) rfl (by show 2 * 0 + _ ≤ _; exact Nat.le_of_eq rfl) (hb hby at_200) (fun _ _ => ⟨rfl, e470, (by decide : 5 + 0 ≤ _), (by decide : 16 + 0 ≤ _)⟩)
              dsimp only [Pt.U, Pt.locs, Pt.cells, Pt.slots] at X715 l715 y715 z715 st715 hQ715
              subst l715 y715 z715
              obtain ⟨z0715, z1715, z2715, z3715, z4715, z5715, hv715, N715q, K715, fo715_0, fo715_1, fo715_2, fo715_3, fo715_4, fo715_5, fo715_6, po715_0⟩ := hQ715
              have f716 := Nat.le_trans fm470_0 K715.1
              have f717 := fm470_1.keep K715
              have f718 := fm470_6.keep K715 (ninS ne16 (ninS ne26 (ninS ne29 nin0)))
              have f719 := fm470_9.keep K715 (ninS ne39.symm (ninS ne40.symm (ninS ne41.symm nin0)))
              subst hv715
              have N715 := Fr.app N470 N715q
              have pre715 : Go p.tables e below (s₁.setTop (entryFrame m #[(.int u0), (.int u1), (.int u2), (.int u3), (.int u4)] maxLocals)) T715 (mkF m 203 #[.val (.int u0), .val (.int u1), .val (.int u2), .val (.int u3), .val (.int u4), .val (.ref b2), .val (.ref b15), .val (.ref b37), .val (.int q8_55), .val (.int q9_55), .val (.int q10_55), .val (.int q11_55), .val (.int w468), .unset] [(.int (1 : Int32))]) := fun t k => pre714 t (st715.trans k)
              have pre720 : Go p.tables e below (s₁.setTop (entryFrame m #[(.int u0), (.int u1), (.int u2), (.int u3), (.int u4)] maxLocals)) T715 (mkF m 220 #[.val (.int u0), .val (.int u1), .val (.int u2), .val (.int u3), .val (.int u4), .val (.ref b2), .val (.ref b15), .val (.ref b37), .val (.int q8_55), .val (.int q9_55), .val (.int q10_55), .val (.int q11_55), .val (.int w468), .val (.int (1 : Int32))] [(.int (1 : Int32)), (.ref b37)]) := fun t k => pre715 t (by
                  refine XS.istore X715.here hx rfl (hb hby at_203) rfl (l' := #[.val (.int u0), .val (.int u1), .val (.int u2), .val (.int u3), .val (.int u4), .val (.ref b2), .val (.ref b15), .val (.ref b37), .val (.int q8_55), .val (.int q9_55), .val (.int q10_55), .val (.int q11_55), .val (.int w468), .val (.int (1 : Int32))]) rfl ?_
                  show Steps p.tables e below (T715.setTop (mkF m 205 #[.val (.int u0), .val (.int u1), .val (.int u2), .val (.int u3), .val (.int u4), .val (.ref b2), .val (.ref b15), .val (.ref b37), .val (.int q8_55), .val (.int q9_55), .val (.int q10_55), .val (.int q11_55), .val (.int w468), .val (.int (1 : Int32))] [])) _
                  refine XS.iload X715.here hx rfl (hb hby at_205) rfl ?_
                  refine XS.ifNo X715.here hx rfl (hb hby at_207) rfl ((if0 _ _).trans (flt (by decide)).1) ?_
                  refine XS.iload X715.here hx rfl (hb hby at_210) rfl ?_
                  refine XS.iconst X715.here hx rfl (hb hby at_212) ?_
                  refine XS.icmpNo X715.here hx rfl (hb hby at_213) rfl (flt (by decide)).2.2.1 ?_
                  refine XS.aload X715.here hx rfl (hb hby at_216) rfl rfl ?_
                  refine XS.iload X715.here hx rfl (hb hby at_218) rfl ?_
                  exact k)
              obtain ⟨c721, Ar721, q721, S721, M721, H721, G721⟩ := (id f719)
              have hin721 : ¬ ((1 : Int32) < 0 ∨ c721.slots.size ≤ ((1 : Int32)).toNatClampNeg) := inb_of S721 ⟨by decide, by decide⟩
              have pre721 : Go p.tables e below (s₁.setTop (entryFrame m #[(.int u0), (.int u1), (.int u2), (.int u3), (.int u4)] maxLocals)) T715 (mkF m 221 #[.val (.int u0), .val (.int u1), .val (.int u2), .val (.int u3), .val (.int u4), .val (.ref b2), .val (.ref b15), .val (.ref b37), .val (.int q8_55), .val (.int q9_55), .val (.int q10_55), .val (.int q11_55), .val (.int w468), .val (.int (1 : Int32))] [(.int (1 : Int32))]) := fun t k => pre720 t (X715.baloadBooleans hx (j := (1 : Int32)) (v := (.int (1 : Int32))) (by exact Ar721.1) (State.isArrayOf_alike hZ.alike Ar721.2.1) Ar721.2.2 hin721 (H721.at hin721 rfl) (g := (mkF m 220 #[.val (.int u0), .val (.int u1), .val (.int u2), .val (.int u3), .val (.int u4), .val (.ref b2), .val (.ref b15), .val (.ref b37), .val (.int q8_55), .val (.int q9_55), .val (.int q10_55), .val (.int q11_55), .val (.int w468), .val (.int (1 : Int32))] [(.int (1 : Int32)), (.ref b37)])) rfl rfl (hb hby at_220) _ k)
              have pre722 : Go p.tables e below (s₁.setTop (entryFrame m #[(.int u0), (.int u1), (.int u2), (.int u3), (.int u4)] maxLocals)) T715 (mkF m 231 #[.val (.int u0), .val (.int u1), .val (.int u2), .val (.int u3), .val (.int u4), .val (.ref b2), .val (.ref b15), .val (.ref b37), .val (.int q8_55), .val (.int q9_55), .val (.int q10_55), .val (.int q11_55), .val (.int w468), .val (.int (1 : Int32))] [(.int (0 : Int32)), (.int (1 : Int32)), (.ref b37)]) := fun t k => pre721 t (by
                  refine XS.ifYes X715.here hx rfl (pc0 := 221) (pc' := 226) rfl (hb hby at_221) rfl ((if0 _ _).trans (feq (by decide)).2) (by decide) (by decide) ?_
                  refine XS.aload X715.here hx rfl (hb hby at_226) rfl rfl ?_
                  refine XS.iload X715.here hx rfl (hb hby at_228) rfl ?_
                  refine XS.iconst X715.here hx rfl (hb hby at_230) ?_
                  exact k)
              obtain ⟨c723, Ar723, q723, S723, M723, H723, G723⟩ := (id f719)
              have hin723 : ¬ ((1 : Int32) < 0 ∨ c723.slots.size ≤ ((1 : Int32)).toNatClampNeg) := inb_of S723 ⟨by decide, by decide⟩
              obtain ⟨T723, h723, X723, e723, W723, st723⟩ := stZ X715 hx hZ rfl Ar723 (j := (1 : Int32)) hin723 (g := (mkF m 231 #[.val (.int u0), .val (.int u1), .val (.int u2), .val (.int u3), .val (.int u4), .val (.ref b2), .val (.ref b15), .val (.ref b37), .val (.int q8_55), .val (.int q9_55), .val (.int q10_55), .val (.int q11_55), .val (.int w468), .val (.int (1 : Int32))] [(.int (0 : Int32)), (.int (1 : Int32)), (.ref b37)])) rfl rfl (hb hby at_231)
              have fa723 : Arv Z h723 b37 k37 .boolean (3 : Int32) [(.int (0 : Int32)), (.int (0 : Int32)), (.int (1 : Int32))] (.int (0 : Int32)) := Arv.set Ar723 q723 S723 M723 H723 G723 (fits_nar_bool _) W723 1 rfl (Nat.le_of_ble_eq_true rfl)
              have N723 := Fr.snoc X723 N715 g42
              have f724 : n0 ≤ h723.size := Nat.le_trans f716 (Keep.of_wr W723).1
              have f725 : Arv Z h723 b2 k2 .double (3 : Int32) [(.double (FP.i2d (u0 &&& (3 : Int32)))), (.double (FP.i2d ((u0 >>> ((2 : Int32) &&& 31)) &&& (3 : Int32)))), (.double (FP.i2d ((u0 >>> ((4 : Int32) &&& 31)) &&& (3 : Int32))))] (.double 0) := f718.other W723 ne38
              have f726 : Exa Z h723 b15 "com/example/octopoll/octopoll/PageHeap" := fo715_0.wr W723
              have f727 : Fld Z h723 b15 "com/example/octopoll/octopoll/PageHeap" "key" "[D" (.ref b2) := fo715_1.other W723 (Or.inl ne39)
              have f728 : Fld Z h723 b15 "com/example/octopoll/octopoll/PageHeap" "heap" "[I" (.ref ha25) := fo715_2.other W723 (Or.inl ne39)
              have f729 : Fld Z h723 b15 "com/example/octopoll/octopoll/PageHeap" "position" "[I" (.ref pa25) := fo715_3.other W723 (Or.inl ne39)
              have f730 : Fld Z h723 b15 "com/example/octopoll/octopoll/PageHeap" "size" "I" (.int (1 : Int32)) := fo715_4.other W723 (Or.inl ne39)
              have f731 : Arv Z h723 ha25 kh25 .int (3 : Int32) [(.int z0715), (.int z1715), (.int z2715)] (.int (0 : Int32)) := fo715_5.other W723 ne40
              have f732 : Arv Z h723 pa25 kp25 .int (3 : Int32) [(.int z3715), (.int z4715), (.int z5715)] (.int (0 : Int32)) := fo715_6.other W723 ne41
              have pre723 : Go p.tables e below (s₁.setTop (entryFrame m #[(.int u0), (.int u1), (.int u2), (.int u3), (.int u4)] maxLocals)) T723 (mkF m 232 #[.val (.int u0), .val (.int u1), .val (.int u2), .val (.int u3), .val (.int u4), .val (.ref b2), .val (.ref b15), .val (.ref b37), .val (.int q8_55), .val (.int q9_55), .val (.int q10_55), .val (.int q11_55), .val (.int w468), .val (.int (1 : Int32))] []) := fun t k => pre722 t (st723 _ k)
              exact ⟨T723, _, h723, (.val (.int (1 : Int32))), false, false, true, z0715, z1715, z2715, z3715, z4715, z5715, X723, e723, N723, f724, f726, f727, f728, f729, f730, f725, f731, f732, fa723, po715_0, pre723⟩
            · -- z0_470 = (2 : Int32)
              have pre733 : Go p.tables e below (s₁.setTop (entryFrame m #[(.int u0), (.int u1), (.int u2), (.int u3), (.int u4)] maxLocals)) T470 (mkF m 200 #[.val (.int u0), .val (.int u1), .val (.int u2), .val (.int u3), .val (.int u4), .val (.ref b2), .val (.ref b15), .val (.ref b37), .val (.int q8_55), .val (.int q9_55), .val (.int q10_55), .val (.int q11_55), .val (.int w468), .unset] [(.ref b15)]) := fun t k => pre712 t (by
                  refine XS.aload X470.here hx rfl (hb hby at_198) rfl rfl ?_
                  exact k)
              obtain ⟨cq734, kq734, q734a, q734b, q734c⟩ := isOf hZ e470 fm470_1
              obtain ⟨_, _, ⟨T734, L734, k734, n734⟩, -, X734, ⟨Lc734, hQ734, l734, y734, z734⟩, st734⟩ := X470.virtualBack hx (y := (⟨"com/example/octopoll/octopoll/PageHeap", "poll", "()I"⟩ : MethodName)) (z := (⟨"com/example/octopoll/octopoll/PageHeap", "poll", "()I"⟩ : MethodName)) hown (mvT hZ (hw _ (List.mem_of_getElem? (i := 56) rfl))) (mvT hZ (hw _ (List.mem_of_getElem? (i := 57) rfl))) (notFace_of_selects (args := #[]) (mvT hZ (hw _ (List.mem_of_getElem? (i := 59) rfl)))) (mvT hZ (hw _ (List.mem_of_getElem? (i := 59) rfl))) (mvT hZ (hw _ (List.mem_of_getElem? (i := 58) rfl))) (by decide) (backOf (W := 0) (rm_pol2 l Z av0 hw [] b15 b2 ha25 pa25 k2 kh25 kp25 (FP.i2d (u0 &&& (3 : Int32))) (FP.i2d ((u0 >>> ((2 : Int32) &&& 31)) &&& (3 : Int32))) (FP.i2d ((u0 >>> ((4 : Int32) &&& 31)) &&& (3 : Int32))) z1_470 z2_470 z3_470 z4_470 z5_470 false true h470 n0 fm470_0 fm470_1 fm470_2 fm470_3 fm470_4 fm470_5 fm470_6 fm470_7 fm470_8 g17 gha25 gpa25 ne27 ne30 po25_0 ne16.symm ne26 ne29 pm470_0) hZ (hw _ (List.mem_of_getElem? (i := 60) rfl)) (hw _ (List.mem_of_getElem? (i := 3) rfl)) (by decide) (by decide)) q734a q734c (g := (mkF m 200 #[.val (.int u0), .val (.int u1), .val (.int u2), .val (.int u3), .val (.int u4), .val (.ref b2), .val (.ref b15), .val (.ref b37), .val (.int q8_55), .val (.int q9_55), .val (.int q10_55), .val (.int q11_55), .val (.int w468), .unset] [(.ref b15)])) rfl (by rw [hml]; rfl) (Steps.refl _) (argsL := []) (rest := []) (lenOf pd_5 rfl) rfl (by show 2 * 0 + _ ≤ _; exact Nat.le_of_eq rfl) (hb hby at_200) (fun _ _ => ⟨rfl, e470, (by decide : 5 + 0 ≤ _), (by decide : 16 + 0 ≤ _)⟩)
              dsimp only [Pt.U, Pt.locs, Pt.cells, Pt.slots] at X734 l734 y734 z734 st734 hQ734
              subst l734 y734 z734
              obtain ⟨z0734, z1734, z2734, z3734, z4734, z5734, hv734, N734q, K734, fo734_0, fo734_1, fo734_2, fo734_3, fo734_4, fo734_5, fo734_6, po734_0⟩ := hQ734
              have f735 := Nat.le_trans fm470_0 K734.1
              have f736 := fm470_1.keep K734
              have f737 := fm470_6.keep K734 (ninS ne16 (ninS ne26 (ninS ne29 nin0)))
              have f738 := fm470_9.keep K734 (ninS ne39.symm (ninS ne40.symm (ninS ne41.symm nin0)))
              subst hv734
              have N734 := Fr.app N470 N734q
              have pre734 : Go p.tables e below (s₁.setTop (entryFrame m #[(.int u0), (.int u1), (.int u2), (.int u3), (.int u4)] maxLocals)) T734 (mkF m 203 #[.val (.int u0), .val (.int u1), .val (.int u2), .val (.int u3), .val (.int u4), .val (.ref b2), .val (.ref b15), .val (.ref b37), .val (.int q8_55), .val (.int q9_55), .val (.int q10_55), .val (.int q11_55), .val (.int w468), .unset] [(.int (2 : Int32))]) := fun t k => pre733 t (st734.trans k)
              have pre739 : Go p.tables e below (s₁.setTop (entryFrame m #[(.int u0), (.int u1), (.int u2), (.int u3), (.int u4)] maxLocals)) T734 (mkF m 220 #[.val (.int u0), .val (.int u1), .val (.int u2), .val (.int u3), .val (.int u4), .val (.ref b2), .val (.ref b15), .val (.ref b37), .val (.int q8_55), .val (.int q9_55), .val (.int q10_55), .val (.int q11_55), .val (.int w468), .val (.int (2 : Int32))] [(.int (2 : Int32)), (.ref b37)]) := fun t k => pre734 t (by
                  refine XS.istore X734.here hx rfl (hb hby at_203) rfl (l' := #[.val (.int u0), .val (.int u1), .val (.int u2), .val (.int u3), .val (.int u4), .val (.ref b2), .val (.ref b15), .val (.ref b37), .val (.int q8_55), .val (.int q9_55), .val (.int q10_55), .val (.int q11_55), .val (.int w468), .val (.int (2 : Int32))]) rfl ?_
                  show Steps p.tables e below (T734.setTop (mkF m 205 #[.val (.int u0), .val (.int u1), .val (.int u2), .val (.int u3), .val (.int u4), .val (.ref b2), .val (.ref b15), .val (.ref b37), .val (.int q8_55), .val (.int q9_55), .val (.int q10_55), .val (.int q11_55), .val (.int w468), .val (.int (2 : Int32))] [])) _
                  refine XS.iload X734.here hx rfl (hb hby at_205) rfl ?_
                  refine XS.ifNo X734.here hx rfl (hb hby at_207) rfl ((if0 _ _).trans (flt (by decide)).1) ?_
                  refine XS.iload X734.here hx rfl (hb hby at_210) rfl ?_
                  refine XS.iconst X734.here hx rfl (hb hby at_212) ?_
                  refine XS.icmpNo X734.here hx rfl (hb hby at_213) rfl (flt (by decide)).2.2.1 ?_
                  refine XS.aload X734.here hx rfl (hb hby at_216) rfl rfl ?_
                  refine XS.iload X734.here hx rfl (hb hby at_218) rfl ?_
                  exact k)
              obtain ⟨c740, Ar740, q740, S740, M740, H740, G740⟩ := (id f738)
              have hin740 : ¬ ((2 : Int32) < 0 ∨ c740.slots.size ≤ ((2 : Int32)).toNatClampNeg) := inb_of S740 ⟨by decide, by decide⟩
              have pre740 : Go p.tables e below (s₁.setTop (entryFrame m #[(.int u0), (.int u1), (.int u2), (.int u3), (.int u4)] maxLocals)) T734 (mkF m 221 #[.val (.int u0), .val (.int u1), .val (.int u2), .val (.int u3), .val (.int u4), .val (.ref b2), .val (.ref b15), .val (.ref b37), .val (.int q8_55), .val (.int q9_55), .val (.int q10_55), .val (.int q11_55), .val (.int w468), .val (.int (2 : Int32))] [(.int (1 : Int32))]) := fun t k => pre739 t (X734.baloadBooleans hx (j := (2 : Int32)) (v := (.int (1 : Int32))) (by exact Ar740.1) (State.isArrayOf_alike hZ.alike Ar740.2.1) Ar740.2.2 hin740 (H740.at hin740 rfl) (g := (mkF m 220 #[.val (.int u0), .val (.int u1), .val (.int u2), .val (.int u3), .val (.int u4), .val (.ref b2), .val (.ref b15), .val (.ref b37), .val (.int q8_55), .val (.int q9_55), .val (.int q10_55), .val (.int q11_55), .val (.int w468), .val (.int (2 : Int32))] [(.int (2 : Int32)), (.ref b37)])) rfl rfl (hb hby at_220) _ k)
              have pre741 : Go p.tables e below (s₁.setTop (entryFrame m #[(.int u0), (.int u1), (.int u2), (.int u3), (.int u4)] maxLocals)) T734 (mkF m 231 #[.val (.int u0), .val (.int u1), .val (.int u2), .val (.int u3), .val (.int u4), .val (.ref b2), .val (.ref b15), .val (.ref b37), .val (.int q8_55), .val (.int q9_55), .val (.int q10_55), .val (.int q11_55), .val (.int w468), .val (.int (2 : Int32))] [(.int (0 : Int32)), (.int (2 : Int32)), (.ref b37)]) := fun t k => pre740 t (by
                  refine XS.ifYes X734.here hx rfl (pc0 := 221) (pc' := 226) rfl (hb hby at_221) rfl ((if0 _ _).trans (feq (by decide)).2) (by decide) (by decide) ?_
                  refine XS.aload X734.here hx rfl (hb hby at_226) rfl rfl ?_
                  refine XS.iload X734.here hx rfl (hb hby at_228) rfl ?_
                  refine XS.iconst X734.here hx rfl (hb hby at_230) ?_
                  exact k)
              obtain ⟨c742, Ar742, q742, S742, M742, H742, G742⟩ := (id f738)
              have hin742 : ¬ ((2 : Int32) < 0 ∨ c742.slots.size ≤ ((2 : Int32)).toNatClampNeg) := inb_of S742 ⟨by decide, by decide⟩
              obtain ⟨T742, h742, X742, e742, W742, st742⟩ := stZ X734 hx hZ rfl Ar742 (j := (2 : Int32)) hin742 (g := (mkF m 231 #[.val (.int u0), .val (.int u1), .val (.int u2), .val (.int u3), .val (.int u4), .val (.ref b2), .val (.ref b15), .val (.ref b37), .val (.int q8_55), .val (.int q9_55), .val (.int q10_55), .val (.int q11_55), .val (.int w468), .val (.int (2 : Int32))] [(.int (0 : Int32)), (.int (2 : Int32)), (.ref b37)])) rfl rfl (hb hby at_231)
              have fa742 : Arv Z h742 b37 k37 .boolean (3 : Int32) [(.int (0 : Int32)), (.int (1 : Int32)), (.int (0 : Int32))] (.int (0 : Int32)) := Arv.set Ar742 q742 S742 M742 H742 G742 (fits_nar_bool _) W742 2 rfl (Nat.le_of_ble_eq_true rfl)
              have N742 := Fr.snoc X742 N734 g42
              have f743 : n0 ≤ h742.size := Nat.le_trans f735 (Keep.of_wr W742).1
              have f744 : Arv Z h742 b2 k2 .double (3 : Int32) [(.double (FP.i2d (u0 &&& (3 : Int32)))), (.double (FP.i2d ((u0 >>> ((2 : Int32) &&& 31)) &&& (3 : Int32)))), (.double (FP.i2d ((u0 >>> ((4 : Int32) &&& 31)) &&& (3 : Int32))))] (.double 0) := f737.other W742 ne38
              have f745 : Exa Z h742 b15 "com/example/octopoll/octopoll/PageHeap" := fo734_0.wr W742
              have f746 : Fld Z h742 b15 "com/example/octopoll/octopoll/PageHeap" "key" "[D" (.ref b2) := fo734_1.other W742 (Or.inl ne39)
              have f747 : Fld Z h742 b15 "com/example/octopoll/octopoll/PageHeap" "heap" "[I" (.ref ha25) := fo734_2.other W742 (Or.inl ne39)
              have f748 : Fld Z h742 b15 "com/example/octopoll/octopoll/PageHeap" "position" "[I" (.ref pa25) := fo734_3.other W742 (Or.inl ne39)
              have f749 : Fld Z h742 b15 "com/example/octopoll/octopoll/PageHeap" "size" "I" (.int (1 : Int32)) := fo734_4.other W742 (Or.inl ne39)
              have f750 : Arv Z h742 ha25 kh25 .int (3 : Int32) [(.int z0734), (.int z1734), (.int z2734)] (.int (0 : Int32)) := fo734_5.other W742 ne40
              have f751 : Arv Z h742 pa25 kp25 .int (3 : Int32) [(.int z3734), (.int z4734), (.int z5734)] (.int (0 : Int32)) := fo734_6.other W742 ne41
              have pre742 : Go p.tables e below (s₁.setTop (entryFrame m #[(.int u0), (.int u1), (.int u2), (.int u3), (.int u4)] maxLocals)) T742 (mkF m 232 #[.val (.int u0), .val (.int u1), .val (.int u2), .val (.int u3), .val (.int u4), .val (.ref b2), .val (.ref b15), .val (.ref b37), .val (.int q8_55), .val (.int q9_55), .val (.int q10_55), .val (.int q11_55), .val (.int w468), .val (.int (2 : Int32))] []) := fun t k => pre741 t (st742 _ k)
              exact ⟨T742, _, h742, (.val (.int (2 : Int32))), false, true, false, z0734, z1734, z2734, z3734, z4734, z5734, X742, e742, N742, f743, f745, f746, f747, f748, f749, f744, f750, f751, fa742, po734_0, pre742⟩
          · -- bit 2 False
            have pre752 : Go p.tables e below (s₁.setTop (entryFrame m #[(.int u0), (.int u1), (.int u2), (.int u3), (.int u4)] maxLocals)) T470 (mkF m 180 #[.val (.int u0), .val (.int u1), .val (.int u2), .val (.int u3), .val (.int u4), .val (.ref b2), .val (.ref b15), .val (.ref b37), .val (.int q8_55), .val (.int q9_55), .val (.int q10_55), .val (.int q11_55), .val (.int w468), .unset] [(.int (0 : Int32)), (.ref b37)]) := fun t k => pre539 t (by
                refine XS.aload X470.here hx rfl (hb hby at_177) rfl rfl ?_
                refine XS.iconst X470.here hx rfl (hb hby at_179) ?_
                exact k)
            obtain ⟨c753, Ar753, q753, S753, M753, H753, G753⟩ := (id fm470_9)
            have hin753 : ¬ ((0 : Int32) < 0 ∨ c753.slots.size ≤ ((0 : Int32)).toNatClampNeg) := inb_of S753 ⟨by decide, by decide⟩
            have pre753 : Go p.tables e below (s₁.setTop (entryFrame m #[(.int u0), (.int u1), (.int u2), (.int u3), (.int u4)] maxLocals)) T470 (mkF m 181 #[.val (.int u0), .val (.int u1), .val (.int u2), .val (.int u3), .val (.int u4), .val (.ref b2), .val (.ref b15), .val (.ref b37), .val (.int q8_55), .val (.int q9_55), .val (.int q10_55), .val (.int q11_55), .val (.int w468), .unset] [(.int (0 : Int32))]) := fun t k => pre752 t (X470.baloadBooleans hx (j := (0 : Int32)) (v := (.int (0 : Int32))) (by rw [e470]; exact Ar753.1) (State.isArrayOf_alike hZ.alike Ar753.2.1) Ar753.2.2 hin753 (H753.at hin753 rfl) (g := (mkF m 180 #[.val (.int u0), .val (.int u1), .val (.int u2), .val (.int u3), .val (.int u4), .val (.ref b2), .val (.ref b15), .val (.ref b37), .val (.int q8_55), .val (.int q9_55), .val (.int q10_55), .val (.int q11_55), .val (.int w468), .unset] [(.int (0 : Int32)), (.ref b37)])) rfl rfl (hb hby at_180) _ k)
            have pre754 : Go p.tables e below (s₁.setTop (entryFrame m #[(.int u0), (.int u1), (.int u2), (.int u3), (.int u4)] maxLocals)) T470 (mkF m 187 #[.val (.int u0), .val (.int u1), .val (.int u2), .val (.int u3), .val (.int u4), .val (.ref b2), .val (.ref b15), .val (.ref b37), .val (.int q8_55), .val (.int q9_55), .val (.int q10_55), .val (.int q11_55), .val (.int w468), .unset] [(.int (1 : Int32)), (.ref b37)]) := fun t k => pre753 t (by
                refine XS.ifNo X470.here hx rfl (hb hby at_181) rfl ((if0 _ _).trans (teq rfl).2) ?_
                refine XS.aload X470.here hx rfl (hb hby at_184) rfl rfl ?_
                refine XS.iconst X470.here hx rfl (hb hby at_186) ?_
                exact k)
            obtain ⟨c755, Ar755, q755, S755, M755, H755, G755⟩ := (id fm470_9)
            have hin755 : ¬ ((1 : Int32) < 0 ∨ c755.slots.size ≤ ((1 : Int32)).toNatClampNeg) := inb_of S755 ⟨by decide, by decide⟩
            have pre755 : Go p.tables e below (s₁.setTop (entryFrame m #[(.int u0), (.int u1), (.int u2), (.int u3), (.int u4)] maxLocals)) T470 (mkF m 188 #[.val (.int u0), .val (.int u1), .val (.int u2), .val (.int u3), .val (.int u4), .val (.ref b2), .val (.ref b15), .val (.ref b37), .val (.int q8_55), .val (.int q9_55), .val (.int q10_55), .val (.int q11_55), .val (.int w468), .unset] [(.int (1 : Int32))]) := fun t k => pre754 t (X470.baloadBooleans hx (j := (1 : Int32)) (v := (.int (1 : Int32))) (by rw [e470]; exact Ar755.1) (State.isArrayOf_alike hZ.alike Ar755.2.1) Ar755.2.2 hin755 (H755.at hin755 rfl) (g := (mkF m 187 #[.val (.int u0), .val (.int u1), .val (.int u2), .val (.int u3), .val (.int u4), .val (.ref b2), .val (.ref b15), .val (.ref b37), .val (.int q8_55), .val (.int q9_55), .val (.int q10_55), .val (.int q11_55), .val (.int w468), .unset] [(.int (1 : Int32)), (.ref b37)])) rfl rfl (hb hby at_187) _ k)
            have pre756 : Go p.tables e below (s₁.setTop (entryFrame m #[(.int u0), (.int u1), (.int u2), (.int u3), (.int u4)] maxLocals)) T470 (mkF m 198 #[.val (.int u0), .val (.int u1), .val (.int u2), .val (.int u3), .val (.int u4), .val (.ref b2), .val (.ref b15), .val (.ref b37), .val (.int q8_55), .val (.int q9_55), .val (.int q10_55), .val (.int q11_55), .val (.int w468), .unset] []) := fun t k => pre755 t (by
                refine XS.ifYes X470.here hx rfl (pc0 := 188) (pc' := 198) rfl (hb hby at_188) rfl ((if0 _ _).trans (feq (by decide)).2) (by decide) (by decide) ?_
                exact k)
            have hz757 : z0_470 = 1 := (by decide +kernel : ∀ t ∈ own_S false true false, t.1 = 1) _ pm470_0
            rcases (hz757) with rfl
            · -- z0_470 = (1 : Int32)
              have pre758 : Go p.tables e below (s₁.setTop (entryFrame m #[(.int u0), (.int u1), (.int u2), (.int u3), (.int u4)] maxLocals)) T470 (mkF m 200 #[.val (.int u0), .val (.int u1), .val (.int u2), .val (.int u3), .val (.int u4), .val (.ref b2), .val (.ref b15), .val (.ref b37), .val (.int q8_55), .val (.int q9_55), .val (.int q10_55), .val (.int q11_55), .val (.int w468), .unset] [(.ref b15)]) := fun t k => pre756 t (by
                  refine XS.aload X470.here hx rfl (hb hby at_198) rfl rfl ?_
                  exact k)
              obtain ⟨cq759, kq759, q759a, q759b, q759c⟩ := isOf hZ e470 fm470_1
              obtain ⟨_, _, ⟨T759, L759, k759, n759⟩, -, X759, ⟨Lc759, hQ759, l759, y759, z759⟩, st759⟩ := X470.virtualBack hx (y := (⟨"com/example/octopoll/octopoll/PageHeap", "poll", "()I"⟩ : MethodName)) (z := (⟨"com/example/octopoll/octopoll/PageHeap", "poll", "()I"⟩ : MethodName)) hown (mvT hZ (hw _ (List.mem_of_getElem? (i := 56) rfl))) (mvT hZ (hw _ (List.mem_of_getElem? (i := 57) rfl))) (notFace_of_selects (args := #[]) (mvT hZ (hw _ (List.mem_of_getElem? (i := 59) rfl)))) (mvT hZ (hw _ (List.mem_of_getElem? (i := 59) rfl))) (mvT hZ (hw _ (List.mem_of_getElem? (i := 58) rfl))) (by decide) (backOf (W := 0) (rm_pol1 l Z av0 hw [] b15 b2 ha25 pa25 k2 kh25 kp25 (FP.i2d (u0 &&& (3 : Int32))) (FP.i2d ((u0 >>> ((2 : Int32) &&& 31)) &&& (3 : Int32))) (FP.i2d ((u0 >>> ((4 : Int32) &&& 31)) &&& (3 : Int32))) z1_470 z2_470 z3_470 z4_470 z5_470 false false h470 n0 fm470_0 fm470_1 fm470_2 fm470_3 fm470_4 fm470_5 fm470_6 fm470_7 fm470_8 g17 gha25 gpa25 ne27 ne30 po25_0 ne16.symm ne26 ne29 pm470_0) hZ (hw _ (List.mem_of_getElem? (i := 60) rfl)) (hw _ (List.mem_of_getElem? (i := 3) rfl)) (by decide) (by decide)) q759a q759c (g := (mkF m 200 #[.val (.int u0), .val (.int u1), .val (.int u2), .val (.int u3), .val (.int u4), .val (.ref b2), .val (.ref b15), .val (.ref b37), .val (.int q8_55), .val (.int q9_55), .val (.int q10_55), .val (.int q11_55), .val (.int w468), .unset] [(.ref b15)])) rfl (by rw [hml]; rfl) (Steps.refl _) (argsL := []) (rest := []) (lenOf pd_5 rfl) rfl (by show 2 * 0 + _ ≤ _; exact Nat.le_of_eq rfl) (hb hby at_200) (fun _ _ => ⟨rfl, e470, (by decide : 5 + 0 ≤ _), (by decide : 16 + 0 ≤ _)⟩)
              dsimp only [Pt.U, Pt.locs, Pt.cells, Pt.slots] at X759 l759 y759 z759 st759 hQ759
              subst l759 y759 z759
              obtain ⟨z0759, z1759, z2759, z3759, z4759, z5759, hv759, N759q, K759, fo759_0, fo759_1, fo759_2, fo759_3, fo759_4, fo759_5, fo759_6, po759_0⟩ := hQ759
              have f760 := Nat.le_trans fm470_0 K759.1
              have f761 := fm470_1.keep K759
              have f762 := fm470_6.keep K759 (ninS ne16 (ninS ne26 (ninS ne29 nin0)))
              have f763 := fm470_9.keep K759 (ninS ne39.symm (ninS ne40.symm (ninS ne41.symm nin0)))
              subst hv759
              have N759 := Fr.app N470 N759q
              have pre759 : Go p.tables e below (s₁.setTop (entryFrame m #[(.int u0), (.int u1), (.int u2), (.int u3), (.int u4)] maxLocals)) T759 (mkF m 203 #[.val (.int u0), .val (.int u1), .val (.int u2), .val (.int u3), .val (.int u4), .val (.ref b2), .val (.ref b15), .val (.ref b37), .val (.int q8_55), .val (.int q9_55), .val (.int q10_55), .val (.int q11_55), .val (.int w468), .unset] [(.int (1 : Int32))]) := fun t k => pre758 t (st759.trans k)
              have pre764 : Go p.tables e below (s₁.setTop (entryFrame m #[(.int u0), (.int u1), (.int u2), (.int u3), (.int u4)] maxLocals)) T759 (mkF m 220 #[.val (.int u0), .val (.int u1), .val (.int u2), .val (.int u3), .val (.int u4), .val (.ref b2), .val (.ref b15), .val (.ref b37), .val (.int q8_55), .val (.int q9_55), .val (.int q10_55), .val (.int q11_55), .val (.int w468), .val (.int (1 : Int32))] [(.int (1 : Int32)), (.ref b37)]) := fun t k => pre759 t (by
                  refine XS.istore X759.here hx rfl (hb hby at_203) rfl (l' := #[.val (.int u0), .val (.int u1), .val (.int u2), .val (.int u3), .val (.int u4), .val (.ref b2), .val (.ref b15), .val (.ref b37), .val (.int q8_55), .val (.int q9_55), .val (.int q10_55), .val (.int q11_55), .val (.int w468), .val (.int (1 : Int32))]) rfl ?_
                  show Steps p.tables e below (T759.setTop (mkF m 205 #[.val (.int u0), .val (.int u1), .val (.int u2), .val (.int u3), .val (.int u4), .val (.ref b2), .val (.ref b15), .val (.ref b37), .val (.int q8_55), .val (.int q9_55), .val (.int q10_55), .val (.int q11_55), .val (.int w468), .val (.int (1 : Int32))] [])) _
                  refine XS.iload X759.here hx rfl (hb hby at_205) rfl ?_
                  refine XS.ifNo X759.here hx rfl (hb hby at_207) rfl ((if0 _ _).trans (flt (by decide)).1) ?_
                  refine XS.iload X759.here hx rfl (hb hby at_210) rfl ?_
                  refine XS.iconst X759.here hx rfl (hb hby at_212) ?_
                  refine XS.icmpNo X759.here hx rfl (hb hby at_213) rfl (flt (by decide)).2.2.1 ?_
                  refine XS.aload X759.here hx rfl (hb hby at_216) rfl rfl ?_
                  refine XS.iload X759.here hx rfl (hb hby at_218) rfl ?_
                  exact k)
              obtain ⟨c765, Ar765, q765, S765, M765, H765, G765⟩ := (id f763)
              have hin765 : ¬ ((1 : Int32) < 0 ∨ c765.slots.size ≤ ((1 : Int32)).toNatClampNeg) := inb_of S765 ⟨by decide, by decide⟩
              have pre765 : Go p.tables e below (s₁.setTop (entryFrame m #[(.int u0), (.int u1), (.int u2), (.int u3), (.int u4)] maxLocals)) T759 (mkF m 221 #[.val (.int u0), .val (.int u1), .val (.int u2), .val (.int u3), .val (.int u4), .val (.ref b2), .val (.ref b15), .val (.ref b37), .val (.int q8_55), .val (.int q9_55), .val (.int q10_55), .val (.int q11_55), .val (.int w468), .val (.int (1 : Int32))] [(.int (1 : Int32))]) := fun t k => pre764 t (X759.baloadBooleans hx (j := (1 : Int32)) (v := (.int (1 : Int32))) (by exact Ar765.1) (State.isArrayOf_alike hZ.alike Ar765.2.1) Ar765.2.2 hin765 (H765.at hin765 rfl) (g := (mkF m 220 #[.val (.int u0), .val (.int u1), .val (.int u2), .val (.int u3), .val (.int u4), .val (.ref b2), .val (.ref b15), .val (.ref b37), .val (.int q8_55), .val (.int q9_55), .val (.int q10_55), .val (.int q11_55), .val (.int w468), .val (.int (1 : Int32))] [(.int (1 : Int32)), (.ref b37)])) rfl rfl (hb hby at_220) _ k)
              have pre766 : Go p.tables e below (s₁.setTop (entryFrame m #[(.int u0), (.int u1), (.int u2), (.int u3), (.int u4)] maxLocals)) T759 (mkF m 231 #[.val (.int u0), .val (.int u1), .val (.int u2), .val (.int u3), .val (.int u4), .val (.ref b2), .val (.ref b15), .val (.ref b37), .val (.int q8_55), .val (.int q9_55), .val (.int q10_55), .val (.int q11_55), .val (.int w468), .val (.int (1 : Int32))] [(.int (0 : Int32)), (.int (1 : Int32)), (.ref b37)]) := fun t k => pre765 t (by
                  refine XS.ifYes X759.here hx rfl (pc0 := 221) (pc' := 226) rfl (hb hby at_221) rfl ((if0 _ _).trans (feq (by decide)).2) (by decide) (by decide) ?_
                  refine XS.aload X759.here hx rfl (hb hby at_226) rfl rfl ?_
                  refine XS.iload X759.here hx rfl (hb hby at_228) rfl ?_
                  refine XS.iconst X759.here hx rfl (hb hby at_230) ?_
                  exact k)
              obtain ⟨c767, Ar767, q767, S767, M767, H767, G767⟩ := (id f763)
              have hin767 : ¬ ((1 : Int32) < 0 ∨ c767.slots.size ≤ ((1 : Int32)).toNatClampNeg) := inb_of S767 ⟨by decide, by decide⟩
              obtain ⟨T767, h767, X767, e767, W767, st767⟩ := stZ X759 hx hZ rfl Ar767 (j := (1 : Int32)) hin767 (g := (mkF m 231 #[.val (.int u0), .val (.int u1), .val (.int u2), .val (.int u3), .val (.int u4), .val (.ref b2), .val (.ref b15), .val (.ref b37), .val (.int q8_55), .val (.int q9_55), .val (.int q10_55), .val (.int q11_55), .val (.int w468), .val (.int (1 : Int32))] [(.int (0 : Int32)), (.int (1 : Int32)), (.ref b37)])) rfl rfl (hb hby at_231)
              have fa767 : Arv Z h767 b37 k37 .boolean (3 : Int32) [(.int (0 : Int32)), (.int (0 : Int32)), (.int (0 : Int32))] (.int (0 : Int32)) := Arv.set Ar767 q767 S767 M767 H767 G767 (fits_nar_bool _) W767 1 rfl (Nat.le_of_ble_eq_true rfl)
              have N767 := Fr.snoc X767 N759 g42
              have f768 : n0 ≤ h767.size := Nat.le_trans f760 (Keep.of_wr W767).1
              have f769 : Arv Z h767 b2 k2 .double (3 : Int32) [(.double (FP.i2d (u0 &&& (3 : Int32)))), (.double (FP.i2d ((u0 >>> ((2 : Int32) &&& 31)) &&& (3 : Int32)))), (.double (FP.i2d ((u0 >>> ((4 : Int32) &&& 31)) &&& (3 : Int32))))] (.double 0) := f762.other W767 ne38
              have f770 : Exa Z h767 b15 "com/example/octopoll/octopoll/PageHeap" := fo759_0.wr W767
              have f771 : Fld Z h767 b15 "com/example/octopoll/octopoll/PageHeap" "key" "[D" (.ref b2) := fo759_1.other W767 (Or.inl ne39)
              have f772 : Fld Z h767 b15 "com/example/octopoll/octopoll/PageHeap" "heap" "[I" (.ref ha25) := fo759_2.other W767 (Or.inl ne39)
              have f773 : Fld Z h767 b15 "com/example/octopoll/octopoll/PageHeap" "position" "[I" (.ref pa25) := fo759_3.other W767 (Or.inl ne39)
              have f774 : Fld Z h767 b15 "com/example/octopoll/octopoll/PageHeap" "size" "I" (.int (0 : Int32)) := fo759_4.other W767 (Or.inl ne39)
              have f775 : Arv Z h767 ha25 kh25 .int (3 : Int32) [(.int z0759), (.int z1759), (.int z2759)] (.int (0 : Int32)) := fo759_5.other W767 ne40
              have f776 : Arv Z h767 pa25 kp25 .int (3 : Int32) [(.int z3759), (.int z4759), (.int z5759)] (.int (0 : Int32)) := fo759_6.other W767 ne41
              have pre767 : Go p.tables e below (s₁.setTop (entryFrame m #[(.int u0), (.int u1), (.int u2), (.int u3), (.int u4)] maxLocals)) T767 (mkF m 232 #[.val (.int u0), .val (.int u1), .val (.int u2), .val (.int u3), .val (.int u4), .val (.ref b2), .val (.ref b15), .val (.ref b37), .val (.int q8_55), .val (.int q9_55), .val (.int q10_55), .val (.int q11_55), .val (.int w468), .val (.int (1 : Int32))] []) := fun t k => pre766 t (st767 _ k)
              exact ⟨T767, _, h767, (.val (.int (1 : Int32))), false, false, false, z0759, z1759, z2759, z3759, z4759, z5759, X767, e767, N767, f768, f770, f771, f772, f773, f774, f769, f775, f776, fa767, po759_0, pre767⟩
        · -- bit 1 False
          rcases own_tf b2_470 with rfl | rfl
          · -- bit 2 True
            have pre777 : Go p.tables e below (s₁.setTop (entryFrame m #[(.int u0), (.int u1), (.int u2), (.int u3), (.int u4)] maxLocals)) T470 (mkF m 180 #[.val (.int u0), .val (.int u1), .val (.int u2), .val (.int u3), .val (.int u4), .val (.ref b2), .val (.ref b15), .val (.ref b37), .val (.int q8_55), .val (.int q9_55), .val (.int q10_55), .val (.int q11_55), .val (.int w468), .unset] [(.int (0 : Int32)), (.ref b37)]) := fun t k => pre539 t (by
                refine XS.aload X470.here hx rfl (hb hby at_177) rfl rfl ?_
                refine XS.iconst X470.here hx rfl (hb hby at_179) ?_
                exact k)
            obtain ⟨c778, Ar778, q778, S778, M778, H778, G778⟩ := (id fm470_9)
            have hin778 : ¬ ((0 : Int32) < 0 ∨ c778.slots.size ≤ ((0 : Int32)).toNatClampNeg) := inb_of S778 ⟨by decide, by decide⟩
            have pre778 : Go p.tables e below (s₁.setTop (entryFrame m #[(.int u0), (.int u1), (.int u2), (.int u3), (.int u4)] maxLocals)) T470 (mkF m 181 #[.val (.int u0), .val (.int u1), .val (.int u2), .val (.int u3), .val (.int u4), .val (.ref b2), .val (.ref b15), .val (.ref b37), .val (.int q8_55), .val (.int q9_55), .val (.int q10_55), .val (.int q11_55), .val (.int w468), .unset] [(.int (0 : Int32))]) := fun t k => pre777 t (X470.baloadBooleans hx (j := (0 : Int32)) (v := (.int (0 : Int32))) (by rw [e470]; exact Ar778.1) (State.isArrayOf_alike hZ.alike Ar778.2.1) Ar778.2.2 hin778 (H778.at hin778 rfl) (g := (mkF m 180 #[.val (.int u0), .val (.int u1), .val (.int u2), .val (.int u3), .val (.int u4), .val (.ref b2), .val (.ref b15), .val (.ref b37), .val (.int q8_55), .val (.int q9_55), .val (.int q10_55), .val (.int q11_55), .val (.int w468), .unset] [(.int (0 : Int32)), (.ref b37)])) rfl rfl (hb hby at_180) _ k)
            have pre779 : Go p.tables e below (s₁.setTop (entryFrame m #[(.int u0), (.int u1), (.int u2), (.int u3), (.int u4)] maxLocals)) T470 (mkF m 187 #[.val (.int u0), .val (.int u1), .val (.int u2), .val (.int u3), .val (.int u4), .val (.ref b2), .val (.ref b15), .val (.ref b37), .val (.int q8_55), .val (.int q9_55), .val (.int q10_55), .val (.int q11_55), .val (.int w468), .unset] [(.int (1 : Int32)), (.ref b37)]) := fun t k => pre778 t (by
                refine XS.ifNo X470.here hx rfl (hb hby at_181) rfl ((if0 _ _).trans (teq rfl).2) ?_
                refine XS.aload X470.here hx rfl (hb hby at_184) rfl rfl ?_
                refine XS.iconst X470.here hx rfl (hb hby at_186) ?_
                exact k)
            obtain ⟨c780, Ar780, q780, S780, M780, H780, G780⟩ := (id fm470_9)
            have hin780 : ¬ ((1 : Int32) < 0 ∨ c780.slots.size ≤ ((1 : Int32)).toNatClampNeg) := inb_of S780 ⟨by decide, by decide⟩
            have pre780 : Go p.tables e below (s₁.setTop (entryFrame m #[(.int u0), (.int u1), (.int u2), (.int u3), (.int u4)] maxLocals)) T470 (mkF m 188 #[.val (.int u0), .val (.int u1), .val (.int u2), .val (.int u3), .val (.int u4), .val (.ref b2), .val (.ref b15), .val (.ref b37), .val (.int q8_55), .val (.int q9_55), .val (.int q10_55), .val (.int q11_55), .val (.int w468), .unset] [(.int (0 : Int32))]) := fun t k => pre779 t (X470.baloadBooleans hx (j := (1 : Int32)) (v := (.int (0 : Int32))) (by rw [e470]; exact Ar780.1) (State.isArrayOf_alike hZ.alike Ar780.2.1) Ar780.2.2 hin780 (H780.at hin780 rfl) (g := (mkF m 187 #[.val (.int u0), .val (.int u1), .val (.int u2), .val (.int u3), .val (.int u4), .val (.ref b2), .val (.ref b15), .val (.ref b37), .val (.int q8_55), .val (.int q9_55), .val (.int q10_55), .val (.int q11_55), .val (.int w468), .unset] [(.int (1 : Int32)), (.ref b37)])) rfl rfl (hb hby at_187) _ k)
            have pre781 : Go p.tables e below (s₁.setTop (entryFrame m #[(.int u0), (.int u1), (.int u2), (.int u3), (.int u4)] maxLocals)) T470 (mkF m 194 #[.val (.int u0), .val (.int u1), .val (.int u2), .val (.int u3), .val (.int u4), .val (.ref b2), .val (.ref b15), .val (.ref b37), .val (.int q8_55), .val (.int q9_55), .val (.int q10_55), .val (.int q11_55), .val (.int w468), .unset] [(.int (2 : Int32)), (.ref b37)]) := fun t k => pre780 t (by
                refine XS.ifNo X470.here hx rfl (hb hby at_188) rfl ((if0 _ _).trans (teq rfl).2) ?_
                refine XS.aload X470.here hx rfl (hb hby at_191) rfl rfl ?_
                refine XS.iconst X470.here hx rfl (hb hby at_193) ?_
                exact k)
            obtain ⟨c782, Ar782, q782, S782, M782, H782, G782⟩ := (id fm470_9)
            have hin782 : ¬ ((2 : Int32) < 0 ∨ c782.slots.size ≤ ((2 : Int32)).toNatClampNeg) := inb_of S782 ⟨by decide, by decide⟩
            have pre782 : Go p.tables e below (s₁.setTop (entryFrame m #[(.int u0), (.int u1), (.int u2), (.int u3), (.int u4)] maxLocals)) T470 (mkF m 195 #[.val (.int u0), .val (.int u1), .val (.int u2), .val (.int u3), .val (.int u4), .val (.ref b2), .val (.ref b15), .val (.ref b37), .val (.int q8_55), .val (.int q9_55), .val (.int q10_55), .val (.int q11_55), .val (.int w468), .unset] [(.int (1 : Int32))]) := fun t k => pre781 t (X470.baloadBooleans hx (j := (2 : Int32)) (v := (.int (1 : Int32))) (by rw [e470]; exact Ar782.1) (State.isArrayOf_alike hZ.alike Ar782.2.1) Ar782.2.2 hin782 (H782.at hin782 rfl) (g := (mkF m 194 #[.val (.int u0), .val (.int u1), .val (.int u2), .val (.int u3), .val (.int u4), .val (.ref b2), .val (.ref b15), .val (.ref b37), .val (.int q8_55), .val (.int q9_55), .val (.int q10_55), .val (.int q11_55), .val (.int w468), .unset] [(.int (2 : Int32)), (.ref b37)])) rfl rfl (hb hby at_194) _ k)
            have pre783 : Go p.tables e below (s₁.setTop (entryFrame m #[(.int u0), (.int u1), (.int u2), (.int u3), (.int u4)] maxLocals)) T470 (mkF m 198 #[.val (.int u0), .val (.int u1), .val (.int u2), .val (.int u3), .val (.int u4), .val (.ref b2), .val (.ref b15), .val (.ref b37), .val (.int q8_55), .val (.int q9_55), .val (.int q10_55), .val (.int q11_55), .val (.int w468), .unset] []) := fun t k => pre782 t (by
                refine XS.ifNo X470.here hx rfl (hb hby at_195) rfl ((if0 _ _).trans (feq (by decide)).1) ?_
                exact k)
            have hz784 : z0_470 = 2 := (by decide +kernel : ∀ t ∈ own_S false false true, t.1 = 2) _ pm470_0
            rcases (hz784) with rfl
            · -- z0_470 = (2 : Int32)
              have pre785 : Go p.tables e below (s₁.setTop (entryFrame m #[(.int u0), (.int u1), (.int u2), (.int u3), (.int u4)] maxLocals)) T470 (mkF m 200 #[.val (.int u0), .val (.int u1), .val (.int u2), .val (.int u3), .val (.int u4), .val (.ref b2), .val (.ref b15), .val (.ref b37), .val (.int q8_55), .val (.int q9_55), .val (.int q10_55), .val (.int q11_55), .val (.int w468), .unset] [(.ref b15)]) := fun t k => pre783 t (by
                  refine XS.aload X470.here hx rfl (hb hby at_198) rfl rfl ?_
                  exact k)
              obtain ⟨cq786, kq786, q786a, q786b, q786c⟩ := isOf hZ e470 fm470_1
              obtain ⟨_, _, ⟨T786, L786, k786, n786⟩, -, X786, ⟨Lc786, hQ786, l786, y786, z786⟩, st786⟩ := X470.virtualBack hx (y := (⟨"com/example/octopoll/octopoll/PageHeap", "poll", "()I"⟩ : MethodName)) (z := (⟨"com/example/octopoll/octopoll/PageHeap", "poll", "()I"⟩ : MethodName)) hown (mvT hZ (hw _ (List.mem_of_getElem? (i := 56) rfl))) (mvT hZ (hw _ (List.mem_of_getElem? (i := 57) rfl))) (notFace_of_selects (args := #[]) (mvT hZ (hw _ (List.mem_of_getElem? (i := 59) rfl)))) (mvT hZ (hw _ (List.mem_of_getElem? (i := 59) rfl))) (mvT hZ (hw _ (List.mem_of_getElem? (i := 58) rfl))) (by decide) (backOf (W := 0) (rm_pol2 l Z av0 hw [] b15 b2 ha25 pa25 k2 kh25 kp25 (FP.i2d (u0 &&& (3 : Int32))) (FP.i2d ((u0 >>> ((2 : Int32) &&& 31)) &&& (3 : Int32))) (FP.i2d ((u0 >>> ((4 : Int32) &&& 31)) &&& (3 : Int32))) z1_470 z2_470 z3_470 z4_470 z5_470 false false h470 n0 fm470_0 fm470_1 fm470_2 fm470_3 fm470_4 fm470_5 fm470_6 fm470_7 fm470_8 g17 gha25 gpa25 ne27 ne30 po25_0 ne16.symm ne26 ne29 pm470_0) hZ (hw _ (List.mem_of_getElem? (i := 60) rfl)) (hw _ (List.mem_of_getElem? (i := 3) rfl)) (by decide) (by decide)) q786a q786c (g := (mkF m 200 #[.val (.int u0), .val (.int u1), .val (.int u2), .val (.int u3), .val (.int u4), .val (.ref b2), .val (.ref b15), .val (.ref b37), .val (.int q8_55), .val (.int q9_55), .val (.int q10_55), .val (.int q11_55), .val (.int w468), .unset] [(.ref b15)])) rfl (by rw [hml]; rfl) (Steps.refl _) (argsL := []) (rest := []) (lenOf pd_5 rfl) rfl (by show 2 * 0 + _ ≤ _; exact Nat.le_of_eq rfl) (hb hby at_200) (fun _ _ => ⟨rfl, e470, (by decide : 5 + 0 ≤ _), (by decide : 16 + 0 ≤ _)⟩)
              dsimp only [Pt.U, Pt.locs, Pt.cells, Pt.slots] at X786 l786 y786 z786 st786 hQ786
              subst l786 y786 z786
              obtain ⟨z0786, z1786, z2786, z3786, z4786, z5786, hv786, N786q, K786, fo786_0, fo786_1, fo786_2, fo786_3, fo786_4, fo786_5, fo786_6, po786_0⟩ := hQ786
              have f787 := Nat.le_trans fm470_0 K786.1
              have f788 := fm470_1.keep K786
              have f789 := fm470_6.keep K786 (ninS ne16 (ninS ne26 (ninS ne29 nin0)))
              have f790 := fm470_9.keep K786 (ninS ne39.symm (ninS ne40.symm (ninS ne41.symm nin0)))
              subst hv786
              have N786 := Fr.app N470 N786q
              have pre786 : Go p.tables e below (s₁.setTop (entryFrame m #[(.int u0), (.int u1), (.int u2), (.int u3), (.int u4)] maxLocals)) T786 (mkF m 203 #[.val (.int u0), .val (.int u1), .val (.int u2), .val (.int u3), .val (.int u4), .val (.ref b2), .val (.ref b15), .val (.ref b37), .val (.int q8_55), .val (.int q9_55), .val (.int q10_55), .val (.int q11_55), .val (.int w468), .unset] [(.int (2 : Int32))]) := fun t k => pre785 t (st786.trans k)
              have pre791 : Go p.tables e below (s₁.setTop (entryFrame m #[(.int u0), (.int u1), (.int u2), (.int u3), (.int u4)] maxLocals)) T786 (mkF m 220 #[.val (.int u0), .val (.int u1), .val (.int u2), .val (.int u3), .val (.int u4), .val (.ref b2), .val (.ref b15), .val (.ref b37), .val (.int q8_55), .val (.int q9_55), .val (.int q10_55), .val (.int q11_55), .val (.int w468), .val (.int (2 : Int32))] [(.int (2 : Int32)), (.ref b37)]) := fun t k => pre786 t (by
                  refine XS.istore X786.here hx rfl (hb hby at_203) rfl (l' := #[.val (.int u0), .val (.int u1), .val (.int u2), .val (.int u3), .val (.int u4), .val (.ref b2), .val (.ref b15), .val (.ref b37), .val (.int q8_55), .val (.int q9_55), .val (.int q10_55), .val (.int q11_55), .val (.int w468), .val (.int (2 : Int32))]) rfl ?_
                  show Steps p.tables e below (T786.setTop (mkF m 205 #[.val (.int u0), .val (.int u1), .val (.int u2), .val (.int u3), .val (.int u4), .val (.ref b2), .val (.ref b15), .val (.ref b37), .val (.int q8_55), .val (.int q9_55), .val (.int q10_55), .val (.int q11_55), .val (.int w468), .val (.int (2 : Int32))] [])) _
                  refine XS.iload X786.here hx rfl (hb hby at_205) rfl ?_
                  refine XS.ifNo X786.here hx rfl (hb hby at_207) rfl ((if0 _ _).trans (flt (by decide)).1) ?_
                  refine XS.iload X786.here hx rfl (hb hby at_210) rfl ?_
                  refine XS.iconst X786.here hx rfl (hb hby at_212) ?_
                  refine XS.icmpNo X786.here hx rfl (hb hby at_213) rfl (flt (by decide)).2.2.1 ?_
                  refine XS.aload X786.here hx rfl (hb hby at_216) rfl rfl ?_
                  refine XS.iload X786.here hx rfl (hb hby at_218) rfl ?_
                  exact k)
              obtain ⟨c792, Ar792, q792, S792, M792, H792, G792⟩ := (id f790)
              have hin792 : ¬ ((2 : Int32) < 0 ∨ c792.slots.size ≤ ((2 : Int32)).toNatClampNeg) := inb_of S792 ⟨by decide, by decide⟩
              have pre792 : Go p.tables e below (s₁.setTop (entryFrame m #[(.int u0), (.int u1), (.int u2), (.int u3), (.int u4)] maxLocals)) T786 (mkF m 221 #[.val (.int u0), .val (.int u1), .val (.int u2), .val (.int u3), .val (.int u4), .val (.ref b2), .val (.ref b15), .val (.ref b37), .val (.int q8_55), .val (.int q9_55), .val (.int q10_55), .val (.int q11_55), .val (.int w468), .val (.int (2 : Int32))] [(.int (1 : Int32))]) := fun t k => pre791 t (X786.baloadBooleans hx (j := (2 : Int32)) (v := (.int (1 : Int32))) (by exact Ar792.1) (State.isArrayOf_alike hZ.alike Ar792.2.1) Ar792.2.2 hin792 (H792.at hin792 rfl) (g := (mkF m 220 #[.val (.int u0), .val (.int u1), .val (.int u2), .val (.int u3), .val (.int u4), .val (.ref b2), .val (.ref b15), .val (.ref b37), .val (.int q8_55), .val (.int q9_55), .val (.int q10_55), .val (.int q11_55), .val (.int w468), .val (.int (2 : Int32))] [(.int (2 : Int32)), (.ref b37)])) rfl rfl (hb hby at_220) _ k)
              have pre793 : Go p.tables e below (s₁.setTop (entryFrame m #[(.int u0), (.int u1), (.int u2), (.int u3), (.int u4)] maxLocals)) T786 (mkF m 231 #[.val (.int u0), .val (.int u1), .val (.int u2), .val (.int u3), .val (.int u4), .val (.ref b2), .val (.ref b15), .val (.ref b37), .val (.int q8_55), .val (.int q9_55), .val (.int q10_55), .val (.int q11_55), .val (.int w468), .val (.int (2 : Int32))] [(.int (0 : Int32)), (.int (2 : Int32)), (.ref b37)]) := fun t k => pre792 t (by
                  refine XS.ifYes X786.here hx rfl (pc0 := 221) (pc' := 226) rfl (hb hby at_221) rfl ((if0 _ _).trans (feq (by decide)).2) (by decide) (by decide) ?_
                  refine XS.aload X786.here hx rfl (hb hby at_226) rfl rfl ?_
                  refine XS.iload X786.here hx rfl (hb hby at_228) rfl ?_
                  refine XS.iconst X786.here hx rfl (hb hby at_230) ?_
                  exact k)
              obtain ⟨c794, Ar794, q794, S794, M794, H794, G794⟩ := (id f790)
              have hin794 : ¬ ((2 : Int32) < 0 ∨ c794.slots.size ≤ ((2 : Int32)).toNatClampNeg) := inb_of S794 ⟨by decide, by decide⟩
              obtain ⟨T794, h794, X794, e794, W794, st794⟩ := stZ X786 hx hZ rfl Ar794 (j := (2 : Int32)) hin794 (g := (mkF m 231 #[.val (.int u0), .val (.int u1), .val (.int u2), .val (.int u3), .val (.int u4), .val (.ref b2), .val (.ref b15), .val (.ref b37), .val (.int q8_55), .val (.int q9_55), .val (.int q10_55), .val (.int q11_55), .val (.int w468), .val (.int (2 : Int32))] [(.int (0 : Int32)), (.int (2 : Int32)), (.ref b37)])) rfl rfl (hb hby at_231)
              have fa794 : Arv Z h794 b37 k37 .boolean (3 : Int32) [(.int (0 : Int32)), (.int (0 : Int32)), (.int (0 : Int32))] (.int (0 : Int32)) := Arv.set Ar794 q794 S794 M794 H794 G794 (fits_nar_bool _) W794 2 rfl (Nat.le_of_ble_eq_true rfl)
              have N794 := Fr.snoc X794 N786 g42
              have f795 : n0 ≤ h794.size := Nat.le_trans f787 (Keep.of_wr W794).1
              have f796 : Arv Z h794 b2 k2 .double (3 : Int32) [(.double (FP.i2d (u0 &&& (3 : Int32)))), (.double (FP.i2d ((u0 >>> ((2 : Int32) &&& 31)) &&& (3 : Int32)))), (.double (FP.i2d ((u0 >>> ((4 : Int32) &&& 31)) &&& (3 : Int32))))] (.double 0) := f789.other W794 ne38
              have f797 : Exa Z h794 b15 "com/example/octopoll/octopoll/PageHeap" := fo786_0.wr W794
              have f798 : Fld Z h794 b15 "com/example/octopoll/octopoll/PageHeap" "key" "[D" (.ref b2) := fo786_1.other W794 (Or.inl ne39)
              have f799 : Fld Z h794 b15 "com/example/octopoll/octopoll/PageHeap" "heap" "[I" (.ref ha25) := fo786_2.other W794 (Or.inl ne39)
              have f800 : Fld Z h794 b15 "com/example/octopoll/octopoll/PageHeap" "position" "[I" (.ref pa25) := fo786_3.other W794 (Or.inl ne39)
              have f801 : Fld Z h794 b15 "com/example/octopoll/octopoll/PageHeap" "size" "I" (.int (0 : Int32)) := fo786_4.other W794 (Or.inl ne39)
              have f802 : Arv Z h794 ha25 kh25 .int (3 : Int32) [(.int z0786), (.int z1786), (.int z2786)] (.int (0 : Int32)) := fo786_5.other W794 ne40
              have f803 : Arv Z h794 pa25 kp25 .int (3 : Int32) [(.int z3786), (.int z4786), (.int z5786)] (.int (0 : Int32)) := fo786_6.other W794 ne41
              have pre794 : Go p.tables e below (s₁.setTop (entryFrame m #[(.int u0), (.int u1), (.int u2), (.int u3), (.int u4)] maxLocals)) T794 (mkF m 232 #[.val (.int u0), .val (.int u1), .val (.int u2), .val (.int u3), .val (.int u4), .val (.ref b2), .val (.ref b15), .val (.ref b37), .val (.int q8_55), .val (.int q9_55), .val (.int q10_55), .val (.int q11_55), .val (.int w468), .val (.int (2 : Int32))] []) := fun t k => pre793 t (st794 _ k)
              exact ⟨T794, _, h794, (.val (.int (2 : Int32))), false, false, false, z0786, z1786, z2786, z3786, z4786, z5786, X794, e794, N794, f795, f797, f798, f799, f800, f801, f796, f802, f803, fa794, po786_0, pre794⟩
          · -- bit 2 False
            have pre804 : Go p.tables e below (s₁.setTop (entryFrame m #[(.int u0), (.int u1), (.int u2), (.int u3), (.int u4)] maxLocals)) T470 (mkF m 180 #[.val (.int u0), .val (.int u1), .val (.int u2), .val (.int u3), .val (.int u4), .val (.ref b2), .val (.ref b15), .val (.ref b37), .val (.int q8_55), .val (.int q9_55), .val (.int q10_55), .val (.int q11_55), .val (.int w468), .unset] [(.int (0 : Int32)), (.ref b37)]) := fun t k => pre539 t (by
                refine XS.aload X470.here hx rfl (hb hby at_177) rfl rfl ?_
                refine XS.iconst X470.here hx rfl (hb hby at_179) ?_
                exact k)
            obtain ⟨c805, Ar805, q805, S805, M805, H805, G805⟩ := (id fm470_9)
            have hin805 : ¬ ((0 : Int32) < 0 ∨ c805.slots.size ≤ ((0 : Int32)).toNatClampNeg) := inb_of S805 ⟨by decide, by decide⟩
            have pre805 : Go p.tables e below (s₁.setTop (entryFrame m #[(.int u0), (.int u1), (.int u2), (.int u3), (.int u4)] maxLocals)) T470 (mkF m 181 #[.val (.int u0), .val (.int u1), .val (.int u2), .val (.int u3), .val (.int u4), .val (.ref b2), .val (.ref b15), .val (.ref b37), .val (.int q8_55), .val (.int q9_55), .val (.int q10_55), .val (.int q11_55), .val (.int w468), .unset] [(.int (0 : Int32))]) := fun t k => pre804 t (X470.baloadBooleans hx (j := (0 : Int32)) (v := (.int (0 : Int32))) (by rw [e470]; exact Ar805.1) (State.isArrayOf_alike hZ.alike Ar805.2.1) Ar805.2.2 hin805 (H805.at hin805 rfl) (g := (mkF m 180 #[.val (.int u0), .val (.int u1), .val (.int u2), .val (.int u3), .val (.int u4), .val (.ref b2), .val (.ref b15), .val (.ref b37), .val (.int q8_55), .val (.int q9_55), .val (.int q10_55), .val (.int q11_55), .val (.int w468), .unset] [(.int (0 : Int32)), (.ref b37)])) rfl rfl (hb hby at_180) _ k)
            have pre806 : Go p.tables e below (s₁.setTop (entryFrame m #[(.int u0), (.int u1), (.int u2), (.int u3), (.int u4)] maxLocals)) T470 (mkF m 187 #[.val (.int u0), .val (.int u1), .val (.int u2), .val (.int u3), .val (.int u4), .val (.ref b2), .val (.ref b15), .val (.ref b37), .val (.int q8_55), .val (.int q9_55), .val (.int q10_55), .val (.int q11_55), .val (.int w468), .unset] [(.int (1 : Int32)), (.ref b37)]) := fun t k => pre805 t (by
                refine XS.ifNo X470.here hx rfl (hb hby at_181) rfl ((if0 _ _).trans (teq rfl).2) ?_
                refine XS.aload X470.here hx rfl (hb hby at_184) rfl rfl ?_
                refine XS.iconst X470.here hx rfl (hb hby at_186) ?_
                exact k)
            obtain ⟨c807, Ar807, q807, S807, M807, H807, G807⟩ := (id fm470_9)
            have hin807 : ¬ ((1 : Int32) < 0 ∨ c807.slots.size ≤ ((1 : Int32)).toNatClampNeg) := inb_of S807 ⟨by decide, by decide⟩
            have pre807 : Go p.tables e below (s₁.setTop (entryFrame m #[(.int u0), (.int u1), (.int u2), (.int u3), (.int u4)] maxLocals)) T470 (mkF m 188 #[.val (.int u0), .val (.int u1), .val (.int u2), .val (.int u3), .val (.int u4), .val (.ref b2), .val (.ref b15), .val (.ref b37), .val (.int q8_55), .val (.int q9_55), .val (.int q10_55), .val (.int q11_55), .val (.int w468), .unset] [(.int (0 : Int32))]) := fun t k => pre806 t (X470.baloadBooleans hx (j := (1 : Int32)) (v := (.int (0 : Int32))) (by rw [e470]; exact Ar807.1) (State.isArrayOf_alike hZ.alike Ar807.2.1) Ar807.2.2 hin807 (H807.at hin807 rfl) (g := (mkF m 187 #[.val (.int u0), .val (.int u1), .val (.int u2), .val (.int u3), .val (.int u4), .val (.ref b2), .val (.ref b15), .val (.ref b37), .val (.int q8_55), .val (.int q9_55), .val (.int q10_55), .val (.int q11_55), .val (.int w468), .unset] [(.int (1 : Int32)), (.ref b37)])) rfl rfl (hb hby at_187) _ k)
            have pre808 : Go p.tables e below (s₁.setTop (entryFrame m #[(.int u0), (.int u1), (.int u2), (.int u3), (.int u4)] maxLocals)) T470 (mkF m 194 #[.val (.int u0), .val (.int u1), .val (.int u2), .val (.int u3), .val (.int u4), .val (.ref b2), .val (.ref b15), .val (.ref b37), .val (.int q8_55), .val (.int q9_55), .val (.int q10_55), .val (.int q11_55), .val (.int w468), .unset] [(.int (2 : Int32)), (.ref b37)]) := fun t k => pre807 t (by
                refine XS.ifNo X470.here hx rfl (hb hby at_188) rfl ((if0 _ _).trans (teq rfl).2) ?_
                refine XS.aload X470.here hx rfl (hb hby at_191) rfl rfl ?_
                refine XS.iconst X470.here hx rfl (hb hby at_193) ?_
                exact k)
            obtain ⟨c809, Ar809, q809, S809, M809, H809, G809⟩ := (id fm470_9)
            have hin809 : ¬ ((2 : Int32) < 0 ∨ c809.slots.size ≤ ((2 : Int32)).toNatClampNeg) := inb_of S809 ⟨by decide, by decide⟩
            have pre809 : Go p.tables e below (s₁.setTop (entryFrame m #[(.int u0), (.int u1), (.int u2), (.int u3), (.int u4)] maxLocals)) T470 (mkF m 195 #[.val (.int u0), .val (.int u1), .val (.int u2), .val (.int u3), .val (.int u4), .val (.ref b2), .val (.ref b15), .val (.ref b37), .val (.int q8_55), .val (.int q9_55), .val (.int q10_55), .val (.int q11_55), .val (.int w468), .unset] [(.int (0 : Int32))]) := fun t k => pre808 t (X470.baloadBooleans hx (j := (2 : Int32)) (v := (.int (0 : Int32))) (by rw [e470]; exact Ar809.1) (State.isArrayOf_alike hZ.alike Ar809.2.1) Ar809.2.2 hin809 (H809.at hin809 rfl) (g := (mkF m 194 #[.val (.int u0), .val (.int u1), .val (.int u2), .val (.int u3), .val (.int u4), .val (.ref b2), .val (.ref b15), .val (.ref b37), .val (.int q8_55), .val (.int q9_55), .val (.int q10_55), .val (.int q11_55), .val (.int w468), .unset] [(.int (2 : Int32)), (.ref b37)])) rfl rfl (hb hby at_194) _ k)
            have pre810 : Go p.tables e below (s₁.setTop (entryFrame m #[(.int u0), (.int u1), (.int u2), (.int u3), (.int u4)] maxLocals)) T470 (mkF m 232 #[.val (.int u0), .val (.int u1), .val (.int u2), .val (.int u3), .val (.int u4), .val (.ref b2), .val (.ref b15), .val (.ref b37), .val (.int q8_55), .val (.int q9_55), .val (.int q10_55), .val (.int q11_55), .val (.int w468), .unset] []) := fun t k => pre809 t (by
                refine XS.ifYes X470.here hx rfl (pc0 := 195) (pc' := 232) rfl (hb hby at_195) rfl ((if0 _ _).trans (teq rfl).1) (by decide) (by decide) ?_
                exact k)
            exact ⟨T470, _, h470, .unset, false, false, false, z0_470, z1_470, z2_470, z3_470, z4_470, z5_470, X470, e470, N470, fm470_0, fm470_1, fm470_2, fm470_3, fm470_4, fm470_5, fm470_6, fm470_7, fm470_8, fm470_9, pm470_0, pre810⟩
  have pre811 : Go p.tables e below (s₁.setTop (entryFrame m #[(.int u0), (.int u1), (.int u2), (.int u3), (.int u4)] maxLocals)) T535 (mkF m 235 #[.val (.int u0), .val (.int u1), .val (.int u2), .val (.int u3), .val (.int u4), .val (.ref b2), .val (.ref b15), .val (.ref b37), .val (.int q8_55), .val (.int q9_55), .val (.int q10_55), .val (.int q11_55), .val (.int w468), o13_535] [(.int (0 : Int32)), (.ref b15)]) := fun t k => pre535 t (by
      refine XS.aload X535.here hx rfl (hb hby at_232) rfl rfl ?_
      refine XS.iconst X535.here hx rfl (hb hby at_234) ?_
      exact k)
  obtain ⟨cq812, kq812, q812a, q812b, q812c⟩ := isOf hZ e535 fm535_1
  obtain ⟨_, _, ⟨T812, L812, k812, n812⟩, -, X812, ⟨Lc812, hQ812, l812, y812, z812⟩, st812⟩ := X535.virtualBack hx (y := (⟨"com/example/octopoll/octopoll/PageHeap", "contains", "(I)Z"⟩ : MethodName)) (z := (⟨"com/example/octopoll/octopoll/PageHeap", "contains", "(I)Z"⟩ : MethodName)) hown (mvT hZ (hw _ (List.mem_of_getElem? (i := 42) rfl))) (mvT hZ (hw _ (List.mem_of_getElem? (i := 43) rfl))) (notFace_of_selects (args := #[]) (mvT hZ (hw _ (List.mem_of_getElem? (i := 45) rfl)))) (mvT hZ (hw _ (List.mem_of_getElem? (i := 45) rfl))) (mvT hZ (hw _ (List.mem_of_getElem? (i := 44) rfl))) (by decide) (backOf (W := 0) (rm_con0 l Z av0 hw [] b15 pa25 kp25 z3_535 z4_535 z5_535 h535 n0  fm535_4 fm535_8) hZ (hw _ (List.mem_of_getElem? (i := 46) rfl)) (hw _ (List.mem_of_getElem? (i := 3) rfl)) (by decide) (by decide)) q812a q812c (g := (mkF m 235 #[.val (.int u0), .val (.int u1), .val (.int u2), .val (.int u3), .val (.int u4), .val (.ref b2), .val (.ref b15), .val (.ref b37), .val (.int q8_55), .val (.int q9_55), .val (.int q10_55), .val (.int q11_55), .val (.int w468), o13_535] [(.int (0 : Int32)), (.ref b15)])) rfl (by rw [hml]; rfl) (Steps.refl _) (argsL := [(.int (0 : Int32))]) (rest := []) (lenOf pd_6 rfl) rfl (by show 2 * 0 + _ ≤ _; exact Nat.le_of_eq rfl) (hb hby at_235) (fun _ _ => ⟨rfl, e535, (by decide : 5 + 0 ≤ _), (by decide : 16 + 0 ≤ _)⟩)
  dsimp only [Pt.U, Pt.locs, Pt.cells, Pt.slots] at X812 l812 y812 z812 st812 hQ812
  subst l812 y812 z812
  obtain ⟨hv812, N812q, e812⟩ := hQ812
  rw [show own_c z3_535 = own_bi b0_535 from own_ct0 b0_535 b1_535 b2_535 _ pm535_0] at hv812
  subst hv812
  have N812 := Fr.app N535 N812q
  have pre812 : Go p.tables e below (s₁.setTop (entryFrame m #[(.int u0), (.int u1), (.int u2), (.int u3), (.int u4)] maxLocals)) T812 (mkF m 238 #[.val (.int u0), .val (.int u1), .val (.int u2), .val (.int u3), .val (.int u4), .val (.ref b2), .val (.ref b15), .val (.ref b37), .val (.int q8_55), .val (.int q9_55), .val (.int q10_55), .val (.int q11_55), .val (.int w468), o13_535] [(.int (own_bi b0_535))]) := fun t k => pre811 t (st812.trans k)
  have pre813 : Go p.tables e below (s₁.setTop (entryFrame m #[(.int u0), (.int u1), (.int u2), (.int u3), (.int u4)] maxLocals)) T812 (mkF m 241 #[.val (.int u0), .val (.int u1), .val (.int u2), .val (.int u3), .val (.int u4), .val (.ref b2), .val (.ref b15), .val (.ref b37), .val (.int q8_55), .val (.int q9_55), .val (.int q10_55), .val (.int q11_55), .val (.int w468), o13_535] [(.int (0 : Int32)), (.ref b37), (.int (own_bi b0_535))]) := fun t k => pre812 t (by
      refine XS.aload X812.here hx rfl (hb hby at_238) rfl rfl ?_
      refine XS.iconst X812.here hx rfl (hb hby at_240) ?_
      exact k)
  obtain ⟨c814, Ar814, q814, S814, M814, H814, G814⟩ := (id fm535_9)
  have hin814 : ¬ ((0 : Int32) < 0 ∨ c814.slots.size ≤ ((0 : Int32)).toNatClampNeg) := inb_of S814 ⟨by decide, by decide⟩
  have pre814 : Go p.tables e below (s₁.setTop (entryFrame m #[(.int u0), (.int u1), (.int u2), (.int u3), (.int u4)] maxLocals)) T812 (mkF m 242 #[.val (.int u0), .val (.int u1), .val (.int u2), .val (.int u3), .val (.int u4), .val (.ref b2), .val (.ref b15), .val (.ref b37), .val (.int q8_55), .val (.int q9_55), .val (.int q10_55), .val (.int q11_55), .val (.int w468), o13_535] [(.int (own_bi b0_535)), (.int (own_bi b0_535))]) := fun t k => pre813 t (X812.baloadBooleans hx (j := (0 : Int32)) (v := (.int (own_bi b0_535))) (by rw [e812]; exact Ar814.1) (State.isArrayOf_alike hZ.alike Ar814.2.1) Ar814.2.2 hin814 (H814.at hin814 rfl) (g := (mkF m 241 #[.val (.int u0), .val (.int u1), .val (.int u2), .val (.int u3), .val (.int u4), .val (.ref b2), .val (.ref b15), .val (.ref b37), .val (.int q8_55), .val (.int q9_55), .val (.int q10_55), .val (.int q11_55), .val (.int w468), o13_535] [(.int (0 : Int32)), (.ref b37), (.int (own_bi b0_535))])) rfl rfl (hb hby at_241) _ k)
  have pre815 : Go p.tables e below (s₁.setTop (entryFrame m #[(.int u0), (.int u1), (.int u2), (.int u3), (.int u4)] maxLocals)) T812 (mkF m 248 #[.val (.int u0), .val (.int u1), .val (.int u2), .val (.int u3), .val (.int u4), .val (.ref b2), .val (.ref b15), .val (.ref b37), .val (.int q8_55), .val (.int q9_55), .val (.int q10_55), .val (.int q11_55), .val (.int w468), o13_535] [(.int (1 : Int32)), (.ref b15)]) := fun t k => pre814 t (by
      refine XS.icmpNo X812.here hx rfl (hb hby at_242) rfl (teq rfl).2 ?_
      refine XS.aload X812.here hx rfl (hb hby at_245) rfl rfl ?_
      refine XS.iconst X812.here hx rfl (hb hby at_247) ?_
      exact k)
  obtain ⟨cq816, kq816, q816a, q816b, q816c⟩ := isOf hZ e812 fm535_1
  obtain ⟨_, _, ⟨T816, L816, k816, n816⟩, -, X816, ⟨Lc816, hQ816, l816, y816, z816⟩, st816⟩ := X812.virtualBack hx (y := (⟨"com/example/octopoll/octopoll/PageHeap", "contains", "(I)Z"⟩ : MethodName)) (z := (⟨"com/example/octopoll/octopoll/PageHeap", "contains", "(I)Z"⟩ : MethodName)) hown (mvT hZ (hw _ (List.mem_of_getElem? (i := 42) rfl))) (mvT hZ (hw _ (List.mem_of_getElem? (i := 43) rfl))) (notFace_of_selects (args := #[]) (mvT hZ (hw _ (List.mem_of_getElem? (i := 45) rfl)))) (mvT hZ (hw _ (List.mem_of_getElem? (i := 45) rfl))) (mvT hZ (hw _ (List.mem_of_getElem? (i := 44) rfl))) (by decide) (backOf (W := 0) (rm_con1 l Z av0 hw [] b15 pa25 kp25 z3_535 z4_535 z5_535 h535 n0  fm535_4 fm535_8) hZ (hw _ (List.mem_of_getElem? (i := 46) rfl)) (hw _ (List.mem_of_getElem? (i := 3) rfl)) (by decide) (by decide)) q816a q816c (g := (mkF m 248 #[.val (.int u0), .val (.int u1), .val (.int u2), .val (.int u3), .val (.int u4), .val (.ref b2), .val (.ref b15), .val (.ref b37), .val (.int q8_55), .val (.int q9_55), .val (.int q10_55), .val (.int q11_55), .val (.int w468), o13_535] [(.int (1 : Int32)), (.ref b15)])) rfl (by rw [hml]; rfl) (Steps.refl _) (argsL := [(.int (1 : Int32))]) (rest := []) (lenOf pd_6 rfl) rfl (by show 2 * 0 + _ ≤ _; exact Nat.le_of_eq rfl) (hb hby at_248) (fun _ _ => ⟨rfl, e812, (by decide : 5 + 0 ≤ _), (by decide : 16 + 0 ≤ _)⟩)
  dsimp only [Pt.U, Pt.locs, Pt.cells, Pt.slots] at X816 l816 y816 z816 st816 hQ816
  subst l816 y816 z816
  obtain ⟨hv816, N816q, e816⟩ := hQ816
  rw [show own_c z4_535 = own_bi b1_535 from own_ct1 b0_535 b1_535 b2_535 _ pm535_0] at hv816
  subst hv816
  have N816 := Fr.app N812 N816q
  have pre816 : Go p.tables e below (s₁.setTop (entryFrame m #[(.int u0), (.int u1), (.int u2), (.int u3), (.int u4)] maxLocals)) T816 (mkF m 251 #[.val (.int u0), .val (.int u1), .val (.int u2), .val (.int u3), .val (.int u4), .val (.ref b2), .val (.ref b15), .val (.ref b37), .val (.int q8_55), .val (.int q9_55), .val (.int q10_55), .val (.int q11_55), .val (.int w468), o13_535] [(.int (own_bi b1_535))]) := fun t k => pre815 t (st816.trans k)
  have pre817 : Go p.tables e below (s₁.setTop (entryFrame m #[(.int u0), (.int u1), (.int u2), (.int u3), (.int u4)] maxLocals)) T816 (mkF m 254 #[.val (.int u0), .val (.int u1), .val (.int u2), .val (.int u3), .val (.int u4), .val (.ref b2), .val (.ref b15), .val (.ref b37), .val (.int q8_55), .val (.int q9_55), .val (.int q10_55), .val (.int q11_55), .val (.int w468), o13_535] [(.int (1 : Int32)), (.ref b37), (.int (own_bi b1_535))]) := fun t k => pre816 t (by
      refine XS.aload X816.here hx rfl (hb hby at_251) rfl rfl ?_
      refine XS.iconst X816.here hx rfl (hb hby at_253) ?_
      exact k)
  obtain ⟨c818, Ar818, q818, S818, M818, H818, G818⟩ := (id fm535_9)
  have hin818 : ¬ ((1 : Int32) < 0 ∨ c818.slots.size ≤ ((1 : Int32)).toNatClampNeg) := inb_of S818 ⟨by decide, by decide⟩
  have pre818 : Go p.tables e below (s₁.setTop (entryFrame m #[(.int u0), (.int u1), (.int u2), (.int u3), (.int u4)] maxLocals)) T816 (mkF m 255 #[.val (.int u0), .val (.int u1), .val (.int u2), .val (.int u3), .val (.int u4), .val (.ref b2), .val (.ref b15), .val (.ref b37), .val (.int q8_55), .val (.int q9_55), .val (.int q10_55), .val (.int q11_55), .val (.int w468), o13_535] [(.int (own_bi b1_535)), (.int (own_bi b1_535))]) := fun t k => pre817 t (X816.baloadBooleans hx (j := (1 : Int32)) (v := (.int (own_bi b1_535))) (by rw [e816]; exact Ar818.1) (State.isArrayOf_alike hZ.alike Ar818.2.1) Ar818.2.2 hin818 (H818.at hin818 rfl) (g := (mkF m 254 #[.val (.int u0), .val (.int u1), .val (.int u2), .val (.int u3), .val (.int u4), .val (.ref b2), .val (.ref b15), .val (.ref b37), .val (.int q8_55), .val (.int q9_55), .val (.int q10_55), .val (.int q11_55), .val (.int w468), o13_535] [(.int (1 : Int32)), (.ref b37), (.int (own_bi b1_535))])) rfl rfl (hb hby at_254) _ k)
  have pre819 : Go p.tables e below (s₁.setTop (entryFrame m #[(.int u0), (.int u1), (.int u2), (.int u3), (.int u4)] maxLocals)) T816 (mkF m 261 #[.val (.int u0), .val (.int u1), .val (.int u2), .val (.int u3), .val (.int u4), .val (.ref b2), .val (.ref b15), .val (.ref b37), .val (.int q8_55), .val (.int q9_55), .val (.int q10_55), .val (.int q11_55), .val (.int w468), o13_535] [(.int (2 : Int32)), (.ref b15)]) := fun t k => pre818 t (by
      refine XS.icmpNo X816.here hx rfl (hb hby at_255) rfl (teq rfl).2 ?_
      refine XS.aload X816.here hx rfl (hb hby at_258) rfl rfl ?_
      refine XS.iconst X816.here hx rfl (hb hby at_260) ?_
      exact k)
  obtain ⟨cq820, kq820, q820a, q820b, q820c⟩ := isOf hZ e816 fm535_1
  obtain ⟨_, _, ⟨T820, L820, k820, n820⟩, -, X820, ⟨Lc820, hQ820, l820, y820, z820⟩, st820⟩ := X816.virtualBack hx (y := (⟨"com/example/octopoll/octopoll/PageHeap", "contains", "(I)Z"⟩ : MethodName)) (z := (⟨"com/example/octopoll/octopoll/PageHeap", "contains", "(I)Z"⟩ : MethodName)) hown (mvT hZ (hw _ (List.mem_of_getElem? (i := 42) rfl))) (mvT hZ (hw _ (List.mem_of_getElem? (i := 43) rfl))) (notFace_of_selects (args := #[]) (mvT hZ (hw _ (List.mem_of_getElem? (i := 45) rfl)))) (mvT hZ (hw _ (List.mem_of_getElem? (i := 45) rfl))) (mvT hZ (hw _ (List.mem_of_getElem? (i := 44) rfl))) (by decide) (backOf (W := 0) (rm_con2 l Z av0 hw [] b15 pa25 kp25 z3_535 z4_535 z5_535 h535 n0  fm535_4 fm535_8) hZ (hw _ (List.mem_of_getElem? (i := 46) rfl)) (hw _ (List.mem_of_getElem? (i := 3) rfl)) (by decide) (by decide)) q820a q820c (g := (mkF m 261 #[.val (.int u0), .val (.int u1), .val (.int u2), .val (.int u3), .val (.int u4), .val (.ref b2), .val (.ref b15), .val (.ref b37), .val (.int q8_55), .val (.int q9_55), .val (.int q10_55), .val (.int q11_55), .val (.int w468), o13_535] [(.int (2 : Int32)), (.ref b15)])) rfl (by rw [hml]; rfl) (Steps.refl _) (argsL := [(.int (2 : Int32))]) (rest := []) (lenOf pd_6 rfl) rfl (by show 2 * 0 + _ ≤ _; exact Nat.le_of_eq rfl) (hb hby at_261) (fun _ _ => ⟨rfl, e816, (by decide : 5 + 0 ≤ _), (by decide : 16 + 0 ≤ _)⟩)
  dsimp only [Pt.U, Pt.locs, Pt.cells, Pt.slots] at X820 l820 y820 z820 st820 hQ820
  subst l820 y820 z820
  obtain ⟨hv820, N820q, e820⟩ := hQ820
  rw [show own_c z5_535 = own_bi b2_535 from own_ct2 b0_535 b1_535 b2_535 _ pm535_0] at hv820
  subst hv820
  have N820 := Fr.app N816 N820q
  have pre820 : Go p.tables e below (s₁.setTop (entryFrame m #[(.int u0), (.int u1), (.int u2), (.int u3), (.int u4)] maxLocals)) T820 (mkF m 264 #[.val (.int u0), .val (.int u1), .val (.int u2), .val (.int u3), .val (.int u4), .val (.ref b2), .val (.ref b15), .val (.ref b37), .val (.int q8_55), .val (.int q9_55), .val (.int q10_55), .val (.int q11_55), .val (.int w468), o13_535] [(.int (own_bi b2_535))]) := fun t k => pre819 t (st820.trans k)
  have pre821 : Go p.tables e below (s₁.setTop (entryFrame m #[(.int u0), (.int u1), (.int u2), (.int u3), (.int u4)] maxLocals)) T820 (mkF m 267 #[.val (.int u0), .val (.int u1), .val (.int u2), .val (.int u3), .val (.int u4), .val (.ref b2), .val (.ref b15), .val (.ref b37), .val (.int q8_55), .val (.int q9_55), .val (.int q10_55), .val (.int q11_55), .val (.int w468), o13_535] [(.int (2 : Int32)), (.ref b37), (.int (own_bi b2_535))]) := fun t k => pre820 t (by
      refine XS.aload X820.here hx rfl (hb hby at_264) rfl rfl ?_
      refine XS.iconst X820.here hx rfl (hb hby at_266) ?_
      exact k)
  obtain ⟨c822, Ar822, q822, S822, M822, H822, G822⟩ := (id fm535_9)
  have hin822 : ¬ ((2 : Int32) < 0 ∨ c822.slots.size ≤ ((2 : Int32)).toNatClampNeg) := inb_of S822 ⟨by decide, by decide⟩
  have pre822 : Go p.tables e below (s₁.setTop (entryFrame m #[(.int u0), (.int u1), (.int u2), (.int u3), (.int u4)] maxLocals)) T820 (mkF m 268 #[.val (.int u0), .val (.int u1), .val (.int u2), .val (.int u3), .val (.int u4), .val (.ref b2), .val (.ref b15), .val (.ref b37), .val (.int q8_55), .val (.int q9_55), .val (.int q10_55), .val (.int q11_55), .val (.int w468), o13_535] [(.int (own_bi b2_535)), (.int (own_bi b2_535))]) := fun t k => pre821 t (X820.baloadBooleans hx (j := (2 : Int32)) (v := (.int (own_bi b2_535))) (by rw [e820]; exact Ar822.1) (State.isArrayOf_alike hZ.alike Ar822.2.1) Ar822.2.2 hin822 (H822.at hin822 rfl) (g := (mkF m 267 #[.val (.int u0), .val (.int u1), .val (.int u2), .val (.int u3), .val (.int u4), .val (.ref b2), .val (.ref b15), .val (.ref b37), .val (.int q8_55), .val (.int q9_55), .val (.int q10_55), .val (.int q11_55), .val (.int w468), o13_535] [(.int (2 : Int32)), (.ref b37), (.int (own_bi b2_535))])) rfl rfl (hb hby at_267) _ k)
  have pre823 : Go p.tables e below (s₁.setTop (entryFrame m #[(.int u0), (.int u1), (.int u2), (.int u3), (.int u4)] maxLocals)) T820 (mkF m 276 #[.val (.int u0), .val (.int u1), .val (.int u2), .val (.int u3), .val (.int u4), .val (.ref b2), .val (.ref b15), .val (.ref b37), .val (.int q8_55), .val (.int q9_55), .val (.int q10_55), .val (.int q11_55), .val (.int w468), o13_535] [(.int (1 : Int32))]) := fun t k => pre822 t (by
      refine XS.icmpNo X820.here hx rfl (hb hby at_268) rfl (teq rfl).2 ?_
      refine XS.iconst X820.here hx rfl (hb hby at_271) ?_
      refine XS.goto X820.here hx rfl (pc0 := 272) (pc' := 276) rfl (hb hby at_272) (by decide) (by decide) ?_
      exact k)
  obtain ⟨fs, hr, hrun, hended, hW, hsame⟩ := X820.leave (v := some (.int (1 : Int32))) (fun h => by rw [Bd.returns] at h; cases h) (BodyLoose.notSynchronized Bd)
  refine ⟨_, _, pre823 _ ?_, hrun, hended, _, _, rfl, ?_, ⟨_, rfl⟩, hW, hsame.mono (Nat.le_of_ble_eq_true rfl) (Nat.le_of_ble_eq_true rfl)⟩
  · exact retN X820 hx (t := .boolean) Bd.returns (by simp) (hb hby at_276) hr
  · show Q_law Z u0 u1 u2 u3 u4 h0 n0 _ T820.heap _
    rw [e820]
    exact ⟨rfl, N820⟩
set_option maxRecDepth 65536 in
set_option maxHeartbeats 40000000 in
theorem comes_1 {Post : Tables → Env → Array Value → State → Outcome → State → Prop} (hpost : ∀ tb e args s v u, (limb_1_1.after args s (.returned v) u = true ∧ limb_1_2.after args s (.returned v) u = true ∧ True) → FrameEnd s (.returned v) u (Jvm.fieldLocs frame_1_writes args s ++ Jvm.arrayLocs frame_1_arrays args s ++ Jvm.staticLocs frame_1_statics s) 24 128 → Post tb e args s (.returned v) u) :
    ArmFor flags0 classFile x code maxLocals ret World_1 tables_1 room_1 Calls_1 rest_1 Pre_1 Post := by
  intro l hfl _ _ p e ha hc hk s m args below hf hA hF happ hP
  obtain ⟨hcalls, hrest, hpre⟩ := hP
  obtain ⟨-, -, -, hnamed, -, -, -, hat⟩ := (Spec.applies_iff hf).mp happ
  obtain ⟨hg, hn⟩ := and_e (Cond.before_iff.mp (show (Jvm.Cond.and given_1 narrow_1).before args s = true from hpre))
  obtain ⟨gc, gt0⟩ := and_e hg
  obtain ⟨ga0, gt1⟩ := and_e gt0
  obtain ⟨ga1, gt2⟩ := and_e gt1
  obtain ⟨ga2, gt3⟩ := and_e gt2
  obtain ⟨ga3, gt4⟩ := and_e gt3
  obtain ⟨w0, w1, w2, w3, w4, rfl⟩ : ∃ w0 w1 w2 w3 w4 : Value, args = #[w0, w1, w2, w3, w4] := by
    have hs : args.size = 5 := by simpa [Cond.value, given_1] using gc
    obtain ⟨L⟩ := args
    match L, hs with
    | [w0, w1, w2, w3, w4], _ => exact ⟨w0, w1, w2, w3, w4, rfl⟩
  have hw := fun d (hd : d ∈ tables_1) => atoms_spec (ws := Jvm.Cond.code x code maxLocals ret :: tables_1) hat d (List.mem_cons_of_mem _ hd)
  have hfit : Fit s := fun {y c} hc i hi => by
    obtain ⟨ha, rfl⟩ := Array.getElem?_eq_some_iff.mp hc
    have q := List.all_eq_true.mp ((Array.all_eq_true_iff_forall_mem.mp hF) _ (Array.getElem_mem ha)) i (List.mem_range.mpr hi)
    simpa [Array.getElem?_eq_getElem hi] using q
  obtain ⟨i0, ei0⟩ := is_v ga0
  obtain rfl : w0 = (.int i0) := Option.some.inj ei0
  obtain ⟨i1, ei1⟩ := is_v ga1
  obtain rfl : w1 = (.int i1) := Option.some.inj ei1
  obtain ⟨i2, ei2⟩ := is_v ga2
  obtain rfl : w2 = (.int i2) := Option.some.inj ei2
  obtain ⟨i3, ei3⟩ := is_v ga3
  obtain rfl : w3 = (.int i3) := Option.some.inj ei3
  obtain ⟨i4, ei4⟩ := is_v gt4
  obtain rfl : w4 = (.int i4) := Option.some.inj ei4
  obtain ⟨n, o, h1, h2, h3, _, L, rfl, ⟨rfl, N⟩, hq⟩ := rm_law l s _ hw tables_1 i0 i1 i2 i3 i4  s.heap s.heap.size (Nat.le_refl _)  p e ha hc hk s m _ below hf ((Spec.applies_iff_loose hf).mp happ).1 ⟨rfl, State.Warmed39.refl s, rfl⟩ trivial
  refine ⟨n, _, h1, h2, h3, hpost _ _ _ _ _ _ ⟨Cond.after_iff.mpr rfl, Cond.after_iff.mpr (eq_i res_at (Term.int_eval (1)) rfl), trivial⟩ ⟨hq.1, hq.2.1, (hq.2.2.sift fun y hy => Or.inr (N y hy)).mono (by decide) (by decide)⟩⟩
theorem main_1_1 : Claimed_1_1 := comes_1 fun _ _ _ _ _ _ h hF => ⟨h.1, hF⟩
theorem main_1_2 : Claimed_1_2 := comes_1 fun _ _ _ _ _ _ h hF => ⟨h.2.1, hF⟩
end Jvm.Pilot.@@N@@
namespace Jvm.Pilot.@@N@@
open Jvm Jvm.ClassFile Sem Op Lib Jvm.Free Jvm.Stand Jvm.Pilot.@@N@@.Jvm.D
/-! MADE BY PROGRAM (witnessworld.py) out of the Statement's table words and the real class files: 12 classes; the members and pool entries that the words name. The judged class is class 1, her method 1. -/
namespace start1
open Jvm.ClassFile
def u (s : String) : CpInfo := .utf8 (stringToUtf16 s)
/-- a pool by its gaps: so many unusable entries, then the entry; so many at the end -/
def gap : Nat → List CpInfo → List CpInfo
  | 0, r => r
  | n + 1, r => .unusable :: gap n r
def poolList (es : List (Nat × CpInfo)) (last : Nat) : List CpInfo := es.foldr (fun e r => gap e.1 (e.2 :: r)) (gap last [])
def pool (es : List (Nat × CpInfo)) (last : Nat) : Array CpInfo := ⟨poolList es last⟩
def fileOf (pool : Array CpInfo) (this : Nat) (attrs : Array Attribute := #[]) (ms : Array MethodInfo := #[]) (fl : Nat := 33) (sup : Nat := 0) (ifs : Array Nat := #[]) (fds : Array FieldInfo := #[]) : ClassFile where
  minorVersion := 0
  majorVersion := 65
  constantPool := pool
  accessFlags := fl
  thisClass := this
  superClass := sup
  interfaces := ifs
  fields := fds
  methods := ms
  attributes := attrs
def plain (name : String) (sup : Option ClassId) : Class where
  name := name
  kind := .ordinary
  loader := none
  accessFlags := 33
  super := sup
  interfaces := #[]
  cf := none
  fields := #[]
  methods := #[]
  instanceTypes := #[]
  staticTypes := #[]
  resolved := #[]
  callSites := []
  init := .initialized
  statics := none
  mirror := none

def pool0 : Array CpInfo := pool [(5, u "<init>"), (0, u "()V"), (1, .class_ 10), (1, u "java/lang/Object")] 113

def k0c0 : Code := { maxStack := 0, maxLocals := 1, code := object_method_1_code, exceptionTable := #[], attributes := #[] }
def k0m0 : Method := { name := "<init>", desc := "()V", sig := { parameters := [], returnType := none }, accessFlags := 1, code := some k0c0 }
/-- java/lang/Object -/
def k0 : Class := { plain "java/lang/Object" none with
  accessFlags := 33
  interfaces := #[]
  cf := some (fileOf pool0 8 #[] #[{ accessFlags := 1, nameIndex := 5, descriptorIndex := 6, attributes := #[] }] 33 0 #[] #[])
  fields := #[]
  methods := #[k0m0]
  instanceTypes := #[]
  staticTypes := #[]
  resolved := Array.replicate 124 none
  statics := none }

def pool1 : Array CpInfo := pool [(2, .class_ 4), (1, u "java/lang/Object"), (0, u "<init>"), (0, u "()V"), (0, .class_ 8), (0, u "com/example/octopoll/octopoll/PageHeap"), (0, .methodref 7 10), (0, .nameAndType 5 11), (0, u "([D)V"), (0, .integer 2147483647), (0, .methodref 7 14), (0, .nameAndType 15 16), (0, u "add"), (0, u "(I)V"), (0, .methodref 7 18), (0, .nameAndType 19 16), (0, u "remove"), (0, .methodref 7 21), (0, .nameAndType 22 23), (0, u "poll"), (0, u "()I"), (0, .methodref 7 25), (0, .nameAndType 26 27), (0, u "contains"), (0, u "(I)Z"), (0, .class_ 29), (0, u "com/example/octopoll/octopoll/PageHeapContainsPinLaw"), (2, u "law"), (0, u "(IIIII)Z")] 7

def k1m0 : Method := { name := "<init>", desc := "()V", sig := { parameters := [], returnType := none }, accessFlags := 1, code := none }
def k1c1 : Code := { maxStack := 4, maxLocals := 14, code := code, exceptionTable := #[], attributes := #[] }
def k1m1 : Method := { name := "law", desc := "(IIIII)Z", sig := { parameters := [.int, .int, .int, .int, .int], returnType := some .boolean }, accessFlags := 9, code := some k1c1 }
/-- com/example/octopoll/octopoll/PageHeapContainsPinLaw -/
def k1 : Class := { plain "com/example/octopoll/octopoll/PageHeapContainsPinLaw" (some 0) with
  accessFlags := 49
  interfaces := #[]
  cf := some (fileOf pool1 28 #[] #[{ accessFlags := 1, nameIndex := 5, descriptorIndex := 6, attributes := #[] }, { accessFlags := 9, nameIndex := 32, descriptorIndex := 33, attributes := #[] }] 49 2 #[] #[])
  fields := #[]
  methods := #[k1m0, k1m1]
  instanceTypes := #[]
  staticTypes := #[]
  resolved := Array.replicate 41 none
  statics := none }

def pool2 : Array CpInfo := pool [(1, .methodref 2 3), (0, .class_ 4), (0, .nameAndType 5 6), (0, u "java/lang/Object"), (0, u "<init>"), (0, u "()V"), (0, .fieldref 8 9), (0, .class_ 10), (0, .nameAndType 11 12), (0, u "com/example/octopoll/octopoll/PageHeap"), (0, u "key"), (0, u "[D"), (0, .fieldref 8 14), (0, .nameAndType 15 16), (0, u "heap"), (0, u "[I"), (0, .fieldref 8 18), (0, .nameAndType 19 16), (0, u "position"), (0, .methodref 21 22), (0, .class_ 23), (0, .nameAndType 24 25), (0, u "java/util/Arrays"), (0, u "fill"), (0, u "([II)V"), (0, .fieldref 8 27), (0, .nameAndType 28 29), (0, u "size"), (0, u "I"), (0, .methodref 8 31), (0, .nameAndType 32 33), (0, u "place"), (0, u "(II)V"), (0, .methodref 8 35), (0, .nameAndType 36 37), (0, u "siftUp"), (0, u "(I)V"), (0, .methodref 8 39), (0, .nameAndType 40 37), (0, u "remove"), (0, .methodref 8 42), (0, .nameAndType 43 37), (0, u "siftDown"), (0, .methodref 8 45), (0, .nameAndType 46 47), (0, u "less"), (0, u "(II)Z"), (0, u "([D)V"), (5, u "contains"), (0, u "(I)Z"), (1, u "()I"), (0, u "add"), (0, u "poll")] 2

def k2c0 : Code := { maxStack := 2, maxLocals := 2, code := prog_17_method_1_code, exceptionTable := #[], attributes := #[] }
def k2m0 : Method := { name := "<init>", desc := "([D)V", sig := { parameters := [(.array .double)], returnType := none }, accessFlags := 0, code := some k2c0 }
def k2c1 : Code := { maxStack := 2, maxLocals := 2, code := prog_17_method_3_code, exceptionTable := #[], attributes := #[] }
def k2m1 : Method := { name := "contains", desc := "(I)Z", sig := { parameters := [.int], returnType := some .boolean }, accessFlags := 0, code := some k2c1 }
def k2c2 : Code := { maxStack := 6, maxLocals := 2, code := prog_17_method_5_code, exceptionTable := #[], attributes := #[] }
def k2m2 : Method := { name := "add", desc := "(I)V", sig := { parameters := [.int], returnType := none }, accessFlags := 0, code := some k2c2 }
def k2c3 : Code := { maxStack := 2, maxLocals := 2, code := prog_17_method_6_code, exceptionTable := #[], attributes := #[] }
def k2m3 : Method := { name := "poll", desc := "()I", sig := { parameters := [], returnType := some .int }, accessFlags := 0, code := some k2c3 }
def k2c4 : Code := { maxStack := 4, maxLocals := 4, code := prog_17_method_7_code, exceptionTable := #[], attributes := #[] }
def k2m4 : Method := { name := "remove", desc := "(I)V", sig := { parameters := [.int], returnType := none }, accessFlags := 0, code := some k2c4 }
def k2c5 : Code := { maxStack := 4, maxLocals := 3, code := prog_17_method_8_code, exceptionTable := #[], attributes := #[] }
def k2m5 : Method := { name := "less", desc := "(II)Z", sig := { parameters := [.int, .int], returnType := some .boolean }, accessFlags := 2, code := some k2c5 }
def k2c6 : Code := { maxStack := 5, maxLocals := 3, code := prog_17_method_9_code, exceptionTable := #[], attributes := #[] }
def k2m6 : Method := { name := "siftUp", desc := "(I)V", sig := { parameters := [.int], returnType := none }, accessFlags := 2, code := some k2c6 }
def k2c7 : Code := { maxStack := 4, maxLocals := 4, code := prog_17_method_10_code, exceptionTable := #[], attributes := #[] }
def k2m7 : Method := { name := "siftDown", desc := "(I)V", sig := { parameters := [.int], returnType := none }, accessFlags := 2, code := some k2c7 }
def k2c8 : Code := { maxStack := 3, maxLocals := 3, code := prog_17_method_11_code, exceptionTable := #[], attributes := #[] }
def k2m8 : Method := { name := "place", desc := "(II)V", sig := { parameters := [.int, .int], returnType := none }, accessFlags := 2, code := some k2c8 }
/-- com/example/octopoll/octopoll/PageHeap -/
def k2 : Class := { plain "com/example/octopoll/octopoll/PageHeap" (some 0) with
  accessFlags := 48
  interfaces := #[]
  cf := some (fileOf pool2 8 #[] #[{ accessFlags := 0, nameIndex := 5, descriptorIndex := 48, attributes := #[] }, { accessFlags := 0, nameIndex := 54, descriptorIndex := 55, attributes := #[] }, { accessFlags := 0, nameIndex := 58, descriptorIndex := 37, attributes := #[] }, { accessFlags := 0, nameIndex := 59, descriptorIndex := 57, attributes := #[] }, { accessFlags := 0, nameIndex := 40, descriptorIndex := 37, attributes := #[] }, { accessFlags := 2, nameIndex := 46, descriptorIndex := 47, attributes := #[] }, { accessFlags := 2, nameIndex := 36, descriptorIndex := 37, attributes := #[] }, { accessFlags := 2, nameIndex := 43, descriptorIndex := 37, attributes := #[] }, { accessFlags := 2, nameIndex := 32, descriptorIndex := 33, attributes := #[] }] 48 2 #[] #[{ accessFlags := 18, nameIndex := 11, descriptorIndex := 12, attributes := #[] }, { accessFlags := 18, nameIndex := 15, descriptorIndex := 16, attributes := #[] }, { accessFlags := 18, nameIndex := 19, descriptorIndex := 16, attributes := #[] }, { accessFlags := 2, nameIndex := 28, descriptorIndex := 29, attributes := #[] }])
  fields := #[{ name := "key", type := (.array .double), accessFlags := 18, slot := 0, constantValue := 0 }, { name := "heap", type := (.array .int), accessFlags := 18, slot := 1, constantValue := 0 }, { name := "position", type := (.array .int), accessFlags := 18, slot := 2, constantValue := 0 }, { name := "size", type := .int, accessFlags := 2, slot := 3, constantValue := 0 }]
  methods := #[k2m0, k2m1, k2m2, k2m3, k2m4, k2m5, k2m6, k2m7, k2m8]
  instanceTypes := #[(.array .double), (.array .int), (.array .int), .int]
  staticTypes := #[]
  resolved := Array.replicate 62 none
  statics := none }

def pool3 : Array CpInfo := pool [(2, .class_ 4), (1, u "java/lang/Object"), (0, u "<init>"), (0, u "()V"), (7, .class_ 16), (1, u "java/util/Arrays"), (57, .class_ 76), (1, u "java/util/Arrays$NaturalOrder"), (36, .class_ 115), (1, u "java/util/Arrays$LegacyMergeSort"), (1, u "Z"), (257, .class_ 376), (0, u "java/util/Arrays$ArrayList"), (68, u "$assertionsDisabled"), (269, u "MIN_ARRAY_SORT_GRAN"), (0, u "I"), (2, u "INSERTIONSORT_THRESHOLD"), (120, u "fill"), (4, u "([II)V"), (129, .class_ 976), (0, u "java/util/Arrays$ArrayItr")] 52

def k3m0 : Method := { name := "<init>", desc := "()V", sig := { parameters := [], returnType := none }, accessFlags := 2, code := none }
def k3c1 : Code := { maxStack := 3, maxLocals := 4, code := jdk_65_method_103_code, exceptionTable := #[], attributes := #[] }
def k3m1 : Method := { name := "fill", desc := "([II)V", sig := { parameters := [(.array .int), .int], returnType := none }, accessFlags := 9, code := some k3c1 }
/-- java/util/Arrays -/
def k3 : Class := { plain "java/util/Arrays" (some 0) with
  accessFlags := 49
  interfaces := #[]
  cf := some (fileOf pool3 14 #[.nestMembers #[975, 375, 113, 74]] #[{ accessFlags := 2, nameIndex := 5, descriptorIndex := 6, attributes := #[] }, { accessFlags := 9, nameIndex := 840, descriptorIndex := 845, attributes := #[] }] 49 2 #[] #[{ accessFlags := 26, nameIndex := 715, descriptorIndex := 716, attributes := #[] }, { accessFlags := 26, nameIndex := 719, descriptorIndex := 716, attributes := #[] }, { accessFlags := 4120, nameIndex := 445, descriptorIndex := 117, attributes := #[] }])
  fields := #[{ name := "MIN_ARRAY_SORT_GRAN", type := .int, accessFlags := 26, slot := 0, constantValue := 0 }, { name := "INSERTIONSORT_THRESHOLD", type := .int, accessFlags := 26, slot := 1, constantValue := 0 }, { name := "$assertionsDisabled", type := .boolean, accessFlags := 4120, slot := 2, constantValue := 0 }]
  methods := #[k3m0, k3m1]
  instanceTypes := #[]
  staticTypes := #[.int, .int, .boolean]
  resolved := Array.replicate 1029 none
  statics := none }

def pool4 : Array CpInfo := pool [(1, u "java/lang/Cloneable"), (0, .class_ 1), (0, u "java/lang/Object"), (0, .class_ 3)] 3

/-- java/lang/Cloneable -/
def k4 : Class := { plain "java/lang/Cloneable" (some 0) with
  accessFlags := 1537
  interfaces := #[]
  cf := some (fileOf pool4 2 #[] #[] 1537 4 #[] #[])
  fields := #[]
  methods := #[]
  instanceTypes := #[]
  staticTypes := #[]
  resolved := Array.replicate 8 none
  statics := none }

def pool5 : Array CpInfo := pool [(1, u "java/io/Serializable"), (0, .class_ 1), (0, u "java/lang/Object"), (0, .class_ 3)] 3

/-- java/io/Serializable -/
def k5 : Class := { plain "java/io/Serializable" (some 0) with
  accessFlags := 1537
  interfaces := #[]
  cf := some (fileOf pool5 2 #[] #[] 1537 4 #[] #[])
  fields := #[]
  methods := #[]
  instanceTypes := #[]
  staticTypes := #[]
  resolved := Array.replicate 8 none
  statics := none }

/-- the primitive boolean -/
def k6 : Class := { plain "boolean" none with kind := .primitive 'Z', accessFlags := 0x411 }
/-- [Z -/
def k7 : Class := { plain "[Z" (some 0) with kind := .array 6 .boolean, interfaces := #[4, 5], accessFlags := 1041 }

/-- the primitive byte -/
def k8 : Class := { plain "byte" none with kind := .primitive 'B', accessFlags := 0x411 }
/-- [B -/
def k9 : Class := { plain "[B" (some 0) with kind := .array 8 .byte, interfaces := #[4, 5], accessFlags := 1041 }

/-- the primitive int -/
def k10 : Class := { plain "int" none with kind := .primitive 'I', accessFlags := 0x411 }
/-- [I -/
def k11 : Class := { plain "[I" (some 0) with kind := .array 10 .int, interfaces := #[4, 5], accessFlags := 1041 }

/-- the primitive double -/
def k12 : Class := { plain "double" none with kind := .primitive 'D', accessFlags := 0x411 }
/-- [D -/
def k13 : Class := { plain "[D" (some 0) with kind := .array 12 .double, interfaces := #[4, 5], accessFlags := 1041 }
def heap : Heap := #[]
def classes : Array Class := #[k0, k1, k2, k3, k4, k5, k6, k7, k8, k9, k10, k11, k12, k13]
def interned : List (Array UInt16 × Addr) := []
def slotsUsed : Nat := 0
def theMethod : MethodId := ⟨1, 1⟩
def args0 : Array Value := #[.int 1, .int 2, .int 3, .int 4, .int 5]
def aboutOver (below : List Frame) : State where
  vm := { classes := classes, interned := interned.toArray }
  heap := heap
  slotsUsed := slotsUsed
  threads := #[{ frames := .invoking theMethod args0 :: below }]
def below0 : List Frame := [.native { method := ⟨0, 0⟩, args := #[] }]
def about1 : State := aboutOver below0
def p0 : Program := .bare "" "" ""
def e0 : Env := launch0.env 0 0 0
theorem w_frames : about1.frames = Frame.invoking theMethod args0 :: below0 := rfl
set_option maxRecDepth 65536 in
theorem w_args : argsFit about1.vm theMethod args0 = true := by decide +kernel
set_option maxRecDepth 65536 in
theorem w_heap : heapFits about1 = true := by decide +kernel
set_option maxRecDepth 65536 in
theorem w_runnable : about1.curStatus? = some .runnable := by decide +kernel
set_option maxRecDepth 65536 in
theorem w_alone : about1.alone = true := by decide +kernel
set_option maxRecDepth 65536 in
theorem w_named : about1.methodNamed? x = some theMethod := by decide +kernel
set_option maxRecDepth 65536 in
theorem w_hears : about1.hears theMethod below0 = true := by decide +kernel
set_option maxRecDepth 65536 in
theorem w_ripe : about1.ripe theMethod args0 below0 = true := by decide +kernel
theorem w_running : about1.status = .running := rfl
set_option maxRecDepth 65536 in
theorem w_room : about1.hasRoom e0.platform room_1 = true :=
  launch0.hasRoom_least _ room_1 (by decide +kernel) (by decide +kernel) (by decide +kernel) (by decide +kernel) (by decide +kernel) (by decide +kernel)
theorem allAtoms_all (ts : List Jvm.Cond) (a : Array Jvm.Value) (st : Jvm.State) : (allAtoms ts).before a st = ts.all (fun c => c.before a st) := by
  induction ts with
  | nil => rfl
  | cons c t ih =>
    show (Jvm.Cond.and c (allAtoms t)).before a st = _
    rw [Jvm.Cond.before_and, ih, List.all_cons]
def words1 : List Jvm.Cond := Jvm.Cond.code x code maxLocals ret :: tables_1
/-- a 'code' word, met by the world's own term for the bytes: nothing is compared byte by byte -/
theorem code_word {y : MethodName} {bytes : ByteArray} {mx : Nat} {rt : Option FieldType} {a : Array Value} {s : State} {m : MethodId} {meth : Method} {c : Code} (h1 : s.methodNamed? y = some m) (h2 : s.vm.method? m = some meth) (h3 : meth.code = some c) (h4 : c.code = bytes)
    (h5 : (c.maxLocals == mx && c.exceptionTable.isEmpty && decide (c.maxStack ≤ mostOperands) && decide (meth.sig.returnType = rt) && !meth.locks && decide (parseMethodDescriptor y.desc = some meth.sig)) = true) : (Jvm.Cond.code y bytes mx rt).before a s = true := by
  simp only [Bool.and_eq_true, beq_iff_eq, Bool.not_eq_true', decide_eq_true_eq] at h5
  obtain ⟨⟨⟨⟨⟨g1, g2⟩, g3⟩, g4⟩, g5⟩, g6⟩ := h5
  simp [Cond.before, Cond.holds, Cond.value, h1, h2, h3, h4, g1, g2, g3, g4, g5, g6]
def isCode : Jvm.Cond → Bool
  | .code _ _ _ _ => true
  | _ => false
theorem all_split {L : List Jvm.Cond} {P : Jvm.Cond → Bool} (h1 : L.all (fun c => isCode c || P c) = true) (h2 : ∀ c ∈ L.filter isCode, P c = true) : L.all P = true := by
  refine List.all_eq_true.mpr fun c hc => ?_
  have h := List.all_eq_true.mp h1 c hc
  rcases Bool.eq_false_or_eq_true (isCode c) with hi | hi
  · exact h2 c (List.mem_filter.mpr ⟨hc, hi⟩)
  · simpa [hi] using h
set_option maxRecDepth 65536 in
theorem w_c0 : (Jvm.Cond.code x code maxLocals ret).before args0 about1 = true := code_word (m := ⟨1, 1⟩) (meth := k1m1) (c := k1c1) (by decide +kernel) rfl rfl rfl (by decide +kernel)
set_option maxRecDepth 65536 in
theorem w_c1 : (Jvm.Cond.code ({ cls := "com/example/octopoll/octopoll/PageHeap", name := "<init>", desc := "([D)V" } : Jvm.MethodName) prog_17_method_1_code (2 : Nat) (Option.none : Option Jvm.ClassFile.FieldType)).before args0 about1 = true := code_word (m := ⟨2, 0⟩) (meth := k2m0) (c := k2c0) (by decide +kernel) rfl rfl rfl (by decide +kernel)
set_option maxRecDepth 65536 in
theorem w_c2 : (Jvm.Cond.code ({ cls := "java/lang/Object", name := "<init>", desc := "()V" } : Jvm.MethodName) object_method_1_code (1 : Nat) (Option.none : Option Jvm.ClassFile.FieldType)).before args0 about1 = true := code_word (m := ⟨0, 0⟩) (meth := k0m0) (c := k0c0) (by decide +kernel) rfl rfl rfl (by decide +kernel)
set_option maxRecDepth 65536 in
theorem w_c3 : (Jvm.Cond.code ({ cls := "java/util/Arrays", name := "fill", desc := "([II)V" } : Jvm.MethodName) jdk_65_method_103_code (4 : Nat) (Option.none : Option Jvm.ClassFile.FieldType)).before args0 about1 = true := code_word (m := ⟨3, 1⟩) (meth := k3m1) (c := k3c1) (by decide +kernel) rfl rfl rfl (by decide +kernel)
set_option maxRecDepth 65536 in
theorem w_c4 : (Jvm.Cond.code ({ cls := "com/example/octopoll/octopoll/PageHeap", name := "add", desc := "(I)V" } : Jvm.MethodName) prog_17_method_5_code (2 : Nat) (Option.none : Option Jvm.ClassFile.FieldType)).before args0 about1 = true := code_word (m := ⟨2, 2⟩) (meth := k2m2) (c := k2c2) (by decide +kernel) rfl rfl rfl (by decide +kernel)
set_option maxRecDepth 65536 in
theorem w_c5 : (Jvm.Cond.code ({ cls := "com/example/octopoll/octopoll/PageHeap", name := "place", desc := "(II)V" } : Jvm.MethodName) prog_17_method_11_code (3 : Nat) (Option.none : Option Jvm.ClassFile.FieldType)).before args0 about1 = true := code_word (m := ⟨2, 8⟩) (meth := k2m8) (c := k2c8) (by decide +kernel) rfl rfl rfl (by decide +kernel)
set_option maxRecDepth 65536 in
theorem w_c6 : (Jvm.Cond.code ({ cls := "com/example/octopoll/octopoll/PageHeap", name := "siftUp", desc := "(I)V" } : Jvm.MethodName) prog_17_method_9_code (3 : Nat) (Option.none : Option Jvm.ClassFile.FieldType)).before args0 about1 = true := code_word (m := ⟨2, 6⟩) (meth := k2m6) (c := k2c6) (by decide +kernel) rfl rfl rfl (by decide +kernel)
set_option maxRecDepth 65536 in
theorem w_c7 : (Jvm.Cond.code ({ cls := "com/example/octopoll/octopoll/PageHeap", name := "less", desc := "(II)Z" } : Jvm.MethodName) prog_17_method_8_code (3 : Nat) (Option.some Jvm.ClassFile.FieldType.boolean)).before args0 about1 = true := code_word (m := ⟨2, 5⟩) (meth := k2m5) (c := k2c5) (by decide +kernel) rfl rfl rfl (by decide +kernel)
set_option maxRecDepth 65536 in
theorem w_c8 : (Jvm.Cond.code ({ cls := "com/example/octopoll/octopoll/PageHeap", name := "contains", desc := "(I)Z" } : Jvm.MethodName) prog_17_method_3_code (2 : Nat) (Option.some Jvm.ClassFile.FieldType.boolean)).before args0 about1 = true := code_word (m := ⟨2, 1⟩) (meth := k2m1) (c := k2c1) (by decide +kernel) rfl rfl rfl (by decide +kernel)
set_option maxRecDepth 65536 in
theorem w_c9 : (Jvm.Cond.code ({ cls := "com/example/octopoll/octopoll/PageHeap", name := "remove", desc := "(I)V" } : Jvm.MethodName) prog_17_method_7_code (4 : Nat) (Option.none : Option Jvm.ClassFile.FieldType)).before args0 about1 = true := code_word (m := ⟨2, 4⟩) (meth := k2m4) (c := k2c4) (by decide +kernel) rfl rfl rfl (by decide +kernel)
set_option maxRecDepth 65536 in
theorem w_c10 : (Jvm.Cond.code ({ cls := "com/example/octopoll/octopoll/PageHeap", name := "siftDown", desc := "(I)V" } : Jvm.MethodName) prog_17_method_10_code (4 : Nat) (Option.none : Option Jvm.ClassFile.FieldType)).before args0 about1 = true := code_word (m := ⟨2, 7⟩) (meth := k2m7) (c := k2c7) (by decide +kernel) rfl rfl rfl (by decide +kernel)
set_option maxRecDepth 65536 in
theorem w_c11 : (Jvm.Cond.code ({ cls := "com/example/octopoll/octopoll/PageHeap", name := "poll", desc := "()I" } : Jvm.MethodName) prog_17_method_6_code (2 : Nat) (Option.some Jvm.ClassFile.FieldType.int)).before args0 about1 = true := code_word (m := ⟨2, 3⟩) (meth := k2m3) (c := k2c3) (by decide +kernel) rfl rfl rfl (by decide +kernel)
def codes1 : List Jvm.Cond := [Jvm.Cond.code x code maxLocals ret, Jvm.Cond.code ({ cls := "com/example/octopoll/octopoll/PageHeap", name := "<init>", desc := "([D)V" } : Jvm.MethodName) prog_17_method_1_code (2 : Nat) (Option.none : Option Jvm.ClassFile.FieldType), Jvm.Cond.code ({ cls := "java/lang/Object", name := "<init>", desc := "()V" } : Jvm.MethodName) object_method_1_code (1 : Nat) (Option.none : Option Jvm.ClassFile.FieldType), Jvm.Cond.code ({ cls := "java/util/Arrays", name := "fill", desc := "([II)V" } : Jvm.MethodName) jdk_65_method_103_code (4 : Nat) (Option.none : Option Jvm.ClassFile.FieldType), Jvm.Cond.code ({ cls := "com/example/octopoll/octopoll/PageHeap", name := "add", desc := "(I)V" } : Jvm.MethodName) prog_17_method_5_code (2 : Nat) (Option.none : Option Jvm.ClassFile.FieldType), Jvm.Cond.code ({ cls := "com/example/octopoll/octopoll/PageHeap", name := "place", desc := "(II)V" } : Jvm.MethodName) prog_17_method_11_code (3 : Nat) (Option.none : Option Jvm.ClassFile.FieldType), Jvm.Cond.code ({ cls := "com/example/octopoll/octopoll/PageHeap", name := "siftUp", desc := "(I)V" } : Jvm.MethodName) prog_17_method_9_code (3 : Nat) (Option.none : Option Jvm.ClassFile.FieldType), Jvm.Cond.code ({ cls := "com/example/octopoll/octopoll/PageHeap", name := "less", desc := "(II)Z" } : Jvm.MethodName) prog_17_method_8_code (3 : Nat) (Option.some Jvm.ClassFile.FieldType.boolean), Jvm.Cond.code ({ cls := "com/example/octopoll/octopoll/PageHeap", name := "contains", desc := "(I)Z" } : Jvm.MethodName) prog_17_method_3_code (2 : Nat) (Option.some Jvm.ClassFile.FieldType.boolean), Jvm.Cond.code ({ cls := "com/example/octopoll/octopoll/PageHeap", name := "remove", desc := "(I)V" } : Jvm.MethodName) prog_17_method_7_code (4 : Nat) (Option.none : Option Jvm.ClassFile.FieldType), Jvm.Cond.code ({ cls := "com/example/octopoll/octopoll/PageHeap", name := "siftDown", desc := "(I)V" } : Jvm.MethodName) prog_17_method_10_code (4 : Nat) (Option.none : Option Jvm.ClassFile.FieldType), Jvm.Cond.code ({ cls := "com/example/octopoll/octopoll/PageHeap", name := "poll", desc := "()I" } : Jvm.MethodName) prog_17_method_6_code (2 : Nat) (Option.some Jvm.ClassFile.FieldType.int)]
set_option maxRecDepth 65536 in
theorem codes_eq : words1.filter isCode = codes1 := rfl
theorem w_codes : ∀ c ∈ words1.filter isCode, c.before args0 about1 = true := by
  rw [codes_eq]
  intro c hc
  simp only [codes1, List.mem_cons, List.not_mem_nil, or_false] at hc
  rcases hc with rfl | rfl | rfl | rfl | rfl | rfl | rfl | rfl | rfl | rfl | rfl | rfl
  · exact w_c0
  · exact w_c1
  · exact w_c2
  · exact w_c3
  · exact w_c4
  · exact w_c5
  · exact w_c6
  · exact w_c7
  · exact w_c8
  · exact w_c9
  · exact w_c10
  · exact w_c11
set_option maxRecDepth 65536 in
theorem w_t1 : (words1.take 24).all (fun c => isCode c || c.before args0 about1) = true := by decide +kernel
set_option maxRecDepth 65536 in
theorem w_t2 : ((words1.drop 24).take 24).all (fun c => isCode c || c.before args0 about1) = true := by decide +kernel
set_option maxRecDepth 65536 in
theorem w_t3 : ((words1.drop 24).drop 24).all (fun c => isCode c || c.before args0 about1) = true := by decide +kernel
theorem w_tables : (allAtoms (Jvm.Cond.code x code maxLocals ret :: tables_1)).before args0 about1 = true := by
  rw [allAtoms_all]
  show words1.all (fun c => c.before args0 about1) = true
  refine all_split ?_ w_codes
  rw [← List.take_append_drop 24 words1, List.all_append, w_t1, ← List.take_append_drop 24 (words1.drop 24), List.all_append, w_t2, w_t3]
  rfl
set_option maxRecDepth 65536 in
theorem w_case : (Jvm.Cond.and given_1 narrow_1).before args0 about1 = true := by decide +kernel
theorem w_applies : (headSpec (Jvm.Cond.code x code maxLocals ret :: tables_1) room_1).applies x e0.platform about1 = true :=
  (Spec.applies_iff w_frames).mpr ⟨w_running, w_runnable, w_alone, w_named, w_hears, w_ripe, w_room, w_tables⟩
theorem atStart : AtStart classFile x code maxLocals ret World_1 tables_1 room_1 Calls_1 rest_1 Pre_1 launch0 p0 e0 about1 theMethod args0 below0 :=
  ⟨lists_1, trivial, launch0.admits_env _ _ _, launch0.least_env, fairChoices_fair.cas, fairChoices_fair.clock, w_frames, w_args, w_heap, w_applies, trivial, trivial, w_case⟩
end start1
theorem witness_1 : WitnessClaimed_1 := ⟨start1.p0, start1.e0, start1.about1, start1.theMethod, start1.args0, start1.below0, start1.atStart⟩
end Jvm.Pilot.@@N@@
