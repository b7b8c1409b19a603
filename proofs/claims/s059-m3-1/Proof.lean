import JvmDerived
import JvmDerived.Pilot.@@N@@Statement
import JvmDerived.Pilot.@@N@@Code
set_option linter.unusedVariables false
set_option linter.unusedSimpArgs false
namespace Jvm.RoadKit
open Sem ClassFile Op Lib Jvm.Stand Jvm.Free Jvm.LawKit
section New
variable {p : Program} {l : Launch} {e : Env} {R : Room} {s : State} {m : MethodId} {args : Array Value} {below : List Frame} {meth : Method} {c : Code} {T : State} {locs : List Loc} {cells slots : Nat}
theorem retI (X : Stand p l e R s m args below meth c T locs cells slots) (hx : p.tables.exec = Jvm.exec) {pc : Nat} {Ls : Array Slot} {z : Int32} {rest : List Value} (hret : meth.sig.returnType = some .int) (hd : decode c.code pc = .ok (.ireturn, 1)) {fs : List Frame}
    (hl : ∀ (f : JFrame) (acts : List Action), f.method = m → f.locked = none → f.entered = [] → (doReturn e (T.setTop f) acts (some (.int z))).1 = T.setFrames fs) : Steps p.tables e below (T.setTop (mkF m pc Ls (.int z :: rest))) (T.setFrames fs) := by
  have hm' : T.vm.method? m = some meth := X.method'
  have hn : narrow .int (.int z) = .int z := rfl
  show Steps p.tables e below (T.setTop { method := m, pc := pc, locals := Ls, stack := _ :: rest, locked := none }) _
  jvm_step X.here [X.here.top, hx, hd, hm', hret, hn]
  first | (intro acts; rw [hl _ acts rfl rfl rfl]) | rw [hl _ _ rfl rfl rfl]
  exact Steps.refl _
end New
end Jvm.RoadKit
namespace Jvm.Pilot.@@N@@
open Jvm Jvm.ClassFile Sem Op Lib Jvm.Free Jvm.Stand Jvm.LawKit Jvm.RoadKit Bundle Jvm.Pilot.@@N@@.Jvm.D
/-- from the state A the run comes to the frame f over T -/
abbrev Go (tb : Tables) (e : Env) (below : List Frame) (A T : State) (f : JFrame) : Prop := ∀ t, Steps tb e below (T.setTop f) t → Steps tb e below A t

section OwnPriv
variable {p : Program} {l : Launch} {e : Env} {R : Room} {s : State} {m : MethodId} {args : Array Value} {below : List Frame} {meth : Method} {c : Code} {T : State} {locs : List Loc} {cells slots : Nat}
/-- a private method called by invokevirtual, where the sheet's 'selects' speaks of another method of its class -/
theorem own_private (X : Stand p l e R s m args below meth c T locs cells slots) (hexec : p.tables.exec = Jvm.exec) {own C : String} {index : Nat} {y y' z' : MethodName} {bytes : ByteArray} {maxL : Nat} {ret : Option FieldType}
    (hown : s.vm.findClass own = some m.cls) (hlink : (Jvm.Cond.methodLink own index y).before args s = true) (hinst : (Jvm.Cond.instanceMethod y).before args s = true) (hsel : (Jvm.Cond.selects C y' z').before args s = true) (hzc : z'.cls = y.cls)
    (hpriv : s.PrivateAt y) (hcode : (Jvm.Cond.code y bytes maxL ret).before args s = true) (hy : y.cls ≠ "java/lang/invoke/MethodHandle" ∧ y.cls ≠ "java/lang/invoke/VarHandle")
    {W : Nat} {Pre : Pt → Array Value → Prop} {Post : Pt → Array Value → Option Value → Pt → Prop} (hK : Back l R p e below s args y 3 W Pre Post)
    {a : Addr} {cell : Cell} (hcell : T.heap[a]? = some cell) (hobj : ∀ q, cell.vm ≠ .statics q) {g : JFrame} (hg : g.method = m) (hsize : g.locals.size = c.maxLocals)
    {argsL rest : List Value} (hlen : ∀ sig, parseMethodDescriptor y.desc = some sig → argsL.length = sig.parameters.length)
    (hstack : g.stack = argsL.reverse ++ .ref a :: rest) (hW : 2 * g.monitorRoom + (rest.map fun v => v.category).sum ≤ W) (hdg : decode c.code g.pc = .ok (.invokevirtual index, 3))
    (hpre : ∀ vm₁, s.WarmedH vm₁ → Pre ⟨T.setVm vm₁, locs, cells, slots⟩ (.ref a :: argsL).toArray) :
    ∃ (v : Option Value) (vm₁ : Vm) (B : Pt), s.WarmedH vm₁ ∧ Stand p l e R s m args below meth c B.U B.locs B.cells B.slots ∧ Post ⟨T.setVm vm₁, locs, cells, slots⟩ (.ref a :: argsL).toArray v B ∧
      ∀ target, Steps p.tables e below (B.U.setTop { g with pc := g.pc + 3, stack := v.toList ++ rest }) target → Steps p.tables e below (T.setTop g) target := by
  obtain ⟨mk, methM, hnamed, hmethM, hstM, habM⟩ := Cond.instanceMethod_spec hinst
  obtain ⟨methC, cM, hmethC, -, -, -, -, -, -, hsigM⟩ := Cond.code_spec hnamed hcode
  cases hmethM.symm.trans hmethC
  obtain ⟨-, -, m2, -, -, hnz, -, kP, hkz, hki⟩ := Cond.selects_spec hsel
  have i1 := findClass_of_methodNamed hnamed
  have i2 := findClass_of_methodNamed hnz
  rw [hzc] at i2
  have i3 : mk.cls = m2.cls := Option.some.inj (i1.symm.trans i2)
  have hkP : s.vm.classes[mk.cls]? = some kP := by rw [i3]; exact hkz
  have hs1 : selectMethod e.platform s.vm cell.cls mk = .method mk := selectMethod_private hmethM (hpriv mk methM hnamed hmethM)
  obtain ⟨vm₁, X₁, go₁⟩ := X.invokevirtual hexec hown hlink hnamed hmethM hstM hkP hki hy (a := a) (cell := cell) hcell hobj hs1 hmethM habM hkP hki (g := g) hg (argsL := argsL) (rest := rest) (hlen _ hsigM) hstack hdg
  obtain ⟨v, B, X', hpost, hsteps⟩ := hK m meth c ⟨T.setVm vm₁, locs, cells, slots⟩ { g with stack := rest } (.invokevirtual index) mk (Value.ref a :: argsL).toArray X₁ hg hsize hdg hW (X₁.named hnamed) (hpre vm₁ X₁.warmed)
  exact ⟨v, vm₁, B, X₁.warmed, X', hpost, fun target h => go₁ _ fun acts => by rw [doInvoke_state]; exact hsteps.trans h⟩
end OwnPriv

abbrev own_T := Int32 × Int32 × Int32 × Int32 × Int32 × Int32
def own_u (i j v x : Int32) : Int32 := if j = i then v else x
def own_g (j a b c : Int32) : Int32 := if j = 0 then a else if j = 1 then b else c
def own_pl (page q : Int32) (t : own_T) : own_T := (own_u 0 q page t.1, own_u 1 q page t.2.1, own_u 2 q page t.2.2.1, own_u 0 page q t.2.2.2.1, own_u 1 page q t.2.2.2.2.1, own_u 2 page q t.2.2.2.2.2)
def own_gx (q : Int32) (t : own_T) : Int32 := own_g q t.1 t.2.1 t.2.2.1
def own_gy (q : Int32) (t : own_T) : Int32 := own_g q t.2.2.2.1 t.2.2.2.2.1 t.2.2.2.2.2
def own_s0 (q : Int32) (t : own_T) : own_T := own_pl (own_gx q t) q t
def own_s1 (q : Int32) (t : own_T) : own_T := own_pl (own_gx q t) 0 (own_pl t.1 q t)
def own_d1 (t : own_T) : own_T := own_pl t.1 1 (own_pl t.2.1 0 t)
def own_m (k : Int32) (t : own_T) : own_T := (t.1, t.2.1, t.2.2.1, own_u 0 k (-1) t.2.2.2.1, own_u 1 k (-1) t.2.2.2.2.1, own_u 2 k (-1) t.2.2.2.2.2)
def own_cnt (a b c : Bool) : Int32 := (if a then 1 else 0) + (if b then 1 else 0) + (if c then 1 else 0)
def own_S : Bool → Bool → Bool → List own_T
  | false, false, false => [(0, 0, 0, -1, -1, -1), (0, 0, 1, -1, -1, -1), (0, 0, 2, -1, -1, -1), (0, 1, 0, -1, -1, -1), (0, 1, 1, -1, -1, -1), (0, 1, 2, -1, -1, -1), (0, 2, 0, -1, -1, -1), (0, 2, 1, -1, -1, -1), (0, 2, 2, -1, -1, -1), (1, 0, 0, -1, -1, -1), (1, 0, 1, -1, -1, -1), (1, 0, 2, -1, -1, -1), (1, 1, 0, -1, -1, -1), (1, 1, 1, -1, -1, -1), (1, 1, 2, -1, -1, -1), (1, 2, 0, -1, -1, -1), (1, 2, 1, -1, -1, -1), (1, 2, 2, -1, -1, -1), (2, 0, 0, -1, -1, -1), (2, 0, 1, -1, -1, -1), (2, 0, 2, -1, -1, -1), (2, 1, 0, -1, -1, -1), (2, 1, 1, -1, -1, -1), (2, 1, 2, -1, -1, -1), (2, 2, 0, -1, -1, -1), (2, 2, 1, -1, -1, -1), (2, 2, 2, -1, -1, -1)]
  | true, false, false => [(0, 0, 0, 0, -1, -1), (0, 0, 1, 0, -1, -1), (0, 0, 2, 0, -1, -1), (0, 1, 0, 0, -1, -1), (0, 1, 1, 0, -1, -1), (0, 1, 2, 0, -1, -1), (0, 2, 0, 0, -1, -1), (0, 2, 1, 0, -1, -1), (0, 2, 2, 0, -1, -1)]
  | false, true, false => [(1, 0, 0, -1, 0, -1), (1, 0, 1, -1, 0, -1), (1, 0, 2, -1, 0, -1), (1, 1, 0, -1, 0, -1), (1, 1, 1, -1, 0, -1), (1, 1, 2, -1, 0, -1), (1, 2, 0, -1, 0, -1), (1, 2, 1, -1, 0, -1), (1, 2, 2, -1, 0, -1)]
  | false, false, true => [(2, 0, 0, -1, -1, 0), (2, 0, 1, -1, -1, 0), (2, 0, 2, -1, -1, 0), (2, 1, 0, -1, -1, 0), (2, 1, 1, -1, -1, 0), (2, 1, 2, -1, -1, 0), (2, 2, 0, -1, -1, 0), (2, 2, 1, -1, -1, 0), (2, 2, 2, -1, -1, 0)]
  | true, true, false => [(0, 1, 0, 0, 1, -1), (0, 1, 1, 0, 1, -1), (0, 1, 2, 0, 1, -1), (1, 0, 0, 1, 0, -1), (1, 0, 1, 1, 0, -1), (1, 0, 2, 1, 0, -1)]
  | true, false, true => [(0, 2, 0, 0, -1, 1), (0, 2, 1, 0, -1, 1), (0, 2, 2, 0, -1, 1), (2, 0, 0, 1, -1, 0), (2, 0, 1, 1, -1, 0), (2, 0, 2, 1, -1, 0)]
  | false, true, true => [(1, 2, 0, -1, 0, 1), (1, 2, 1, -1, 0, 1), (1, 2, 2, -1, 0, 1), (2, 1, 0, -1, 1, 0), (2, 1, 1, -1, 1, 0), (2, 1, 2, -1, 1, 0)]
  | true, true, true => [(0, 1, 2, 0, 1, 2), (0, 2, 1, 0, 2, 1), (1, 0, 2, 1, 0, 2), (1, 2, 0, 2, 0, 1), (2, 0, 1, 1, 2, 0), (2, 1, 0, 2, 1, 0)]
def own_bd (x : Int32) : Prop := ¬ x < 0 ∧ x < 3
instance (x : Int32) : Decidable (own_bd x) := inferInstanceAs (Decidable (¬ x < 0 ∧ x < 3))
theorem own_ur {i j v x : Int32} (hv : own_bd v) (hx : own_bd x) : own_bd (own_u i j v x) := by unfold own_u; split <;> assumption
theorem own_gr {j a b c : Int32} (ha : own_bd a) (hb : own_bd b) (hc : own_bd c) : own_bd (own_g j a b c) := by unfold own_g; split <;> (try split) <;> assumption
theorem own_012 {x : Int32} (h : own_bd x) : x = 0 ∨ x = 1 ∨ x = 2 := by
  obtain ⟨h1, h2⟩ := h
  rw [Int32.lt_iff_toInt_lt, show (0 : Int32).toInt = 0 from rfl] at h1
  rw [Int32.lt_iff_toInt_lt, show (3 : Int32).toInt = 3 from rfl] at h2
  simp only [← Int32.toInt_inj, show (0 : Int32).toInt = 0 from rfl, show (1 : Int32).toInt = 1 from rfl, show (2 : Int32).toInt = 2 from rfl]
  omega
theorem own_get {j a b c : Int32} {dv : Value} (h : own_bd j) : ([.int a, .int b, .int c] : List Value).getD j.toNatClampNeg dv = .int (own_g j a b c) := by rcases own_012 h with rfl | rfl | rfl <;> rfl
def own_gd (j : Int32) (a b c : UInt64) : UInt64 := if j = 0 then a else if j = 1 then b else c
theorem own_getd {j : Int32} {a b c : UInt64} {dv : Value} (h : own_bd j) : ([.double a, .double b, .double c] : List Value).getD j.toNatClampNeg dv = .double (own_gd j a b c) := by rcases own_012 h with rfl | rfl | rfl <;> rfl
theorem own_setA {Z : State} {h h' : Heap} {a : Addr} {k : ClassId} {z : Int32} {x0 x1 x2 v j : Int32} {dv : Value} {c : Cell} (A : Arr Z h a c .int) (q1 : c.cls = k) (S : c.slots.size = z.toNatClampNeg) (q3 : ¬ z < 0) (H : Has c [.int x0, .int x1, .int x2] dv) (G : ∀ i, i < c.slots.size → fits .int (([.int x0, .int x1, .int x2] : List Value).getD i dv) = true) (W : Wr h h' a j.toNatClampNeg (.int v)) (hj : own_bd j) : Arv Z h' a k .int z [.int (own_u 0 j v x0), .int (own_u 1 j v x1), .int (own_u 2 j v x2)] dv := by
  rcases own_012 hj with rfl | rfl | rfl
  · exact Arv.set A q1 S q3 H G rfl W 0 rfl (Nat.le_of_ble_eq_true rfl)
  · exact Arv.set A q1 S q3 H G rfl W 1 rfl (Nat.le_of_ble_eq_true rfl)
  · exact Arv.set A q1 S q3 H G rfl W 2 rfl (Nat.le_of_ble_eq_true rfl)
theorem own_rng : ∀ a b c : Bool, ∀ t ∈ own_S a b c, own_bd t.1 ∧ own_bd t.2.1 ∧ own_bd t.2.2.1 := by decide +kernel
theorem own_cbd : ∀ a b c : Bool, own_cnt a b c = 0 ∨ own_cnt a b c = 1 ∨ own_cnt a b c = 2 ∨ own_cnt a b c = 3 := by decide +kernel
theorem own_ac0 : ∀ b1 b2 : Bool, own_bd (own_cnt false b1 b2) ∧ own_cnt false b1 b2 + 1 = own_cnt true b1 b2 := by decide +kernel
theorem own_a0 : ∀ b1 b2 : Bool, ∀ t ∈ own_S false b1 b2, own_s0 (own_cnt false b1 b2) (own_pl 0 (own_cnt false b1 b2) t) ∈ own_S true b1 b2 ∧ (0 < own_cnt false b1 b2 → own_s1 (own_cnt false b1 b2) (own_pl 0 (own_cnt false b1 b2) t) ∈ own_S true b1 b2) := by decide +kernel
theorem own_rc0 : ∀ b1 b2 : Bool, own_bd (own_cnt true b1 b2 - 1) ∧ own_cnt true b1 b2 - 1 = own_cnt false b1 b2 := by decide +kernel
theorem own_ry0 : ∀ b1 b2 : Bool, ∀ t ∈ own_S true b1 b2, own_bd (own_gy 0 t) := by decide +kernel
theorem own_re0 : ∀ b1 b2 : Bool, ∀ t ∈ own_S true b1 b2, own_gx (own_cnt true b1 b2 - 1) t = 0 → own_m 0 t ∈ own_S false b1 b2 := by decide +kernel
theorem own_rn0 : ∀ b1 b2 : Bool, ∀ t ∈ own_S true b1 b2, ¬ own_gx (own_cnt true b1 b2 - 1) t = 0 → (own_cnt true b1 b2 - 1 = 1 ∨ own_cnt true b1 b2 - 1 = 2) := by decide +kernel
theorem own_r0a0 : ∀ b1 b2 : Bool, ∀ t ∈ own_S true b1 b2, ¬ own_gx (own_cnt true b1 b2 - 1) t = 0 → (own_bd (own_s0 (own_gy 0 t) (own_pl (own_gx (own_cnt true b1 b2 - 1) t) (own_gy 0 t) (own_m 0 t))).1 ∧ own_bd (own_s0 (own_gy 0 t) (own_pl (own_gx (own_cnt true b1 b2 - 1) t) (own_gy 0 t) (own_m 0 t))).2.1 ∧ own_bd (own_s0 (own_gy 0 t) (own_pl (own_gx (own_cnt true b1 b2 - 1) t) (own_gy 0 t) (own_m 0 t))).2.2.1) := by decide +kernel
theorem own_r0b0 : ∀ b1 b2 : Bool, ∀ t ∈ own_S true b1 b2, ¬ own_gx (own_cnt true b1 b2 - 1) t = 0 → own_bd (own_gy (own_gx (own_cnt true b1 b2 - 1) t) (own_s0 (own_gy 0 t) (own_pl (own_gx (own_cnt true b1 b2 - 1) t) (own_gy 0 t) (own_m 0 t)))) := by decide +kernel
theorem own_r0c0 : ∀ b1 b2 : Bool, ∀ t ∈ own_S true b1 b2, ¬ own_gx (own_cnt true b1 b2 - 1) t = 0 → own_s0 (own_gy (own_gx (own_cnt true b1 b2 - 1) t) (own_s0 (own_gy 0 t) (own_pl (own_gx (own_cnt true b1 b2 - 1) t) (own_gy 0 t) (own_m 0 t)))) (own_s0 (own_gy 0 t) (own_pl (own_gx (own_cnt true b1 b2 - 1) t) (own_gy 0 t) (own_m 0 t))) ∈ own_S false b1 b2 := by decide +kernel
theorem own_r0d0 : ∀ b1 b2 : Bool, ∀ t ∈ own_S true b1 b2, ¬ own_gx (own_cnt true b1 b2 - 1) t = 0 → (own_gy (own_gx (own_cnt true b1 b2 - 1) t) (own_s0 (own_gy 0 t) (own_pl (own_gx (own_cnt true b1 b2 - 1) t) (own_gy 0 t) (own_m 0 t))) = 0 → own_cnt true b1 b2 - 1 = 2 → own_d1 (own_s0 (own_gy 0 t) (own_pl (own_gx (own_cnt true b1 b2 - 1) t) (own_gy 0 t) (own_m 0 t))) ∈ own_S false b1 b2) := by decide +kernel
theorem own_r1a0 : ∀ b1 b2 : Bool, ∀ t ∈ own_S true b1 b2, ¬ own_gx (own_cnt true b1 b2 - 1) t = 0 → 0 < own_gy 0 t → (own_bd (own_s1 (own_gy 0 t) (own_pl (own_gx (own_cnt true b1 b2 - 1) t) (own_gy 0 t) (own_m 0 t))).1 ∧ own_bd (own_s1 (own_gy 0 t) (own_pl (own_gx (own_cnt true b1 b2 - 1) t) (own_gy 0 t) (own_m 0 t))).2.1 ∧ own_bd (own_s1 (own_gy 0 t) (own_pl (own_gx (own_cnt true b1 b2 - 1) t) (own_gy 0 t) (own_m 0 t))).2.2.1) := by decide +kernel
theorem own_r1b0 : ∀ b1 b2 : Bool, ∀ t ∈ own_S true b1 b2, ¬ own_gx (own_cnt true b1 b2 - 1) t = 0 → 0 < own_gy 0 t → own_bd (own_gy (own_gx (own_cnt true b1 b2 - 1) t) (own_s1 (own_gy 0 t) (own_pl (own_gx (own_cnt true b1 b2 - 1) t) (own_gy 0 t) (own_m 0 t)))) := by decide +kernel
theorem own_r1c0 : ∀ b1 b2 : Bool, ∀ t ∈ own_S true b1 b2, ¬ own_gx (own_cnt true b1 b2 - 1) t = 0 → 0 < own_gy 0 t → own_s0 (own_gy (own_gx (own_cnt true b1 b2 - 1) t) (own_s1 (own_gy 0 t) (own_pl (own_gx (own_cnt true b1 b2 - 1) t) (own_gy 0 t) (own_m 0 t)))) (own_s1 (own_gy 0 t) (own_pl (own_gx (own_cnt true b1 b2 - 1) t) (own_gy 0 t) (own_m 0 t))) ∈ own_S false b1 b2 := by decide +kernel
theorem own_r1d0 : ∀ b1 b2 : Bool, ∀ t ∈ own_S true b1 b2, ¬ own_gx (own_cnt true b1 b2 - 1) t = 0 → 0 < own_gy 0 t → (own_gy (own_gx (own_cnt true b1 b2 - 1) t) (own_s1 (own_gy 0 t) (own_pl (own_gx (own_cnt true b1 b2 - 1) t) (own_gy 0 t) (own_m 0 t))) = 0 → own_cnt true b1 b2 - 1 = 2 → own_d1 (own_s1 (own_gy 0 t) (own_pl (own_gx (own_cnt true b1 b2 - 1) t) (own_gy 0 t) (own_m 0 t))) ∈ own_S false b1 b2) := by decide +kernel
theorem own_ac1 : ∀ b0 b2 : Bool, own_bd (own_cnt b0 false b2) ∧ own_cnt b0 false b2 + 1 = own_cnt b0 true b2 := by decide +kernel
theorem own_a1 : ∀ b0 b2 : Bool, ∀ t ∈ own_S b0 false b2, own_s0 (own_cnt b0 false b2) (own_pl 1 (own_cnt b0 false b2) t) ∈ own_S b0 true b2 ∧ (0 < own_cnt b0 false b2 → own_s1 (own_cnt b0 false b2) (own_pl 1 (own_cnt b0 false b2) t) ∈ own_S b0 true b2) := by decide +kernel
theorem own_rc1 : ∀ b0 b2 : Bool, own_bd (own_cnt b0 true b2 - 1) ∧ own_cnt b0 true b2 - 1 = own_cnt b0 false b2 := by decide +kernel
theorem own_ry1 : ∀ b0 b2 : Bool, ∀ t ∈ own_S b0 true b2, own_bd (own_gy 1 t) := by decide +kernel
theorem own_re1 : ∀ b0 b2 : Bool, ∀ t ∈ own_S b0 true b2, own_gx (own_cnt b0 true b2 - 1) t = 1 → own_m 1 t ∈ own_S b0 false b2 := by decide +kernel
theorem own_rn1 : ∀ b0 b2 : Bool, ∀ t ∈ own_S b0 true b2, ¬ own_gx (own_cnt b0 true b2 - 1) t = 1 → (own_cnt b0 true b2 - 1 = 1 ∨ own_cnt b0 true b2 - 1 = 2) := by decide +kernel
theorem own_r0a1 : ∀ b0 b2 : Bool, ∀ t ∈ own_S b0 true b2, ¬ own_gx (own_cnt b0 true b2 - 1) t = 1 → (own_bd (own_s0 (own_gy 1 t) (own_pl (own_gx (own_cnt b0 true b2 - 1) t) (own_gy 1 t) (own_m 1 t))).1 ∧ own_bd (own_s0 (own_gy 1 t) (own_pl (own_gx (own_cnt b0 true b2 - 1) t) (own_gy 1 t) (own_m 1 t))).2.1 ∧ own_bd (own_s0 (own_gy 1 t) (own_pl (own_gx (own_cnt b0 true b2 - 1) t) (own_gy 1 t) (own_m 1 t))).2.2.1) := by decide +kernel
theorem own_r0b1 : ∀ b0 b2 : Bool, ∀ t ∈ own_S b0 true b2, ¬ own_gx (own_cnt b0 true b2 - 1) t = 1 → own_bd (own_gy (own_gx (own_cnt b0 true b2 - 1) t) (own_s0 (own_gy 1 t) (own_pl (own_gx (own_cnt b0 true b2 - 1) t) (own_gy 1 t) (own_m 1 t)))) := by decide +kernel
theorem own_r0c1 : ∀ b0 b2 : Bool, ∀ t ∈ own_S b0 true b2, ¬ own_gx (own_cnt b0 true b2 - 1) t = 1 → own_s0 (own_gy (own_gx (own_cnt b0 true b2 - 1) t) (own_s0 (own_gy 1 t) (own_pl (own_gx (own_cnt b0 true b2 - 1) t) (own_gy 1 t) (own_m 1 t)))) (own_s0 (own_gy 1 t) (own_pl (own_gx (own_cnt b0 true b2 - 1) t) (own_gy 1 t) (own_m 1 t))) ∈ own_S b0 false b2 := by decide +kernel
theorem own_r0d1 : ∀ b0 b2 : Bool, ∀ t ∈ own_S b0 true b2, ¬ own_gx (own_cnt b0 true b2 - 1) t = 1 → (own_gy (own_gx (own_cnt b0 true b2 - 1) t) (own_s0 (own_gy 1 t) (own_pl (own_gx (own_cnt b0 true b2 - 1) t) (own_gy 1 t) (own_m 1 t))) = 0 → own_cnt b0 true b2 - 1 = 2 → own_d1 (own_s0 (own_gy 1 t) (own_pl (own_gx (own_cnt b0 true b2 - 1) t) (own_gy 1 t) (own_m 1 t))) ∈ own_S b0 false b2) := by decide +kernel
theorem own_r1a1 : ∀ b0 b2 : Bool, ∀ t ∈ own_S b0 true b2, ¬ own_gx (own_cnt b0 true b2 - 1) t = 1 → 0 < own_gy 1 t → (own_bd (own_s1 (own_gy 1 t) (own_pl (own_gx (own_cnt b0 true b2 - 1) t) (own_gy 1 t) (own_m 1 t))).1 ∧ own_bd (own_s1 (own_gy 1 t) (own_pl (own_gx (own_cnt b0 true b2 - 1) t) (own_gy 1 t) (own_m 1 t))).2.1 ∧ own_bd (own_s1 (own_gy 1 t) (own_pl (own_gx (own_cnt b0 true b2 - 1) t) (own_gy 1 t) (own_m 1 t))).2.2.1) := by decide +kernel
theorem own_r1b1 : ∀ b0 b2 : Bool, ∀ t ∈ own_S b0 true b2, ¬ own_gx (own_cnt b0 true b2 - 1) t = 1 → 0 < own_gy 1 t → own_bd (own_gy (own_gx (own_cnt b0 true b2 - 1) t) (own_s1 (own_gy 1 t) (own_pl (own_gx (own_cnt b0 true b2 - 1) t) (own_gy 1 t) (own_m 1 t)))) := by decide +kernel
theorem own_r1c1 : ∀ b0 b2 : Bool, ∀ t ∈ own_S b0 true b2, ¬ own_gx (own_cnt b0 true b2 - 1) t = 1 → 0 < own_gy 1 t → own_s0 (own_gy (own_gx (own_cnt b0 true b2 - 1) t) (own_s1 (own_gy 1 t) (own_pl (own_gx (own_cnt b0 true b2 - 1) t) (own_gy 1 t) (own_m 1 t)))) (own_s1 (own_gy 1 t) (own_pl (own_gx (own_cnt b0 true b2 - 1) t) (own_gy 1 t) (own_m 1 t))) ∈ own_S b0 false b2 := by decide +kernel
theorem own_r1d1 : ∀ b0 b2 : Bool, ∀ t ∈ own_S b0 true b2, ¬ own_gx (own_cnt b0 true b2 - 1) t = 1 → 0 < own_gy 1 t → (own_gy (own_gx (own_cnt b0 true b2 - 1) t) (own_s1 (own_gy 1 t) (own_pl (own_gx (own_cnt b0 true b2 - 1) t) (own_gy 1 t) (own_m 1 t))) = 0 → own_cnt b0 true b2 - 1 = 2 → own_d1 (own_s1 (own_gy 1 t) (own_pl (own_gx (own_cnt b0 true b2 - 1) t) (own_gy 1 t) (own_m 1 t))) ∈ own_S b0 false b2) := by decide +kernel
theorem own_ac2 : ∀ b0 b1 : Bool, own_bd (own_cnt b0 b1 false) ∧ own_cnt b0 b1 false + 1 = own_cnt b0 b1 true := by decide +kernel
theorem own_a2 : ∀ b0 b1 : Bool, ∀ t ∈ own_S b0 b1 false, own_s0 (own_cnt b0 b1 false) (own_pl 2 (own_cnt b0 b1 false) t) ∈ own_S b0 b1 true ∧ (0 < own_cnt b0 b1 false → own_s1 (own_cnt b0 b1 false) (own_pl 2 (own_cnt b0 b1 false) t) ∈ own_S b0 b1 true) := by decide +kernel
theorem own_rc2 : ∀ b0 b1 : Bool, own_bd (own_cnt b0 b1 true - 1) ∧ own_cnt b0 b1 true - 1 = own_cnt b0 b1 false := by decide +kernel
theorem own_ry2 : ∀ b0 b1 : Bool, ∀ t ∈ own_S b0 b1 true, own_bd (own_gy 2 t) := by decide +kernel
theorem own_re2 : ∀ b0 b1 : Bool, ∀ t ∈ own_S b0 b1 true, own_gx (own_cnt b0 b1 true - 1) t = 2 → own_m 2 t ∈ own_S b0 b1 false := by decide +kernel
theorem own_rn2 : ∀ b0 b1 : Bool, ∀ t ∈ own_S b0 b1 true, ¬ own_gx (own_cnt b0 b1 true - 1) t = 2 → (own_cnt b0 b1 true - 1 = 1 ∨ own_cnt b0 b1 true - 1 = 2) := by decide +kernel
theorem own_r0a2 : ∀ b0 b1 : Bool, ∀ t ∈ own_S b0 b1 true, ¬ own_gx (own_cnt b0 b1 true - 1) t = 2 → (own_bd (own_s0 (own_gy 2 t) (own_pl (own_gx (own_cnt b0 b1 true - 1) t) (own_gy 2 t) (own_m 2 t))).1 ∧ own_bd (own_s0 (own_gy 2 t) (own_pl (own_gx (own_cnt b0 b1 true - 1) t) (own_gy 2 t) (own_m 2 t))).2.1 ∧ own_bd (own_s0 (own_gy 2 t) (own_pl (own_gx (own_cnt b0 b1 true - 1) t) (own_gy 2 t) (own_m 2 t))).2.2.1) := by decide +kernel
theorem own_r0b2 : ∀ b0 b1 : Bool, ∀ t ∈ own_S b0 b1 true, ¬ own_gx (own_cnt b0 b1 true - 1) t = 2 → own_bd (own_gy (own_gx (own_cnt b0 b1 true - 1) t) (own_s0 (own_gy 2 t) (own_pl (own_gx (own_cnt b0 b1 true - 1) t) (own_gy 2 t) (own_m 2 t)))) := by decide +kernel
theorem own_r0c2 : ∀ b0 b1 : Bool, ∀ t ∈ own_S b0 b1 true, ¬ own_gx (own_cnt b0 b1 true - 1) t = 2 → own_s0 (own_gy (own_gx (own_cnt b0 b1 true - 1) t) (own_s0 (own_gy 2 t) (own_pl (own_gx (own_cnt b0 b1 true - 1) t) (own_gy 2 t) (own_m 2 t)))) (own_s0 (own_gy 2 t) (own_pl (own_gx (own_cnt b0 b1 true - 1) t) (own_gy 2 t) (own_m 2 t))) ∈ own_S b0 b1 false := by decide +kernel
theorem own_r0d2 : ∀ b0 b1 : Bool, ∀ t ∈ own_S b0 b1 true, ¬ own_gx (own_cnt b0 b1 true - 1) t = 2 → (own_gy (own_gx (own_cnt b0 b1 true - 1) t) (own_s0 (own_gy 2 t) (own_pl (own_gx (own_cnt b0 b1 true - 1) t) (own_gy 2 t) (own_m 2 t))) = 0 → own_cnt b0 b1 true - 1 = 2 → own_d1 (own_s0 (own_gy 2 t) (own_pl (own_gx (own_cnt b0 b1 true - 1) t) (own_gy 2 t) (own_m 2 t))) ∈ own_S b0 b1 false) := by decide +kernel
theorem own_r1a2 : ∀ b0 b1 : Bool, ∀ t ∈ own_S b0 b1 true, ¬ own_gx (own_cnt b0 b1 true - 1) t = 2 → 0 < own_gy 2 t → (own_bd (own_s1 (own_gy 2 t) (own_pl (own_gx (own_cnt b0 b1 true - 1) t) (own_gy 2 t) (own_m 2 t))).1 ∧ own_bd (own_s1 (own_gy 2 t) (own_pl (own_gx (own_cnt b0 b1 true - 1) t) (own_gy 2 t) (own_m 2 t))).2.1 ∧ own_bd (own_s1 (own_gy 2 t) (own_pl (own_gx (own_cnt b0 b1 true - 1) t) (own_gy 2 t) (own_m 2 t))).2.2.1) := by decide +kernel
theorem own_r1b2 : ∀ b0 b1 : Bool, ∀ t ∈ own_S b0 b1 true, ¬ own_gx (own_cnt b0 b1 true - 1) t = 2 → 0 < own_gy 2 t → own_bd (own_gy (own_gx (own_cnt b0 b1 true - 1) t) (own_s1 (own_gy 2 t) (own_pl (own_gx (own_cnt b0 b1 true - 1) t) (own_gy 2 t) (own_m 2 t)))) := by decide +kernel
theorem own_r1c2 : ∀ b0 b1 : Bool, ∀ t ∈ own_S b0 b1 true, ¬ own_gx (own_cnt b0 b1 true - 1) t = 2 → 0 < own_gy 2 t → own_s0 (own_gy (own_gx (own_cnt b0 b1 true - 1) t) (own_s1 (own_gy 2 t) (own_pl (own_gx (own_cnt b0 b1 true - 1) t) (own_gy 2 t) (own_m 2 t)))) (own_s1 (own_gy 2 t) (own_pl (own_gx (own_cnt b0 b1 true - 1) t) (own_gy 2 t) (own_m 2 t))) ∈ own_S b0 b1 false := by decide +kernel
theorem own_r1d2 : ∀ b0 b1 : Bool, ∀ t ∈ own_S b0 b1 true, ¬ own_gx (own_cnt b0 b1 true - 1) t = 2 → 0 < own_gy 2 t → (own_gy (own_gx (own_cnt b0 b1 true - 1) t) (own_s1 (own_gy 2 t) (own_pl (own_gx (own_cnt b0 b1 true - 1) t) (own_gy 2 t) (own_m 2 t))) = 0 → own_cnt b0 b1 true - 1 = 2 → own_d1 (own_s1 (own_gy 2 t) (own_pl (own_gx (own_cnt b0 b1 true - 1) t) (own_gy 2 t) (own_m 2 t))) ∈ own_S b0 b1 false) := by decide +kernel
theorem own_memU {S : List own_T} {A B z : own_T} {c : Prop} (h : A ∈ S ∧ (c → B ∈ S)) (hz : z = A ∨ (c ∧ z = B)) : z ∈ S := by
  rcases hz with rfl | ⟨hc, rfl⟩
  · exact h.1
  · exact h.2 hc
theorem own_memD {S : List own_T} {A B u : own_T} {c1 c2 : Prop} (c : A ∈ S) (d : c1 → c2 → B ∈ S) (h : u = A ∨ (c1 ∧ c2 ∧ u = B)) : u ∈ S := by
  rcases h with rfl | ⟨h1, h2, rfl⟩
  · exact c
  · exact d h1 h2
theorem own_via {P : own_T → Prop} {A z : own_T} (h : z = A) (q : P A) : P z := by rw [h]; exact q
def own_e (n : Int32) : Int32 := if n = 0 then 1 else 0
theorem pd_0 : parseMethodDescriptor "(II)V" = some ⟨[.int, .int], none⟩ := by decide +kernel
theorem pd_1 : parseMethodDescriptor "(II)Z" = some ⟨[.int, .int], some .boolean⟩ := by decide +kernel
theorem pd_2 : parseMethodDescriptor "(I)V" = some ⟨[.int], none⟩ := by decide +kernel
theorem pd_3 : parseMethodDescriptor "([II)V" = some ⟨[(.array .int), .int], none⟩ := by decide +kernel
theorem pd_4 : parseMethodDescriptor "([D)V" = some ⟨[(.array .double)], none⟩ := by decide +kernel
theorem pd_5 : parseMethodDescriptor "()Z" = some ⟨[], some .boolean⟩ := by decide +kernel
theorem d6_0 : decode prog_17_method_11_code 0 = .ok (.aload_n 0, 1) := by decide +kernel
theorem d6_1 : decode prog_17_method_11_code 1 = .ok (.getfield 13, 3) := by decide +kernel
theorem d6_4 : decode prog_17_method_11_code 4 = .ok (.iload_n 2, 1) := by decide +kernel
theorem d6_5 : decode prog_17_method_11_code 5 = .ok (.iload_n 1, 1) := by decide +kernel
theorem d6_6 : decode prog_17_method_11_code 6 = .ok (.iastore, 1) := by decide +kernel
theorem d6_7 : decode prog_17_method_11_code 7 = .ok (.aload_n 0, 1) := by decide +kernel
theorem d6_8 : decode prog_17_method_11_code 8 = .ok (.getfield 17, 3) := by decide +kernel
theorem d6_11 : decode prog_17_method_11_code 11 = .ok (.iload_n 1, 1) := by decide +kernel
theorem d6_12 : decode prog_17_method_11_code 12 = .ok (.iload_n 2, 1) := by decide +kernel
theorem d6_13 : decode prog_17_method_11_code 13 = .ok (.iastore, 1) := by decide +kernel
theorem d6_14 : decode prog_17_method_11_code 14 = .ok (.return_, 1) := by decide +kernel
theorem pn_plc : plainName "com/example/octopoll/octopoll/PageHeap" = true := by first | (simp [plainName, overriddenIn]; done) | decide +kernel
theorem ef_plc (m : MethodId) (a0 : Addr) (p1 : Int32) (p2 : Int32) : entryFrame m #[(.ref a0), (.int p1), (.int p2)] 3 = mkF m 0 #[.val (.ref a0), .val (.int p1), .val (.int p2)] [] := by first | (simp [entryFrame, mkF, argsToLocals, Value.category]; done) | rfl
def Q_plc (Z : State) (a0 : Addr) (p1 : Int32) (p2 : Int32) (ha : Addr) (pa : Addr) (kh : ClassId) (kp : ClassId) (x0 : Int32) (x1 : Int32) (x2 : Int32) (y0 : Int32) (y1 : Int32) (y2 : Int32) (h0 : Heap) (n0 : Nat) (v : Option Value) (h : Heap) (L : List Loc) : Prop := v = none ∧ Fr n0 L ∧ Keep h0 h [ha, pa] ∧ Arv Z h ha kh .int (3 : Int32) [(.int (own_u 0 p2 p1 x0)), (.int (own_u 1 p2 p1 x1)), (.int (own_u 2 p2 p1 x2))] (.int (0 : Int32)) ∧ Arv Z h pa kp .int (3 : Int32) [(.int (own_u 0 p1 p2 y0)), (.int (own_u 1 p1 p2 y1)), (.int (own_u 2 p1 p2 y2))] (.int (0 : Int32))
set_option maxRecDepth 65536 in
set_option maxHeartbeats 40000000 in
theorem rm_plc (l : Launch) (Z : State) (av0 : Array Value) (hw : ∀ d ∈ tables_1, d.before av0 Z = true) (ws : List Jvm.Cond) (a0 : Addr) (p1 : Int32) (p2 : Int32) (ha : Addr) (pa : Addr) (kh : ClassId) (kp : ClassId) (x0 : Int32) (x1 : Int32) (x2 : Int32) (y0 : Int32) (y1 : Int32) (y2 : Int32) (h0 : Heap) (n0 : Nat) (Z0 : n0 ≤ h0.size) (fi0 : Fld Z h0 a0 "com/example/octopoll/octopoll/PageHeap" "heap" "[I" (.ref ha)) (fi1 : Fld Z h0 a0 "com/example/octopoll/octopoll/PageHeap" "position" "[I" (.ref pa)) (fi2 : Arv Z h0 ha kh .int (3 : Int32) [(.int x0), (.int x1), (.int x2)] (.int (0 : Int32))) (fi3 : Arv Z h0 pa kp .int (3 : Int32) [(.int y0), (.int y1), (.int y2)] (.int (0 : Int32))) (g_ha : n0 ≤ ha) (g_pa : n0 ≤ pa) (ne_a0_ha : a0 ≠ ha) (ne_a0_pa : a0 ≠ pa) (ne_ha_pa : ha ≠ pa) (hb1 : own_bd p1) (hb2 : own_bd p2) :
    MetFree l (⟨"com/example/octopoll/octopoll/PageHeap", "place", "(II)V"⟩ : MethodName) (head1 (Jvm.Cond.code (⟨"com/example/octopoll/octopoll/PageHeap", "place", "(II)V"⟩ : MethodName) prog_17_method_11_code 3 none :: ws) ({ frames := 0, cells := 0, slots := 0, locals := 0 } : Room)) (fun a U => a = #[(.ref a0), (.int p1), (.int p2)] ∧ Z.Warmed39 U.vm ∧ U.heap = h0) (fun _ _ _ _ _ => True) (fun _ U o U' => ∃ v L, o = .returned v ∧ Q_plc Z a0 p1 p2 ha pa kh kp x0 x1 x2 y0 y1 y2 h0 n0 v U'.heap L ∧ FrameEnd U o U' L ({ frames := 0, cells := 0, slots := 0, locals := 0 } : Room).cells ({ frames := 0, cells := 0, slots := 0, locals := 0 } : Room).slots) := by
  refine MetFree.of_bodySF (plainFor_of_name pn_plc) hisR ?_
  intro p e s m args below meth c s₁ Bd hml0 hP hK
  obtain ⟨rfl, hZ, hh⟩ := hP
  have hx := Bd.exec
  have hby := Bd.bytes
  have hml : c.maxLocals = 3 := hml0
  have hown : s.vm.findClass "com/example/octopoll/octopoll/PageHeap" = some m.cls := findClass_of_methodNamed Bd.named
  have hnm := (name_of_methodNamed Bd.named Bd.method).1
  have X0 : Stand p l e ({ frames := 0, cells := 0, slots := 0, locals := 0 } : Room) s m #[(.ref a0), (.int p1), (.int p2)] below meth c s₁ [] 0 0 := Stand.of_body Bd
  have e0 : s₁.heap = h0 := by rw [← hh, Bd.state]; rfl
  have N0 := Fr.nil n0
  have pre0 : Go p.tables e below (s₁.setTop (entryFrame m #[(.ref a0), (.int p1), (.int p2)] 3)) s₁ (mkF m 0 #[.val (.ref a0), .val (.int p1), .val (.int p2)] []) := fun t k => castTop (ef_plc m a0 p1 p2) k
  have K0 : Keep h0 h0 [ha, pa] := Keep.refl _ _
  have pre1 : Go p.tables e below (s₁.setTop (entryFrame m #[(.ref a0), (.int p1), (.int p2)] 3)) s₁ (mkF m 1 #[.val (.ref a0), .val (.int p1), .val (.int p2)] [(.ref a0)]) := fun t k => pre0 t (by
      refine XS.aloadN X0.here hx rfl (hb hby d6_0) rfl rfl ?_
      exact k)
  obtain ⟨T2, X2, e2, st2⟩ := getF X0 hx hZ hown (host := "") (Or.inl (hw _ (List.mem_of_getElem? (i := 13) rfl))) Via.refl e0 fi0 (g := (mkF m 1 #[.val (.ref a0), .val (.int p1), .val (.int p2)] [(.ref a0)])) rfl rfl (hb hby d6_1)
  have pre2 : Go p.tables e below (s₁.setTop (entryFrame m #[(.ref a0), (.int p1), (.int p2)] 3)) T2 (mkF m 4 #[.val (.ref a0), .val (.int p1), .val (.int p2)] [(.ref ha)]) := fun t k => pre1 t (st2 _ k)
  have pre3 : Go p.tables e below (s₁.setTop (entryFrame m #[(.ref a0), (.int p1), (.int p2)] 3)) T2 (mkF m 6 #[.val (.ref a0), .val (.int p1), .val (.int p2)] [(.int p1), (.int p2), (.ref ha)]) := fun t k => pre2 t (by
      refine XS.iloadN X2.here hx rfl (hb hby d6_4) rfl ?_
      show Steps p.tables e below (T2.setTop (mkF m 5 #[.val (.ref a0), .val (.int p1), .val (.int p2)] [(.int p2), (.ref ha)])) _
      refine XS.iloadN X2.here hx rfl (hb hby d6_5) rfl ?_
      exact k)
  obtain ⟨c4, Ar4, q4, S4, M4, H4, G4⟩ := (id fi2)
  have hin4 : ¬ (p2 < 0 ∨ c4.slots.size ≤ (p2).toNatClampNeg) := inb_of S4 hb2
  obtain ⟨T4, h4, X4, e4, W4, st4⟩ := stI X2 hx hZ e2 Ar4 (j := p2) hin4 (g := (mkF m 6 #[.val (.ref a0), .val (.int p1), .val (.int p2)] [(.int p1), (.int p2), (.ref ha)])) rfl rfl (hb hby d6_6)
  have fa4 : Arv Z h4 ha kh .int (3 : Int32) [(.int (own_u 0 p2 p1 x0)), (.int (own_u 1 p2 p1 x1)), (.int (own_u 2 p2 p1 x2))] (.int (0 : Int32)) := own_setA Ar4 q4 S4 M4 H4 G4 W4 hb2
  have N4 := Fr.snoc X4 N0 g_ha
  have f5 : n0 ≤ h4.size := Nat.le_trans Z0 (Keep.of_wr W4).1
  have f6 : Fld Z h4 a0 "com/example/octopoll/octopoll/PageHeap" "heap" "[I" (.ref ha) := fi0.other W4 (Or.inl ne_a0_ha)
  have f7 : Fld Z h4 a0 "com/example/octopoll/octopoll/PageHeap" "position" "[I" (.ref pa) := fi1.other W4 (Or.inl ne_a0_ha)
  have f8 : Arv Z h4 pa kp .int (3 : Int32) [(.int y0), (.int y1), (.int y2)] (.int (0 : Int32)) := fi3.other W4 ne_ha_pa.symm
  have f9 : Keep h0 h4 [ha, pa] := K0.wr W4 (Or.inl (List.mem_of_getElem? (i := 0) rfl))
  have pre4 : Go p.tables e below (s₁.setTop (entryFrame m #[(.ref a0), (.int p1), (.int p2)] 3)) T4 (mkF m 7 #[.val (.ref a0), .val (.int p1), .val (.int p2)] []) := fun t k => pre3 t (st4 _ k)
  have pre10 : Go p.tables e below (s₁.setTop (entryFrame m #[(.ref a0), (.int p1), (.int p2)] 3)) T4 (mkF m 8 #[.val (.ref a0), .val (.int p1), .val (.int p2)] [(.ref a0)]) := fun t k => pre4 t (by
      refine XS.aloadN X4.here hx rfl (hb hby d6_7) rfl rfl ?_
      exact k)
  obtain ⟨T11, X11, e11, st11⟩ := getF X4 hx hZ hown (host := "") (Or.inl (hw _ (List.mem_of_getElem? (i := 15) rfl))) Via.refl e4 f7 (g := (mkF m 8 #[.val (.ref a0), .val (.int p1), .val (.int p2)] [(.ref a0)])) rfl rfl (hb hby d6_8)
  have pre11 : Go p.tables e below (s₁.setTop (entryFrame m #[(.ref a0), (.int p1), (.int p2)] 3)) T11 (mkF m 11 #[.val (.ref a0), .val (.int p1), .val (.int p2)] [(.ref pa)]) := fun t k => pre10 t (st11 _ k)
  have pre12 : Go p.tables e below (s₁.setTop (entryFrame m #[(.ref a0), (.int p1), (.int p2)] 3)) T11 (mkF m 13 #[.val (.ref a0), .val (.int p1), .val (.int p2)] [(.int p2), (.int p1), (.ref pa)]) := fun t k => pre11 t (by
      refine XS.iloadN X11.here hx rfl (hb hby d6_11) rfl ?_
      show Steps p.tables e below (T11.setTop (mkF m 12 #[.val (.ref a0), .val (.int p1), .val (.int p2)] [(.int p1), (.ref pa)])) _
      refine XS.iloadN X11.here hx rfl (hb hby d6_12) rfl ?_
      exact k)
  obtain ⟨c13, Ar13, q13, S13, M13, H13, G13⟩ := (id f8)
  have hin13 : ¬ (p1 < 0 ∨ c13.slots.size ≤ (p1).toNatClampNeg) := inb_of S13 hb1
  obtain ⟨T13, h13, X13, e13, W13, st13⟩ := stI X11 hx hZ e11 Ar13 (j := p1) hin13 (g := (mkF m 13 #[.val (.ref a0), .val (.int p1), .val (.int p2)] [(.int p2), (.int p1), (.ref pa)])) rfl rfl (hb hby d6_13)
  have fa13 : Arv Z h13 pa kp .int (3 : Int32) [(.int (own_u 0 p1 p2 y0)), (.int (own_u 1 p1 p2 y1)), (.int (own_u 2 p1 p2 y2))] (.int (0 : Int32)) := own_setA Ar13 q13 S13 M13 H13 G13 W13 hb1
  have N13 := Fr.snoc X13 N4 g_pa
  have f14 : n0 ≤ h13.size := Nat.le_trans f5 (Keep.of_wr W13).1
  have f15 : Fld Z h13 a0 "com/example/octopoll/octopoll/PageHeap" "heap" "[I" (.ref ha) := f6.other W13 (Or.inl ne_a0_pa)
  have f16 : Fld Z h13 a0 "com/example/octopoll/octopoll/PageHeap" "position" "[I" (.ref pa) := f7.other W13 (Or.inl ne_a0_pa)
  have f17 : Keep h0 h13 [ha, pa] := f9.wr W13 (Or.inl (List.mem_of_getElem? (i := 1) rfl))
  have f18 : Arv Z h13 ha kh .int (3 : Int32) [(.int (own_u 0 p2 p1 x0)), (.int (own_u 1 p2 p1 x1)), (.int (own_u 2 p2 p1 x2))] (.int (0 : Int32)) := fa4.other W13 ne_ha_pa
  have pre13 : Go p.tables e below (s₁.setTop (entryFrame m #[(.ref a0), (.int p1), (.int p2)] 3)) T13 (mkF m 14 #[.val (.ref a0), .val (.int p1), .val (.int p2)] []) := fun t k => pre12 t (st13 _ k)
  obtain ⟨fs, hr, hrun, hended, hW, hsame⟩ := X13.leave (v := none) (fun _ => rfl) (BodyLoose.notSynchronized Bd)
  refine ⟨_, _, pre13 _ ?_, hrun, hended, _, _, rfl, ?_, ⟨_, rfl⟩, hW, hsame.mono (Nat.le_of_ble_eq_true rfl) (Nat.le_of_ble_eq_true rfl)⟩
  · exact X13.returnOut hx Bd.returns (hb hby d6_14) hr
  · show Q_plc Z a0 p1 p2 ha pa kh kp x0 x1 x2 y0 y1 y2 h0 n0 _ T13.heap _
    rw [e13]
    exact ⟨rfl, N13, f17, f18, fa13⟩
theorem d8_0 : decode prog_17_method_8_code 0 = .ok (.aload_n 0, 1) := by decide +kernel
theorem d8_1 : decode prog_17_method_8_code 1 = .ok (.getfield 7, 3) := by decide +kernel
theorem d8_4 : decode prog_17_method_8_code 4 = .ok (.iload_n 1, 1) := by decide +kernel
theorem d8_5 : decode prog_17_method_8_code 5 = .ok (.daload, 1) := by decide +kernel
theorem d8_6 : decode prog_17_method_8_code 6 = .ok (.aload_n 0, 1) := by decide +kernel
theorem d8_7 : decode prog_17_method_8_code 7 = .ok (.getfield 7, 3) := by decide +kernel
theorem d8_10 : decode prog_17_method_8_code 10 = .ok (.iload_n 2, 1) := by decide +kernel
theorem d8_11 : decode prog_17_method_8_code 11 = .ok (.daload, 1) := by decide +kernel
theorem d8_12 : decode prog_17_method_8_code 12 = .ok (.dcmp .g, 1) := by decide +kernel
theorem d8_13 : decode prog_17_method_8_code 13 = .ok (.ifCond .lt 24, 3) := by decide +kernel
theorem d8_16 : decode prog_17_method_8_code 16 = .ok (.aload_n 0, 1) := by decide +kernel
theorem d8_17 : decode prog_17_method_8_code 17 = .ok (.getfield 7, 3) := by decide +kernel
theorem d8_20 : decode prog_17_method_8_code 20 = .ok (.iload_n 1, 1) := by decide +kernel
theorem d8_21 : decode prog_17_method_8_code 21 = .ok (.daload, 1) := by decide +kernel
theorem d8_22 : decode prog_17_method_8_code 22 = .ok (.aload_n 0, 1) := by decide +kernel
theorem d8_23 : decode prog_17_method_8_code 23 = .ok (.getfield 7, 3) := by decide +kernel
theorem d8_26 : decode prog_17_method_8_code 26 = .ok (.iload_n 2, 1) := by decide +kernel
theorem d8_27 : decode prog_17_method_8_code 27 = .ok (.daload, 1) := by decide +kernel
theorem d8_28 : decode prog_17_method_8_code 28 = .ok (.dcmp .l, 1) := by decide +kernel
theorem d8_29 : decode prog_17_method_8_code 29 = .ok (.ifCond .ne 12, 3) := by decide +kernel
theorem d8_32 : decode prog_17_method_8_code 32 = .ok (.iload_n 1, 1) := by decide +kernel
theorem d8_33 : decode prog_17_method_8_code 33 = .ok (.iload_n 2, 1) := by decide +kernel
theorem d8_34 : decode prog_17_method_8_code 34 = .ok (.if_icmp .ge 7, 3) := by decide +kernel
theorem d8_37 : decode prog_17_method_8_code 37 = .ok (.iconst 1, 1) := by decide +kernel
theorem d8_38 : decode prog_17_method_8_code 38 = .ok (.goto 4, 3) := by decide +kernel
theorem d8_41 : decode prog_17_method_8_code 41 = .ok (.iconst 0, 1) := by decide +kernel
theorem d8_42 : decode prog_17_method_8_code 42 = .ok (.ireturn, 1) := by decide +kernel
theorem pn_les : plainName "com/example/octopoll/octopoll/PageHeap" = true := by first | (simp [plainName, overriddenIn]; done) | decide +kernel
theorem ef_les (m : MethodId) (a0 : Addr) (p1 : Int32) (p2 : Int32) : entryFrame m #[(.ref a0), (.int p1), (.int p2)] 3 = mkF m 0 #[.val (.ref a0), .val (.int p1), .val (.int p2)] [] := by first | (simp [entryFrame, mkF, argsToLocals, Value.category]; done) | rfl
def Q_les (Z : State) (a0 : Addr) (p1 : Int32) (p2 : Int32) (ka : Addr) (kk : ClassId) (d0 : UInt64) (d1 : UInt64) (d2 : UInt64) (h0 : Heap) (n0 : Nat) (v : Option Value) (h : Heap) (L : List Loc) : Prop := ∃ (zl : Int32), v = some (.int zl) ∧ Fr n0 L ∧ Keep h0 h []
set_option maxRecDepth 65536 in
set_option maxHeartbeats 40000000 in
theorem rm_les (l : Launch) (Z : State) (av0 : Array Value) (hw : ∀ d ∈ tables_1, d.before av0 Z = true) (ws : List Jvm.Cond) (a0 : Addr) (p1 : Int32) (p2 : Int32) (ka : Addr) (kk : ClassId) (d0 : UInt64) (d1 : UInt64) (d2 : UInt64) (h0 : Heap) (n0 : Nat) (Z0 : n0 ≤ h0.size) (fi0 : Fld Z h0 a0 "com/example/octopoll/octopoll/PageHeap" "key" "[D" (.ref ka)) (fi1 : Arv Z h0 ka kk .double (3 : Int32) [(.double d0), (.double d1), (.double d2)] (.double 0)) (hb1 : own_bd p1) (hb2 : own_bd p2) :
    MetFree l (⟨"com/example/octopoll/octopoll/PageHeap", "less", "(II)Z"⟩ : MethodName) (head1 (Jvm.Cond.code (⟨"com/example/octopoll/octopoll/PageHeap", "less", "(II)Z"⟩ : MethodName) prog_17_method_8_code 3 (some .boolean) :: ws) ({ frames := 0, cells := 0, slots := 0, locals := 0 } : Room)) (fun a U => a = #[(.ref a0), (.int p1), (.int p2)] ∧ Z.Warmed39 U.vm ∧ U.heap = h0) (fun _ _ _ _ _ => True) (fun _ U o U' => ∃ v L, o = .returned v ∧ Q_les Z a0 p1 p2 ka kk d0 d1 d2 h0 n0 v U'.heap L ∧ FrameEnd U o U' L ({ frames := 0, cells := 0, slots := 0, locals := 0 } : Room).cells ({ frames := 0, cells := 0, slots := 0, locals := 0 } : Room).slots) := by
  refine MetFree.of_bodySF (plainFor_of_name pn_les) hisR ?_
  intro p e s m args below meth c s₁ Bd hml0 hP hK
  obtain ⟨rfl, hZ, hh⟩ := hP
  have hx := Bd.exec
  have hby := Bd.bytes
  have hml : c.maxLocals = 3 := hml0
  have hown : s.vm.findClass "com/example/octopoll/octopoll/PageHeap" = some m.cls := findClass_of_methodNamed Bd.named
  have hnm := (name_of_methodNamed Bd.named Bd.method).1
  have X0 : Stand p l e ({ frames := 0, cells := 0, slots := 0, locals := 0 } : Room) s m #[(.ref a0), (.int p1), (.int p2)] below meth c s₁ [] 0 0 := Stand.of_body Bd
  have e0 : s₁.heap = h0 := by rw [← hh, Bd.state]; rfl
  have N0 := Fr.nil n0
  have pre0 : Go p.tables e below (s₁.setTop (entryFrame m #[(.ref a0), (.int p1), (.int p2)] 3)) s₁ (mkF m 0 #[.val (.ref a0), .val (.int p1), .val (.int p2)] []) := fun t k => castTop (ef_les m a0 p1 p2) k
  have K0 : Keep h0 h0 [] := Keep.refl _ _
  have pre1 : Go p.tables e below (s₁.setTop (entryFrame m #[(.ref a0), (.int p1), (.int p2)] 3)) s₁ (mkF m 1 #[.val (.ref a0), .val (.int p1), .val (.int p2)] [(.ref a0)]) := fun t k => pre0 t (by
      refine XS.aloadN X0.here hx rfl (hb hby d8_0) rfl rfl ?_
      exact k)
  obtain ⟨T2, X2, e2, st2⟩ := getF X0 hx hZ hown (host := "") (Or.inl (hw _ (List.mem_of_getElem? (i := 10) rfl))) Via.refl e0 fi0 (g := (mkF m 1 #[.val (.ref a0), .val (.int p1), .val (.int p2)] [(.ref a0)])) rfl rfl (hb hby d8_1)
  have pre2 : Go p.tables e below (s₁.setTop (entryFrame m #[(.ref a0), (.int p1), (.int p2)] 3)) T2 (mkF m 4 #[.val (.ref a0), .val (.int p1), .val (.int p2)] [(.ref ka)]) := fun t k => pre1 t (st2 _ k)
  have pre3 : Go p.tables e below (s₁.setTop (entryFrame m #[(.ref a0), (.int p1), (.int p2)] 3)) T2 (mkF m 5 #[.val (.ref a0), .val (.int p1), .val (.int p2)] [(.int p1), (.ref ka)]) := fun t k => pre2 t (by
      refine XS.iloadN X2.here hx rfl (hb hby d8_4) rfl ?_
      exact k)
  obtain ⟨c4, Ar4, q4, S4, M4, H4, G4⟩ := (id fi1)
  have hin4 : ¬ (p1 < 0 ∨ c4.slots.size ≤ (p1).toNatClampNeg) := inb_of S4 hb1
  have pre4 : Go p.tables e below (s₁.setTop (entryFrame m #[(.ref a0), (.int p1), (.int p2)] 3)) T2 (mkF m 6 #[.val (.ref a0), .val (.int p1), .val (.int p2)] [(.double (own_gd p1 d0 d1 d2))]) := fun t k => pre3 t (X2.daload hx (j := p1) (v := (.double (own_gd p1 d0 d1 d2))) (by rw [e2]; exact Ar4.1) (State.isArrayOf_alike hZ.alike Ar4.2.1) Ar4.2.2 hin4 (H4.at hin4 (own_getd hb1)) (g := (mkF m 5 #[.val (.ref a0), .val (.int p1), .val (.int p2)] [(.int p1), (.ref ka)])) rfl rfl (hb hby d8_5) _ k)
  have pre5 : Go p.tables e below (s₁.setTop (entryFrame m #[(.ref a0), (.int p1), (.int p2)] 3)) T2 (mkF m 7 #[.val (.ref a0), .val (.int p1), .val (.int p2)] [(.ref a0), (.double (own_gd p1 d0 d1 d2))]) := fun t k => pre4 t (by
      refine XS.aloadN X2.here hx rfl (hb hby d8_6) rfl rfl ?_
      exact k)
  obtain ⟨T6, X6, e6, st6⟩ := getF X2 hx hZ hown (host := "") (Or.inl (hw _ (List.mem_of_getElem? (i := 10) rfl))) Via.refl e2 fi0 (g := (mkF m 7 #[.val (.ref a0), .val (.int p1), .val (.int p2)] [(.ref a0), (.double (own_gd p1 d0 d1 d2))])) rfl rfl (hb hby d8_7)
  have pre6 : Go p.tables e below (s₁.setTop (entryFrame m #[(.ref a0), (.int p1), (.int p2)] 3)) T6 (mkF m 10 #[.val (.ref a0), .val (.int p1), .val (.int p2)] [(.ref ka), (.double (own_gd p1 d0 d1 d2))]) := fun t k => pre5 t (st6 _ k)
  have pre7 : Go p.tables e below (s₁.setTop (entryFrame m #[(.ref a0), (.int p1), (.int p2)] 3)) T6 (mkF m 11 #[.val (.ref a0), .val (.int p1), .val (.int p2)] [(.int p2), (.ref ka), (.double (own_gd p1 d0 d1 d2))]) := fun t k => pre6 t (by
      refine XS.iloadN X6.here hx rfl (hb hby d8_10) rfl ?_
      exact k)
  obtain ⟨c8, Ar8, q8, S8, M8, H8, G8⟩ := (id fi1)
  have hin8 : ¬ (p2 < 0 ∨ c8.slots.size ≤ (p2).toNatClampNeg) := inb_of S8 hb2
  have pre8 : Go p.tables e below (s₁.setTop (entryFrame m #[(.ref a0), (.int p1), (.int p2)] 3)) T6 (mkF m 12 #[.val (.ref a0), .val (.int p1), .val (.int p2)] [(.double (own_gd p2 d0 d1 d2)), (.double (own_gd p1 d0 d1 d2))]) := fun t k => pre7 t (X6.daload hx (j := p2) (v := (.double (own_gd p2 d0 d1 d2))) (by rw [e6]; exact Ar8.1) (State.isArrayOf_alike hZ.alike Ar8.2.1) Ar8.2.2 hin8 (H8.at hin8 (own_getd hb2)) (g := (mkF m 11 #[.val (.ref a0), .val (.int p1), .val (.int p2)] [(.int p2), (.ref ka), (.double (own_gd p1 d0 d1 d2))])) rfl rfl (hb hby d8_11) _ k)
  have pre9 : Go p.tables e below (s₁.setTop (entryFrame m #[(.ref a0), (.int p1), (.int p2)] 3)) T6 (mkF m 13 #[.val (.ref a0), .val (.int p1), .val (.int p2)] [(.int (cmpValue (FP.dcmp (own_gd p1 d0 d1 d2) (own_gd p2 d0 d1 d2)) .g))]) := fun t k => pre8 t (by
      refine XS.dcmpS X6.here hx rfl (hb hby d8_12) rfl rfl ?_
      exact k)
  by_cases hc10 : (cmpValue (FP.dcmp (own_gd p1 d0 d1 d2) (own_gd p2 d0 d1 d2)) .g) < (0 : Int32)
  · -- hc10: True
    have pre11 : Go p.tables e below (s₁.setTop (entryFrame m #[(.ref a0), (.int p1), (.int p2)] 3)) T6 (mkF m 42 #[.val (.ref a0), .val (.int p1), .val (.int p2)] [(.int (1 : Int32))]) := fun t k => pre9 t (by
        refine XS.ifYes X6.here hx rfl (pc0 := 13) (pc' := 37) rfl (hb hby d8_13) rfl ((if0 _ _).trans (tlt hc10).1) (by decide) (by decide) ?_
        show Steps p.tables e below (T6.setTop (mkF m 37 #[.val (.ref a0), .val (.int p1), .val (.int p2)] [])) _
        refine XS.iconst X6.here hx rfl (hb hby d8_37) ?_
        show Steps p.tables e below (T6.setTop (mkF m 38 #[.val (.ref a0), .val (.int p1), .val (.int p2)] [(.int (1 : Int32))])) _
        refine XS.goto X6.here hx rfl (pc0 := 38) (pc' := 42) rfl (hb hby d8_38) (by decide) (by decide) ?_
        exact k)
    obtain ⟨fs, hr, hrun, hended, hW, hsame⟩ := X6.leave (v := some (.int (1 : Int32))) (fun h => by rw [Bd.returns] at h; cases h) (BodyLoose.notSynchronized Bd)
    refine ⟨_, _, pre11 _ ?_, hrun, hended, _, _, rfl, ?_, ⟨_, rfl⟩, hW, hsame.mono (Nat.le_of_ble_eq_true rfl) (Nat.le_of_ble_eq_true rfl)⟩
    · exact retN X6 hx (t := .boolean) Bd.returns (by simp) (hb hby d8_42) hr
    · show Q_les Z a0 p1 p2 ka kk d0 d1 d2 h0 n0 _ T6.heap _
      rw [e6]
      exact ⟨(1 : Int32), rfl, N0, K0⟩
  · -- hc10: False
    have pre12 : Go p.tables e below (s₁.setTop (entryFrame m #[(.ref a0), (.int p1), (.int p2)] 3)) T6 (mkF m 17 #[.val (.ref a0), .val (.int p1), .val (.int p2)] [(.ref a0)]) := fun t k => pre9 t (by
        refine XS.ifNo X6.here hx rfl (hb hby d8_13) rfl ((if0 _ _).trans (flt hc10).1) ?_
        show Steps p.tables e below (T6.setTop (mkF m 16 #[.val (.ref a0), .val (.int p1), .val (.int p2)] [])) _
        refine XS.aloadN X6.here hx rfl (hb hby d8_16) rfl rfl ?_
        exact k)
    obtain ⟨T13, X13, e13, st13⟩ := getF X6 hx hZ hown (host := "") (Or.inl (hw _ (List.mem_of_getElem? (i := 10) rfl))) Via.refl e6 fi0 (g := (mkF m 17 #[.val (.ref a0), .val (.int p1), .val (.int p2)] [(.ref a0)])) rfl rfl (hb hby d8_17)
    have pre13 : Go p.tables e below (s₁.setTop (entryFrame m #[(.ref a0), (.int p1), (.int p2)] 3)) T13 (mkF m 20 #[.val (.ref a0), .val (.int p1), .val (.int p2)] [(.ref ka)]) := fun t k => pre12 t (st13 _ k)
    have pre14 : Go p.tables e below (s₁.setTop (entryFrame m #[(.ref a0), (.int p1), (.int p2)] 3)) T13 (mkF m 21 #[.val (.ref a0), .val (.int p1), .val (.int p2)] [(.int p1), (.ref ka)]) := fun t k => pre13 t (by
        refine XS.iloadN X13.here hx rfl (hb hby d8_20) rfl ?_
        exact k)
    obtain ⟨c15, Ar15, q15, S15, M15, H15, G15⟩ := (id fi1)
    have hin15 : ¬ (p1 < 0 ∨ c15.slots.size ≤ (p1).toNatClampNeg) := inb_of S15 hb1
    have pre15 : Go p.tables e below (s₁.setTop (entryFrame m #[(.ref a0), (.int p1), (.int p2)] 3)) T13 (mkF m 22 #[.val (.ref a0), .val (.int p1), .val (.int p2)] [(.double (own_gd p1 d0 d1 d2))]) := fun t k => pre14 t (X13.daload hx (j := p1) (v := (.double (own_gd p1 d0 d1 d2))) (by rw [e13]; exact Ar15.1) (State.isArrayOf_alike hZ.alike Ar15.2.1) Ar15.2.2 hin15 (H15.at hin15 (own_getd hb1)) (g := (mkF m 21 #[.val (.ref a0), .val (.int p1), .val (.int p2)] [(.int p1), (.ref ka)])) rfl rfl (hb hby d8_21) _ k)
    have pre16 : Go p.tables e below (s₁.setTop (entryFrame m #[(.ref a0), (.int p1), (.int p2)] 3)) T13 (mkF m 23 #[.val (.ref a0), .val (.int p1), .val (.int p2)] [(.ref a0), (.double (own_gd p1 d0 d1 d2))]) := fun t k => pre15 t (by
        refine XS.aloadN X13.here hx rfl (hb hby d8_22) rfl rfl ?_
        exact k)
    obtain ⟨T17, X17, e17, st17⟩ := getF X13 hx hZ hown (host := "") (Or.inl (hw _ (List.mem_of_getElem? (i := 10) rfl))) Via.refl e13 fi0 (g := (mkF m 23 #[.val (.ref a0), .val (.int p1), .val (.int p2)] [(.ref a0), (.double (own_gd p1 d0 d1 d2))])) rfl rfl (hb hby d8_23)
    have pre17 : Go p.tables e below (s₁.setTop (entryFrame m #[(.ref a0), (.int p1), (.int p2)] 3)) T17 (mkF m 26 #[.val (.ref a0), .val (.int p1), .val (.int p2)] [(.ref ka), (.double (own_gd p1 d0 d1 d2))]) := fun t k => pre16 t (st17 _ k)
    have pre18 : Go p.tables e below (s₁.setTop (entryFrame m #[(.ref a0), (.int p1), (.int p2)] 3)) T17 (mkF m 27 #[.val (.ref a0), .val (.int p1), .val (.int p2)] [(.int p2), (.ref ka), (.double (own_gd p1 d0 d1 d2))]) := fun t k => pre17 t (by
        refine XS.iloadN X17.here hx rfl (hb hby d8_26) rfl ?_
        exact k)
    obtain ⟨c19, Ar19, q19, S19, M19, H19, G19⟩ := (id fi1)
    have hin19 : ¬ (p2 < 0 ∨ c19.slots.size ≤ (p2).toNatClampNeg) := inb_of S19 hb2
    have pre19 : Go p.tables e below (s₁.setTop (entryFrame m #[(.ref a0), (.int p1), (.int p2)] 3)) T17 (mkF m 28 #[.val (.ref a0), .val (.int p1), .val (.int p2)] [(.double (own_gd p2 d0 d1 d2)), (.double (own_gd p1 d0 d1 d2))]) := fun t k => pre18 t (X17.daload hx (j := p2) (v := (.double (own_gd p2 d0 d1 d2))) (by rw [e17]; exact Ar19.1) (State.isArrayOf_alike hZ.alike Ar19.2.1) Ar19.2.2 hin19 (H19.at hin19 (own_getd hb2)) (g := (mkF m 27 #[.val (.ref a0), .val (.int p1), .val (.int p2)] [(.int p2), (.ref ka), (.double (own_gd p1 d0 d1 d2))])) rfl rfl (hb hby d8_27) _ k)
    have pre20 : Go p.tables e below (s₁.setTop (entryFrame m #[(.ref a0), (.int p1), (.int p2)] 3)) T17 (mkF m 29 #[.val (.ref a0), .val (.int p1), .val (.int p2)] [(.int (cmpValue (FP.dcmp (own_gd p1 d0 d1 d2) (own_gd p2 d0 d1 d2)) .l))]) := fun t k => pre19 t (by
        refine XS.dcmpS X17.here hx rfl (hb hby d8_28) rfl rfl ?_
        exact k)
    by_cases hc21 : (cmpValue (FP.dcmp (own_gd p1 d0 d1 d2) (own_gd p2 d0 d1 d2)) .l) = (0 : Int32)
    · -- hc21: True
      have pre22 : Go p.tables e below (s₁.setTop (entryFrame m #[(.ref a0), (.int p1), (.int p2)] 3)) T17 (mkF m 34 #[.val (.ref a0), .val (.int p1), .val (.int p2)] [(.int p2), (.int p1)]) := fun t k => pre20 t (by
          refine XS.ifNo X17.here hx rfl (hb hby d8_29) rfl ((if0 _ _).trans (teq hc21).2) ?_
          show Steps p.tables e below (T17.setTop (mkF m 32 #[.val (.ref a0), .val (.int p1), .val (.int p2)] [])) _
          refine XS.iloadN X17.here hx rfl (hb hby d8_32) rfl ?_
          show Steps p.tables e below (T17.setTop (mkF m 33 #[.val (.ref a0), .val (.int p1), .val (.int p2)] [(.int p1)])) _
          refine XS.iloadN X17.here hx rfl (hb hby d8_33) rfl ?_
          exact k)
      by_cases hc23 : p1 < p2
      · -- hc23: True
        have pre24 : Go p.tables e below (s₁.setTop (entryFrame m #[(.ref a0), (.int p1), (.int p2)] 3)) T17 (mkF m 42 #[.val (.ref a0), .val (.int p1), .val (.int p2)] [(.int (1 : Int32))]) := fun t k => pre22 t (by
            refine XS.icmpNo X17.here hx rfl (hb hby d8_34) rfl (tlt hc23).2.1 ?_
            show Steps p.tables e below (T17.setTop (mkF m 37 #[.val (.ref a0), .val (.int p1), .val (.int p2)] [])) _
            refine XS.iconst X17.here hx rfl (hb hby d8_37) ?_
            show Steps p.tables e below (T17.setTop (mkF m 38 #[.val (.ref a0), .val (.int p1), .val (.int p2)] [(.int (1 : Int32))])) _
            refine XS.goto X17.here hx rfl (pc0 := 38) (pc' := 42) rfl (hb hby d8_38) (by decide) (by decide) ?_
            exact k)
        obtain ⟨fs, hr, hrun, hended, hW, hsame⟩ := X17.leave (v := some (.int (1 : Int32))) (fun h => by rw [Bd.returns] at h; cases h) (BodyLoose.notSynchronized Bd)
        refine ⟨_, _, pre24 _ ?_, hrun, hended, _, _, rfl, ?_, ⟨_, rfl⟩, hW, hsame.mono (Nat.le_of_ble_eq_true rfl) (Nat.le_of_ble_eq_true rfl)⟩
        · exact retN X17 hx (t := .boolean) Bd.returns (by simp) (hb hby d8_42) hr
        · show Q_les Z a0 p1 p2 ka kk d0 d1 d2 h0 n0 _ T17.heap _
          rw [e17]
          exact ⟨(1 : Int32), rfl, N0, K0⟩
      · -- hc23: False
        have pre25 : Go p.tables e below (s₁.setTop (entryFrame m #[(.ref a0), (.int p1), (.int p2)] 3)) T17 (mkF m 42 #[.val (.ref a0), .val (.int p1), .val (.int p2)] [(.int (0 : Int32))]) := fun t k => pre22 t (by
            refine XS.icmpYes X17.here hx rfl (pc0 := 34) (pc' := 41) rfl (hb hby d8_34) rfl (flt hc23).2.1 (by decide) (by decide) ?_
            show Steps p.tables e below (T17.setTop (mkF m 41 #[.val (.ref a0), .val (.int p1), .val (.int p2)] [])) _
            refine XS.iconst X17.here hx rfl (hb hby d8_41) ?_
            exact k)
        obtain ⟨fs, hr, hrun, hended, hW, hsame⟩ := X17.leave (v := some (.int (0 : Int32))) (fun h => by rw [Bd.returns] at h; cases h) (BodyLoose.notSynchronized Bd)
        refine ⟨_, _, pre25 _ ?_, hrun, hended, _, _, rfl, ?_, ⟨_, rfl⟩, hW, hsame.mono (Nat.le_of_ble_eq_true rfl) (Nat.le_of_ble_eq_true rfl)⟩
        · exact retN X17 hx (t := .boolean) Bd.returns (by simp) (hb hby d8_42) hr
        · show Q_les Z a0 p1 p2 ka kk d0 d1 d2 h0 n0 _ T17.heap _
          rw [e17]
          exact ⟨(0 : Int32), rfl, N0, K0⟩
    · -- hc21: False
      have pre26 : Go p.tables e below (s₁.setTop (entryFrame m #[(.ref a0), (.int p1), (.int p2)] 3)) T17 (mkF m 42 #[.val (.ref a0), .val (.int p1), .val (.int p2)] [(.int (0 : Int32))]) := fun t k => pre20 t (by
          refine XS.ifYes X17.here hx rfl (pc0 := 29) (pc' := 41) rfl (hb hby d8_29) rfl ((if0 _ _).trans (feq hc21).2) (by decide) (by decide) ?_
          show Steps p.tables e below (T17.setTop (mkF m 41 #[.val (.ref a0), .val (.int p1), .val (.int p2)] [])) _
          refine XS.iconst X17.here hx rfl (hb hby d8_41) ?_
          exact k)
      obtain ⟨fs, hr, hrun, hended, hW, hsame⟩ := X17.leave (v := some (.int (0 : Int32))) (fun h => by rw [Bd.returns] at h; cases h) (BodyLoose.notSynchronized Bd)
      refine ⟨_, _, pre26 _ ?_, hrun, hended, _, _, rfl, ?_, ⟨_, rfl⟩, hW, hsame.mono (Nat.le_of_ble_eq_true rfl) (Nat.le_of_ble_eq_true rfl)⟩
      · exact retN X17 hx (t := .boolean) Bd.returns (by simp) (hb hby d8_42) hr
      · show Q_les Z a0 p1 p2 ka kk d0 d1 d2 h0 n0 _ T17.heap _
        rw [e17]
        exact ⟨(0 : Int32), rfl, N0, K0⟩
def Q_su (Z : State) (a0 : Addr) (p1 : Int32) (ka : Addr) (ha : Addr) (pa : Addr) (kk : ClassId) (kh : ClassId) (kp : ClassId) (d0 : UInt64) (d1 : UInt64) (d2 : UInt64) (x0 : Int32) (x1 : Int32) (x2 : Int32) (y0 : Int32) (y1 : Int32) (y2 : Int32) (h0 : Heap) (n0 : Nat) (v : Option Value) (h : Heap) (L : List Loc) : Prop := ∃ (z0 : Int32) (z1 : Int32) (z2 : Int32) (z3 : Int32) (z4 : Int32) (z5 : Int32), v = none ∧ Fr n0 L ∧ Keep h0 h [ha, pa] ∧ Arv Z h ha kh .int (3 : Int32) [(.int z0), (.int z1), (.int z2)] (.int (0 : Int32)) ∧ Arv Z h pa kp .int (3 : Int32) [(.int z3), (.int z4), (.int z5)] (.int (0 : Int32)) ∧ ((z0, z1, z2, z3, z4, z5) = own_s0 p1 (x0, x1, x2, y0, y1, y2) ∨ (0 < p1 ∧ (z0, z1, z2, z3, z4, z5) = own_s1 p1 (x0, x1, x2, y0, y1, y2)))
theorem d7_0 : decode prog_17_method_9_code 0 = .ok (.aload_n 0, 1) := by decide +kernel
theorem d7_1 : decode prog_17_method_9_code 1 = .ok (.getfield 13, 3) := by decide +kernel
theorem d7_4 : decode prog_17_method_9_code 4 = .ok (.iload_n 1, 1) := by decide +kernel
theorem d7_5 : decode prog_17_method_9_code 5 = .ok (.iaload, 1) := by decide +kernel
theorem d7_6 : decode prog_17_method_9_code 6 = .ok (.istore_n 2, 1) := by decide +kernel
theorem d7_7 : decode prog_17_method_9_code 7 = .ok (.iload_n 1, 1) := by decide +kernel
theorem d7_8 : decode prog_17_method_9_code 8 = .ok (.ifCond .le 45, 3) := by decide +kernel
theorem d7_11 : decode prog_17_method_9_code 11 = .ok (.aload_n 0, 1) := by decide +kernel
theorem d7_12 : decode prog_17_method_9_code 12 = .ok (.iload_n 2, 1) := by decide +kernel
theorem d7_13 : decode prog_17_method_9_code 13 = .ok (.aload_n 0, 1) := by decide +kernel
theorem d7_14 : decode prog_17_method_9_code 14 = .ok (.getfield 13, 3) := by decide +kernel
theorem d7_17 : decode prog_17_method_9_code 17 = .ok (.iload_n 1, 1) := by decide +kernel
theorem d7_18 : decode prog_17_method_9_code 18 = .ok (.iconst 1, 1) := by decide +kernel
theorem d7_19 : decode prog_17_method_9_code 19 = .ok (.isub, 1) := by decide +kernel
theorem d7_20 : decode prog_17_method_9_code 20 = .ok (.iconst 2, 1) := by decide +kernel
theorem d7_21 : decode prog_17_method_9_code 21 = .ok (.idiv, 1) := by decide +kernel
theorem d7_22 : decode prog_17_method_9_code 22 = .ok (.iaload, 1) := by decide +kernel
theorem d7_23 : decode prog_17_method_9_code 23 = .ok (.invokevirtual 44, 3) := by decide +kernel
theorem d7_26 : decode prog_17_method_9_code 26 = .ok (.ifCond .eq 27, 3) := by decide +kernel
theorem d7_29 : decode prog_17_method_9_code 29 = .ok (.aload_n 0, 1) := by decide +kernel
theorem d7_30 : decode prog_17_method_9_code 30 = .ok (.aload_n 0, 1) := by decide +kernel
theorem d7_31 : decode prog_17_method_9_code 31 = .ok (.getfield 13, 3) := by decide +kernel
theorem d7_34 : decode prog_17_method_9_code 34 = .ok (.iload_n 1, 1) := by decide +kernel
theorem d7_35 : decode prog_17_method_9_code 35 = .ok (.iconst 1, 1) := by decide +kernel
theorem d7_36 : decode prog_17_method_9_code 36 = .ok (.isub, 1) := by decide +kernel
theorem d7_37 : decode prog_17_method_9_code 37 = .ok (.iconst 2, 1) := by decide +kernel
theorem d7_38 : decode prog_17_method_9_code 38 = .ok (.idiv, 1) := by decide +kernel
theorem d7_39 : decode prog_17_method_9_code 39 = .ok (.iaload, 1) := by decide +kernel
theorem d7_40 : decode prog_17_method_9_code 40 = .ok (.iload_n 1, 1) := by decide +kernel
theorem d7_41 : decode prog_17_method_9_code 41 = .ok (.invokevirtual 30, 3) := by decide +kernel
theorem d7_44 : decode prog_17_method_9_code 44 = .ok (.iload_n 1, 1) := by decide +kernel
theorem d7_45 : decode prog_17_method_9_code 45 = .ok (.iconst 1, 1) := by decide +kernel
theorem d7_46 : decode prog_17_method_9_code 46 = .ok (.isub, 1) := by decide +kernel
theorem d7_47 : decode prog_17_method_9_code 47 = .ok (.iconst 2, 1) := by decide +kernel
theorem d7_48 : decode prog_17_method_9_code 48 = .ok (.idiv, 1) := by decide +kernel
theorem d7_49 : decode prog_17_method_9_code 49 = .ok (.istore_n 1, 1) := by decide +kernel
theorem d7_50 : decode prog_17_method_9_code 50 = .ok (.goto (-43), 3) := by decide +kernel
theorem d7_53 : decode prog_17_method_9_code 53 = .ok (.aload_n 0, 1) := by decide +kernel
theorem d7_54 : decode prog_17_method_9_code 54 = .ok (.iload_n 2, 1) := by decide +kernel
theorem d7_55 : decode prog_17_method_9_code 55 = .ok (.iload_n 1, 1) := by decide +kernel
theorem d7_56 : decode prog_17_method_9_code 56 = .ok (.invokevirtual 30, 3) := by decide +kernel
theorem d7_59 : decode prog_17_method_9_code 59 = .ok (.return_, 1) := by decide +kernel
theorem pn_su0 : plainName "com/example/octopoll/octopoll/PageHeap" = true := by first | (simp [plainName, overriddenIn]; done) | decide +kernel
theorem ef_su0 (m : MethodId) (a0 : Addr) : entryFrame m #[(.ref a0), (.int (0 : Int32))] 3 = mkF m 0 #[.val (.ref a0), .val (.int (0 : Int32)), .unset] [] := by first | (simp [entryFrame, mkF, argsToLocals, Value.category]; done) | rfl
set_option maxRecDepth 65536 in
set_option maxHeartbeats 40000000 in
theorem rm_su0 (l : Launch) (Z : State) (av0 : Array Value) (hw : ∀ d ∈ tables_1, d.before av0 Z = true) (ws : List Jvm.Cond) (a0 : Addr) (ka : Addr) (ha : Addr) (pa : Addr) (kk : ClassId) (kh : ClassId) (kp : ClassId) (d0 : UInt64) (d1 : UInt64) (d2 : UInt64) (x0 : Int32) (x1 : Int32) (x2 : Int32) (y0 : Int32) (y1 : Int32) (y2 : Int32) (h0 : Heap) (n0 : Nat) (Z0 : n0 ≤ h0.size) (fi0 : Exa Z h0 a0 "com/example/octopoll/octopoll/PageHeap") (fi1 : Fld Z h0 a0 "com/example/octopoll/octopoll/PageHeap" "key" "[D" (.ref ka)) (fi2 : Fld Z h0 a0 "com/example/octopoll/octopoll/PageHeap" "heap" "[I" (.ref ha)) (fi3 : Fld Z h0 a0 "com/example/octopoll/octopoll/PageHeap" "position" "[I" (.ref pa)) (fi4 : Arv Z h0 ka kk .double (3 : Int32) [(.double d0), (.double d1), (.double d2)] (.double 0)) (fi5 : Arv Z h0 ha kh .int (3 : Int32) [(.int x0), (.int x1), (.int x2)] (.int (0 : Int32))) (fi6 : Arv Z h0 pa kp .int (3 : Int32) [(.int y0), (.int y1), (.int y2)] (.int (0 : Int32))) (g_ha : n0 ≤ ha) (g_pa : n0 ≤ pa) (ne_a0_ha : a0 ≠ ha) (ne_a0_pa : a0 ≠ pa) (ne_ha_pa : ha ≠ pa) (ne_a0_ka : a0 ≠ ka) (ne_ka_ha : ka ≠ ha) (ne_ka_pa : ka ≠ pa) (hx0 : own_bd x0) (hx1 : own_bd x1) (hx2 : own_bd x2) :
    MetFree l (⟨"com/example/octopoll/octopoll/PageHeap", "siftUp", "(I)V"⟩ : MethodName) (head1 (Jvm.Cond.code (⟨"com/example/octopoll/octopoll/PageHeap", "siftUp", "(I)V"⟩ : MethodName) prog_17_method_9_code 3 none :: ws) ({ frames := 1, cells := 0, slots := 0, locals := 16 } : Room)) (fun a U => a = #[(.ref a0), (.int (0 : Int32))] ∧ Z.Warmed39 U.vm ∧ U.heap = h0) (fun _ _ _ _ _ => True) (fun _ U o U' => ∃ v L, o = .returned v ∧ Q_su Z a0 (0 : Int32) ka ha pa kk kh kp d0 d1 d2 x0 x1 x2 y0 y1 y2 h0 n0 v U'.heap L ∧ FrameEnd U o U' L ({ frames := 1, cells := 0, slots := 0, locals := 16 } : Room).cells ({ frames := 1, cells := 0, slots := 0, locals := 16 } : Room).slots) := by
  refine MetFree.of_bodySF (plainFor_of_name pn_su0) hisR ?_
  intro p e s m args below meth c s₁ Bd hml0 hP hK
  obtain ⟨rfl, hZ, hh⟩ := hP
  have hx := Bd.exec
  have hby := Bd.bytes
  have hml : c.maxLocals = 3 := hml0
  have hown : s.vm.findClass "com/example/octopoll/octopoll/PageHeap" = some m.cls := findClass_of_methodNamed Bd.named
  have hnm := (name_of_methodNamed Bd.named Bd.method).1
  have X0 : Stand p l e ({ frames := 1, cells := 0, slots := 0, locals := 16 } : Room) s m #[(.ref a0), (.int (0 : Int32))] below meth c s₁ [] 0 0 := Stand.of_body Bd
  have e0 : s₁.heap = h0 := by rw [← hh, Bd.state]; rfl
  have N0 := Fr.nil n0
  have pre0 : Go p.tables e below (s₁.setTop (entryFrame m #[(.ref a0), (.int (0 : Int32))] 3)) s₁ (mkF m 0 #[.val (.ref a0), .val (.int (0 : Int32)), .unset] []) := fun t k => castTop (ef_su0 m a0) k
  have K0 : Keep h0 h0 [ha, pa] := Keep.refl _ _
  have pre1 : Go p.tables e below (s₁.setTop (entryFrame m #[(.ref a0), (.int (0 : Int32))] 3)) s₁ (mkF m 1 #[.val (.ref a0), .val (.int (0 : Int32)), .unset] [(.ref a0)]) := fun t k => pre0 t (by
      refine XS.aloadN X0.here hx rfl (hb hby d7_0) rfl rfl ?_
      exact k)
  obtain ⟨T2, X2, e2, st2⟩ := getF X0 hx hZ hown (host := "") (Or.inl (hw _ (List.mem_of_getElem? (i := 13) rfl))) Via.refl e0 fi2 (g := (mkF m 1 #[.val (.ref a0), .val (.int (0 : Int32)), .unset] [(.ref a0)])) rfl rfl (hb hby d7_1)
  have pre2 : Go p.tables e below (s₁.setTop (entryFrame m #[(.ref a0), (.int (0 : Int32))] 3)) T2 (mkF m 4 #[.val (.ref a0), .val (.int (0 : Int32)), .unset] [(.ref ha)]) := fun t k => pre1 t (st2 _ k)
  have pre3 : Go p.tables e below (s₁.setTop (entryFrame m #[(.ref a0), (.int (0 : Int32))] 3)) T2 (mkF m 5 #[.val (.ref a0), .val (.int (0 : Int32)), .unset] [(.int (0 : Int32)), (.ref ha)]) := fun t k => pre2 t (by
      refine XS.iloadN X2.here hx rfl (hb hby d7_4) rfl ?_
      exact k)
  obtain ⟨c4, Ar4, q4, S4, M4, H4, G4⟩ := (id fi5)
  have hin4 : ¬ ((0 : Int32) < 0 ∨ c4.slots.size ≤ ((0 : Int32)).toNatClampNeg) := inb_of S4 ⟨by decide, by decide⟩
  have pre4 : Go p.tables e below (s₁.setTop (entryFrame m #[(.ref a0), (.int (0 : Int32))] 3)) T2 (mkF m 6 #[.val (.ref a0), .val (.int (0 : Int32)), .unset] [(.int x0)]) := fun t k => pre3 t (X2.iaload hx (j := (0 : Int32)) (v := (.int x0)) (by rw [e2]; exact Ar4.1) (State.isArrayOf_alike hZ.alike Ar4.2.1) Ar4.2.2 hin4 (H4.at hin4 rfl) (g := (mkF m 5 #[.val (.ref a0), .val (.int (0 : Int32)), .unset] [(.int (0 : Int32)), (.ref ha)])) rfl rfl (hb hby d7_5) _ k)
  have pre5 : Go p.tables e below (s₁.setTop (entryFrame m #[(.ref a0), (.int (0 : Int32))] 3)) T2 (mkF m 56 #[.val (.ref a0), .val (.int (0 : Int32)), .val (.int x0)] [(.int (0 : Int32)), (.int x0), (.ref a0)]) := fun t k => pre4 t (by
      refine XS.istoreN X2.here hx rfl (hb hby d7_6) rfl (l' := #[.val (.ref a0), .val (.int (0 : Int32)), .val (.int x0)]) rfl ?_
      show Steps p.tables e below (T2.setTop (mkF m 7 #[.val (.ref a0), .val (.int (0 : Int32)), .val (.int x0)] [])) _
      refine XS.iloadN X2.here hx rfl (hb hby d7_7) rfl ?_
      show Steps p.tables e below (T2.setTop (mkF m 8 #[.val (.ref a0), .val (.int (0 : Int32)), .val (.int x0)] [(.int (0 : Int32))])) _
      refine XS.ifYes X2.here hx rfl (pc0 := 8) (pc' := 53) rfl (hb hby d7_8) rfl ((if0 _ _).trans (flt (by decide)).2.2.2) (by decide) (by decide) ?_
      show Steps p.tables e below (T2.setTop (mkF m 53 #[.val (.ref a0), .val (.int (0 : Int32)), .val (.int x0)] [])) _
      refine XS.aloadN X2.here hx rfl (hb hby d7_53) rfl rfl ?_
      show Steps p.tables e below (T2.setTop (mkF m 54 #[.val (.ref a0), .val (.int (0 : Int32)), .val (.int x0)] [(.ref a0)])) _
      refine XS.iloadN X2.here hx rfl (hb hby d7_54) rfl ?_
      show Steps p.tables e below (T2.setTop (mkF m 55 #[.val (.ref a0), .val (.int (0 : Int32)), .val (.int x0)] [(.int x0), (.ref a0)])) _
      refine XS.iloadN X2.here hx rfl (hb hby d7_55) rfl ?_
      exact k)
  obtain ⟨cq6, q6, q6'⟩ := fi0.cell
  obtain ⟨_, _, ⟨T6, L6, k6, n6⟩, -, X6, ⟨Lc6, hQ6, l6, y6, z6⟩, st6⟩ := own_private X2 hx (y := (⟨"com/example/octopoll/octopoll/PageHeap", "place", "(II)V"⟩ : MethodName)) hown (mvT hZ (hw _ (List.mem_of_getElem? (i := 33) rfl))) (mvT hZ (hw _ (List.mem_of_getElem? (i := 34) rfl))) (mvT hZ (hw _ (List.mem_of_getElem? (i := 24) rfl))) rfl (Cond.privateMethod_at (mvP hZ (hw _ (List.mem_of_getElem? (i := 35) rfl)) (args := #[]))) (mvT hZ (hw _ (List.mem_of_getElem? (i := 36) rfl))) (by decide) (backOf (W := 0) (rm_plc l Z av0 hw [] a0 x0 (0 : Int32) ha pa kh kp x0 x1 x2 y0 y1 y2 h0 n0 Z0 fi2 fi3 fi5 fi6 g_ha g_pa ne_a0_ha ne_a0_pa ne_ha_pa hx0 (by decide)) hZ (hw _ (List.mem_of_getElem? (i := 36) rfl)) (hw _ (List.mem_of_getElem? (i := 3) rfl)) (by decide) (by decide)) (a := a0) (by rw [e2]; exact q6) q6' (g := (mkF m 56 #[.val (.ref a0), .val (.int (0 : Int32)), .val (.int x0)] [(.int (0 : Int32)), (.int x0), (.ref a0)])) rfl (by rw [hml]; rfl) (argsL := [(.int x0), (.int (0 : Int32))]) (rest := []) (lenOf pd_0 rfl) rfl (by show 2 * 0 + _ ≤ _; exact Nat.le_of_eq rfl) (hb hby d7_56) (fun _ _ => ⟨rfl, e2, (by decide : 0 + 0 ≤ _), (by decide : 0 + 0 ≤ _)⟩)
  dsimp only [Pt.U, Pt.locs, Pt.cells, Pt.slots] at X6 l6 y6 z6 st6 hQ6
  subst l6 y6 z6
  obtain ⟨hv6, N6q, K6, fo6_0, fo6_1⟩ := hQ6
  have f7 : n0 ≤ T6.heap.size := Nat.le_trans Z0 K6.1
  have f8 : Exa Z T6.heap a0 "com/example/octopoll/octopoll/PageHeap" := fi0.keep K6
  have f9 : Fld Z T6.heap a0 "com/example/octopoll/octopoll/PageHeap" "key" "[D" (.ref ka) := fi1.keep K6 (ninS ne_a0_ha (ninS ne_a0_pa nin0))
  have f10 : Fld Z T6.heap a0 "com/example/octopoll/octopoll/PageHeap" "heap" "[I" (.ref ha) := fi2.keep K6 (ninS ne_a0_ha (ninS ne_a0_pa nin0))
  have f11 : Fld Z T6.heap a0 "com/example/octopoll/octopoll/PageHeap" "position" "[I" (.ref pa) := fi3.keep K6 (ninS ne_a0_ha (ninS ne_a0_pa nin0))
  have f12 : Arv Z T6.heap ka kk .double (3 : Int32) [(.double d0), (.double d1), (.double d2)] (.double 0) := fi4.keep K6 (ninS ne_ka_ha (ninS ne_ka_pa nin0))
  have f13 : Keep h0 T6.heap [ha, pa] := K0.trans K6 (allS (Or.inl (List.mem_of_getElem? (i := 0) rfl)) (allS (Or.inl (List.mem_of_getElem? (i := 1) rfl)) all0))
  subst hv6
  have N6 := Fr.app N0 N6q
  have pre6 : Go p.tables e below (s₁.setTop (entryFrame m #[(.ref a0), (.int (0 : Int32))] 3)) T6 (mkF m 59 #[.val (.ref a0), .val (.int (0 : Int32)), .val (.int x0)] []) := fun t k => pre5 t (st6 _ k)
  obtain ⟨fs, hr, hrun, hended, hW, hsame⟩ := X6.leave (v := none) (fun _ => rfl) (BodyLoose.notSynchronized Bd)
  refine ⟨_, _, pre6 _ ?_, hrun, hended, _, _, rfl, ?_, ⟨_, rfl⟩, hW, hsame.mono (Nat.le_of_ble_eq_true rfl) (Nat.le_of_ble_eq_true rfl)⟩
  · exact X6.returnOut hx Bd.returns (hb hby d7_59) hr
  · show Q_su Z a0 (0 : Int32) ka ha pa kk kh kp d0 d1 d2 x0 x1 x2 y0 y1 y2 h0 n0 _ T6.heap _
    exact ⟨x0, x1, x2, (own_u 0 x0 (0 : Int32) y0), (own_u 1 x0 (0 : Int32) y1), (own_u 2 x0 (0 : Int32) y2), rfl, N6, f13, fo6_0, fo6_1, (Or.inl rfl)⟩
theorem pn_su1 : plainName "com/example/octopoll/octopoll/PageHeap" = true := by first | (simp [plainName, overriddenIn]; done) | decide +kernel
theorem ef_su1 (m : MethodId) (a0 : Addr) : entryFrame m #[(.ref a0), (.int (1 : Int32))] 3 = mkF m 0 #[.val (.ref a0), .val (.int (1 : Int32)), .unset] [] := by first | (simp [entryFrame, mkF, argsToLocals, Value.category]; done) | rfl
set_option maxRecDepth 65536 in
set_option maxHeartbeats 40000000 in
theorem rm_su1 (l : Launch) (Z : State) (av0 : Array Value) (hw : ∀ d ∈ tables_1, d.before av0 Z = true) (ws : List Jvm.Cond) (a0 : Addr) (ka : Addr) (ha : Addr) (pa : Addr) (kk : ClassId) (kh : ClassId) (kp : ClassId) (d0 : UInt64) (d1 : UInt64) (d2 : UInt64) (x0 : Int32) (x1 : Int32) (x2 : Int32) (y0 : Int32) (y1 : Int32) (y2 : Int32) (h0 : Heap) (n0 : Nat) (Z0 : n0 ≤ h0.size) (fi0 : Exa Z h0 a0 "com/example/octopoll/octopoll/PageHeap") (fi1 : Fld Z h0 a0 "com/example/octopoll/octopoll/PageHeap" "key" "[D" (.ref ka)) (fi2 : Fld Z h0 a0 "com/example/octopoll/octopoll/PageHeap" "heap" "[I" (.ref ha)) (fi3 : Fld Z h0 a0 "com/example/octopoll/octopoll/PageHeap" "position" "[I" (.ref pa)) (fi4 : Arv Z h0 ka kk .double (3 : Int32) [(.double d0), (.double d1), (.double d2)] (.double 0)) (fi5 : Arv Z h0 ha kh .int (3 : Int32) [(.int x0), (.int x1), (.int x2)] (.int (0 : Int32))) (fi6 : Arv Z h0 pa kp .int (3 : Int32) [(.int y0), (.int y1), (.int y2)] (.int (0 : Int32))) (g_ha : n0 ≤ ha) (g_pa : n0 ≤ pa) (ne_a0_ha : a0 ≠ ha) (ne_a0_pa : a0 ≠ pa) (ne_ha_pa : ha ≠ pa) (ne_a0_ka : a0 ≠ ka) (ne_ka_ha : ka ≠ ha) (ne_ka_pa : ka ≠ pa) (hx0 : own_bd x0) (hx1 : own_bd x1) (hx2 : own_bd x2) :
    MetFree l (⟨"com/example/octopoll/octopoll/PageHeap", "siftUp", "(I)V"⟩ : MethodName) (head1 (Jvm.Cond.code (⟨"com/example/octopoll/octopoll/PageHeap", "siftUp", "(I)V"⟩ : MethodName) prog_17_method_9_code 3 none :: ws) ({ frames := 1, cells := 0, slots := 0, locals := 16 } : Room)) (fun a U => a = #[(.ref a0), (.int (1 : Int32))] ∧ Z.Warmed39 U.vm ∧ U.heap = h0) (fun _ _ _ _ _ => True) (fun _ U o U' => ∃ v L, o = .returned v ∧ Q_su Z a0 (1 : Int32) ka ha pa kk kh kp d0 d1 d2 x0 x1 x2 y0 y1 y2 h0 n0 v U'.heap L ∧ FrameEnd U o U' L ({ frames := 1, cells := 0, slots := 0, locals := 16 } : Room).cells ({ frames := 1, cells := 0, slots := 0, locals := 16 } : Room).slots) := by
  refine MetFree.of_bodySF (plainFor_of_name pn_su1) hisR ?_
  intro p e s m args below meth c s₁ Bd hml0 hP hK
  obtain ⟨rfl, hZ, hh⟩ := hP
  have hx := Bd.exec
  have hby := Bd.bytes
  have hml : c.maxLocals = 3 := hml0
  have hown : s.vm.findClass "com/example/octopoll/octopoll/PageHeap" = some m.cls := findClass_of_methodNamed Bd.named
  have hnm := (name_of_methodNamed Bd.named Bd.method).1
  have X0 : Stand p l e ({ frames := 1, cells := 0, slots := 0, locals := 16 } : Room) s m #[(.ref a0), (.int (1 : Int32))] below meth c s₁ [] 0 0 := Stand.of_body Bd
  have e0 : s₁.heap = h0 := by rw [← hh, Bd.state]; rfl
  have N0 := Fr.nil n0
  have pre0 : Go p.tables e below (s₁.setTop (entryFrame m #[(.ref a0), (.int (1 : Int32))] 3)) s₁ (mkF m 0 #[.val (.ref a0), .val (.int (1 : Int32)), .unset] []) := fun t k => castTop (ef_su1 m a0) k
  have K0 : Keep h0 h0 [ha, pa] := Keep.refl _ _
  have pre1 : Go p.tables e below (s₁.setTop (entryFrame m #[(.ref a0), (.int (1 : Int32))] 3)) s₁ (mkF m 1 #[.val (.ref a0), .val (.int (1 : Int32)), .unset] [(.ref a0)]) := fun t k => pre0 t (by
      refine XS.aloadN X0.here hx rfl (hb hby d7_0) rfl rfl ?_
      exact k)
  obtain ⟨T2, X2, e2, st2⟩ := getF X0 hx hZ hown (host := "") (Or.inl (hw _ (List.mem_of_getElem? (i := 13) rfl))) Via.refl e0 fi2 (g := (mkF m 1 #[.val (.ref a0), .val (.int (1 : Int32)), .unset] [(.ref a0)])) rfl rfl (hb hby d7_1)
  have pre2 : Go p.tables e below (s₁.setTop (entryFrame m #[(.ref a0), (.int (1 : Int32))] 3)) T2 (mkF m 4 #[.val (.ref a0), .val (.int (1 : Int32)), .unset] [(.ref ha)]) := fun t k => pre1 t (st2 _ k)
  have pre3 : Go p.tables e below (s₁.setTop (entryFrame m #[(.ref a0), (.int (1 : Int32))] 3)) T2 (mkF m 5 #[.val (.ref a0), .val (.int (1 : Int32)), .unset] [(.int (1 : Int32)), (.ref ha)]) := fun t k => pre2 t (by
      refine XS.iloadN X2.here hx rfl (hb hby d7_4) rfl ?_
      exact k)
  obtain ⟨c4, Ar4, q4, S4, M4, H4, G4⟩ := (id fi5)
  have hin4 : ¬ ((1 : Int32) < 0 ∨ c4.slots.size ≤ ((1 : Int32)).toNatClampNeg) := inb_of S4 ⟨by decide, by decide⟩
  have pre4 : Go p.tables e below (s₁.setTop (entryFrame m #[(.ref a0), (.int (1 : Int32))] 3)) T2 (mkF m 6 #[.val (.ref a0), .val (.int (1 : Int32)), .unset] [(.int x1)]) := fun t k => pre3 t (X2.iaload hx (j := (1 : Int32)) (v := (.int x1)) (by rw [e2]; exact Ar4.1) (State.isArrayOf_alike hZ.alike Ar4.2.1) Ar4.2.2 hin4 (H4.at hin4 rfl) (g := (mkF m 5 #[.val (.ref a0), .val (.int (1 : Int32)), .unset] [(.int (1 : Int32)), (.ref ha)])) rfl rfl (hb hby d7_5) _ k)
  have pre5 : Go p.tables e below (s₁.setTop (entryFrame m #[(.ref a0), (.int (1 : Int32))] 3)) T2 (mkF m 14 #[.val (.ref a0), .val (.int (1 : Int32)), .val (.int x1)] [(.ref a0), (.int x1), (.ref a0)]) := fun t k => pre4 t (by
      refine XS.istoreN X2.here hx rfl (hb hby d7_6) rfl (l' := #[.val (.ref a0), .val (.int (1 : Int32)), .val (.int x1)]) rfl ?_
      show Steps p.tables e below (T2.setTop (mkF m 7 #[.val (.ref a0), .val (.int (1 : Int32)), .val (.int x1)] [])) _
      refine XS.iloadN X2.here hx rfl (hb hby d7_7) rfl ?_
      show Steps p.tables e below (T2.setTop (mkF m 8 #[.val (.ref a0), .val (.int (1 : Int32)), .val (.int x1)] [(.int (1 : Int32))])) _
      refine XS.ifNo X2.here hx rfl (hb hby d7_8) rfl ((if0 _ _).trans (tlt (by decide)).2.2.2) ?_
      show Steps p.tables e below (T2.setTop (mkF m 11 #[.val (.ref a0), .val (.int (1 : Int32)), .val (.int x1)] [])) _
      refine XS.aloadN X2.here hx rfl (hb hby d7_11) rfl rfl ?_
      show Steps p.tables e below (T2.setTop (mkF m 12 #[.val (.ref a0), .val (.int (1 : Int32)), .val (.int x1)] [(.ref a0)])) _
      refine XS.iloadN X2.here hx rfl (hb hby d7_12) rfl ?_
      show Steps p.tables e below (T2.setTop (mkF m 13 #[.val (.ref a0), .val (.int (1 : Int32)), .val (.int x1)] [(.int x1), (.ref a0)])) _
      refine XS.aloadN X2.here hx rfl (hb hby d7_13) rfl rfl ?_
      exact k)
  obtain ⟨T6, X6, e6, st6⟩ := getF X2 hx hZ hown (host := "") (Or.inl (hw _ (List.mem_of_getElem? (i := 13) rfl))) Via.refl e2 fi2 (g := (mkF m 14 #[.val (.ref a0), .val (.int (1 : Int32)), .val (.int x1)] [(.ref a0), (.int x1), (.ref a0)])) rfl rfl (hb hby d7_14)
  have pre6 : Go p.tables e below (s₁.setTop (entryFrame m #[(.ref a0), (.int (1 : Int32))] 3)) T6 (mkF m 17 #[.val (.ref a0), .val (.int (1 : Int32)), .val (.int x1)] [(.ref ha), (.int x1), (.ref a0)]) := fun t k => pre5 t (st6 _ k)
  have pre7 : Go p.tables e below (s₁.setTop (entryFrame m #[(.ref a0), (.int (1 : Int32))] 3)) T6 (mkF m 22 #[.val (.ref a0), .val (.int (1 : Int32)), .val (.int x1)] [(.int (0 : Int32)), (.ref ha), (.int x1), (.ref a0)]) := fun t k => pre6 t (by
      refine XS.iloadN X6.here hx rfl (hb hby d7_17) rfl ?_
      show Steps p.tables e below (T6.setTop (mkF m 18 #[.val (.ref a0), .val (.int (1 : Int32)), .val (.int x1)] [(.int (1 : Int32)), (.ref ha), (.int x1), (.ref a0)])) _
      refine XS.iconst X6.here hx rfl (hb hby d7_18) ?_
      show Steps p.tables e below (T6.setTop (mkF m 19 #[.val (.ref a0), .val (.int (1 : Int32)), .val (.int x1)] [(.int (1 : Int32)), (.int (1 : Int32)), (.ref ha), (.int x1), (.ref a0)])) _
      refine XS.isub X6.here hx rfl (hb hby d7_19) rfl ?_
      show Steps p.tables e below (T6.setTop (mkF m 20 #[.val (.ref a0), .val (.int (1 : Int32)), .val (.int x1)] [(.int (0 : Int32)), (.ref ha), (.int x1), (.ref a0)])) _
      refine XS.iconst X6.here hx rfl (hb hby d7_20) ?_
      show Steps p.tables e below (T6.setTop (mkF m 21 #[.val (.ref a0), .val (.int (1 : Int32)), .val (.int x1)] [(.int (2 : Int32)), (.int (0 : Int32)), (.ref ha), (.int x1), (.ref a0)])) _
      refine XS.idiv X6.here hx rfl (hb hby d7_21) rfl (by decide) ?_
      exact k)
  obtain ⟨c8, Ar8, q8, S8, M8, H8, G8⟩ := (id fi5)
  have hin8 : ¬ ((0 : Int32) < 0 ∨ c8.slots.size ≤ ((0 : Int32)).toNatClampNeg) := inb_of S8 ⟨by decide, by decide⟩
  have pre8 : Go p.tables e below (s₁.setTop (entryFrame m #[(.ref a0), (.int (1 : Int32))] 3)) T6 (mkF m 23 #[.val (.ref a0), .val (.int (1 : Int32)), .val (.int x1)] [(.int x0), (.int x1), (.ref a0)]) := fun t k => pre7 t (X6.iaload hx (j := (0 : Int32)) (v := (.int x0)) (by rw [e6]; exact Ar8.1) (State.isArrayOf_alike hZ.alike Ar8.2.1) Ar8.2.2 hin8 (H8.at hin8 rfl) (g := (mkF m 22 #[.val (.ref a0), .val (.int (1 : Int32)), .val (.int x1)] [(.int (0 : Int32)), (.ref ha), (.int x1), (.ref a0)])) rfl rfl (hb hby d7_22) _ k)
  obtain ⟨cq9, q9, q9'⟩ := fi0.cell
  obtain ⟨_, _, ⟨T9, L9, k9, n9⟩, -, X9, ⟨Lc9, hQ9, l9, y9, z9⟩, st9⟩ := own_private X6 hx (y := (⟨"com/example/octopoll/octopoll/PageHeap", "less", "(II)Z"⟩ : MethodName)) hown (mvT hZ (hw _ (List.mem_of_getElem? (i := 41) rfl))) (mvT hZ (hw _ (List.mem_of_getElem? (i := 42) rfl))) (mvT hZ (hw _ (List.mem_of_getElem? (i := 24) rfl))) rfl (Cond.privateMethod_at (mvP hZ (hw _ (List.mem_of_getElem? (i := 43) rfl)) (args := #[]))) (mvT hZ (hw _ (List.mem_of_getElem? (i := 44) rfl))) (by decide) (backOf (W := 0) (rm_les l Z av0 hw [] a0 x1 x0 ka kk d0 d1 d2 h0 n0 Z0 fi1 fi4 hx1 hx0) hZ (hw _ (List.mem_of_getElem? (i := 44) rfl)) (hw _ (List.mem_of_getElem? (i := 3) rfl)) (by decide) (by decide)) (a := a0) (by rw [e6]; exact q9) q9' (g := (mkF m 23 #[.val (.ref a0), .val (.int (1 : Int32)), .val (.int x1)] [(.int x0), (.int x1), (.ref a0)])) rfl (by rw [hml]; rfl) (argsL := [(.int x1), (.int x0)]) (rest := []) (lenOf pd_1 rfl) rfl (by show 2 * 0 + _ ≤ _; exact Nat.le_of_eq rfl) (hb hby d7_23) (fun _ _ => ⟨rfl, e6, (by decide : 0 + 0 ≤ _), (by decide : 0 + 0 ≤ _)⟩)
  dsimp only [Pt.U, Pt.locs, Pt.cells, Pt.slots] at X9 l9 y9 z9 st9 hQ9
  subst l9 y9 z9
  obtain ⟨zl9, hv9, N9q, K9⟩ := hQ9
  have f10 : n0 ≤ T9.heap.size := Nat.le_trans Z0 K9.1
  have f11 : Exa Z T9.heap a0 "com/example/octopoll/octopoll/PageHeap" := fi0.keep K9
  have f12 : Fld Z T9.heap a0 "com/example/octopoll/octopoll/PageHeap" "key" "[D" (.ref ka) := fi1.keep K9 nin0
  have f13 : Fld Z T9.heap a0 "com/example/octopoll/octopoll/PageHeap" "heap" "[I" (.ref ha) := fi2.keep K9 nin0
  have f14 : Fld Z T9.heap a0 "com/example/octopoll/octopoll/PageHeap" "position" "[I" (.ref pa) := fi3.keep K9 nin0
  have f15 : Arv Z T9.heap ka kk .double (3 : Int32) [(.double d0), (.double d1), (.double d2)] (.double 0) := fi4.keep K9 nin0
  have f16 : Arv Z T9.heap ha kh .int (3 : Int32) [(.int x0), (.int x1), (.int x2)] (.int (0 : Int32)) := fi5.keep K9 nin0
  have f17 : Arv Z T9.heap pa kp .int (3 : Int32) [(.int y0), (.int y1), (.int y2)] (.int (0 : Int32)) := fi6.keep K9 nin0
  have f18 : Keep h0 T9.heap [ha, pa] := K0.trans K9 all0
  subst hv9
  have N9 := Fr.app N0 N9q
  have pre9 : Go p.tables e below (s₁.setTop (entryFrame m #[(.ref a0), (.int (1 : Int32))] 3)) T9 (mkF m 26 #[.val (.ref a0), .val (.int (1 : Int32)), .val (.int x1)] [(.int zl9)]) := fun t k => pre8 t (st9 _ k)
  by_cases hc19 : zl9 = (0 : Int32)
  · -- hc19: True
    have pre20 : Go p.tables e below (s₁.setTop (entryFrame m #[(.ref a0), (.int (1 : Int32))] 3)) T9 (mkF m 56 #[.val (.ref a0), .val (.int (1 : Int32)), .val (.int x1)] [(.int (1 : Int32)), (.int x1), (.ref a0)]) := fun t k => pre9 t (by
        refine XS.ifYes X9.here hx rfl (pc0 := 26) (pc' := 53) rfl (hb hby d7_26) rfl ((if0 _ _).trans (teq hc19).1) (by decide) (by decide) ?_
        show Steps p.tables e below (T9.setTop (mkF m 53 #[.val (.ref a0), .val (.int (1 : Int32)), .val (.int x1)] [])) _
        refine XS.aloadN X9.here hx rfl (hb hby d7_53) rfl rfl ?_
        show Steps p.tables e below (T9.setTop (mkF m 54 #[.val (.ref a0), .val (.int (1 : Int32)), .val (.int x1)] [(.ref a0)])) _
        refine XS.iloadN X9.here hx rfl (hb hby d7_54) rfl ?_
        show Steps p.tables e below (T9.setTop (mkF m 55 #[.val (.ref a0), .val (.int (1 : Int32)), .val (.int x1)] [(.int x1), (.ref a0)])) _
        refine XS.iloadN X9.here hx rfl (hb hby d7_55) rfl ?_
        exact k)
    obtain ⟨cq21, q21, q21'⟩ := f11.cell
    obtain ⟨_, _, ⟨T21, L21, k21, n21⟩, -, X21, ⟨Lc21, hQ21, l21, y21, z21⟩, st21⟩ := own_private X9 hx (y := (⟨"com/example/octopoll/octopoll/PageHeap", "place", "(II)V"⟩ : MethodName)) hown (mvT hZ (hw _ (List.mem_of_getElem? (i := 33) rfl))) (mvT hZ (hw _ (List.mem_of_getElem? (i := 34) rfl))) (mvT hZ (hw _ (List.mem_of_getElem? (i := 24) rfl))) rfl (Cond.privateMethod_at (mvP hZ (hw _ (List.mem_of_getElem? (i := 35) rfl)) (args := #[]))) (mvT hZ (hw _ (List.mem_of_getElem? (i := 36) rfl))) (by decide) (backOf (W := 0) (rm_plc l Z av0 hw [] a0 x1 (1 : Int32) ha pa kh kp x0 x1 x2 y0 y1 y2 T9.heap n0 f10 f13 f14 f16 f17 g_ha g_pa ne_a0_ha ne_a0_pa ne_ha_pa hx1 (by decide)) hZ (hw _ (List.mem_of_getElem? (i := 36) rfl)) (hw _ (List.mem_of_getElem? (i := 3) rfl)) (by decide) (by decide)) (a := a0) q21 q21' (g := (mkF m 56 #[.val (.ref a0), .val (.int (1 : Int32)), .val (.int x1)] [(.int (1 : Int32)), (.int x1), (.ref a0)])) rfl (by rw [hml]; rfl) (argsL := [(.int x1), (.int (1 : Int32))]) (rest := []) (lenOf pd_0 rfl) rfl (by show 2 * 0 + _ ≤ _; exact Nat.le_of_eq rfl) (hb hby d7_56) (fun _ _ => ⟨rfl, rfl, (by decide : 0 + 0 ≤ _), (by decide : 0 + 0 ≤ _)⟩)
    dsimp only [Pt.U, Pt.locs, Pt.cells, Pt.slots] at X21 l21 y21 z21 st21 hQ21
    subst l21 y21 z21
    obtain ⟨hv21, N21q, K21, fo21_0, fo21_1⟩ := hQ21
    have f22 : n0 ≤ T21.heap.size := Nat.le_trans f10 K21.1
    have f23 : Exa Z T21.heap a0 "com/example/octopoll/octopoll/PageHeap" := f11.keep K21
    have f24 : Fld Z T21.heap a0 "com/example/octopoll/octopoll/PageHeap" "key" "[D" (.ref ka) := f12.keep K21 (ninS ne_a0_ha (ninS ne_a0_pa nin0))
    have f25 : Fld Z T21.heap a0 "com/example/octopoll/octopoll/PageHeap" "heap" "[I" (.ref ha) := f13.keep K21 (ninS ne_a0_ha (ninS ne_a0_pa nin0))
    have f26 : Fld Z T21.heap a0 "com/example/octopoll/octopoll/PageHeap" "position" "[I" (.ref pa) := f14.keep K21 (ninS ne_a0_ha (ninS ne_a0_pa nin0))
    have f27 : Arv Z T21.heap ka kk .double (3 : Int32) [(.double d0), (.double d1), (.double d2)] (.double 0) := f15.keep K21 (ninS ne_ka_ha (ninS ne_ka_pa nin0))
    have f28 : Keep h0 T21.heap [ha, pa] := f18.trans K21 (allS (Or.inl (List.mem_of_getElem? (i := 0) rfl)) (allS (Or.inl (List.mem_of_getElem? (i := 1) rfl)) all0))
    subst hv21
    have N21 := Fr.app N9 N21q
    have pre21 : Go p.tables e below (s₁.setTop (entryFrame m #[(.ref a0), (.int (1 : Int32))] 3)) T21 (mkF m 59 #[.val (.ref a0), .val (.int (1 : Int32)), .val (.int x1)] []) := fun t k => pre20 t (st21 _ k)
    obtain ⟨fs, hr, hrun, hended, hW, hsame⟩ := X21.leave (v := none) (fun _ => rfl) (BodyLoose.notSynchronized Bd)
    refine ⟨_, _, pre21 _ ?_, hrun, hended, _, _, rfl, ?_, ⟨_, rfl⟩, hW, hsame.mono (Nat.le_of_ble_eq_true rfl) (Nat.le_of_ble_eq_true rfl)⟩
    · exact X21.returnOut hx Bd.returns (hb hby d7_59) hr
    · show Q_su Z a0 (1 : Int32) ka ha pa kk kh kp d0 d1 d2 x0 x1 x2 y0 y1 y2 h0 n0 _ T21.heap _
      exact ⟨x0, x1, x2, (own_u 0 x1 (1 : Int32) y0), (own_u 1 x1 (1 : Int32) y1), (own_u 2 x1 (1 : Int32) y2), rfl, N21, f28, fo21_0, fo21_1, (Or.inl rfl)⟩
  · -- hc19: False
    have pre29 : Go p.tables e below (s₁.setTop (entryFrame m #[(.ref a0), (.int (1 : Int32))] 3)) T9 (mkF m 31 #[.val (.ref a0), .val (.int (1 : Int32)), .val (.int x1)] [(.ref a0), (.ref a0)]) := fun t k => pre9 t (by
        refine XS.ifNo X9.here hx rfl (hb hby d7_26) rfl ((if0 _ _).trans (feq hc19).1) ?_
        show Steps p.tables e below (T9.setTop (mkF m 29 #[.val (.ref a0), .val (.int (1 : Int32)), .val (.int x1)] [])) _
        refine XS.aloadN X9.here hx rfl (hb hby d7_29) rfl rfl ?_
        show Steps p.tables e below (T9.setTop (mkF m 30 #[.val (.ref a0), .val (.int (1 : Int32)), .val (.int x1)] [(.ref a0)])) _
        refine XS.aloadN X9.here hx rfl (hb hby d7_30) rfl rfl ?_
        exact k)
    obtain ⟨T30, X30, e30, st30⟩ := getF X9 hx hZ hown (host := "") (Or.inl (hw _ (List.mem_of_getElem? (i := 13) rfl))) Via.refl rfl f13 (g := (mkF m 31 #[.val (.ref a0), .val (.int (1 : Int32)), .val (.int x1)] [(.ref a0), (.ref a0)])) rfl rfl (hb hby d7_31)
    have pre30 : Go p.tables e below (s₁.setTop (entryFrame m #[(.ref a0), (.int (1 : Int32))] 3)) T30 (mkF m 34 #[.val (.ref a0), .val (.int (1 : Int32)), .val (.int x1)] [(.ref ha), (.ref a0)]) := fun t k => pre29 t (st30 _ k)
    have pre31 : Go p.tables e below (s₁.setTop (entryFrame m #[(.ref a0), (.int (1 : Int32))] 3)) T30 (mkF m 39 #[.val (.ref a0), .val (.int (1 : Int32)), .val (.int x1)] [(.int (0 : Int32)), (.ref ha), (.ref a0)]) := fun t k => pre30 t (by
        refine XS.iloadN X30.here hx rfl (hb hby d7_34) rfl ?_
        show Steps p.tables e below (T30.setTop (mkF m 35 #[.val (.ref a0), .val (.int (1 : Int32)), .val (.int x1)] [(.int (1 : Int32)), (.ref ha), (.ref a0)])) _
        refine XS.iconst X30.here hx rfl (hb hby d7_35) ?_
        show Steps p.tables e below (T30.setTop (mkF m 36 #[.val (.ref a0), .val (.int (1 : Int32)), .val (.int x1)] [(.int (1 : Int32)), (.int (1 : Int32)), (.ref ha), (.ref a0)])) _
        refine XS.isub X30.here hx rfl (hb hby d7_36) rfl ?_
        show Steps p.tables e below (T30.setTop (mkF m 37 #[.val (.ref a0), .val (.int (1 : Int32)), .val (.int x1)] [(.int (0 : Int32)), (.ref ha), (.ref a0)])) _
        refine XS.iconst X30.here hx rfl (hb hby d7_37) ?_
        show Steps p.tables e below (T30.setTop (mkF m 38 #[.val (.ref a0), .val (.int (1 : Int32)), .val (.int x1)] [(.int (2 : Int32)), (.int (0 : Int32)), (.ref ha), (.ref a0)])) _
        refine XS.idiv X30.here hx rfl (hb hby d7_38) rfl (by decide) ?_
        exact k)
    obtain ⟨c32, Ar32, q32, S32, M32, H32, G32⟩ := (id f16)
    have hin32 : ¬ ((0 : Int32) < 0 ∨ c32.slots.size ≤ ((0 : Int32)).toNatClampNeg) := inb_of S32 ⟨by decide, by decide⟩
    have pre32 : Go p.tables e below (s₁.setTop (entryFrame m #[(.ref a0), (.int (1 : Int32))] 3)) T30 (mkF m 40 #[.val (.ref a0), .val (.int (1 : Int32)), .val (.int x1)] [(.int x0), (.ref a0)]) := fun t k => pre31 t (X30.iaload hx (j := (0 : Int32)) (v := (.int x0)) (by rw [e30]; exact Ar32.1) (State.isArrayOf_alike hZ.alike Ar32.2.1) Ar32.2.2 hin32 (H32.at hin32 rfl) (g := (mkF m 39 #[.val (.ref a0), .val (.int (1 : Int32)), .val (.int x1)] [(.int (0 : Int32)), (.ref ha), (.ref a0)])) rfl rfl (hb hby d7_39) _ k)
    have pre33 : Go p.tables e below (s₁.setTop (entryFrame m #[(.ref a0), (.int (1 : Int32))] 3)) T30 (mkF m 41 #[.val (.ref a0), .val (.int (1 : Int32)), .val (.int x1)] [(.int (1 : Int32)), (.int x0), (.ref a0)]) := fun t k => pre32 t (by
        refine XS.iloadN X30.here hx rfl (hb hby d7_40) rfl ?_
        exact k)
    obtain ⟨cq34, q34, q34'⟩ := f11.cell
    obtain ⟨_, _, ⟨T34, L34, k34, n34⟩, -, X34, ⟨Lc34, hQ34, l34, y34, z34⟩, st34⟩ := own_private X30 hx (y := (⟨"com/example/octopoll/octopoll/PageHeap", "place", "(II)V"⟩ : MethodName)) hown (mvT hZ (hw _ (List.mem_of_getElem? (i := 33) rfl))) (mvT hZ (hw _ (List.mem_of_getElem? (i := 34) rfl))) (mvT hZ (hw _ (List.mem_of_getElem? (i := 24) rfl))) rfl (Cond.privateMethod_at (mvP hZ (hw _ (List.mem_of_getElem? (i := 35) rfl)) (args := #[]))) (mvT hZ (hw _ (List.mem_of_getElem? (i := 36) rfl))) (by decide) (backOf (W := 0) (rm_plc l Z av0 hw [] a0 x0 (1 : Int32) ha pa kh kp x0 x1 x2 y0 y1 y2 T9.heap n0 f10 f13 f14 f16 f17 g_ha g_pa ne_a0_ha ne_a0_pa ne_ha_pa hx0 (by decide)) hZ (hw _ (List.mem_of_getElem? (i := 36) rfl)) (hw _ (List.mem_of_getElem? (i := 3) rfl)) (by decide) (by decide)) (a := a0) (by rw [e30]; exact q34) q34' (g := (mkF m 41 #[.val (.ref a0), .val (.int (1 : Int32)), .val (.int x1)] [(.int (1 : Int32)), (.int x0), (.ref a0)])) rfl (by rw [hml]; rfl) (argsL := [(.int x0), (.int (1 : Int32))]) (rest := []) (lenOf pd_0 rfl) rfl (by show 2 * 0 + _ ≤ _; exact Nat.le_of_eq rfl) (hb hby d7_41) (fun _ _ => ⟨rfl, e30, (by decide : 0 + 0 ≤ _), (by decide : 0 + 0 ≤ _)⟩)
    dsimp only [Pt.U, Pt.locs, Pt.cells, Pt.slots] at X34 l34 y34 z34 st34 hQ34
    subst l34 y34 z34
    obtain ⟨hv34, N34q, K34, fo34_0, fo34_1⟩ := hQ34
    have f35 : n0 ≤ T34.heap.size := Nat.le_trans f10 K34.1
    have f36 : Exa Z T34.heap a0 "com/example/octopoll/octopoll/PageHeap" := f11.keep K34
    have f37 : Fld Z T34.heap a0 "com/example/octopoll/octopoll/PageHeap" "key" "[D" (.ref ka) := f12.keep K34 (ninS ne_a0_ha (ninS ne_a0_pa nin0))
    have f38 : Fld Z T34.heap a0 "com/example/octopoll/octopoll/PageHeap" "heap" "[I" (.ref ha) := f13.keep K34 (ninS ne_a0_ha (ninS ne_a0_pa nin0))
    have f39 : Fld Z T34.heap a0 "com/example/octopoll/octopoll/PageHeap" "position" "[I" (.ref pa) := f14.keep K34 (ninS ne_a0_ha (ninS ne_a0_pa nin0))
    have f40 : Arv Z T34.heap ka kk .double (3 : Int32) [(.double d0), (.double d1), (.double d2)] (.double 0) := f15.keep K34 (ninS ne_ka_ha (ninS ne_ka_pa nin0))
    have f41 : Keep h0 T34.heap [ha, pa] := f18.trans K34 (allS (Or.inl (List.mem_of_getElem? (i := 0) rfl)) (allS (Or.inl (List.mem_of_getElem? (i := 1) rfl)) all0))
    subst hv34
    have N34 := Fr.app N9 N34q
    have pre34 : Go p.tables e below (s₁.setTop (entryFrame m #[(.ref a0), (.int (1 : Int32))] 3)) T34 (mkF m 44 #[.val (.ref a0), .val (.int (1 : Int32)), .val (.int x1)] []) := fun t k => pre33 t (st34 _ k)
    have pre42 : Go p.tables e below (s₁.setTop (entryFrame m #[(.ref a0), (.int (1 : Int32))] 3)) T34 (mkF m 56 #[.val (.ref a0), .val (.int (0 : Int32)), .val (.int x1)] [(.int (0 : Int32)), (.int x1), (.ref a0)]) := fun t k => pre34 t (by
        refine XS.iloadN X34.here hx rfl (hb hby d7_44) rfl ?_
        show Steps p.tables e below (T34.setTop (mkF m 45 #[.val (.ref a0), .val (.int (1 : Int32)), .val (.int x1)] [(.int (1 : Int32))])) _
        refine XS.iconst X34.here hx rfl (hb hby d7_45) ?_
        show Steps p.tables e below (T34.setTop (mkF m 46 #[.val (.ref a0), .val (.int (1 : Int32)), .val (.int x1)] [(.int (1 : Int32)), (.int (1 : Int32))])) _
        refine XS.isub X34.here hx rfl (hb hby d7_46) rfl ?_
        show Steps p.tables e below (T34.setTop (mkF m 47 #[.val (.ref a0), .val (.int (1 : Int32)), .val (.int x1)] [(.int (0 : Int32))])) _
        refine XS.iconst X34.here hx rfl (hb hby d7_47) ?_
        show Steps p.tables e below (T34.setTop (mkF m 48 #[.val (.ref a0), .val (.int (1 : Int32)), .val (.int x1)] [(.int (2 : Int32)), (.int (0 : Int32))])) _
        refine XS.idiv X34.here hx rfl (hb hby d7_48) rfl (by decide) ?_
        show Steps p.tables e below (T34.setTop (mkF m 49 #[.val (.ref a0), .val (.int (1 : Int32)), .val (.int x1)] [(.int (0 : Int32))])) _
        refine XS.istoreN X34.here hx rfl (hb hby d7_49) rfl (l' := #[.val (.ref a0), .val (.int (0 : Int32)), .val (.int x1)]) rfl ?_
        show Steps p.tables e below (T34.setTop (mkF m 50 #[.val (.ref a0), .val (.int (0 : Int32)), .val (.int x1)] [])) _
        refine XS.goto X34.here hx rfl (pc0 := 50) (pc' := 7) rfl (hb hby d7_50) (by decide) (by decide) ?_
        show Steps p.tables e below (T34.setTop (mkF m 7 #[.val (.ref a0), .val (.int (0 : Int32)), .val (.int x1)] [])) _
        refine XS.iloadN X34.here hx rfl (hb hby d7_7) rfl ?_
        show Steps p.tables e below (T34.setTop (mkF m 8 #[.val (.ref a0), .val (.int (0 : Int32)), .val (.int x1)] [(.int (0 : Int32))])) _
        refine XS.ifYes X34.here hx rfl (pc0 := 8) (pc' := 53) rfl (hb hby d7_8) rfl ((if0 _ _).trans (flt (by decide)).2.2.2) (by decide) (by decide) ?_
        show Steps p.tables e below (T34.setTop (mkF m 53 #[.val (.ref a0), .val (.int (0 : Int32)), .val (.int x1)] [])) _
        refine XS.aloadN X34.here hx rfl (hb hby d7_53) rfl rfl ?_
        show Steps p.tables e below (T34.setTop (mkF m 54 #[.val (.ref a0), .val (.int (0 : Int32)), .val (.int x1)] [(.ref a0)])) _
        refine XS.iloadN X34.here hx rfl (hb hby d7_54) rfl ?_
        show Steps p.tables e below (T34.setTop (mkF m 55 #[.val (.ref a0), .val (.int (0 : Int32)), .val (.int x1)] [(.int x1), (.ref a0)])) _
        refine XS.iloadN X34.here hx rfl (hb hby d7_55) rfl ?_
        exact k)
    obtain ⟨cq43, q43, q43'⟩ := f36.cell
    obtain ⟨_, _, ⟨T43, L43, k43, n43⟩, -, X43, ⟨Lc43, hQ43, l43, y43, z43⟩, st43⟩ := own_private X34 hx (y := (⟨"com/example/octopoll/octopoll/PageHeap", "place", "(II)V"⟩ : MethodName)) hown (mvT hZ (hw _ (List.mem_of_getElem? (i := 33) rfl))) (mvT hZ (hw _ (List.mem_of_getElem? (i := 34) rfl))) (mvT hZ (hw _ (List.mem_of_getElem? (i := 24) rfl))) rfl (Cond.privateMethod_at (mvP hZ (hw _ (List.mem_of_getElem? (i := 35) rfl)) (args := #[]))) (mvT hZ (hw _ (List.mem_of_getElem? (i := 36) rfl))) (by decide) (backOf (W := 0) (rm_plc l Z av0 hw [] a0 x1 (0 : Int32) ha pa kh kp x0 x0 x2 (own_u 0 x0 (1 : Int32) y0) (own_u 1 x0 (1 : Int32) y1) (own_u 2 x0 (1 : Int32) y2) T34.heap n0 f35 f38 f39 fo34_0 fo34_1 g_ha g_pa ne_a0_ha ne_a0_pa ne_ha_pa hx1 (by decide)) hZ (hw _ (List.mem_of_getElem? (i := 36) rfl)) (hw _ (List.mem_of_getElem? (i := 3) rfl)) (by decide) (by decide)) (a := a0) q43 q43' (g := (mkF m 56 #[.val (.ref a0), .val (.int (0 : Int32)), .val (.int x1)] [(.int (0 : Int32)), (.int x1), (.ref a0)])) rfl (by rw [hml]; rfl) (argsL := [(.int x1), (.int (0 : Int32))]) (rest := []) (lenOf pd_0 rfl) rfl (by show 2 * 0 + _ ≤ _; exact Nat.le_of_eq rfl) (hb hby d7_56) (fun _ _ => ⟨rfl, rfl, (by decide : 0 + 0 ≤ _), (by decide : 0 + 0 ≤ _)⟩)
    dsimp only [Pt.U, Pt.locs, Pt.cells, Pt.slots] at X43 l43 y43 z43 st43 hQ43
    subst l43 y43 z43
    obtain ⟨hv43, N43q, K43, fo43_0, fo43_1⟩ := hQ43
    have f44 : n0 ≤ T43.heap.size := Nat.le_trans f35 K43.1
    have f45 : Exa Z T43.heap a0 "com/example/octopoll/octopoll/PageHeap" := f36.keep K43
    have f46 : Fld Z T43.heap a0 "com/example/octopoll/octopoll/PageHeap" "key" "[D" (.ref ka) := f37.keep K43 (ninS ne_a0_ha (ninS ne_a0_pa nin0))
    have f47 : Fld Z T43.heap a0 "com/example/octopoll/octopoll/PageHeap" "heap" "[I" (.ref ha) := f38.keep K43 (ninS ne_a0_ha (ninS ne_a0_pa nin0))
    have f48 : Fld Z T43.heap a0 "com/example/octopoll/octopoll/PageHeap" "position" "[I" (.ref pa) := f39.keep K43 (ninS ne_a0_ha (ninS ne_a0_pa nin0))
    have f49 : Arv Z T43.heap ka kk .double (3 : Int32) [(.double d0), (.double d1), (.double d2)] (.double 0) := f40.keep K43 (ninS ne_ka_ha (ninS ne_ka_pa nin0))
    have f50 : Keep h0 T43.heap [ha, pa] := f41.trans K43 (allS (Or.inl (List.mem_of_getElem? (i := 0) rfl)) (allS (Or.inl (List.mem_of_getElem? (i := 1) rfl)) all0))
    subst hv43
    have N43 := Fr.app N34 N43q
    have pre43 : Go p.tables e below (s₁.setTop (entryFrame m #[(.ref a0), (.int (1 : Int32))] 3)) T43 (mkF m 59 #[.val (.ref a0), .val (.int (0 : Int32)), .val (.int x1)] []) := fun t k => pre42 t (st43 _ k)
    obtain ⟨fs, hr, hrun, hended, hW, hsame⟩ := X43.leave (v := none) (fun _ => rfl) (BodyLoose.notSynchronized Bd)
    refine ⟨_, _, pre43 _ ?_, hrun, hended, _, _, rfl, ?_, ⟨_, rfl⟩, hW, hsame.mono (Nat.le_of_ble_eq_true rfl) (Nat.le_of_ble_eq_true rfl)⟩
    · exact X43.returnOut hx Bd.returns (hb hby d7_59) hr
    · show Q_su Z a0 (1 : Int32) ka ha pa kk kh kp d0 d1 d2 x0 x1 x2 y0 y1 y2 h0 n0 _ T43.heap _
      exact ⟨x1, x0, x2, (own_u 0 x1 (0 : Int32) (own_u 0 x0 (1 : Int32) y0)), (own_u 1 x1 (0 : Int32) (own_u 1 x0 (1 : Int32) y1)), (own_u 2 x1 (0 : Int32) (own_u 2 x0 (1 : Int32) y2)), rfl, N43, f50, fo43_0, fo43_1, (Or.inr ⟨by decide, rfl⟩)⟩
theorem pn_su2 : plainName "com/example/octopoll/octopoll/PageHeap" = true := by first | (simp [plainName, overriddenIn]; done) | decide +kernel
theorem ef_su2 (m : MethodId) (a0 : Addr) : entryFrame m #[(.ref a0), (.int (2 : Int32))] 3 = mkF m 0 #[.val (.ref a0), .val (.int (2 : Int32)), .unset] [] := by first | (simp [entryFrame, mkF, argsToLocals, Value.category]; done) | rfl
set_option maxRecDepth 65536 in
set_option maxHeartbeats 40000000 in
theorem rm_su2 (l : Launch) (Z : State) (av0 : Array Value) (hw : ∀ d ∈ tables_1, d.before av0 Z = true) (ws : List Jvm.Cond) (a0 : Addr) (ka : Addr) (ha : Addr) (pa : Addr) (kk : ClassId) (kh : ClassId) (kp : ClassId) (d0 : UInt64) (d1 : UInt64) (d2 : UInt64) (x0 : Int32) (x1 : Int32) (x2 : Int32) (y0 : Int32) (y1 : Int32) (y2 : Int32) (h0 : Heap) (n0 : Nat) (Z0 : n0 ≤ h0.size) (fi0 : Exa Z h0 a0 "com/example/octopoll/octopoll/PageHeap") (fi1 : Fld Z h0 a0 "com/example/octopoll/octopoll/PageHeap" "key" "[D" (.ref ka)) (fi2 : Fld Z h0 a0 "com/example/octopoll/octopoll/PageHeap" "heap" "[I" (.ref ha)) (fi3 : Fld Z h0 a0 "com/example/octopoll/octopoll/PageHeap" "position" "[I" (.ref pa)) (fi4 : Arv Z h0 ka kk .double (3 : Int32) [(.double d0), (.double d1), (.double d2)] (.double 0)) (fi5 : Arv Z h0 ha kh .int (3 : Int32) [(.int x0), (.int x1), (.int x2)] (.int (0 : Int32))) (fi6 : Arv Z h0 pa kp .int (3 : Int32) [(.int y0), (.int y1), (.int y2)] (.int (0 : Int32))) (g_ha : n0 ≤ ha) (g_pa : n0 ≤ pa) (ne_a0_ha : a0 ≠ ha) (ne_a0_pa : a0 ≠ pa) (ne_ha_pa : ha ≠ pa) (ne_a0_ka : a0 ≠ ka) (ne_ka_ha : ka ≠ ha) (ne_ka_pa : ka ≠ pa) (hx0 : own_bd x0) (hx1 : own_bd x1) (hx2 : own_bd x2) :
    MetFree l (⟨"com/example/octopoll/octopoll/PageHeap", "siftUp", "(I)V"⟩ : MethodName) (head1 (Jvm.Cond.code (⟨"com/example/octopoll/octopoll/PageHeap", "siftUp", "(I)V"⟩ : MethodName) prog_17_method_9_code 3 none :: ws) ({ frames := 1, cells := 0, slots := 0, locals := 16 } : Room)) (fun a U => a = #[(.ref a0), (.int (2 : Int32))] ∧ Z.Warmed39 U.vm ∧ U.heap = h0) (fun _ _ _ _ _ => True) (fun _ U o U' => ∃ v L, o = .returned v ∧ Q_su Z a0 (2 : Int32) ka ha pa kk kh kp d0 d1 d2 x0 x1 x2 y0 y1 y2 h0 n0 v U'.heap L ∧ FrameEnd U o U' L ({ frames := 1, cells := 0, slots := 0, locals := 16 } : Room).cells ({ frames := 1, cells := 0, slots := 0, locals := 16 } : Room).slots) := by
  refine MetFree.of_bodySF (plainFor_of_name pn_su2) hisR ?_
  intro p e s m args below meth c s₁ Bd hml0 hP hK
  obtain ⟨rfl, hZ, hh⟩ := hP
  have hx := Bd.exec
  have hby := Bd.bytes
  have hml : c.maxLocals = 3 := hml0
  have hown : s.vm.findClass "com/example/octopoll/octopoll/PageHeap" = some m.cls := findClass_of_methodNamed Bd.named
  have hnm := (name_of_methodNamed Bd.named Bd.method).1
  have X0 : Stand p l e ({ frames := 1, cells := 0, slots := 0, locals := 16 } : Room) s m #[(.ref a0), (.int (2 : Int32))] below meth c s₁ [] 0 0 := Stand.of_body Bd
  have e0 : s₁.heap = h0 := by rw [← hh, Bd.state]; rfl
  have N0 := Fr.nil n0
  have pre0 : Go p.tables e below (s₁.setTop (entryFrame m #[(.ref a0), (.int (2 : Int32))] 3)) s₁ (mkF m 0 #[.val (.ref a0), .val (.int (2 : Int32)), .unset] []) := fun t k => castTop (ef_su2 m a0) k
  have K0 : Keep h0 h0 [ha, pa] := Keep.refl _ _
  have pre1 : Go p.tables e below (s₁.setTop (entryFrame m #[(.ref a0), (.int (2 : Int32))] 3)) s₁ (mkF m 1 #[.val (.ref a0), .val (.int (2 : Int32)), .unset] [(.ref a0)]) := fun t k => pre0 t (by
      refine XS.aloadN X0.here hx rfl (hb hby d7_0) rfl rfl ?_
      exact k)
  obtain ⟨T2, X2, e2, st2⟩ := getF X0 hx hZ hown (host := "") (Or.inl (hw _ (List.mem_of_getElem? (i := 13) rfl))) Via.refl e0 fi2 (g := (mkF m 1 #[.val (.ref a0), .val (.int (2 : Int32)), .unset] [(.ref a0)])) rfl rfl (hb hby d7_1)
  have pre2 : Go p.tables e below (s₁.setTop (entryFrame m #[(.ref a0), (.int (2 : Int32))] 3)) T2 (mkF m 4 #[.val (.ref a0), .val (.int (2 : Int32)), .unset] [(.ref ha)]) := fun t k => pre1 t (st2 _ k)
  have pre3 : Go p.tables e below (s₁.setTop (entryFrame m #[(.ref a0), (.int (2 : Int32))] 3)) T2 (mkF m 5 #[.val (.ref a0), .val (.int (2 : Int32)), .unset] [(.int (2 : Int32)), (.ref ha)]) := fun t k => pre2 t (by
      refine XS.iloadN X2.here hx rfl (hb hby d7_4) rfl ?_
      exact k)
  obtain ⟨c4, Ar4, q4, S4, M4, H4, G4⟩ := (id fi5)
  have hin4 : ¬ ((2 : Int32) < 0 ∨ c4.slots.size ≤ ((2 : Int32)).toNatClampNeg) := inb_of S4 ⟨by decide, by decide⟩
  have pre4 : Go p.tables e below (s₁.setTop (entryFrame m #[(.ref a0), (.int (2 : Int32))] 3)) T2 (mkF m 6 #[.val (.ref a0), .val (.int (2 : Int32)), .unset] [(.int x2)]) := fun t k => pre3 t (X2.iaload hx (j := (2 : Int32)) (v := (.int x2)) (by rw [e2]; exact Ar4.1) (State.isArrayOf_alike hZ.alike Ar4.2.1) Ar4.2.2 hin4 (H4.at hin4 rfl) (g := (mkF m 5 #[.val (.ref a0), .val (.int (2 : Int32)), .unset] [(.int (2 : Int32)), (.ref ha)])) rfl rfl (hb hby d7_5) _ k)
  have pre5 : Go p.tables e below (s₁.setTop (entryFrame m #[(.ref a0), (.int (2 : Int32))] 3)) T2 (mkF m 14 #[.val (.ref a0), .val (.int (2 : Int32)), .val (.int x2)] [(.ref a0), (.int x2), (.ref a0)]) := fun t k => pre4 t (by
      refine XS.istoreN X2.here hx rfl (hb hby d7_6) rfl (l' := #[.val (.ref a0), .val (.int (2 : Int32)), .val (.int x2)]) rfl ?_
      show Steps p.tables e below (T2.setTop (mkF m 7 #[.val (.ref a0), .val (.int (2 : Int32)), .val (.int x2)] [])) _
      refine XS.iloadN X2.here hx rfl (hb hby d7_7) rfl ?_
      show Steps p.tables e below (T2.setTop (mkF m 8 #[.val (.ref a0), .val (.int (2 : Int32)), .val (.int x2)] [(.int (2 : Int32))])) _
      refine XS.ifNo X2.here hx rfl (hb hby d7_8) rfl ((if0 _ _).trans (tlt (by decide)).2.2.2) ?_
      show Steps p.tables e below (T2.setTop (mkF m 11 #[.val (.ref a0), .val (.int (2 : Int32)), .val (.int x2)] [])) _
      refine XS.aloadN X2.here hx rfl (hb hby d7_11) rfl rfl ?_
      show Steps p.tables e below (T2.setTop (mkF m 12 #[.val (.ref a0), .val (.int (2 : Int32)), .val (.int x2)] [(.ref a0)])) _
      refine XS.iloadN X2.here hx rfl (hb hby d7_12) rfl ?_
      show Steps p.tables e below (T2.setTop (mkF m 13 #[.val (.ref a0), .val (.int (2 : Int32)), .val (.int x2)] [(.int x2), (.ref a0)])) _
      refine XS.aloadN X2.here hx rfl (hb hby d7_13) rfl rfl ?_
      exact k)
  obtain ⟨T6, X6, e6, st6⟩ := getF X2 hx hZ hown (host := "") (Or.inl (hw _ (List.mem_of_getElem? (i := 13) rfl))) Via.refl e2 fi2 (g := (mkF m 14 #[.val (.ref a0), .val (.int (2 : Int32)), .val (.int x2)] [(.ref a0), (.int x2), (.ref a0)])) rfl rfl (hb hby d7_14)
  have pre6 : Go p.tables e below (s₁.setTop (entryFrame m #[(.ref a0), (.int (2 : Int32))] 3)) T6 (mkF m 17 #[.val (.ref a0), .val (.int (2 : Int32)), .val (.int x2)] [(.ref ha), (.int x2), (.ref a0)]) := fun t k => pre5 t (st6 _ k)
  have pre7 : Go p.tables e below (s₁.setTop (entryFrame m #[(.ref a0), (.int (2 : Int32))] 3)) T6 (mkF m 22 #[.val (.ref a0), .val (.int (2 : Int32)), .val (.int x2)] [(.int (0 : Int32)), (.ref ha), (.int x2), (.ref a0)]) := fun t k => pre6 t (by
      refine XS.iloadN X6.here hx rfl (hb hby d7_17) rfl ?_
      show Steps p.tables e below (T6.setTop (mkF m 18 #[.val (.ref a0), .val (.int (2 : Int32)), .val (.int x2)] [(.int (2 : Int32)), (.ref ha), (.int x2), (.ref a0)])) _
      refine XS.iconst X6.here hx rfl (hb hby d7_18) ?_
      show Steps p.tables e below (T6.setTop (mkF m 19 #[.val (.ref a0), .val (.int (2 : Int32)), .val (.int x2)] [(.int (1 : Int32)), (.int (2 : Int32)), (.ref ha), (.int x2), (.ref a0)])) _
      refine XS.isub X6.here hx rfl (hb hby d7_19) rfl ?_
      show Steps p.tables e below (T6.setTop (mkF m 20 #[.val (.ref a0), .val (.int (2 : Int32)), .val (.int x2)] [(.int (1 : Int32)), (.ref ha), (.int x2), (.ref a0)])) _
      refine XS.iconst X6.here hx rfl (hb hby d7_20) ?_
      show Steps p.tables e below (T6.setTop (mkF m 21 #[.val (.ref a0), .val (.int (2 : Int32)), .val (.int x2)] [(.int (2 : Int32)), (.int (1 : Int32)), (.ref ha), (.int x2), (.ref a0)])) _
      refine XS.idiv X6.here hx rfl (hb hby d7_21) rfl (by decide) ?_
      exact k)
  obtain ⟨c8, Ar8, q8, S8, M8, H8, G8⟩ := (id fi5)
  have hin8 : ¬ ((0 : Int32) < 0 ∨ c8.slots.size ≤ ((0 : Int32)).toNatClampNeg) := inb_of S8 ⟨by decide, by decide⟩
  have pre8 : Go p.tables e below (s₁.setTop (entryFrame m #[(.ref a0), (.int (2 : Int32))] 3)) T6 (mkF m 23 #[.val (.ref a0), .val (.int (2 : Int32)), .val (.int x2)] [(.int x0), (.int x2), (.ref a0)]) := fun t k => pre7 t (X6.iaload hx (j := (0 : Int32)) (v := (.int x0)) (by rw [e6]; exact Ar8.1) (State.isArrayOf_alike hZ.alike Ar8.2.1) Ar8.2.2 hin8 (H8.at hin8 rfl) (g := (mkF m 22 #[.val (.ref a0), .val (.int (2 : Int32)), .val (.int x2)] [(.int (0 : Int32)), (.ref ha), (.int x2), (.ref a0)])) rfl rfl (hb hby d7_22) _ k)
  obtain ⟨cq9, q9, q9'⟩ := fi0.cell
  obtain ⟨_, _, ⟨T9, L9, k9, n9⟩, -, X9, ⟨Lc9, hQ9, l9, y9, z9⟩, st9⟩ := own_private X6 hx (y := (⟨"com/example/octopoll/octopoll/PageHeap", "less", "(II)Z"⟩ : MethodName)) hown (mvT hZ (hw _ (List.mem_of_getElem? (i := 41) rfl))) (mvT hZ (hw _ (List.mem_of_getElem? (i := 42) rfl))) (mvT hZ (hw _ (List.mem_of_getElem? (i := 24) rfl))) rfl (Cond.privateMethod_at (mvP hZ (hw _ (List.mem_of_getElem? (i := 43) rfl)) (args := #[]))) (mvT hZ (hw _ (List.mem_of_getElem? (i := 44) rfl))) (by decide) (backOf (W := 0) (rm_les l Z av0 hw [] a0 x2 x0 ka kk d0 d1 d2 h0 n0 Z0 fi1 fi4 hx2 hx0) hZ (hw _ (List.mem_of_getElem? (i := 44) rfl)) (hw _ (List.mem_of_getElem? (i := 3) rfl)) (by decide) (by decide)) (a := a0) (by rw [e6]; exact q9) q9' (g := (mkF m 23 #[.val (.ref a0), .val (.int (2 : Int32)), .val (.int x2)] [(.int x0), (.int x2), (.ref a0)])) rfl (by rw [hml]; rfl) (argsL := [(.int x2), (.int x0)]) (rest := []) (lenOf pd_1 rfl) rfl (by show 2 * 0 + _ ≤ _; exact Nat.le_of_eq rfl) (hb hby d7_23) (fun _ _ => ⟨rfl, e6, (by decide : 0 + 0 ≤ _), (by decide : 0 + 0 ≤ _)⟩)
  dsimp only [Pt.U, Pt.locs, Pt.cells, Pt.slots] at X9 l9 y9 z9 st9 hQ9
  subst l9 y9 z9
  obtain ⟨zl9, hv9, N9q, K9⟩ := hQ9
  have f10 : n0 ≤ T9.heap.size := Nat.le_trans Z0 K9.1
  have f11 : Exa Z T9.heap a0 "com/example/octopoll/octopoll/PageHeap" := fi0.keep K9
  have f12 : Fld Z T9.heap a0 "com/example/octopoll/octopoll/PageHeap" "key" "[D" (.ref ka) := fi1.keep K9 nin0
  have f13 : Fld Z T9.heap a0 "com/example/octopoll/octopoll/PageHeap" "heap" "[I" (.ref ha) := fi2.keep K9 nin0
  have f14 : Fld Z T9.heap a0 "com/example/octopoll/octopoll/PageHeap" "position" "[I" (.ref pa) := fi3.keep K9 nin0
  have f15 : Arv Z T9.heap ka kk .double (3 : Int32) [(.double d0), (.double d1), (.double d2)] (.double 0) := fi4.keep K9 nin0
  have f16 : Arv Z T9.heap ha kh .int (3 : Int32) [(.int x0), (.int x1), (.int x2)] (.int (0 : Int32)) := fi5.keep K9 nin0
  have f17 : Arv Z T9.heap pa kp .int (3 : Int32) [(.int y0), (.int y1), (.int y2)] (.int (0 : Int32)) := fi6.keep K9 nin0
  have f18 : Keep h0 T9.heap [ha, pa] := K0.trans K9 all0
  subst hv9
  have N9 := Fr.app N0 N9q
  have pre9 : Go p.tables e below (s₁.setTop (entryFrame m #[(.ref a0), (.int (2 : Int32))] 3)) T9 (mkF m 26 #[.val (.ref a0), .val (.int (2 : Int32)), .val (.int x2)] [(.int zl9)]) := fun t k => pre8 t (st9 _ k)
  by_cases hc19 : zl9 = (0 : Int32)
  · -- hc19: True
    have pre20 : Go p.tables e below (s₁.setTop (entryFrame m #[(.ref a0), (.int (2 : Int32))] 3)) T9 (mkF m 56 #[.val (.ref a0), .val (.int (2 : Int32)), .val (.int x2)] [(.int (2 : Int32)), (.int x2), (.ref a0)]) := fun t k => pre9 t (by
        refine XS.ifYes X9.here hx rfl (pc0 := 26) (pc' := 53) rfl (hb hby d7_26) rfl ((if0 _ _).trans (teq hc19).1) (by decide) (by decide) ?_
        show Steps p.tables e below (T9.setTop (mkF m 53 #[.val (.ref a0), .val (.int (2 : Int32)), .val (.int x2)] [])) _
        refine XS.aloadN X9.here hx rfl (hb hby d7_53) rfl rfl ?_
        show Steps p.tables e below (T9.setTop (mkF m 54 #[.val (.ref a0), .val (.int (2 : Int32)), .val (.int x2)] [(.ref a0)])) _
        refine XS.iloadN X9.here hx rfl (hb hby d7_54) rfl ?_
        show Steps p.tables e below (T9.setTop (mkF m 55 #[.val (.ref a0), .val (.int (2 : Int32)), .val (.int x2)] [(.int x2), (.ref a0)])) _
        refine XS.iloadN X9.here hx rfl (hb hby d7_55) rfl ?_
        exact k)
    obtain ⟨cq21, q21, q21'⟩ := f11.cell
    obtain ⟨_, _, ⟨T21, L21, k21, n21⟩, -, X21, ⟨Lc21, hQ21, l21, y21, z21⟩, st21⟩ := own_private X9 hx (y := (⟨"com/example/octopoll/octopoll/PageHeap", "place", "(II)V"⟩ : MethodName)) hown (mvT hZ (hw _ (List.mem_of_getElem? (i := 33) rfl))) (mvT hZ (hw _ (List.mem_of_getElem? (i := 34) rfl))) (mvT hZ (hw _ (List.mem_of_getElem? (i := 24) rfl))) rfl (Cond.privateMethod_at (mvP hZ (hw _ (List.mem_of_getElem? (i := 35) rfl)) (args := #[]))) (mvT hZ (hw _ (List.mem_of_getElem? (i := 36) rfl))) (by decide) (backOf (W := 0) (rm_plc l Z av0 hw [] a0 x2 (2 : Int32) ha pa kh kp x0 x1 x2 y0 y1 y2 T9.heap n0 f10 f13 f14 f16 f17 g_ha g_pa ne_a0_ha ne_a0_pa ne_ha_pa hx2 (by decide)) hZ (hw _ (List.mem_of_getElem? (i := 36) rfl)) (hw _ (List.mem_of_getElem? (i := 3) rfl)) (by decide) (by decide)) (a := a0) q21 q21' (g := (mkF m 56 #[.val (.ref a0), .val (.int (2 : Int32)), .val (.int x2)] [(.int (2 : Int32)), (.int x2), (.ref a0)])) rfl (by rw [hml]; rfl) (argsL := [(.int x2), (.int (2 : Int32))]) (rest := []) (lenOf pd_0 rfl) rfl (by show 2 * 0 + _ ≤ _; exact Nat.le_of_eq rfl) (hb hby d7_56) (fun _ _ => ⟨rfl, rfl, (by decide : 0 + 0 ≤ _), (by decide : 0 + 0 ≤ _)⟩)
    dsimp only [Pt.U, Pt.locs, Pt.cells, Pt.slots] at X21 l21 y21 z21 st21 hQ21
    subst l21 y21 z21
    obtain ⟨hv21, N21q, K21, fo21_0, fo21_1⟩ := hQ21
    have f22 : n0 ≤ T21.heap.size := Nat.le_trans f10 K21.1
    have f23 : Exa Z T21.heap a0 "com/example/octopoll/octopoll/PageHeap" := f11.keep K21
    have f24 : Fld Z T21.heap a0 "com/example/octopoll/octopoll/PageHeap" "key" "[D" (.ref ka) := f12.keep K21 (ninS ne_a0_ha (ninS ne_a0_pa nin0))
    have f25 : Fld Z T21.heap a0 "com/example/octopoll/octopoll/PageHeap" "heap" "[I" (.ref ha) := f13.keep K21 (ninS ne_a0_ha (ninS ne_a0_pa nin0))
    have f26 : Fld Z T21.heap a0 "com/example/octopoll/octopoll/PageHeap" "position" "[I" (.ref pa) := f14.keep K21 (ninS ne_a0_ha (ninS ne_a0_pa nin0))
    have f27 : Arv Z T21.heap ka kk .double (3 : Int32) [(.double d0), (.double d1), (.double d2)] (.double 0) := f15.keep K21 (ninS ne_ka_ha (ninS ne_ka_pa nin0))
    have f28 : Keep h0 T21.heap [ha, pa] := f18.trans K21 (allS (Or.inl (List.mem_of_getElem? (i := 0) rfl)) (allS (Or.inl (List.mem_of_getElem? (i := 1) rfl)) all0))
    subst hv21
    have N21 := Fr.app N9 N21q
    have pre21 : Go p.tables e below (s₁.setTop (entryFrame m #[(.ref a0), (.int (2 : Int32))] 3)) T21 (mkF m 59 #[.val (.ref a0), .val (.int (2 : Int32)), .val (.int x2)] []) := fun t k => pre20 t (st21 _ k)
    obtain ⟨fs, hr, hrun, hended, hW, hsame⟩ := X21.leave (v := none) (fun _ => rfl) (BodyLoose.notSynchronized Bd)
    refine ⟨_, _, pre21 _ ?_, hrun, hended, _, _, rfl, ?_, ⟨_, rfl⟩, hW, hsame.mono (Nat.le_of_ble_eq_true rfl) (Nat.le_of_ble_eq_true rfl)⟩
    · exact X21.returnOut hx Bd.returns (hb hby d7_59) hr
    · show Q_su Z a0 (2 : Int32) ka ha pa kk kh kp d0 d1 d2 x0 x1 x2 y0 y1 y2 h0 n0 _ T21.heap _
      exact ⟨x0, x1, x2, (own_u 0 x2 (2 : Int32) y0), (own_u 1 x2 (2 : Int32) y1), (own_u 2 x2 (2 : Int32) y2), rfl, N21, f28, fo21_0, fo21_1, (Or.inl rfl)⟩
  · -- hc19: False
    have pre29 : Go p.tables e below (s₁.setTop (entryFrame m #[(.ref a0), (.int (2 : Int32))] 3)) T9 (mkF m 31 #[.val (.ref a0), .val (.int (2 : Int32)), .val (.int x2)] [(.ref a0), (.ref a0)]) := fun t k => pre9 t (by
        refine XS.ifNo X9.here hx rfl (hb hby d7_26) rfl ((if0 _ _).trans (feq hc19).1) ?_
        show Steps p.tables e below (T9.setTop (mkF m 29 #[.val (.ref a0), .val (.int (2 : Int32)), .val (.int x2)] [])) _
        refine XS.aloadN X9.here hx rfl (hb hby d7_29) rfl rfl ?_
        show Steps p.tables e below (T9.setTop (mkF m 30 #[.val (.ref a0), .val (.int (2 : Int32)), .val (.int x2)] [(.ref a0)])) _
        refine XS.aloadN X9.here hx rfl (hb hby d7_30) rfl rfl ?_
        exact k)
    obtain ⟨T30, X30, e30, st30⟩ := getF X9 hx hZ hown (host := "") (Or.inl (hw _ (List.mem_of_getElem? (i := 13) rfl))) Via.refl rfl f13 (g := (mkF m 31 #[.val (.ref a0), .val (.int (2 : Int32)), .val (.int x2)] [(.ref a0), (.ref a0)])) rfl rfl (hb hby d7_31)
    have pre30 : Go p.tables e below (s₁.setTop (entryFrame m #[(.ref a0), (.int (2 : Int32))] 3)) T30 (mkF m 34 #[.val (.ref a0), .val (.int (2 : Int32)), .val (.int x2)] [(.ref ha), (.ref a0)]) := fun t k => pre29 t (st30 _ k)
    have pre31 : Go p.tables e below (s₁.setTop (entryFrame m #[(.ref a0), (.int (2 : Int32))] 3)) T30 (mkF m 39 #[.val (.ref a0), .val (.int (2 : Int32)), .val (.int x2)] [(.int (0 : Int32)), (.ref ha), (.ref a0)]) := fun t k => pre30 t (by
        refine XS.iloadN X30.here hx rfl (hb hby d7_34) rfl ?_
        show Steps p.tables e below (T30.setTop (mkF m 35 #[.val (.ref a0), .val (.int (2 : Int32)), .val (.int x2)] [(.int (2 : Int32)), (.ref ha), (.ref a0)])) _
        refine XS.iconst X30.here hx rfl (hb hby d7_35) ?_
        show Steps p.tables e below (T30.setTop (mkF m 36 #[.val (.ref a0), .val (.int (2 : Int32)), .val (.int x2)] [(.int (1 : Int32)), (.int (2 : Int32)), (.ref ha), (.ref a0)])) _
        refine XS.isub X30.here hx rfl (hb hby d7_36) rfl ?_
        show Steps p.tables e below (T30.setTop (mkF m 37 #[.val (.ref a0), .val (.int (2 : Int32)), .val (.int x2)] [(.int (1 : Int32)), (.ref ha), (.ref a0)])) _
        refine XS.iconst X30.here hx rfl (hb hby d7_37) ?_
        show Steps p.tables e below (T30.setTop (mkF m 38 #[.val (.ref a0), .val (.int (2 : Int32)), .val (.int x2)] [(.int (2 : Int32)), (.int (1 : Int32)), (.ref ha), (.ref a0)])) _
        refine XS.idiv X30.here hx rfl (hb hby d7_38) rfl (by decide) ?_
        exact k)
    obtain ⟨c32, Ar32, q32, S32, M32, H32, G32⟩ := (id f16)
    have hin32 : ¬ ((0 : Int32) < 0 ∨ c32.slots.size ≤ ((0 : Int32)).toNatClampNeg) := inb_of S32 ⟨by decide, by decide⟩
    have pre32 : Go p.tables e below (s₁.setTop (entryFrame m #[(.ref a0), (.int (2 : Int32))] 3)) T30 (mkF m 40 #[.val (.ref a0), .val (.int (2 : Int32)), .val (.int x2)] [(.int x0), (.ref a0)]) := fun t k => pre31 t (X30.iaload hx (j := (0 : Int32)) (v := (.int x0)) (by rw [e30]; exact Ar32.1) (State.isArrayOf_alike hZ.alike Ar32.2.1) Ar32.2.2 hin32 (H32.at hin32 rfl) (g := (mkF m 39 #[.val (.ref a0), .val (.int (2 : Int32)), .val (.int x2)] [(.int (0 : Int32)), (.ref ha), (.ref a0)])) rfl rfl (hb hby d7_39) _ k)
    have pre33 : Go p.tables e below (s₁.setTop (entryFrame m #[(.ref a0), (.int (2 : Int32))] 3)) T30 (mkF m 41 #[.val (.ref a0), .val (.int (2 : Int32)), .val (.int x2)] [(.int (2 : Int32)), (.int x0), (.ref a0)]) := fun t k => pre32 t (by
        refine XS.iloadN X30.here hx rfl (hb hby d7_40) rfl ?_
        exact k)
    obtain ⟨cq34, q34, q34'⟩ := f11.cell
    obtain ⟨_, _, ⟨T34, L34, k34, n34⟩, -, X34, ⟨Lc34, hQ34, l34, y34, z34⟩, st34⟩ := own_private X30 hx (y := (⟨"com/example/octopoll/octopoll/PageHeap", "place", "(II)V"⟩ : MethodName)) hown (mvT hZ (hw _ (List.mem_of_getElem? (i := 33) rfl))) (mvT hZ (hw _ (List.mem_of_getElem? (i := 34) rfl))) (mvT hZ (hw _ (List.mem_of_getElem? (i := 24) rfl))) rfl (Cond.privateMethod_at (mvP hZ (hw _ (List.mem_of_getElem? (i := 35) rfl)) (args := #[]))) (mvT hZ (hw _ (List.mem_of_getElem? (i := 36) rfl))) (by decide) (backOf (W := 0) (rm_plc l Z av0 hw [] a0 x0 (2 : Int32) ha pa kh kp x0 x1 x2 y0 y1 y2 T9.heap n0 f10 f13 f14 f16 f17 g_ha g_pa ne_a0_ha ne_a0_pa ne_ha_pa hx0 (by decide)) hZ (hw _ (List.mem_of_getElem? (i := 36) rfl)) (hw _ (List.mem_of_getElem? (i := 3) rfl)) (by decide) (by decide)) (a := a0) (by rw [e30]; exact q34) q34' (g := (mkF m 41 #[.val (.ref a0), .val (.int (2 : Int32)), .val (.int x2)] [(.int (2 : Int32)), (.int x0), (.ref a0)])) rfl (by rw [hml]; rfl) (argsL := [(.int x0), (.int (2 : Int32))]) (rest := []) (lenOf pd_0 rfl) rfl (by show 2 * 0 + _ ≤ _; exact Nat.le_of_eq rfl) (hb hby d7_41) (fun _ _ => ⟨rfl, e30, (by decide : 0 + 0 ≤ _), (by decide : 0 + 0 ≤ _)⟩)
    dsimp only [Pt.U, Pt.locs, Pt.cells, Pt.slots] at X34 l34 y34 z34 st34 hQ34
    subst l34 y34 z34
    obtain ⟨hv34, N34q, K34, fo34_0, fo34_1⟩ := hQ34
    have f35 : n0 ≤ T34.heap.size := Nat.le_trans f10 K34.1
    have f36 : Exa Z T34.heap a0 "com/example/octopoll/octopoll/PageHeap" := f11.keep K34
    have f37 : Fld Z T34.heap a0 "com/example/octopoll/octopoll/PageHeap" "key" "[D" (.ref ka) := f12.keep K34 (ninS ne_a0_ha (ninS ne_a0_pa nin0))
    have f38 : Fld Z T34.heap a0 "com/example/octopoll/octopoll/PageHeap" "heap" "[I" (.ref ha) := f13.keep K34 (ninS ne_a0_ha (ninS ne_a0_pa nin0))
    have f39 : Fld Z T34.heap a0 "com/example/octopoll/octopoll/PageHeap" "position" "[I" (.ref pa) := f14.keep K34 (ninS ne_a0_ha (ninS ne_a0_pa nin0))
    have f40 : Arv Z T34.heap ka kk .double (3 : Int32) [(.double d0), (.double d1), (.double d2)] (.double 0) := f15.keep K34 (ninS ne_ka_ha (ninS ne_ka_pa nin0))
    have f41 : Keep h0 T34.heap [ha, pa] := f18.trans K34 (allS (Or.inl (List.mem_of_getElem? (i := 0) rfl)) (allS (Or.inl (List.mem_of_getElem? (i := 1) rfl)) all0))
    subst hv34
    have N34 := Fr.app N9 N34q
    have pre34 : Go p.tables e below (s₁.setTop (entryFrame m #[(.ref a0), (.int (2 : Int32))] 3)) T34 (mkF m 44 #[.val (.ref a0), .val (.int (2 : Int32)), .val (.int x2)] []) := fun t k => pre33 t (st34 _ k)
    have pre42 : Go p.tables e below (s₁.setTop (entryFrame m #[(.ref a0), (.int (2 : Int32))] 3)) T34 (mkF m 56 #[.val (.ref a0), .val (.int (0 : Int32)), .val (.int x2)] [(.int (0 : Int32)), (.int x2), (.ref a0)]) := fun t k => pre34 t (by
        refine XS.iloadN X34.here hx rfl (hb hby d7_44) rfl ?_
        show Steps p.tables e below (T34.setTop (mkF m 45 #[.val (.ref a0), .val (.int (2 : Int32)), .val (.int x2)] [(.int (2 : Int32))])) _
        refine XS.iconst X34.here hx rfl (hb hby d7_45) ?_
        show Steps p.tables e below (T34.setTop (mkF m 46 #[.val (.ref a0), .val (.int (2 : Int32)), .val (.int x2)] [(.int (1 : Int32)), (.int (2 : Int32))])) _
        refine XS.isub X34.here hx rfl (hb hby d7_46) rfl ?_
        show Steps p.tables e below (T34.setTop (mkF m 47 #[.val (.ref a0), .val (.int (2 : Int32)), .val (.int x2)] [(.int (1 : Int32))])) _
        refine XS.iconst X34.here hx rfl (hb hby d7_47) ?_
        show Steps p.tables e below (T34.setTop (mkF m 48 #[.val (.ref a0), .val (.int (2 : Int32)), .val (.int x2)] [(.int (2 : Int32)), (.int (1 : Int32))])) _
        refine XS.idiv X34.here hx rfl (hb hby d7_48) rfl (by decide) ?_
        show Steps p.tables e below (T34.setTop (mkF m 49 #[.val (.ref a0), .val (.int (2 : Int32)), .val (.int x2)] [(.int (0 : Int32))])) _
        refine XS.istoreN X34.here hx rfl (hb hby d7_49) rfl (l' := #[.val (.ref a0), .val (.int (0 : Int32)), .val (.int x2)]) rfl ?_
        show Steps p.tables e below (T34.setTop (mkF m 50 #[.val (.ref a0), .val (.int (0 : Int32)), .val (.int x2)] [])) _
        refine XS.goto X34.here hx rfl (pc0 := 50) (pc' := 7) rfl (hb hby d7_50) (by decide) (by decide) ?_
        show Steps p.tables e below (T34.setTop (mkF m 7 #[.val (.ref a0), .val (.int (0 : Int32)), .val (.int x2)] [])) _
        refine XS.iloadN X34.here hx rfl (hb hby d7_7) rfl ?_
        show Steps p.tables e below (T34.setTop (mkF m 8 #[.val (.ref a0), .val (.int (0 : Int32)), .val (.int x2)] [(.int (0 : Int32))])) _
        refine XS.ifYes X34.here hx rfl (pc0 := 8) (pc' := 53) rfl (hb hby d7_8) rfl ((if0 _ _).trans (flt (by decide)).2.2.2) (by decide) (by decide) ?_
        show Steps p.tables e below (T34.setTop (mkF m 53 #[.val (.ref a0), .val (.int (0 : Int32)), .val (.int x2)] [])) _
        refine XS.aloadN X34.here hx rfl (hb hby d7_53) rfl rfl ?_
        show Steps p.tables e below (T34.setTop (mkF m 54 #[.val (.ref a0), .val (.int (0 : Int32)), .val (.int x2)] [(.ref a0)])) _
        refine XS.iloadN X34.here hx rfl (hb hby d7_54) rfl ?_
        show Steps p.tables e below (T34.setTop (mkF m 55 #[.val (.ref a0), .val (.int (0 : Int32)), .val (.int x2)] [(.int x2), (.ref a0)])) _
        refine XS.iloadN X34.here hx rfl (hb hby d7_55) rfl ?_
        exact k)
    obtain ⟨cq43, q43, q43'⟩ := f36.cell
    obtain ⟨_, _, ⟨T43, L43, k43, n43⟩, -, X43, ⟨Lc43, hQ43, l43, y43, z43⟩, st43⟩ := own_private X34 hx (y := (⟨"com/example/octopoll/octopoll/PageHeap", "place", "(II)V"⟩ : MethodName)) hown (mvT hZ (hw _ (List.mem_of_getElem? (i := 33) rfl))) (mvT hZ (hw _ (List.mem_of_getElem? (i := 34) rfl))) (mvT hZ (hw _ (List.mem_of_getElem? (i := 24) rfl))) rfl (Cond.privateMethod_at (mvP hZ (hw _ (List.mem_of_getElem? (i := 35) rfl)) (args := #[]))) (mvT hZ (hw _ (List.mem_of_getElem? (i := 36) rfl))) (by decide) (backOf (W := 0) (rm_plc l Z av0 hw [] a0 x2 (0 : Int32) ha pa kh kp x0 x1 x0 (own_u 0 x0 (2 : Int32) y0) (own_u 1 x0 (2 : Int32) y1) (own_u 2 x0 (2 : Int32) y2) T34.heap n0 f35 f38 f39 fo34_0 fo34_1 g_ha g_pa ne_a0_ha ne_a0_pa ne_ha_pa hx2 (by decide)) hZ (hw _ (List.mem_of_getElem? (i := 36) rfl)) (hw _ (List.mem_of_getElem? (i := 3) rfl)) (by decide) (by decide)) (a := a0) q43 q43' (g := (mkF m 56 #[.val (.ref a0), .val (.int (0 : Int32)), .val (.int x2)] [(.int (0 : Int32)), (.int x2), (.ref a0)])) rfl (by rw [hml]; rfl) (argsL := [(.int x2), (.int (0 : Int32))]) (rest := []) (lenOf pd_0 rfl) rfl (by show 2 * 0 + _ ≤ _; exact Nat.le_of_eq rfl) (hb hby d7_56) (fun _ _ => ⟨rfl, rfl, (by decide : 0 + 0 ≤ _), (by decide : 0 + 0 ≤ _)⟩)
    dsimp only [Pt.U, Pt.locs, Pt.cells, Pt.slots] at X43 l43 y43 z43 st43 hQ43
    subst l43 y43 z43
    obtain ⟨hv43, N43q, K43, fo43_0, fo43_1⟩ := hQ43
    have f44 : n0 ≤ T43.heap.size := Nat.le_trans f35 K43.1
    have f45 : Exa Z T43.heap a0 "com/example/octopoll/octopoll/PageHeap" := f36.keep K43
    have f46 : Fld Z T43.heap a0 "com/example/octopoll/octopoll/PageHeap" "key" "[D" (.ref ka) := f37.keep K43 (ninS ne_a0_ha (ninS ne_a0_pa nin0))
    have f47 : Fld Z T43.heap a0 "com/example/octopoll/octopoll/PageHeap" "heap" "[I" (.ref ha) := f38.keep K43 (ninS ne_a0_ha (ninS ne_a0_pa nin0))
    have f48 : Fld Z T43.heap a0 "com/example/octopoll/octopoll/PageHeap" "position" "[I" (.ref pa) := f39.keep K43 (ninS ne_a0_ha (ninS ne_a0_pa nin0))
    have f49 : Arv Z T43.heap ka kk .double (3 : Int32) [(.double d0), (.double d1), (.double d2)] (.double 0) := f40.keep K43 (ninS ne_ka_ha (ninS ne_ka_pa nin0))
    have f50 : Keep h0 T43.heap [ha, pa] := f41.trans K43 (allS (Or.inl (List.mem_of_getElem? (i := 0) rfl)) (allS (Or.inl (List.mem_of_getElem? (i := 1) rfl)) all0))
    subst hv43
    have N43 := Fr.app N34 N43q
    have pre43 : Go p.tables e below (s₁.setTop (entryFrame m #[(.ref a0), (.int (2 : Int32))] 3)) T43 (mkF m 59 #[.val (.ref a0), .val (.int (0 : Int32)), .val (.int x2)] []) := fun t k => pre42 t (st43 _ k)
    obtain ⟨fs, hr, hrun, hended, hW, hsame⟩ := X43.leave (v := none) (fun _ => rfl) (BodyLoose.notSynchronized Bd)
    refine ⟨_, _, pre43 _ ?_, hrun, hended, _, _, rfl, ?_, ⟨_, rfl⟩, hW, hsame.mono (Nat.le_of_ble_eq_true rfl) (Nat.le_of_ble_eq_true rfl)⟩
    · exact X43.returnOut hx Bd.returns (hb hby d7_59) hr
    · show Q_su Z a0 (2 : Int32) ka ha pa kk kh kp d0 d1 d2 x0 x1 x2 y0 y1 y2 h0 n0 _ T43.heap _
      exact ⟨x2, x1, x0, (own_u 0 x2 (0 : Int32) (own_u 0 x0 (2 : Int32) y0)), (own_u 1 x2 (0 : Int32) (own_u 1 x0 (2 : Int32) y1)), (own_u 2 x2 (0 : Int32) (own_u 2 x0 (2 : Int32) y2)), rfl, N43, f50, fo43_0, fo43_1, (Or.inr ⟨by decide, rfl⟩)⟩
theorem rm_su (l : Launch) (Z : State) (av0 : Array Value) (hw : ∀ d ∈ tables_1, d.before av0 Z = true) (ws : List Jvm.Cond) (a0 : Addr) (p1 : Int32) (ka : Addr) (ha : Addr) (pa : Addr) (kk : ClassId) (kh : ClassId) (kp : ClassId) (d0 : UInt64) (d1 : UInt64) (d2 : UInt64) (x0 : Int32) (x1 : Int32) (x2 : Int32) (y0 : Int32) (y1 : Int32) (y2 : Int32) (h0 : Heap) (n0 : Nat) (Z0 : n0 ≤ h0.size) (fi0 : Exa Z h0 a0 "com/example/octopoll/octopoll/PageHeap") (fi1 : Fld Z h0 a0 "com/example/octopoll/octopoll/PageHeap" "key" "[D" (.ref ka)) (fi2 : Fld Z h0 a0 "com/example/octopoll/octopoll/PageHeap" "heap" "[I" (.ref ha)) (fi3 : Fld Z h0 a0 "com/example/octopoll/octopoll/PageHeap" "position" "[I" (.ref pa)) (fi4 : Arv Z h0 ka kk .double (3 : Int32) [(.double d0), (.double d1), (.double d2)] (.double 0)) (fi5 : Arv Z h0 ha kh .int (3 : Int32) [(.int x0), (.int x1), (.int x2)] (.int (0 : Int32))) (fi6 : Arv Z h0 pa kp .int (3 : Int32) [(.int y0), (.int y1), (.int y2)] (.int (0 : Int32))) (g_ha : n0 ≤ ha) (g_pa : n0 ≤ pa) (ne_a0_ha : a0 ≠ ha) (ne_a0_pa : a0 ≠ pa) (ne_ha_pa : ha ≠ pa) (ne_a0_ka : a0 ≠ ka) (ne_ka_ha : ka ≠ ha) (ne_ka_pa : ka ≠ pa) (hx0 : own_bd x0) (hx1 : own_bd x1) (hx2 : own_bd x2) (hb : own_bd p1) :
    MetFree l (⟨"com/example/octopoll/octopoll/PageHeap", "siftUp", "(I)V"⟩ : MethodName) (head1 (Jvm.Cond.code (⟨"com/example/octopoll/octopoll/PageHeap", "siftUp", "(I)V"⟩ : MethodName) prog_17_method_9_code 3 none :: ws) ({ frames := 1, cells := 0, slots := 0, locals := 16 } : Room)) (fun a U => a = #[(.ref a0), (.int p1)] ∧ Z.Warmed39 U.vm ∧ U.heap = h0) (fun _ _ _ _ _ => True) (fun _ U o U' => ∃ v L, o = .returned v ∧ Q_su Z a0 p1 ka ha pa kk kh kp d0 d1 d2 x0 x1 x2 y0 y1 y2 h0 n0 v U'.heap L ∧ FrameEnd U o U' L ({ frames := 1, cells := 0, slots := 0, locals := 16 } : Room).cells ({ frames := 1, cells := 0, slots := 0, locals := 16 } : Room).slots) := by
  rcases own_012 hb with rfl | rfl | rfl
  · exact rm_su0 l Z av0 hw ws a0 ka ha pa kk kh kp d0 d1 d2 x0 x1 x2 y0 y1 y2 h0 n0 Z0 fi0 fi1 fi2 fi3 fi4 fi5 fi6 g_ha g_pa ne_a0_ha ne_a0_pa ne_ha_pa ne_a0_ka ne_ka_ha ne_ka_pa hx0 hx1 hx2
  · exact rm_su1 l Z av0 hw ws a0 ka ha pa kk kh kp d0 d1 d2 x0 x1 x2 y0 y1 y2 h0 n0 Z0 fi0 fi1 fi2 fi3 fi4 fi5 fi6 g_ha g_pa ne_a0_ha ne_a0_pa ne_ha_pa ne_a0_ka ne_ka_ha ne_ka_pa hx0 hx1 hx2
  · exact rm_su2 l Z av0 hw ws a0 ka ha pa kk kh kp d0 d1 d2 x0 x1 x2 y0 y1 y2 h0 n0 Z0 fi0 fi1 fi2 fi3 fi4 fi5 fi6 g_ha g_pa ne_a0_ha ne_a0_pa ne_ha_pa ne_a0_ka ne_ka_ha ne_ka_pa hx0 hx1 hx2
def Q_sd (Z : State) (a0 : Addr) (p1 n1 : Int32) (ka : Addr) (ha : Addr) (pa : Addr) (kk : ClassId) (kh : ClassId) (kp : ClassId) (d0 : UInt64) (d1 : UInt64) (d2 : UInt64) (x0 : Int32) (x1 : Int32) (x2 : Int32) (y0 : Int32) (y1 : Int32) (y2 : Int32) (h0 : Heap) (n0 : Nat) (v : Option Value) (h : Heap) (L : List Loc) : Prop := ∃ (z0 : Int32) (z1 : Int32) (z2 : Int32) (z3 : Int32) (z4 : Int32) (z5 : Int32), v = none ∧ Fr n0 L ∧ Keep h0 h [ha, pa] ∧ Arv Z h ha kh .int (3 : Int32) [(.int z0), (.int z1), (.int z2)] (.int (0 : Int32)) ∧ Arv Z h pa kp .int (3 : Int32) [(.int z3), (.int z4), (.int z5)] (.int (0 : Int32)) ∧ ((z0, z1, z2, z3, z4, z5) = own_s0 p1 (x0, x1, x2, y0, y1, y2) ∨ (p1 = 0 ∧ n1 = 2 ∧ (z0, z1, z2, z3, z4, z5) = own_d1 (x0, x1, x2, y0, y1, y2)))
theorem d10_0 : decode prog_17_method_10_code 0 = .ok (.aload_n 0, 1) := by decide +kernel
theorem d10_1 : decode prog_17_method_10_code 1 = .ok (.getfield 13, 3) := by decide +kernel
theorem d10_4 : decode prog_17_method_10_code 4 = .ok (.iload_n 1, 1) := by decide +kernel
theorem d10_5 : decode prog_17_method_10_code 5 = .ok (.iaload, 1) := by decide +kernel
theorem d10_6 : decode prog_17_method_10_code 6 = .ok (.istore_n 2, 1) := by decide +kernel
theorem d10_7 : decode prog_17_method_10_code 7 = .ok (.iconst 2, 1) := by decide +kernel
theorem d10_8 : decode prog_17_method_10_code 8 = .ok (.iload_n 1, 1) := by decide +kernel
theorem d10_9 : decode prog_17_method_10_code 9 = .ok (.imul, 1) := by decide +kernel
theorem d10_10 : decode prog_17_method_10_code 10 = .ok (.iconst 1, 1) := by decide +kernel
theorem d10_11 : decode prog_17_method_10_code 11 = .ok (.iadd, 1) := by decide +kernel
theorem d10_12 : decode prog_17_method_10_code 12 = .ok (.aload_n 0, 1) := by decide +kernel
theorem d10_13 : decode prog_17_method_10_code 13 = .ok (.getfield 26, 3) := by decide +kernel
theorem d10_16 : decode prog_17_method_10_code 16 = .ok (.if_icmp .ge 76, 3) := by decide +kernel
theorem d10_19 : decode prog_17_method_10_code 19 = .ok (.iconst 2, 1) := by decide +kernel
theorem d10_20 : decode prog_17_method_10_code 20 = .ok (.iload_n 1, 1) := by decide +kernel
theorem d10_21 : decode prog_17_method_10_code 21 = .ok (.imul, 1) := by decide +kernel
theorem d10_22 : decode prog_17_method_10_code 22 = .ok (.iconst 1, 1) := by decide +kernel
theorem d10_23 : decode prog_17_method_10_code 23 = .ok (.iadd, 1) := by decide +kernel
theorem d10_24 : decode prog_17_method_10_code 24 = .ok (.istore_n 3, 1) := by decide +kernel
theorem d10_25 : decode prog_17_method_10_code 25 = .ok (.iload_n 3, 1) := by decide +kernel
theorem d10_26 : decode prog_17_method_10_code 26 = .ok (.iconst 1, 1) := by decide +kernel
theorem d10_27 : decode prog_17_method_10_code 27 = .ok (.iadd, 1) := by decide +kernel
theorem d10_28 : decode prog_17_method_10_code 28 = .ok (.aload_n 0, 1) := by decide +kernel
theorem d10_29 : decode prog_17_method_10_code 29 = .ok (.getfield 26, 3) := by decide +kernel
theorem d10_32 : decode prog_17_method_10_code 32 = .ok (.if_icmp .ge 27, 3) := by decide +kernel
theorem d10_35 : decode prog_17_method_10_code 35 = .ok (.aload_n 0, 1) := by decide +kernel
theorem d10_36 : decode prog_17_method_10_code 36 = .ok (.aload_n 0, 1) := by decide +kernel
theorem d10_37 : decode prog_17_method_10_code 37 = .ok (.getfield 13, 3) := by decide +kernel
theorem d10_40 : decode prog_17_method_10_code 40 = .ok (.iload_n 3, 1) := by decide +kernel
theorem d10_41 : decode prog_17_method_10_code 41 = .ok (.iconst 1, 1) := by decide +kernel
theorem d10_42 : decode prog_17_method_10_code 42 = .ok (.iadd, 1) := by decide +kernel
theorem d10_43 : decode prog_17_method_10_code 43 = .ok (.iaload, 1) := by decide +kernel
theorem d10_44 : decode prog_17_method_10_code 44 = .ok (.aload_n 0, 1) := by decide +kernel
theorem d10_45 : decode prog_17_method_10_code 45 = .ok (.getfield 13, 3) := by decide +kernel
theorem d10_48 : decode prog_17_method_10_code 48 = .ok (.iload_n 3, 1) := by decide +kernel
theorem d10_49 : decode prog_17_method_10_code 49 = .ok (.iaload, 1) := by decide +kernel
theorem d10_50 : decode prog_17_method_10_code 50 = .ok (.invokevirtual 44, 3) := by decide +kernel
theorem d10_53 : decode prog_17_method_10_code 53 = .ok (.ifCond .eq 6, 3) := by decide +kernel
theorem d10_56 : decode prog_17_method_10_code 56 = .ok (.iinc 3 1, 3) := by decide +kernel
theorem d10_59 : decode prog_17_method_10_code 59 = .ok (.aload_n 0, 1) := by decide +kernel
theorem d10_60 : decode prog_17_method_10_code 60 = .ok (.aload_n 0, 1) := by decide +kernel
theorem d10_61 : decode prog_17_method_10_code 61 = .ok (.getfield 13, 3) := by decide +kernel
theorem d10_64 : decode prog_17_method_10_code 64 = .ok (.iload_n 3, 1) := by decide +kernel
theorem d10_65 : decode prog_17_method_10_code 65 = .ok (.iaload, 1) := by decide +kernel
theorem d10_66 : decode prog_17_method_10_code 66 = .ok (.iload_n 2, 1) := by decide +kernel
theorem d10_67 : decode prog_17_method_10_code 67 = .ok (.invokevirtual 44, 3) := by decide +kernel
theorem d10_70 : decode prog_17_method_10_code 70 = .ok (.ifCond .ne 6, 3) := by decide +kernel
theorem d10_73 : decode prog_17_method_10_code 73 = .ok (.goto 19, 3) := by decide +kernel
theorem d10_76 : decode prog_17_method_10_code 76 = .ok (.aload_n 0, 1) := by decide +kernel
theorem d10_77 : decode prog_17_method_10_code 77 = .ok (.aload_n 0, 1) := by decide +kernel
theorem d10_78 : decode prog_17_method_10_code 78 = .ok (.getfield 13, 3) := by decide +kernel
theorem d10_81 : decode prog_17_method_10_code 81 = .ok (.iload_n 3, 1) := by decide +kernel
theorem d10_82 : decode prog_17_method_10_code 82 = .ok (.iaload, 1) := by decide +kernel
theorem d10_83 : decode prog_17_method_10_code 83 = .ok (.iload_n 1, 1) := by decide +kernel
theorem d10_84 : decode prog_17_method_10_code 84 = .ok (.invokevirtual 30, 3) := by decide +kernel
theorem d10_87 : decode prog_17_method_10_code 87 = .ok (.iload_n 3, 1) := by decide +kernel
theorem d10_88 : decode prog_17_method_10_code 88 = .ok (.istore_n 1, 1) := by decide +kernel
theorem d10_89 : decode prog_17_method_10_code 89 = .ok (.goto (-82), 3) := by decide +kernel
theorem d10_92 : decode prog_17_method_10_code 92 = .ok (.aload_n 0, 1) := by decide +kernel
theorem d10_93 : decode prog_17_method_10_code 93 = .ok (.iload_n 2, 1) := by decide +kernel
theorem d10_94 : decode prog_17_method_10_code 94 = .ok (.iload_n 1, 1) := by decide +kernel
theorem d10_95 : decode prog_17_method_10_code 95 = .ok (.invokevirtual 30, 3) := by decide +kernel
theorem d10_98 : decode prog_17_method_10_code 98 = .ok (.return_, 1) := by decide +kernel
theorem pn_sd10 : plainName "com/example/octopoll/octopoll/PageHeap" = true := by first | (simp [plainName, overriddenIn]; done) | decide +kernel
theorem ef_sd10 (m : MethodId) (a0 : Addr) : entryFrame m #[(.ref a0), (.int (0 : Int32))] 4 = mkF m 0 #[.val (.ref a0), .val (.int (0 : Int32)), .unset, .unset] [] := by first | (simp [entryFrame, mkF, argsToLocals, Value.category]; done) | rfl
set_option maxRecDepth 65536 in
set_option maxHeartbeats 40000000 in
theorem rm_sd10 (l : Launch) (Z : State) (av0 : Array Value) (hw : ∀ d ∈ tables_1, d.before av0 Z = true) (ws : List Jvm.Cond) (a0 : Addr) (ka : Addr) (ha : Addr) (pa : Addr) (kk : ClassId) (kh : ClassId) (kp : ClassId) (d0 : UInt64) (d1 : UInt64) (d2 : UInt64) (x0 : Int32) (x1 : Int32) (x2 : Int32) (y0 : Int32) (y1 : Int32) (y2 : Int32) (h0 : Heap) (n0 : Nat) (Z0 : n0 ≤ h0.size) (fi0 : Exa Z h0 a0 "com/example/octopoll/octopoll/PageHeap") (fi1 : Fld Z h0 a0 "com/example/octopoll/octopoll/PageHeap" "key" "[D" (.ref ka)) (fi2 : Fld Z h0 a0 "com/example/octopoll/octopoll/PageHeap" "heap" "[I" (.ref ha)) (fi3 : Fld Z h0 a0 "com/example/octopoll/octopoll/PageHeap" "position" "[I" (.ref pa)) (fi4 : Fld Z h0 a0 "com/example/octopoll/octopoll/PageHeap" "size" "I" (.int (1 : Int32))) (fi5 : Arv Z h0 ka kk .double (3 : Int32) [(.double d0), (.double d1), (.double d2)] (.double 0)) (fi6 : Arv Z h0 ha kh .int (3 : Int32) [(.int x0), (.int x1), (.int x2)] (.int (0 : Int32))) (fi7 : Arv Z h0 pa kp .int (3 : Int32) [(.int y0), (.int y1), (.int y2)] (.int (0 : Int32))) (g_ha : n0 ≤ ha) (g_pa : n0 ≤ pa) (ne_a0_ha : a0 ≠ ha) (ne_a0_pa : a0 ≠ pa) (ne_ha_pa : ha ≠ pa) (ne_a0_ka : a0 ≠ ka) (ne_ka_ha : ka ≠ ha) (ne_ka_pa : ka ≠ pa) (hx0 : own_bd x0) (hx1 : own_bd x1) (hx2 : own_bd x2) :
    MetFree l (⟨"com/example/octopoll/octopoll/PageHeap", "siftDown", "(I)V"⟩ : MethodName) (head1 (Jvm.Cond.code (⟨"com/example/octopoll/octopoll/PageHeap", "siftDown", "(I)V"⟩ : MethodName) prog_17_method_10_code 4 none :: ws) ({ frames := 1, cells := 0, slots := 0, locals := 16 } : Room)) (fun a U => a = #[(.ref a0), (.int (0 : Int32))] ∧ Z.Warmed39 U.vm ∧ U.heap = h0) (fun _ _ _ _ _ => True) (fun _ U o U' => ∃ v L, o = .returned v ∧ Q_sd Z a0 (0 : Int32) (1 : Int32) ka ha pa kk kh kp d0 d1 d2 x0 x1 x2 y0 y1 y2 h0 n0 v U'.heap L ∧ FrameEnd U o U' L ({ frames := 1, cells := 0, slots := 0, locals := 16 } : Room).cells ({ frames := 1, cells := 0, slots := 0, locals := 16 } : Room).slots) := by
  refine MetFree.of_bodySF (plainFor_of_name pn_sd10) hisR ?_
  intro p e s m args below meth c s₁ Bd hml0 hP hK
  obtain ⟨rfl, hZ, hh⟩ := hP
  have hx := Bd.exec
  have hby := Bd.bytes
  have hml : c.maxLocals = 4 := hml0
  have hown : s.vm.findClass "com/example/octopoll/octopoll/PageHeap" = some m.cls := findClass_of_methodNamed Bd.named
  have hnm := (name_of_methodNamed Bd.named Bd.method).1
  have X0 : Stand p l e ({ frames := 1, cells := 0, slots := 0, locals := 16 } : Room) s m #[(.ref a0), (.int (0 : Int32))] below meth c s₁ [] 0 0 := Stand.of_body Bd
  have e0 : s₁.heap = h0 := by rw [← hh, Bd.state]; rfl
  have N0 := Fr.nil n0
  have pre0 : Go p.tables e below (s₁.setTop (entryFrame m #[(.ref a0), (.int (0 : Int32))] 4)) s₁ (mkF m 0 #[.val (.ref a0), .val (.int (0 : Int32)), .unset, .unset] []) := fun t k => castTop (ef_sd10 m a0) k
  have K0 : Keep h0 h0 [ha, pa] := Keep.refl _ _
  have pre1 : Go p.tables e below (s₁.setTop (entryFrame m #[(.ref a0), (.int (0 : Int32))] 4)) s₁ (mkF m 1 #[.val (.ref a0), .val (.int (0 : Int32)), .unset, .unset] [(.ref a0)]) := fun t k => pre0 t (by
      refine XS.aloadN X0.here hx rfl (hb hby d10_0) rfl rfl ?_
      exact k)
  obtain ⟨T2, X2, e2, st2⟩ := getF X0 hx hZ hown (host := "") (Or.inl (hw _ (List.mem_of_getElem? (i := 13) rfl))) Via.refl e0 fi2 (g := (mkF m 1 #[.val (.ref a0), .val (.int (0 : Int32)), .unset, .unset] [(.ref a0)])) rfl rfl (hb hby d10_1)
  have pre2 : Go p.tables e below (s₁.setTop (entryFrame m #[(.ref a0), (.int (0 : Int32))] 4)) T2 (mkF m 4 #[.val (.ref a0), .val (.int (0 : Int32)), .unset, .unset] [(.ref ha)]) := fun t k => pre1 t (st2 _ k)
  have pre3 : Go p.tables e below (s₁.setTop (entryFrame m #[(.ref a0), (.int (0 : Int32))] 4)) T2 (mkF m 5 #[.val (.ref a0), .val (.int (0 : Int32)), .unset, .unset] [(.int (0 : Int32)), (.ref ha)]) := fun t k => pre2 t (by
      refine XS.iloadN X2.here hx rfl (hb hby d10_4) rfl ?_
      exact k)
  obtain ⟨c4, Ar4, q4, S4, M4, H4, G4⟩ := (id fi6)
  have hin4 : ¬ ((0 : Int32) < 0 ∨ c4.slots.size ≤ ((0 : Int32)).toNatClampNeg) := inb_of S4 ⟨by decide, by decide⟩
  have pre4 : Go p.tables e below (s₁.setTop (entryFrame m #[(.ref a0), (.int (0 : Int32))] 4)) T2 (mkF m 6 #[.val (.ref a0), .val (.int (0 : Int32)), .unset, .unset] [(.int x0)]) := fun t k => pre3 t (X2.iaload hx (j := (0 : Int32)) (v := (.int x0)) (by rw [e2]; exact Ar4.1) (State.isArrayOf_alike hZ.alike Ar4.2.1) Ar4.2.2 hin4 (H4.at hin4 rfl) (g := (mkF m 5 #[.val (.ref a0), .val (.int (0 : Int32)), .unset, .unset] [(.int (0 : Int32)), (.ref ha)])) rfl rfl (hb hby d10_5) _ k)
  have pre5 : Go p.tables e below (s₁.setTop (entryFrame m #[(.ref a0), (.int (0 : Int32))] 4)) T2 (mkF m 13 #[.val (.ref a0), .val (.int (0 : Int32)), .val (.int x0), .unset] [(.ref a0), (.int (1 : Int32))]) := fun t k => pre4 t (by
      refine XS.istoreN X2.here hx rfl (hb hby d10_6) rfl (l' := #[.val (.ref a0), .val (.int (0 : Int32)), .val (.int x0), .unset]) rfl ?_
      show Steps p.tables e below (T2.setTop (mkF m 7 #[.val (.ref a0), .val (.int (0 : Int32)), .val (.int x0), .unset] [])) _
      refine XS.iconst X2.here hx rfl (hb hby d10_7) ?_
      show Steps p.tables e below (T2.setTop (mkF m 8 #[.val (.ref a0), .val (.int (0 : Int32)), .val (.int x0), .unset] [(.int (2 : Int32))])) _
      refine XS.iloadN X2.here hx rfl (hb hby d10_8) rfl ?_
      show Steps p.tables e below (T2.setTop (mkF m 9 #[.val (.ref a0), .val (.int (0 : Int32)), .val (.int x0), .unset] [(.int (0 : Int32)), (.int (2 : Int32))])) _
      refine XS.imul X2.here hx rfl (hb hby d10_9) rfl ?_
      show Steps p.tables e below (T2.setTop (mkF m 10 #[.val (.ref a0), .val (.int (0 : Int32)), .val (.int x0), .unset] [(.int (0 : Int32))])) _
      refine XS.iconst X2.here hx rfl (hb hby d10_10) ?_
      show Steps p.tables e below (T2.setTop (mkF m 11 #[.val (.ref a0), .val (.int (0 : Int32)), .val (.int x0), .unset] [(.int (1 : Int32)), (.int (0 : Int32))])) _
      refine XS.iadd X2.here hx rfl (hb hby d10_11) rfl ?_
      show Steps p.tables e below (T2.setTop (mkF m 12 #[.val (.ref a0), .val (.int (0 : Int32)), .val (.int x0), .unset] [(.int (1 : Int32))])) _
      refine XS.aloadN X2.here hx rfl (hb hby d10_12) rfl rfl ?_
      exact k)
  obtain ⟨T6, X6, e6, st6⟩ := getF X2 hx hZ hown (host := "") (Or.inl (hw _ (List.mem_of_getElem? (i := 26) rfl))) Via.refl e2 fi4 (g := (mkF m 13 #[.val (.ref a0), .val (.int (0 : Int32)), .val (.int x0), .unset] [(.ref a0), (.int (1 : Int32))])) rfl rfl (hb hby d10_13)
  have pre6 : Go p.tables e below (s₁.setTop (entryFrame m #[(.ref a0), (.int (0 : Int32))] 4)) T6 (mkF m 16 #[.val (.ref a0), .val (.int (0 : Int32)), .val (.int x0), .unset] [(.int (1 : Int32)), (.int (1 : Int32))]) := fun t k => pre5 t (st6 _ k)
  have pre7 : Go p.tables e below (s₁.setTop (entryFrame m #[(.ref a0), (.int (0 : Int32))] 4)) T6 (mkF m 95 #[.val (.ref a0), .val (.int (0 : Int32)), .val (.int x0), .unset] [(.int (0 : Int32)), (.int x0), (.ref a0)]) := fun t k => pre6 t (by
      refine XS.icmpYes X6.here hx rfl (pc0 := 16) (pc' := 92) rfl (hb hby d10_16) rfl (flt (by decide)).2.1 (by decide) (by decide) ?_
      show Steps p.tables e below (T6.setTop (mkF m 92 #[.val (.ref a0), .val (.int (0 : Int32)), .val (.int x0), .unset] [])) _
      refine XS.aloadN X6.here hx rfl (hb hby d10_92) rfl rfl ?_
      show Steps p.tables e below (T6.setTop (mkF m 93 #[.val (.ref a0), .val (.int (0 : Int32)), .val (.int x0), .unset] [(.ref a0)])) _
      refine XS.iloadN X6.here hx rfl (hb hby d10_93) rfl ?_
      show Steps p.tables e below (T6.setTop (mkF m 94 #[.val (.ref a0), .val (.int (0 : Int32)), .val (.int x0), .unset] [(.int x0), (.ref a0)])) _
      refine XS.iloadN X6.here hx rfl (hb hby d10_94) rfl ?_
      exact k)
  obtain ⟨cq8, q8, q8'⟩ := fi0.cell
  obtain ⟨_, _, ⟨T8, L8, k8, n8⟩, -, X8, ⟨Lc8, hQ8, l8, y8, z8⟩, st8⟩ := own_private X6 hx (y := (⟨"com/example/octopoll/octopoll/PageHeap", "place", "(II)V"⟩ : MethodName)) hown (mvT hZ (hw _ (List.mem_of_getElem? (i := 33) rfl))) (mvT hZ (hw _ (List.mem_of_getElem? (i := 34) rfl))) (mvT hZ (hw _ (List.mem_of_getElem? (i := 24) rfl))) rfl (Cond.privateMethod_at (mvP hZ (hw _ (List.mem_of_getElem? (i := 35) rfl)) (args := #[]))) (mvT hZ (hw _ (List.mem_of_getElem? (i := 36) rfl))) (by decide) (backOf (W := 0) (rm_plc l Z av0 hw [] a0 x0 (0 : Int32) ha pa kh kp x0 x1 x2 y0 y1 y2 h0 n0 Z0 fi2 fi3 fi6 fi7 g_ha g_pa ne_a0_ha ne_a0_pa ne_ha_pa hx0 (by decide)) hZ (hw _ (List.mem_of_getElem? (i := 36) rfl)) (hw _ (List.mem_of_getElem? (i := 3) rfl)) (by decide) (by decide)) (a := a0) (by rw [e6]; exact q8) q8' (g := (mkF m 95 #[.val (.ref a0), .val (.int (0 : Int32)), .val (.int x0), .unset] [(.int (0 : Int32)), (.int x0), (.ref a0)])) rfl (by rw [hml]; rfl) (argsL := [(.int x0), (.int (0 : Int32))]) (rest := []) (lenOf pd_0 rfl) rfl (by show 2 * 0 + _ ≤ _; exact Nat.le_of_eq rfl) (hb hby d10_95) (fun _ _ => ⟨rfl, e6, (by decide : 0 + 0 ≤ _), (by decide : 0 + 0 ≤ _)⟩)
  dsimp only [Pt.U, Pt.locs, Pt.cells, Pt.slots] at X8 l8 y8 z8 st8 hQ8
  subst l8 y8 z8
  obtain ⟨hv8, N8q, K8, fo8_0, fo8_1⟩ := hQ8
  have f9 : n0 ≤ T8.heap.size := Nat.le_trans Z0 K8.1
  have f10 : Exa Z T8.heap a0 "com/example/octopoll/octopoll/PageHeap" := fi0.keep K8
  have f11 : Fld Z T8.heap a0 "com/example/octopoll/octopoll/PageHeap" "key" "[D" (.ref ka) := fi1.keep K8 (ninS ne_a0_ha (ninS ne_a0_pa nin0))
  have f12 : Fld Z T8.heap a0 "com/example/octopoll/octopoll/PageHeap" "heap" "[I" (.ref ha) := fi2.keep K8 (ninS ne_a0_ha (ninS ne_a0_pa nin0))
  have f13 : Fld Z T8.heap a0 "com/example/octopoll/octopoll/PageHeap" "position" "[I" (.ref pa) := fi3.keep K8 (ninS ne_a0_ha (ninS ne_a0_pa nin0))
  have f14 : Fld Z T8.heap a0 "com/example/octopoll/octopoll/PageHeap" "size" "I" (.int (1 : Int32)) := fi4.keep K8 (ninS ne_a0_ha (ninS ne_a0_pa nin0))
  have f15 : Arv Z T8.heap ka kk .double (3 : Int32) [(.double d0), (.double d1), (.double d2)] (.double 0) := fi5.keep K8 (ninS ne_ka_ha (ninS ne_ka_pa nin0))
  have f16 : Keep h0 T8.heap [ha, pa] := K0.trans K8 (allS (Or.inl (List.mem_of_getElem? (i := 0) rfl)) (allS (Or.inl (List.mem_of_getElem? (i := 1) rfl)) all0))
  subst hv8
  have N8 := Fr.app N0 N8q
  have pre8 : Go p.tables e below (s₁.setTop (entryFrame m #[(.ref a0), (.int (0 : Int32))] 4)) T8 (mkF m 98 #[.val (.ref a0), .val (.int (0 : Int32)), .val (.int x0), .unset] []) := fun t k => pre7 t (st8 _ k)
  obtain ⟨fs, hr, hrun, hended, hW, hsame⟩ := X8.leave (v := none) (fun _ => rfl) (BodyLoose.notSynchronized Bd)
  refine ⟨_, _, pre8 _ ?_, hrun, hended, _, _, rfl, ?_, ⟨_, rfl⟩, hW, hsame.mono (Nat.le_of_ble_eq_true rfl) (Nat.le_of_ble_eq_true rfl)⟩
  · exact X8.returnOut hx Bd.returns (hb hby d10_98) hr
  · show Q_sd Z a0 (0 : Int32) (1 : Int32) ka ha pa kk kh kp d0 d1 d2 x0 x1 x2 y0 y1 y2 h0 n0 _ T8.heap _
    exact ⟨x0, x1, x2, (own_u 0 x0 (0 : Int32) y0), (own_u 1 x0 (0 : Int32) y1), (own_u 2 x0 (0 : Int32) y2), rfl, N8, f16, fo8_0, fo8_1, (Or.inl rfl)⟩
theorem pn_sd11 : plainName "com/example/octopoll/octopoll/PageHeap" = true := by first | (simp [plainName, overriddenIn]; done) | decide +kernel
theorem ef_sd11 (m : MethodId) (a0 : Addr) : entryFrame m #[(.ref a0), (.int (1 : Int32))] 4 = mkF m 0 #[.val (.ref a0), .val (.int (1 : Int32)), .unset, .unset] [] := by first | (simp [entryFrame, mkF, argsToLocals, Value.category]; done) | rfl
set_option maxRecDepth 65536 in
set_option maxHeartbeats 40000000 in
theorem rm_sd11 (l : Launch) (Z : State) (av0 : Array Value) (hw : ∀ d ∈ tables_1, d.before av0 Z = true) (ws : List Jvm.Cond) (a0 : Addr) (ka : Addr) (ha : Addr) (pa : Addr) (kk : ClassId) (kh : ClassId) (kp : ClassId) (d0 : UInt64) (d1 : UInt64) (d2 : UInt64) (x0 : Int32) (x1 : Int32) (x2 : Int32) (y0 : Int32) (y1 : Int32) (y2 : Int32) (h0 : Heap) (n0 : Nat) (Z0 : n0 ≤ h0.size) (fi0 : Exa Z h0 a0 "com/example/octopoll/octopoll/PageHeap") (fi1 : Fld Z h0 a0 "com/example/octopoll/octopoll/PageHeap" "key" "[D" (.ref ka)) (fi2 : Fld Z h0 a0 "com/example/octopoll/octopoll/PageHeap" "heap" "[I" (.ref ha)) (fi3 : Fld Z h0 a0 "com/example/octopoll/octopoll/PageHeap" "position" "[I" (.ref pa)) (fi4 : Fld Z h0 a0 "com/example/octopoll/octopoll/PageHeap" "size" "I" (.int (1 : Int32))) (fi5 : Arv Z h0 ka kk .double (3 : Int32) [(.double d0), (.double d1), (.double d2)] (.double 0)) (fi6 : Arv Z h0 ha kh .int (3 : Int32) [(.int x0), (.int x1), (.int x2)] (.int (0 : Int32))) (fi7 : Arv Z h0 pa kp .int (3 : Int32) [(.int y0), (.int y1), (.int y2)] (.int (0 : Int32))) (g_ha : n0 ≤ ha) (g_pa : n0 ≤ pa) (ne_a0_ha : a0 ≠ ha) (ne_a0_pa : a0 ≠ pa) (ne_ha_pa : ha ≠ pa) (ne_a0_ka : a0 ≠ ka) (ne_ka_ha : ka ≠ ha) (ne_ka_pa : ka ≠ pa) (hx0 : own_bd x0) (hx1 : own_bd x1) (hx2 : own_bd x2) :
    MetFree l (⟨"com/example/octopoll/octopoll/PageHeap", "siftDown", "(I)V"⟩ : MethodName) (head1 (Jvm.Cond.code (⟨"com/example/octopoll/octopoll/PageHeap", "siftDown", "(I)V"⟩ : MethodName) prog_17_method_10_code 4 none :: ws) ({ frames := 1, cells := 0, slots := 0, locals := 16 } : Room)) (fun a U => a = #[(.ref a0), (.int (1 : Int32))] ∧ Z.Warmed39 U.vm ∧ U.heap = h0) (fun _ _ _ _ _ => True) (fun _ U o U' => ∃ v L, o = .returned v ∧ Q_sd Z a0 (1 : Int32) (1 : Int32) ka ha pa kk kh kp d0 d1 d2 x0 x1 x2 y0 y1 y2 h0 n0 v U'.heap L ∧ FrameEnd U o U' L ({ frames := 1, cells := 0, slots := 0, locals := 16 } : Room).cells ({ frames := 1, cells := 0, slots := 0, locals := 16 } : Room).slots) := by
  refine MetFree.of_bodySF (plainFor_of_name pn_sd11) hisR ?_
  intro p e s m args below meth c s₁ Bd hml0 hP hK
  obtain ⟨rfl, hZ, hh⟩ := hP
  have hx := Bd.exec
  have hby := Bd.bytes
  have hml : c.maxLocals = 4 := hml0
  have hown : s.vm.findClass "com/example/octopoll/octopoll/PageHeap" = some m.cls := findClass_of_methodNamed Bd.named
  have hnm := (name_of_methodNamed Bd.named Bd.method).1
  have X0 : Stand p l e ({ frames := 1, cells := 0, slots := 0, locals := 16 } : Room) s m #[(.ref a0), (.int (1 : Int32))] below meth c s₁ [] 0 0 := Stand.of_body Bd
  have e0 : s₁.heap = h0 := by rw [← hh, Bd.state]; rfl
  have N0 := Fr.nil n0
  have pre0 : Go p.tables e below (s₁.setTop (entryFrame m #[(.ref a0), (.int (1 : Int32))] 4)) s₁ (mkF m 0 #[.val (.ref a0), .val (.int (1 : Int32)), .unset, .unset] []) := fun t k => castTop (ef_sd11 m a0) k
  have K0 : Keep h0 h0 [ha, pa] := Keep.refl _ _
  have pre1 : Go p.tables e below (s₁.setTop (entryFrame m #[(.ref a0), (.int (1 : Int32))] 4)) s₁ (mkF m 1 #[.val (.ref a0), .val (.int (1 : Int32)), .unset, .unset] [(.ref a0)]) := fun t k => pre0 t (by
      refine XS.aloadN X0.here hx rfl (hb hby d10_0) rfl rfl ?_
      exact k)
  obtain ⟨T2, X2, e2, st2⟩ := getF X0 hx hZ hown (host := "") (Or.inl (hw _ (List.mem_of_getElem? (i := 13) rfl))) Via.refl e0 fi2 (g := (mkF m 1 #[.val (.ref a0), .val (.int (1 : Int32)), .unset, .unset] [(.ref a0)])) rfl rfl (hb hby d10_1)
  have pre2 : Go p.tables e below (s₁.setTop (entryFrame m #[(.ref a0), (.int (1 : Int32))] 4)) T2 (mkF m 4 #[.val (.ref a0), .val (.int (1 : Int32)), .unset, .unset] [(.ref ha)]) := fun t k => pre1 t (st2 _ k)
  have pre3 : Go p.tables e below (s₁.setTop (entryFrame m #[(.ref a0), (.int (1 : Int32))] 4)) T2 (mkF m 5 #[.val (.ref a0), .val (.int (1 : Int32)), .unset, .unset] [(.int (1 : Int32)), (.ref ha)]) := fun t k => pre2 t (by
      refine XS.iloadN X2.here hx rfl (hb hby d10_4) rfl ?_
      exact k)
  obtain ⟨c4, Ar4, q4, S4, M4, H4, G4⟩ := (id fi6)
  have hin4 : ¬ ((1 : Int32) < 0 ∨ c4.slots.size ≤ ((1 : Int32)).toNatClampNeg) := inb_of S4 ⟨by decide, by decide⟩
  have pre4 : Go p.tables e below (s₁.setTop (entryFrame m #[(.ref a0), (.int (1 : Int32))] 4)) T2 (mkF m 6 #[.val (.ref a0), .val (.int (1 : Int32)), .unset, .unset] [(.int x1)]) := fun t k => pre3 t (X2.iaload hx (j := (1 : Int32)) (v := (.int x1)) (by rw [e2]; exact Ar4.1) (State.isArrayOf_alike hZ.alike Ar4.2.1) Ar4.2.2 hin4 (H4.at hin4 rfl) (g := (mkF m 5 #[.val (.ref a0), .val (.int (1 : Int32)), .unset, .unset] [(.int (1 : Int32)), (.ref ha)])) rfl rfl (hb hby d10_5) _ k)
  have pre5 : Go p.tables e below (s₁.setTop (entryFrame m #[(.ref a0), (.int (1 : Int32))] 4)) T2 (mkF m 13 #[.val (.ref a0), .val (.int (1 : Int32)), .val (.int x1), .unset] [(.ref a0), (.int (3 : Int32))]) := fun t k => pre4 t (by
      refine XS.istoreN X2.here hx rfl (hb hby d10_6) rfl (l' := #[.val (.ref a0), .val (.int (1 : Int32)), .val (.int x1), .unset]) rfl ?_
      show Steps p.tables e below (T2.setTop (mkF m 7 #[.val (.ref a0), .val (.int (1 : Int32)), .val (.int x1), .unset] [])) _
      refine XS.iconst X2.here hx rfl (hb hby d10_7) ?_
      show Steps p.tables e below (T2.setTop (mkF m 8 #[.val (.ref a0), .val (.int (1 : Int32)), .val (.int x1), .unset] [(.int (2 : Int32))])) _
      refine XS.iloadN X2.here hx rfl (hb hby d10_8) rfl ?_
      show Steps p.tables e below (T2.setTop (mkF m 9 #[.val (.ref a0), .val (.int (1 : Int32)), .val (.int x1), .unset] [(.int (1 : Int32)), (.int (2 : Int32))])) _
      refine XS.imul X2.here hx rfl (hb hby d10_9) rfl ?_
      show Steps p.tables e below (T2.setTop (mkF m 10 #[.val (.ref a0), .val (.int (1 : Int32)), .val (.int x1), .unset] [(.int (2 : Int32))])) _
      refine XS.iconst X2.here hx rfl (hb hby d10_10) ?_
      show Steps p.tables e below (T2.setTop (mkF m 11 #[.val (.ref a0), .val (.int (1 : Int32)), .val (.int x1), .unset] [(.int (1 : Int32)), (.int (2 : Int32))])) _
      refine XS.iadd X2.here hx rfl (hb hby d10_11) rfl ?_
      show Steps p.tables e below (T2.setTop (mkF m 12 #[.val (.ref a0), .val (.int (1 : Int32)), .val (.int x1), .unset] [(.int (3 : Int32))])) _
      refine XS.aloadN X2.here hx rfl (hb hby d10_12) rfl rfl ?_
      exact k)
  obtain ⟨T6, X6, e6, st6⟩ := getF X2 hx hZ hown (host := "") (Or.inl (hw _ (List.mem_of_getElem? (i := 26) rfl))) Via.refl e2 fi4 (g := (mkF m 13 #[.val (.ref a0), .val (.int (1 : Int32)), .val (.int x1), .unset] [(.ref a0), (.int (3 : Int32))])) rfl rfl (hb hby d10_13)
  have pre6 : Go p.tables e below (s₁.setTop (entryFrame m #[(.ref a0), (.int (1 : Int32))] 4)) T6 (mkF m 16 #[.val (.ref a0), .val (.int (1 : Int32)), .val (.int x1), .unset] [(.int (1 : Int32)), (.int (3 : Int32))]) := fun t k => pre5 t (st6 _ k)
  have pre7 : Go p.tables e below (s₁.setTop (entryFrame m #[(.ref a0), (.int (1 : Int32))] 4)) T6 (mkF m 95 #[.val (.ref a0), .val (.int (1 : Int32)), .val (.int x1), .unset] [(.int (1 : Int32)), (.int x1), (.ref a0)]) := fun t k => pre6 t (by
      refine XS.icmpYes X6.here hx rfl (pc0 := 16) (pc' := 92) rfl (hb hby d10_16) rfl (flt (by decide)).2.1 (by decide) (by decide) ?_
      show Steps p.tables e below (T6.setTop (mkF m 92 #[.val (.ref a0), .val (.int (1 : Int32)), .val (.int x1), .unset] [])) _
      refine XS.aloadN X6.here hx rfl (hb hby d10_92) rfl rfl ?_
      show Steps p.tables e below (T6.setTop (mkF m 93 #[.val (.ref a0), .val (.int (1 : Int32)), .val (.int x1), .unset] [(.ref a0)])) _
      refine XS.iloadN X6.here hx rfl (hb hby d10_93) rfl ?_
      show Steps p.tables e below (T6.setTop (mkF m 94 #[.val (.ref a0), .val (.int (1 : Int32)), .val (.int x1), .unset] [(.int x1), (.ref a0)])) _
      refine XS.iloadN X6.here hx rfl (hb hby d10_94) rfl ?_
      exact k)
  obtain ⟨cq8, q8, q8'⟩ := fi0.cell
  obtain ⟨_, _, ⟨T8, L8, k8, n8⟩, -, X8, ⟨Lc8, hQ8, l8, y8, z8⟩, st8⟩ := own_private X6 hx (y := (⟨"com/example/octopoll/octopoll/PageHeap", "place", "(II)V"⟩ : MethodName)) hown (mvT hZ (hw _ (List.mem_of_getElem? (i := 33) rfl))) (mvT hZ (hw _ (List.mem_of_getElem? (i := 34) rfl))) (mvT hZ (hw _ (List.mem_of_getElem? (i := 24) rfl))) rfl (Cond.privateMethod_at (mvP hZ (hw _ (List.mem_of_getElem? (i := 35) rfl)) (args := #[]))) (mvT hZ (hw _ (List.mem_of_getElem? (i := 36) rfl))) (by decide) (backOf (W := 0) (rm_plc l Z av0 hw [] a0 x1 (1 : Int32) ha pa kh kp x0 x1 x2 y0 y1 y2 h0 n0 Z0 fi2 fi3 fi6 fi7 g_ha g_pa ne_a0_ha ne_a0_pa ne_ha_pa hx1 (by decide)) hZ (hw _ (List.mem_of_getElem? (i := 36) rfl)) (hw _ (List.mem_of_getElem? (i := 3) rfl)) (by decide) (by decide)) (a := a0) (by rw [e6]; exact q8) q8' (g := (mkF m 95 #[.val (.ref a0), .val (.int (1 : Int32)), .val (.int x1), .unset] [(.int (1 : Int32)), (.int x1), (.ref a0)])) rfl (by rw [hml]; rfl) (argsL := [(.int x1), (.int (1 : Int32))]) (rest := []) (lenOf pd_0 rfl) rfl (by show 2 * 0 + _ ≤ _; exact Nat.le_of_eq rfl) (hb hby d10_95) (fun _ _ => ⟨rfl, e6, (by decide : 0 + 0 ≤ _), (by decide : 0 + 0 ≤ _)⟩)
  dsimp only [Pt.U, Pt.locs, Pt.cells, Pt.slots] at X8 l8 y8 z8 st8 hQ8
  subst l8 y8 z8
  obtain ⟨hv8, N8q, K8, fo8_0, fo8_1⟩ := hQ8
  have f9 : n0 ≤ T8.heap.size := Nat.le_trans Z0 K8.1
  have f10 : Exa Z T8.heap a0 "com/example/octopoll/octopoll/PageHeap" := fi0.keep K8
  have f11 : Fld Z T8.heap a0 "com/example/octopoll/octopoll/PageHeap" "key" "[D" (.ref ka) := fi1.keep K8 (ninS ne_a0_ha (ninS ne_a0_pa nin0))
  have f12 : Fld Z T8.heap a0 "com/example/octopoll/octopoll/PageHeap" "heap" "[I" (.ref ha) := fi2.keep K8 (ninS ne_a0_ha (ninS ne_a0_pa nin0))
  have f13 : Fld Z T8.heap a0 "com/example/octopoll/octopoll/PageHeap" "position" "[I" (.ref pa) := fi3.keep K8 (ninS ne_a0_ha (ninS ne_a0_pa nin0))
  have f14 : Fld Z T8.heap a0 "com/example/octopoll/octopoll/PageHeap" "size" "I" (.int (1 : Int32)) := fi4.keep K8 (ninS ne_a0_ha (ninS ne_a0_pa nin0))
  have f15 : Arv Z T8.heap ka kk .double (3 : Int32) [(.double d0), (.double d1), (.double d2)] (.double 0) := fi5.keep K8 (ninS ne_ka_ha (ninS ne_ka_pa nin0))
  have f16 : Keep h0 T8.heap [ha, pa] := K0.trans K8 (allS (Or.inl (List.mem_of_getElem? (i := 0) rfl)) (allS (Or.inl (List.mem_of_getElem? (i := 1) rfl)) all0))
  subst hv8
  have N8 := Fr.app N0 N8q
  have pre8 : Go p.tables e below (s₁.setTop (entryFrame m #[(.ref a0), (.int (1 : Int32))] 4)) T8 (mkF m 98 #[.val (.ref a0), .val (.int (1 : Int32)), .val (.int x1), .unset] []) := fun t k => pre7 t (st8 _ k)
  obtain ⟨fs, hr, hrun, hended, hW, hsame⟩ := X8.leave (v := none) (fun _ => rfl) (BodyLoose.notSynchronized Bd)
  refine ⟨_, _, pre8 _ ?_, hrun, hended, _, _, rfl, ?_, ⟨_, rfl⟩, hW, hsame.mono (Nat.le_of_ble_eq_true rfl) (Nat.le_of_ble_eq_true rfl)⟩
  · exact X8.returnOut hx Bd.returns (hb hby d10_98) hr
  · show Q_sd Z a0 (1 : Int32) (1 : Int32) ka ha pa kk kh kp d0 d1 d2 x0 x1 x2 y0 y1 y2 h0 n0 _ T8.heap _
    exact ⟨x0, x1, x2, (own_u 0 x1 (1 : Int32) y0), (own_u 1 x1 (1 : Int32) y1), (own_u 2 x1 (1 : Int32) y2), rfl, N8, f16, fo8_0, fo8_1, (Or.inl rfl)⟩
theorem pn_sd12 : plainName "com/example/octopoll/octopoll/PageHeap" = true := by first | (simp [plainName, overriddenIn]; done) | decide +kernel
theorem ef_sd12 (m : MethodId) (a0 : Addr) : entryFrame m #[(.ref a0), (.int (2 : Int32))] 4 = mkF m 0 #[.val (.ref a0), .val (.int (2 : Int32)), .unset, .unset] [] := by first | (simp [entryFrame, mkF, argsToLocals, Value.category]; done) | rfl
set_option maxRecDepth 65536 in
set_option maxHeartbeats 40000000 in
theorem rm_sd12 (l : Launch) (Z : State) (av0 : Array Value) (hw : ∀ d ∈ tables_1, d.before av0 Z = true) (ws : List Jvm.Cond) (a0 : Addr) (ka : Addr) (ha : Addr) (pa : Addr) (kk : ClassId) (kh : ClassId) (kp : ClassId) (d0 : UInt64) (d1 : UInt64) (d2 : UInt64) (x0 : Int32) (x1 : Int32) (x2 : Int32) (y0 : Int32) (y1 : Int32) (y2 : Int32) (h0 : Heap) (n0 : Nat) (Z0 : n0 ≤ h0.size) (fi0 : Exa Z h0 a0 "com/example/octopoll/octopoll/PageHeap") (fi1 : Fld Z h0 a0 "com/example/octopoll/octopoll/PageHeap" "key" "[D" (.ref ka)) (fi2 : Fld Z h0 a0 "com/example/octopoll/octopoll/PageHeap" "heap" "[I" (.ref ha)) (fi3 : Fld Z h0 a0 "com/example/octopoll/octopoll/PageHeap" "position" "[I" (.ref pa)) (fi4 : Fld Z h0 a0 "com/example/octopoll/octopoll/PageHeap" "size" "I" (.int (1 : Int32))) (fi5 : Arv Z h0 ka kk .double (3 : Int32) [(.double d0), (.double d1), (.double d2)] (.double 0)) (fi6 : Arv Z h0 ha kh .int (3 : Int32) [(.int x0), (.int x1), (.int x2)] (.int (0 : Int32))) (fi7 : Arv Z h0 pa kp .int (3 : Int32) [(.int y0), (.int y1), (.int y2)] (.int (0 : Int32))) (g_ha : n0 ≤ ha) (g_pa : n0 ≤ pa) (ne_a0_ha : a0 ≠ ha) (ne_a0_pa : a0 ≠ pa) (ne_ha_pa : ha ≠ pa) (ne_a0_ka : a0 ≠ ka) (ne_ka_ha : ka ≠ ha) (ne_ka_pa : ka ≠ pa) (hx0 : own_bd x0) (hx1 : own_bd x1) (hx2 : own_bd x2) :
    MetFree l (⟨"com/example/octopoll/octopoll/PageHeap", "siftDown", "(I)V"⟩ : MethodName) (head1 (Jvm.Cond.code (⟨"com/example/octopoll/octopoll/PageHeap", "siftDown", "(I)V"⟩ : MethodName) prog_17_method_10_code 4 none :: ws) ({ frames := 1, cells := 0, slots := 0, locals := 16 } : Room)) (fun a U => a = #[(.ref a0), (.int (2 : Int32))] ∧ Z.Warmed39 U.vm ∧ U.heap = h0) (fun _ _ _ _ _ => True) (fun _ U o U' => ∃ v L, o = .returned v ∧ Q_sd Z a0 (2 : Int32) (1 : Int32) ka ha pa kk kh kp d0 d1 d2 x0 x1 x2 y0 y1 y2 h0 n0 v U'.heap L ∧ FrameEnd U o U' L ({ frames := 1, cells := 0, slots := 0, locals := 16 } : Room).cells ({ frames := 1, cells := 0, slots := 0, locals := 16 } : Room).slots) := by
  refine MetFree.of_bodySF (plainFor_of_name pn_sd12) hisR ?_
  intro p e s m args below meth c s₁ Bd hml0 hP hK
  obtain ⟨rfl, hZ, hh⟩ := hP
  have hx := Bd.exec
  have hby := Bd.bytes
  have hml : c.maxLocals = 4 := hml0
  have hown : s.vm.findClass "com/example/octopoll/octopoll/PageHeap" = some m.cls := findClass_of_methodNamed Bd.named
  have hnm := (name_of_methodNamed Bd.named Bd.method).1
  have X0 : Stand p l e ({ frames := 1, cells := 0, slots := 0, locals := 16 } : Room) s m #[(.ref a0), (.int (2 : Int32))] below meth c s₁ [] 0 0 := Stand.of_body Bd
  have e0 : s₁.heap = h0 := by rw [← hh, Bd.state]; rfl
  have N0 := Fr.nil n0
  have pre0 : Go p.tables e below (s₁.setTop (entryFrame m #[(.ref a0), (.int (2 : Int32))] 4)) s₁ (mkF m 0 #[.val (.ref a0), .val (.int (2 : Int32)), .unset, .unset] []) := fun t k => castTop (ef_sd12 m a0) k
  have K0 : Keep h0 h0 [ha, pa] := Keep.refl _ _
  have pre1 : Go p.tables e below (s₁.setTop (entryFrame m #[(.ref a0), (.int (2 : Int32))] 4)) s₁ (mkF m 1 #[.val (.ref a0), .val (.int (2 : Int32)), .unset, .unset] [(.ref a0)]) := fun t k => pre0 t (by
      refine XS.aloadN X0.here hx rfl (hb hby d10_0) rfl rfl ?_
      exact k)
  obtain ⟨T2, X2, e2, st2⟩ := getF X0 hx hZ hown (host := "") (Or.inl (hw _ (List.mem_of_getElem? (i := 13) rfl))) Via.refl e0 fi2 (g := (mkF m 1 #[.val (.ref a0), .val (.int (2 : Int32)), .unset, .unset] [(.ref a0)])) rfl rfl (hb hby d10_1)
  have pre2 : Go p.tables e below (s₁.setTop (entryFrame m #[(.ref a0), (.int (2 : Int32))] 4)) T2 (mkF m 4 #[.val (.ref a0), .val (.int (2 : Int32)), .unset, .unset] [(.ref ha)]) := fun t k => pre1 t (st2 _ k)
  have pre3 : Go p.tables e below (s₁.setTop (entryFrame m #[(.ref a0), (.int (2 : Int32))] 4)) T2 (mkF m 5 #[.val (.ref a0), .val (.int (2 : Int32)), .unset, .unset] [(.int (2 : Int32)), (.ref ha)]) := fun t k => pre2 t (by
      refine XS.iloadN X2.here hx rfl (hb hby d10_4) rfl ?_
      exact k)
  obtain ⟨c4, Ar4, q4, S4, M4, H4, G4⟩ := (id fi6)
  have hin4 : ¬ ((2 : Int32) < 0 ∨ c4.slots.size ≤ ((2 : Int32)).toNatClampNeg) := inb_of S4 ⟨by decide, by decide⟩
  have pre4 : Go p.tables e below (s₁.setTop (entryFrame m #[(.ref a0), (.int (2 : Int32))] 4)) T2 (mkF m 6 #[.val (.ref a0), .val (.int (2 : Int32)), .unset, .unset] [(.int x2)]) := fun t k => pre3 t (X2.iaload hx (j := (2 : Int32)) (v := (.int x2)) (by rw [e2]; exact Ar4.1) (State.isArrayOf_alike hZ.alike Ar4.2.1) Ar4.2.2 hin4 (H4.at hin4 rfl) (g := (mkF m 5 #[.val (.ref a0), .val (.int (2 : Int32)), .unset, .unset] [(.int (2 : Int32)), (.ref ha)])) rfl rfl (hb hby d10_5) _ k)
  have pre5 : Go p.tables e below (s₁.setTop (entryFrame m #[(.ref a0), (.int (2 : Int32))] 4)) T2 (mkF m 13 #[.val (.ref a0), .val (.int (2 : Int32)), .val (.int x2), .unset] [(.ref a0), (.int (5 : Int32))]) := fun t k => pre4 t (by
      refine XS.istoreN X2.here hx rfl (hb hby d10_6) rfl (l' := #[.val (.ref a0), .val (.int (2 : Int32)), .val (.int x2), .unset]) rfl ?_
      show Steps p.tables e below (T2.setTop (mkF m 7 #[.val (.ref a0), .val (.int (2 : Int32)), .val (.int x2), .unset] [])) _
      refine XS.iconst X2.here hx rfl (hb hby d10_7) ?_
      show Steps p.tables e below (T2.setTop (mkF m 8 #[.val (.ref a0), .val (.int (2 : Int32)), .val (.int x2), .unset] [(.int (2 : Int32))])) _
      refine XS.iloadN X2.here hx rfl (hb hby d10_8) rfl ?_
      show Steps p.tables e below (T2.setTop (mkF m 9 #[.val (.ref a0), .val (.int (2 : Int32)), .val (.int x2), .unset] [(.int (2 : Int32)), (.int (2 : Int32))])) _
      refine XS.imul X2.here hx rfl (hb hby d10_9) rfl ?_
      show Steps p.tables e below (T2.setTop (mkF m 10 #[.val (.ref a0), .val (.int (2 : Int32)), .val (.int x2), .unset] [(.int (4 : Int32))])) _
      refine XS.iconst X2.here hx rfl (hb hby d10_10) ?_
      show Steps p.tables e below (T2.setTop (mkF m 11 #[.val (.ref a0), .val (.int (2 : Int32)), .val (.int x2), .unset] [(.int (1 : Int32)), (.int (4 : Int32))])) _
      refine XS.iadd X2.here hx rfl (hb hby d10_11) rfl ?_
      show Steps p.tables e below (T2.setTop (mkF m 12 #[.val (.ref a0), .val (.int (2 : Int32)), .val (.int x2), .unset] [(.int (5 : Int32))])) _
      refine XS.aloadN X2.here hx rfl (hb hby d10_12) rfl rfl ?_
      exact k)
  obtain ⟨T6, X6, e6, st6⟩ := getF X2 hx hZ hown (host := "") (Or.inl (hw _ (List.mem_of_getElem? (i := 26) rfl))) Via.refl e2 fi4 (g := (mkF m 13 #[.val (.ref a0), .val (.int (2 : Int32)), .val (.int x2), .unset] [(.ref a0), (.int (5 : Int32))])) rfl rfl (hb hby d10_13)
  have pre6 : Go p.tables e below (s₁.setTop (entryFrame m #[(.ref a0), (.int (2 : Int32))] 4)) T6 (mkF m 16 #[.val (.ref a0), .val (.int (2 : Int32)), .val (.int x2), .unset] [(.int (1 : Int32)), (.int (5 : Int32))]) := fun t k => pre5 t (st6 _ k)
  have pre7 : Go p.tables e below (s₁.setTop (entryFrame m #[(.ref a0), (.int (2 : Int32))] 4)) T6 (mkF m 95 #[.val (.ref a0), .val (.int (2 : Int32)), .val (.int x2), .unset] [(.int (2 : Int32)), (.int x2), (.ref a0)]) := fun t k => pre6 t (by
      refine XS.icmpYes X6.here hx rfl (pc0 := 16) (pc' := 92) rfl (hb hby d10_16) rfl (flt (by decide)).2.1 (by decide) (by decide) ?_
      show Steps p.tables e below (T6.setTop (mkF m 92 #[.val (.ref a0), .val (.int (2 : Int32)), .val (.int x2), .unset] [])) _
      refine XS.aloadN X6.here hx rfl (hb hby d10_92) rfl rfl ?_
      show Steps p.tables e below (T6.setTop (mkF m 93 #[.val (.ref a0), .val (.int (2 : Int32)), .val (.int x2), .unset] [(.ref a0)])) _
      refine XS.iloadN X6.here hx rfl (hb hby d10_93) rfl ?_
      show Steps p.tables e below (T6.setTop (mkF m 94 #[.val (.ref a0), .val (.int (2 : Int32)), .val (.int x2), .unset] [(.int x2), (.ref a0)])) _
      refine XS.iloadN X6.here hx rfl (hb hby d10_94) rfl ?_
      exact k)
  obtain ⟨cq8, q8, q8'⟩ := fi0.cell
  obtain ⟨_, _, ⟨T8, L8, k8, n8⟩, -, X8, ⟨Lc8, hQ8, l8, y8, z8⟩, st8⟩ := own_private X6 hx (y := (⟨"com/example/octopoll/octopoll/PageHeap", "place", "(II)V"⟩ : MethodName)) hown (mvT hZ (hw _ (List.mem_of_getElem? (i := 33) rfl))) (mvT hZ (hw _ (List.mem_of_getElem? (i := 34) rfl))) (mvT hZ (hw _ (List.mem_of_getElem? (i := 24) rfl))) rfl (Cond.privateMethod_at (mvP hZ (hw _ (List.mem_of_getElem? (i := 35) rfl)) (args := #[]))) (mvT hZ (hw _ (List.mem_of_getElem? (i := 36) rfl))) (by decide) (backOf (W := 0) (rm_plc l Z av0 hw [] a0 x2 (2 : Int32) ha pa kh kp x0 x1 x2 y0 y1 y2 h0 n0 Z0 fi2 fi3 fi6 fi7 g_ha g_pa ne_a0_ha ne_a0_pa ne_ha_pa hx2 (by decide)) hZ (hw _ (List.mem_of_getElem? (i := 36) rfl)) (hw _ (List.mem_of_getElem? (i := 3) rfl)) (by decide) (by decide)) (a := a0) (by rw [e6]; exact q8) q8' (g := (mkF m 95 #[.val (.ref a0), .val (.int (2 : Int32)), .val (.int x2), .unset] [(.int (2 : Int32)), (.int x2), (.ref a0)])) rfl (by rw [hml]; rfl) (argsL := [(.int x2), (.int (2 : Int32))]) (rest := []) (lenOf pd_0 rfl) rfl (by show 2 * 0 + _ ≤ _; exact Nat.le_of_eq rfl) (hb hby d10_95) (fun _ _ => ⟨rfl, e6, (by decide : 0 + 0 ≤ _), (by decide : 0 + 0 ≤ _)⟩)
  dsimp only [Pt.U, Pt.locs, Pt.cells, Pt.slots] at X8 l8 y8 z8 st8 hQ8
  subst l8 y8 z8
  obtain ⟨hv8, N8q, K8, fo8_0, fo8_1⟩ := hQ8
  have f9 : n0 ≤ T8.heap.size := Nat.le_trans Z0 K8.1
  have f10 : Exa Z T8.heap a0 "com/example/octopoll/octopoll/PageHeap" := fi0.keep K8
  have f11 : Fld Z T8.heap a0 "com/example/octopoll/octopoll/PageHeap" "key" "[D" (.ref ka) := fi1.keep K8 (ninS ne_a0_ha (ninS ne_a0_pa nin0))
  have f12 : Fld Z T8.heap a0 "com/example/octopoll/octopoll/PageHeap" "heap" "[I" (.ref ha) := fi2.keep K8 (ninS ne_a0_ha (ninS ne_a0_pa nin0))
  have f13 : Fld Z T8.heap a0 "com/example/octopoll/octopoll/PageHeap" "position" "[I" (.ref pa) := fi3.keep K8 (ninS ne_a0_ha (ninS ne_a0_pa nin0))
  have f14 : Fld Z T8.heap a0 "com/example/octopoll/octopoll/PageHeap" "size" "I" (.int (1 : Int32)) := fi4.keep K8 (ninS ne_a0_ha (ninS ne_a0_pa nin0))
  have f15 : Arv Z T8.heap ka kk .double (3 : Int32) [(.double d0), (.double d1), (.double d2)] (.double 0) := fi5.keep K8 (ninS ne_ka_ha (ninS ne_ka_pa nin0))
  have f16 : Keep h0 T8.heap [ha, pa] := K0.trans K8 (allS (Or.inl (List.mem_of_getElem? (i := 0) rfl)) (allS (Or.inl (List.mem_of_getElem? (i := 1) rfl)) all0))
  subst hv8
  have N8 := Fr.app N0 N8q
  have pre8 : Go p.tables e below (s₁.setTop (entryFrame m #[(.ref a0), (.int (2 : Int32))] 4)) T8 (mkF m 98 #[.val (.ref a0), .val (.int (2 : Int32)), .val (.int x2), .unset] []) := fun t k => pre7 t (st8 _ k)
  obtain ⟨fs, hr, hrun, hended, hW, hsame⟩ := X8.leave (v := none) (fun _ => rfl) (BodyLoose.notSynchronized Bd)
  refine ⟨_, _, pre8 _ ?_, hrun, hended, _, _, rfl, ?_, ⟨_, rfl⟩, hW, hsame.mono (Nat.le_of_ble_eq_true rfl) (Nat.le_of_ble_eq_true rfl)⟩
  · exact X8.returnOut hx Bd.returns (hb hby d10_98) hr
  · show Q_sd Z a0 (2 : Int32) (1 : Int32) ka ha pa kk kh kp d0 d1 d2 x0 x1 x2 y0 y1 y2 h0 n0 _ T8.heap _
    exact ⟨x0, x1, x2, (own_u 0 x2 (2 : Int32) y0), (own_u 1 x2 (2 : Int32) y1), (own_u 2 x2 (2 : Int32) y2), rfl, N8, f16, fo8_0, fo8_1, (Or.inl rfl)⟩
theorem pn_sd20 : plainName "com/example/octopoll/octopoll/PageHeap" = true := by first | (simp [plainName, overriddenIn]; done) | decide +kernel
theorem ef_sd20 (m : MethodId) (a0 : Addr) : entryFrame m #[(.ref a0), (.int (0 : Int32))] 4 = mkF m 0 #[.val (.ref a0), .val (.int (0 : Int32)), .unset, .unset] [] := by first | (simp [entryFrame, mkF, argsToLocals, Value.category]; done) | rfl
set_option maxRecDepth 65536 in
set_option maxHeartbeats 40000000 in
theorem rm_sd20 (l : Launch) (Z : State) (av0 : Array Value) (hw : ∀ d ∈ tables_1, d.before av0 Z = true) (ws : List Jvm.Cond) (a0 : Addr) (ka : Addr) (ha : Addr) (pa : Addr) (kk : ClassId) (kh : ClassId) (kp : ClassId) (d0 : UInt64) (d1 : UInt64) (d2 : UInt64) (x0 : Int32) (x1 : Int32) (x2 : Int32) (y0 : Int32) (y1 : Int32) (y2 : Int32) (h0 : Heap) (n0 : Nat) (Z0 : n0 ≤ h0.size) (fi0 : Exa Z h0 a0 "com/example/octopoll/octopoll/PageHeap") (fi1 : Fld Z h0 a0 "com/example/octopoll/octopoll/PageHeap" "key" "[D" (.ref ka)) (fi2 : Fld Z h0 a0 "com/example/octopoll/octopoll/PageHeap" "heap" "[I" (.ref ha)) (fi3 : Fld Z h0 a0 "com/example/octopoll/octopoll/PageHeap" "position" "[I" (.ref pa)) (fi4 : Fld Z h0 a0 "com/example/octopoll/octopoll/PageHeap" "size" "I" (.int (2 : Int32))) (fi5 : Arv Z h0 ka kk .double (3 : Int32) [(.double d0), (.double d1), (.double d2)] (.double 0)) (fi6 : Arv Z h0 ha kh .int (3 : Int32) [(.int x0), (.int x1), (.int x2)] (.int (0 : Int32))) (fi7 : Arv Z h0 pa kp .int (3 : Int32) [(.int y0), (.int y1), (.int y2)] (.int (0 : Int32))) (g_ha : n0 ≤ ha) (g_pa : n0 ≤ pa) (ne_a0_ha : a0 ≠ ha) (ne_a0_pa : a0 ≠ pa) (ne_ha_pa : ha ≠ pa) (ne_a0_ka : a0 ≠ ka) (ne_ka_ha : ka ≠ ha) (ne_ka_pa : ka ≠ pa) (hx0 : own_bd x0) (hx1 : own_bd x1) (hx2 : own_bd x2) :
    MetFree l (⟨"com/example/octopoll/octopoll/PageHeap", "siftDown", "(I)V"⟩ : MethodName) (head1 (Jvm.Cond.code (⟨"com/example/octopoll/octopoll/PageHeap", "siftDown", "(I)V"⟩ : MethodName) prog_17_method_10_code 4 none :: ws) ({ frames := 1, cells := 0, slots := 0, locals := 16 } : Room)) (fun a U => a = #[(.ref a0), (.int (0 : Int32))] ∧ Z.Warmed39 U.vm ∧ U.heap = h0) (fun _ _ _ _ _ => True) (fun _ U o U' => ∃ v L, o = .returned v ∧ Q_sd Z a0 (0 : Int32) (2 : Int32) ka ha pa kk kh kp d0 d1 d2 x0 x1 x2 y0 y1 y2 h0 n0 v U'.heap L ∧ FrameEnd U o U' L ({ frames := 1, cells := 0, slots := 0, locals := 16 } : Room).cells ({ frames := 1, cells := 0, slots := 0, locals := 16 } : Room).slots) := by
  refine MetFree.of_bodySF (plainFor_of_name pn_sd20) hisR ?_
  intro p e s m args below meth c s₁ Bd hml0 hP hK
  obtain ⟨rfl, hZ, hh⟩ := hP
  have hx := Bd.exec
  have hby := Bd.bytes
  have hml : c.maxLocals = 4 := hml0
  have hown : s.vm.findClass "com/example/octopoll/octopoll/PageHeap" = some m.cls := findClass_of_methodNamed Bd.named
  have hnm := (name_of_methodNamed Bd.named Bd.method).1
  have X0 : Stand p l e ({ frames := 1, cells := 0, slots := 0, locals := 16 } : Room) s m #[(.ref a0), (.int (0 : Int32))] below meth c s₁ [] 0 0 := Stand.of_body Bd
  have e0 : s₁.heap = h0 := by rw [← hh, Bd.state]; rfl
  have N0 := Fr.nil n0
  have pre0 : Go p.tables e below (s₁.setTop (entryFrame m #[(.ref a0), (.int (0 : Int32))] 4)) s₁ (mkF m 0 #[.val (.ref a0), .val (.int (0 : Int32)), .unset, .unset] []) := fun t k => castTop (ef_sd20 m a0) k
  have K0 : Keep h0 h0 [ha, pa] := Keep.refl _ _
  have pre1 : Go p.tables e below (s₁.setTop (entryFrame m #[(.ref a0), (.int (0 : Int32))] 4)) s₁ (mkF m 1 #[.val (.ref a0), .val (.int (0 : Int32)), .unset, .unset] [(.ref a0)]) := fun t k => pre0 t (by
      refine XS.aloadN X0.here hx rfl (hb hby d10_0) rfl rfl ?_
      exact k)
  obtain ⟨T2, X2, e2, st2⟩ := getF X0 hx hZ hown (host := "") (Or.inl (hw _ (List.mem_of_getElem? (i := 13) rfl))) Via.refl e0 fi2 (g := (mkF m 1 #[.val (.ref a0), .val (.int (0 : Int32)), .unset, .unset] [(.ref a0)])) rfl rfl (hb hby d10_1)
  have pre2 : Go p.tables e below (s₁.setTop (entryFrame m #[(.ref a0), (.int (0 : Int32))] 4)) T2 (mkF m 4 #[.val (.ref a0), .val (.int (0 : Int32)), .unset, .unset] [(.ref ha)]) := fun t k => pre1 t (st2 _ k)
  have pre3 : Go p.tables e below (s₁.setTop (entryFrame m #[(.ref a0), (.int (0 : Int32))] 4)) T2 (mkF m 5 #[.val (.ref a0), .val (.int (0 : Int32)), .unset, .unset] [(.int (0 : Int32)), (.ref ha)]) := fun t k => pre2 t (by
      refine XS.iloadN X2.here hx rfl (hb hby d10_4) rfl ?_
      exact k)
  obtain ⟨c4, Ar4, q4, S4, M4, H4, G4⟩ := (id fi6)
  have hin4 : ¬ ((0 : Int32) < 0 ∨ c4.slots.size ≤ ((0 : Int32)).toNatClampNeg) := inb_of S4 ⟨by decide, by decide⟩
  have pre4 : Go p.tables e below (s₁.setTop (entryFrame m #[(.ref a0), (.int (0 : Int32))] 4)) T2 (mkF m 6 #[.val (.ref a0), .val (.int (0 : Int32)), .unset, .unset] [(.int x0)]) := fun t k => pre3 t (X2.iaload hx (j := (0 : Int32)) (v := (.int x0)) (by rw [e2]; exact Ar4.1) (State.isArrayOf_alike hZ.alike Ar4.2.1) Ar4.2.2 hin4 (H4.at hin4 rfl) (g := (mkF m 5 #[.val (.ref a0), .val (.int (0 : Int32)), .unset, .unset] [(.int (0 : Int32)), (.ref ha)])) rfl rfl (hb hby d10_5) _ k)
  have pre5 : Go p.tables e below (s₁.setTop (entryFrame m #[(.ref a0), (.int (0 : Int32))] 4)) T2 (mkF m 13 #[.val (.ref a0), .val (.int (0 : Int32)), .val (.int x0), .unset] [(.ref a0), (.int (1 : Int32))]) := fun t k => pre4 t (by
      refine XS.istoreN X2.here hx rfl (hb hby d10_6) rfl (l' := #[.val (.ref a0), .val (.int (0 : Int32)), .val (.int x0), .unset]) rfl ?_
      show Steps p.tables e below (T2.setTop (mkF m 7 #[.val (.ref a0), .val (.int (0 : Int32)), .val (.int x0), .unset] [])) _
      refine XS.iconst X2.here hx rfl (hb hby d10_7) ?_
      show Steps p.tables e below (T2.setTop (mkF m 8 #[.val (.ref a0), .val (.int (0 : Int32)), .val (.int x0), .unset] [(.int (2 : Int32))])) _
      refine XS.iloadN X2.here hx rfl (hb hby d10_8) rfl ?_
      show Steps p.tables e below (T2.setTop (mkF m 9 #[.val (.ref a0), .val (.int (0 : Int32)), .val (.int x0), .unset] [(.int (0 : Int32)), (.int (2 : Int32))])) _
      refine XS.imul X2.here hx rfl (hb hby d10_9) rfl ?_
      show Steps p.tables e below (T2.setTop (mkF m 10 #[.val (.ref a0), .val (.int (0 : Int32)), .val (.int x0), .unset] [(.int (0 : Int32))])) _
      refine XS.iconst X2.here hx rfl (hb hby d10_10) ?_
      show Steps p.tables e below (T2.setTop (mkF m 11 #[.val (.ref a0), .val (.int (0 : Int32)), .val (.int x0), .unset] [(.int (1 : Int32)), (.int (0 : Int32))])) _
      refine XS.iadd X2.here hx rfl (hb hby d10_11) rfl ?_
      show Steps p.tables e below (T2.setTop (mkF m 12 #[.val (.ref a0), .val (.int (0 : Int32)), .val (.int x0), .unset] [(.int (1 : Int32))])) _
      refine XS.aloadN X2.here hx rfl (hb hby d10_12) rfl rfl ?_
      exact k)
  obtain ⟨T6, X6, e6, st6⟩ := getF X2 hx hZ hown (host := "") (Or.inl (hw _ (List.mem_of_getElem? (i := 26) rfl))) Via.refl e2 fi4 (g := (mkF m 13 #[.val (.ref a0), .val (.int (0 : Int32)), .val (.int x0), .unset] [(.ref a0), (.int (1 : Int32))])) rfl rfl (hb hby d10_13)
  have pre6 : Go p.tables e below (s₁.setTop (entryFrame m #[(.ref a0), (.int (0 : Int32))] 4)) T6 (mkF m 16 #[.val (.ref a0), .val (.int (0 : Int32)), .val (.int x0), .unset] [(.int (2 : Int32)), (.int (1 : Int32))]) := fun t k => pre5 t (st6 _ k)
  have pre7 : Go p.tables e below (s₁.setTop (entryFrame m #[(.ref a0), (.int (0 : Int32))] 4)) T6 (mkF m 29 #[.val (.ref a0), .val (.int (0 : Int32)), .val (.int x0), .val (.int (1 : Int32))] [(.ref a0), (.int (2 : Int32))]) := fun t k => pre6 t (by
      refine XS.icmpNo X6.here hx rfl (hb hby d10_16) rfl (tlt (by decide)).2.1 ?_
      show Steps p.tables e below (T6.setTop (mkF m 19 #[.val (.ref a0), .val (.int (0 : Int32)), .val (.int x0), .unset] [])) _
      refine XS.iconst X6.here hx rfl (hb hby d10_19) ?_
      show Steps p.tables e below (T6.setTop (mkF m 20 #[.val (.ref a0), .val (.int (0 : Int32)), .val (.int x0), .unset] [(.int (2 : Int32))])) _
      refine XS.iloadN X6.here hx rfl (hb hby d10_20) rfl ?_
      show Steps p.tables e below (T6.setTop (mkF m 21 #[.val (.ref a0), .val (.int (0 : Int32)), .val (.int x0), .unset] [(.int (0 : Int32)), (.int (2 : Int32))])) _
      refine XS.imul X6.here hx rfl (hb hby d10_21) rfl ?_
      show Steps p.tables e below (T6.setTop (mkF m 22 #[.val (.ref a0), .val (.int (0 : Int32)), .val (.int x0), .unset] [(.int (0 : Int32))])) _
      refine XS.iconst X6.here hx rfl (hb hby d10_22) ?_
      show Steps p.tables e below (T6.setTop (mkF m 23 #[.val (.ref a0), .val (.int (0 : Int32)), .val (.int x0), .unset] [(.int (1 : Int32)), (.int (0 : Int32))])) _
      refine XS.iadd X6.here hx rfl (hb hby d10_23) rfl ?_
      show Steps p.tables e below (T6.setTop (mkF m 24 #[.val (.ref a0), .val (.int (0 : Int32)), .val (.int x0), .unset] [(.int (1 : Int32))])) _
      refine XS.istoreN X6.here hx rfl (hb hby d10_24) rfl (l' := #[.val (.ref a0), .val (.int (0 : Int32)), .val (.int x0), .val (.int (1 : Int32))]) rfl ?_
      show Steps p.tables e below (T6.setTop (mkF m 25 #[.val (.ref a0), .val (.int (0 : Int32)), .val (.int x0), .val (.int (1 : Int32))] [])) _
      refine XS.iloadN X6.here hx rfl (hb hby d10_25) rfl ?_
      show Steps p.tables e below (T6.setTop (mkF m 26 #[.val (.ref a0), .val (.int (0 : Int32)), .val (.int x0), .val (.int (1 : Int32))] [(.int (1 : Int32))])) _
      refine XS.iconst X6.here hx rfl (hb hby d10_26) ?_
      show Steps p.tables e below (T6.setTop (mkF m 27 #[.val (.ref a0), .val (.int (0 : Int32)), .val (.int x0), .val (.int (1 : Int32))] [(.int (1 : Int32)), (.int (1 : Int32))])) _
      refine XS.iadd X6.here hx rfl (hb hby d10_27) rfl ?_
      show Steps p.tables e below (T6.setTop (mkF m 28 #[.val (.ref a0), .val (.int (0 : Int32)), .val (.int x0), .val (.int (1 : Int32))] [(.int (2 : Int32))])) _
      refine XS.aloadN X6.here hx rfl (hb hby d10_28) rfl rfl ?_
      exact k)
  obtain ⟨T8, X8, e8, st8⟩ := getF X6 hx hZ hown (host := "") (Or.inl (hw _ (List.mem_of_getElem? (i := 26) rfl))) Via.refl e6 fi4 (g := (mkF m 29 #[.val (.ref a0), .val (.int (0 : Int32)), .val (.int x0), .val (.int (1 : Int32))] [(.ref a0), (.int (2 : Int32))])) rfl rfl (hb hby d10_29)
  have pre8 : Go p.tables e below (s₁.setTop (entryFrame m #[(.ref a0), (.int (0 : Int32))] 4)) T8 (mkF m 32 #[.val (.ref a0), .val (.int (0 : Int32)), .val (.int x0), .val (.int (1 : Int32))] [(.int (2 : Int32)), (.int (2 : Int32))]) := fun t k => pre7 t (st8 _ k)
  have pre9 : Go p.tables e below (s₁.setTop (entryFrame m #[(.ref a0), (.int (0 : Int32))] 4)) T8 (mkF m 61 #[.val (.ref a0), .val (.int (0 : Int32)), .val (.int x0), .val (.int (1 : Int32))] [(.ref a0), (.ref a0)]) := fun t k => pre8 t (by
      refine XS.icmpYes X8.here hx rfl (pc0 := 32) (pc' := 59) rfl (hb hby d10_32) rfl (flt (by decide)).2.1 (by decide) (by decide) ?_
      show Steps p.tables e below (T8.setTop (mkF m 59 #[.val (.ref a0), .val (.int (0 : Int32)), .val (.int x0), .val (.int (1 : Int32))] [])) _
      refine XS.aloadN X8.here hx rfl (hb hby d10_59) rfl rfl ?_
      show Steps p.tables e below (T8.setTop (mkF m 60 #[.val (.ref a0), .val (.int (0 : Int32)), .val (.int x0), .val (.int (1 : Int32))] [(.ref a0)])) _
      refine XS.aloadN X8.here hx rfl (hb hby d10_60) rfl rfl ?_
      exact k)
  obtain ⟨T10, X10, e10, st10⟩ := getF X8 hx hZ hown (host := "") (Or.inl (hw _ (List.mem_of_getElem? (i := 13) rfl))) Via.refl e8 fi2 (g := (mkF m 61 #[.val (.ref a0), .val (.int (0 : Int32)), .val (.int x0), .val (.int (1 : Int32))] [(.ref a0), (.ref a0)])) rfl rfl (hb hby d10_61)
  have pre10 : Go p.tables e below (s₁.setTop (entryFrame m #[(.ref a0), (.int (0 : Int32))] 4)) T10 (mkF m 64 #[.val (.ref a0), .val (.int (0 : Int32)), .val (.int x0), .val (.int (1 : Int32))] [(.ref ha), (.ref a0)]) := fun t k => pre9 t (st10 _ k)
  have pre11 : Go p.tables e below (s₁.setTop (entryFrame m #[(.ref a0), (.int (0 : Int32))] 4)) T10 (mkF m 65 #[.val (.ref a0), .val (.int (0 : Int32)), .val (.int x0), .val (.int (1 : Int32))] [(.int (1 : Int32)), (.ref ha), (.ref a0)]) := fun t k => pre10 t (by
      refine XS.iloadN X10.here hx rfl (hb hby d10_64) rfl ?_
      exact k)
  obtain ⟨c12, Ar12, q12, S12, M12, H12, G12⟩ := (id fi6)
  have hin12 : ¬ ((1 : Int32) < 0 ∨ c12.slots.size ≤ ((1 : Int32)).toNatClampNeg) := inb_of S12 ⟨by decide, by decide⟩
  have pre12 : Go p.tables e below (s₁.setTop (entryFrame m #[(.ref a0), (.int (0 : Int32))] 4)) T10 (mkF m 66 #[.val (.ref a0), .val (.int (0 : Int32)), .val (.int x0), .val (.int (1 : Int32))] [(.int x1), (.ref a0)]) := fun t k => pre11 t (X10.iaload hx (j := (1 : Int32)) (v := (.int x1)) (by rw [e10]; exact Ar12.1) (State.isArrayOf_alike hZ.alike Ar12.2.1) Ar12.2.2 hin12 (H12.at hin12 rfl) (g := (mkF m 65 #[.val (.ref a0), .val (.int (0 : Int32)), .val (.int x0), .val (.int (1 : Int32))] [(.int (1 : Int32)), (.ref ha), (.ref a0)])) rfl rfl (hb hby d10_65) _ k)
  have pre13 : Go p.tables e below (s₁.setTop (entryFrame m #[(.ref a0), (.int (0 : Int32))] 4)) T10 (mkF m 67 #[.val (.ref a0), .val (.int (0 : Int32)), .val (.int x0), .val (.int (1 : Int32))] [(.int x0), (.int x1), (.ref a0)]) := fun t k => pre12 t (by
      refine XS.iloadN X10.here hx rfl (hb hby d10_66) rfl ?_
      exact k)
  obtain ⟨cq14, q14, q14'⟩ := fi0.cell
  obtain ⟨_, _, ⟨T14, L14, k14, n14⟩, -, X14, ⟨Lc14, hQ14, l14, y14, z14⟩, st14⟩ := own_private X10 hx (y := (⟨"com/example/octopoll/octopoll/PageHeap", "less", "(II)Z"⟩ : MethodName)) hown (mvT hZ (hw _ (List.mem_of_getElem? (i := 41) rfl))) (mvT hZ (hw _ (List.mem_of_getElem? (i := 42) rfl))) (mvT hZ (hw _ (List.mem_of_getElem? (i := 24) rfl))) rfl (Cond.privateMethod_at (mvP hZ (hw _ (List.mem_of_getElem? (i := 43) rfl)) (args := #[]))) (mvT hZ (hw _ (List.mem_of_getElem? (i := 44) rfl))) (by decide) (backOf (W := 0) (rm_les l Z av0 hw [] a0 x1 x0 ka kk d0 d1 d2 h0 n0 Z0 fi1 fi5 hx1 hx0) hZ (hw _ (List.mem_of_getElem? (i := 44) rfl)) (hw _ (List.mem_of_getElem? (i := 3) rfl)) (by decide) (by decide)) (a := a0) (by rw [e10]; exact q14) q14' (g := (mkF m 67 #[.val (.ref a0), .val (.int (0 : Int32)), .val (.int x0), .val (.int (1 : Int32))] [(.int x0), (.int x1), (.ref a0)])) rfl (by rw [hml]; rfl) (argsL := [(.int x1), (.int x0)]) (rest := []) (lenOf pd_1 rfl) rfl (by show 2 * 0 + _ ≤ _; exact Nat.le_of_eq rfl) (hb hby d10_67) (fun _ _ => ⟨rfl, e10, (by decide : 0 + 0 ≤ _), (by decide : 0 + 0 ≤ _)⟩)
  dsimp only [Pt.U, Pt.locs, Pt.cells, Pt.slots] at X14 l14 y14 z14 st14 hQ14
  subst l14 y14 z14
  obtain ⟨zl14, hv14, N14q, K14⟩ := hQ14
  have f15 : n0 ≤ T14.heap.size := Nat.le_trans Z0 K14.1
  have f16 : Exa Z T14.heap a0 "com/example/octopoll/octopoll/PageHeap" := fi0.keep K14
  have f17 : Fld Z T14.heap a0 "com/example/octopoll/octopoll/PageHeap" "key" "[D" (.ref ka) := fi1.keep K14 nin0
  have f18 : Fld Z T14.heap a0 "com/example/octopoll/octopoll/PageHeap" "heap" "[I" (.ref ha) := fi2.keep K14 nin0
  have f19 : Fld Z T14.heap a0 "com/example/octopoll/octopoll/PageHeap" "position" "[I" (.ref pa) := fi3.keep K14 nin0
  have f20 : Fld Z T14.heap a0 "com/example/octopoll/octopoll/PageHeap" "size" "I" (.int (2 : Int32)) := fi4.keep K14 nin0
  have f21 : Arv Z T14.heap ka kk .double (3 : Int32) [(.double d0), (.double d1), (.double d2)] (.double 0) := fi5.keep K14 nin0
  have f22 : Arv Z T14.heap ha kh .int (3 : Int32) [(.int x0), (.int x1), (.int x2)] (.int (0 : Int32)) := fi6.keep K14 nin0
  have f23 : Arv Z T14.heap pa kp .int (3 : Int32) [(.int y0), (.int y1), (.int y2)] (.int (0 : Int32)) := fi7.keep K14 nin0
  have f24 : Keep h0 T14.heap [ha, pa] := K0.trans K14 all0
  subst hv14
  have N14 := Fr.app N0 N14q
  have pre14 : Go p.tables e below (s₁.setTop (entryFrame m #[(.ref a0), (.int (0 : Int32))] 4)) T14 (mkF m 70 #[.val (.ref a0), .val (.int (0 : Int32)), .val (.int x0), .val (.int (1 : Int32))] [(.int zl14)]) := fun t k => pre13 t (st14 _ k)
  by_cases hc25 : zl14 = (0 : Int32)
  · -- hc25: True
    have pre26 : Go p.tables e below (s₁.setTop (entryFrame m #[(.ref a0), (.int (0 : Int32))] 4)) T14 (mkF m 95 #[.val (.ref a0), .val (.int (0 : Int32)), .val (.int x0), .val (.int (1 : Int32))] [(.int (0 : Int32)), (.int x0), (.ref a0)]) := fun t k => pre14 t (by
        refine XS.ifNo X14.here hx rfl (hb hby d10_70) rfl ((if0 _ _).trans (teq hc25).2) ?_
        show Steps p.tables e below (T14.setTop (mkF m 73 #[.val (.ref a0), .val (.int (0 : Int32)), .val (.int x0), .val (.int (1 : Int32))] [])) _
        refine XS.goto X14.here hx rfl (pc0 := 73) (pc' := 92) rfl (hb hby d10_73) (by decide) (by decide) ?_
        show Steps p.tables e below (T14.setTop (mkF m 92 #[.val (.ref a0), .val (.int (0 : Int32)), .val (.int x0), .val (.int (1 : Int32))] [])) _
        refine XS.aloadN X14.here hx rfl (hb hby d10_92) rfl rfl ?_
        show Steps p.tables e below (T14.setTop (mkF m 93 #[.val (.ref a0), .val (.int (0 : Int32)), .val (.int x0), .val (.int (1 : Int32))] [(.ref a0)])) _
        refine XS.iloadN X14.here hx rfl (hb hby d10_93) rfl ?_
        show Steps p.tables e below (T14.setTop (mkF m 94 #[.val (.ref a0), .val (.int (0 : Int32)), .val (.int x0), .val (.int (1 : Int32))] [(.int x0), (.ref a0)])) _
        refine XS.iloadN X14.here hx rfl (hb hby d10_94) rfl ?_
        exact k)
    obtain ⟨cq27, q27, q27'⟩ := f16.cell
    obtain ⟨_, _, ⟨T27, L27, k27, n27⟩, -, X27, ⟨Lc27, hQ27, l27, y27, z27⟩, st27⟩ := own_private X14 hx (y := (⟨"com/example/octopoll/octopoll/PageHeap", "place", "(II)V"⟩ : MethodName)) hown (mvT hZ (hw _ (List.mem_of_getElem? (i := 33) rfl))) (mvT hZ (hw _ (List.mem_of_getElem? (i := 34) rfl))) (mvT hZ (hw _ (List.mem_of_getElem? (i := 24) rfl))) rfl (Cond.privateMethod_at (mvP hZ (hw _ (List.mem_of_getElem? (i := 35) rfl)) (args := #[]))) (mvT hZ (hw _ (List.mem_of_getElem? (i := 36) rfl))) (by decide) (backOf (W := 0) (rm_plc l Z av0 hw [] a0 x0 (0 : Int32) ha pa kh kp x0 x1 x2 y0 y1 y2 T14.heap n0 f15 f18 f19 f22 f23 g_ha g_pa ne_a0_ha ne_a0_pa ne_ha_pa hx0 (by decide)) hZ (hw _ (List.mem_of_getElem? (i := 36) rfl)) (hw _ (List.mem_of_getElem? (i := 3) rfl)) (by decide) (by decide)) (a := a0) q27 q27' (g := (mkF m 95 #[.val (.ref a0), .val (.int (0 : Int32)), .val (.int x0), .val (.int (1 : Int32))] [(.int (0 : Int32)), (.int x0), (.ref a0)])) rfl (by rw [hml]; rfl) (argsL := [(.int x0), (.int (0 : Int32))]) (rest := []) (lenOf pd_0 rfl) rfl (by show 2 * 0 + _ ≤ _; exact Nat.le_of_eq rfl) (hb hby d10_95) (fun _ _ => ⟨rfl, rfl, (by decide : 0 + 0 ≤ _), (by decide : 0 + 0 ≤ _)⟩)
    dsimp only [Pt.U, Pt.locs, Pt.cells, Pt.slots] at X27 l27 y27 z27 st27 hQ27
    subst l27 y27 z27
    obtain ⟨hv27, N27q, K27, fo27_0, fo27_1⟩ := hQ27
    have f28 : n0 ≤ T27.heap.size := Nat.le_trans f15 K27.1
    have f29 : Exa Z T27.heap a0 "com/example/octopoll/octopoll/PageHeap" := f16.keep K27
    have f30 : Fld Z T27.heap a0 "com/example/octopoll/octopoll/PageHeap" "key" "[D" (.ref ka) := f17.keep K27 (ninS ne_a0_ha (ninS ne_a0_pa nin0))
    have f31 : Fld Z T27.heap a0 "com/example/octopoll/octopoll/PageHeap" "heap" "[I" (.ref ha) := f18.keep K27 (ninS ne_a0_ha (ninS ne_a0_pa nin0))
    have f32 : Fld Z T27.heap a0 "com/example/octopoll/octopoll/PageHeap" "position" "[I" (.ref pa) := f19.keep K27 (ninS ne_a0_ha (ninS ne_a0_pa nin0))
    have f33 : Fld Z T27.heap a0 "com/example/octopoll/octopoll/PageHeap" "size" "I" (.int (2 : Int32)) := f20.keep K27 (ninS ne_a0_ha (ninS ne_a0_pa nin0))
    have f34 : Arv Z T27.heap ka kk .double (3 : Int32) [(.double d0), (.double d1), (.double d2)] (.double 0) := f21.keep K27 (ninS ne_ka_ha (ninS ne_ka_pa nin0))
    have f35 : Keep h0 T27.heap [ha, pa] := f24.trans K27 (allS (Or.inl (List.mem_of_getElem? (i := 0) rfl)) (allS (Or.inl (List.mem_of_getElem? (i := 1) rfl)) all0))
    subst hv27
    have N27 := Fr.app N14 N27q
    have pre27 : Go p.tables e below (s₁.setTop (entryFrame m #[(.ref a0), (.int (0 : Int32))] 4)) T27 (mkF m 98 #[.val (.ref a0), .val (.int (0 : Int32)), .val (.int x0), .val (.int (1 : Int32))] []) := fun t k => pre26 t (st27 _ k)
    obtain ⟨fs, hr, hrun, hended, hW, hsame⟩ := X27.leave (v := none) (fun _ => rfl) (BodyLoose.notSynchronized Bd)
    refine ⟨_, _, pre27 _ ?_, hrun, hended, _, _, rfl, ?_, ⟨_, rfl⟩, hW, hsame.mono (Nat.le_of_ble_eq_true rfl) (Nat.le_of_ble_eq_true rfl)⟩
    · exact X27.returnOut hx Bd.returns (hb hby d10_98) hr
    · show Q_sd Z a0 (0 : Int32) (2 : Int32) ka ha pa kk kh kp d0 d1 d2 x0 x1 x2 y0 y1 y2 h0 n0 _ T27.heap _
      exact ⟨x0, x1, x2, (own_u 0 x0 (0 : Int32) y0), (own_u 1 x0 (0 : Int32) y1), (own_u 2 x0 (0 : Int32) y2), rfl, N27, f35, fo27_0, fo27_1, (Or.inl rfl)⟩
  · -- hc25: False
    have pre36 : Go p.tables e below (s₁.setTop (entryFrame m #[(.ref a0), (.int (0 : Int32))] 4)) T14 (mkF m 78 #[.val (.ref a0), .val (.int (0 : Int32)), .val (.int x0), .val (.int (1 : Int32))] [(.ref a0), (.ref a0)]) := fun t k => pre14 t (by
        refine XS.ifYes X14.here hx rfl (pc0 := 70) (pc' := 76) rfl (hb hby d10_70) rfl ((if0 _ _).trans (feq hc25).2) (by decide) (by decide) ?_
        show Steps p.tables e below (T14.setTop (mkF m 76 #[.val (.ref a0), .val (.int (0 : Int32)), .val (.int x0), .val (.int (1 : Int32))] [])) _
        refine XS.aloadN X14.here hx rfl (hb hby d10_76) rfl rfl ?_
        show Steps p.tables e below (T14.setTop (mkF m 77 #[.val (.ref a0), .val (.int (0 : Int32)), .val (.int x0), .val (.int (1 : Int32))] [(.ref a0)])) _
        refine XS.aloadN X14.here hx rfl (hb hby d10_77) rfl rfl ?_
        exact k)
    obtain ⟨T37, X37, e37, st37⟩ := getF X14 hx hZ hown (host := "") (Or.inl (hw _ (List.mem_of_getElem? (i := 13) rfl))) Via.refl rfl f18 (g := (mkF m 78 #[.val (.ref a0), .val (.int (0 : Int32)), .val (.int x0), .val (.int (1 : Int32))] [(.ref a0), (.ref a0)])) rfl rfl (hb hby d10_78)
    have pre37 : Go p.tables e below (s₁.setTop (entryFrame m #[(.ref a0), (.int (0 : Int32))] 4)) T37 (mkF m 81 #[.val (.ref a0), .val (.int (0 : Int32)), .val (.int x0), .val (.int (1 : Int32))] [(.ref ha), (.ref a0)]) := fun t k => pre36 t (st37 _ k)
    have pre38 : Go p.tables e below (s₁.setTop (entryFrame m #[(.ref a0), (.int (0 : Int32))] 4)) T37 (mkF m 82 #[.val (.ref a0), .val (.int (0 : Int32)), .val (.int x0), .val (.int (1 : Int32))] [(.int (1 : Int32)), (.ref ha), (.ref a0)]) := fun t k => pre37 t (by
        refine XS.iloadN X37.here hx rfl (hb hby d10_81) rfl ?_
        exact k)
    obtain ⟨c39, Ar39, q39, S39, M39, H39, G39⟩ := (id f22)
    have hin39 : ¬ ((1 : Int32) < 0 ∨ c39.slots.size ≤ ((1 : Int32)).toNatClampNeg) := inb_of S39 ⟨by decide, by decide⟩
    have pre39 : Go p.tables e below (s₁.setTop (entryFrame m #[(.ref a0), (.int (0 : Int32))] 4)) T37 (mkF m 83 #[.val (.ref a0), .val (.int (0 : Int32)), .val (.int x0), .val (.int (1 : Int32))] [(.int x1), (.ref a0)]) := fun t k => pre38 t (X37.iaload hx (j := (1 : Int32)) (v := (.int x1)) (by rw [e37]; exact Ar39.1) (State.isArrayOf_alike hZ.alike Ar39.2.1) Ar39.2.2 hin39 (H39.at hin39 rfl) (g := (mkF m 82 #[.val (.ref a0), .val (.int (0 : Int32)), .val (.int x0), .val (.int (1 : Int32))] [(.int (1 : Int32)), (.ref ha), (.ref a0)])) rfl rfl (hb hby d10_82) _ k)
    have pre40 : Go p.tables e below (s₁.setTop (entryFrame m #[(.ref a0), (.int (0 : Int32))] 4)) T37 (mkF m 84 #[.val (.ref a0), .val (.int (0 : Int32)), .val (.int x0), .val (.int (1 : Int32))] [(.int (0 : Int32)), (.int x1), (.ref a0)]) := fun t k => pre39 t (by
        refine XS.iloadN X37.here hx rfl (hb hby d10_83) rfl ?_
        exact k)
    obtain ⟨cq41, q41, q41'⟩ := f16.cell
    obtain ⟨_, _, ⟨T41, L41, k41, n41⟩, -, X41, ⟨Lc41, hQ41, l41, y41, z41⟩, st41⟩ := own_private X37 hx (y := (⟨"com/example/octopoll/octopoll/PageHeap", "place", "(II)V"⟩ : MethodName)) hown (mvT hZ (hw _ (List.mem_of_getElem? (i := 33) rfl))) (mvT hZ (hw _ (List.mem_of_getElem? (i := 34) rfl))) (mvT hZ (hw _ (List.mem_of_getElem? (i := 24) rfl))) rfl (Cond.privateMethod_at (mvP hZ (hw _ (List.mem_of_getElem? (i := 35) rfl)) (args := #[]))) (mvT hZ (hw _ (List.mem_of_getElem? (i := 36) rfl))) (by decide) (backOf (W := 0) (rm_plc l Z av0 hw [] a0 x1 (0 : Int32) ha pa kh kp x0 x1 x2 y0 y1 y2 T14.heap n0 f15 f18 f19 f22 f23 g_ha g_pa ne_a0_ha ne_a0_pa ne_ha_pa hx1 (by decide)) hZ (hw _ (List.mem_of_getElem? (i := 36) rfl)) (hw _ (List.mem_of_getElem? (i := 3) rfl)) (by decide) (by decide)) (a := a0) (by rw [e37]; exact q41) q41' (g := (mkF m 84 #[.val (.ref a0), .val (.int (0 : Int32)), .val (.int x0), .val (.int (1 : Int32))] [(.int (0 : Int32)), (.int x1), (.ref a0)])) rfl (by rw [hml]; rfl) (argsL := [(.int x1), (.int (0 : Int32))]) (rest := []) (lenOf pd_0 rfl) rfl (by show 2 * 0 + _ ≤ _; exact Nat.le_of_eq rfl) (hb hby d10_84) (fun _ _ => ⟨rfl, e37, (by decide : 0 + 0 ≤ _), (by decide : 0 + 0 ≤ _)⟩)
    dsimp only [Pt.U, Pt.locs, Pt.cells, Pt.slots] at X41 l41 y41 z41 st41 hQ41
    subst l41 y41 z41
    obtain ⟨hv41, N41q, K41, fo41_0, fo41_1⟩ := hQ41
    have f42 : n0 ≤ T41.heap.size := Nat.le_trans f15 K41.1
    have f43 : Exa Z T41.heap a0 "com/example/octopoll/octopoll/PageHeap" := f16.keep K41
    have f44 : Fld Z T41.heap a0 "com/example/octopoll/octopoll/PageHeap" "key" "[D" (.ref ka) := f17.keep K41 (ninS ne_a0_ha (ninS ne_a0_pa nin0))
    have f45 : Fld Z T41.heap a0 "com/example/octopoll/octopoll/PageHeap" "heap" "[I" (.ref ha) := f18.keep K41 (ninS ne_a0_ha (ninS ne_a0_pa nin0))
    have f46 : Fld Z T41.heap a0 "com/example/octopoll/octopoll/PageHeap" "position" "[I" (.ref pa) := f19.keep K41 (ninS ne_a0_ha (ninS ne_a0_pa nin0))
    have f47 : Fld Z T41.heap a0 "com/example/octopoll/octopoll/PageHeap" "size" "I" (.int (2 : Int32)) := f20.keep K41 (ninS ne_a0_ha (ninS ne_a0_pa nin0))
    have f48 : Arv Z T41.heap ka kk .double (3 : Int32) [(.double d0), (.double d1), (.double d2)] (.double 0) := f21.keep K41 (ninS ne_ka_ha (ninS ne_ka_pa nin0))
    have f49 : Keep h0 T41.heap [ha, pa] := f24.trans K41 (allS (Or.inl (List.mem_of_getElem? (i := 0) rfl)) (allS (Or.inl (List.mem_of_getElem? (i := 1) rfl)) all0))
    subst hv41
    have N41 := Fr.app N14 N41q
    have pre41 : Go p.tables e below (s₁.setTop (entryFrame m #[(.ref a0), (.int (0 : Int32))] 4)) T41 (mkF m 87 #[.val (.ref a0), .val (.int (0 : Int32)), .val (.int x0), .val (.int (1 : Int32))] []) := fun t k => pre40 t (st41 _ k)
    have pre50 : Go p.tables e below (s₁.setTop (entryFrame m #[(.ref a0), (.int (0 : Int32))] 4)) T41 (mkF m 13 #[.val (.ref a0), .val (.int (1 : Int32)), .val (.int x0), .val (.int (1 : Int32))] [(.ref a0), (.int (3 : Int32))]) := fun t k => pre41 t (by
        refine XS.iloadN X41.here hx rfl (hb hby d10_87) rfl ?_
        show Steps p.tables e below (T41.setTop (mkF m 88 #[.val (.ref a0), .val (.int (0 : Int32)), .val (.int x0), .val (.int (1 : Int32))] [(.int (1 : Int32))])) _
        refine XS.istoreN X41.here hx rfl (hb hby d10_88) rfl (l' := #[.val (.ref a0), .val (.int (1 : Int32)), .val (.int x0), .val (.int (1 : Int32))]) rfl ?_
        show Steps p.tables e below (T41.setTop (mkF m 89 #[.val (.ref a0), .val (.int (1 : Int32)), .val (.int x0), .val (.int (1 : Int32))] [])) _
        refine XS.goto X41.here hx rfl (pc0 := 89) (pc' := 7) rfl (hb hby d10_89) (by decide) (by decide) ?_
        show Steps p.tables e below (T41.setTop (mkF m 7 #[.val (.ref a0), .val (.int (1 : Int32)), .val (.int x0), .val (.int (1 : Int32))] [])) _
        refine XS.iconst X41.here hx rfl (hb hby d10_7) ?_
        show Steps p.tables e below (T41.setTop (mkF m 8 #[.val (.ref a0), .val (.int (1 : Int32)), .val (.int x0), .val (.int (1 : Int32))] [(.int (2 : Int32))])) _
        refine XS.iloadN X41.here hx rfl (hb hby d10_8) rfl ?_
        show Steps p.tables e below (T41.setTop (mkF m 9 #[.val (.ref a0), .val (.int (1 : Int32)), .val (.int x0), .val (.int (1 : Int32))] [(.int (1 : Int32)), (.int (2 : Int32))])) _
        refine XS.imul X41.here hx rfl (hb hby d10_9) rfl ?_
        show Steps p.tables e below (T41.setTop (mkF m 10 #[.val (.ref a0), .val (.int (1 : Int32)), .val (.int x0), .val (.int (1 : Int32))] [(.int (2 : Int32))])) _
        refine XS.iconst X41.here hx rfl (hb hby d10_10) ?_
        show Steps p.tables e below (T41.setTop (mkF m 11 #[.val (.ref a0), .val (.int (1 : Int32)), .val (.int x0), .val (.int (1 : Int32))] [(.int (1 : Int32)), (.int (2 : Int32))])) _
        refine XS.iadd X41.here hx rfl (hb hby d10_11) rfl ?_
        show Steps p.tables e below (T41.setTop (mkF m 12 #[.val (.ref a0), .val (.int (1 : Int32)), .val (.int x0), .val (.int (1 : Int32))] [(.int (3 : Int32))])) _
        refine XS.aloadN X41.here hx rfl (hb hby d10_12) rfl rfl ?_
        exact k)
    obtain ⟨T51, X51, e51, st51⟩ := getF X41 hx hZ hown (host := "") (Or.inl (hw _ (List.mem_of_getElem? (i := 26) rfl))) Via.refl rfl f47 (g := (mkF m 13 #[.val (.ref a0), .val (.int (1 : Int32)), .val (.int x0), .val (.int (1 : Int32))] [(.ref a0), (.int (3 : Int32))])) rfl rfl (hb hby d10_13)
    have pre51 : Go p.tables e below (s₁.setTop (entryFrame m #[(.ref a0), (.int (0 : Int32))] 4)) T51 (mkF m 16 #[.val (.ref a0), .val (.int (1 : Int32)), .val (.int x0), .val (.int (1 : Int32))] [(.int (2 : Int32)), (.int (3 : Int32))]) := fun t k => pre50 t (st51 _ k)
    have pre52 : Go p.tables e below (s₁.setTop (entryFrame m #[(.ref a0), (.int (0 : Int32))] 4)) T51 (mkF m 95 #[.val (.ref a0), .val (.int (1 : Int32)), .val (.int x0), .val (.int (1 : Int32))] [(.int (1 : Int32)), (.int x0), (.ref a0)]) := fun t k => pre51 t (by
        refine XS.icmpYes X51.here hx rfl (pc0 := 16) (pc' := 92) rfl (hb hby d10_16) rfl (flt (by decide)).2.1 (by decide) (by decide) ?_
        show Steps p.tables e below (T51.setTop (mkF m 92 #[.val (.ref a0), .val (.int (1 : Int32)), .val (.int x0), .val (.int (1 : Int32))] [])) _
        refine XS.aloadN X51.here hx rfl (hb hby d10_92) rfl rfl ?_
        show Steps p.tables e below (T51.setTop (mkF m 93 #[.val (.ref a0), .val (.int (1 : Int32)), .val (.int x0), .val (.int (1 : Int32))] [(.ref a0)])) _
        refine XS.iloadN X51.here hx rfl (hb hby d10_93) rfl ?_
        show Steps p.tables e below (T51.setTop (mkF m 94 #[.val (.ref a0), .val (.int (1 : Int32)), .val (.int x0), .val (.int (1 : Int32))] [(.int x0), (.ref a0)])) _
        refine XS.iloadN X51.here hx rfl (hb hby d10_94) rfl ?_
        exact k)
    obtain ⟨cq53, q53, q53'⟩ := f43.cell
    obtain ⟨_, _, ⟨T53, L53, k53, n53⟩, -, X53, ⟨Lc53, hQ53, l53, y53, z53⟩, st53⟩ := own_private X51 hx (y := (⟨"com/example/octopoll/octopoll/PageHeap", "place", "(II)V"⟩ : MethodName)) hown (mvT hZ (hw _ (List.mem_of_getElem? (i := 33) rfl))) (mvT hZ (hw _ (List.mem_of_getElem? (i := 34) rfl))) (mvT hZ (hw _ (List.mem_of_getElem? (i := 24) rfl))) rfl (Cond.privateMethod_at (mvP hZ (hw _ (List.mem_of_getElem? (i := 35) rfl)) (args := #[]))) (mvT hZ (hw _ (List.mem_of_getElem? (i := 36) rfl))) (by decide) (backOf (W := 0) (rm_plc l Z av0 hw [] a0 x0 (1 : Int32) ha pa kh kp x1 x1 x2 (own_u 0 x1 (0 : Int32) y0) (own_u 1 x1 (0 : Int32) y1) (own_u 2 x1 (0 : Int32) y2) T41.heap n0 f42 f45 f46 fo41_0 fo41_1 g_ha g_pa ne_a0_ha ne_a0_pa ne_ha_pa hx0 (by decide)) hZ (hw _ (List.mem_of_getElem? (i := 36) rfl)) (hw _ (List.mem_of_getElem? (i := 3) rfl)) (by decide) (by decide)) (a := a0) (by rw [e51]; exact q53) q53' (g := (mkF m 95 #[.val (.ref a0), .val (.int (1 : Int32)), .val (.int x0), .val (.int (1 : Int32))] [(.int (1 : Int32)), (.int x0), (.ref a0)])) rfl (by rw [hml]; rfl) (argsL := [(.int x0), (.int (1 : Int32))]) (rest := []) (lenOf pd_0 rfl) rfl (by show 2 * 0 + _ ≤ _; exact Nat.le_of_eq rfl) (hb hby d10_95) (fun _ _ => ⟨rfl, e51, (by decide : 0 + 0 ≤ _), (by decide : 0 + 0 ≤ _)⟩)
    dsimp only [Pt.U, Pt.locs, Pt.cells, Pt.slots] at X53 l53 y53 z53 st53 hQ53
    subst l53 y53 z53
    obtain ⟨hv53, N53q, K53, fo53_0, fo53_1⟩ := hQ53
    have f54 : n0 ≤ T53.heap.size := Nat.le_trans f42 K53.1
    have f55 : Exa Z T53.heap a0 "com/example/octopoll/octopoll/PageHeap" := f43.keep K53
    have f56 : Fld Z T53.heap a0 "com/example/octopoll/octopoll/PageHeap" "key" "[D" (.ref ka) := f44.keep K53 (ninS ne_a0_ha (ninS ne_a0_pa nin0))
    have f57 : Fld Z T53.heap a0 "com/example/octopoll/octopoll/PageHeap" "heap" "[I" (.ref ha) := f45.keep K53 (ninS ne_a0_ha (ninS ne_a0_pa nin0))
    have f58 : Fld Z T53.heap a0 "com/example/octopoll/octopoll/PageHeap" "position" "[I" (.ref pa) := f46.keep K53 (ninS ne_a0_ha (ninS ne_a0_pa nin0))
    have f59 : Fld Z T53.heap a0 "com/example/octopoll/octopoll/PageHeap" "size" "I" (.int (2 : Int32)) := f47.keep K53 (ninS ne_a0_ha (ninS ne_a0_pa nin0))
    have f60 : Arv Z T53.heap ka kk .double (3 : Int32) [(.double d0), (.double d1), (.double d2)] (.double 0) := f48.keep K53 (ninS ne_ka_ha (ninS ne_ka_pa nin0))
    have f61 : Keep h0 T53.heap [ha, pa] := f49.trans K53 (allS (Or.inl (List.mem_of_getElem? (i := 0) rfl)) (allS (Or.inl (List.mem_of_getElem? (i := 1) rfl)) all0))
    subst hv53
    have N53 := Fr.app N41 N53q
    have pre53 : Go p.tables e below (s₁.setTop (entryFrame m #[(.ref a0), (.int (0 : Int32))] 4)) T53 (mkF m 98 #[.val (.ref a0), .val (.int (1 : Int32)), .val (.int x0), .val (.int (1 : Int32))] []) := fun t k => pre52 t (st53 _ k)
    obtain ⟨fs, hr, hrun, hended, hW, hsame⟩ := X53.leave (v := none) (fun _ => rfl) (BodyLoose.notSynchronized Bd)
    refine ⟨_, _, pre53 _ ?_, hrun, hended, _, _, rfl, ?_, ⟨_, rfl⟩, hW, hsame.mono (Nat.le_of_ble_eq_true rfl) (Nat.le_of_ble_eq_true rfl)⟩
    · exact X53.returnOut hx Bd.returns (hb hby d10_98) hr
    · show Q_sd Z a0 (0 : Int32) (2 : Int32) ka ha pa kk kh kp d0 d1 d2 x0 x1 x2 y0 y1 y2 h0 n0 _ T53.heap _
      exact ⟨x1, x0, x2, (own_u 0 x0 (1 : Int32) (own_u 0 x1 (0 : Int32) y0)), (own_u 1 x0 (1 : Int32) (own_u 1 x1 (0 : Int32) y1)), (own_u 2 x0 (1 : Int32) (own_u 2 x1 (0 : Int32) y2)), rfl, N53, f61, fo53_0, fo53_1, (Or.inr ⟨rfl, rfl, rfl⟩)⟩
theorem pn_sd21 : plainName "com/example/octopoll/octopoll/PageHeap" = true := by first | (simp [plainName, overriddenIn]; done) | decide +kernel
theorem ef_sd21 (m : MethodId) (a0 : Addr) : entryFrame m #[(.ref a0), (.int (1 : Int32))] 4 = mkF m 0 #[.val (.ref a0), .val (.int (1 : Int32)), .unset, .unset] [] := by first | (simp [entryFrame, mkF, argsToLocals, Value.category]; done) | rfl
set_option maxRecDepth 65536 in
set_option maxHeartbeats 40000000 in
theorem rm_sd21 (l : Launch) (Z : State) (av0 : Array Value) (hw : ∀ d ∈ tables_1, d.before av0 Z = true) (ws : List Jvm.Cond) (a0 : Addr) (ka : Addr) (ha : Addr) (pa : Addr) (kk : ClassId) (kh : ClassId) (kp : ClassId) (d0 : UInt64) (d1 : UInt64) (d2 : UInt64) (x0 : Int32) (x1 : Int32) (x2 : Int32) (y0 : Int32) (y1 : Int32) (y2 : Int32) (h0 : Heap) (n0 : Nat) (Z0 : n0 ≤ h0.size) (fi0 : Exa Z h0 a0 "com/example/octopoll/octopoll/PageHeap") (fi1 : Fld Z h0 a0 "com/example/octopoll/octopoll/PageHeap" "key" "[D" (.ref ka)) (fi2 : Fld Z h0 a0 "com/example/octopoll/octopoll/PageHeap" "heap" "[I" (.ref ha)) (fi3 : Fld Z h0 a0 "com/example/octopoll/octopoll/PageHeap" "position" "[I" (.ref pa)) (fi4 : Fld Z h0 a0 "com/example/octopoll/octopoll/PageHeap" "size" "I" (.int (2 : Int32))) (fi5 : Arv Z h0 ka kk .double (3 : Int32) [(.double d0), (.double d1), (.double d2)] (.double 0)) (fi6 : Arv Z h0 ha kh .int (3 : Int32) [(.int x0), (.int x1), (.int x2)] (.int (0 : Int32))) (fi7 : Arv Z h0 pa kp .int (3 : Int32) [(.int y0), (.int y1), (.int y2)] (.int (0 : Int32))) (g_ha : n0 ≤ ha) (g_pa : n0 ≤ pa) (ne_a0_ha : a0 ≠ ha) (ne_a0_pa : a0 ≠ pa) (ne_ha_pa : ha ≠ pa) (ne_a0_ka : a0 ≠ ka) (ne_ka_ha : ka ≠ ha) (ne_ka_pa : ka ≠ pa) (hx0 : own_bd x0) (hx1 : own_bd x1) (hx2 : own_bd x2) :
    MetFree l (⟨"com/example/octopoll/octopoll/PageHeap", "siftDown", "(I)V"⟩ : MethodName) (head1 (Jvm.Cond.code (⟨"com/example/octopoll/octopoll/PageHeap", "siftDown", "(I)V"⟩ : MethodName) prog_17_method_10_code 4 none :: ws) ({ frames := 1, cells := 0, slots := 0, locals := 16 } : Room)) (fun a U => a = #[(.ref a0), (.int (1 : Int32))] ∧ Z.Warmed39 U.vm ∧ U.heap = h0) (fun _ _ _ _ _ => True) (fun _ U o U' => ∃ v L, o = .returned v ∧ Q_sd Z a0 (1 : Int32) (2 : Int32) ka ha pa kk kh kp d0 d1 d2 x0 x1 x2 y0 y1 y2 h0 n0 v U'.heap L ∧ FrameEnd U o U' L ({ frames := 1, cells := 0, slots := 0, locals := 16 } : Room).cells ({ frames := 1, cells := 0, slots := 0, locals := 16 } : Room).slots) := by
  refine MetFree.of_bodySF (plainFor_of_name pn_sd21) hisR ?_
  intro p e s m args below meth c s₁ Bd hml0 hP hK
  obtain ⟨rfl, hZ, hh⟩ := hP
  have hx := Bd.exec
  have hby := Bd.bytes
  have hml : c.maxLocals = 4 := hml0
  have hown : s.vm.findClass "com/example/octopoll/octopoll/PageHeap" = some m.cls := findClass_of_methodNamed Bd.named
  have hnm := (name_of_methodNamed Bd.named Bd.method).1
  have X0 : Stand p l e ({ frames := 1, cells := 0, slots := 0, locals := 16 } : Room) s m #[(.ref a0), (.int (1 : Int32))] below meth c s₁ [] 0 0 := Stand.of_body Bd
  have e0 : s₁.heap = h0 := by rw [← hh, Bd.state]; rfl
  have N0 := Fr.nil n0
  have pre0 : Go p.tables e below (s₁.setTop (entryFrame m #[(.ref a0), (.int (1 : Int32))] 4)) s₁ (mkF m 0 #[.val (.ref a0), .val (.int (1 : Int32)), .unset, .unset] []) := fun t k => castTop (ef_sd21 m a0) k
  have K0 : Keep h0 h0 [ha, pa] := Keep.refl _ _
  have pre1 : Go p.tables e below (s₁.setTop (entryFrame m #[(.ref a0), (.int (1 : Int32))] 4)) s₁ (mkF m 1 #[.val (.ref a0), .val (.int (1 : Int32)), .unset, .unset] [(.ref a0)]) := fun t k => pre0 t (by
      refine XS.aloadN X0.here hx rfl (hb hby d10_0) rfl rfl ?_
      exact k)
  obtain ⟨T2, X2, e2, st2⟩ := getF X0 hx hZ hown (host := "") (Or.inl (hw _ (List.mem_of_getElem? (i := 13) rfl))) Via.refl e0 fi2 (g := (mkF m 1 #[.val (.ref a0), .val (.int (1 : Int32)), .unset, .unset] [(.ref a0)])) rfl rfl (hb hby d10_1)
  have pre2 : Go p.tables e below (s₁.setTop (entryFrame m #[(.ref a0), (.int (1 : Int32))] 4)) T2 (mkF m 4 #[.val (.ref a0), .val (.int (1 : Int32)), .unset, .unset] [(.ref ha)]) := fun t k => pre1 t (st2 _ k)
  have pre3 : Go p.tables e below (s₁.setTop (entryFrame m #[(.ref a0), (.int (1 : Int32))] 4)) T2 (mkF m 5 #[.val (.ref a0), .val (.int (1 : Int32)), .unset, .unset] [(.int (1 : Int32)), (.ref ha)]) := fun t k => pre2 t (by
      refine XS.iloadN X2.here hx rfl (hb hby d10_4) rfl ?_
      exact k)
  obtain ⟨c4, Ar4, q4, S4, M4, H4, G4⟩ := (id fi6)
  have hin4 : ¬ ((1 : Int32) < 0 ∨ c4.slots.size ≤ ((1 : Int32)).toNatClampNeg) := inb_of S4 ⟨by decide, by decide⟩
  have pre4 : Go p.tables e below (s₁.setTop (entryFrame m #[(.ref a0), (.int (1 : Int32))] 4)) T2 (mkF m 6 #[.val (.ref a0), .val (.int (1 : Int32)), .unset, .unset] [(.int x1)]) := fun t k => pre3 t (X2.iaload hx (j := (1 : Int32)) (v := (.int x1)) (by rw [e2]; exact Ar4.1) (State.isArrayOf_alike hZ.alike Ar4.2.1) Ar4.2.2 hin4 (H4.at hin4 rfl) (g := (mkF m 5 #[.val (.ref a0), .val (.int (1 : Int32)), .unset, .unset] [(.int (1 : Int32)), (.ref ha)])) rfl rfl (hb hby d10_5) _ k)
  have pre5 : Go p.tables e below (s₁.setTop (entryFrame m #[(.ref a0), (.int (1 : Int32))] 4)) T2 (mkF m 13 #[.val (.ref a0), .val (.int (1 : Int32)), .val (.int x1), .unset] [(.ref a0), (.int (3 : Int32))]) := fun t k => pre4 t (by
      refine XS.istoreN X2.here hx rfl (hb hby d10_6) rfl (l' := #[.val (.ref a0), .val (.int (1 : Int32)), .val (.int x1), .unset]) rfl ?_
      show Steps p.tables e below (T2.setTop (mkF m 7 #[.val (.ref a0), .val (.int (1 : Int32)), .val (.int x1), .unset] [])) _
      refine XS.iconst X2.here hx rfl (hb hby d10_7) ?_
      show Steps p.tables e below (T2.setTop (mkF m 8 #[.val (.ref a0), .val (.int (1 : Int32)), .val (.int x1), .unset] [(.int (2 : Int32))])) _
      refine XS.iloadN X2.here hx rfl (hb hby d10_8) rfl ?_
      show Steps p.tables e below (T2.setTop (mkF m 9 #[.val (.ref a0), .val (.int (1 : Int32)), .val (.int x1), .unset] [(.int (1 : Int32)), (.int (2 : Int32))])) _
      refine XS.imul X2.here hx rfl (hb hby d10_9) rfl ?_
      show Steps p.tables e below (T2.setTop (mkF m 10 #[.val (.ref a0), .val (.int (1 : Int32)), .val (.int x1), .unset] [(.int (2 : Int32))])) _
      refine XS.iconst X2.here hx rfl (hb hby d10_10) ?_
      show Steps p.tables e below (T2.setTop (mkF m 11 #[.val (.ref a0), .val (.int (1 : Int32)), .val (.int x1), .unset] [(.int (1 : Int32)), (.int (2 : Int32))])) _
      refine XS.iadd X2.here hx rfl (hb hby d10_11) rfl ?_
      show Steps p.tables e below (T2.setTop (mkF m 12 #[.val (.ref a0), .val (.int (1 : Int32)), .val (.int x1), .unset] [(.int (3 : Int32))])) _
      refine XS.aloadN X2.here hx rfl (hb hby d10_12) rfl rfl ?_
      exact k)
  obtain ⟨T6, X6, e6, st6⟩ := getF X2 hx hZ hown (host := "") (Or.inl (hw _ (List.mem_of_getElem? (i := 26) rfl))) Via.refl e2 fi4 (g := (mkF m 13 #[.val (.ref a0), .val (.int (1 : Int32)), .val (.int x1), .unset] [(.ref a0), (.int (3 : Int32))])) rfl rfl (hb hby d10_13)
  have pre6 : Go p.tables e below (s₁.setTop (entryFrame m #[(.ref a0), (.int (1 : Int32))] 4)) T6 (mkF m 16 #[.val (.ref a0), .val (.int (1 : Int32)), .val (.int x1), .unset] [(.int (2 : Int32)), (.int (3 : Int32))]) := fun t k => pre5 t (st6 _ k)
  have pre7 : Go p.tables e below (s₁.setTop (entryFrame m #[(.ref a0), (.int (1 : Int32))] 4)) T6 (mkF m 95 #[.val (.ref a0), .val (.int (1 : Int32)), .val (.int x1), .unset] [(.int (1 : Int32)), (.int x1), (.ref a0)]) := fun t k => pre6 t (by
      refine XS.icmpYes X6.here hx rfl (pc0 := 16) (pc' := 92) rfl (hb hby d10_16) rfl (flt (by decide)).2.1 (by decide) (by decide) ?_
      show Steps p.tables e below (T6.setTop (mkF m 92 #[.val (.ref a0), .val (.int (1 : Int32)), .val (.int x1), .unset] [])) _
      refine XS.aloadN X6.here hx rfl (hb hby d10_92) rfl rfl ?_
      show Steps p.tables e below (T6.setTop (mkF m 93 #[.val (.ref a0), .val (.int (1 : Int32)), .val (.int x1), .unset] [(.ref a0)])) _
      refine XS.iloadN X6.here hx rfl (hb hby d10_93) rfl ?_
      show Steps p.tables e below (T6.setTop (mkF m 94 #[.val (.ref a0), .val (.int (1 : Int32)), .val (.int x1), .unset] [(.int x1), (.ref a0)])) _
      refine XS.iloadN X6.here hx rfl (hb hby d10_94) rfl ?_
      exact k)
  obtain ⟨cq8, q8, q8'⟩ := fi0.cell
  obtain ⟨_, _, ⟨T8, L8, k8, n8⟩, -, X8, ⟨Lc8, hQ8, l8, y8, z8⟩, st8⟩ := own_private X6 hx (y := (⟨"com/example/octopoll/octopoll/PageHeap", "place", "(II)V"⟩ : MethodName)) hown (mvT hZ (hw _ (List.mem_of_getElem? (i := 33) rfl))) (mvT hZ (hw _ (List.mem_of_getElem? (i := 34) rfl))) (mvT hZ (hw _ (List.mem_of_getElem? (i := 24) rfl))) rfl (Cond.privateMethod_at (mvP hZ (hw _ (List.mem_of_getElem? (i := 35) rfl)) (args := #[]))) (mvT hZ (hw _ (List.mem_of_getElem? (i := 36) rfl))) (by decide) (backOf (W := 0) (rm_plc l Z av0 hw [] a0 x1 (1 : Int32) ha pa kh kp x0 x1 x2 y0 y1 y2 h0 n0 Z0 fi2 fi3 fi6 fi7 g_ha g_pa ne_a0_ha ne_a0_pa ne_ha_pa hx1 (by decide)) hZ (hw _ (List.mem_of_getElem? (i := 36) rfl)) (hw _ (List.mem_of_getElem? (i := 3) rfl)) (by decide) (by decide)) (a := a0) (by rw [e6]; exact q8) q8' (g := (mkF m 95 #[.val (.ref a0), .val (.int (1 : Int32)), .val (.int x1), .unset] [(.int (1 : Int32)), (.int x1), (.ref a0)])) rfl (by rw [hml]; rfl) (argsL := [(.int x1), (.int (1 : Int32))]) (rest := []) (lenOf pd_0 rfl) rfl (by show 2 * 0 + _ ≤ _; exact Nat.le_of_eq rfl) (hb hby d10_95) (fun _ _ => ⟨rfl, e6, (by decide : 0 + 0 ≤ _), (by decide : 0 + 0 ≤ _)⟩)
  dsimp only [Pt.U, Pt.locs, Pt.cells, Pt.slots] at X8 l8 y8 z8 st8 hQ8
  subst l8 y8 z8
  obtain ⟨hv8, N8q, K8, fo8_0, fo8_1⟩ := hQ8
  have f9 : n0 ≤ T8.heap.size := Nat.le_trans Z0 K8.1
  have f10 : Exa Z T8.heap a0 "com/example/octopoll/octopoll/PageHeap" := fi0.keep K8
  have f11 : Fld Z T8.heap a0 "com/example/octopoll/octopoll/PageHeap" "key" "[D" (.ref ka) := fi1.keep K8 (ninS ne_a0_ha (ninS ne_a0_pa nin0))
  have f12 : Fld Z T8.heap a0 "com/example/octopoll/octopoll/PageHeap" "heap" "[I" (.ref ha) := fi2.keep K8 (ninS ne_a0_ha (ninS ne_a0_pa nin0))
  have f13 : Fld Z T8.heap a0 "com/example/octopoll/octopoll/PageHeap" "position" "[I" (.ref pa) := fi3.keep K8 (ninS ne_a0_ha (ninS ne_a0_pa nin0))
  have f14 : Fld Z T8.heap a0 "com/example/octopoll/octopoll/PageHeap" "size" "I" (.int (2 : Int32)) := fi4.keep K8 (ninS ne_a0_ha (ninS ne_a0_pa nin0))
  have f15 : Arv Z T8.heap ka kk .double (3 : Int32) [(.double d0), (.double d1), (.double d2)] (.double 0) := fi5.keep K8 (ninS ne_ka_ha (ninS ne_ka_pa nin0))
  have f16 : Keep h0 T8.heap [ha, pa] := K0.trans K8 (allS (Or.inl (List.mem_of_getElem? (i := 0) rfl)) (allS (Or.inl (List.mem_of_getElem? (i := 1) rfl)) all0))
  subst hv8
  have N8 := Fr.app N0 N8q
  have pre8 : Go p.tables e below (s₁.setTop (entryFrame m #[(.ref a0), (.int (1 : Int32))] 4)) T8 (mkF m 98 #[.val (.ref a0), .val (.int (1 : Int32)), .val (.int x1), .unset] []) := fun t k => pre7 t (st8 _ k)
  obtain ⟨fs, hr, hrun, hended, hW, hsame⟩ := X8.leave (v := none) (fun _ => rfl) (BodyLoose.notSynchronized Bd)
  refine ⟨_, _, pre8 _ ?_, hrun, hended, _, _, rfl, ?_, ⟨_, rfl⟩, hW, hsame.mono (Nat.le_of_ble_eq_true rfl) (Nat.le_of_ble_eq_true rfl)⟩
  · exact X8.returnOut hx Bd.returns (hb hby d10_98) hr
  · show Q_sd Z a0 (1 : Int32) (2 : Int32) ka ha pa kk kh kp d0 d1 d2 x0 x1 x2 y0 y1 y2 h0 n0 _ T8.heap _
    exact ⟨x0, x1, x2, (own_u 0 x1 (1 : Int32) y0), (own_u 1 x1 (1 : Int32) y1), (own_u 2 x1 (1 : Int32) y2), rfl, N8, f16, fo8_0, fo8_1, (Or.inl rfl)⟩
theorem pn_sd22 : plainName "com/example/octopoll/octopoll/PageHeap" = true := by first | (simp [plainName, overriddenIn]; done) | decide +kernel
theorem ef_sd22 (m : MethodId) (a0 : Addr) : entryFrame m #[(.ref a0), (.int (2 : Int32))] 4 = mkF m 0 #[.val (.ref a0), .val (.int (2 : Int32)), .unset, .unset] [] := by first | (simp [entryFrame, mkF, argsToLocals, Value.category]; done) | rfl
set_option maxRecDepth 65536 in
set_option maxHeartbeats 40000000 in
theorem rm_sd22 (l : Launch) (Z : State) (av0 : Array Value) (hw : ∀ d ∈ tables_1, d.before av0 Z = true) (ws : List Jvm.Cond) (a0 : Addr) (ka : Addr) (ha : Addr) (pa : Addr) (kk : ClassId) (kh : ClassId) (kp : ClassId) (d0 : UInt64) (d1 : UInt64) (d2 : UInt64) (x0 : Int32) (x1 : Int32) (x2 : Int32) (y0 : Int32) (y1 : Int32) (y2 : Int32) (h0 : Heap) (n0 : Nat) (Z0 : n0 ≤ h0.size) (fi0 : Exa Z h0 a0 "com/example/octopoll/octopoll/PageHeap") (fi1 : Fld Z h0 a0 "com/example/octopoll/octopoll/PageHeap" "key" "[D" (.ref ka)) (fi2 : Fld Z h0 a0 "com/example/octopoll/octopoll/PageHeap" "heap" "[I" (.ref ha)) (fi3 : Fld Z h0 a0 "com/example/octopoll/octopoll/PageHeap" "position" "[I" (.ref pa)) (fi4 : Fld Z h0 a0 "com/example/octopoll/octopoll/PageHeap" "size" "I" (.int (2 : Int32))) (fi5 : Arv Z h0 ka kk .double (3 : Int32) [(.double d0), (.double d1), (.double d2)] (.double 0)) (fi6 : Arv Z h0 ha kh .int (3 : Int32) [(.int x0), (.int x1), (.int x2)] (.int (0 : Int32))) (fi7 : Arv Z h0 pa kp .int (3 : Int32) [(.int y0), (.int y1), (.int y2)] (.int (0 : Int32))) (g_ha : n0 ≤ ha) (g_pa : n0 ≤ pa) (ne_a0_ha : a0 ≠ ha) (ne_a0_pa : a0 ≠ pa) (ne_ha_pa : ha ≠ pa) (ne_a0_ka : a0 ≠ ka) (ne_ka_ha : ka ≠ ha) (ne_ka_pa : ka ≠ pa) (hx0 : own_bd x0) (hx1 : own_bd x1) (hx2 : own_bd x2) :
    MetFree l (⟨"com/example/octopoll/octopoll/PageHeap", "siftDown", "(I)V"⟩ : MethodName) (head1 (Jvm.Cond.code (⟨"com/example/octopoll/octopoll/PageHeap", "siftDown", "(I)V"⟩ : MethodName) prog_17_method_10_code 4 none :: ws) ({ frames := 1, cells := 0, slots := 0, locals := 16 } : Room)) (fun a U => a = #[(.ref a0), (.int (2 : Int32))] ∧ Z.Warmed39 U.vm ∧ U.heap = h0) (fun _ _ _ _ _ => True) (fun _ U o U' => ∃ v L, o = .returned v ∧ Q_sd Z a0 (2 : Int32) (2 : Int32) ka ha pa kk kh kp d0 d1 d2 x0 x1 x2 y0 y1 y2 h0 n0 v U'.heap L ∧ FrameEnd U o U' L ({ frames := 1, cells := 0, slots := 0, locals := 16 } : Room).cells ({ frames := 1, cells := 0, slots := 0, locals := 16 } : Room).slots) := by
  refine MetFree.of_bodySF (plainFor_of_name pn_sd22) hisR ?_
  intro p e s m args below meth c s₁ Bd hml0 hP hK
  obtain ⟨rfl, hZ, hh⟩ := hP
  have hx := Bd.exec
  have hby := Bd.bytes
  have hml : c.maxLocals = 4 := hml0
  have hown : s.vm.findClass "com/example/octopoll/octopoll/PageHeap" = some m.cls := findClass_of_methodNamed Bd.named
  have hnm := (name_of_methodNamed Bd.named Bd.method).1
  have X0 : Stand p l e ({ frames := 1, cells := 0, slots := 0, locals := 16 } : Room) s m #[(.ref a0), (.int (2 : Int32))] below meth c s₁ [] 0 0 := Stand.of_body Bd
  have e0 : s₁.heap = h0 := by rw [← hh, Bd.state]; rfl
  have N0 := Fr.nil n0
  have pre0 : Go p.tables e below (s₁.setTop (entryFrame m #[(.ref a0), (.int (2 : Int32))] 4)) s₁ (mkF m 0 #[.val (.ref a0), .val (.int (2 : Int32)), .unset, .unset] []) := fun t k => castTop (ef_sd22 m a0) k
  have K0 : Keep h0 h0 [ha, pa] := Keep.refl _ _
  have pre1 : Go p.tables e below (s₁.setTop (entryFrame m #[(.ref a0), (.int (2 : Int32))] 4)) s₁ (mkF m 1 #[.val (.ref a0), .val (.int (2 : Int32)), .unset, .unset] [(.ref a0)]) := fun t k => pre0 t (by
      refine XS.aloadN X0.here hx rfl (hb hby d10_0) rfl rfl ?_
      exact k)
  obtain ⟨T2, X2, e2, st2⟩ := getF X0 hx hZ hown (host := "") (Or.inl (hw _ (List.mem_of_getElem? (i := 13) rfl))) Via.refl e0 fi2 (g := (mkF m 1 #[.val (.ref a0), .val (.int (2 : Int32)), .unset, .unset] [(.ref a0)])) rfl rfl (hb hby d10_1)
  have pre2 : Go p.tables e below (s₁.setTop (entryFrame m #[(.ref a0), (.int (2 : Int32))] 4)) T2 (mkF m 4 #[.val (.ref a0), .val (.int (2 : Int32)), .unset, .unset] [(.ref ha)]) := fun t k => pre1 t (st2 _ k)
  have pre3 : Go p.tables e below (s₁.setTop (entryFrame m #[(.ref a0), (.int (2 : Int32))] 4)) T2 (mkF m 5 #[.val (.ref a0), .val (.int (2 : Int32)), .unset, .unset] [(.int (2 : Int32)), (.ref ha)]) := fun t k => pre2 t (by
      refine XS.iloadN X2.here hx rfl (hb hby d10_4) rfl ?_
      exact k)
  obtain ⟨c4, Ar4, q4, S4, M4, H4, G4⟩ := (id fi6)
  have hin4 : ¬ ((2 : Int32) < 0 ∨ c4.slots.size ≤ ((2 : Int32)).toNatClampNeg) := inb_of S4 ⟨by decide, by decide⟩
  have pre4 : Go p.tables e below (s₁.setTop (entryFrame m #[(.ref a0), (.int (2 : Int32))] 4)) T2 (mkF m 6 #[.val (.ref a0), .val (.int (2 : Int32)), .unset, .unset] [(.int x2)]) := fun t k => pre3 t (X2.iaload hx (j := (2 : Int32)) (v := (.int x2)) (by rw [e2]; exact Ar4.1) (State.isArrayOf_alike hZ.alike Ar4.2.1) Ar4.2.2 hin4 (H4.at hin4 rfl) (g := (mkF m 5 #[.val (.ref a0), .val (.int (2 : Int32)), .unset, .unset] [(.int (2 : Int32)), (.ref ha)])) rfl rfl (hb hby d10_5) _ k)
  have pre5 : Go p.tables e below (s₁.setTop (entryFrame m #[(.ref a0), (.int (2 : Int32))] 4)) T2 (mkF m 13 #[.val (.ref a0), .val (.int (2 : Int32)), .val (.int x2), .unset] [(.ref a0), (.int (5 : Int32))]) := fun t k => pre4 t (by
      refine XS.istoreN X2.here hx rfl (hb hby d10_6) rfl (l' := #[.val (.ref a0), .val (.int (2 : Int32)), .val (.int x2), .unset]) rfl ?_
      show Steps p.tables e below (T2.setTop (mkF m 7 #[.val (.ref a0), .val (.int (2 : Int32)), .val (.int x2), .unset] [])) _
      refine XS.iconst X2.here hx rfl (hb hby d10_7) ?_
      show Steps p.tables e below (T2.setTop (mkF m 8 #[.val (.ref a0), .val (.int (2 : Int32)), .val (.int x2), .unset] [(.int (2 : Int32))])) _
      refine XS.iloadN X2.here hx rfl (hb hby d10_8) rfl ?_
      show Steps p.tables e below (T2.setTop (mkF m 9 #[.val (.ref a0), .val (.int (2 : Int32)), .val (.int x2), .unset] [(.int (2 : Int32)), (.int (2 : Int32))])) _
      refine XS.imul X2.here hx rfl (hb hby d10_9) rfl ?_
      show Steps p.tables e below (T2.setTop (mkF m 10 #[.val (.ref a0), .val (.int (2 : Int32)), .val (.int x2), .unset] [(.int (4 : Int32))])) _
      refine XS.iconst X2.here hx rfl (hb hby d10_10) ?_
      show Steps p.tables e below (T2.setTop (mkF m 11 #[.val (.ref a0), .val (.int (2 : Int32)), .val (.int x2), .unset] [(.int (1 : Int32)), (.int (4 : Int32))])) _
      refine XS.iadd X2.here hx rfl (hb hby d10_11) rfl ?_
      show Steps p.tables e below (T2.setTop (mkF m 12 #[.val (.ref a0), .val (.int (2 : Int32)), .val (.int x2), .unset] [(.int (5 : Int32))])) _
      refine XS.aloadN X2.here hx rfl (hb hby d10_12) rfl rfl ?_
      exact k)
  obtain ⟨T6, X6, e6, st6⟩ := getF X2 hx hZ hown (host := "") (Or.inl (hw _ (List.mem_of_getElem? (i := 26) rfl))) Via.refl e2 fi4 (g := (mkF m 13 #[.val (.ref a0), .val (.int (2 : Int32)), .val (.int x2), .unset] [(.ref a0), (.int (5 : Int32))])) rfl rfl (hb hby d10_13)
  have pre6 : Go p.tables e below (s₁.setTop (entryFrame m #[(.ref a0), (.int (2 : Int32))] 4)) T6 (mkF m 16 #[.val (.ref a0), .val (.int (2 : Int32)), .val (.int x2), .unset] [(.int (2 : Int32)), (.int (5 : Int32))]) := fun t k => pre5 t (st6 _ k)
  have pre7 : Go p.tables e below (s₁.setTop (entryFrame m #[(.ref a0), (.int (2 : Int32))] 4)) T6 (mkF m 95 #[.val (.ref a0), .val (.int (2 : Int32)), .val (.int x2), .unset] [(.int (2 : Int32)), (.int x2), (.ref a0)]) := fun t k => pre6 t (by
      refine XS.icmpYes X6.here hx rfl (pc0 := 16) (pc' := 92) rfl (hb hby d10_16) rfl (flt (by decide)).2.1 (by decide) (by decide) ?_
      show Steps p.tables e below (T6.setTop (mkF m 92 #[.val (.ref a0), .val (.int (2 : Int32)), .val (.int x2), .unset] [])) _
      refine XS.aloadN X6.here hx rfl (hb hby d10_92) rfl rfl ?_
      show Steps p.tables e below (T6.setTop (mkF m 93 #[.val (.ref a0), .val (.int (2 : Int32)), .val (.int x2), .unset] [(.ref a0)])) _
      refine XS.iloadN X6.here hx rfl (hb hby d10_93) rfl ?_
      show Steps p.tables e below (T6.setTop (mkF m 94 #[.val (.ref a0), .val (.int (2 : Int32)), .val (.int x2), .unset] [(.int x2), (.ref a0)])) _
      refine XS.iloadN X6.here hx rfl (hb hby d10_94) rfl ?_
      exact k)
  obtain ⟨cq8, q8, q8'⟩ := fi0.cell
  obtain ⟨_, _, ⟨T8, L8, k8, n8⟩, -, X8, ⟨Lc8, hQ8, l8, y8, z8⟩, st8⟩ := own_private X6 hx (y := (⟨"com/example/octopoll/octopoll/PageHeap", "place", "(II)V"⟩ : MethodName)) hown (mvT hZ (hw _ (List.mem_of_getElem? (i := 33) rfl))) (mvT hZ (hw _ (List.mem_of_getElem? (i := 34) rfl))) (mvT hZ (hw _ (List.mem_of_getElem? (i := 24) rfl))) rfl (Cond.privateMethod_at (mvP hZ (hw _ (List.mem_of_getElem? (i := 35) rfl)) (args := #[]))) (mvT hZ (hw _ (List.mem_of_getElem? (i := 36) rfl))) (by decide) (backOf (W := 0) (rm_plc l Z av0 hw [] a0 x2 (2 : Int32) ha pa kh kp x0 x1 x2 y0 y1 y2 h0 n0 Z0 fi2 fi3 fi6 fi7 g_ha g_pa ne_a0_ha ne_a0_pa ne_ha_pa hx2 (by decide)) hZ (hw _ (List.mem_of_getElem? (i := 36) rfl)) (hw _ (List.mem_of_getElem? (i := 3) rfl)) (by decide) (by decide)) (a := a0) (by rw [e6]; exact q8) q8' (g := (mkF m 95 #[.val (.ref a0), .val (.int (2 : Int32)), .val (.int x2), .unset] [(.int (2 : Int32)), (.int x2), (.ref a0)])) rfl (by rw [hml]; rfl) (argsL := [(.int x2), (.int (2 : Int32))]) (rest := []) (lenOf pd_0 rfl) rfl (by show 2 * 0 + _ ≤ _; exact Nat.le_of_eq rfl) (hb hby d10_95) (fun _ _ => ⟨rfl, e6, (by decide : 0 + 0 ≤ _), (by decide : 0 + 0 ≤ _)⟩)
  dsimp only [Pt.U, Pt.locs, Pt.cells, Pt.slots] at X8 l8 y8 z8 st8 hQ8
  subst l8 y8 z8
  obtain ⟨hv8, N8q, K8, fo8_0, fo8_1⟩ := hQ8
  have f9 : n0 ≤ T8.heap.size := Nat.le_trans Z0 K8.1
  have f10 : Exa Z T8.heap a0 "com/example/octopoll/octopoll/PageHeap" := fi0.keep K8
  have f11 : Fld Z T8.heap a0 "com/example/octopoll/octopoll/PageHeap" "key" "[D" (.ref ka) := fi1.keep K8 (ninS ne_a0_ha (ninS ne_a0_pa nin0))
  have f12 : Fld Z T8.heap a0 "com/example/octopoll/octopoll/PageHeap" "heap" "[I" (.ref ha) := fi2.keep K8 (ninS ne_a0_ha (ninS ne_a0_pa nin0))
  have f13 : Fld Z T8.heap a0 "com/example/octopoll/octopoll/PageHeap" "position" "[I" (.ref pa) := fi3.keep K8 (ninS ne_a0_ha (ninS ne_a0_pa nin0))
  have f14 : Fld Z T8.heap a0 "com/example/octopoll/octopoll/PageHeap" "size" "I" (.int (2 : Int32)) := fi4.keep K8 (ninS ne_a0_ha (ninS ne_a0_pa nin0))
  have f15 : Arv Z T8.heap ka kk .double (3 : Int32) [(.double d0), (.double d1), (.double d2)] (.double 0) := fi5.keep K8 (ninS ne_ka_ha (ninS ne_ka_pa nin0))
  have f16 : Keep h0 T8.heap [ha, pa] := K0.trans K8 (allS (Or.inl (List.mem_of_getElem? (i := 0) rfl)) (allS (Or.inl (List.mem_of_getElem? (i := 1) rfl)) all0))
  subst hv8
  have N8 := Fr.app N0 N8q
  have pre8 : Go p.tables e below (s₁.setTop (entryFrame m #[(.ref a0), (.int (2 : Int32))] 4)) T8 (mkF m 98 #[.val (.ref a0), .val (.int (2 : Int32)), .val (.int x2), .unset] []) := fun t k => pre7 t (st8 _ k)
  obtain ⟨fs, hr, hrun, hended, hW, hsame⟩ := X8.leave (v := none) (fun _ => rfl) (BodyLoose.notSynchronized Bd)
  refine ⟨_, _, pre8 _ ?_, hrun, hended, _, _, rfl, ?_, ⟨_, rfl⟩, hW, hsame.mono (Nat.le_of_ble_eq_true rfl) (Nat.le_of_ble_eq_true rfl)⟩
  · exact X8.returnOut hx Bd.returns (hb hby d10_98) hr
  · show Q_sd Z a0 (2 : Int32) (2 : Int32) ka ha pa kk kh kp d0 d1 d2 x0 x1 x2 y0 y1 y2 h0 n0 _ T8.heap _
    exact ⟨x0, x1, x2, (own_u 0 x2 (2 : Int32) y0), (own_u 1 x2 (2 : Int32) y1), (own_u 2 x2 (2 : Int32) y2), rfl, N8, f16, fo8_0, fo8_1, (Or.inl rfl)⟩
theorem rm_sd (l : Launch) (Z : State) (av0 : Array Value) (hw : ∀ d ∈ tables_1, d.before av0 Z = true) (ws : List Jvm.Cond) (a0 : Addr) (p1 n1 : Int32) (ka : Addr) (ha : Addr) (pa : Addr) (kk : ClassId) (kh : ClassId) (kp : ClassId) (d0 : UInt64) (d1 : UInt64) (d2 : UInt64) (x0 : Int32) (x1 : Int32) (x2 : Int32) (y0 : Int32) (y1 : Int32) (y2 : Int32) (h0 : Heap) (n0 : Nat) (Z0 : n0 ≤ h0.size) (fi0 : Exa Z h0 a0 "com/example/octopoll/octopoll/PageHeap") (fi1 : Fld Z h0 a0 "com/example/octopoll/octopoll/PageHeap" "key" "[D" (.ref ka)) (fi2 : Fld Z h0 a0 "com/example/octopoll/octopoll/PageHeap" "heap" "[I" (.ref ha)) (fi3 : Fld Z h0 a0 "com/example/octopoll/octopoll/PageHeap" "position" "[I" (.ref pa)) (fi4 : Fld Z h0 a0 "com/example/octopoll/octopoll/PageHeap" "size" "I" (.int n1)) (fi5 : Arv Z h0 ka kk .double (3 : Int32) [(.double d0), (.double d1), (.double d2)] (.double 0)) (fi6 : Arv Z h0 ha kh .int (3 : Int32) [(.int x0), (.int x1), (.int x2)] (.int (0 : Int32))) (fi7 : Arv Z h0 pa kp .int (3 : Int32) [(.int y0), (.int y1), (.int y2)] (.int (0 : Int32))) (g_ha : n0 ≤ ha) (g_pa : n0 ≤ pa) (ne_a0_ha : a0 ≠ ha) (ne_a0_pa : a0 ≠ pa) (ne_ha_pa : ha ≠ pa) (ne_a0_ka : a0 ≠ ka) (ne_ka_ha : ka ≠ ha) (ne_ka_pa : ka ≠ pa) (hx0 : own_bd x0) (hx1 : own_bd x1) (hx2 : own_bd x2) (hn : n1 = 1 ∨ n1 = 2) (hb : own_bd p1) :
    MetFree l (⟨"com/example/octopoll/octopoll/PageHeap", "siftDown", "(I)V"⟩ : MethodName) (head1 (Jvm.Cond.code (⟨"com/example/octopoll/octopoll/PageHeap", "siftDown", "(I)V"⟩ : MethodName) prog_17_method_10_code 4 none :: ws) ({ frames := 1, cells := 0, slots := 0, locals := 16 } : Room)) (fun a U => a = #[(.ref a0), (.int p1)] ∧ Z.Warmed39 U.vm ∧ U.heap = h0) (fun _ _ _ _ _ => True) (fun _ U o U' => ∃ v L, o = .returned v ∧ Q_sd Z a0 p1 n1 ka ha pa kk kh kp d0 d1 d2 x0 x1 x2 y0 y1 y2 h0 n0 v U'.heap L ∧ FrameEnd U o U' L ({ frames := 1, cells := 0, slots := 0, locals := 16 } : Room).cells ({ frames := 1, cells := 0, slots := 0, locals := 16 } : Room).slots) := by
  rcases hn with rfl | rfl <;> rcases own_012 hb with rfl | rfl | rfl
  · exact rm_sd10 l Z av0 hw ws a0 ka ha pa kk kh kp d0 d1 d2 x0 x1 x2 y0 y1 y2 h0 n0 Z0 fi0 fi1 fi2 fi3 fi4 fi5 fi6 fi7 g_ha g_pa ne_a0_ha ne_a0_pa ne_ha_pa ne_a0_ka ne_ka_ha ne_ka_pa hx0 hx1 hx2
  · exact rm_sd11 l Z av0 hw ws a0 ka ha pa kk kh kp d0 d1 d2 x0 x1 x2 y0 y1 y2 h0 n0 Z0 fi0 fi1 fi2 fi3 fi4 fi5 fi6 fi7 g_ha g_pa ne_a0_ha ne_a0_pa ne_ha_pa ne_a0_ka ne_ka_ha ne_ka_pa hx0 hx1 hx2
  · exact rm_sd12 l Z av0 hw ws a0 ka ha pa kk kh kp d0 d1 d2 x0 x1 x2 y0 y1 y2 h0 n0 Z0 fi0 fi1 fi2 fi3 fi4 fi5 fi6 fi7 g_ha g_pa ne_a0_ha ne_a0_pa ne_ha_pa ne_a0_ka ne_ka_ha ne_ka_pa hx0 hx1 hx2
  · exact rm_sd20 l Z av0 hw ws a0 ka ha pa kk kh kp d0 d1 d2 x0 x1 x2 y0 y1 y2 h0 n0 Z0 fi0 fi1 fi2 fi3 fi4 fi5 fi6 fi7 g_ha g_pa ne_a0_ha ne_a0_pa ne_ha_pa ne_a0_ka ne_ka_ha ne_ka_pa hx0 hx1 hx2
  · exact rm_sd21 l Z av0 hw ws a0 ka ha pa kk kh kp d0 d1 d2 x0 x1 x2 y0 y1 y2 h0 n0 Z0 fi0 fi1 fi2 fi3 fi4 fi5 fi6 fi7 g_ha g_pa ne_a0_ha ne_a0_pa ne_ha_pa ne_a0_ka ne_ka_ha ne_ka_pa hx0 hx1 hx2
  · exact rm_sd22 l Z av0 hw ws a0 ka ha pa kk kh kp d0 d1 d2 x0 x1 x2 y0 y1 y2 h0 n0 Z0 fi0 fi1 fi2 fi3 fi4 fi5 fi6 fi7 g_ha g_pa ne_a0_ha ne_a0_pa ne_ha_pa ne_a0_ka ne_ka_ha ne_ka_pa hx0 hx1 hx2
theorem d5_0 : decode prog_17_method_5_code 0 = .ok (.aload_n 0, 1) := by decide +kernel
theorem d5_1 : decode prog_17_method_5_code 1 = .ok (.iload_n 1, 1) := by decide +kernel
theorem d5_2 : decode prog_17_method_5_code 2 = .ok (.aload_n 0, 1) := by decide +kernel
theorem d5_3 : decode prog_17_method_5_code 3 = .ok (.dup, 1) := by decide +kernel
theorem d5_4 : decode prog_17_method_5_code 4 = .ok (.getfield 26, 3) := by decide +kernel
theorem d5_7 : decode prog_17_method_5_code 7 = .ok (.dup_x1, 1) := by decide +kernel
theorem d5_8 : decode prog_17_method_5_code 8 = .ok (.iconst 1, 1) := by decide +kernel
theorem d5_9 : decode prog_17_method_5_code 9 = .ok (.iadd, 1) := by decide +kernel
theorem d5_10 : decode prog_17_method_5_code 10 = .ok (.putfield 26, 3) := by decide +kernel
theorem d5_13 : decode prog_17_method_5_code 13 = .ok (.invokevirtual 30, 3) := by decide +kernel
theorem d5_16 : decode prog_17_method_5_code 16 = .ok (.aload_n 0, 1) := by decide +kernel
theorem d5_17 : decode prog_17_method_5_code 17 = .ok (.aload_n 0, 1) := by decide +kernel
theorem d5_18 : decode prog_17_method_5_code 18 = .ok (.getfield 17, 3) := by decide +kernel
theorem d5_21 : decode prog_17_method_5_code 21 = .ok (.iload_n 1, 1) := by decide +kernel
theorem d5_22 : decode prog_17_method_5_code 22 = .ok (.iaload, 1) := by decide +kernel
theorem d5_23 : decode prog_17_method_5_code 23 = .ok (.invokevirtual 34, 3) := by decide +kernel
theorem d5_26 : decode prog_17_method_5_code 26 = .ok (.return_, 1) := by decide +kernel
theorem pn_add0 : plainName "com/example/octopoll/octopoll/PageHeap" = true := by first | (simp [plainName, overriddenIn]; done) | decide +kernel
theorem ef_add0 (m : MethodId) (a0 : Addr) : entryFrame m #[(.ref a0), (.int (0 : Int32))] 2 = mkF m 0 #[.val (.ref a0), .val (.int (0 : Int32))] [] := by first | (simp [entryFrame, mkF, argsToLocals, Value.category]; done) | rfl
def Q_add0 (Z : State) (a0 : Addr) (ka : Addr) (ha : Addr) (pa : Addr) (kk : ClassId) (kh : ClassId) (kp : ClassId) (d0 : UInt64) (d1 : UInt64) (d2 : UInt64) (x0 : Int32) (x1 : Int32) (x2 : Int32) (y0 : Int32) (y1 : Int32) (y2 : Int32) (b1 : Bool) (b2 : Bool) (h0 : Heap) (n0 : Nat) (v : Option Value) (h : Heap) (L : List Loc) : Prop := ∃ (z0 : Int32) (z1 : Int32) (z2 : Int32) (z3 : Int32) (z4 : Int32) (z5 : Int32), v = none ∧ Fr n0 L ∧ Keep h0 h [a0, ha, pa] ∧ Exa Z h a0 "com/example/octopoll/octopoll/PageHeap" ∧ Fld Z h a0 "com/example/octopoll/octopoll/PageHeap" "key" "[D" (.ref ka) ∧ Fld Z h a0 "com/example/octopoll/octopoll/PageHeap" "heap" "[I" (.ref ha) ∧ Fld Z h a0 "com/example/octopoll/octopoll/PageHeap" "position" "[I" (.ref pa) ∧ Fld Z h a0 "com/example/octopoll/octopoll/PageHeap" "size" "I" (.int (own_cnt true b1 b2)) ∧ Arv Z h ha kh .int (3 : Int32) [(.int z0), (.int z1), (.int z2)] (.int (0 : Int32)) ∧ Arv Z h pa kp .int (3 : Int32) [(.int z3), (.int z4), (.int z5)] (.int (0 : Int32)) ∧ (z0, z1, z2, z3, z4, z5) ∈ own_S true b1 b2
set_option maxRecDepth 65536 in
set_option maxHeartbeats 40000000 in
theorem rm_add0 (l : Launch) (Z : State) (av0 : Array Value) (hw : ∀ d ∈ tables_1, d.before av0 Z = true) (ws : List Jvm.Cond) (a0 : Addr) (ka : Addr) (ha : Addr) (pa : Addr) (kk : ClassId) (kh : ClassId) (kp : ClassId) (d0 : UInt64) (d1 : UInt64) (d2 : UInt64) (x0 : Int32) (x1 : Int32) (x2 : Int32) (y0 : Int32) (y1 : Int32) (y2 : Int32) (b1 : Bool) (b2 : Bool) (h0 : Heap) (n0 : Nat) (Z0 : n0 ≤ h0.size) (fi0 : Exa Z h0 a0 "com/example/octopoll/octopoll/PageHeap") (fi1 : Fld Z h0 a0 "com/example/octopoll/octopoll/PageHeap" "key" "[D" (.ref ka)) (fi2 : Fld Z h0 a0 "com/example/octopoll/octopoll/PageHeap" "heap" "[I" (.ref ha)) (fi3 : Fld Z h0 a0 "com/example/octopoll/octopoll/PageHeap" "position" "[I" (.ref pa)) (fi4 : Fld Z h0 a0 "com/example/octopoll/octopoll/PageHeap" "size" "I" (.int (own_cnt false b1 b2))) (fi5 : Arv Z h0 ka kk .double (3 : Int32) [(.double d0), (.double d1), (.double d2)] (.double 0)) (fi6 : Arv Z h0 ha kh .int (3 : Int32) [(.int x0), (.int x1), (.int x2)] (.int (0 : Int32))) (fi7 : Arv Z h0 pa kp .int (3 : Int32) [(.int y0), (.int y1), (.int y2)] (.int (0 : Int32))) (g_a0 : n0 ≤ a0) (g_ha : n0 ≤ ha) (g_pa : n0 ≤ pa) (ne_a0_ha : a0 ≠ ha) (ne_a0_pa : a0 ≠ pa) (ne_ha_pa : ha ≠ pa) (ne_a0_ka : a0 ≠ ka) (ne_ka_ha : ka ≠ ha) (ne_ka_pa : ka ≠ pa) (hS : (x0, x1, x2, y0, y1, y2) ∈ own_S false b1 b2) :
    MetFree l (⟨"com/example/octopoll/octopoll/PageHeap", "add", "(I)V"⟩ : MethodName) (head1 (Jvm.Cond.code (⟨"com/example/octopoll/octopoll/PageHeap", "add", "(I)V"⟩ : MethodName) prog_17_method_5_code 2 none :: ws) ({ frames := 2, cells := 0, slots := 0, locals := 30 } : Room)) (fun a U => a = #[(.ref a0), (.int (0 : Int32))] ∧ Z.Warmed39 U.vm ∧ U.heap = h0) (fun _ _ _ _ _ => True) (fun _ U o U' => ∃ v L, o = .returned v ∧ Q_add0 Z a0 ka ha pa kk kh kp d0 d1 d2 x0 x1 x2 y0 y1 y2 b1 b2 h0 n0 v U'.heap L ∧ FrameEnd U o U' L ({ frames := 2, cells := 0, slots := 0, locals := 30 } : Room).cells ({ frames := 2, cells := 0, slots := 0, locals := 30 } : Room).slots) := by
  refine MetFree.of_bodySF (plainFor_of_name pn_add0) hisR ?_
  intro p e s m args below meth c s₁ Bd hml0 hP hK
  obtain ⟨rfl, hZ, hh⟩ := hP
  have hx := Bd.exec
  have hby := Bd.bytes
  have hml : c.maxLocals = 2 := hml0
  have hown : s.vm.findClass "com/example/octopoll/octopoll/PageHeap" = some m.cls := findClass_of_methodNamed Bd.named
  have hnm := (name_of_methodNamed Bd.named Bd.method).1
  have X0 : Stand p l e ({ frames := 2, cells := 0, slots := 0, locals := 30 } : Room) s m #[(.ref a0), (.int (0 : Int32))] below meth c s₁ [] 0 0 := Stand.of_body Bd
  have e0 : s₁.heap = h0 := by rw [← hh, Bd.state]; rfl
  have N0 := Fr.nil n0
  have pre0 : Go p.tables e below (s₁.setTop (entryFrame m #[(.ref a0), (.int (0 : Int32))] 2)) s₁ (mkF m 0 #[.val (.ref a0), .val (.int (0 : Int32))] []) := fun t k => castTop (ef_add0 m a0) k
  have K0 : Keep h0 h0 [a0, ha, pa] := Keep.refl _ _
  have hR := own_rng false b1 b2 _ hS
  have pre1 : Go p.tables e below (s₁.setTop (entryFrame m #[(.ref a0), (.int (0 : Int32))] 2)) s₁ (mkF m 4 #[.val (.ref a0), .val (.int (0 : Int32))] [(.ref a0), (.ref a0), (.int (0 : Int32)), (.ref a0)]) := fun t k => pre0 t (by
      refine XS.aloadN X0.here hx rfl (hb hby d5_0) rfl rfl ?_
      show Steps p.tables e below (s₁.setTop (mkF m 1 #[.val (.ref a0), .val (.int (0 : Int32))] [(.ref a0)])) _
      refine XS.iloadN X0.here hx rfl (hb hby d5_1) rfl ?_
      show Steps p.tables e below (s₁.setTop (mkF m 2 #[.val (.ref a0), .val (.int (0 : Int32))] [(.int (0 : Int32)), (.ref a0)])) _
      refine XS.aloadN X0.here hx rfl (hb hby d5_2) rfl rfl ?_
      show Steps p.tables e below (s₁.setTop (mkF m 3 #[.val (.ref a0), .val (.int (0 : Int32))] [(.ref a0), (.int (0 : Int32)), (.ref a0)])) _
      refine XS.dup X0.here hx rfl (hb hby d5_3) rfl rfl ?_
      exact k)
  obtain ⟨T2, X2, e2, st2⟩ := getF X0 hx hZ hown (host := "") (Or.inl (hw _ (List.mem_of_getElem? (i := 26) rfl))) Via.refl e0 fi4 (g := (mkF m 4 #[.val (.ref a0), .val (.int (0 : Int32))] [(.ref a0), (.ref a0), (.int (0 : Int32)), (.ref a0)])) rfl rfl (hb hby d5_4)
  have pre2 : Go p.tables e below (s₁.setTop (entryFrame m #[(.ref a0), (.int (0 : Int32))] 2)) T2 (mkF m 7 #[.val (.ref a0), .val (.int (0 : Int32))] [(.int (own_cnt false b1 b2)), (.ref a0), (.int (0 : Int32)), (.ref a0)]) := fun t k => pre1 t (st2 _ k)
  have pre3 : Go p.tables e below (s₁.setTop (entryFrame m #[(.ref a0), (.int (0 : Int32))] 2)) T2 (mkF m 10 #[.val (.ref a0), .val (.int (0 : Int32))] [(.int ((own_cnt false b1 b2) + (1 : Int32))), (.ref a0), (.int (own_cnt false b1 b2)), (.int (0 : Int32)), (.ref a0)]) := fun t k => pre2 t (by
      refine XS.dupX1 X2.here hx rfl (hb hby d5_7) rfl rfl rfl ?_
      show Steps p.tables e below (T2.setTop (mkF m 8 #[.val (.ref a0), .val (.int (0 : Int32))] [(.int (own_cnt false b1 b2)), (.ref a0), (.int (own_cnt false b1 b2)), (.int (0 : Int32)), (.ref a0)])) _
      refine XS.iconst X2.here hx rfl (hb hby d5_8) ?_
      show Steps p.tables e below (T2.setTop (mkF m 9 #[.val (.ref a0), .val (.int (0 : Int32))] [(.int (1 : Int32)), (.int (own_cnt false b1 b2)), (.ref a0), (.int (own_cnt false b1 b2)), (.int (0 : Int32)), (.ref a0)])) _
      refine XS.iadd X2.here hx rfl (hb hby d5_9) rfl ?_
      exact k)
  obtain ⟨T4, h4, X4, e4, W4, st4⟩ := putF X2 hx hZ hown (host := "") (Or.inl (hw _ (List.mem_of_getElem? (i := 26) rfl))) Via.refl e2 fi4 fi0 (Or.inl (hw _ (List.mem_of_getElem? (i := 27) rfl))) (hw _ (List.mem_of_getElem? (i := 2) rfl)) (ty := .int) (by decide) rfl rfl (g := (mkF m 10 #[.val (.ref a0), .val (.int (0 : Int32))] [(.int ((own_cnt false b1 b2) + (1 : Int32))), (.ref a0), (.int (own_cnt false b1 b2)), (.int (0 : Int32)), (.ref a0)])) rfl rfl (hb hby d5_10)
  have N4 := Fr.snoc X4 N0 g_a0
  have f5 : n0 ≤ h4.size := Nat.le_trans Z0 (Keep.of_wr W4).1
  have f6 : Exa Z h4 a0 "com/example/octopoll/octopoll/PageHeap" := fi0.wr W4
  have f7 : Fld Z h4 a0 "com/example/octopoll/octopoll/PageHeap" "key" "[D" (.ref ka) := fi1.other W4 (Or.inr (slot_ne (Or.inr (hw _ (List.mem_of_getElem? (i := 11) rfl))) (Or.inl (hw _ (List.mem_of_getElem? (i := 27) rfl))) (by decide) (t := (.array .double)) (t' := .int) (by decide) (by decide)))
  have f8 : Fld Z h4 a0 "com/example/octopoll/octopoll/PageHeap" "heap" "[I" (.ref ha) := fi2.other W4 (Or.inr (slot_ne (Or.inr (hw _ (List.mem_of_getElem? (i := 14) rfl))) (Or.inl (hw _ (List.mem_of_getElem? (i := 27) rfl))) (by decide) (t := (.array .int)) (t' := .int) (by decide) (by decide)))
  have f9 : Fld Z h4 a0 "com/example/octopoll/octopoll/PageHeap" "position" "[I" (.ref pa) := fi3.other W4 (Or.inr (slot_ne (Or.inr (hw _ (List.mem_of_getElem? (i := 16) rfl))) (Or.inl (hw _ (List.mem_of_getElem? (i := 27) rfl))) (by decide) (t := (.array .int)) (t' := .int) (by decide) (by decide)))
  have f10 : Fld Z h4 a0 "com/example/octopoll/octopoll/PageHeap" "size" "I" (.int ((own_cnt false b1 b2) + (1 : Int32))) := fi4.same W4
  have f11 : Arv Z h4 ka kk .double (3 : Int32) [(.double d0), (.double d1), (.double d2)] (.double 0) := fi5.other W4 ne_a0_ka.symm
  have f12 : Arv Z h4 ha kh .int (3 : Int32) [(.int x0), (.int x1), (.int x2)] (.int (0 : Int32)) := fi6.other W4 ne_a0_ha.symm
  have f13 : Arv Z h4 pa kp .int (3 : Int32) [(.int y0), (.int y1), (.int y2)] (.int (0 : Int32)) := fi7.other W4 ne_a0_pa.symm
  have f14 : Keep h0 h4 [a0, ha, pa] := K0.wr W4 (Or.inl (List.mem_of_getElem? (i := 0) rfl))
  have pre4 : Go p.tables e below (s₁.setTop (entryFrame m #[(.ref a0), (.int (0 : Int32))] 2)) T4 (mkF m 13 #[.val (.ref a0), .val (.int (0 : Int32))] [(.int (own_cnt false b1 b2)), (.int (0 : Int32)), (.ref a0)]) := fun t k => pre3 t (st4 _ k)
  obtain ⟨cq15, q15, q15'⟩ := f6.cell
  obtain ⟨_, _, ⟨T15, L15, k15, n15⟩, -, X15, ⟨Lc15, hQ15, l15, y15, z15⟩, st15⟩ := own_private X4 hx (y := (⟨"com/example/octopoll/octopoll/PageHeap", "place", "(II)V"⟩ : MethodName)) hown (mvT hZ (hw _ (List.mem_of_getElem? (i := 33) rfl))) (mvT hZ (hw _ (List.mem_of_getElem? (i := 34) rfl))) (mvT hZ (hw _ (List.mem_of_getElem? (i := 24) rfl))) rfl (Cond.privateMethod_at (mvP hZ (hw _ (List.mem_of_getElem? (i := 35) rfl)) (args := #[]))) (mvT hZ (hw _ (List.mem_of_getElem? (i := 36) rfl))) (by decide) (backOf (W := 0) (rm_plc l Z av0 hw [] a0 (0 : Int32) (own_cnt false b1 b2) ha pa kh kp x0 x1 x2 y0 y1 y2 h4 n0 f5 f8 f9 f12 f13 g_ha g_pa ne_a0_ha ne_a0_pa ne_ha_pa (by decide) (own_ac0 b1 b2).1) hZ (hw _ (List.mem_of_getElem? (i := 36) rfl)) (hw _ (List.mem_of_getElem? (i := 3) rfl)) (by decide) (by decide)) (a := a0) (by rw [e4]; exact q15) q15' (g := (mkF m 13 #[.val (.ref a0), .val (.int (0 : Int32))] [(.int (own_cnt false b1 b2)), (.int (0 : Int32)), (.ref a0)])) rfl (by rw [hml]; rfl) (argsL := [(.int (0 : Int32)), (.int (own_cnt false b1 b2))]) (rest := []) (lenOf pd_0 rfl) rfl (by show 2 * 0 + _ ≤ _; exact Nat.le_of_eq rfl) (hb hby d5_13) (fun _ _ => ⟨rfl, e4, (by decide : 0 + 0 ≤ _), (by decide : 0 + 0 ≤ _)⟩)
  dsimp only [Pt.U, Pt.locs, Pt.cells, Pt.slots] at X15 l15 y15 z15 st15 hQ15
  subst l15 y15 z15
  obtain ⟨hv15, N15q, K15, fo15_0, fo15_1⟩ := hQ15
  have f16 : n0 ≤ T15.heap.size := Nat.le_trans f5 K15.1
  have f17 : Exa Z T15.heap a0 "com/example/octopoll/octopoll/PageHeap" := f6.keep K15
  have f18 : Fld Z T15.heap a0 "com/example/octopoll/octopoll/PageHeap" "key" "[D" (.ref ka) := f7.keep K15 (ninS ne_a0_ha (ninS ne_a0_pa nin0))
  have f19 : Fld Z T15.heap a0 "com/example/octopoll/octopoll/PageHeap" "heap" "[I" (.ref ha) := f8.keep K15 (ninS ne_a0_ha (ninS ne_a0_pa nin0))
  have f20 : Fld Z T15.heap a0 "com/example/octopoll/octopoll/PageHeap" "position" "[I" (.ref pa) := f9.keep K15 (ninS ne_a0_ha (ninS ne_a0_pa nin0))
  have f21 : Fld Z T15.heap a0 "com/example/octopoll/octopoll/PageHeap" "size" "I" (.int ((own_cnt false b1 b2) + (1 : Int32))) := f10.keep K15 (ninS ne_a0_ha (ninS ne_a0_pa nin0))
  have f22 : Arv Z T15.heap ka kk .double (3 : Int32) [(.double d0), (.double d1), (.double d2)] (.double 0) := f11.keep K15 (ninS ne_ka_ha (ninS ne_ka_pa nin0))
  have f23 : Keep h0 T15.heap [a0, ha, pa] := f14.trans K15 (allS (Or.inl (List.mem_of_getElem? (i := 1) rfl)) (allS (Or.inl (List.mem_of_getElem? (i := 2) rfl)) all0))
  subst hv15
  have N15 := Fr.app N4 N15q
  have pre15 : Go p.tables e below (s₁.setTop (entryFrame m #[(.ref a0), (.int (0 : Int32))] 2)) T15 (mkF m 16 #[.val (.ref a0), .val (.int (0 : Int32))] []) := fun t k => pre4 t (st15 _ k)
  have pre24 : Go p.tables e below (s₁.setTop (entryFrame m #[(.ref a0), (.int (0 : Int32))] 2)) T15 (mkF m 18 #[.val (.ref a0), .val (.int (0 : Int32))] [(.ref a0), (.ref a0)]) := fun t k => pre15 t (by
      refine XS.aloadN X15.here hx rfl (hb hby d5_16) rfl rfl ?_
      show Steps p.tables e below (T15.setTop (mkF m 17 #[.val (.ref a0), .val (.int (0 : Int32))] [(.ref a0)])) _
      refine XS.aloadN X15.here hx rfl (hb hby d5_17) rfl rfl ?_
      exact k)
  obtain ⟨T25, X25, e25, st25⟩ := getF X15 hx hZ hown (host := "") (Or.inl (hw _ (List.mem_of_getElem? (i := 15) rfl))) Via.refl rfl f20 (g := (mkF m 18 #[.val (.ref a0), .val (.int (0 : Int32))] [(.ref a0), (.ref a0)])) rfl rfl (hb hby d5_18)
  have pre25 : Go p.tables e below (s₁.setTop (entryFrame m #[(.ref a0), (.int (0 : Int32))] 2)) T25 (mkF m 21 #[.val (.ref a0), .val (.int (0 : Int32))] [(.ref pa), (.ref a0)]) := fun t k => pre24 t (st25 _ k)
  have pre26 : Go p.tables e below (s₁.setTop (entryFrame m #[(.ref a0), (.int (0 : Int32))] 2)) T25 (mkF m 22 #[.val (.ref a0), .val (.int (0 : Int32))] [(.int (0 : Int32)), (.ref pa), (.ref a0)]) := fun t k => pre25 t (by
      refine XS.iloadN X25.here hx rfl (hb hby d5_21) rfl ?_
      exact k)
  obtain ⟨c27, Ar27, q27, S27, M27, H27, G27⟩ := (id fo15_1)
  have hin27 : ¬ ((0 : Int32) < 0 ∨ c27.slots.size ≤ ((0 : Int32)).toNatClampNeg) := inb_of S27 ⟨by decide, by decide⟩
  have pre27 : Go p.tables e below (s₁.setTop (entryFrame m #[(.ref a0), (.int (0 : Int32))] 2)) T25 (mkF m 23 #[.val (.ref a0), .val (.int (0 : Int32))] [(.int (own_cnt false b1 b2)), (.ref a0)]) := fun t k => pre26 t (X25.iaload hx (j := (0 : Int32)) (v := (.int (own_cnt false b1 b2))) (by rw [e25]; exact Ar27.1) (State.isArrayOf_alike hZ.alike Ar27.2.1) Ar27.2.2 hin27 (H27.at hin27 rfl) (g := (mkF m 22 #[.val (.ref a0), .val (.int (0 : Int32))] [(.int (0 : Int32)), (.ref pa), (.ref a0)])) rfl rfl (hb hby d5_22) _ k)
  obtain ⟨cq28, q28, q28'⟩ := f17.cell
  obtain ⟨_, _, ⟨T28, L28, k28, n28⟩, -, X28, ⟨Lc28, hQ28, l28, y28, z28⟩, st28⟩ := own_private X25 hx (y := (⟨"com/example/octopoll/octopoll/PageHeap", "siftUp", "(I)V"⟩ : MethodName)) hown (mvT hZ (hw _ (List.mem_of_getElem? (i := 37) rfl))) (mvT hZ (hw _ (List.mem_of_getElem? (i := 38) rfl))) (mvT hZ (hw _ (List.mem_of_getElem? (i := 24) rfl))) rfl (Cond.privateMethod_at (mvP hZ (hw _ (List.mem_of_getElem? (i := 39) rfl)) (args := #[]))) (mvT hZ (hw _ (List.mem_of_getElem? (i := 40) rfl))) (by decide) (backOf (W := 0) (rm_su l Z av0 hw [] a0 (own_cnt false b1 b2) ka ha pa kk kh kp d0 d1 d2 (own_u 0 (own_cnt false b1 b2) (0 : Int32) x0) (own_u 1 (own_cnt false b1 b2) (0 : Int32) x1) (own_u 2 (own_cnt false b1 b2) (0 : Int32) x2) (own_cnt false b1 b2) y1 y2 T15.heap n0 f16 f17 f18 f19 f20 f22 fo15_0 fo15_1 g_ha g_pa ne_a0_ha ne_a0_pa ne_ha_pa ne_a0_ka ne_ka_ha ne_ka_pa (own_ur (by decide) hR.1) (own_ur (by decide) hR.2.1) (own_ur (by decide) hR.2.2) (own_ac0 b1 b2).1) hZ (hw _ (List.mem_of_getElem? (i := 40) rfl)) (hw _ (List.mem_of_getElem? (i := 3) rfl)) (by decide) (by decide)) (a := a0) (by rw [e25]; exact q28) q28' (g := (mkF m 23 #[.val (.ref a0), .val (.int (0 : Int32))] [(.int (own_cnt false b1 b2)), (.ref a0)])) rfl (by rw [hml]; rfl) (argsL := [(.int (own_cnt false b1 b2))]) (rest := []) (lenOf pd_2 rfl) rfl (by show 2 * 0 + _ ≤ _; exact Nat.le_of_eq rfl) (hb hby d5_23) (fun _ _ => ⟨rfl, e25, (by decide : 0 + 0 ≤ _), (by decide : 0 + 0 ≤ _)⟩)
  dsimp only [Pt.U, Pt.locs, Pt.cells, Pt.slots] at X28 l28 y28 z28 st28 hQ28
  subst l28 y28 z28
  obtain ⟨z028, z128, z228, z328, z428, z528, hv28, N28q, K28, fo28_0, fo28_1, po28_0⟩ := hQ28
  have f29 : n0 ≤ T28.heap.size := Nat.le_trans f16 K28.1
  have f30 : Exa Z T28.heap a0 "com/example/octopoll/octopoll/PageHeap" := f17.keep K28
  have f31 : Fld Z T28.heap a0 "com/example/octopoll/octopoll/PageHeap" "key" "[D" (.ref ka) := f18.keep K28 (ninS ne_a0_ha (ninS ne_a0_pa nin0))
  have f32 : Fld Z T28.heap a0 "com/example/octopoll/octopoll/PageHeap" "heap" "[I" (.ref ha) := f19.keep K28 (ninS ne_a0_ha (ninS ne_a0_pa nin0))
  have f33 : Fld Z T28.heap a0 "com/example/octopoll/octopoll/PageHeap" "position" "[I" (.ref pa) := f20.keep K28 (ninS ne_a0_ha (ninS ne_a0_pa nin0))
  have f34 : Fld Z T28.heap a0 "com/example/octopoll/octopoll/PageHeap" "size" "I" (.int ((own_cnt false b1 b2) + (1 : Int32))) := f21.keep K28 (ninS ne_a0_ha (ninS ne_a0_pa nin0))
  have f35 : Arv Z T28.heap ka kk .double (3 : Int32) [(.double d0), (.double d1), (.double d2)] (.double 0) := f22.keep K28 (ninS ne_ka_ha (ninS ne_ka_pa nin0))
  have f36 : Keep h0 T28.heap [a0, ha, pa] := f23.trans K28 (allS (Or.inl (List.mem_of_getElem? (i := 1) rfl)) (allS (Or.inl (List.mem_of_getElem? (i := 2) rfl)) all0))
  subst hv28
  have N28 := Fr.app N15 N28q
  have pre28 : Go p.tables e below (s₁.setTop (entryFrame m #[(.ref a0), (.int (0 : Int32))] 2)) T28 (mkF m 26 #[.val (.ref a0), .val (.int (0 : Int32))] []) := fun t k => pre27 t (st28 _ k)
  obtain ⟨fs, hr, hrun, hended, hW, hsame⟩ := X28.leave (v := none) (fun _ => rfl) (BodyLoose.notSynchronized Bd)
  refine ⟨_, _, pre28 _ ?_, hrun, hended, _, _, rfl, ?_, ⟨_, rfl⟩, hW, hsame.mono (Nat.le_of_ble_eq_true rfl) (Nat.le_of_ble_eq_true rfl)⟩
  · exact X28.returnOut hx Bd.returns (hb hby d5_26) hr
  · show Q_add0 Z a0 ka ha pa kk kh kp d0 d1 d2 x0 x1 x2 y0 y1 y2 b1 b2 h0 n0 _ T28.heap _
    have fsz := f34
    rw [(own_ac0 b1 b2).2] at fsz
    exact ⟨z028, z128, z228, z328, z428, z528, rfl, N28, f36, f30, f31, f32, f33, fsz, fo28_0, fo28_1, (own_memU (own_a0 b1 b2 _ hS) po28_0)⟩
theorem d9_0 : decode prog_17_method_7_code 0 = .ok (.aload_n 0, 1) := by decide +kernel
theorem d9_1 : decode prog_17_method_7_code 1 = .ok (.getfield 17, 3) := by decide +kernel
theorem d9_4 : decode prog_17_method_7_code 4 = .ok (.iload_n 1, 1) := by decide +kernel
theorem d9_5 : decode prog_17_method_7_code 5 = .ok (.iaload, 1) := by decide +kernel
theorem d9_6 : decode prog_17_method_7_code 6 = .ok (.istore_n 2, 1) := by decide +kernel
theorem d9_7 : decode prog_17_method_7_code 7 = .ok (.aload_n 0, 1) := by decide +kernel
theorem d9_8 : decode prog_17_method_7_code 8 = .ok (.getfield 13, 3) := by decide +kernel
theorem d9_11 : decode prog_17_method_7_code 11 = .ok (.aload_n 0, 1) := by decide +kernel
theorem d9_12 : decode prog_17_method_7_code 12 = .ok (.dup, 1) := by decide +kernel
theorem d9_13 : decode prog_17_method_7_code 13 = .ok (.getfield 26, 3) := by decide +kernel
theorem d9_16 : decode prog_17_method_7_code 16 = .ok (.iconst 1, 1) := by decide +kernel
theorem d9_17 : decode prog_17_method_7_code 17 = .ok (.isub, 1) := by decide +kernel
theorem d9_18 : decode prog_17_method_7_code 18 = .ok (.dup_x1, 1) := by decide +kernel
theorem d9_19 : decode prog_17_method_7_code 19 = .ok (.putfield 26, 3) := by decide +kernel
theorem d9_22 : decode prog_17_method_7_code 22 = .ok (.iaload, 1) := by decide +kernel
theorem d9_23 : decode prog_17_method_7_code 23 = .ok (.istore_n 3, 1) := by decide +kernel
theorem d9_24 : decode prog_17_method_7_code 24 = .ok (.aload_n 0, 1) := by decide +kernel
theorem d9_25 : decode prog_17_method_7_code 25 = .ok (.getfield 17, 3) := by decide +kernel
theorem d9_28 : decode prog_17_method_7_code 28 = .ok (.iload_n 1, 1) := by decide +kernel
theorem d9_29 : decode prog_17_method_7_code 29 = .ok (.iconst (-1), 1) := by decide +kernel
theorem d9_30 : decode prog_17_method_7_code 30 = .ok (.iastore, 1) := by decide +kernel
theorem d9_31 : decode prog_17_method_7_code 31 = .ok (.iload_n 3, 1) := by decide +kernel
theorem d9_32 : decode prog_17_method_7_code 32 = .ok (.iload_n 1, 1) := by decide +kernel
theorem d9_33 : decode prog_17_method_7_code 33 = .ok (.if_icmp .eq 24, 3) := by decide +kernel
theorem d9_36 : decode prog_17_method_7_code 36 = .ok (.aload_n 0, 1) := by decide +kernel
theorem d9_37 : decode prog_17_method_7_code 37 = .ok (.iload_n 3, 1) := by decide +kernel
theorem d9_38 : decode prog_17_method_7_code 38 = .ok (.iload_n 2, 1) := by decide +kernel
theorem d9_39 : decode prog_17_method_7_code 39 = .ok (.invokevirtual 30, 3) := by decide +kernel
theorem d9_42 : decode prog_17_method_7_code 42 = .ok (.aload_n 0, 1) := by decide +kernel
theorem d9_43 : decode prog_17_method_7_code 43 = .ok (.iload_n 2, 1) := by decide +kernel
theorem d9_44 : decode prog_17_method_7_code 44 = .ok (.invokevirtual 34, 3) := by decide +kernel
theorem d9_47 : decode prog_17_method_7_code 47 = .ok (.aload_n 0, 1) := by decide +kernel
theorem d9_48 : decode prog_17_method_7_code 48 = .ok (.aload_n 0, 1) := by decide +kernel
theorem d9_49 : decode prog_17_method_7_code 49 = .ok (.getfield 17, 3) := by decide +kernel
theorem d9_52 : decode prog_17_method_7_code 52 = .ok (.iload_n 3, 1) := by decide +kernel
theorem d9_53 : decode prog_17_method_7_code 53 = .ok (.iaload, 1) := by decide +kernel
theorem d9_54 : decode prog_17_method_7_code 54 = .ok (.invokevirtual 41, 3) := by decide +kernel
theorem d9_57 : decode prog_17_method_7_code 57 = .ok (.return_, 1) := by decide +kernel
theorem pn_rem0 : plainName "com/example/octopoll/octopoll/PageHeap" = true := by first | (simp [plainName, overriddenIn]; done) | decide +kernel
theorem ef_rem0 (m : MethodId) (a0 : Addr) : entryFrame m #[(.ref a0), (.int (0 : Int32))] 4 = mkF m 0 #[.val (.ref a0), .val (.int (0 : Int32)), .unset, .unset] [] := by first | (simp [entryFrame, mkF, argsToLocals, Value.category]; done) | rfl
def Q_rem0 (Z : State) (a0 : Addr) (ka : Addr) (ha : Addr) (pa : Addr) (kk : ClassId) (kh : ClassId) (kp : ClassId) (d0 : UInt64) (d1 : UInt64) (d2 : UInt64) (x0 : Int32) (x1 : Int32) (x2 : Int32) (y0 : Int32) (y1 : Int32) (y2 : Int32) (b1 : Bool) (b2 : Bool) (h0 : Heap) (n0 : Nat) (v : Option Value) (h : Heap) (L : List Loc) : Prop := ∃ (z0 : Int32) (z1 : Int32) (z2 : Int32) (z3 : Int32) (z4 : Int32) (z5 : Int32), v = none ∧ Fr n0 L ∧ Keep h0 h [a0, ha, pa] ∧ Exa Z h a0 "com/example/octopoll/octopoll/PageHeap" ∧ Fld Z h a0 "com/example/octopoll/octopoll/PageHeap" "key" "[D" (.ref ka) ∧ Fld Z h a0 "com/example/octopoll/octopoll/PageHeap" "heap" "[I" (.ref ha) ∧ Fld Z h a0 "com/example/octopoll/octopoll/PageHeap" "position" "[I" (.ref pa) ∧ Fld Z h a0 "com/example/octopoll/octopoll/PageHeap" "size" "I" (.int (own_cnt false b1 b2)) ∧ Arv Z h ha kh .int (3 : Int32) [(.int z0), (.int z1), (.int z2)] (.int (0 : Int32)) ∧ Arv Z h pa kp .int (3 : Int32) [(.int z3), (.int z4), (.int z5)] (.int (0 : Int32)) ∧ (z0, z1, z2, z3, z4, z5) ∈ own_S false b1 b2
set_option maxRecDepth 65536 in
set_option maxHeartbeats 40000000 in
theorem rm_rem0 (l : Launch) (Z : State) (av0 : Array Value) (hw : ∀ d ∈ tables_1, d.before av0 Z = true) (ws : List Jvm.Cond) (a0 : Addr) (ka : Addr) (ha : Addr) (pa : Addr) (kk : ClassId) (kh : ClassId) (kp : ClassId) (d0 : UInt64) (d1 : UInt64) (d2 : UInt64) (x0 : Int32) (x1 : Int32) (x2 : Int32) (y0 : Int32) (y1 : Int32) (y2 : Int32) (b1 : Bool) (b2 : Bool) (h0 : Heap) (n0 : Nat) (Z0 : n0 ≤ h0.size) (fi0 : Exa Z h0 a0 "com/example/octopoll/octopoll/PageHeap") (fi1 : Fld Z h0 a0 "com/example/octopoll/octopoll/PageHeap" "key" "[D" (.ref ka)) (fi2 : Fld Z h0 a0 "com/example/octopoll/octopoll/PageHeap" "heap" "[I" (.ref ha)) (fi3 : Fld Z h0 a0 "com/example/octopoll/octopoll/PageHeap" "position" "[I" (.ref pa)) (fi4 : Fld Z h0 a0 "com/example/octopoll/octopoll/PageHeap" "size" "I" (.int (own_cnt true b1 b2))) (fi5 : Arv Z h0 ka kk .double (3 : Int32) [(.double d0), (.double d1), (.double d2)] (.double 0)) (fi6 : Arv Z h0 ha kh .int (3 : Int32) [(.int x0), (.int x1), (.int x2)] (.int (0 : Int32))) (fi7 : Arv Z h0 pa kp .int (3 : Int32) [(.int y0), (.int y1), (.int y2)] (.int (0 : Int32))) (g_a0 : n0 ≤ a0) (g_ha : n0 ≤ ha) (g_pa : n0 ≤ pa) (ne_a0_ha : a0 ≠ ha) (ne_a0_pa : a0 ≠ pa) (ne_ha_pa : ha ≠ pa) (ne_a0_ka : a0 ≠ ka) (ne_ka_ha : ka ≠ ha) (ne_ka_pa : ka ≠ pa) (hS : (x0, x1, x2, y0, y1, y2) ∈ own_S true b1 b2) :
    MetFree l (⟨"com/example/octopoll/octopoll/PageHeap", "remove", "(I)V"⟩ : MethodName) (head1 (Jvm.Cond.code (⟨"com/example/octopoll/octopoll/PageHeap", "remove", "(I)V"⟩ : MethodName) prog_17_method_7_code 4 none :: ws) ({ frames := 2, cells := 0, slots := 0, locals := 31 } : Room)) (fun a U => a = #[(.ref a0), (.int (0 : Int32))] ∧ Z.Warmed39 U.vm ∧ U.heap = h0) (fun _ _ _ _ _ => True) (fun _ U o U' => ∃ v L, o = .returned v ∧ Q_rem0 Z a0 ka ha pa kk kh kp d0 d1 d2 x0 x1 x2 y0 y1 y2 b1 b2 h0 n0 v U'.heap L ∧ FrameEnd U o U' L ({ frames := 2, cells := 0, slots := 0, locals := 31 } : Room).cells ({ frames := 2, cells := 0, slots := 0, locals := 31 } : Room).slots) := by
  refine MetFree.of_bodySF (plainFor_of_name pn_rem0) hisR ?_
  intro p e s m args below meth c s₁ Bd hml0 hP hK
  obtain ⟨rfl, hZ, hh⟩ := hP
  have hx := Bd.exec
  have hby := Bd.bytes
  have hml : c.maxLocals = 4 := hml0
  have hown : s.vm.findClass "com/example/octopoll/octopoll/PageHeap" = some m.cls := findClass_of_methodNamed Bd.named
  have hnm := (name_of_methodNamed Bd.named Bd.method).1
  have X0 : Stand p l e ({ frames := 2, cells := 0, slots := 0, locals := 31 } : Room) s m #[(.ref a0), (.int (0 : Int32))] below meth c s₁ [] 0 0 := Stand.of_body Bd
  have e0 : s₁.heap = h0 := by rw [← hh, Bd.state]; rfl
  have N0 := Fr.nil n0
  have pre0 : Go p.tables e below (s₁.setTop (entryFrame m #[(.ref a0), (.int (0 : Int32))] 4)) s₁ (mkF m 0 #[.val (.ref a0), .val (.int (0 : Int32)), .unset, .unset] []) := fun t k => castTop (ef_rem0 m a0) k
  have K0 : Keep h0 h0 [a0, ha, pa] := Keep.refl _ _
  have hR := own_rng true b1 b2 _ hS
  have pre1 : Go p.tables e below (s₁.setTop (entryFrame m #[(.ref a0), (.int (0 : Int32))] 4)) s₁ (mkF m 1 #[.val (.ref a0), .val (.int (0 : Int32)), .unset, .unset] [(.ref a0)]) := fun t k => pre0 t (by
      refine XS.aloadN X0.here hx rfl (hb hby d9_0) rfl rfl ?_
      exact k)
  obtain ⟨T2, X2, e2, st2⟩ := getF X0 hx hZ hown (host := "") (Or.inl (hw _ (List.mem_of_getElem? (i := 15) rfl))) Via.refl e0 fi3 (g := (mkF m 1 #[.val (.ref a0), .val (.int (0 : Int32)), .unset, .unset] [(.ref a0)])) rfl rfl (hb hby d9_1)
  have pre2 : Go p.tables e below (s₁.setTop (entryFrame m #[(.ref a0), (.int (0 : Int32))] 4)) T2 (mkF m 4 #[.val (.ref a0), .val (.int (0 : Int32)), .unset, .unset] [(.ref pa)]) := fun t k => pre1 t (st2 _ k)
  have pre3 : Go p.tables e below (s₁.setTop (entryFrame m #[(.ref a0), (.int (0 : Int32))] 4)) T2 (mkF m 5 #[.val (.ref a0), .val (.int (0 : Int32)), .unset, .unset] [(.int (0 : Int32)), (.ref pa)]) := fun t k => pre2 t (by
      refine XS.iloadN X2.here hx rfl (hb hby d9_4) rfl ?_
      exact k)
  obtain ⟨c4, Ar4, q4, S4, M4, H4, G4⟩ := (id fi7)
  have hin4 : ¬ ((0 : Int32) < 0 ∨ c4.slots.size ≤ ((0 : Int32)).toNatClampNeg) := inb_of S4 ⟨by decide, by decide⟩
  have pre4 : Go p.tables e below (s₁.setTop (entryFrame m #[(.ref a0), (.int (0 : Int32))] 4)) T2 (mkF m 6 #[.val (.ref a0), .val (.int (0 : Int32)), .unset, .unset] [(.int y0)]) := fun t k => pre3 t (X2.iaload hx (j := (0 : Int32)) (v := (.int y0)) (by rw [e2]; exact Ar4.1) (State.isArrayOf_alike hZ.alike Ar4.2.1) Ar4.2.2 hin4 (H4.at hin4 rfl) (g := (mkF m 5 #[.val (.ref a0), .val (.int (0 : Int32)), .unset, .unset] [(.int (0 : Int32)), (.ref pa)])) rfl rfl (hb hby d9_5) _ k)
  have pre5 : Go p.tables e below (s₁.setTop (entryFrame m #[(.ref a0), (.int (0 : Int32))] 4)) T2 (mkF m 8 #[.val (.ref a0), .val (.int (0 : Int32)), .val (.int y0), .unset] [(.ref a0)]) := fun t k => pre4 t (by
      refine XS.istoreN X2.here hx rfl (hb hby d9_6) rfl (l' := #[.val (.ref a0), .val (.int (0 : Int32)), .val (.int y0), .unset]) rfl ?_
      show Steps p.tables e below (T2.setTop (mkF m 7 #[.val (.ref a0), .val (.int (0 : Int32)), .val (.int y0), .unset] [])) _
      refine XS.aloadN X2.here hx rfl (hb hby d9_7) rfl rfl ?_
      exact k)
  obtain ⟨T6, X6, e6, st6⟩ := getF X2 hx hZ hown (host := "") (Or.inl (hw _ (List.mem_of_getElem? (i := 13) rfl))) Via.refl e2 fi2 (g := (mkF m 8 #[.val (.ref a0), .val (.int (0 : Int32)), .val (.int y0), .unset] [(.ref a0)])) rfl rfl (hb hby d9_8)
  have pre6 : Go p.tables e below (s₁.setTop (entryFrame m #[(.ref a0), (.int (0 : Int32))] 4)) T6 (mkF m 11 #[.val (.ref a0), .val (.int (0 : Int32)), .val (.int y0), .unset] [(.ref ha)]) := fun t k => pre5 t (st6 _ k)
  have pre7 : Go p.tables e below (s₁.setTop (entryFrame m #[(.ref a0), (.int (0 : Int32))] 4)) T6 (mkF m 13 #[.val (.ref a0), .val (.int (0 : Int32)), .val (.int y0), .unset] [(.ref a0), (.ref a0), (.ref ha)]) := fun t k => pre6 t (by
      refine XS.aloadN X6.here hx rfl (hb hby d9_11) rfl rfl ?_
      show Steps p.tables e below (T6.setTop (mkF m 12 #[.val (.ref a0), .val (.int (0 : Int32)), .val (.int y0), .unset] [(.ref a0), (.ref ha)])) _
      refine XS.dup X6.here hx rfl (hb hby d9_12) rfl rfl ?_
      exact k)
  obtain ⟨T8, X8, e8, st8⟩ := getF X6 hx hZ hown (host := "") (Or.inl (hw _ (List.mem_of_getElem? (i := 26) rfl))) Via.refl e6 fi4 (g := (mkF m 13 #[.val (.ref a0), .val (.int (0 : Int32)), .val (.int y0), .unset] [(.ref a0), (.ref a0), (.ref ha)])) rfl rfl (hb hby d9_13)
  have pre8 : Go p.tables e below (s₁.setTop (entryFrame m #[(.ref a0), (.int (0 : Int32))] 4)) T8 (mkF m 16 #[.val (.ref a0), .val (.int (0 : Int32)), .val (.int y0), .unset] [(.int (own_cnt true b1 b2)), (.ref a0), (.ref ha)]) := fun t k => pre7 t (st8 _ k)
  have pre9 : Go p.tables e below (s₁.setTop (entryFrame m #[(.ref a0), (.int (0 : Int32))] 4)) T8 (mkF m 19 #[.val (.ref a0), .val (.int (0 : Int32)), .val (.int y0), .unset] [(.int ((own_cnt true b1 b2) - (1 : Int32))), (.ref a0), (.int ((own_cnt true b1 b2) - (1 : Int32))), (.ref ha)]) := fun t k => pre8 t (by
      refine XS.iconst X8.here hx rfl (hb hby d9_16) ?_
      show Steps p.tables e below (T8.setTop (mkF m 17 #[.val (.ref a0), .val (.int (0 : Int32)), .val (.int y0), .unset] [(.int (1 : Int32)), (.int (own_cnt true b1 b2)), (.ref a0), (.ref ha)])) _
      refine XS.isub X8.here hx rfl (hb hby d9_17) rfl ?_
      show Steps p.tables e below (T8.setTop (mkF m 18 #[.val (.ref a0), .val (.int (0 : Int32)), .val (.int y0), .unset] [(.int ((own_cnt true b1 b2) - (1 : Int32))), (.ref a0), (.ref ha)])) _
      refine XS.dupX1 X8.here hx rfl (hb hby d9_18) rfl rfl rfl ?_
      exact k)
  obtain ⟨T10, h10, X10, e10, W10, st10⟩ := putF X8 hx hZ hown (host := "") (Or.inl (hw _ (List.mem_of_getElem? (i := 26) rfl))) Via.refl e8 fi4 fi0 (Or.inl (hw _ (List.mem_of_getElem? (i := 27) rfl))) (hw _ (List.mem_of_getElem? (i := 2) rfl)) (ty := .int) (by decide) rfl rfl (g := (mkF m 19 #[.val (.ref a0), .val (.int (0 : Int32)), .val (.int y0), .unset] [(.int ((own_cnt true b1 b2) - (1 : Int32))), (.ref a0), (.int ((own_cnt true b1 b2) - (1 : Int32))), (.ref ha)])) rfl rfl (hb hby d9_19)
  have N10 := Fr.snoc X10 N0 g_a0
  have f11 : n0 ≤ h10.size := Nat.le_trans Z0 (Keep.of_wr W10).1
  have f12 : Exa Z h10 a0 "com/example/octopoll/octopoll/PageHeap" := fi0.wr W10
  have f13 : Fld Z h10 a0 "com/example/octopoll/octopoll/PageHeap" "key" "[D" (.ref ka) := fi1.other W10 (Or.inr (slot_ne (Or.inr (hw _ (List.mem_of_getElem? (i := 11) rfl))) (Or.inl (hw _ (List.mem_of_getElem? (i := 27) rfl))) (by decide) (t := (.array .double)) (t' := .int) (by decide) (by decide)))
  have f14 : Fld Z h10 a0 "com/example/octopoll/octopoll/PageHeap" "heap" "[I" (.ref ha) := fi2.other W10 (Or.inr (slot_ne (Or.inr (hw _ (List.mem_of_getElem? (i := 14) rfl))) (Or.inl (hw _ (List.mem_of_getElem? (i := 27) rfl))) (by decide) (t := (.array .int)) (t' := .int) (by decide) (by decide)))
  have f15 : Fld Z h10 a0 "com/example/octopoll/octopoll/PageHeap" "position" "[I" (.ref pa) := fi3.other W10 (Or.inr (slot_ne (Or.inr (hw _ (List.mem_of_getElem? (i := 16) rfl))) (Or.inl (hw _ (List.mem_of_getElem? (i := 27) rfl))) (by decide) (t := (.array .int)) (t' := .int) (by decide) (by decide)))
  have f16 : Fld Z h10 a0 "com/example/octopoll/octopoll/PageHeap" "size" "I" (.int ((own_cnt true b1 b2) - (1 : Int32))) := fi4.same W10
  have f17 : Arv Z h10 ka kk .double (3 : Int32) [(.double d0), (.double d1), (.double d2)] (.double 0) := fi5.other W10 ne_a0_ka.symm
  have f18 : Arv Z h10 ha kh .int (3 : Int32) [(.int x0), (.int x1), (.int x2)] (.int (0 : Int32)) := fi6.other W10 ne_a0_ha.symm
  have f19 : Arv Z h10 pa kp .int (3 : Int32) [(.int y0), (.int y1), (.int y2)] (.int (0 : Int32)) := fi7.other W10 ne_a0_pa.symm
  have f20 : Keep h0 h10 [a0, ha, pa] := K0.wr W10 (Or.inl (List.mem_of_getElem? (i := 0) rfl))
  have pre10 : Go p.tables e below (s₁.setTop (entryFrame m #[(.ref a0), (.int (0 : Int32))] 4)) T10 (mkF m 22 #[.val (.ref a0), .val (.int (0 : Int32)), .val (.int y0), .unset] [(.int ((own_cnt true b1 b2) - (1 : Int32))), (.ref ha)]) := fun t k => pre9 t (st10 _ k)
  obtain ⟨c21, Ar21, q21, S21, M21, H21, G21⟩ := (id f18)
  have hin21 : ¬ (((own_cnt true b1 b2) - (1 : Int32)) < 0 ∨ c21.slots.size ≤ (((own_cnt true b1 b2) - (1 : Int32))).toNatClampNeg) := inb_of S21 (own_rc0 b1 b2).1
  have pre21 : Go p.tables e below (s₁.setTop (entryFrame m #[(.ref a0), (.int (0 : Int32))] 4)) T10 (mkF m 23 #[.val (.ref a0), .val (.int (0 : Int32)), .val (.int y0), .unset] [(.int (own_g ((own_cnt true b1 b2) - (1 : Int32)) x0 x1 x2))]) := fun t k => pre10 t (X10.iaload hx (j := ((own_cnt true b1 b2) - (1 : Int32))) (v := (.int (own_g ((own_cnt true b1 b2) - (1 : Int32)) x0 x1 x2))) (by rw [e10]; exact Ar21.1) (State.isArrayOf_alike hZ.alike Ar21.2.1) Ar21.2.2 hin21 (H21.at hin21 (own_get (own_rc0 b1 b2).1)) (g := (mkF m 22 #[.val (.ref a0), .val (.int (0 : Int32)), .val (.int y0), .unset] [(.int ((own_cnt true b1 b2) - (1 : Int32))), (.ref ha)])) rfl rfl (hb hby d9_22) _ k)
  obtain ⟨w22, hw22⟩ : ∃ z : Int32, z = (own_g ((own_cnt true b1 b2) - (1 : Int32)) x0 x1 x2) := ⟨_, rfl⟩
  have pre23 : Go p.tables e below (s₁.setTop (entryFrame m #[(.ref a0), (.int (0 : Int32))] 4)) T10 (mkF m 25 #[.val (.ref a0), .val (.int (0 : Int32)), .val (.int y0), .val (.int w22)] [(.ref a0)]) := fun t k => pre21 t (by
      refine XS.istoreN X10.here hx rfl (x := w22) (rest := []) (hb hby d9_23) (by subst hw22; rfl) (l' := #[.val (.ref a0), .val (.int (0 : Int32)), .val (.int y0), .val (.int w22)]) rfl ?_
      show Steps p.tables e below (T10.setTop (mkF m 24 #[.val (.ref a0), .val (.int (0 : Int32)), .val (.int y0), .val (.int w22)] [])) _
      refine XS.aloadN X10.here hx rfl (hb hby d9_24) rfl rfl ?_
      exact k)
  obtain ⟨T24, X24, e24, st24⟩ := getF X10 hx hZ hown (host := "") (Or.inl (hw _ (List.mem_of_getElem? (i := 15) rfl))) Via.refl e10 f15 (g := (mkF m 25 #[.val (.ref a0), .val (.int (0 : Int32)), .val (.int y0), .val (.int w22)] [(.ref a0)])) rfl rfl (hb hby d9_25)
  have pre24 : Go p.tables e below (s₁.setTop (entryFrame m #[(.ref a0), (.int (0 : Int32))] 4)) T24 (mkF m 28 #[.val (.ref a0), .val (.int (0 : Int32)), .val (.int y0), .val (.int w22)] [(.ref pa)]) := fun t k => pre23 t (st24 _ k)
  have pre25 : Go p.tables e below (s₁.setTop (entryFrame m #[(.ref a0), (.int (0 : Int32))] 4)) T24 (mkF m 30 #[.val (.ref a0), .val (.int (0 : Int32)), .val (.int y0), .val (.int w22)] [(.int (-1 : Int32)), (.int (0 : Int32)), (.ref pa)]) := fun t k => pre24 t (by
      refine XS.iloadN X24.here hx rfl (hb hby d9_28) rfl ?_
      show Steps p.tables e below (T24.setTop (mkF m 29 #[.val (.ref a0), .val (.int (0 : Int32)), .val (.int y0), .val (.int w22)] [(.int (0 : Int32)), (.ref pa)])) _
      refine XS.iconst X24.here hx rfl (hb hby d9_29) ?_
      exact k)
  obtain ⟨c26, Ar26, q26, S26, M26, H26, G26⟩ := (id f19)
  have hin26 : ¬ ((0 : Int32) < 0 ∨ c26.slots.size ≤ ((0 : Int32)).toNatClampNeg) := inb_of S26 ⟨by decide, by decide⟩
  obtain ⟨T26, h26, X26, e26, W26, st26⟩ := stI X24 hx hZ e24 Ar26 (j := (0 : Int32)) hin26 (g := (mkF m 30 #[.val (.ref a0), .val (.int (0 : Int32)), .val (.int y0), .val (.int w22)] [(.int (-1 : Int32)), (.int (0 : Int32)), (.ref pa)])) rfl rfl (hb hby d9_30)
  have fa26 : Arv Z h26 pa kp .int (3 : Int32) [(.int (-1 : Int32)), (.int y1), (.int y2)] (.int (0 : Int32)) := Arv.set Ar26 q26 S26 M26 H26 G26 rfl W26 0 rfl (Nat.le_of_ble_eq_true rfl)
  have N26 := Fr.snoc X26 N10 g_pa
  have f27 : n0 ≤ h26.size := Nat.le_trans f11 (Keep.of_wr W26).1
  have f28 : Exa Z h26 a0 "com/example/octopoll/octopoll/PageHeap" := f12.wr W26
  have f29 : Fld Z h26 a0 "com/example/octopoll/octopoll/PageHeap" "key" "[D" (.ref ka) := f13.other W26 (Or.inl ne_a0_pa)
  have f30 : Fld Z h26 a0 "com/example/octopoll/octopoll/PageHeap" "heap" "[I" (.ref ha) := f14.other W26 (Or.inl ne_a0_pa)
  have f31 : Fld Z h26 a0 "com/example/octopoll/octopoll/PageHeap" "position" "[I" (.ref pa) := f15.other W26 (Or.inl ne_a0_pa)
  have f32 : Fld Z h26 a0 "com/example/octopoll/octopoll/PageHeap" "size" "I" (.int ((own_cnt true b1 b2) - (1 : Int32))) := f16.other W26 (Or.inl ne_a0_pa)
  have f33 : Arv Z h26 ka kk .double (3 : Int32) [(.double d0), (.double d1), (.double d2)] (.double 0) := f17.other W26 ne_ka_pa
  have f34 : Arv Z h26 ha kh .int (3 : Int32) [(.int x0), (.int x1), (.int x2)] (.int (0 : Int32)) := f18.other W26 ne_ha_pa
  have f35 : Keep h0 h26 [a0, ha, pa] := f20.wr W26 (Or.inl (List.mem_of_getElem? (i := 2) rfl))
  have pre26 : Go p.tables e below (s₁.setTop (entryFrame m #[(.ref a0), (.int (0 : Int32))] 4)) T26 (mkF m 31 #[.val (.ref a0), .val (.int (0 : Int32)), .val (.int y0), .val (.int w22)] []) := fun t k => pre25 t (st26 _ k)
  have pre36 : Go p.tables e below (s₁.setTop (entryFrame m #[(.ref a0), (.int (0 : Int32))] 4)) T26 (mkF m 33 #[.val (.ref a0), .val (.int (0 : Int32)), .val (.int y0), .val (.int w22)] [(.int (0 : Int32)), (.int w22)]) := fun t k => pre26 t (by
      refine XS.iloadN X26.here hx rfl (hb hby d9_31) rfl ?_
      show Steps p.tables e below (T26.setTop (mkF m 32 #[.val (.ref a0), .val (.int (0 : Int32)), .val (.int y0), .val (.int w22)] [(.int w22)])) _
      refine XS.iloadN X26.here hx rfl (hb hby d9_32) rfl ?_
      exact k)
  by_cases hc37 : w22 = (0 : Int32)
  · -- hc37: True
    have pre38 : Go p.tables e below (s₁.setTop (entryFrame m #[(.ref a0), (.int (0 : Int32))] 4)) T26 (mkF m 57 #[.val (.ref a0), .val (.int (0 : Int32)), .val (.int y0), .val (.int w22)] []) := fun t k => pre36 t (by
        refine XS.icmpYes X26.here hx rfl (pc0 := 33) (pc' := 57) rfl (hb hby d9_33) rfl (teq hc37).1 (by decide) (by decide) ?_
        exact k)
    obtain ⟨fs, hr, hrun, hended, hW, hsame⟩ := X26.leave (v := none) (fun _ => rfl) (BodyLoose.notSynchronized Bd)
    refine ⟨_, _, pre38 _ ?_, hrun, hended, _, _, rfl, ?_, ⟨_, rfl⟩, hW, hsame.mono (Nat.le_of_ble_eq_true rfl) (Nat.le_of_ble_eq_true rfl)⟩
    · exact X26.returnOut hx Bd.returns (hb hby d9_57) hr
    · show Q_rem0 Z a0 ka ha pa kk kh kp d0 d1 d2 x0 x1 x2 y0 y1 y2 b1 b2 h0 n0 _ T26.heap _
      rw [e26]
      have fsz := f32
      rw [(own_rc0 b1 b2).2] at fsz
      have hM : (x0, x1, x2, (-1 : Int32), y1, y2) ∈ own_S false b1 b2 := own_re0 b1 b2 _ hS (hw22.symm.trans hc37)
      exact ⟨x0, x1, x2, (-1 : Int32), y1, y2, rfl, N26, f35, f28, f29, f30, f31, fsz, f34, fa26, hM⟩
  · -- hc37: False
    have pre39 : Go p.tables e below (s₁.setTop (entryFrame m #[(.ref a0), (.int (0 : Int32))] 4)) T26 (mkF m 36 #[.val (.ref a0), .val (.int (0 : Int32)), .val (.int y0), .val (.int w22)] []) := fun t k => pre36 t (by
        refine XS.icmpNo X26.here hx rfl (hb hby d9_33) rfl (feq hc37).1 ?_
        exact k)
    have hbw : own_bd w22 := by rw [hw22]; exact own_gr hR.1 hR.2.1 hR.2.2
    have hne := fun q => hc37 (hw22.trans q)
    have pre40 : Go p.tables e below (s₁.setTop (entryFrame m #[(.ref a0), (.int (0 : Int32))] 4)) T26 (mkF m 39 #[.val (.ref a0), .val (.int (0 : Int32)), .val (.int y0), .val (.int w22)] [(.int y0), (.int w22), (.ref a0)]) := fun t k => pre39 t (by
        refine XS.aloadN X26.here hx rfl (hb hby d9_36) rfl rfl ?_
        show Steps p.tables e below (T26.setTop (mkF m 37 #[.val (.ref a0), .val (.int (0 : Int32)), .val (.int y0), .val (.int w22)] [(.ref a0)])) _
        refine XS.iloadN X26.here hx rfl (hb hby d9_37) rfl ?_
        show Steps p.tables e below (T26.setTop (mkF m 38 #[.val (.ref a0), .val (.int (0 : Int32)), .val (.int y0), .val (.int w22)] [(.int w22), (.ref a0)])) _
        refine XS.iloadN X26.here hx rfl (hb hby d9_38) rfl ?_
        exact k)
    obtain ⟨cq41, q41, q41'⟩ := f28.cell
    obtain ⟨_, _, ⟨T41, L41, k41, n41⟩, -, X41, ⟨Lc41, hQ41, l41, y41, z41⟩, st41⟩ := own_private X26 hx (y := (⟨"com/example/octopoll/octopoll/PageHeap", "place", "(II)V"⟩ : MethodName)) hown (mvT hZ (hw _ (List.mem_of_getElem? (i := 33) rfl))) (mvT hZ (hw _ (List.mem_of_getElem? (i := 34) rfl))) (mvT hZ (hw _ (List.mem_of_getElem? (i := 24) rfl))) rfl (Cond.privateMethod_at (mvP hZ (hw _ (List.mem_of_getElem? (i := 35) rfl)) (args := #[]))) (mvT hZ (hw _ (List.mem_of_getElem? (i := 36) rfl))) (by decide) (backOf (W := 0) (rm_plc l Z av0 hw [] a0 w22 y0 ha pa kh kp x0 x1 x2 (-1 : Int32) y1 y2 h26 n0 f27 f30 f31 f34 fa26 g_ha g_pa ne_a0_ha ne_a0_pa ne_ha_pa hbw (own_ry0 b1 b2 _ hS)) hZ (hw _ (List.mem_of_getElem? (i := 36) rfl)) (hw _ (List.mem_of_getElem? (i := 3) rfl)) (by decide) (by decide)) (a := a0) (by rw [e26]; exact q41) q41' (g := (mkF m 39 #[.val (.ref a0), .val (.int (0 : Int32)), .val (.int y0), .val (.int w22)] [(.int y0), (.int w22), (.ref a0)])) rfl (by rw [hml]; rfl) (argsL := [(.int w22), (.int y0)]) (rest := []) (lenOf pd_0 rfl) rfl (by show 2 * 0 + _ ≤ _; exact Nat.le_of_eq rfl) (hb hby d9_39) (fun _ _ => ⟨rfl, e26, (by decide : 0 + 0 ≤ _), (by decide : 0 + 0 ≤ _)⟩)
    dsimp only [Pt.U, Pt.locs, Pt.cells, Pt.slots] at X41 l41 y41 z41 st41 hQ41
    subst l41 y41 z41
    obtain ⟨hv41, N41q, K41, fo41_0, fo41_1⟩ := hQ41
    have f42 : n0 ≤ T41.heap.size := Nat.le_trans f27 K41.1
    have f43 : Exa Z T41.heap a0 "com/example/octopoll/octopoll/PageHeap" := f28.keep K41
    have f44 : Fld Z T41.heap a0 "com/example/octopoll/octopoll/PageHeap" "key" "[D" (.ref ka) := f29.keep K41 (ninS ne_a0_ha (ninS ne_a0_pa nin0))
    have f45 : Fld Z T41.heap a0 "com/example/octopoll/octopoll/PageHeap" "heap" "[I" (.ref ha) := f30.keep K41 (ninS ne_a0_ha (ninS ne_a0_pa nin0))
    have f46 : Fld Z T41.heap a0 "com/example/octopoll/octopoll/PageHeap" "position" "[I" (.ref pa) := f31.keep K41 (ninS ne_a0_ha (ninS ne_a0_pa nin0))
    have f47 : Fld Z T41.heap a0 "com/example/octopoll/octopoll/PageHeap" "size" "I" (.int ((own_cnt true b1 b2) - (1 : Int32))) := f32.keep K41 (ninS ne_a0_ha (ninS ne_a0_pa nin0))
    have f48 : Arv Z T41.heap ka kk .double (3 : Int32) [(.double d0), (.double d1), (.double d2)] (.double 0) := f33.keep K41 (ninS ne_ka_ha (ninS ne_ka_pa nin0))
    have f49 : Keep h0 T41.heap [a0, ha, pa] := f35.trans K41 (allS (Or.inl (List.mem_of_getElem? (i := 1) rfl)) (allS (Or.inl (List.mem_of_getElem? (i := 2) rfl)) all0))
    subst hv41
    have N41 := Fr.app N26 N41q
    have pre41 : Go p.tables e below (s₁.setTop (entryFrame m #[(.ref a0), (.int (0 : Int32))] 4)) T41 (mkF m 42 #[.val (.ref a0), .val (.int (0 : Int32)), .val (.int y0), .val (.int w22)] []) := fun t k => pre40 t (st41 _ k)
    have pre50 : Go p.tables e below (s₁.setTop (entryFrame m #[(.ref a0), (.int (0 : Int32))] 4)) T41 (mkF m 44 #[.val (.ref a0), .val (.int (0 : Int32)), .val (.int y0), .val (.int w22)] [(.int y0), (.ref a0)]) := fun t k => pre41 t (by
        refine XS.aloadN X41.here hx rfl (hb hby d9_42) rfl rfl ?_
        show Steps p.tables e below (T41.setTop (mkF m 43 #[.val (.ref a0), .val (.int (0 : Int32)), .val (.int y0), .val (.int w22)] [(.ref a0)])) _
        refine XS.iloadN X41.here hx rfl (hb hby d9_43) rfl ?_
        exact k)
    obtain ⟨cq51, q51, q51'⟩ := f43.cell
    obtain ⟨_, _, ⟨T51, L51, k51, n51⟩, -, X51, ⟨Lc51, hQ51, l51, y51, z51⟩, st51⟩ := own_private X41 hx (y := (⟨"com/example/octopoll/octopoll/PageHeap", "siftUp", "(I)V"⟩ : MethodName)) hown (mvT hZ (hw _ (List.mem_of_getElem? (i := 37) rfl))) (mvT hZ (hw _ (List.mem_of_getElem? (i := 38) rfl))) (mvT hZ (hw _ (List.mem_of_getElem? (i := 24) rfl))) rfl (Cond.privateMethod_at (mvP hZ (hw _ (List.mem_of_getElem? (i := 39) rfl)) (args := #[]))) (mvT hZ (hw _ (List.mem_of_getElem? (i := 40) rfl))) (by decide) (backOf (W := 0) (rm_su l Z av0 hw [] a0 y0 ka ha pa kk kh kp d0 d1 d2 (own_u 0 y0 w22 x0) (own_u 1 y0 w22 x1) (own_u 2 y0 w22 x2) (own_u 0 w22 y0 (-1 : Int32)) (own_u 1 w22 y0 y1) (own_u 2 w22 y0 y2) T41.heap n0 f42 f43 f44 f45 f46 f48 fo41_0 fo41_1 g_ha g_pa ne_a0_ha ne_a0_pa ne_ha_pa ne_a0_ka ne_ka_ha ne_ka_pa (own_ur hbw hR.1) (own_ur hbw hR.2.1) (own_ur hbw hR.2.2) (own_ry0 b1 b2 _ hS)) hZ (hw _ (List.mem_of_getElem? (i := 40) rfl)) (hw _ (List.mem_of_getElem? (i := 3) rfl)) (by decide) (by decide)) (a := a0) q51 q51' (g := (mkF m 44 #[.val (.ref a0), .val (.int (0 : Int32)), .val (.int y0), .val (.int w22)] [(.int y0), (.ref a0)])) rfl (by rw [hml]; rfl) (argsL := [(.int y0)]) (rest := []) (lenOf pd_2 rfl) rfl (by show 2 * 0 + _ ≤ _; exact Nat.le_of_eq rfl) (hb hby d9_44) (fun _ _ => ⟨rfl, rfl, (by decide : 0 + 0 ≤ _), (by decide : 0 + 0 ≤ _)⟩)
    dsimp only [Pt.U, Pt.locs, Pt.cells, Pt.slots] at X51 l51 y51 z51 st51 hQ51
    subst l51 y51 z51
    obtain ⟨z051, z151, z251, z351, z451, z551, hv51, N51q, K51, fo51_0, fo51_1, po51_0⟩ := hQ51
    have f52 : n0 ≤ T51.heap.size := Nat.le_trans f42 K51.1
    have f53 : Exa Z T51.heap a0 "com/example/octopoll/octopoll/PageHeap" := f43.keep K51
    have f54 : Fld Z T51.heap a0 "com/example/octopoll/octopoll/PageHeap" "key" "[D" (.ref ka) := f44.keep K51 (ninS ne_a0_ha (ninS ne_a0_pa nin0))
    have f55 : Fld Z T51.heap a0 "com/example/octopoll/octopoll/PageHeap" "heap" "[I" (.ref ha) := f45.keep K51 (ninS ne_a0_ha (ninS ne_a0_pa nin0))
    have f56 : Fld Z T51.heap a0 "com/example/octopoll/octopoll/PageHeap" "position" "[I" (.ref pa) := f46.keep K51 (ninS ne_a0_ha (ninS ne_a0_pa nin0))
    have f57 : Fld Z T51.heap a0 "com/example/octopoll/octopoll/PageHeap" "size" "I" (.int ((own_cnt true b1 b2) - (1 : Int32))) := f47.keep K51 (ninS ne_a0_ha (ninS ne_a0_pa nin0))
    have f58 : Arv Z T51.heap ka kk .double (3 : Int32) [(.double d0), (.double d1), (.double d2)] (.double 0) := f48.keep K51 (ninS ne_ka_ha (ninS ne_ka_pa nin0))
    have f59 : Keep h0 T51.heap [a0, ha, pa] := f49.trans K51 (allS (Or.inl (List.mem_of_getElem? (i := 1) rfl)) (allS (Or.inl (List.mem_of_getElem? (i := 2) rfl)) all0))
    subst hv51
    have N51 := Fr.app N41 N51q
    have pre51 : Go p.tables e below (s₁.setTop (entryFrame m #[(.ref a0), (.int (0 : Int32))] 4)) T51 (mkF m 47 #[.val (.ref a0), .val (.int (0 : Int32)), .val (.int y0), .val (.int w22)] []) := fun t k => pre50 t (st51 _ k)
    have hU : (own_bd z051 ∧ own_bd z151 ∧ own_bd z251) ∧ own_bd (own_g w22 z351 z451 z551) := by
      have hc0 := hne
      subst hw22
      rcases po51_0 with hq | ⟨hp, hq⟩
      · have hq1 : (z051, z151, z251, z351, z451, z551) = own_s0 (own_gy 0 (x0, x1, x2, y0, y1, y2)) (own_pl (own_gx ((own_cnt true b1 b2) - 1) (x0, x1, x2, y0, y1, y2)) (own_gy 0 (x0, x1, x2, y0, y1, y2)) (own_m 0 (x0, x1, x2, y0, y1, y2))) := hq
        have ha1 := own_via (P := fun t => own_bd t.1 ∧ own_bd t.2.1 ∧ own_bd t.2.2.1) hq1 (own_r0a0 b1 b2 _ hS hc0)
        have ha2 := own_via (P := fun t => own_bd (own_gy (own_gx ((own_cnt true b1 b2) - 1) (x0, x1, x2, y0, y1, y2)) t)) hq1 (own_r0b0 b1 b2 _ hS hc0)
        exact ⟨ha1, ha2⟩
      · have hq1 : (z051, z151, z251, z351, z451, z551) = own_s1 (own_gy 0 (x0, x1, x2, y0, y1, y2)) (own_pl (own_gx ((own_cnt true b1 b2) - 1) (x0, x1, x2, y0, y1, y2)) (own_gy 0 (x0, x1, x2, y0, y1, y2)) (own_m 0 (x0, x1, x2, y0, y1, y2))) := hq
        have ha1 := own_via (P := fun t => own_bd t.1 ∧ own_bd t.2.1 ∧ own_bd t.2.2.1) hq1 (own_r1a0 b1 b2 _ hS hc0 hp)
        have ha2 := own_via (P := fun t => own_bd (own_gy (own_gx ((own_cnt true b1 b2) - 1) (x0, x1, x2, y0, y1, y2)) t)) hq1 (own_r1b0 b1 b2 _ hS hc0 hp)
        exact ⟨ha1, ha2⟩
    have pre60 : Go p.tables e below (s₁.setTop (entryFrame m #[(.ref a0), (.int (0 : Int32))] 4)) T51 (mkF m 49 #[.val (.ref a0), .val (.int (0 : Int32)), .val (.int y0), .val (.int w22)] [(.ref a0), (.ref a0)]) := fun t k => pre51 t (by
        refine XS.aloadN X51.here hx rfl (hb hby d9_47) rfl rfl ?_
        show Steps p.tables e below (T51.setTop (mkF m 48 #[.val (.ref a0), .val (.int (0 : Int32)), .val (.int y0), .val (.int w22)] [(.ref a0)])) _
        refine XS.aloadN X51.here hx rfl (hb hby d9_48) rfl rfl ?_
        exact k)
    obtain ⟨T61, X61, e61, st61⟩ := getF X51 hx hZ hown (host := "") (Or.inl (hw _ (List.mem_of_getElem? (i := 15) rfl))) Via.refl rfl f56 (g := (mkF m 49 #[.val (.ref a0), .val (.int (0 : Int32)), .val (.int y0), .val (.int w22)] [(.ref a0), (.ref a0)])) rfl rfl (hb hby d9_49)
    have pre61 : Go p.tables e below (s₁.setTop (entryFrame m #[(.ref a0), (.int (0 : Int32))] 4)) T61 (mkF m 52 #[.val (.ref a0), .val (.int (0 : Int32)), .val (.int y0), .val (.int w22)] [(.ref pa), (.ref a0)]) := fun t k => pre60 t (st61 _ k)
    have pre62 : Go p.tables e below (s₁.setTop (entryFrame m #[(.ref a0), (.int (0 : Int32))] 4)) T61 (mkF m 53 #[.val (.ref a0), .val (.int (0 : Int32)), .val (.int y0), .val (.int w22)] [(.int w22), (.ref pa), (.ref a0)]) := fun t k => pre61 t (by
        refine XS.iloadN X61.here hx rfl (hb hby d9_52) rfl ?_
        exact k)
    obtain ⟨c63, Ar63, q63, S63, M63, H63, G63⟩ := (id fo51_1)
    have hin63 : ¬ (w22 < 0 ∨ c63.slots.size ≤ (w22).toNatClampNeg) := inb_of S63 hbw
    have pre63 : Go p.tables e below (s₁.setTop (entryFrame m #[(.ref a0), (.int (0 : Int32))] 4)) T61 (mkF m 54 #[.val (.ref a0), .val (.int (0 : Int32)), .val (.int y0), .val (.int w22)] [(.int (own_g w22 z351 z451 z551)), (.ref a0)]) := fun t k => pre62 t (X61.iaload hx (j := w22) (v := (.int (own_g w22 z351 z451 z551))) (by rw [e61]; exact Ar63.1) (State.isArrayOf_alike hZ.alike Ar63.2.1) Ar63.2.2 hin63 (H63.at hin63 (own_get hbw)) (g := (mkF m 53 #[.val (.ref a0), .val (.int (0 : Int32)), .val (.int y0), .val (.int w22)] [(.int w22), (.ref pa), (.ref a0)])) rfl rfl (hb hby d9_53) _ k)
    obtain ⟨cq64, q64, q64'⟩ := f53.cell
    obtain ⟨_, _, ⟨T64, L64, k64, n64⟩, -, X64, ⟨Lc64, hQ64, l64, y64, z64⟩, st64⟩ := own_private X61 hx (y := (⟨"com/example/octopoll/octopoll/PageHeap", "siftDown", "(I)V"⟩ : MethodName)) hown (mvT hZ (hw _ (List.mem_of_getElem? (i := 50) rfl))) (mvT hZ (hw _ (List.mem_of_getElem? (i := 51) rfl))) (mvT hZ (hw _ (List.mem_of_getElem? (i := 24) rfl))) rfl (Cond.privateMethod_at (mvP hZ (hw _ (List.mem_of_getElem? (i := 52) rfl)) (args := #[]))) (mvT hZ (hw _ (List.mem_of_getElem? (i := 53) rfl))) (by decide) (backOf (W := 0) (rm_sd l Z av0 hw [] a0 (own_g w22 z351 z451 z551) ((own_cnt true b1 b2) - (1 : Int32)) ka ha pa kk kh kp d0 d1 d2 z051 z151 z251 z351 z451 z551 T51.heap n0 f52 f53 f54 f55 f56 f57 f58 fo51_0 fo51_1 g_ha g_pa ne_a0_ha ne_a0_pa ne_ha_pa ne_a0_ka ne_ka_ha ne_ka_pa hU.1.1 hU.1.2.1 hU.1.2.2 (own_rn0 b1 b2 _ hS hne) hU.2) hZ (hw _ (List.mem_of_getElem? (i := 53) rfl)) (hw _ (List.mem_of_getElem? (i := 3) rfl)) (by decide) (by decide)) (a := a0) (by rw [e61]; exact q64) q64' (g := (mkF m 54 #[.val (.ref a0), .val (.int (0 : Int32)), .val (.int y0), .val (.int w22)] [(.int (own_g w22 z351 z451 z551)), (.ref a0)])) rfl (by rw [hml]; rfl) (argsL := [(.int (own_g w22 z351 z451 z551))]) (rest := []) (lenOf pd_2 rfl) rfl (by show 2 * 0 + _ ≤ _; exact Nat.le_of_eq rfl) (hb hby d9_54) (fun _ _ => ⟨rfl, e61, (by decide : 0 + 0 ≤ _), (by decide : 0 + 0 ≤ _)⟩)
    dsimp only [Pt.U, Pt.locs, Pt.cells, Pt.slots] at X64 l64 y64 z64 st64 hQ64
    subst l64 y64 z64
    obtain ⟨z064, z164, z264, z364, z464, z564, hv64, N64q, K64, fo64_0, fo64_1, po64_0⟩ := hQ64
    have f65 : n0 ≤ T64.heap.size := Nat.le_trans f52 K64.1
    have f66 : Exa Z T64.heap a0 "com/example/octopoll/octopoll/PageHeap" := f53.keep K64
    have f67 : Fld Z T64.heap a0 "com/example/octopoll/octopoll/PageHeap" "key" "[D" (.ref ka) := f54.keep K64 (ninS ne_a0_ha (ninS ne_a0_pa nin0))
    have f68 : Fld Z T64.heap a0 "com/example/octopoll/octopoll/PageHeap" "heap" "[I" (.ref ha) := f55.keep K64 (ninS ne_a0_ha (ninS ne_a0_pa nin0))
    have f69 : Fld Z T64.heap a0 "com/example/octopoll/octopoll/PageHeap" "position" "[I" (.ref pa) := f56.keep K64 (ninS ne_a0_ha (ninS ne_a0_pa nin0))
    have f70 : Fld Z T64.heap a0 "com/example/octopoll/octopoll/PageHeap" "size" "I" (.int ((own_cnt true b1 b2) - (1 : Int32))) := f57.keep K64 (ninS ne_a0_ha (ninS ne_a0_pa nin0))
    have f71 : Arv Z T64.heap ka kk .double (3 : Int32) [(.double d0), (.double d1), (.double d2)] (.double 0) := f58.keep K64 (ninS ne_ka_ha (ninS ne_ka_pa nin0))
    have f72 : Keep h0 T64.heap [a0, ha, pa] := f59.trans K64 (allS (Or.inl (List.mem_of_getElem? (i := 1) rfl)) (allS (Or.inl (List.mem_of_getElem? (i := 2) rfl)) all0))
    subst hv64
    have N64 := Fr.app N51 N64q
    have pre64 : Go p.tables e below (s₁.setTop (entryFrame m #[(.ref a0), (.int (0 : Int32))] 4)) T64 (mkF m 57 #[.val (.ref a0), .val (.int (0 : Int32)), .val (.int y0), .val (.int w22)] []) := fun t k => pre63 t (st64 _ k)
    obtain ⟨fs, hr, hrun, hended, hW, hsame⟩ := X64.leave (v := none) (fun _ => rfl) (BodyLoose.notSynchronized Bd)
    refine ⟨_, _, pre64 _ ?_, hrun, hended, _, _, rfl, ?_, ⟨_, rfl⟩, hW, hsame.mono (Nat.le_of_ble_eq_true rfl) (Nat.le_of_ble_eq_true rfl)⟩
    · exact X64.returnOut hx Bd.returns (hb hby d9_57) hr
    · show Q_rem0 Z a0 ka ha pa kk kh kp d0 d1 d2 x0 x1 x2 y0 y1 y2 b1 b2 h0 n0 _ T64.heap _
      have fsz := f70
      rw [(own_rc0 b1 b2).2] at fsz
      have hM : (z064, z164, z264, z364, z464, z564) ∈ own_S false b1 b2 := by
        have hc0 := hne
        subst hw22
        rcases po51_0 with hq | ⟨hp, hq⟩
        · have hq1 : (z051, z151, z251, z351, z451, z551) = own_s0 (own_gy 0 (x0, x1, x2, y0, y1, y2)) (own_pl (own_gx ((own_cnt true b1 b2) - 1) (x0, x1, x2, y0, y1, y2)) (own_gy 0 (x0, x1, x2, y0, y1, y2)) (own_m 0 (x0, x1, x2, y0, y1, y2))) := hq
          have hc1 := own_via (P := fun t => own_s0 (own_gy (own_gx ((own_cnt true b1 b2) - 1) (x0, x1, x2, y0, y1, y2)) t) t ∈ own_S false b1 b2) hq1 (own_r0c0 b1 b2 _ hS hc0)
          have hc2 := own_via (P := fun t => own_gy (own_gx ((own_cnt true b1 b2) - 1) (x0, x1, x2, y0, y1, y2)) t = 0 → (own_cnt true b1 b2) - 1 = 2 → own_d1 t ∈ own_S false b1 b2) hq1 (own_r0d0 b1 b2 _ hS hc0)
          exact own_memD hc1 hc2 po64_0
        · have hq1 : (z051, z151, z251, z351, z451, z551) = own_s1 (own_gy 0 (x0, x1, x2, y0, y1, y2)) (own_pl (own_gx ((own_cnt true b1 b2) - 1) (x0, x1, x2, y0, y1, y2)) (own_gy 0 (x0, x1, x2, y0, y1, y2)) (own_m 0 (x0, x1, x2, y0, y1, y2))) := hq
          have hc1 := own_via (P := fun t => own_s0 (own_gy (own_gx ((own_cnt true b1 b2) - 1) (x0, x1, x2, y0, y1, y2)) t) t ∈ own_S false b1 b2) hq1 (own_r1c0 b1 b2 _ hS hc0 hp)
          have hc2 := own_via (P := fun t => own_gy (own_gx ((own_cnt true b1 b2) - 1) (x0, x1, x2, y0, y1, y2)) t = 0 → (own_cnt true b1 b2) - 1 = 2 → own_d1 t ∈ own_S false b1 b2) hq1 (own_r1d0 b1 b2 _ hS hc0 hp)
          exact own_memD hc1 hc2 po64_0
      exact ⟨z064, z164, z264, z364, z464, z564, rfl, N64, f72, f66, f67, f68, f69, fsz, fo64_0, fo64_1, hM⟩
theorem pn_add1 : plainName "com/example/octopoll/octopoll/PageHeap" = true := by first | (simp [plainName, overriddenIn]; done) | decide +kernel
theorem ef_add1 (m : MethodId) (a0 : Addr) : entryFrame m #[(.ref a0), (.int (1 : Int32))] 2 = mkF m 0 #[.val (.ref a0), .val (.int (1 : Int32))] [] := by first | (simp [entryFrame, mkF, argsToLocals, Value.category]; done) | rfl
def Q_add1 (Z : State) (a0 : Addr) (ka : Addr) (ha : Addr) (pa : Addr) (kk : ClassId) (kh : ClassId) (kp : ClassId) (d0 : UInt64) (d1 : UInt64) (d2 : UInt64) (x0 : Int32) (x1 : Int32) (x2 : Int32) (y0 : Int32) (y1 : Int32) (y2 : Int32) (b0 : Bool) (b2 : Bool) (h0 : Heap) (n0 : Nat) (v : Option Value) (h : Heap) (L : List Loc) : Prop := ∃ (z0 : Int32) (z1 : Int32) (z2 : Int32) (z3 : Int32) (z4 : Int32) (z5 : Int32), v = none ∧ Fr n0 L ∧ Keep h0 h [a0, ha, pa] ∧ Exa Z h a0 "com/example/octopoll/octopoll/PageHeap" ∧ Fld Z h a0 "com/example/octopoll/octopoll/PageHeap" "key" "[D" (.ref ka) ∧ Fld Z h a0 "com/example/octopoll/octopoll/PageHeap" "heap" "[I" (.ref ha) ∧ Fld Z h a0 "com/example/octopoll/octopoll/PageHeap" "position" "[I" (.ref pa) ∧ Fld Z h a0 "com/example/octopoll/octopoll/PageHeap" "size" "I" (.int (own_cnt b0 true b2)) ∧ Arv Z h ha kh .int (3 : Int32) [(.int z0), (.int z1), (.int z2)] (.int (0 : Int32)) ∧ Arv Z h pa kp .int (3 : Int32) [(.int z3), (.int z4), (.int z5)] (.int (0 : Int32)) ∧ (z0, z1, z2, z3, z4, z5) ∈ own_S b0 true b2
set_option maxRecDepth 65536 in
set_option maxHeartbeats 40000000 in
theorem rm_add1 (l : Launch) (Z : State) (av0 : Array Value) (hw : ∀ d ∈ tables_1, d.before av0 Z = true) (ws : List Jvm.Cond) (a0 : Addr) (ka : Addr) (ha : Addr) (pa : Addr) (kk : ClassId) (kh : ClassId) (kp : ClassId) (d0 : UInt64) (d1 : UInt64) (d2 : UInt64) (x0 : Int32) (x1 : Int32) (x2 : Int32) (y0 : Int32) (y1 : Int32) (y2 : Int32) (b0 : Bool) (b2 : Bool) (h0 : Heap) (n0 : Nat) (Z0 : n0 ≤ h0.size) (fi0 : Exa Z h0 a0 "com/example/octopoll/octopoll/PageHeap") (fi1 : Fld Z h0 a0 "com/example/octopoll/octopoll/PageHeap" "key" "[D" (.ref ka)) (fi2 : Fld Z h0 a0 "com/example/octopoll/octopoll/PageHeap" "heap" "[I" (.ref ha)) (fi3 : Fld Z h0 a0 "com/example/octopoll/octopoll/PageHeap" "position" "[I" (.ref pa)) (fi4 : Fld Z h0 a0 "com/example/octopoll/octopoll/PageHeap" "size" "I" (.int (own_cnt b0 false b2))) (fi5 : Arv Z h0 ka kk .double (3 : Int32) [(.double d0), (.double d1), (.double d2)] (.double 0)) (fi6 : Arv Z h0 ha kh .int (3 : Int32) [(.int x0), (.int x1), (.int x2)] (.int (0 : Int32))) (fi7 : Arv Z h0 pa kp .int (3 : Int32) [(.int y0), (.int y1), (.int y2)] (.int (0 : Int32))) (g_a0 : n0 ≤ a0) (g_ha : n0 ≤ ha) (g_pa : n0 ≤ pa) (ne_a0_ha : a0 ≠ ha) (ne_a0_pa : a0 ≠ pa) (ne_ha_pa : ha ≠ pa) (ne_a0_ka : a0 ≠ ka) (ne_ka_ha : ka ≠ ha) (ne_ka_pa : ka ≠ pa) (hS : (x0, x1, x2, y0, y1, y2) ∈ own_S b0 false b2) :
    MetFree l (⟨"com/example/octopoll/octopoll/PageHeap", "add", "(I)V"⟩ : MethodName) (head1 (Jvm.Cond.code (⟨"com/example/octopoll/octopoll/PageHeap", "add", "(I)V"⟩ : MethodName) prog_17_method_5_code 2 none :: ws) ({ frames := 2, cells := 0, slots := 0, locals := 30 } : Room)) (fun a U => a = #[(.ref a0), (.int (1 : Int32))] ∧ Z.Warmed39 U.vm ∧ U.heap = h0) (fun _ _ _ _ _ => True) (fun _ U o U' => ∃ v L, o = .returned v ∧ Q_add1 Z a0 ka ha pa kk kh kp d0 d1 d2 x0 x1 x2 y0 y1 y2 b0 b2 h0 n0 v U'.heap L ∧ FrameEnd U o U' L ({ frames := 2, cells := 0, slots := 0, locals := 30 } : Room).cells ({ frames := 2, cells := 0, slots := 0, locals := 30 } : Room).slots) := by
  refine MetFree.of_bodySF (plainFor_of_name pn_add1) hisR ?_
  intro p e s m args below meth c s₁ Bd hml0 hP hK
  obtain ⟨rfl, hZ, hh⟩ := hP
  have hx := Bd.exec
  have hby := Bd.bytes
  have hml : c.maxLocals = 2 := hml0
  have hown : s.vm.findClass "com/example/octopoll/octopoll/PageHeap" = some m.cls := findClass_of_methodNamed Bd.named
  have hnm := (name_of_methodNamed Bd.named Bd.method).1
  have X0 : Stand p l e ({ frames := 2, cells := 0, slots := 0, locals := 30 } : Room) s m #[(.ref a0), (.int (1 : Int32))] below meth c s₁ [] 0 0 := Stand.of_body Bd
  have e0 : s₁.heap = h0 := by rw [← hh, Bd.state]; rfl
  have N0 := Fr.nil n0
  have pre0 : Go p.tables e below (s₁.setTop (entryFrame m #[(.ref a0), (.int (1 : Int32))] 2)) s₁ (mkF m 0 #[.val (.ref a0), .val (.int (1 : Int32))] []) := fun t k => castTop (ef_add1 m a0) k
  have K0 : Keep h0 h0 [a0, ha, pa] := Keep.refl _ _
  have hR := own_rng b0 false b2 _ hS
  have pre1 : Go p.tables e below (s₁.setTop (entryFrame m #[(.ref a0), (.int (1 : Int32))] 2)) s₁ (mkF m 4 #[.val (.ref a0), .val (.int (1 : Int32))] [(.ref a0), (.ref a0), (.int (1 : Int32)), (.ref a0)]) := fun t k => pre0 t (by
      refine XS.aloadN X0.here hx rfl (hb hby d5_0) rfl rfl ?_
      show Steps p.tables e below (s₁.setTop (mkF m 1 #[.val (.ref a0), .val (.int (1 : Int32))] [(.ref a0)])) _
      refine XS.iloadN X0.here hx rfl (hb hby d5_1) rfl ?_
      show Steps p.tables e below (s₁.setTop (mkF m 2 #[.val (.ref a0), .val (.int (1 : Int32))] [(.int (1 : Int32)), (.ref a0)])) _
      refine XS.aloadN X0.here hx rfl (hb hby d5_2) rfl rfl ?_
      show Steps p.tables e below (s₁.setTop (mkF m 3 #[.val (.ref a0), .val (.int (1 : Int32))] [(.ref a0), (.int (1 : Int32)), (.ref a0)])) _
      refine XS.dup X0.here hx rfl (hb hby d5_3) rfl rfl ?_
      exact k)
  obtain ⟨T2, X2, e2, st2⟩ := getF X0 hx hZ hown (host := "") (Or.inl (hw _ (List.mem_of_getElem? (i := 26) rfl))) Via.refl e0 fi4 (g := (mkF m 4 #[.val (.ref a0), .val (.int (1 : Int32))] [(.ref a0), (.ref a0), (.int (1 : Int32)), (.ref a0)])) rfl rfl (hb hby d5_4)
  have pre2 : Go p.tables e below (s₁.setTop (entryFrame m #[(.ref a0), (.int (1 : Int32))] 2)) T2 (mkF m 7 #[.val (.ref a0), .val (.int (1 : Int32))] [(.int (own_cnt b0 false b2)), (.ref a0), (.int (1 : Int32)), (.ref a0)]) := fun t k => pre1 t (st2 _ k)
  have pre3 : Go p.tables e below (s₁.setTop (entryFrame m #[(.ref a0), (.int (1 : Int32))] 2)) T2 (mkF m 10 #[.val (.ref a0), .val (.int (1 : Int32))] [(.int ((own_cnt b0 false b2) + (1 : Int32))), (.ref a0), (.int (own_cnt b0 false b2)), (.int (1 : Int32)), (.ref a0)]) := fun t k => pre2 t (by
      refine XS.dupX1 X2.here hx rfl (hb hby d5_7) rfl rfl rfl ?_
      show Steps p.tables e below (T2.setTop (mkF m 8 #[.val (.ref a0), .val (.int (1 : Int32))] [(.int (own_cnt b0 false b2)), (.ref a0), (.int (own_cnt b0 false b2)), (.int (1 : Int32)), (.ref a0)])) _
      refine XS.iconst X2.here hx rfl (hb hby d5_8) ?_
      show Steps p.tables e below (T2.setTop (mkF m 9 #[.val (.ref a0), .val (.int (1 : Int32))] [(.int (1 : Int32)), (.int (own_cnt b0 false b2)), (.ref a0), (.int (own_cnt b0 false b2)), (.int (1 : Int32)), (.ref a0)])) _
      refine XS.iadd X2.here hx rfl (hb hby d5_9) rfl ?_
      exact k)
  obtain ⟨T4, h4, X4, e4, W4, st4⟩ := putF X2 hx hZ hown (host := "") (Or.inl (hw _ (List.mem_of_getElem? (i := 26) rfl))) Via.refl e2 fi4 fi0 (Or.inl (hw _ (List.mem_of_getElem? (i := 27) rfl))) (hw _ (List.mem_of_getElem? (i := 2) rfl)) (ty := .int) (by decide) rfl rfl (g := (mkF m 10 #[.val (.ref a0), .val (.int (1 : Int32))] [(.int ((own_cnt b0 false b2) + (1 : Int32))), (.ref a0), (.int (own_cnt b0 false b2)), (.int (1 : Int32)), (.ref a0)])) rfl rfl (hb hby d5_10)
  have N4 := Fr.snoc X4 N0 g_a0
  have f5 : n0 ≤ h4.size := Nat.le_trans Z0 (Keep.of_wr W4).1
  have f6 : Exa Z h4 a0 "com/example/octopoll/octopoll/PageHeap" := fi0.wr W4
  have f7 : Fld Z h4 a0 "com/example/octopoll/octopoll/PageHeap" "key" "[D" (.ref ka) := fi1.other W4 (Or.inr (slot_ne (Or.inr (hw _ (List.mem_of_getElem? (i := 11) rfl))) (Or.inl (hw _ (List.mem_of_getElem? (i := 27) rfl))) (by decide) (t := (.array .double)) (t' := .int) (by decide) (by decide)))
  have f8 : Fld Z h4 a0 "com/example/octopoll/octopoll/PageHeap" "heap" "[I" (.ref ha) := fi2.other W4 (Or.inr (slot_ne (Or.inr (hw _ (List.mem_of_getElem? (i := 14) rfl))) (Or.inl (hw _ (List.mem_of_getElem? (i := 27) rfl))) (by decide) (t := (.array .int)) (t' := .int) (by decide) (by decide)))
  have f9 : Fld Z h4 a0 "com/example/octopoll/octopoll/PageHeap" "position" "[I" (.ref pa) := fi3.other W4 (Or.inr (slot_ne (Or.inr (hw _ (List.mem_of_getElem? (i := 16) rfl))) (Or.inl (hw _ (List.mem_of_getElem? (i := 27) rfl))) (by decide) (t := (.array .int)) (t' := .int) (by decide) (by decide)))
  have f10 : Fld Z h4 a0 "com/example/octopoll/octopoll/PageHeap" "size" "I" (.int ((own_cnt b0 false b2) + (1 : Int32))) := fi4.same W4
  have f11 : Arv Z h4 ka kk .double (3 : Int32) [(.double d0), (.double d1), (.double d2)] (.double 0) := fi5.other W4 ne_a0_ka.symm
  have f12 : Arv Z h4 ha kh .int (3 : Int32) [(.int x0), (.int x1), (.int x2)] (.int (0 : Int32)) := fi6.other W4 ne_a0_ha.symm
  have f13 : Arv Z h4 pa kp .int (3 : Int32) [(.int y0), (.int y1), (.int y2)] (.int (0 : Int32)) := fi7.other W4 ne_a0_pa.symm
  have f14 : Keep h0 h4 [a0, ha, pa] := K0.wr W4 (Or.inl (List.mem_of_getElem? (i := 0) rfl))
  have pre4 : Go p.tables e below (s₁.setTop (entryFrame m #[(.ref a0), (.int (1 : Int32))] 2)) T4 (mkF m 13 #[.val (.ref a0), .val (.int (1 : Int32))] [(.int (own_cnt b0 false b2)), (.int (1 : Int32)), (.ref a0)]) := fun t k => pre3 t (st4 _ k)
  obtain ⟨cq15, q15, q15'⟩ := f6.cell
  obtain ⟨_, _, ⟨T15, L15, k15, n15⟩, -, X15, ⟨Lc15, hQ15, l15, y15, z15⟩, st15⟩ := own_private X4 hx (y := (⟨"com/example/octopoll/octopoll/PageHeap", "place", "(II)V"⟩ : MethodName)) hown (mvT hZ (hw _ (List.mem_of_getElem? (i := 33) rfl))) (mvT hZ (hw _ (List.mem_of_getElem? (i := 34) rfl))) (mvT hZ (hw _ (List.mem_of_getElem? (i := 24) rfl))) rfl (Cond.privateMethod_at (mvP hZ (hw _ (List.mem_of_getElem? (i := 35) rfl)) (args := #[]))) (mvT hZ (hw _ (List.mem_of_getElem? (i := 36) rfl))) (by decide) (backOf (W := 0) (rm_plc l Z av0 hw [] a0 (1 : Int32) (own_cnt b0 false b2) ha pa kh kp x0 x1 x2 y0 y1 y2 h4 n0 f5 f8 f9 f12 f13 g_ha g_pa ne_a0_ha ne_a0_pa ne_ha_pa (by decide) (own_ac1 b0 b2).1) hZ (hw _ (List.mem_of_getElem? (i := 36) rfl)) (hw _ (List.mem_of_getElem? (i := 3) rfl)) (by decide) (by decide)) (a := a0) (by rw [e4]; exact q15) q15' (g := (mkF m 13 #[.val (.ref a0), .val (.int (1 : Int32))] [(.int (own_cnt b0 false b2)), (.int (1 : Int32)), (.ref a0)])) rfl (by rw [hml]; rfl) (argsL := [(.int (1 : Int32)), (.int (own_cnt b0 false b2))]) (rest := []) (lenOf pd_0 rfl) rfl (by show 2 * 0 + _ ≤ _; exact Nat.le_of_eq rfl) (hb hby d5_13) (fun _ _ => ⟨rfl, e4, (by decide : 0 + 0 ≤ _), (by decide : 0 + 0 ≤ _)⟩)
  dsimp only [Pt.U, Pt.locs, Pt.cells, Pt.slots] at X15 l15 y15 z15 st15 hQ15
  subst l15 y15 z15
  obtain ⟨hv15, N15q, K15, fo15_0, fo15_1⟩ := hQ15
  have f16 : n0 ≤ T15.heap.size := Nat.le_trans f5 K15.1
  have f17 : Exa Z T15.heap a0 "com/example/octopoll/octopoll/PageHeap" := f6.keep K15
  have f18 : Fld Z T15.heap a0 "com/example/octopoll/octopoll/PageHeap" "key" "[D" (.ref ka) := f7.keep K15 (ninS ne_a0_ha (ninS ne_a0_pa nin0))
  have f19 : Fld Z T15.heap a0 "com/example/octopoll/octopoll/PageHeap" "heap" "[I" (.ref ha) := f8.keep K15 (ninS ne_a0_ha (ninS ne_a0_pa nin0))
  have f20 : Fld Z T15.heap a0 "com/example/octopoll/octopoll/PageHeap" "position" "[I" (.ref pa) := f9.keep K15 (ninS ne_a0_ha (ninS ne_a0_pa nin0))
  have f21 : Fld Z T15.heap a0 "com/example/octopoll/octopoll/PageHeap" "size" "I" (.int ((own_cnt b0 false b2) + (1 : Int32))) := f10.keep K15 (ninS ne_a0_ha (ninS ne_a0_pa nin0))
  have f22 : Arv Z T15.heap ka kk .double (3 : Int32) [(.double d0), (.double d1), (.double d2)] (.double 0) := f11.keep K15 (ninS ne_ka_ha (ninS ne_ka_pa nin0))
  have f23 : Keep h0 T15.heap [a0, ha, pa] := f14.trans K15 (allS (Or.inl (List.mem_of_getElem? (i := 1) rfl)) (allS (Or.inl (List.mem_of_getElem? (i := 2) rfl)) all0))
  subst hv15
  have N15 := Fr.app N4 N15q
  have pre15 : Go p.tables e below (s₁.setTop (entryFrame m #[(.ref a0), (.int (1 : Int32))] 2)) T15 (mkF m 16 #[.val (.ref a0), .val (.int (1 : Int32))] []) := fun t k => pre4 t (st15 _ k)
  have pre24 : Go p.tables e below (s₁.setTop (entryFrame m #[(.ref a0), (.int (1 : Int32))] 2)) T15 (mkF m 18 #[.val (.ref a0), .val (.int (1 : Int32))] [(.ref a0), (.ref a0)]) := fun t k => pre15 t (by
      refine XS.aloadN X15.here hx rfl (hb hby d5_16) rfl rfl ?_
      show Steps p.tables e below (T15.setTop (mkF m 17 #[.val (.ref a0), .val (.int (1 : Int32))] [(.ref a0)])) _
      refine XS.aloadN X15.here hx rfl (hb hby d5_17) rfl rfl ?_
      exact k)
  obtain ⟨T25, X25, e25, st25⟩ := getF X15 hx hZ hown (host := "") (Or.inl (hw _ (List.mem_of_getElem? (i := 15) rfl))) Via.refl rfl f20 (g := (mkF m 18 #[.val (.ref a0), .val (.int (1 : Int32))] [(.ref a0), (.ref a0)])) rfl rfl (hb hby d5_18)
  have pre25 : Go p.tables e below (s₁.setTop (entryFrame m #[(.ref a0), (.int (1 : Int32))] 2)) T25 (mkF m 21 #[.val (.ref a0), .val (.int (1 : Int32))] [(.ref pa), (.ref a0)]) := fun t k => pre24 t (st25 _ k)
  have pre26 : Go p.tables e below (s₁.setTop (entryFrame m #[(.ref a0), (.int (1 : Int32))] 2)) T25 (mkF m 22 #[.val (.ref a0), .val (.int (1 : Int32))] [(.int (1 : Int32)), (.ref pa), (.ref a0)]) := fun t k => pre25 t (by
      refine XS.iloadN X25.here hx rfl (hb hby d5_21) rfl ?_
      exact k)
  obtain ⟨c27, Ar27, q27, S27, M27, H27, G27⟩ := (id fo15_1)
  have hin27 : ¬ ((1 : Int32) < 0 ∨ c27.slots.size ≤ ((1 : Int32)).toNatClampNeg) := inb_of S27 ⟨by decide, by decide⟩
  have pre27 : Go p.tables e below (s₁.setTop (entryFrame m #[(.ref a0), (.int (1 : Int32))] 2)) T25 (mkF m 23 #[.val (.ref a0), .val (.int (1 : Int32))] [(.int (own_cnt b0 false b2)), (.ref a0)]) := fun t k => pre26 t (X25.iaload hx (j := (1 : Int32)) (v := (.int (own_cnt b0 false b2))) (by rw [e25]; exact Ar27.1) (State.isArrayOf_alike hZ.alike Ar27.2.1) Ar27.2.2 hin27 (H27.at hin27 rfl) (g := (mkF m 22 #[.val (.ref a0), .val (.int (1 : Int32))] [(.int (1 : Int32)), (.ref pa), (.ref a0)])) rfl rfl (hb hby d5_22) _ k)
  obtain ⟨cq28, q28, q28'⟩ := f17.cell
  obtain ⟨_, _, ⟨T28, L28, k28, n28⟩, -, X28, ⟨Lc28, hQ28, l28, y28, z28⟩, st28⟩ := own_private X25 hx (y := (⟨"com/example/octopoll/octopoll/PageHeap", "siftUp", "(I)V"⟩ : MethodName)) hown (mvT hZ (hw _ (List.mem_of_getElem? (i := 37) rfl))) (mvT hZ (hw _ (List.mem_of_getElem? (i := 38) rfl))) (mvT hZ (hw _ (List.mem_of_getElem? (i := 24) rfl))) rfl (Cond.privateMethod_at (mvP hZ (hw _ (List.mem_of_getElem? (i := 39) rfl)) (args := #[]))) (mvT hZ (hw _ (List.mem_of_getElem? (i := 40) rfl))) (by decide) (backOf (W := 0) (rm_su l Z av0 hw [] a0 (own_cnt b0 false b2) ka ha pa kk kh kp d0 d1 d2 (own_u 0 (own_cnt b0 false b2) (1 : Int32) x0) (own_u 1 (own_cnt b0 false b2) (1 : Int32) x1) (own_u 2 (own_cnt b0 false b2) (1 : Int32) x2) y0 (own_cnt b0 false b2) y2 T15.heap n0 f16 f17 f18 f19 f20 f22 fo15_0 fo15_1 g_ha g_pa ne_a0_ha ne_a0_pa ne_ha_pa ne_a0_ka ne_ka_ha ne_ka_pa (own_ur (by decide) hR.1) (own_ur (by decide) hR.2.1) (own_ur (by decide) hR.2.2) (own_ac1 b0 b2).1) hZ (hw _ (List.mem_of_getElem? (i := 40) rfl)) (hw _ (List.mem_of_getElem? (i := 3) rfl)) (by decide) (by decide)) (a := a0) (by rw [e25]; exact q28) q28' (g := (mkF m 23 #[.val (.ref a0), .val (.int (1 : Int32))] [(.int (own_cnt b0 false b2)), (.ref a0)])) rfl (by rw [hml]; rfl) (argsL := [(.int (own_cnt b0 false b2))]) (rest := []) (lenOf pd_2 rfl) rfl (by show 2 * 0 + _ ≤ _; exact Nat.le_of_eq rfl) (hb hby d5_23) (fun _ _ => ⟨rfl, e25, (by decide : 0 + 0 ≤ _), (by decide : 0 + 0 ≤ _)⟩)
  dsimp only [Pt.U, Pt.locs, Pt.cells, Pt.slots] at X28 l28 y28 z28 st28 hQ28
  subst l28 y28 z28
  obtain ⟨z028, z128, z228, z328, z428, z528, hv28, N28q, K28, fo28_0, fo28_1, po28_0⟩ := hQ28
  have f29 : n0 ≤ T28.heap.size := Nat.le_trans f16 K28.1
  have f30 : Exa Z T28.heap a0 "com/example/octopoll/octopoll/PageHeap" := f17.keep K28
  have f31 : Fld Z T28.heap a0 "com/example/octopoll/octopoll/PageHeap" "key" "[D" (.ref ka) := f18.keep K28 (ninS ne_a0_ha (ninS ne_a0_pa nin0))
  have f32 : Fld Z T28.heap a0 "com/example/octopoll/octopoll/PageHeap" "heap" "[I" (.ref ha) := f19.keep K28 (ninS ne_a0_ha (ninS ne_a0_pa nin0))
  have f33 : Fld Z T28.heap a0 "com/example/octopoll/octopoll/PageHeap" "position" "[I" (.ref pa) := f20.keep K28 (ninS ne_a0_ha (ninS ne_a0_pa nin0))
  have f34 : Fld Z T28.heap a0 "com/example/octopoll/octopoll/PageHeap" "size" "I" (.int ((own_cnt b0 false b2) + (1 : Int32))) := f21.keep K28 (ninS ne_a0_ha (ninS ne_a0_pa nin0))
  have f35 : Arv Z T28.heap ka kk .double (3 : Int32) [(.double d0), (.double d1), (.double d2)] (.double 0) := f22.keep K28 (ninS ne_ka_ha (ninS ne_ka_pa nin0))
  have f36 : Keep h0 T28.heap [a0, ha, pa] := f23.trans K28 (allS (Or.inl (List.mem_of_getElem? (i := 1) rfl)) (allS (Or.inl (List.mem_of_getElem? (i := 2) rfl)) all0))
  subst hv28
  have N28 := Fr.app N15 N28q
  have pre28 : Go p.tables e below (s₁.setTop (entryFrame m #[(.ref a0), (.int (1 : Int32))] 2)) T28 (mkF m 26 #[.val (.ref a0), .val (.int (1 : Int32))] []) := fun t k => pre27 t (st28 _ k)
  obtain ⟨fs, hr, hrun, hended, hW, hsame⟩ := X28.leave (v := none) (fun _ => rfl) (BodyLoose.notSynchronized Bd)
  refine ⟨_, _, pre28 _ ?_, hrun, hended, _, _, rfl, ?_, ⟨_, rfl⟩, hW, hsame.mono (Nat.le_of_ble_eq_true rfl) (Nat.le_of_ble_eq_true rfl)⟩
  · exact X28.returnOut hx Bd.returns (hb hby d5_26) hr
  · show Q_add1 Z a0 ka ha pa kk kh kp d0 d1 d2 x0 x1 x2 y0 y1 y2 b0 b2 h0 n0 _ T28.heap _
    have fsz := f34
    rw [(own_ac1 b0 b2).2] at fsz
    exact ⟨z028, z128, z228, z328, z428, z528, rfl, N28, f36, f30, f31, f32, f33, fsz, fo28_0, fo28_1, (own_memU (own_a1 b0 b2 _ hS) po28_0)⟩
theorem pn_rem1 : plainName "com/example/octopoll/octopoll/PageHeap" = true := by first | (simp [plainName, overriddenIn]; done) | decide +kernel
theorem ef_rem1 (m : MethodId) (a0 : Addr) : entryFrame m #[(.ref a0), (.int (1 : Int32))] 4 = mkF m 0 #[.val (.ref a0), .val (.int (1 : Int32)), .unset, .unset] [] := by first | (simp [entryFrame, mkF, argsToLocals, Value.category]; done) | rfl
def Q_rem1 (Z : State) (a0 : Addr) (ka : Addr) (ha : Addr) (pa : Addr) (kk : ClassId) (kh : ClassId) (kp : ClassId) (d0 : UInt64) (d1 : UInt64) (d2 : UInt64) (x0 : Int32) (x1 : Int32) (x2 : Int32) (y0 : Int32) (y1 : Int32) (y2 : Int32) (b0 : Bool) (b2 : Bool) (h0 : Heap) (n0 : Nat) (v : Option Value) (h : Heap) (L : List Loc) : Prop := ∃ (z0 : Int32) (z1 : Int32) (z2 : Int32) (z3 : Int32) (z4 : Int32) (z5 : Int32), v = none ∧ Fr n0 L ∧ Keep h0 h [a0, ha, pa] ∧ Exa Z h a0 "com/example/octopoll/octopoll/PageHeap" ∧ Fld Z h a0 "com/example/octopoll/octopoll/PageHeap" "key" "[D" (.ref ka) ∧ Fld Z h a0 "com/example/octopoll/octopoll/PageHeap" "heap" "[I" (.ref ha) ∧ Fld Z h a0 "com/example/octopoll/octopoll/PageHeap" "position" "[I" (.ref pa) ∧ Fld Z h a0 "com/example/octopoll/octopoll/PageHeap" "size" "I" (.int (own_cnt b0 false b2)) ∧ Arv Z h ha kh .int (3 : Int32) [(.int z0), (.int z1), (.int z2)] (.int (0 : Int32)) ∧ Arv Z h pa kp .int (3 : Int32) [(.int z3), (.int z4), (.int z5)] (.int (0 : Int32)) ∧ (z0, z1, z2, z3, z4, z5) ∈ own_S b0 false b2
set_option maxRecDepth 65536 in
set_option maxHeartbeats 40000000 in
theorem rm_rem1 (l : Launch) (Z : State) (av0 : Array Value) (hw : ∀ d ∈ tables_1, d.before av0 Z = true) (ws : List Jvm.Cond) (a0 : Addr) (ka : Addr) (ha : Addr) (pa : Addr) (kk : ClassId) (kh : ClassId) (kp : ClassId) (d0 : UInt64) (d1 : UInt64) (d2 : UInt64) (x0 : Int32) (x1 : Int32) (x2 : Int32) (y0 : Int32) (y1 : Int32) (y2 : Int32) (b0 : Bool) (b2 : Bool) (h0 : Heap) (n0 : Nat) (Z0 : n0 ≤ h0.size) (fi0 : Exa Z h0 a0 "com/example/octopoll/octopoll/PageHeap") (fi1 : Fld Z h0 a0 "com/example/octopoll/octopoll/PageHeap" "key" "[D" (.ref ka)) (fi2 : Fld Z h0 a0 "com/example/octopoll/octopoll/PageHeap" "heap" "[I" (.ref ha)) (fi3 : Fld Z h0 a0 "com/example/octopoll/octopoll/PageHeap" "position" "[I" (.ref pa)) (fi4 : Fld Z h0 a0 "com/example/octopoll/octopoll/PageHeap" "size" "I" (.int (own_cnt b0 true b2))) (fi5 : Arv Z h0 ka kk .double (3 : Int32) [(.double d0), (.double d1), (.double d2)] (.double 0)) (fi6 : Arv Z h0 ha kh .int (3 : Int32) [(.int x0), (.int x1), (.int x2)] (.int (0 : Int32))) (fi7 : Arv Z h0 pa kp .int (3 : Int32) [(.int y0), (.int y1), (.int y2)] (.int (0 : Int32))) (g_a0 : n0 ≤ a0) (g_ha : n0 ≤ ha) (g_pa : n0 ≤ pa) (ne_a0_ha : a0 ≠ ha) (ne_a0_pa : a0 ≠ pa) (ne_ha_pa : ha ≠ pa) (ne_a0_ka : a0 ≠ ka) (ne_ka_ha : ka ≠ ha) (ne_ka_pa : ka ≠ pa) (hS : (x0, x1, x2, y0, y1, y2) ∈ own_S b0 true b2) :
    MetFree l (⟨"com/example/octopoll/octopoll/PageHeap", "remove", "(I)V"⟩ : MethodName) (head1 (Jvm.Cond.code (⟨"com/example/octopoll/octopoll/PageHeap", "remove", "(I)V"⟩ : MethodName) prog_17_method_7_code 4 none :: ws) ({ frames := 2, cells := 0, slots := 0, locals := 31 } : Room)) (fun a U => a = #[(.ref a0), (.int (1 : Int32))] ∧ Z.Warmed39 U.vm ∧ U.heap = h0) (fun _ _ _ _ _ => True) (fun _ U o U' => ∃ v L, o = .returned v ∧ Q_rem1 Z a0 ka ha pa kk kh kp d0 d1 d2 x0 x1 x2 y0 y1 y2 b0 b2 h0 n0 v U'.heap L ∧ FrameEnd U o U' L ({ frames := 2, cells := 0, slots := 0, locals := 31 } : Room).cells ({ frames := 2, cells := 0, slots := 0, locals := 31 } : Room).slots) := by
  refine MetFree.of_bodySF (plainFor_of_name pn_rem1) hisR ?_
  intro p e s m args below meth c s₁ Bd hml0 hP hK
  obtain ⟨rfl, hZ, hh⟩ := hP
  have hx := Bd.exec
  have hby := Bd.bytes
  have hml : c.maxLocals = 4 := hml0
  have hown : s.vm.findClass "com/example/octopoll/octopoll/PageHeap" = some m.cls := findClass_of_methodNamed Bd.named
  have hnm := (name_of_methodNamed Bd.named Bd.method).1
  have X0 : Stand p l e ({ frames := 2, cells := 0, slots := 0, locals := 31 } : Room) s m #[(.ref a0), (.int (1 : Int32))] below meth c s₁ [] 0 0 := Stand.of_body Bd
  have e0 : s₁.heap = h0 := by rw [← hh, Bd.state]; rfl
  have N0 := Fr.nil n0
  have pre0 : Go p.tables e below (s₁.setTop (entryFrame m #[(.ref a0), (.int (1 : Int32))] 4)) s₁ (mkF m 0 #[.val (.ref a0), .val (.int (1 : Int32)), .unset, .unset] []) := fun t k => castTop (ef_rem1 m a0) k
  have K0 : Keep h0 h0 [a0, ha, pa] := Keep.refl _ _
  have hR := own_rng b0 true b2 _ hS
  have pre1 : Go p.tables e below (s₁.setTop (entryFrame m #[(.ref a0), (.int (1 : Int32))] 4)) s₁ (mkF m 1 #[.val (.ref a0), .val (.int (1 : Int32)), .unset, .unset] [(.ref a0)]) := fun t k => pre0 t (by
      refine XS.aloadN X0.here hx rfl (hb hby d9_0) rfl rfl ?_
      exact k)
  obtain ⟨T2, X2, e2, st2⟩ := getF X0 hx hZ hown (host := "") (Or.inl (hw _ (List.mem_of_getElem? (i := 15) rfl))) Via.refl e0 fi3 (g := (mkF m 1 #[.val (.ref a0), .val (.int (1 : Int32)), .unset, .unset] [(.ref a0)])) rfl rfl (hb hby d9_1)
  have pre2 : Go p.tables e below (s₁.setTop (entryFrame m #[(.ref a0), (.int (1 : Int32))] 4)) T2 (mkF m 4 #[.val (.ref a0), .val (.int (1 : Int32)), .unset, .unset] [(.ref pa)]) := fun t k => pre1 t (st2 _ k)
  have pre3 : Go p.tables e below (s₁.setTop (entryFrame m #[(.ref a0), (.int (1 : Int32))] 4)) T2 (mkF m 5 #[.val (.ref a0), .val (.int (1 : Int32)), .unset, .unset] [(.int (1 : Int32)), (.ref pa)]) := fun t k => pre2 t (by
      refine XS.iloadN X2.here hx rfl (hb hby d9_4) rfl ?_
      exact k)
  obtain ⟨c4, Ar4, q4, S4, M4, H4, G4⟩ := (id fi7)
  have hin4 : ¬ ((1 : Int32) < 0 ∨ c4.slots.size ≤ ((1 : Int32)).toNatClampNeg) := inb_of S4 ⟨by decide, by decide⟩
  have pre4 : Go p.tables e below (s₁.setTop (entryFrame m #[(.ref a0), (.int (1 : Int32))] 4)) T2 (mkF m 6 #[.val (.ref a0), .val (.int (1 : Int32)), .unset, .unset] [(.int y1)]) := fun t k => pre3 t (X2.iaload hx (j := (1 : Int32)) (v := (.int y1)) (by rw [e2]; exact Ar4.1) (State.isArrayOf_alike hZ.alike Ar4.2.1) Ar4.2.2 hin4 (H4.at hin4 rfl) (g := (mkF m 5 #[.val (.ref a0), .val (.int (1 : Int32)), .unset, .unset] [(.int (1 : Int32)), (.ref pa)])) rfl rfl (hb hby d9_5) _ k)
  have pre5 : Go p.tables e below (s₁.setTop (entryFrame m #[(.ref a0), (.int (1 : Int32))] 4)) T2 (mkF m 8 #[.val (.ref a0), .val (.int (1 : Int32)), .val (.int y1), .unset] [(.ref a0)]) := fun t k => pre4 t (by
      refine XS.istoreN X2.here hx rfl (hb hby d9_6) rfl (l' := #[.val (.ref a0), .val (.int (1 : Int32)), .val (.int y1), .unset]) rfl ?_
      show Steps p.tables e below (T2.setTop (mkF m 7 #[.val (.ref a0), .val (.int (1 : Int32)), .val (.int y1), .unset] [])) _
      refine XS.aloadN X2.here hx rfl (hb hby d9_7) rfl rfl ?_
      exact k)
  obtain ⟨T6, X6, e6, st6⟩ := getF X2 hx hZ hown (host := "") (Or.inl (hw _ (List.mem_of_getElem? (i := 13) rfl))) Via.refl e2 fi2 (g := (mkF m 8 #[.val (.ref a0), .val (.int (1 : Int32)), .val (.int y1), .unset] [(.ref a0)])) rfl rfl (hb hby d9_8)
  have pre6 : Go p.tables e below (s₁.setTop (entryFrame m #[(.ref a0), (.int (1 : Int32))] 4)) T6 (mkF m 11 #[.val (.ref a0), .val (.int (1 : Int32)), .val (.int y1), .unset] [(.ref ha)]) := fun t k => pre5 t (st6 _ k)
  have pre7 : Go p.tables e below (s₁.setTop (entryFrame m #[(.ref a0), (.int (1 : Int32))] 4)) T6 (mkF m 13 #[.val (.ref a0), .val (.int (1 : Int32)), .val (.int y1), .unset] [(.ref a0), (.ref a0), (.ref ha)]) := fun t k => pre6 t (by
      refine XS.aloadN X6.here hx rfl (hb hby d9_11) rfl rfl ?_
      show Steps p.tables e below (T6.setTop (mkF m 12 #[.val (.ref a0), .val (.int (1 : Int32)), .val (.int y1), .unset] [(.ref a0), (.ref ha)])) _
      refine XS.dup X6.here hx rfl (hb hby d9_12) rfl rfl ?_
      exact k)
  obtain ⟨T8, X8, e8, st8⟩ := getF X6 hx hZ hown (host := "") (Or.inl (hw _ (List.mem_of_getElem? (i := 26) rfl))) Via.refl e6 fi4 (g := (mkF m 13 #[.val (.ref a0), .val (.int (1 : Int32)), .val (.int y1), .unset] [(.ref a0), (.ref a0), (.ref ha)])) rfl rfl (hb hby d9_13)
  have pre8 : Go p.tables e below (s₁.setTop (entryFrame m #[(.ref a0), (.int (1 : Int32))] 4)) T8 (mkF m 16 #[.val (.ref a0), .val (.int (1 : Int32)), .val (.int y1), .unset] [(.int (own_cnt b0 true b2)), (.ref a0), (.ref ha)]) := fun t k => pre7 t (st8 _ k)
  have pre9 : Go p.tables e below (s₁.setTop (entryFrame m #[(.ref a0), (.int (1 : Int32))] 4)) T8 (mkF m 19 #[.val (.ref a0), .val (.int (1 : Int32)), .val (.int y1), .unset] [(.int ((own_cnt b0 true b2) - (1 : Int32))), (.ref a0), (.int ((own_cnt b0 true b2) - (1 : Int32))), (.ref ha)]) := fun t k => pre8 t (by
      refine XS.iconst X8.here hx rfl (hb hby d9_16) ?_
      show Steps p.tables e below (T8.setTop (mkF m 17 #[.val (.ref a0), .val (.int (1 : Int32)), .val (.int y1), .unset] [(.int (1 : Int32)), (.int (own_cnt b0 true b2)), (.ref a0), (.ref ha)])) _
      refine XS.isub X8.here hx rfl (hb hby d9_17) rfl ?_
      show Steps p.tables e below (T8.setTop (mkF m 18 #[.val (.ref a0), .val (.int (1 : Int32)), .val (.int y1), .unset] [(.int ((own_cnt b0 true b2) - (1 : Int32))), (.ref a0), (.ref ha)])) _
      refine XS.dupX1 X8.here hx rfl (hb hby d9_18) rfl rfl rfl ?_
      exact k)
  obtain ⟨T10, h10, X10, e10, W10, st10⟩ := putF X8 hx hZ hown (host := "") (Or.inl (hw _ (List.mem_of_getElem? (i := 26) rfl))) Via.refl e8 fi4 fi0 (Or.inl (hw _ (List.mem_of_getElem? (i := 27) rfl))) (hw _ (List.mem_of_getElem? (i := 2) rfl)) (ty := .int) (by decide) rfl rfl (g := (mkF m 19 #[.val (.ref a0), .val (.int (1 : Int32)), .val (.int y1), .unset] [(.int ((own_cnt b0 true b2) - (1 : Int32))), (.ref a0), (.int ((own_cnt b0 true b2) - (1 : Int32))), (.ref ha)])) rfl rfl (hb hby d9_19)
  have N10 := Fr.snoc X10 N0 g_a0
  have f11 : n0 ≤ h10.size := Nat.le_trans Z0 (Keep.of_wr W10).1
  have f12 : Exa Z h10 a0 "com/example/octopoll/octopoll/PageHeap" := fi0.wr W10
  have f13 : Fld Z h10 a0 "com/example/octopoll/octopoll/PageHeap" "key" "[D" (.ref ka) := fi1.other W10 (Or.inr (slot_ne (Or.inr (hw _ (List.mem_of_getElem? (i := 11) rfl))) (Or.inl (hw _ (List.mem_of_getElem? (i := 27) rfl))) (by decide) (t := (.array .double)) (t' := .int) (by decide) (by decide)))
  have f14 : Fld Z h10 a0 "com/example/octopoll/octopoll/PageHeap" "heap" "[I" (.ref ha) := fi2.other W10 (Or.inr (slot_ne (Or.inr (hw _ (List.mem_of_getElem? (i := 14) rfl))) (Or.inl (hw _ (List.mem_of_getElem? (i := 27) rfl))) (by decide) (t := (.array .int)) (t' := .int) (by decide) (by decide)))
  have f15 : Fld Z h10 a0 "com/example/octopoll/octopoll/PageHeap" "position" "[I" (.ref pa) := fi3.other W10 (Or.inr (slot_ne (Or.inr (hw _ (List.mem_of_getElem? (i := 16) rfl))) (Or.inl (hw _ (List.mem_of_getElem? (i := 27) rfl))) (by decide) (t := (.array .int)) (t' := .int) (by decide) (by decide)))
  have f16 : Fld Z h10 a0 "com/example/octopoll/octopoll/PageHeap" "size" "I" (.int ((own_cnt b0 true b2) - (1 : Int32))) := fi4.same W10
  have f17 : Arv Z h10 ka kk .double (3 : Int32) [(.double d0), (.double d1), (.double d2)] (.double 0) := fi5.other W10 ne_a0_ka.symm
  have f18 : Arv Z h10 ha kh .int (3 : Int32) [(.int x0), (.int x1), (.int x2)] (.int (0 : Int32)) := fi6.other W10 ne_a0_ha.symm
  have f19 : Arv Z h10 pa kp .int (3 : Int32) [(.int y0), (.int y1), (.int y2)] (.int (0 : Int32)) := fi7.other W10 ne_a0_pa.symm
  have f20 : Keep h0 h10 [a0, ha, pa] := K0.wr W10 (Or.inl (List.mem_of_getElem? (i := 0) rfl))
  have pre10 : Go p.tables e below (s₁.setTop (entryFrame m #[(.ref a0), (.int (1 : Int32))] 4)) T10 (mkF m 22 #[.val (.ref a0), .val (.int (1 : Int32)), .val (.int y1), .unset] [(.int ((own_cnt b0 true b2) - (1 : Int32))), (.ref ha)]) := fun t k => pre9 t (st10 _ k)
  obtain ⟨c21, Ar21, q21, S21, M21, H21, G21⟩ := (id f18)
  have hin21 : ¬ (((own_cnt b0 true b2) - (1 : Int32)) < 0 ∨ c21.slots.size ≤ (((own_cnt b0 true b2) - (1 : Int32))).toNatClampNeg) := inb_of S21 (own_rc1 b0 b2).1
  have pre21 : Go p.tables e below (s₁.setTop (entryFrame m #[(.ref a0), (.int (1 : Int32))] 4)) T10 (mkF m 23 #[.val (.ref a0), .val (.int (1 : Int32)), .val (.int y1), .unset] [(.int (own_g ((own_cnt b0 true b2) - (1 : Int32)) x0 x1 x2))]) := fun t k => pre10 t (X10.iaload hx (j := ((own_cnt b0 true b2) - (1 : Int32))) (v := (.int (own_g ((own_cnt b0 true b2) - (1 : Int32)) x0 x1 x2))) (by rw [e10]; exact Ar21.1) (State.isArrayOf_alike hZ.alike Ar21.2.1) Ar21.2.2 hin21 (H21.at hin21 (own_get (own_rc1 b0 b2).1)) (g := (mkF m 22 #[.val (.ref a0), .val (.int (1 : Int32)), .val (.int y1), .unset] [(.int ((own_cnt b0 true b2) - (1 : Int32))), (.ref ha)])) rfl rfl (hb hby d9_22) _ k)
  obtain ⟨w22, hw22⟩ : ∃ z : Int32, z = (own_g ((own_cnt b0 true b2) - (1 : Int32)) x0 x1 x2) := ⟨_, rfl⟩
  have pre23 : Go p.tables e below (s₁.setTop (entryFrame m #[(.ref a0), (.int (1 : Int32))] 4)) T10 (mkF m 25 #[.val (.ref a0), .val (.int (1 : Int32)), .val (.int y1), .val (.int w22)] [(.ref a0)]) := fun t k => pre21 t (by
      refine XS.istoreN X10.here hx rfl (x := w22) (rest := []) (hb hby d9_23) (by subst hw22; rfl) (l' := #[.val (.ref a0), .val (.int (1 : Int32)), .val (.int y1), .val (.int w22)]) rfl ?_
      show Steps p.tables e below (T10.setTop (mkF m 24 #[.val (.ref a0), .val (.int (1 : Int32)), .val (.int y1), .val (.int w22)] [])) _
      refine XS.aloadN X10.here hx rfl (hb hby d9_24) rfl rfl ?_
      exact k)
  obtain ⟨T24, X24, e24, st24⟩ := getF X10 hx hZ hown (host := "") (Or.inl (hw _ (List.mem_of_getElem? (i := 15) rfl))) Via.refl e10 f15 (g := (mkF m 25 #[.val (.ref a0), .val (.int (1 : Int32)), .val (.int y1), .val (.int w22)] [(.ref a0)])) rfl rfl (hb hby d9_25)
  have pre24 : Go p.tables e below (s₁.setTop (entryFrame m #[(.ref a0), (.int (1 : Int32))] 4)) T24 (mkF m 28 #[.val (.ref a0), .val (.int (1 : Int32)), .val (.int y1), .val (.int w22)] [(.ref pa)]) := fun t k => pre23 t (st24 _ k)
  have pre25 : Go p.tables e below (s₁.setTop (entryFrame m #[(.ref a0), (.int (1 : Int32))] 4)) T24 (mkF m 30 #[.val (.ref a0), .val (.int (1 : Int32)), .val (.int y1), .val (.int w22)] [(.int (-1 : Int32)), (.int (1 : Int32)), (.ref pa)]) := fun t k => pre24 t (by
      refine XS.iloadN X24.here hx rfl (hb hby d9_28) rfl ?_
      show Steps p.tables e below (T24.setTop (mkF m 29 #[.val (.ref a0), .val (.int (1 : Int32)), .val (.int y1), .val (.int w22)] [(.int (1 : Int32)), (.ref pa)])) _
      refine XS.iconst X24.here hx rfl (hb hby d9_29) ?_
      exact k)
  obtain ⟨c26, Ar26, q26, S26, M26, H26, G26⟩ := (id f19)
  have hin26 : ¬ ((1 : Int32) < 0 ∨ c26.slots.size ≤ ((1 : Int32)).toNatClampNeg) := inb_of S26 ⟨by decide, by decide⟩
  obtain ⟨T26, h26, X26, e26, W26, st26⟩ := stI X24 hx hZ e24 Ar26 (j := (1 : Int32)) hin26 (g := (mkF m 30 #[.val (.ref a0), .val (.int (1 : Int32)), .val (.int y1), .val (.int w22)] [(.int (-1 : Int32)), (.int (1 : Int32)), (.ref pa)])) rfl rfl (hb hby d9_30)
  have fa26 : Arv Z h26 pa kp .int (3 : Int32) [(.int y0), (.int (-1 : Int32)), (.int y2)] (.int (0 : Int32)) := Arv.set Ar26 q26 S26 M26 H26 G26 rfl W26 1 rfl (Nat.le_of_ble_eq_true rfl)
  have N26 := Fr.snoc X26 N10 g_pa
  have f27 : n0 ≤ h26.size := Nat.le_trans f11 (Keep.of_wr W26).1
  have f28 : Exa Z h26 a0 "com/example/octopoll/octopoll/PageHeap" := f12.wr W26
  have f29 : Fld Z h26 a0 "com/example/octopoll/octopoll/PageHeap" "key" "[D" (.ref ka) := f13.other W26 (Or.inl ne_a0_pa)
  have f30 : Fld Z h26 a0 "com/example/octopoll/octopoll/PageHeap" "heap" "[I" (.ref ha) := f14.other W26 (Or.inl ne_a0_pa)
  have f31 : Fld Z h26 a0 "com/example/octopoll/octopoll/PageHeap" "position" "[I" (.ref pa) := f15.other W26 (Or.inl ne_a0_pa)
  have f32 : Fld Z h26 a0 "com/example/octopoll/octopoll/PageHeap" "size" "I" (.int ((own_cnt b0 true b2) - (1 : Int32))) := f16.other W26 (Or.inl ne_a0_pa)
  have f33 : Arv Z h26 ka kk .double (3 : Int32) [(.double d0), (.double d1), (.double d2)] (.double 0) := f17.other W26 ne_ka_pa
  have f34 : Arv Z h26 ha kh .int (3 : Int32) [(.int x0), (.int x1), (.int x2)] (.int (0 : Int32)) := f18.other W26 ne_ha_pa
  have f35 : Keep h0 h26 [a0, ha, pa] := f20.wr W26 (Or.inl (List.mem_of_getElem? (i := 2) rfl))
  have pre26 : Go p.tables e below (s₁.setTop (entryFrame m #[(.ref a0), (.int (1 : Int32))] 4)) T26 (mkF m 31 #[.val (.ref a0), .val (.int (1 : Int32)), .val (.int y1), .val (.int w22)] []) := fun t k => pre25 t (st26 _ k)
  have pre36 : Go p.tables e below (s₁.setTop (entryFrame m #[(.ref a0), (.int (1 : Int32))] 4)) T26 (mkF m 33 #[.val (.ref a0), .val (.int (1 : Int32)), .val (.int y1), .val (.int w22)] [(.int (1 : Int32)), (.int w22)]) := fun t k => pre26 t (by
      refine XS.iloadN X26.here hx rfl (hb hby d9_31) rfl ?_
      show Steps p.tables e below (T26.setTop (mkF m 32 #[.val (.ref a0), .val (.int (1 : Int32)), .val (.int y1), .val (.int w22)] [(.int w22)])) _
      refine XS.iloadN X26.here hx rfl (hb hby d9_32) rfl ?_
      exact k)
  by_cases hc37 : w22 = (1 : Int32)
  · -- hc37: True
    have pre38 : Go p.tables e below (s₁.setTop (entryFrame m #[(.ref a0), (.int (1 : Int32))] 4)) T26 (mkF m 57 #[.val (.ref a0), .val (.int (1 : Int32)), .val (.int y1), .val (.int w22)] []) := fun t k => pre36 t (by
        refine XS.icmpYes X26.here hx rfl (pc0 := 33) (pc' := 57) rfl (hb hby d9_33) rfl (teq hc37).1 (by decide) (by decide) ?_
        exact k)
    obtain ⟨fs, hr, hrun, hended, hW, hsame⟩ := X26.leave (v := none) (fun _ => rfl) (BodyLoose.notSynchronized Bd)
    refine ⟨_, _, pre38 _ ?_, hrun, hended, _, _, rfl, ?_, ⟨_, rfl⟩, hW, hsame.mono (Nat.le_of_ble_eq_true rfl) (Nat.le_of_ble_eq_true rfl)⟩
    · exact X26.returnOut hx Bd.returns (hb hby d9_57) hr
    · show Q_rem1 Z a0 ka ha pa kk kh kp d0 d1 d2 x0 x1 x2 y0 y1 y2 b0 b2 h0 n0 _ T26.heap _
      rw [e26]
      have fsz := f32
      rw [(own_rc1 b0 b2).2] at fsz
      have hM : (x0, x1, x2, y0, (-1 : Int32), y2) ∈ own_S b0 false b2 := own_re1 b0 b2 _ hS (hw22.symm.trans hc37)
      exact ⟨x0, x1, x2, y0, (-1 : Int32), y2, rfl, N26, f35, f28, f29, f30, f31, fsz, f34, fa26, hM⟩
  · -- hc37: False
    have pre39 : Go p.tables e below (s₁.setTop (entryFrame m #[(.ref a0), (.int (1 : Int32))] 4)) T26 (mkF m 36 #[.val (.ref a0), .val (.int (1 : Int32)), .val (.int y1), .val (.int w22)] []) := fun t k => pre36 t (by
        refine XS.icmpNo X26.here hx rfl (hb hby d9_33) rfl (feq hc37).1 ?_
        exact k)
    have hbw : own_bd w22 := by rw [hw22]; exact own_gr hR.1 hR.2.1 hR.2.2
    have hne := fun q => hc37 (hw22.trans q)
    have pre40 : Go p.tables e below (s₁.setTop (entryFrame m #[(.ref a0), (.int (1 : Int32))] 4)) T26 (mkF m 39 #[.val (.ref a0), .val (.int (1 : Int32)), .val (.int y1), .val (.int w22)] [(.int y1), (.int w22), (.ref a0)]) := fun t k => pre39 t (by
        refine XS.aloadN X26.here hx rfl (hb hby d9_36) rfl rfl ?_
        show Steps p.tables e below (T26.setTop (mkF m 37 #[.val (.ref a0), .val (.int (1 : Int32)), .val (.int y1), .val (.int w22)] [(.ref a0)])) _
        refine XS.iloadN X26.here hx rfl (hb hby d9_37) rfl ?_
        show Steps p.tables e below (T26.setTop (mkF m 38 #[.val (.ref a0), .val (.int (1 : Int32)), .val (.int y1), .val (.int w22)] [(.int w22), (.ref a0)])) _
        refine XS.iloadN X26.here hx rfl (hb hby d9_38) rfl ?_
        exact k)
    obtain ⟨cq41, q41, q41'⟩ := f28.cell
    obtain ⟨_, _, ⟨T41, L41, k41, n41⟩, -, X41, ⟨Lc41, hQ41, l41, y41, z41⟩, st41⟩ := own_private X26 hx (y := (⟨"com/example/octopoll/octopoll/PageHeap", "place", "(II)V"⟩ : MethodName)) hown (mvT hZ (hw _ (List.mem_of_getElem? (i := 33) rfl))) (mvT hZ (hw _ (List.mem_of_getElem? (i := 34) rfl))) (mvT hZ (hw _ (List.mem_of_getElem? (i := 24) rfl))) rfl (Cond.privateMethod_at (mvP hZ (hw _ (List.mem_of_getElem? (i := 35) rfl)) (args := #[]))) (mvT hZ (hw _ (List.mem_of_getElem? (i := 36) rfl))) (by decide) (backOf (W := 0) (rm_plc l Z av0 hw [] a0 w22 y1 ha pa kh kp x0 x1 x2 y0 (-1 : Int32) y2 h26 n0 f27 f30 f31 f34 fa26 g_ha g_pa ne_a0_ha ne_a0_pa ne_ha_pa hbw (own_ry1 b0 b2 _ hS)) hZ (hw _ (List.mem_of_getElem? (i := 36) rfl)) (hw _ (List.mem_of_getElem? (i := 3) rfl)) (by decide) (by decide)) (a := a0) (by rw [e26]; exact q41) q41' (g := (mkF m 39 #[.val (.ref a0), .val (.int (1 : Int32)), .val (.int y1), .val (.int w22)] [(.int y1), (.int w22), (.ref a0)])) rfl (by rw [hml]; rfl) (argsL := [(.int w22), (.int y1)]) (rest := []) (lenOf pd_0 rfl) rfl (by show 2 * 0 + _ ≤ _; exact Nat.le_of_eq rfl) (hb hby d9_39) (fun _ _ => ⟨rfl, e26, (by decide : 0 + 0 ≤ _), (by decide : 0 + 0 ≤ _)⟩)
    dsimp only [Pt.U, Pt.locs, Pt.cells, Pt.slots] at X41 l41 y41 z41 st41 hQ41
    subst l41 y41 z41
    obtain ⟨hv41, N41q, K41, fo41_0, fo41_1⟩ := hQ41
    have f42 : n0 ≤ T41.heap.size := Nat.le_trans f27 K41.1
    have f43 : Exa Z T41.heap a0 "com/example/octopoll/octopoll/PageHeap" := f28.keep K41
    have f44 : Fld Z T41.heap a0 "com/example/octopoll/octopoll/PageHeap" "key" "[D" (.ref ka) := f29.keep K41 (ninS ne_a0_ha (ninS ne_a0_pa nin0))
    have f45 : Fld Z T41.heap a0 "com/example/octopoll/octopoll/PageHeap" "heap" "[I" (.ref ha) := f30.keep K41 (ninS ne_a0_ha (ninS ne_a0_pa nin0))
    have f46 : Fld Z T41.heap a0 "com/example/octopoll/octopoll/PageHeap" "position" "[I" (.ref pa) := f31.keep K41 (ninS ne_a0_ha (ninS ne_a0_pa nin0))
    have f47 : Fld Z T41.heap a0 "com/example/octopoll/octopoll/PageHeap" "size" "I" (.int ((own_cnt b0 true b2) - (1 : Int32))) := f32.keep K41 (ninS ne_a0_ha (ninS ne_a0_pa nin0))
    have f48 : Arv Z T41.heap ka kk .double (3 : Int32) [(.double d0), (.double d1), (.double d2)] (.double 0) := f33.keep K41 (ninS ne_ka_ha (ninS ne_ka_pa nin0))
    have f49 : Keep h0 T41.heap [a0, ha, pa] := f35.trans K41 (allS (Or.inl (List.mem_of_getElem? (i := 1) rfl)) (allS (Or.inl (List.mem_of_getElem? (i := 2) rfl)) all0))
    subst hv41
    have N41 := Fr.app N26 N41q
    have pre41 : Go p.tables e below (s₁.setTop (entryFrame m #[(.ref a0), (.int (1 : Int32))] 4)) T41 (mkF m 42 #[.val (.ref a0), .val (.int (1 : Int32)), .val (.int y1), .val (.int w22)] []) := fun t k => pre40 t (st41 _ k)
    have pre50 : Go p.tables e below (s₁.setTop (entryFrame m #[(.ref a0), (.int (1 : Int32))] 4)) T41 (mkF m 44 #[.val (.ref a0), .val (.int (1 : Int32)), .val (.int y1), .val (.int w22)] [(.int y1), (.ref a0)]) := fun t k => pre41 t (by
        refine XS.aloadN X41.here hx rfl (hb hby d9_42) rfl rfl ?_
        show Steps p.tables e below (T41.setTop (mkF m 43 #[.val (.ref a0), .val (.int (1 : Int32)), .val (.int y1), .val (.int w22)] [(.ref a0)])) _
        refine XS.iloadN X41.here hx rfl (hb hby d9_43) rfl ?_
        exact k)
    obtain ⟨cq51, q51, q51'⟩ := f43.cell
    obtain ⟨_, _, ⟨T51, L51, k51, n51⟩, -, X51, ⟨Lc51, hQ51, l51, y51, z51⟩, st51⟩ := own_private X41 hx (y := (⟨"com/example/octopoll/octopoll/PageHeap", "siftUp", "(I)V"⟩ : MethodName)) hown (mvT hZ (hw _ (List.mem_of_getElem? (i := 37) rfl))) (mvT hZ (hw _ (List.mem_of_getElem? (i := 38) rfl))) (mvT hZ (hw _ (List.mem_of_getElem? (i := 24) rfl))) rfl (Cond.privateMethod_at (mvP hZ (hw _ (List.mem_of_getElem? (i := 39) rfl)) (args := #[]))) (mvT hZ (hw _ (List.mem_of_getElem? (i := 40) rfl))) (by decide) (backOf (W := 0) (rm_su l Z av0 hw [] a0 y1 ka ha pa kk kh kp d0 d1 d2 (own_u 0 y1 w22 x0) (own_u 1 y1 w22 x1) (own_u 2 y1 w22 x2) (own_u 0 w22 y1 y0) (own_u 1 w22 y1 (-1 : Int32)) (own_u 2 w22 y1 y2) T41.heap n0 f42 f43 f44 f45 f46 f48 fo41_0 fo41_1 g_ha g_pa ne_a0_ha ne_a0_pa ne_ha_pa ne_a0_ka ne_ka_ha ne_ka_pa (own_ur hbw hR.1) (own_ur hbw hR.2.1) (own_ur hbw hR.2.2) (own_ry1 b0 b2 _ hS)) hZ (hw _ (List.mem_of_getElem? (i := 40) rfl)) (hw _ (List.mem_of_getElem? (i := 3) rfl)) (by decide) (by decide)) (a := a0) q51 q51' (g := (mkF m 44 #[.val (.ref a0), .val (.int (1 : Int32)), .val (.int y1), .val (.int w22)] [(.int y1), (.ref a0)])) rfl (by rw [hml]; rfl) (argsL := [(.int y1)]) (rest := []) (lenOf pd_2 rfl) rfl (by show 2 * 0 + _ ≤ _; exact Nat.le_of_eq rfl) (hb hby d9_44) (fun _ _ => ⟨rfl, rfl, (by decide : 0 + 0 ≤ _), (by decide : 0 + 0 ≤ _)⟩)
    dsimp only [Pt.U, Pt.locs, Pt.cells, Pt.slots] at X51 l51 y51 z51 st51 hQ51
    subst l51 y51 z51
    obtain ⟨z051, z151, z251, z351, z451, z551, hv51, N51q, K51, fo51_0, fo51_1, po51_0⟩ := hQ51
    have f52 : n0 ≤ T51.heap.size := Nat.le_trans f42 K51.1
    have f53 : Exa Z T51.heap a0 "com/example/octopoll/octopoll/PageHeap" := f43.keep K51
    have f54 : Fld Z T51.heap a0 "com/example/octopoll/octopoll/PageHeap" "key" "[D" (.ref ka) := f44.keep K51 (ninS ne_a0_ha (ninS ne_a0_pa nin0))
    have f55 : Fld Z T51.heap a0 "com/example/octopoll/octopoll/PageHeap" "heap" "[I" (.ref ha) := f45.keep K51 (ninS ne_a0_ha (ninS ne_a0_pa nin0))
    have f56 : Fld Z T51.heap a0 "com/example/octopoll/octopoll/PageHeap" "position" "[I" (.ref pa) := f46.keep K51 (ninS ne_a0_ha (ninS ne_a0_pa nin0))
    have f57 : Fld Z T51.heap a0 "com/example/octopoll/octopoll/PageHeap" "size" "I" (.int ((own_cnt b0 true b2) - (1 : Int32))) := f47.keep K51 (ninS ne_a0_ha (ninS ne_a0_pa nin0))
    have f58 : Arv Z T51.heap ka kk .double (3 : Int32) [(.double d0), (.double d1), (.double d2)] (.double 0) := f48.keep K51 (ninS ne_ka_ha (ninS ne_ka_pa nin0))
    have f59 : Keep h0 T51.heap [a0, ha, pa] := f49.trans K51 (allS (Or.inl (List.mem_of_getElem? (i := 1) rfl)) (allS (Or.inl (List.mem_of_getElem? (i := 2) rfl)) all0))
    subst hv51
    have N51 := Fr.app N41 N51q
    have pre51 : Go p.tables e below (s₁.setTop (entryFrame m #[(.ref a0), (.int (1 : Int32))] 4)) T51 (mkF m 47 #[.val (.ref a0), .val (.int (1 : Int32)), .val (.int y1), .val (.int w22)] []) := fun t k => pre50 t (st51 _ k)
    have hU : (own_bd z051 ∧ own_bd z151 ∧ own_bd z251) ∧ own_bd (own_g w22 z351 z451 z551) := by
      have hc0 := hne
      subst hw22
      rcases po51_0 with hq | ⟨hp, hq⟩
      · have hq1 : (z051, z151, z251, z351, z451, z551) = own_s0 (own_gy 1 (x0, x1, x2, y0, y1, y2)) (own_pl (own_gx ((own_cnt b0 true b2) - 1) (x0, x1, x2, y0, y1, y2)) (own_gy 1 (x0, x1, x2, y0, y1, y2)) (own_m 1 (x0, x1, x2, y0, y1, y2))) := hq
        have ha1 := own_via (P := fun t => own_bd t.1 ∧ own_bd t.2.1 ∧ own_bd t.2.2.1) hq1 (own_r0a1 b0 b2 _ hS hc0)
        have ha2 := own_via (P := fun t => own_bd (own_gy (own_gx ((own_cnt b0 true b2) - 1) (x0, x1, x2, y0, y1, y2)) t)) hq1 (own_r0b1 b0 b2 _ hS hc0)
        exact ⟨ha1, ha2⟩
      · have hq1 : (z051, z151, z251, z351, z451, z551) = own_s1 (own_gy 1 (x0, x1, x2, y0, y1, y2)) (own_pl (own_gx ((own_cnt b0 true b2) - 1) (x0, x1, x2, y0, y1, y2)) (own_gy 1 (x0, x1, x2, y0, y1, y2)) (own_m 1 (x0, x1, x2, y0, y1, y2))) := hq
        have ha1 := own_via (P := fun t => own_bd t.1 ∧ own_bd t.2.1 ∧ own_bd t.2.2.1) hq1 (own_r1a1 b0 b2 _ hS hc0 hp)
        have ha2 := own_via (P := fun t => own_bd (own_gy (own_gx ((own_cnt b0 true b2) - 1) (x0, x1, x2, y0, y1, y2)) t)) hq1 (own_r1b1 b0 b2 _ hS hc0 hp)
        exact ⟨ha1, ha2⟩
    have pre60 : Go p.tables e below (s₁.setTop (entryFrame m #[(.ref a0), (.int (1 : Int32))] 4)) T51 (mkF m 49 #[.val (.ref a0), .val (.int (1 : Int32)), .val (.int y1), .val (.int w22)] [(.ref a0), (.ref a0)]) := fun t k => pre51 t (by
        refine XS.aloadN X51.here hx rfl (hb hby d9_47) rfl rfl ?_
        show Steps p.tables e below (T51.setTop (mkF m 48 #[.val (.ref a0), .val (.int (1 : Int32)), .val (.int y1), .val (.int w22)] [(.ref a0)])) _
        refine XS.aloadN X51.here hx rfl (hb hby d9_48) rfl rfl ?_
        exact k)
    obtain ⟨T61, X61, e61, st61⟩ := getF X51 hx hZ hown (host := "") (Or.inl (hw _ (List.mem_of_getElem? (i := 15) rfl))) Via.refl rfl f56 (g := (mkF m 49 #[.val (.ref a0), .val (.int (1 : Int32)), .val (.int y1), .val (.int w22)] [(.ref a0), (.ref a0)])) rfl rfl (hb hby d9_49)
    have pre61 : Go p.tables e below (s₁.setTop (entryFrame m #[(.ref a0), (.int (1 : Int32))] 4)) T61 (mkF m 52 #[.val (.ref a0), .val (.int (1 : Int32)), .val (.int y1), .val (.int w22)] [(.ref pa), (.ref a0)]) := fun t k => pre60 t (st61 _ k)
    have pre62 : Go p.tables e below (s₁.setTop (entryFrame m #[(.ref a0), (.int (1 : Int32))] 4)) T61 (mkF m 53 #[.val (.ref a0), .val (.int (1 : Int32)), .val (.int y1), .val (.int w22)] [(.int w22), (.ref pa), (.ref a0)]) := fun t k => pre61 t (by
        refine XS.iloadN X61.here hx rfl (hb hby d9_52) rfl ?_
        exact k)
    obtain ⟨c63, Ar63, q63, S63, M63, H63, G63⟩ := (id fo51_1)
    have hin63 : ¬ (w22 < 0 ∨ c63.slots.size ≤ (w22).toNatClampNeg) := inb_of S63 hbw
    have pre63 : Go p.tables e below (s₁.setTop (entryFrame m #[(.ref a0), (.int (1 : Int32))] 4)) T61 (mkF m 54 #[.val (.ref a0), .val (.int (1 : Int32)), .val (.int y1), .val (.int w22)] [(.int (own_g w22 z351 z451 z551)), (.ref a0)]) := fun t k => pre62 t (X61.iaload hx (j := w22) (v := (.int (own_g w22 z351 z451 z551))) (by rw [e61]; exact Ar63.1) (State.isArrayOf_alike hZ.alike Ar63.2.1) Ar63.2.2 hin63 (H63.at hin63 (own_get hbw)) (g := (mkF m 53 #[.val (.ref a0), .val (.int (1 : Int32)), .val (.int y1), .val (.int w22)] [(.int w22), (.ref pa), (.ref a0)])) rfl rfl (hb hby d9_53) _ k)
    obtain ⟨cq64, q64, q64'⟩ := f53.cell
    obtain ⟨_, _, ⟨T64, L64, k64, n64⟩, -, X64, ⟨Lc64, hQ64, l64, y64, z64⟩, st64⟩ := own_private X61 hx (y := (⟨"com/example/octopoll/octopoll/PageHeap", "siftDown", "(I)V"⟩ : MethodName)) hown (mvT hZ (hw _ (List.mem_of_getElem? (i := 50) rfl))) (mvT hZ (hw _ (List.mem_of_getElem? (i := 51) rfl))) (mvT hZ (hw _ (List.mem_of_getElem? (i := 24) rfl))) rfl (Cond.privateMethod_at (mvP hZ (hw _ (List.mem_of_getElem? (i := 52) rfl)) (args := #[]))) (mvT hZ (hw _ (List.mem_of_getElem? (i := 53) rfl))) (by decide) (backOf (W := 0) (rm_sd l Z av0 hw [] a0 (own_g w22 z351 z451 z551) ((own_cnt b0 true b2) - (1 : Int32)) ka ha pa kk kh kp d0 d1 d2 z051 z151 z251 z351 z451 z551 T51.heap n0 f52 f53 f54 f55 f56 f57 f58 fo51_0 fo51_1 g_ha g_pa ne_a0_ha ne_a0_pa ne_ha_pa ne_a0_ka ne_ka_ha ne_ka_pa hU.1.1 hU.1.2.1 hU.1.2.2 (own_rn1 b0 b2 _ hS hne) hU.2) hZ (hw _ (List.mem_of_getElem? (i := 53) rfl)) (hw _ (List.mem_of_getElem? (i := 3) rfl)) (by decide) (by decide)) (a := a0) (by rw [e61]; exact q64) q64' (g := (mkF m 54 #[.val (.ref a0), .val (.int (1 : Int32)), .val (.int y1), .val (.int w22)] [(.int (own_g w22 z351 z451 z551)), (.ref a0)])) rfl (by rw [hml]; rfl) (argsL := [(.int (own_g w22 z351 z451 z551))]) (rest := []) (lenOf pd_2 rfl) rfl (by show 2 * 0 + _ ≤ _; exact Nat.le_of_eq rfl) (hb hby d9_54) (fun _ _ => ⟨rfl, e61, (by decide : 0 + 0 ≤ _), (by decide : 0 + 0 ≤ _)⟩)
    dsimp only [Pt.U, Pt.locs, Pt.cells, Pt.slots] at X64 l64 y64 z64 st64 hQ64
    subst l64 y64 z64
    obtain ⟨z064, z164, z264, z364, z464, z564, hv64, N64q, K64, fo64_0, fo64_1, po64_0⟩ := hQ64
    have f65 : n0 ≤ T64.heap.size := Nat.le_trans f52 K64.1
    have f66 : Exa Z T64.heap a0 "com/example/octopoll/octopoll/PageHeap" := f53.keep K64
    have f67 : Fld Z T64.heap a0 "com/example/octopoll/octopoll/PageHeap" "key" "[D" (.ref ka) := f54.keep K64 (ninS ne_a0_ha (ninS ne_a0_pa nin0))
    have f68 : Fld Z T64.heap a0 "com/example/octopoll/octopoll/PageHeap" "heap" "[I" (.ref ha) := f55.keep K64 (ninS ne_a0_ha (ninS ne_a0_pa nin0))
    have f69 : Fld Z T64.heap a0 "com/example/octopoll/octopoll/PageHeap" "position" "[I" (.ref pa) := f56.keep K64 (ninS ne_a0_ha (ninS ne_a0_pa nin0))
    have f70 : Fld Z T64.heap a0 "com/example/octopoll/octopoll/PageHeap" "size" "I" (.int ((own_cnt b0 true b2) - (1 : Int32))) := f57.keep K64 (ninS ne_a0_ha (ninS ne_a0_pa nin0))
    have f71 : Arv Z T64.heap ka kk .double (3 : Int32) [(.double d0), (.double d1), (.double d2)] (.double 0) := f58.keep K64 (ninS ne_ka_ha (ninS ne_ka_pa nin0))
    have f72 : Keep h0 T64.heap [a0, ha, pa] := f59.trans K64 (allS (Or.inl (List.mem_of_getElem? (i := 1) rfl)) (allS (Or.inl (List.mem_of_getElem? (i := 2) rfl)) all0))
    subst hv64
    have N64 := Fr.app N51 N64q
    have pre64 : Go p.tables e below (s₁.setTop (entryFrame m #[(.ref a0), (.int (1 : Int32))] 4)) T64 (mkF m 57 #[.val (.ref a0), .val (.int (1 : Int32)), .val (.int y1), .val (.int w22)] []) := fun t k => pre63 t (st64 _ k)
    obtain ⟨fs, hr, hrun, hended, hW, hsame⟩ := X64.leave (v := none) (fun _ => rfl) (BodyLoose.notSynchronized Bd)
    refine ⟨_, _, pre64 _ ?_, hrun, hended, _, _, rfl, ?_, ⟨_, rfl⟩, hW, hsame.mono (Nat.le_of_ble_eq_true rfl) (Nat.le_of_ble_eq_true rfl)⟩
    · exact X64.returnOut hx Bd.returns (hb hby d9_57) hr
    · show Q_rem1 Z a0 ka ha pa kk kh kp d0 d1 d2 x0 x1 x2 y0 y1 y2 b0 b2 h0 n0 _ T64.heap _
      have fsz := f70
      rw [(own_rc1 b0 b2).2] at fsz
      have hM : (z064, z164, z264, z364, z464, z564) ∈ own_S b0 false b2 := by
        have hc0 := hne
        subst hw22
        rcases po51_0 with hq | ⟨hp, hq⟩
        · have hq1 : (z051, z151, z251, z351, z451, z551) = own_s0 (own_gy 1 (x0, x1, x2, y0, y1, y2)) (own_pl (own_gx ((own_cnt b0 true b2) - 1) (x0, x1, x2, y0, y1, y2)) (own_gy 1 (x0, x1, x2, y0, y1, y2)) (own_m 1 (x0, x1, x2, y0, y1, y2))) := hq
          have hc1 := own_via (P := fun t => own_s0 (own_gy (own_gx ((own_cnt b0 true b2) - 1) (x0, x1, x2, y0, y1, y2)) t) t ∈ own_S b0 false b2) hq1 (own_r0c1 b0 b2 _ hS hc0)
          have hc2 := own_via (P := fun t => own_gy (own_gx ((own_cnt b0 true b2) - 1) (x0, x1, x2, y0, y1, y2)) t = 0 → (own_cnt b0 true b2) - 1 = 2 → own_d1 t ∈ own_S b0 false b2) hq1 (own_r0d1 b0 b2 _ hS hc0)
          exact own_memD hc1 hc2 po64_0
        · have hq1 : (z051, z151, z251, z351, z451, z551) = own_s1 (own_gy 1 (x0, x1, x2, y0, y1, y2)) (own_pl (own_gx ((own_cnt b0 true b2) - 1) (x0, x1, x2, y0, y1, y2)) (own_gy 1 (x0, x1, x2, y0, y1, y2)) (own_m 1 (x0, x1, x2, y0, y1, y2))) := hq
          have hc1 := own_via (P := fun t => own_s0 (own_gy (own_gx ((own_cnt b0 true b2) - 1) (x0, x1, x2, y0, y1, y2)) t) t ∈ own_S b0 false b2) hq1 (own_r1c1 b0 b2 _ hS hc0 hp)
          have hc2 := own_via (P := fun t => own_gy (own_gx ((own_cnt b0 true b2) - 1) (x0, x1, x2, y0, y1, y2)) t = 0 → (own_cnt b0 true b2) - 1 = 2 → own_d1 t ∈ own_S b0 false b2) hq1 (own_r1d1 b0 b2 _ hS hc0 hp)
          exact own_memD hc1 hc2 po64_0
      exact ⟨z064, z164, z264, z364, z464, z564, rfl, N64, f72, f66, f67, f68, f69, fsz, fo64_0, fo64_1, hM⟩
theorem pn_add2 : plainName "com/example/octopoll/octopoll/PageHeap" = true := by first | (simp [plainName, overriddenIn]; done) | decide +kernel
theorem ef_add2 (m : MethodId) (a0 : Addr) : entryFrame m #[(.ref a0), (.int (2 : Int32))] 2 = mkF m 0 #[.val (.ref a0), .val (.int (2 : Int32))] [] := by first | (simp [entryFrame, mkF, argsToLocals, Value.category]; done) | rfl
def Q_add2 (Z : State) (a0 : Addr) (ka : Addr) (ha : Addr) (pa : Addr) (kk : ClassId) (kh : ClassId) (kp : ClassId) (d0 : UInt64) (d1 : UInt64) (d2 : UInt64) (x0 : Int32) (x1 : Int32) (x2 : Int32) (y0 : Int32) (y1 : Int32) (y2 : Int32) (b0 : Bool) (b1 : Bool) (h0 : Heap) (n0 : Nat) (v : Option Value) (h : Heap) (L : List Loc) : Prop := ∃ (z0 : Int32) (z1 : Int32) (z2 : Int32) (z3 : Int32) (z4 : Int32) (z5 : Int32), v = none ∧ Fr n0 L ∧ Keep h0 h [a0, ha, pa] ∧ Exa Z h a0 "com/example/octopoll/octopoll/PageHeap" ∧ Fld Z h a0 "com/example/octopoll/octopoll/PageHeap" "key" "[D" (.ref ka) ∧ Fld Z h a0 "com/example/octopoll/octopoll/PageHeap" "heap" "[I" (.ref ha) ∧ Fld Z h a0 "com/example/octopoll/octopoll/PageHeap" "position" "[I" (.ref pa) ∧ Fld Z h a0 "com/example/octopoll/octopoll/PageHeap" "size" "I" (.int (own_cnt b0 b1 true)) ∧ Arv Z h ha kh .int (3 : Int32) [(.int z0), (.int z1), (.int z2)] (.int (0 : Int32)) ∧ Arv Z h pa kp .int (3 : Int32) [(.int z3), (.int z4), (.int z5)] (.int (0 : Int32)) ∧ (z0, z1, z2, z3, z4, z5) ∈ own_S b0 b1 true
set_option maxRecDepth 65536 in
set_option maxHeartbeats 40000000 in
theorem rm_add2 (l : Launch) (Z : State) (av0 : Array Value) (hw : ∀ d ∈ tables_1, d.before av0 Z = true) (ws : List Jvm.Cond) (a0 : Addr) (ka : Addr) (ha : Addr) (pa : Addr) (kk : ClassId) (kh : ClassId) (kp : ClassId) (d0 : UInt64) (d1 : UInt64) (d2 : UInt64) (x0 : Int32) (x1 : Int32) (x2 : Int32) (y0 : Int32) (y1 : Int32) (y2 : Int32) (b0 : Bool) (b1 : Bool) (h0 : Heap) (n0 : Nat) (Z0 : n0 ≤ h0.size) (fi0 : Exa Z h0 a0 "com/example/octopoll/octopoll/PageHeap") (fi1 : Fld Z h0 a0 "com/example/octopoll/octopoll/PageHeap" "key" "[D" (.ref ka)) (fi2 : Fld Z h0 a0 "com/example/octopoll/octopoll/PageHeap" "heap" "[I" (.ref ha)) (fi3 : Fld Z h0 a0 "com/example/octopoll/octopoll/PageHeap" "position" "[I" (.ref pa)) (fi4 : Fld Z h0 a0 "com/example/octopoll/octopoll/PageHeap" "size" "I" (.int (own_cnt b0 b1 false))) (fi5 : Arv Z h0 ka kk .double (3 : Int32) [(.double d0), (.double d1), (.double d2)] (.double 0)) (fi6 : Arv Z h0 ha kh .int (3 : Int32) [(.int x0), (.int x1), (.int x2)] (.int (0 : Int32))) (fi7 : Arv Z h0 pa kp .int (3 : Int32) [(.int y0), (.int y1), (.int y2)] (.int (0 : Int32))) (g_a0 : n0 ≤ a0) (g_ha : n0 ≤ ha) (g_pa : n0 ≤ pa) (ne_a0_ha : a0 ≠ ha) (ne_a0_pa : a0 ≠ pa) (ne_ha_pa : ha ≠ pa) (ne_a0_ka : a0 ≠ ka) (ne_ka_ha : ka ≠ ha) (ne_ka_pa : ka ≠ pa) (hS : (x0, x1, x2, y0, y1, y2) ∈ own_S b0 b1 false) :
    MetFree l (⟨"com/example/octopoll/octopoll/PageHeap", "add", "(I)V"⟩ : MethodName) (head1 (Jvm.Cond.code (⟨"com/example/octopoll/octopoll/PageHeap", "add", "(I)V"⟩ : MethodName) prog_17_method_5_code 2 none :: ws) ({ frames := 2, cells := 0, slots := 0, locals := 30 } : Room)) (fun a U => a = #[(.ref a0), (.int (2 : Int32))] ∧ Z.Warmed39 U.vm ∧ U.heap = h0) (fun _ _ _ _ _ => True) (fun _ U o U' => ∃ v L, o = .returned v ∧ Q_add2 Z a0 ka ha pa kk kh kp d0 d1 d2 x0 x1 x2 y0 y1 y2 b0 b1 h0 n0 v U'.heap L ∧ FrameEnd U o U' L ({ frames := 2, cells := 0, slots := 0, locals := 30 } : Room).cells ({ frames := 2, cells := 0, slots := 0, locals := 30 } : Room).slots) := by
  refine MetFree.of_bodySF (plainFor_of_name pn_add2) hisR ?_
  intro p e s m args below meth c s₁ Bd hml0 hP hK
  obtain ⟨rfl, hZ, hh⟩ := hP
  have hx := Bd.exec
  have hby := Bd.bytes
  have hml : c.maxLocals = 2 := hml0
  have hown : s.vm.findClass "com/example/octopoll/octopoll/PageHeap" = some m.cls := findClass_of_methodNamed Bd.named
  have hnm := (name_of_methodNamed Bd.named Bd.method).1
  have X0 : Stand p l e ({ frames := 2, cells := 0, slots := 0, locals := 30 } : Room) s m #[(.ref a0), (.int (2 : Int32))] below meth c s₁ [] 0 0 := Stand.of_body Bd
  have e0 : s₁.heap = h0 := by rw [← hh, Bd.state]; rfl
  have N0 := Fr.nil n0
  have pre0 : Go p.tables e below (s₁.setTop (entryFrame m #[(.ref a0), (.int (2 : Int32))] 2)) s₁ (mkF m 0 #[.val (.ref a0), .val (.int (2 : Int32))] []) := fun t k => castTop (ef_add2 m a0) k
  have K0 : Keep h0 h0 [a0, ha, pa] := Keep.refl _ _
  have hR := own_rng b0 b1 false _ hS
  have pre1 : Go p.tables e below (s₁.setTop (entryFrame m #[(.ref a0), (.int (2 : Int32))] 2)) s₁ (mkF m 4 #[.val (.ref a0), .val (.int (2 : Int32))] [(.ref a0), (.ref a0), (.int (2 : Int32)), (.ref a0)]) := fun t k => pre0 t (by
      refine XS.aloadN X0.here hx rfl (hb hby d5_0) rfl rfl ?_
      show Steps p.tables e below (s₁.setTop (mkF m 1 #[.val (.ref a0), .val (.int (2 : Int32))] [(.ref a0)])) _
      refine XS.iloadN X0.here hx rfl (hb hby d5_1) rfl ?_
      show Steps p.tables e below (s₁.setTop (mkF m 2 #[.val (.ref a0), .val (.int (2 : Int32))] [(.int (2 : Int32)), (.ref a0)])) _
      refine XS.aloadN X0.here hx rfl (hb hby d5_2) rfl rfl ?_
      show Steps p.tables e below (s₁.setTop (mkF m 3 #[.val (.ref a0), .val (.int (2 : Int32))] [(.ref a0), (.int (2 : Int32)), (.ref a0)])) _
      refine XS.dup X0.here hx rfl (hb hby d5_3) rfl rfl ?_
      exact k)
  obtain ⟨T2, X2, e2, st2⟩ := getF X0 hx hZ hown (host := "") (Or.inl (hw _ (List.mem_of_getElem? (i := 26) rfl))) Via.refl e0 fi4 (g := (mkF m 4 #[.val (.ref a0), .val (.int (2 : Int32))] [(.ref a0), (.ref a0), (.int (2 : Int32)), (.ref a0)])) rfl rfl (hb hby d5_4)
  have pre2 : Go p.tables e below (s₁.setTop (entryFrame m #[(.ref a0), (.int (2 : Int32))] 2)) T2 (mkF m 7 #[.val (.ref a0), .val (.int (2 : Int32))] [(.int (own_cnt b0 b1 false)), (.ref a0), (.int (2 : Int32)), (.ref a0)]) := fun t k => pre1 t (st2 _ k)
  have pre3 : Go p.tables e below (s₁.setTop (entryFrame m #[(.ref a0), (.int (2 : Int32))] 2)) T2 (mkF m 10 #[.val (.ref a0), .val (.int (2 : Int32))] [(.int ((own_cnt b0 b1 false) + (1 : Int32))), (.ref a0), (.int (own_cnt b0 b1 false)), (.int (2 : Int32)), (.ref a0)]) := fun t k => pre2 t (by
      refine XS.dupX1 X2.here hx rfl (hb hby d5_7) rfl rfl rfl ?_
      show Steps p.tables e below (T2.setTop (mkF m 8 #[.val (.ref a0), .val (.int (2 : Int32))] [(.int (own_cnt b0 b1 false)), (.ref a0), (.int (own_cnt b0 b1 false)), (.int (2 : Int32)), (.ref a0)])) _
      refine XS.iconst X2.here hx rfl (hb hby d5_8) ?_
      show Steps p.tables e below (T2.setTop (mkF m 9 #[.val (.ref a0), .val (.int (2 : Int32))] [(.int (1 : Int32)), (.int (own_cnt b0 b1 false)), (.ref a0), (.int (own_cnt b0 b1 false)), (.int (2 : Int32)), (.ref a0)])) _
      refine XS.iadd X2.here hx rfl (hb hby d5_9) rfl ?_
      exact k)
  obtain ⟨T4, h4, X4, e4, W4, st4⟩ := putF X2 hx hZ hown (host := "") (Or.inl (hw _ (List.mem_of_getElem? (i := 26) rfl))) Via.refl e2 fi4 fi0 (Or.inl (hw _ (List.mem_of_getElem? (i := 27) rfl))) (hw _ (List.mem_of_getElem? (i := 2) rfl)) (ty := .int) (by decide) rfl rfl (g := (mkF m 10 #[.val (.ref a0), .val (.int (2 : Int32))] [(.int ((own_cnt b0 b1 false) + (1 : Int32))), (.ref a0), (.int (own_cnt b0 b1 false)), (.int (2 : Int32)), (.ref a0)])) rfl rfl (hb hby d5_10)
  have N4 := Fr.snoc X4 N0 g_a0
  have f5 : n0 ≤ h4.size := Nat.le_trans Z0 (Keep.of_wr W4).1
  have f6 : Exa Z h4 a0 "com/example/octopoll/octopoll/PageHeap" := fi0.wr W4
  have f7 : Fld Z h4 a0 "com/example/octopoll/octopoll/PageHeap" "key" "[D" (.ref ka) := fi1.other W4 (Or.inr (slot_ne (Or.inr (hw _ (List.mem_of_getElem? (i := 11) rfl))) (Or.inl (hw _ (List.mem_of_getElem? (i := 27) rfl))) (by decide) (t := (.array .double)) (t' := .int) (by decide) (by decide)))
  have f8 : Fld Z h4 a0 "com/example/octopoll/octopoll/PageHeap" "heap" "[I" (.ref ha) := fi2.other W4 (Or.inr (slot_ne (Or.inr (hw _ (List.mem_of_getElem? (i := 14) rfl))) (Or.inl (hw _ (List.mem_of_getElem? (i := 27) rfl))) (by decide) (t := (.array .int)) (t' := .int) (by decide) (by decide)))
  have f9 : Fld Z h4 a0 "com/example/octopoll/octopoll/PageHeap" "position" "[I" (.ref pa) := fi3.other W4 (Or.inr (slot_ne (Or.inr (hw _ (List.mem_of_getElem? (i := 16) rfl))) (Or.inl (hw _ (List.mem_of_getElem? (i := 27) rfl))) (by decide) (t := (.array .int)) (t' := .int) (by decide) (by decide)))
  have f10 : Fld Z h4 a0 "com/example/octopoll/octopoll/PageHeap" "size" "I" (.int ((own_cnt b0 b1 false) + (1 : Int32))) := fi4.same W4
  have f11 : Arv Z h4 ka kk .double (3 : Int32) [(.double d0), (.double d1), (.double d2)] (.double 0) := fi5.other W4 ne_a0_ka.symm
  have f12 : Arv Z h4 ha kh .int (3 : Int32) [(.int x0), (.int x1), (.int x2)] (.int (0 : Int32)) := fi6.other W4 ne_a0_ha.symm
  have f13 : Arv Z h4 pa kp .int (3 : Int32) [(.int y0), (.int y1), (.int y2)] (.int (0 : Int32)) := fi7.other W4 ne_a0_pa.symm
  have f14 : Keep h0 h4 [a0, ha, pa] := K0.wr W4 (Or.inl (List.mem_of_getElem? (i := 0) rfl))
  have pre4 : Go p.tables e below (s₁.setTop (entryFrame m #[(.ref a0), (.int (2 : Int32))] 2)) T4 (mkF m 13 #[.val (.ref a0), .val (.int (2 : Int32))] [(.int (own_cnt b0 b1 false)), (.int (2 : Int32)), (.ref a0)]) := fun t k => pre3 t (st4 _ k)
  obtain ⟨cq15, q15, q15'⟩ := f6.cell
  obtain ⟨_, _, ⟨T15, L15, k15, n15⟩, -, X15, ⟨Lc15, hQ15, l15, y15, z15⟩, st15⟩ := own_private X4 hx (y := (⟨"com/example/octopoll/octopoll/PageHeap", "place", "(II)V"⟩ : MethodName)) hown (mvT hZ (hw _ (List.mem_of_getElem? (i := 33) rfl))) (mvT hZ (hw _ (List.mem_of_getElem? (i := 34) rfl))) (mvT hZ (hw _ (List.mem_of_getElem? (i := 24) rfl))) rfl (Cond.privateMethod_at (mvP hZ (hw _ (List.mem_of_getElem? (i := 35) rfl)) (args := #[]))) (mvT hZ (hw _ (List.mem_of_getElem? (i := 36) rfl))) (by decide) (backOf (W := 0) (rm_plc l Z av0 hw [] a0 (2 : Int32) (own_cnt b0 b1 false) ha pa kh kp x0 x1 x2 y0 y1 y2 h4 n0 f5 f8 f9 f12 f13 g_ha g_pa ne_a0_ha ne_a0_pa ne_ha_pa (by decide) (own_ac2 b0 b1).1) hZ (hw _ (List.mem_of_getElem? (i := 36) rfl)) (hw _ (List.mem_of_getElem? (i := 3) rfl)) (by decide) (by decide)) (a := a0) (by rw [e4]; exact q15) q15' (g := (mkF m 13 #[.val (.ref a0), .val (.int (2 : Int32))] [(.int (own_cnt b0 b1 false)), (.int (2 : Int32)), (.ref a0)])) rfl (by rw [hml]; rfl) (argsL := [(.int (2 : Int32)), (.int (own_cnt b0 b1 false))]) (rest := []) (lenOf pd_0 rfl) rfl (by show 2 * 0 + _ ≤ _; exact Nat.le_of_eq rfl) (hb hby d5_13) (fun _ _ => ⟨rfl, e4, (by decide : 0 + 0 ≤ _), (by decide : 0 + 0 ≤ _)⟩)
  dsimp only [Pt.U, Pt.locs, Pt.cells, Pt.slots] at X15 l15 y15 z15 st15 hQ15
  subst l15 y15 z15
  obtain ⟨hv15, N15q, K15, fo15_0, fo15_1⟩ := hQ15
  have f16 : n0 ≤ T15.heap.size := Nat.le_trans f5 K15.1
  have f17 : Exa Z T15.heap a0 "com/example/octopoll/octopoll/PageHeap" := f6.keep K15
  have f18 : Fld Z T15.heap a0 "com/example/octopoll/octopoll/PageHeap" "key" "[D" (.ref ka) := f7.keep K15 (ninS ne_a0_ha (ninS ne_a0_pa nin0))
  have f19 : Fld Z T15.heap a0 "com/example/octopoll/octopoll/PageHeap" "heap" "[I" (.ref ha) := f8.keep K15 (ninS ne_a0_ha (ninS ne_a0_pa nin0))
  have f20 : Fld Z T15.heap a0 "com/example/octopoll/octopoll/PageHeap" "position" "[I" (.ref pa) := f9.keep K15 (ninS ne_a0_ha (ninS ne_a0_pa nin0))
  have f21 : Fld Z T15.heap a0 "com/example/octopoll/octopoll/PageHeap" "size" "I" (.int ((own_cnt b0 b1 false) + (1 : Int32))) := f10.keep K15 (ninS ne_a0_ha (ninS ne_a0_pa nin0))
  have f22 : Arv Z T15.heap ka kk .double (3 : Int32) [(.double d0), (.double d1), (.double d2)] (.double 0) := f11.keep K15 (ninS ne_ka_ha (ninS ne_ka_pa nin0))
  have f23 : Keep h0 T15.heap [a0, ha, pa] := f14.trans K15 (allS (Or.inl (List.mem_of_getElem? (i := 1) rfl)) (allS (Or.inl (List.mem_of_getElem? (i := 2) rfl)) all0))
  subst hv15
  have N15 := Fr.app N4 N15q
  have pre15 : Go p.tables e below (s₁.setTop (entryFrame m #[(.ref a0), (.int (2 : Int32))] 2)) T15 (mkF m 16 #[.val (.ref a0), .val (.int (2 : Int32))] []) := fun t k => pre4 t (st15 _ k)
  have pre24 : Go p.tables e below (s₁.setTop (entryFrame m #[(.ref a0), (.int (2 : Int32))] 2)) T15 (mkF m 18 #[.val (.ref a0), .val (.int (2 : Int32))] [(.ref a0), (.ref a0)]) := fun t k => pre15 t (by
      refine XS.aloadN X15.here hx rfl (hb hby d5_16) rfl rfl ?_
      show Steps p.tables e below (T15.setTop (mkF m 17 #[.val (.ref a0), .val (.int (2 : Int32))] [(.ref a0)])) _
      refine XS.aloadN X15.here hx rfl (hb hby d5_17) rfl rfl ?_
      exact k)
  obtain ⟨T25, X25, e25, st25⟩ := getF X15 hx hZ hown (host := "") (Or.inl (hw _ (List.mem_of_getElem? (i := 15) rfl))) Via.refl rfl f20 (g := (mkF m 18 #[.val (.ref a0), .val (.int (2 : Int32))] [(.ref a0), (.ref a0)])) rfl rfl (hb hby d5_18)
  have pre25 : Go p.tables e below (s₁.setTop (entryFrame m #[(.ref a0), (.int (2 : Int32))] 2)) T25 (mkF m 21 #[.val (.ref a0), .val (.int (2 : Int32))] [(.ref pa), (.ref a0)]) := fun t k => pre24 t (st25 _ k)
  have pre26 : Go p.tables e below (s₁.setTop (entryFrame m #[(.ref a0), (.int (2 : Int32))] 2)) T25 (mkF m 22 #[.val (.ref a0), .val (.int (2 : Int32))] [(.int (2 : Int32)), (.ref pa), (.ref a0)]) := fun t k => pre25 t (by
      refine XS.iloadN X25.here hx rfl (hb hby d5_21) rfl ?_
      exact k)
  obtain ⟨c27, Ar27, q27, S27, M27, H27, G27⟩ := (id fo15_1)
  have hin27 : ¬ ((2 : Int32) < 0 ∨ c27.slots.size ≤ ((2 : Int32)).toNatClampNeg) := inb_of S27 ⟨by decide, by decide⟩
  have pre27 : Go p.tables e below (s₁.setTop (entryFrame m #[(.ref a0), (.int (2 : Int32))] 2)) T25 (mkF m 23 #[.val (.ref a0), .val (.int (2 : Int32))] [(.int (own_cnt b0 b1 false)), (.ref a0)]) := fun t k => pre26 t (X25.iaload hx (j := (2 : Int32)) (v := (.int (own_cnt b0 b1 false))) (by rw [e25]; exact Ar27.1) (State.isArrayOf_alike hZ.alike Ar27.2.1) Ar27.2.2 hin27 (H27.at hin27 rfl) (g := (mkF m 22 #[.val (.ref a0), .val (.int (2 : Int32))] [(.int (2 : Int32)), (.ref pa), (.ref a0)])) rfl rfl (hb hby d5_22) _ k)
  obtain ⟨cq28, q28, q28'⟩ := f17.cell
  obtain ⟨_, _, ⟨T28, L28, k28, n28⟩, -, X28, ⟨Lc28, hQ28, l28, y28, z28⟩, st28⟩ := own_private X25 hx (y := (⟨"com/example/octopoll/octopoll/PageHeap", "siftUp", "(I)V"⟩ : MethodName)) hown (mvT hZ (hw _ (List.mem_of_getElem? (i := 37) rfl))) (mvT hZ (hw _ (List.mem_of_getElem? (i := 38) rfl))) (mvT hZ (hw _ (List.mem_of_getElem? (i := 24) rfl))) rfl (Cond.privateMethod_at (mvP hZ (hw _ (List.mem_of_getElem? (i := 39) rfl)) (args := #[]))) (mvT hZ (hw _ (List.mem_of_getElem? (i := 40) rfl))) (by decide) (backOf (W := 0) (rm_su l Z av0 hw [] a0 (own_cnt b0 b1 false) ka ha pa kk kh kp d0 d1 d2 (own_u 0 (own_cnt b0 b1 false) (2 : Int32) x0) (own_u 1 (own_cnt b0 b1 false) (2 : Int32) x1) (own_u 2 (own_cnt b0 b1 false) (2 : Int32) x2) y0 y1 (own_cnt b0 b1 false) T15.heap n0 f16 f17 f18 f19 f20 f22 fo15_0 fo15_1 g_ha g_pa ne_a0_ha ne_a0_pa ne_ha_pa ne_a0_ka ne_ka_ha ne_ka_pa (own_ur (by decide) hR.1) (own_ur (by decide) hR.2.1) (own_ur (by decide) hR.2.2) (own_ac2 b0 b1).1) hZ (hw _ (List.mem_of_getElem? (i := 40) rfl)) (hw _ (List.mem_of_getElem? (i := 3) rfl)) (by decide) (by decide)) (a := a0) (by rw [e25]; exact q28) q28' (g := (mkF m 23 #[.val (.ref a0), .val (.int (2 : Int32))] [(.int (own_cnt b0 b1 false)), (.ref a0)])) rfl (by rw [hml]; rfl) (argsL := [(.int (own_cnt b0 b1 false))]) (rest := []) (lenOf pd_2 rfl) rfl (by show 2 * 0 + _ ≤ _; exact Nat.le_of_eq rfl) (hb hby d5_23) (fun _ _ => ⟨rfl, e25, (by decide : 0 + 0 ≤ _), (by decide : 0 + 0 ≤ _)⟩)
  dsimp only [Pt.U, Pt.locs, Pt.cells, Pt.slots] at X28 l28 y28 z28 st28 hQ28
  subst l28 y28 z28
  obtain ⟨z028, z128, z228, z328, z428, z528, hv28, N28q, K28, fo28_0, fo28_1, po28_0⟩ := hQ28
  have f29 : n0 ≤ T28.heap.size := Nat.le_trans f16 K28.1
  have f30 : Exa Z T28.heap a0 "com/example/octopoll/octopoll/PageHeap" := f17.keep K28
  have f31 : Fld Z T28.heap a0 "com/example/octopoll/octopoll/PageHeap" "key" "[D" (.ref ka) := f18.keep K28 (ninS ne_a0_ha (ninS ne_a0_pa nin0))
  have f32 : Fld Z T28.heap a0 "com/example/octopoll/octopoll/PageHeap" "heap" "[I" (.ref ha) := f19.keep K28 (ninS ne_a0_ha (ninS ne_a0_pa nin0))
  have f33 : Fld Z T28.heap a0 "com/example/octopoll/octopoll/PageHeap" "position" "[I" (.ref pa) := f20.keep K28 (ninS ne_a0_ha (ninS ne_a0_pa nin0))
  have f34 : Fld Z T28.heap a0 "com/example/octopoll/octopoll/PageHeap" "size" "I" (.int ((own_cnt b0 b1 false) + (1 : Int32))) := f21.keep K28 (ninS ne_a0_ha (ninS ne_a0_pa nin0))
  have f35 : Arv Z T28.heap ka kk .double (3 : Int32) [(.double d0), (.double d1), (.double d2)] (.double 0) := f22.keep K28 (ninS ne_ka_ha (ninS ne_ka_pa nin0))
  have f36 : Keep h0 T28.heap [a0, ha, pa] := f23.trans K28 (allS (Or.inl (List.mem_of_getElem? (i := 1) rfl)) (allS (Or.inl (List.mem_of_getElem? (i := 2) rfl)) all0))
  subst hv28
  have N28 := Fr.app N15 N28q
  have pre28 : Go p.tables e below (s₁.setTop (entryFrame m #[(.ref a0), (.int (2 : Int32))] 2)) T28 (mkF m 26 #[.val (.ref a0), .val (.int (2 : Int32))] []) := fun t k => pre27 t (st28 _ k)
  obtain ⟨fs, hr, hrun, hended, hW, hsame⟩ := X28.leave (v := none) (fun _ => rfl) (BodyLoose.notSynchronized Bd)
  refine ⟨_, _, pre28 _ ?_, hrun, hended, _, _, rfl, ?_, ⟨_, rfl⟩, hW, hsame.mono (Nat.le_of_ble_eq_true rfl) (Nat.le_of_ble_eq_true rfl)⟩
  · exact X28.returnOut hx Bd.returns (hb hby d5_26) hr
  · show Q_add2 Z a0 ka ha pa kk kh kp d0 d1 d2 x0 x1 x2 y0 y1 y2 b0 b1 h0 n0 _ T28.heap _
    have fsz := f34
    rw [(own_ac2 b0 b1).2] at fsz
    exact ⟨z028, z128, z228, z328, z428, z528, rfl, N28, f36, f30, f31, f32, f33, fsz, fo28_0, fo28_1, (own_memU (own_a2 b0 b1 _ hS) po28_0)⟩
theorem pn_rem2 : plainName "com/example/octopoll/octopoll/PageHeap" = true := by first | (simp [plainName, overriddenIn]; done) | decide +kernel
theorem ef_rem2 (m : MethodId) (a0 : Addr) : entryFrame m #[(.ref a0), (.int (2 : Int32))] 4 = mkF m 0 #[.val (.ref a0), .val (.int (2 : Int32)), .unset, .unset] [] := by first | (simp [entryFrame, mkF, argsToLocals, Value.category]; done) | rfl
def Q_rem2 (Z : State) (a0 : Addr) (ka : Addr) (ha : Addr) (pa : Addr) (kk : ClassId) (kh : ClassId) (kp : ClassId) (d0 : UInt64) (d1 : UInt64) (d2 : UInt64) (x0 : Int32) (x1 : Int32) (x2 : Int32) (y0 : Int32) (y1 : Int32) (y2 : Int32) (b0 : Bool) (b1 : Bool) (h0 : Heap) (n0 : Nat) (v : Option Value) (h : Heap) (L : List Loc) : Prop := ∃ (z0 : Int32) (z1 : Int32) (z2 : Int32) (z3 : Int32) (z4 : Int32) (z5 : Int32), v = none ∧ Fr n0 L ∧ Keep h0 h [a0, ha, pa] ∧ Exa Z h a0 "com/example/octopoll/octopoll/PageHeap" ∧ Fld Z h a0 "com/example/octopoll/octopoll/PageHeap" "key" "[D" (.ref ka) ∧ Fld Z h a0 "com/example/octopoll/octopoll/PageHeap" "heap" "[I" (.ref ha) ∧ Fld Z h a0 "com/example/octopoll/octopoll/PageHeap" "position" "[I" (.ref pa) ∧ Fld Z h a0 "com/example/octopoll/octopoll/PageHeap" "size" "I" (.int (own_cnt b0 b1 false)) ∧ Arv Z h ha kh .int (3 : Int32) [(.int z0), (.int z1), (.int z2)] (.int (0 : Int32)) ∧ Arv Z h pa kp .int (3 : Int32) [(.int z3), (.int z4), (.int z5)] (.int (0 : Int32)) ∧ (z0, z1, z2, z3, z4, z5) ∈ own_S b0 b1 false
set_option maxRecDepth 65536 in
set_option maxHeartbeats 40000000 in
theorem rm_rem2 (l : Launch) (Z : State) (av0 : Array Value) (hw : ∀ d ∈ tables_1, d.before av0 Z = true) (ws : List Jvm.Cond) (a0 : Addr) (ka : Addr) (ha : Addr) (pa : Addr) (kk : ClassId) (kh : ClassId) (kp : ClassId) (d0 : UInt64) (d1 : UInt64) (d2 : UInt64) (x0 : Int32) (x1 : Int32) (x2 : Int32) (y0 : Int32) (y1 : Int32) (y2 : Int32) (b0 : Bool) (b1 : Bool) (h0 : Heap) (n0 : Nat) (Z0 : n0 ≤ h0.size) (fi0 : Exa Z h0 a0 "com/example/octopoll/octopoll/PageHeap") (fi1 : Fld Z h0 a0 "com/example/octopoll/octopoll/PageHeap" "key" "[D" (.ref ka)) (fi2 : Fld Z h0 a0 "com/example/octopoll/octopoll/PageHeap" "heap" "[I" (.ref ha)) (fi3 : Fld Z h0 a0 "com/example/octopoll/octopoll/PageHeap" "position" "[I" (.ref pa)) (fi4 : Fld Z h0 a0 "com/example/octopoll/octopoll/PageHeap" "size" "I" (.int (own_cnt b0 b1 true))) (fi5 : Arv Z h0 ka kk .double (3 : Int32) [(.double d0), (.double d1), (.double d2)] (.double 0)) (fi6 : Arv Z h0 ha kh .int (3 : Int32) [(.int x0), (.int x1), (.int x2)] (.int (0 : Int32))) (fi7 : Arv Z h0 pa kp .int (3 : Int32) [(.int y0), (.int y1), (.int y2)] (.int (0 : Int32))) (g_a0 : n0 ≤ a0) (g_ha : n0 ≤ ha) (g_pa : n0 ≤ pa) (ne_a0_ha : a0 ≠ ha) (ne_a0_pa : a0 ≠ pa) (ne_ha_pa : ha ≠ pa) (ne_a0_ka : a0 ≠ ka) (ne_ka_ha : ka ≠ ha) (ne_ka_pa : ka ≠ pa) (hS : (x0, x1, x2, y0, y1, y2) ∈ own_S b0 b1 true) :
    MetFree l (⟨"com/example/octopoll/octopoll/PageHeap", "remove", "(I)V"⟩ : MethodName) (head1 (Jvm.Cond.code (⟨"com/example/octopoll/octopoll/PageHeap", "remove", "(I)V"⟩ : MethodName) prog_17_method_7_code 4 none :: ws) ({ frames := 2, cells := 0, slots := 0, locals := 31 } : Room)) (fun a U => a = #[(.ref a0), (.int (2 : Int32))] ∧ Z.Warmed39 U.vm ∧ U.heap = h0) (fun _ _ _ _ _ => True) (fun _ U o U' => ∃ v L, o = .returned v ∧ Q_rem2 Z a0 ka ha pa kk kh kp d0 d1 d2 x0 x1 x2 y0 y1 y2 b0 b1 h0 n0 v U'.heap L ∧ FrameEnd U o U' L ({ frames := 2, cells := 0, slots := 0, locals := 31 } : Room).cells ({ frames := 2, cells := 0, slots := 0, locals := 31 } : Room).slots) := by
  refine MetFree.of_bodySF (plainFor_of_name pn_rem2) hisR ?_
  intro p e s m args below meth c s₁ Bd hml0 hP hK
  obtain ⟨rfl, hZ, hh⟩ := hP
  have hx := Bd.exec
  have hby := Bd.bytes
  have hml : c.maxLocals = 4 := hml0
  have hown : s.vm.findClass "com/example/octopoll/octopoll/PageHeap" = some m.cls := findClass_of_methodNamed Bd.named
  have hnm := (name_of_methodNamed Bd.named Bd.method).1
  have X0 : Stand p l e ({ frames := 2, cells := 0, slots := 0, locals := 31 } : Room) s m #[(.ref a0), (.int (2 : Int32))] below meth c s₁ [] 0 0 := Stand.of_body Bd
  have e0 : s₁.heap = h0 := by rw [← hh, Bd.state]; rfl
  have N0 := Fr.nil n0
  have pre0 : Go p.tables e below (s₁.setTop (entryFrame m #[(.ref a0), (.int (2 : Int32))] 4)) s₁ (mkF m 0 #[.val (.ref a0), .val (.int (2 : Int32)), .unset, .unset] []) := fun t k => castTop (ef_rem2 m a0) k
  have K0 : Keep h0 h0 [a0, ha, pa] := Keep.refl _ _
  have hR := own_rng b0 b1 true _ hS
  have pre1 : Go p.tables e below (s₁.setTop (entryFrame m #[(.ref a0), (.int (2 : Int32))] 4)) s₁ (mkF m 1 #[.val (.ref a0), .val (.int (2 : Int32)), .unset, .unset] [(.ref a0)]) := fun t k => pre0 t (by
      refine XS.aloadN X0.here hx rfl (hb hby d9_0) rfl rfl ?_
      exact k)
  obtain ⟨T2, X2, e2, st2⟩ := getF X0 hx hZ hown (host := "") (Or.inl (hw _ (List.mem_of_getElem? (i := 15) rfl))) Via.refl e0 fi3 (g := (mkF m 1 #[.val (.ref a0), .val (.int (2 : Int32)), .unset, .unset] [(.ref a0)])) rfl rfl (hb hby d9_1)
  have pre2 : Go p.tables e below (s₁.setTop (entryFrame m #[(.ref a0), (.int (2 : Int32))] 4)) T2 (mkF m 4 #[.val (.ref a0), .val (.int (2 : Int32)), .unset, .unset] [(.ref pa)]) := fun t k => pre1 t (st2 _ k)
  have pre3 : Go p.tables e below (s₁.setTop (entryFrame m #[(.ref a0), (.int (2 : Int32))] 4)) T2 (mkF m 5 #[.val (.ref a0), .val (.int (2 : Int32)), .unset, .unset] [(.int (2 : Int32)), (.ref pa)]) := fun t k => pre2 t (by
      refine XS.iloadN X2.here hx rfl (hb hby d9_4) rfl ?_
      exact k)
  obtain ⟨c4, Ar4, q4, S4, M4, H4, G4⟩ := (id fi7)
  have hin4 : ¬ ((2 : Int32) < 0 ∨ c4.slots.size ≤ ((2 : Int32)).toNatClampNeg) := inb_of S4 ⟨by decide, by decide⟩
  have pre4 : Go p.tables e below (s₁.setTop (entryFrame m #[(.ref a0), (.int (2 : Int32))] 4)) T2 (mkF m 6 #[.val (.ref a0), .val (.int (2 : Int32)), .unset, .unset] [(.int y2)]) := fun t k => pre3 t (X2.iaload hx (j := (2 : Int32)) (v := (.int y2)) (by rw [e2]; exact Ar4.1) (State.isArrayOf_alike hZ.alike Ar4.2.1) Ar4.2.2 hin4 (H4.at hin4 rfl) (g := (mkF m 5 #[.val (.ref a0), .val (.int (2 : Int32)), .unset, .unset] [(.int (2 : Int32)), (.ref pa)])) rfl rfl (hb hby d9_5) _ k)
  have pre5 : Go p.tables e below (s₁.setTop (entryFrame m #[(.ref a0), (.int (2 : Int32))] 4)) T2 (mkF m 8 #[.val (.ref a0), .val (.int (2 : Int32)), .val (.int y2), .unset] [(.ref a0)]) := fun t k => pre4 t (by
      refine XS.istoreN X2.here hx rfl (hb hby d9_6) rfl (l' := #[.val (.ref a0), .val (.int (2 : Int32)), .val (.int y2), .unset]) rfl ?_
      show Steps p.tables e below (T2.setTop (mkF m 7 #[.val (.ref a0), .val (.int (2 : Int32)), .val (.int y2), .unset] [])) _
      refine XS.aloadN X2.here hx rfl (hb hby d9_7) rfl rfl ?_
      exact k)
  obtain ⟨T6, X6, e6, st6⟩ := getF X2 hx hZ hown (host := "") (Or.inl (hw _ (List.mem_of_getElem? (i := 13) rfl))) Via.refl e2 fi2 (g := (mkF m 8 #[.val (.ref a0), .val (.int (2 : Int32)), .val (.int y2), .unset] [(.ref a0)])) rfl rfl (hb hby d9_8)
  have pre6 : Go p.tables e below (s₁.setTop (entryFrame m #[(.ref a0), (.int (2 : Int32))] 4)) T6 (mkF m 11 #[.val (.ref a0), .val (.int (2 : Int32)), .val (.int y2), .unset] [(.ref ha)]) := fun t k => pre5 t (st6 _ k)
  have pre7 : Go p.tables e below (s₁.setTop (entryFrame m #[(.ref a0), (.int (2 : Int32))] 4)) T6 (mkF m 13 #[.val (.ref a0), .val (.int (2 : Int32)), .val (.int y2), .unset] [(.ref a0), (.ref a0), (.ref ha)]) := fun t k => pre6 t (by
      refine XS.aloadN X6.here hx rfl (hb hby d9_11) rfl rfl ?_
      show Steps p.tables e below (T6.setTop (mkF m 12 #[.val (.ref a0), .val (.int (2 : Int32)), .val (.int y2), .unset] [(.ref a0), (.ref ha)])) _
      refine XS.dup X6.here hx rfl (hb hby d9_12) rfl rfl ?_
      exact k)
  obtain ⟨T8, X8, e8, st8⟩ := getF X6 hx hZ hown (host := "") (Or.inl (hw _ (List.mem_of_getElem? (i := 26) rfl))) Via.refl e6 fi4 (g := (mkF m 13 #[.val (.ref a0), .val (.int (2 : Int32)), .val (.int y2), .unset] [(.ref a0), (.ref a0), (.ref ha)])) rfl rfl (hb hby d9_13)
  have pre8 : Go p.tables e below (s₁.setTop (entryFrame m #[(.ref a0), (.int (2 : Int32))] 4)) T8 (mkF m 16 #[.val (.ref a0), .val (.int (2 : Int32)), .val (.int y2), .unset] [(.int (own_cnt b0 b1 true)), (.ref a0), (.ref ha)]) := fun t k => pre7 t (st8 _ k)
  have pre9 : Go p.tables e below (s₁.setTop (entryFrame m #[(.ref a0), (.int (2 : Int32))] 4)) T8 (mkF m 19 #[.val (.ref a0), .val (.int (2 : Int32)), .val (.int y2), .unset] [(.int ((own_cnt b0 b1 true) - (1 : Int32))), (.ref a0), (.int ((own_cnt b0 b1 true) - (1 : Int32))), (.ref ha)]) := fun t k => pre8 t (by
      refine XS.iconst X8.here hx rfl (hb hby d9_16) ?_
      show Steps p.tables e below (T8.setTop (mkF m 17 #[.val (.ref a0), .val (.int (2 : Int32)), .val (.int y2), .unset] [(.int (1 : Int32)), (.int (own_cnt b0 b1 true)), (.ref a0), (.ref ha)])) _
      refine XS.isub X8.here hx rfl (hb hby d9_17) rfl ?_
      show Steps p.tables e below (T8.setTop (mkF m 18 #[.val (.ref a0), .val (.int (2 : Int32)), .val (.int y2), .unset] [(.int ((own_cnt b0 b1 true) - (1 : Int32))), (.ref a0), (.ref ha)])) _
      refine XS.dupX1 X8.here hx rfl (hb hby d9_18) rfl rfl rfl ?_
      exact k)
  obtain ⟨T10, h10, X10, e10, W10, st10⟩ := putF X8 hx hZ hown (host := "") (Or.inl (hw _ (List.mem_of_getElem? (i := 26) rfl))) Via.refl e8 fi4 fi0 (Or.inl (hw _ (List.mem_of_getElem? (i := 27) rfl))) (hw _ (List.mem_of_getElem? (i := 2) rfl)) (ty := .int) (by decide) rfl rfl (g := (mkF m 19 #[.val (.ref a0), .val (.int (2 : Int32)), .val (.int y2), .unset] [(.int ((own_cnt b0 b1 true) - (1 : Int32))), (.ref a0), (.int ((own_cnt b0 b1 true) - (1 : Int32))), (.ref ha)])) rfl rfl (hb hby d9_19)
  have N10 := Fr.snoc X10 N0 g_a0
  have f11 : n0 ≤ h10.size := Nat.le_trans Z0 (Keep.of_wr W10).1
  have f12 : Exa Z h10 a0 "com/example/octopoll/octopoll/PageHeap" := fi0.wr W10
  have f13 : Fld Z h10 a0 "com/example/octopoll/octopoll/PageHeap" "key" "[D" (.ref ka) := fi1.other W10 (Or.inr (slot_ne (Or.inr (hw _ (List.mem_of_getElem? (i := 11) rfl))) (Or.inl (hw _ (List.mem_of_getElem? (i := 27) rfl))) (by decide) (t := (.array .double)) (t' := .int) (by decide) (by decide)))
  have f14 : Fld Z h10 a0 "com/example/octopoll/octopoll/PageHeap" "heap" "[I" (.ref ha) := fi2.other W10 (Or.inr (slot_ne (Or.inr (hw _ (List.mem_of_getElem? (i := 14) rfl))) (Or.inl (hw _ (List.mem_of_getElem? (i := 27) rfl))) (by decide) (t := (.array .int)) (t' := .int) (by decide) (by decide)))
  have f15 : Fld Z h10 a0 "com/example/octopoll/octopoll/PageHeap" "position" "[I" (.ref pa) := fi3.other W10 (Or.inr (slot_ne (Or.inr (hw _ (List.mem_of_getElem? (i := 16) rfl))) (Or.inl (hw _ (List.mem_of_getElem? (i := 27) rfl))) (by decide) (t := (.array .int)) (t' := .int) (by decide) (by decide)))
  have f16 : Fld Z h10 a0 "com/example/octopoll/octopoll/PageHeap" "size" "I" (.int ((own_cnt b0 b1 true) - (1 : Int32))) := fi4.same W10
  have f17 : Arv Z h10 ka kk .double (3 : Int32) [(.double d0), (.double d1), (.double d2)] (.double 0) := fi5.other W10 ne_a0_ka.symm
  have f18 : Arv Z h10 ha kh .int (3 : Int32) [(.int x0), (.int x1), (.int x2)] (.int (0 : Int32)) := fi6.other W10 ne_a0_ha.symm
  have f19 : Arv Z h10 pa kp .int (3 : Int32) [(.int y0), (.int y1), (.int y2)] (.int (0 : Int32)) := fi7.other W10 ne_a0_pa.symm
  have f20 : Keep h0 h10 [a0, ha, pa] := K0.wr W10 (Or.inl (List.mem_of_getElem? (i := 0) rfl))
  have pre10 : Go p.tables e below (s₁.setTop (entryFrame m #[(.ref a0), (.int (2 : Int32))] 4)) T10 (mkF m 22 #[.val (.ref a0), .val (.int (2 : Int32)), .val (.int y2), .unset] [(.int ((own_cnt b0 b1 true) - (1 : Int32))), (.ref ha)]) := fun t k => pre9 t (st10 _ k)
  obtain ⟨c21, Ar21, q21, S21, M21, H21, G21⟩ := (id f18)
  have hin21 : ¬ (((own_cnt b0 b1 true) - (1 : Int32)) < 0 ∨ c21.slots.size ≤ (((own_cnt b0 b1 true) - (1 : Int32))).toNatClampNeg) := inb_of S21 (own_rc2 b0 b1).1
  have pre21 : Go p.tables e below (s₁.setTop (entryFrame m #[(.ref a0), (.int (2 : Int32))] 4)) T10 (mkF m 23 #[.val (.ref a0), .val (.int (2 : Int32)), .val (.int y2), .unset] [(.int (own_g ((own_cnt b0 b1 true) - (1 : Int32)) x0 x1 x2))]) := fun t k => pre10 t (X10.iaload hx (j := ((own_cnt b0 b1 true) - (1 : Int32))) (v := (.int (own_g ((own_cnt b0 b1 true) - (1 : Int32)) x0 x1 x2))) (by rw [e10]; exact Ar21.1) (State.isArrayOf_alike hZ.alike Ar21.2.1) Ar21.2.2 hin21 (H21.at hin21 (own_get (own_rc2 b0 b1).1)) (g := (mkF m 22 #[.val (.ref a0), .val (.int (2 : Int32)), .val (.int y2), .unset] [(.int ((own_cnt b0 b1 true) - (1 : Int32))), (.ref ha)])) rfl rfl (hb hby d9_22) _ k)
  obtain ⟨w22, hw22⟩ : ∃ z : Int32, z = (own_g ((own_cnt b0 b1 true) - (1 : Int32)) x0 x1 x2) := ⟨_, rfl⟩
  have pre23 : Go p.tables e below (s₁.setTop (entryFrame m #[(.ref a0), (.int (2 : Int32))] 4)) T10 (mkF m 25 #[.val (.ref a0), .val (.int (2 : Int32)), .val (.int y2), .val (.int w22)] [(.ref a0)]) := fun t k => pre21 t (by
      refine XS.istoreN X10.here hx rfl (x := w22) (rest := []) (hb hby d9_23) (by subst hw22; rfl) (l' := #[.val (.ref a0), .val (.int (2 : Int32)), .val (.int y2), .val (.int w22)]) rfl ?_
      show Steps p.tables e below (T10.setTop (mkF m 24 #[.val (.ref a0), .val (.int (2 : Int32)), .val (.int y2), .val (.int w22)] [])) _
      refine XS.aloadN X10.here hx rfl (hb hby d9_24) rfl rfl ?_
      exact k)
  obtain ⟨T24, X24, e24, st24⟩ := getF X10 hx hZ hown (host := "") (Or.inl (hw _ (List.mem_of_getElem? (i := 15) rfl))) Via.refl e10 f15 (g := (mkF m 25 #[.val (.ref a0), .val (.int (2 : Int32)), .val (.int y2), .val (.int w22)] [(.ref a0)])) rfl rfl (hb hby d9_25)
  have pre24 : Go p.tables e below (s₁.setTop (entryFrame m #[(.ref a0), (.int (2 : Int32))] 4)) T24 (mkF m 28 #[.val (.ref a0), .val (.int (2 : Int32)), .val (.int y2), .val (.int w22)] [(.ref pa)]) := fun t k => pre23 t (st24 _ k)
  have pre25 : Go p.tables e below (s₁.setTop (entryFrame m #[(.ref a0), (.int (2 : Int32))] 4)) T24 (mkF m 30 #[.val (.ref a0), .val (.int (2 : Int32)), .val (.int y2), .val (.int w22)] [(.int (-1 : Int32)), (.int (2 : Int32)), (.ref pa)]) := fun t k => pre24 t (by
      refine XS.iloadN X24.here hx rfl (hb hby d9_28) rfl ?_
      show Steps p.tables e below (T24.setTop (mkF m 29 #[.val (.ref a0), .val (.int (2 : Int32)), .val (.int y2), .val (.int w22)] [(.int (2 : Int32)), (.ref pa)])) _
      refine XS.iconst X24.here hx rfl (hb hby d9_29) ?_
      exact k)
  obtain ⟨c26, Ar26, q26, S26, M26, H26, G26⟩ := (id f19)
  have hin26 : ¬ ((2 : Int32) < 0 ∨ c26.slots.size ≤ ((2 : Int32)).toNatClampNeg) := inb_of S26 ⟨by decide, by decide⟩
  obtain ⟨T26, h26, X26, e26, W26, st26⟩ := stI X24 hx hZ e24 Ar26 (j := (2 : Int32)) hin26 (g := (mkF m 30 #[.val (.ref a0), .val (.int (2 : Int32)), .val (.int y2), .val (.int w22)] [(.int (-1 : Int32)), (.int (2 : Int32)), (.ref pa)])) rfl rfl (hb hby d9_30)
  have fa26 : Arv Z h26 pa kp .int (3 : Int32) [(.int y0), (.int y1), (.int (-1 : Int32))] (.int (0 : Int32)) := Arv.set Ar26 q26 S26 M26 H26 G26 rfl W26 2 rfl (Nat.le_of_ble_eq_true rfl)
  have N26 := Fr.snoc X26 N10 g_pa
  have f27 : n0 ≤ h26.size := Nat.le_trans f11 (Keep.of_wr W26).1
  have f28 : Exa Z h26 a0 "com/example/octopoll/octopoll/PageHeap" := f12.wr W26
  have f29 : Fld Z h26 a0 "com/example/octopoll/octopoll/PageHeap" "key" "[D" (.ref ka) := f13.other W26 (Or.inl ne_a0_pa)
  have f30 : Fld Z h26 a0 "com/example/octopoll/octopoll/PageHeap" "heap" "[I" (.ref ha) := f14.other W26 (Or.inl ne_a0_pa)
  have f31 : Fld Z h26 a0 "com/example/octopoll/octopoll/PageHeap" "position" "[I" (.ref pa) := f15.other W26 (Or.inl ne_a0_pa)
  have f32 : Fld Z h26 a0 "com/example/octopoll/octopoll/PageHeap" "size" "I" (.int ((own_cnt b0 b1 true) - (1 : Int32))) := f16.other W26 (Or.inl ne_a0_pa)
  have f33 : Arv Z h26 ka kk .double (3 : Int32) [(.double d0), (.double d1), (.double d2)] (.double 0) := f17.other W26 ne_ka_pa
  have f34 : Arv Z h26 ha kh .int (3 : Int32) [(.int x0), (.int x1), (.int x2)] (.int (0 : Int32)) := f18.other W26 ne_ha_pa
  have f35 : Keep h0 h26 [a0, ha, pa] := f20.wr W26 (Or.inl (List.mem_of_getElem? (i := 2) rfl))
  have pre26 : Go p.tables e below (s₁.setTop (entryFrame m #[(.ref a0), (.int (2 : Int32))] 4)) T26 (mkF m 31 #[.val (.ref a0), .val (.int (2 : Int32)), .val (.int y2), .val (.int w22)] []) := fun t k => pre25 t (st26 _ k)
  have pre36 : Go p.tables e below (s₁.setTop (entryFrame m #[(.ref a0), (.int (2 : Int32))] 4)) T26 (mkF m 33 #[.val (.ref a0), .val (.int (2 : Int32)), .val (.int y2), .val (.int w22)] [(.int (2 : Int32)), (.int w22)]) := fun t k => pre26 t (by
      refine XS.iloadN X26.here hx rfl (hb hby d9_31) rfl ?_
      show Steps p.tables e below (T26.setTop (mkF m 32 #[.val (.ref a0), .val (.int (2 : Int32)), .val (.int y2), .val (.int w22)] [(.int w22)])) _
      refine XS.iloadN X26.here hx rfl (hb hby d9_32) rfl ?_
      exact k)
  by_cases hc37 : w22 = (2 : Int32)
  · -- hc37: True
    have pre38 : Go p.tables e below (s₁.setTop (entryFrame m #[(.ref a0), (.int (2 : Int32))] 4)) T26 (mkF m 57 #[.val (.ref a0), .val (.int (2 : Int32)), .val (.int y2), .val (.int w22)] []) := fun t k => pre36 t (by
        refine XS.icmpYes X26.here hx rfl (pc0 := 33) (pc' := 57) rfl (hb hby d9_33) rfl (teq hc37).1 (by decide) (by decide) ?_
        exact k)
    obtain ⟨fs, hr, hrun, hended, hW, hsame⟩ := X26.leave (v := none) (fun _ => rfl) (BodyLoose.notSynchronized Bd)
    refine ⟨_, _, pre38 _ ?_, hrun, hended, _, _, rfl, ?_, ⟨_, rfl⟩, hW, hsame.mono (Nat.le_of_ble_eq_true rfl) (Nat.le_of_ble_eq_true rfl)⟩
    · exact X26.returnOut hx Bd.returns (hb hby d9_57) hr
    · show Q_rem2 Z a0 ka ha pa kk kh kp d0 d1 d2 x0 x1 x2 y0 y1 y2 b0 b1 h0 n0 _ T26.heap _
      rw [e26]
      have fsz := f32
      rw [(own_rc2 b0 b1).2] at fsz
      have hM : (x0, x1, x2, y0, y1, (-1 : Int32)) ∈ own_S b0 b1 false := own_re2 b0 b1 _ hS (hw22.symm.trans hc37)
      exact ⟨x0, x1, x2, y0, y1, (-1 : Int32), rfl, N26, f35, f28, f29, f30, f31, fsz, f34, fa26, hM⟩
  · -- hc37: False
    have pre39 : Go p.tables e below (s₁.setTop (entryFrame m #[(.ref a0), (.int (2 : Int32))] 4)) T26 (mkF m 36 #[.val (.ref a0), .val (.int (2 : Int32)), .val (.int y2), .val (.int w22)] []) := fun t k => pre36 t (by
        refine XS.icmpNo X26.here hx rfl (hb hby d9_33) rfl (feq hc37).1 ?_
        exact k)
    have hbw : own_bd w22 := by rw [hw22]; exact own_gr hR.1 hR.2.1 hR.2.2
    have hne := fun q => hc37 (hw22.trans q)
    have pre40 : Go p.tables e below (s₁.setTop (entryFrame m #[(.ref a0), (.int (2 : Int32))] 4)) T26 (mkF m 39 #[.val (.ref a0), .val (.int (2 : Int32)), .val (.int y2), .val (.int w22)] [(.int y2), (.int w22), (.ref a0)]) := fun t k => pre39 t (by
        refine XS.aloadN X26.here hx rfl (hb hby d9_36) rfl rfl ?_
        show Steps p.tables e below (T26.setTop (mkF m 37 #[.val (.ref a0), .val (.int (2 : Int32)), .val (.int y2), .val (.int w22)] [(.ref a0)])) _
        refine XS.iloadN X26.here hx rfl (hb hby d9_37) rfl ?_
        show Steps p.tables e below (T26.setTop (mkF m 38 #[.val (.ref a0), .val (.int (2 : Int32)), .val (.int y2), .val (.int w22)] [(.int w22), (.ref a0)])) _
        refine XS.iloadN X26.here hx rfl (hb hby d9_38) rfl ?_
        exact k)
    obtain ⟨cq41, q41, q41'⟩ := f28.cell
    obtain ⟨_, _, ⟨T41, L41, k41, n41⟩, -, X41, ⟨Lc41, hQ41, l41, y41, z41⟩, st41⟩ := own_private X26 hx (y := (⟨"com/example/octopoll/octopoll/PageHeap", "place", "(II)V"⟩ : MethodName)) hown (mvT hZ (hw _ (List.mem_of_getElem? (i := 33) rfl))) (mvT hZ (hw _ (List.mem_of_getElem? (i := 34) rfl))) (mvT hZ (hw _ (List.mem_of_getElem? (i := 24) rfl))) rfl (Cond.privateMethod_at (mvP hZ (hw _ (List.mem_of_getElem? (i := 35) rfl)) (args := #[]))) (mvT hZ (hw _ (List.mem_of_getElem? (i := 36) rfl))) (by decide) (backOf (W := 0) (rm_plc l Z av0 hw [] a0 w22 y2 ha pa kh kp x0 x1 x2 y0 y1 (-1 : Int32) h26 n0 f27 f30 f31 f34 fa26 g_ha g_pa ne_a0_ha ne_a0_pa ne_ha_pa hbw (own_ry2 b0 b1 _ hS)) hZ (hw _ (List.mem_of_getElem? (i := 36) rfl)) (hw _ (List.mem_of_getElem? (i := 3) rfl)) (by decide) (by decide)) (a := a0) (by rw [e26]; exact q41) q41' (g := (mkF m 39 #[.val (.ref a0), .val (.int (2 : Int32)), .val (.int y2), .val (.int w22)] [(.int y2), (.int w22), (.ref a0)])) rfl (by rw [hml]; rfl) (argsL := [(.int w22), (.int y2)]) (rest := []) (lenOf pd_0 rfl) rfl (by show 2 * 0 + _ ≤ _; exact Nat.le_of_eq rfl) (hb hby d9_39) (fun _ _ => ⟨rfl, e26, (by decide : 0 + 0 ≤ _), (by decide : 0 + 0 ≤ _)⟩)
    dsimp only [Pt.U, Pt.locs, Pt.cells, Pt.slots] at X41 l41 y41 z41 st41 hQ41
    subst l41 y41 z41
    obtain ⟨hv41, N41q, K41, fo41_0, fo41_1⟩ := hQ41
    have f42 : n0 ≤ T41.heap.size := Nat.le_trans f27 K41.1
    have f43 : Exa Z T41.heap a0 "com/example/octopoll/octopoll/PageHeap" := f28.keep K41
    have f44 : Fld Z T41.heap a0 "com/example/octopoll/octopoll/PageHeap" "key" "[D" (.ref ka) := f29.keep K41 (ninS ne_a0_ha (ninS ne_a0_pa nin0))
    have f45 : Fld Z T41.heap a0 "com/example/octopoll/octopoll/PageHeap" "heap" "[I" (.ref ha) := f30.keep K41 (ninS ne_a0_ha (ninS ne_a0_pa nin0))
    have f46 : Fld Z T41.heap a0 "com/example/octopoll/octopoll/PageHeap" "position" "[I" (.ref pa) := f31.keep K41 (ninS ne_a0_ha (ninS ne_a0_pa nin0))
    have f47 : Fld Z T41.heap a0 "com/example/octopoll/octopoll/PageHeap" "size" "I" (.int ((own_cnt b0 b1 true) - (1 : Int32))) := f32.keep K41 (ninS ne_a0_ha (ninS ne_a0_pa nin0))
    have f48 : Arv Z T41.heap ka kk .double (3 : Int32) [(.double d0), (.double d1), (.double d2)] (.double 0) := f33.keep K41 (ninS ne_ka_ha (ninS ne_ka_pa nin0))
    have f49 : Keep h0 T41.heap [a0, ha, pa] := f35.trans K41 (allS (Or.inl (List.mem_of_getElem? (i := 1) rfl)) (allS (Or.inl (List.mem_of_getElem? (i := 2) rfl)) all0))
    subst hv41
    have N41 := Fr.app N26 N41q
    have pre41 : Go p.tables e below (s₁.setTop (entryFrame m #[(.ref a0), (.int (2 : Int32))] 4)) T41 (mkF m 42 #[.val (.ref a0), .val (.int (2 : Int32)), .val (.int y2), .val (.int w22)] []) := fun t k => pre40 t (st41 _ k)
    have pre50 : Go p.tables e below (s₁.setTop (entryFrame m #[(.ref a0), (.int (2 : Int32))] 4)) T41 (mkF m 44 #[.val (.ref a0), .val (.int (2 : Int32)), .val (.int y2), .val (.int w22)] [(.int y2), (.ref a0)]) := fun t k => pre41 t (by
        refine XS.aloadN X41.here hx rfl (hb hby d9_42) rfl rfl ?_
        show Steps p.tables e below (T41.setTop (mkF m 43 #[.val (.ref a0), .val (.int (2 : Int32)), .val (.int y2), .val (.int w22)] [(.ref a0)])) _
        refine XS.iloadN X41.here hx rfl (hb hby d9_43) rfl ?_
        exact k)
    obtain ⟨cq51, q51, q51'⟩ := f43.cell
    obtain ⟨_, _, ⟨T51, L51, k51, n51⟩, -, X51, ⟨Lc51, hQ51, l51, y51, z51⟩, st51⟩ := own_private X41 hx (y := (⟨"com/example/octopoll/octopoll/PageHeap", "siftUp", "(I)V"⟩ : MethodName)) hown (mvT hZ (hw _ (List.mem_of_getElem? (i := 37) rfl))) (mvT hZ (hw _ (List.mem_of_getElem? (i := 38) rfl))) (mvT hZ (hw _ (List.mem_of_getElem? (i := 24) rfl))) rfl (Cond.privateMethod_at (mvP hZ (hw _ (List.mem_of_getElem? (i := 39) rfl)) (args := #[]))) (mvT hZ (hw _ (List.mem_of_getElem? (i := 40) rfl))) (by decide) (backOf (W := 0) (rm_su l Z av0 hw [] a0 y2 ka ha pa kk kh kp d0 d1 d2 (own_u 0 y2 w22 x0) (own_u 1 y2 w22 x1) (own_u 2 y2 w22 x2) (own_u 0 w22 y2 y0) (own_u 1 w22 y2 y1) (own_u 2 w22 y2 (-1 : Int32)) T41.heap n0 f42 f43 f44 f45 f46 f48 fo41_0 fo41_1 g_ha g_pa ne_a0_ha ne_a0_pa ne_ha_pa ne_a0_ka ne_ka_ha ne_ka_pa (own_ur hbw hR.1) (own_ur hbw hR.2.1) (own_ur hbw hR.2.2) (own_ry2 b0 b1 _ hS)) hZ (hw _ (List.mem_of_getElem? (i := 40) rfl)) (hw _ (List.mem_of_getElem? (i := 3) rfl)) (by decide) (by decide)) (a := a0) q51 q51' (g := (mkF m 44 #[.val (.ref a0), .val (.int (2 : Int32)), .val (.int y2), .val (.int w22)] [(.int y2), (.ref a0)])) rfl (by rw [hml]; rfl) (argsL := [(.int y2)]) (rest := []) (lenOf pd_2 rfl) rfl (by show 2 * 0 + _ ≤ _; exact Nat.le_of_eq rfl) (hb hby d9_44) (fun _ _ => ⟨rfl, rfl, (by decide : 0 + 0 ≤ _), (by decide : 0 + 0 ≤ _)⟩)
    dsimp only [Pt.U, Pt.locs, Pt.cells, Pt.slots] at X51 l51 y51 z51 st51 hQ51
    subst l51 y51 z51
    obtain ⟨z051, z151, z251, z351, z451, z551, hv51, N51q, K51, fo51_0, fo51_1, po51_0⟩ := hQ51
    have f52 : n0 ≤ T51.heap.size := Nat.le_trans f42 K51.1
    have f53 : Exa Z T51.heap a0 "com/example/octopoll/octopoll/PageHeap" := f43.keep K51
    have f54 : Fld Z T51.heap a0 "com/example/octopoll/octopoll/PageHeap" "key" "[D" (.ref ka) := f44.keep K51 (ninS ne_a0_ha (ninS ne_a0_pa nin0))
    have f55 : Fld Z T51.heap a0 "com/example/octopoll/octopoll/PageHeap" "heap" "[I" (.ref ha) := f45.keep K51 (ninS ne_a0_ha (ninS ne_a0_pa nin0))
    have f56 : Fld Z T51.heap a0 "com/example/octopoll/octopoll/PageHeap" "position" "[I" (.ref pa) := f46.keep K51 (ninS ne_a0_ha (ninS ne_a0_pa nin0))
    have f57 : Fld Z T51.heap a0 "com/example/octopoll/octopoll/PageHeap" "size" "I" (.int ((own_cnt b0 b1 true) - (1 : Int32))) := f47.keep K51 (ninS ne_a0_ha (ninS ne_a0_pa nin0))
    have f58 : Arv Z T51.heap ka kk .double (3 : Int32) [(.double d0), (.double d1), (.double d2)] (.double 0) := f48.keep K51 (ninS ne_ka_ha (ninS ne_ka_pa nin0))
    have f59 : Keep h0 T51.heap [a0, ha, pa] := f49.trans K51 (allS (Or.inl (List.mem_of_getElem? (i := 1) rfl)) (allS (Or.inl (List.mem_of_getElem? (i := 2) rfl)) all0))
    subst hv51
    have N51 := Fr.app N41 N51q
    have pre51 : Go p.tables e below (s₁.setTop (entryFrame m #[(.ref a0), (.int (2 : Int32))] 4)) T51 (mkF m 47 #[.val (.ref a0), .val (.int (2 : Int32)), .val (.int y2), .val (.int w22)] []) := fun t k => pre50 t (st51 _ k)
    have hU : (own_bd z051 ∧ own_bd z151 ∧ own_bd z251) ∧ own_bd (own_g w22 z351 z451 z551) := by
      have hc0 := hne
      subst hw22
      rcases po51_0 with hq | ⟨hp, hq⟩
      · have hq1 : (z051, z151, z251, z351, z451, z551) = own_s0 (own_gy 2 (x0, x1, x2, y0, y1, y2)) (own_pl (own_gx ((own_cnt b0 b1 true) - 1) (x0, x1, x2, y0, y1, y2)) (own_gy 2 (x0, x1, x2, y0, y1, y2)) (own_m 2 (x0, x1, x2, y0, y1, y2))) := hq
        have ha1 := own_via (P := fun t => own_bd t.1 ∧ own_bd t.2.1 ∧ own_bd t.2.2.1) hq1 (own_r0a2 b0 b1 _ hS hc0)
        have ha2 := own_via (P := fun t => own_bd (own_gy (own_gx ((own_cnt b0 b1 true) - 1) (x0, x1, x2, y0, y1, y2)) t)) hq1 (own_r0b2 b0 b1 _ hS hc0)
        exact ⟨ha1, ha2⟩
      · have hq1 : (z051, z151, z251, z351, z451, z551) = own_s1 (own_gy 2 (x0, x1, x2, y0, y1, y2)) (own_pl (own_gx ((own_cnt b0 b1 true) - 1) (x0, x1, x2, y0, y1, y2)) (own_gy 2 (x0, x1, x2, y0, y1, y2)) (own_m 2 (x0, x1, x2, y0, y1, y2))) := hq
        have ha1 := own_via (P := fun t => own_bd t.1 ∧ own_bd t.2.1 ∧ own_bd t.2.2.1) hq1 (own_r1a2 b0 b1 _ hS hc0 hp)
        have ha2 := own_via (P := fun t => own_bd (own_gy (own_gx ((own_cnt b0 b1 true) - 1) (x0, x1, x2, y0, y1, y2)) t)) hq1 (own_r1b2 b0 b1 _ hS hc0 hp)
        exact ⟨ha1, ha2⟩
    have pre60 : Go p.tables e below (s₁.setTop (entryFrame m #[(.ref a0), (.int (2 : Int32))] 4)) T51 (mkF m 49 #[.val (.ref a0), .val (.int (2 : Int32)), .val (.int y2), .val (.int w22)] [(.ref a0), (.ref a0)]) := fun t k => pre51 t (by
        refine XS.aloadN X51.here hx rfl (hb hby d9_47) rfl rfl ?_
        show Steps p.tables e below (T51.setTop (mkF m 48 #[.val (.ref a0), .val (.int (2 : Int32)), .val (.int y2), .val (.int w22)] [(.ref a0)])) _
        refine XS.aloadN X51.here hx rfl (hb hby d9_48) rfl rfl ?_
        exact k)
    obtain ⟨T61, X61, e61, st61⟩ := getF X51 hx hZ hown (host := "") (Or.inl (hw _ (List.mem_of_getElem? (i := 15) rfl))) Via.refl rfl f56 (g := (mkF m 49 #[.val (.ref a0), .val (.int (2 : Int32)), .val (.int y2), .val (.int w22)] [(.ref a0), (.ref a0)])) rfl rfl (hb hby d9_49)
    have pre61 : Go p.tables e below (s₁.setTop (entryFrame m #[(.ref a0), (.int (2 : Int32))] 4)) T61 (mkF m 52 #[.val (.ref a0), .val (.int (2 : Int32)), .val (.int y2), .val (.int w22)] [(.ref pa), (.ref a0)]) := fun t k => pre60 t (st61 _ k)
    have pre62 : Go p.tables e below (s₁.setTop (entryFrame m #[(.ref a0), (.int (2 : Int32))] 4)) T61 (mkF m 53 #[.val (.ref a0), .val (.int (2 : Int32)), .val (.int y2), .val (.int w22)] [(.int w22), (.ref pa), (.ref a0)]) := fun t k => pre61 t (by
        refine XS.iloadN X61.here hx rfl (hb hby d9_52) rfl ?_
        exact k)
    obtain ⟨c63, Ar63, q63, S63, M63, H63, G63⟩ := (id fo51_1)
    have hin63 : ¬ (w22 < 0 ∨ c63.slots.size ≤ (w22).toNatClampNeg) := inb_of S63 hbw
    have pre63 : Go p.tables e below (s₁.setTop (entryFrame m #[(.ref a0), (.int (2 : Int32))] 4)) T61 (mkF m 54 #[.val (.ref a0), .val (.int (2 : Int32)), .val (.int y2), .val (.int w22)] [(.int (own_g w22 z351 z451 z551)), (.ref a0)]) := fun t k => pre62 t (X61.iaload hx (j := w22) (v := (.int (own_g w22 z351 z451 z551))) (by rw [e61]; exact Ar63.1) (State.isArrayOf_alike hZ.alike Ar63.2.1) Ar63.2.2 hin63 (H63.at hin63 (own_get hbw)) (g := (mkF m 53 #[.val (.ref a0), .val (.int (2 : Int32)), .val (.int y2), .val (.int w22)] [(.int w22), (.ref pa), (.ref a0)])) rfl rfl (hb hby d9_53) _ k)
    obtain ⟨cq64, q64, q64'⟩ := f53.cell
    obtain ⟨_, _, ⟨T64, L64, k64, n64⟩, -, X64, ⟨Lc64, hQ64, l64, y64, z64⟩, st64⟩ := own_private X61 hx (y := (⟨"com/example/octopoll/octopoll/PageHeap", "siftDown", "(I)V"⟩ : MethodName)) hown (mvT hZ (hw _ (List.mem_of_getElem? (i := 50) rfl))) (mvT hZ (hw _ (List.mem_of_getElem? (i := 51) rfl))) (mvT hZ (hw _ (List.mem_of_getElem? (i := 24) rfl))) rfl (Cond.privateMethod_at (mvP hZ (hw _ (List.mem_of_getElem? (i := 52) rfl)) (args := #[]))) (mvT hZ (hw _ (List.mem_of_getElem? (i := 53) rfl))) (by decide) (backOf (W := 0) (rm_sd l Z av0 hw [] a0 (own_g w22 z351 z451 z551) ((own_cnt b0 b1 true) - (1 : Int32)) ka ha pa kk kh kp d0 d1 d2 z051 z151 z251 z351 z451 z551 T51.heap n0 f52 f53 f54 f55 f56 f57 f58 fo51_0 fo51_1 g_ha g_pa ne_a0_ha ne_a0_pa ne_ha_pa ne_a0_ka ne_ka_ha ne_ka_pa hU.1.1 hU.1.2.1 hU.1.2.2 (own_rn2 b0 b1 _ hS hne) hU.2) hZ (hw _ (List.mem_of_getElem? (i := 53) rfl)) (hw _ (List.mem_of_getElem? (i := 3) rfl)) (by decide) (by decide)) (a := a0) (by rw [e61]; exact q64) q64' (g := (mkF m 54 #[.val (.ref a0), .val (.int (2 : Int32)), .val (.int y2), .val (.int w22)] [(.int (own_g w22 z351 z451 z551)), (.ref a0)])) rfl (by rw [hml]; rfl) (argsL := [(.int (own_g w22 z351 z451 z551))]) (rest := []) (lenOf pd_2 rfl) rfl (by show 2 * 0 + _ ≤ _; exact Nat.le_of_eq rfl) (hb hby d9_54) (fun _ _ => ⟨rfl, e61, (by decide : 0 + 0 ≤ _), (by decide : 0 + 0 ≤ _)⟩)
    dsimp only [Pt.U, Pt.locs, Pt.cells, Pt.slots] at X64 l64 y64 z64 st64 hQ64
    subst l64 y64 z64
    obtain ⟨z064, z164, z264, z364, z464, z564, hv64, N64q, K64, fo64_0, fo64_1, po64_0⟩ := hQ64
    have f65 : n0 ≤ T64.heap.size := Nat.le_trans f52 K64.1
    have f66 : Exa Z T64.heap a0 "com/example/octopoll/octopoll/PageHeap" := f53.keep K64
    have f67 : Fld Z T64.heap a0 "com/example/octopoll/octopoll/PageHeap" "key" "[D" (.ref ka) := f54.keep K64 (ninS ne_a0_ha (ninS ne_a0_pa nin0))
    have f68 : Fld Z T64.heap a0 "com/example/octopoll/octopoll/PageHeap" "heap" "[I" (.ref ha) := f55.keep K64 (ninS ne_a0_ha (ninS ne_a0_pa nin0))
    have f69 : Fld Z T64.heap a0 "com/example/octopoll/octopoll/PageHeap" "position" "[I" (.ref pa) := f56.keep K64 (ninS ne_a0_ha (ninS ne_a0_pa nin0))
    have f70 : Fld Z T64.heap a0 "com/example/octopoll/octopoll/PageHeap" "size" "I" (.int ((own_cnt b0 b1 true) - (1 : Int32))) := f57.keep K64 (ninS ne_a0_ha (ninS ne_a0_pa nin0))
    have f71 : Arv Z T64.heap ka kk .double (3 : Int32) [(.double d0), (.double d1), (.double d2)] (.double 0) := f58.keep K64 (ninS ne_ka_ha (ninS ne_ka_pa nin0))
    have f72 : Keep h0 T64.heap [a0, ha, pa] := f59.trans K64 (allS (Or.inl (List.mem_of_getElem? (i := 1) rfl)) (allS (Or.inl (List.mem_of_getElem? (i := 2) rfl)) all0))
    subst hv64
    have N64 := Fr.app N51 N64q
    have pre64 : Go p.tables e below (s₁.setTop (entryFrame m #[(.ref a0), (.int (2 : Int32))] 4)) T64 (mkF m 57 #[.val (.ref a0), .val (.int (2 : Int32)), .val (.int y2), .val (.int w22)] []) := fun t k => pre63 t (st64 _ k)
    obtain ⟨fs, hr, hrun, hended, hW, hsame⟩ := X64.leave (v := none) (fun _ => rfl) (BodyLoose.notSynchronized Bd)
    refine ⟨_, _, pre64 _ ?_, hrun, hended, _, _, rfl, ?_, ⟨_, rfl⟩, hW, hsame.mono (Nat.le_of_ble_eq_true rfl) (Nat.le_of_ble_eq_true rfl)⟩
    · exact X64.returnOut hx Bd.returns (hb hby d9_57) hr
    · show Q_rem2 Z a0 ka ha pa kk kh kp d0 d1 d2 x0 x1 x2 y0 y1 y2 b0 b1 h0 n0 _ T64.heap _
      have fsz := f70
      rw [(own_rc2 b0 b1).2] at fsz
      have hM : (z064, z164, z264, z364, z464, z564) ∈ own_S b0 b1 false := by
        have hc0 := hne
        subst hw22
        rcases po51_0 with hq | ⟨hp, hq⟩
        · have hq1 : (z051, z151, z251, z351, z451, z551) = own_s0 (own_gy 2 (x0, x1, x2, y0, y1, y2)) (own_pl (own_gx ((own_cnt b0 b1 true) - 1) (x0, x1, x2, y0, y1, y2)) (own_gy 2 (x0, x1, x2, y0, y1, y2)) (own_m 2 (x0, x1, x2, y0, y1, y2))) := hq
          have hc1 := own_via (P := fun t => own_s0 (own_gy (own_gx ((own_cnt b0 b1 true) - 1) (x0, x1, x2, y0, y1, y2)) t) t ∈ own_S b0 b1 false) hq1 (own_r0c2 b0 b1 _ hS hc0)
          have hc2 := own_via (P := fun t => own_gy (own_gx ((own_cnt b0 b1 true) - 1) (x0, x1, x2, y0, y1, y2)) t = 0 → (own_cnt b0 b1 true) - 1 = 2 → own_d1 t ∈ own_S b0 b1 false) hq1 (own_r0d2 b0 b1 _ hS hc0)
          exact own_memD hc1 hc2 po64_0
        · have hq1 : (z051, z151, z251, z351, z451, z551) = own_s1 (own_gy 2 (x0, x1, x2, y0, y1, y2)) (own_pl (own_gx ((own_cnt b0 b1 true) - 1) (x0, x1, x2, y0, y1, y2)) (own_gy 2 (x0, x1, x2, y0, y1, y2)) (own_m 2 (x0, x1, x2, y0, y1, y2))) := hq
          have hc1 := own_via (P := fun t => own_s0 (own_gy (own_gx ((own_cnt b0 b1 true) - 1) (x0, x1, x2, y0, y1, y2)) t) t ∈ own_S b0 b1 false) hq1 (own_r1c2 b0 b1 _ hS hc0 hp)
          have hc2 := own_via (P := fun t => own_gy (own_gx ((own_cnt b0 b1 true) - 1) (x0, x1, x2, y0, y1, y2)) t = 0 → (own_cnt b0 b1 true) - 1 = 2 → own_d1 t ∈ own_S b0 b1 false) hq1 (own_r1d2 b0 b1 _ hS hc0 hp)
          exact own_memD hc1 hc2 po64_0
      exact ⟨z064, z164, z264, z364, z464, z564, rfl, N64, f72, f66, f67, f68, f69, fsz, fo64_0, fo64_1, hM⟩
theorem d3_0 : decode jdk_65_method_103_code 0 = .ok (.iconst 0, 1) := by decide +kernel
theorem d3_1 : decode jdk_65_method_103_code 1 = .ok (.istore_n 2, 1) := by decide +kernel
theorem d3_2 : decode jdk_65_method_103_code 2 = .ok (.aload_n 0, 1) := by decide +kernel
theorem d3_3 : decode jdk_65_method_103_code 3 = .ok (.arraylength, 1) := by decide +kernel
theorem d3_4 : decode jdk_65_method_103_code 4 = .ok (.istore_n 3, 1) := by decide +kernel
theorem d3_5 : decode jdk_65_method_103_code 5 = .ok (.iload_n 2, 1) := by decide +kernel
theorem d3_6 : decode jdk_65_method_103_code 6 = .ok (.iload_n 3, 1) := by decide +kernel
theorem d3_7 : decode jdk_65_method_103_code 7 = .ok (.if_icmp .ge 13, 3) := by decide +kernel
theorem d3_10 : decode jdk_65_method_103_code 10 = .ok (.aload_n 0, 1) := by decide +kernel
theorem d3_11 : decode jdk_65_method_103_code 11 = .ok (.iload_n 2, 1) := by decide +kernel
theorem d3_12 : decode jdk_65_method_103_code 12 = .ok (.iload_n 1, 1) := by decide +kernel
theorem d3_13 : decode jdk_65_method_103_code 13 = .ok (.iastore, 1) := by decide +kernel
theorem d3_14 : decode jdk_65_method_103_code 14 = .ok (.iinc 2 1, 3) := by decide +kernel
theorem d3_17 : decode jdk_65_method_103_code 17 = .ok (.goto (-12), 3) := by decide +kernel
theorem d3_20 : decode jdk_65_method_103_code 20 = .ok (.return_, 1) := by decide +kernel
theorem pn_fil : plainName "java/util/Arrays" = true := by first | (simp [plainName, overriddenIn]; done) | decide +kernel
theorem ef_fil (m : MethodId) (a0 : Addr) : entryFrame m #[(.ref a0), (.int (-1 : Int32))] 4 = mkF m 0 #[.val (.ref a0), .val (.int (-1 : Int32)), .unset, .unset] [] := by first | (simp [entryFrame, mkF, argsToLocals, Value.category]; done) | rfl
def Q_fil (Z : State) (a0 : Addr) (k0 : ClassId) (x0 : Int32) (x1 : Int32) (x2 : Int32) (h0 : Heap) (n0 : Nat) (v : Option Value) (h : Heap) (L : List Loc) : Prop := v = none ∧ Fr n0 L ∧ Keep h0 h [a0] ∧ Arv Z h a0 k0 .int (3 : Int32) [(.int (-1 : Int32)), (.int (-1 : Int32)), (.int (-1 : Int32))] (.int (0 : Int32))
set_option maxRecDepth 65536 in
set_option maxHeartbeats 40000000 in
theorem rm_fil (l : Launch) (Z : State) (av0 : Array Value) (hw : ∀ d ∈ tables_1, d.before av0 Z = true) (ws : List Jvm.Cond) (a0 : Addr) (k0 : ClassId) (x0 : Int32) (x1 : Int32) (x2 : Int32) (h0 : Heap) (n0 : Nat) (Z0 : n0 ≤ h0.size) (fi0 : Arv Z h0 a0 k0 .int (3 : Int32) [(.int x0), (.int x1), (.int x2)] (.int (0 : Int32))) (g_a0 : n0 ≤ a0) :
    MetFree l (⟨"java/util/Arrays", "fill", "([II)V"⟩ : MethodName) (head1 (Jvm.Cond.code (⟨"java/util/Arrays", "fill", "([II)V"⟩ : MethodName) jdk_65_method_103_code 4 none :: ws) ({ frames := 0, cells := 0, slots := 0, locals := 0 } : Room)) (fun a U => a = #[(.ref a0), (.int (-1 : Int32))] ∧ Z.Warmed39 U.vm ∧ U.heap = h0) (fun _ _ _ _ _ => True) (fun _ U o U' => ∃ v L, o = .returned v ∧ Q_fil Z a0 k0 x0 x1 x2 h0 n0 v U'.heap L ∧ FrameEnd U o U' L ({ frames := 0, cells := 0, slots := 0, locals := 0 } : Room).cells ({ frames := 0, cells := 0, slots := 0, locals := 0 } : Room).slots) := by
  refine MetFree.of_bodySF (plainFor_of_name pn_fil) hisR ?_
  intro p e s m args below meth c s₁ Bd hml0 hP hK
  obtain ⟨rfl, hZ, hh⟩ := hP
  have hx := Bd.exec
  have hby := Bd.bytes
  have hml : c.maxLocals = 4 := hml0
  have hown : s.vm.findClass "java/util/Arrays" = some m.cls := findClass_of_methodNamed Bd.named
  have hnm := (name_of_methodNamed Bd.named Bd.method).1
  have X0 : Stand p l e ({ frames := 0, cells := 0, slots := 0, locals := 0 } : Room) s m #[(.ref a0), (.int (-1 : Int32))] below meth c s₁ [] 0 0 := Stand.of_body Bd
  have e0 : s₁.heap = h0 := by rw [← hh, Bd.state]; rfl
  have N0 := Fr.nil n0
  have pre0 : Go p.tables e below (s₁.setTop (entryFrame m #[(.ref a0), (.int (-1 : Int32))] 4)) s₁ (mkF m 0 #[.val (.ref a0), .val (.int (-1 : Int32)), .unset, .unset] []) := fun t k => castTop (ef_fil m a0) k
  have K0 : Keep h0 h0 [a0] := Keep.refl _ _
  have pre1 : Go p.tables e below (s₁.setTop (entryFrame m #[(.ref a0), (.int (-1 : Int32))] 4)) s₁ (mkF m 3 #[.val (.ref a0), .val (.int (-1 : Int32)), .val (.int (0 : Int32)), .unset] [(.ref a0)]) := fun t k => pre0 t (by
      refine XS.iconst X0.here hx rfl (hb hby d3_0) ?_
      show Steps p.tables e below (s₁.setTop (mkF m 1 #[.val (.ref a0), .val (.int (-1 : Int32)), .unset, .unset] [(.int (0 : Int32))])) _
      refine XS.istoreN X0.here hx rfl (hb hby d3_1) rfl (l' := #[.val (.ref a0), .val (.int (-1 : Int32)), .val (.int (0 : Int32)), .unset]) rfl ?_
      show Steps p.tables e below (s₁.setTop (mkF m 2 #[.val (.ref a0), .val (.int (-1 : Int32)), .val (.int (0 : Int32)), .unset] [])) _
      refine XS.aloadN X0.here hx rfl (hb hby d3_2) rfl rfl ?_
      exact k)
  obtain ⟨c2, Ar2, q2, S2, M2, H2, G2⟩ := (id fi0)
  have pre2 : Go p.tables e below (s₁.setTop (entryFrame m #[(.ref a0), (.int (-1 : Int32))] 4)) s₁ (mkF m 4 #[.val (.ref a0), .val (.int (-1 : Int32)), .val (.int (0 : Int32)), .unset] [(.int (3 : Int32))]) := fun t k => pre1 t (X0.arraylength hx (by rw [e0]; exact Ar2.1) (State.isArrayOf_alike hZ.alike Ar2.2.1) (g := (mkF m 3 #[.val (.ref a0), .val (.int (-1 : Int32)), .val (.int (0 : Int32)), .unset] [(.ref a0)])) rfl rfl (hb hby d3_3) _ (by rw [len_of S2 M2]; exact k))
  have pre3 : Go p.tables e below (s₁.setTop (entryFrame m #[(.ref a0), (.int (-1 : Int32))] 4)) s₁ (mkF m 13 #[.val (.ref a0), .val (.int (-1 : Int32)), .val (.int (0 : Int32)), .val (.int (3 : Int32))] [(.int (-1 : Int32)), (.int (0 : Int32)), (.ref a0)]) := fun t k => pre2 t (by
      refine XS.istoreN X0.here hx rfl (hb hby d3_4) rfl (l' := #[.val (.ref a0), .val (.int (-1 : Int32)), .val (.int (0 : Int32)), .val (.int (3 : Int32))]) rfl ?_
      show Steps p.tables e below (s₁.setTop (mkF m 5 #[.val (.ref a0), .val (.int (-1 : Int32)), .val (.int (0 : Int32)), .val (.int (3 : Int32))] [])) _
      refine XS.iloadN X0.here hx rfl (hb hby d3_5) rfl ?_
      show Steps p.tables e below (s₁.setTop (mkF m 6 #[.val (.ref a0), .val (.int (-1 : Int32)), .val (.int (0 : Int32)), .val (.int (3 : Int32))] [(.int (0 : Int32))])) _
      refine XS.iloadN X0.here hx rfl (hb hby d3_6) rfl ?_
      show Steps p.tables e below (s₁.setTop (mkF m 7 #[.val (.ref a0), .val (.int (-1 : Int32)), .val (.int (0 : Int32)), .val (.int (3 : Int32))] [(.int (3 : Int32)), (.int (0 : Int32))])) _
      refine XS.icmpNo X0.here hx rfl (hb hby d3_7) rfl (tlt (by decide)).2.1 ?_
      show Steps p.tables e below (s₁.setTop (mkF m 10 #[.val (.ref a0), .val (.int (-1 : Int32)), .val (.int (0 : Int32)), .val (.int (3 : Int32))] [])) _
      refine XS.aloadN X0.here hx rfl (hb hby d3_10) rfl rfl ?_
      show Steps p.tables e below (s₁.setTop (mkF m 11 #[.val (.ref a0), .val (.int (-1 : Int32)), .val (.int (0 : Int32)), .val (.int (3 : Int32))] [(.ref a0)])) _
      refine XS.iloadN X0.here hx rfl (hb hby d3_11) rfl ?_
      show Steps p.tables e below (s₁.setTop (mkF m 12 #[.val (.ref a0), .val (.int (-1 : Int32)), .val (.int (0 : Int32)), .val (.int (3 : Int32))] [(.int (0 : Int32)), (.ref a0)])) _
      refine XS.iloadN X0.here hx rfl (hb hby d3_12) rfl ?_
      exact k)
  obtain ⟨c4, Ar4, q4, S4, M4, H4, G4⟩ := (id fi0)
  have hin4 : ¬ ((0 : Int32) < 0 ∨ c4.slots.size ≤ ((0 : Int32)).toNatClampNeg) := inb_of S4 ⟨by decide, by decide⟩
  obtain ⟨T4, h4, X4, e4, W4, st4⟩ := stI X0 hx hZ e0 Ar4 (j := (0 : Int32)) hin4 (g := (mkF m 13 #[.val (.ref a0), .val (.int (-1 : Int32)), .val (.int (0 : Int32)), .val (.int (3 : Int32))] [(.int (-1 : Int32)), (.int (0 : Int32)), (.ref a0)])) rfl rfl (hb hby d3_13)
  have fa4 : Arv Z h4 a0 k0 .int (3 : Int32) [(.int (-1 : Int32)), (.int x1), (.int x2)] (.int (0 : Int32)) := Arv.set Ar4 q4 S4 M4 H4 G4 rfl W4 0 rfl (Nat.le_of_ble_eq_true rfl)
  have N4 := Fr.snoc X4 N0 g_a0
  have f5 : n0 ≤ h4.size := Nat.le_trans Z0 (Keep.of_wr W4).1
  have f6 : Keep h0 h4 [a0] := K0.wr W4 (Or.inl (List.mem_of_getElem? (i := 0) rfl))
  have pre4 : Go p.tables e below (s₁.setTop (entryFrame m #[(.ref a0), (.int (-1 : Int32))] 4)) T4 (mkF m 14 #[.val (.ref a0), .val (.int (-1 : Int32)), .val (.int (0 : Int32)), .val (.int (3 : Int32))] []) := fun t k => pre3 t (st4 _ k)
  have pre7 : Go p.tables e below (s₁.setTop (entryFrame m #[(.ref a0), (.int (-1 : Int32))] 4)) T4 (mkF m 13 #[.val (.ref a0), .val (.int (-1 : Int32)), .val (.int (1 : Int32)), .val (.int (3 : Int32))] [(.int (-1 : Int32)), (.int (1 : Int32)), (.ref a0)]) := fun t k => pre4 t (by
      refine XS.iinc X4.here hx rfl (hb hby d3_14) rfl (l' := #[.val (.ref a0), .val (.int (-1 : Int32)), .val (.int (1 : Int32)), .val (.int (3 : Int32))]) rfl ?_
      show Steps p.tables e below (T4.setTop (mkF m 17 #[.val (.ref a0), .val (.int (-1 : Int32)), .val (.int (1 : Int32)), .val (.int (3 : Int32))] [])) _
      refine XS.goto X4.here hx rfl (pc0 := 17) (pc' := 5) rfl (hb hby d3_17) (by decide) (by decide) ?_
      show Steps p.tables e below (T4.setTop (mkF m 5 #[.val (.ref a0), .val (.int (-1 : Int32)), .val (.int (1 : Int32)), .val (.int (3 : Int32))] [])) _
      refine XS.iloadN X4.here hx rfl (hb hby d3_5) rfl ?_
      show Steps p.tables e below (T4.setTop (mkF m 6 #[.val (.ref a0), .val (.int (-1 : Int32)), .val (.int (1 : Int32)), .val (.int (3 : Int32))] [(.int (1 : Int32))])) _
      refine XS.iloadN X4.here hx rfl (hb hby d3_6) rfl ?_
      show Steps p.tables e below (T4.setTop (mkF m 7 #[.val (.ref a0), .val (.int (-1 : Int32)), .val (.int (1 : Int32)), .val (.int (3 : Int32))] [(.int (3 : Int32)), (.int (1 : Int32))])) _
      refine XS.icmpNo X4.here hx rfl (hb hby d3_7) rfl (tlt (by decide)).2.1 ?_
      show Steps p.tables e below (T4.setTop (mkF m 10 #[.val (.ref a0), .val (.int (-1 : Int32)), .val (.int (1 : Int32)), .val (.int (3 : Int32))] [])) _
      refine XS.aloadN X4.here hx rfl (hb hby d3_10) rfl rfl ?_
      show Steps p.tables e below (T4.setTop (mkF m 11 #[.val (.ref a0), .val (.int (-1 : Int32)), .val (.int (1 : Int32)), .val (.int (3 : Int32))] [(.ref a0)])) _
      refine XS.iloadN X4.here hx rfl (hb hby d3_11) rfl ?_
      show Steps p.tables e below (T4.setTop (mkF m 12 #[.val (.ref a0), .val (.int (-1 : Int32)), .val (.int (1 : Int32)), .val (.int (3 : Int32))] [(.int (1 : Int32)), (.ref a0)])) _
      refine XS.iloadN X4.here hx rfl (hb hby d3_12) rfl ?_
      exact k)
  obtain ⟨c8, Ar8, q8, S8, M8, H8, G8⟩ := (id fa4)
  have hin8 : ¬ ((1 : Int32) < 0 ∨ c8.slots.size ≤ ((1 : Int32)).toNatClampNeg) := inb_of S8 ⟨by decide, by decide⟩
  obtain ⟨T8, h8, X8, e8, W8, st8⟩ := stI X4 hx hZ e4 Ar8 (j := (1 : Int32)) hin8 (g := (mkF m 13 #[.val (.ref a0), .val (.int (-1 : Int32)), .val (.int (1 : Int32)), .val (.int (3 : Int32))] [(.int (-1 : Int32)), (.int (1 : Int32)), (.ref a0)])) rfl rfl (hb hby d3_13)
  have fa8 : Arv Z h8 a0 k0 .int (3 : Int32) [(.int (-1 : Int32)), (.int (-1 : Int32)), (.int x2)] (.int (0 : Int32)) := Arv.set Ar8 q8 S8 M8 H8 G8 rfl W8 1 rfl (Nat.le_of_ble_eq_true rfl)
  have N8 := Fr.snoc X8 N4 g_a0
  have f9 : n0 ≤ h8.size := Nat.le_trans f5 (Keep.of_wr W8).1
  have f10 : Keep h0 h8 [a0] := f6.wr W8 (Or.inl (List.mem_of_getElem? (i := 0) rfl))
  have pre8 : Go p.tables e below (s₁.setTop (entryFrame m #[(.ref a0), (.int (-1 : Int32))] 4)) T8 (mkF m 14 #[.val (.ref a0), .val (.int (-1 : Int32)), .val (.int (1 : Int32)), .val (.int (3 : Int32))] []) := fun t k => pre7 t (st8 _ k)
  have pre11 : Go p.tables e below (s₁.setTop (entryFrame m #[(.ref a0), (.int (-1 : Int32))] 4)) T8 (mkF m 13 #[.val (.ref a0), .val (.int (-1 : Int32)), .val (.int (2 : Int32)), .val (.int (3 : Int32))] [(.int (-1 : Int32)), (.int (2 : Int32)), (.ref a0)]) := fun t k => pre8 t (by
      refine XS.iinc X8.here hx rfl (hb hby d3_14) rfl (l' := #[.val (.ref a0), .val (.int (-1 : Int32)), .val (.int (2 : Int32)), .val (.int (3 : Int32))]) rfl ?_
      show Steps p.tables e below (T8.setTop (mkF m 17 #[.val (.ref a0), .val (.int (-1 : Int32)), .val (.int (2 : Int32)), .val (.int (3 : Int32))] [])) _
      refine XS.goto X8.here hx rfl (pc0 := 17) (pc' := 5) rfl (hb hby d3_17) (by decide) (by decide) ?_
      show Steps p.tables e below (T8.setTop (mkF m 5 #[.val (.ref a0), .val (.int (-1 : Int32)), .val (.int (2 : Int32)), .val (.int (3 : Int32))] [])) _
      refine XS.iloadN X8.here hx rfl (hb hby d3_5) rfl ?_
      show Steps p.tables e below (T8.setTop (mkF m 6 #[.val (.ref a0), .val (.int (-1 : Int32)), .val (.int (2 : Int32)), .val (.int (3 : Int32))] [(.int (2 : Int32))])) _
      refine XS.iloadN X8.here hx rfl (hb hby d3_6) rfl ?_
      show Steps p.tables e below (T8.setTop (mkF m 7 #[.val (.ref a0), .val (.int (-1 : Int32)), .val (.int (2 : Int32)), .val (.int (3 : Int32))] [(.int (3 : Int32)), (.int (2 : Int32))])) _
      refine XS.icmpNo X8.here hx rfl (hb hby d3_7) rfl (tlt (by decide)).2.1 ?_
      show Steps p.tables e below (T8.setTop (mkF m 10 #[.val (.ref a0), .val (.int (-1 : Int32)), .val (.int (2 : Int32)), .val (.int (3 : Int32))] [])) _
      refine XS.aloadN X8.here hx rfl (hb hby d3_10) rfl rfl ?_
      show Steps p.tables e below (T8.setTop (mkF m 11 #[.val (.ref a0), .val (.int (-1 : Int32)), .val (.int (2 : Int32)), .val (.int (3 : Int32))] [(.ref a0)])) _
      refine XS.iloadN X8.here hx rfl (hb hby d3_11) rfl ?_
      show Steps p.tables e below (T8.setTop (mkF m 12 #[.val (.ref a0), .val (.int (-1 : Int32)), .val (.int (2 : Int32)), .val (.int (3 : Int32))] [(.int (2 : Int32)), (.ref a0)])) _
      refine XS.iloadN X8.here hx rfl (hb hby d3_12) rfl ?_
      exact k)
  obtain ⟨c12, Ar12, q12, S12, M12, H12, G12⟩ := (id fa8)
  have hin12 : ¬ ((2 : Int32) < 0 ∨ c12.slots.size ≤ ((2 : Int32)).toNatClampNeg) := inb_of S12 ⟨by decide, by decide⟩
  obtain ⟨T12, h12, X12, e12, W12, st12⟩ := stI X8 hx hZ e8 Ar12 (j := (2 : Int32)) hin12 (g := (mkF m 13 #[.val (.ref a0), .val (.int (-1 : Int32)), .val (.int (2 : Int32)), .val (.int (3 : Int32))] [(.int (-1 : Int32)), (.int (2 : Int32)), (.ref a0)])) rfl rfl (hb hby d3_13)
  have fa12 : Arv Z h12 a0 k0 .int (3 : Int32) [(.int (-1 : Int32)), (.int (-1 : Int32)), (.int (-1 : Int32))] (.int (0 : Int32)) := Arv.set Ar12 q12 S12 M12 H12 G12 rfl W12 2 rfl (Nat.le_of_ble_eq_true rfl)
  have N12 := Fr.snoc X12 N8 g_a0
  have f13 : n0 ≤ h12.size := Nat.le_trans f9 (Keep.of_wr W12).1
  have f14 : Keep h0 h12 [a0] := f10.wr W12 (Or.inl (List.mem_of_getElem? (i := 0) rfl))
  have pre12 : Go p.tables e below (s₁.setTop (entryFrame m #[(.ref a0), (.int (-1 : Int32))] 4)) T12 (mkF m 14 #[.val (.ref a0), .val (.int (-1 : Int32)), .val (.int (2 : Int32)), .val (.int (3 : Int32))] []) := fun t k => pre11 t (st12 _ k)
  have pre15 : Go p.tables e below (s₁.setTop (entryFrame m #[(.ref a0), (.int (-1 : Int32))] 4)) T12 (mkF m 20 #[.val (.ref a0), .val (.int (-1 : Int32)), .val (.int (3 : Int32)), .val (.int (3 : Int32))] []) := fun t k => pre12 t (by
      refine XS.iinc X12.here hx rfl (hb hby d3_14) rfl (l' := #[.val (.ref a0), .val (.int (-1 : Int32)), .val (.int (3 : Int32)), .val (.int (3 : Int32))]) rfl ?_
      show Steps p.tables e below (T12.setTop (mkF m 17 #[.val (.ref a0), .val (.int (-1 : Int32)), .val (.int (3 : Int32)), .val (.int (3 : Int32))] [])) _
      refine XS.goto X12.here hx rfl (pc0 := 17) (pc' := 5) rfl (hb hby d3_17) (by decide) (by decide) ?_
      show Steps p.tables e below (T12.setTop (mkF m 5 #[.val (.ref a0), .val (.int (-1 : Int32)), .val (.int (3 : Int32)), .val (.int (3 : Int32))] [])) _
      refine XS.iloadN X12.here hx rfl (hb hby d3_5) rfl ?_
      show Steps p.tables e below (T12.setTop (mkF m 6 #[.val (.ref a0), .val (.int (-1 : Int32)), .val (.int (3 : Int32)), .val (.int (3 : Int32))] [(.int (3 : Int32))])) _
      refine XS.iloadN X12.here hx rfl (hb hby d3_6) rfl ?_
      show Steps p.tables e below (T12.setTop (mkF m 7 #[.val (.ref a0), .val (.int (-1 : Int32)), .val (.int (3 : Int32)), .val (.int (3 : Int32))] [(.int (3 : Int32)), (.int (3 : Int32))])) _
      refine XS.icmpYes X12.here hx rfl (pc0 := 7) (pc' := 20) rfl (hb hby d3_7) rfl (flt (by decide)).2.1 (by decide) (by decide) ?_
      exact k)
  obtain ⟨fs, hr, hrun, hended, hW, hsame⟩ := X12.leave (v := none) (fun _ => rfl) (BodyLoose.notSynchronized Bd)
  refine ⟨_, _, pre15 _ ?_, hrun, hended, _, _, rfl, ?_, ⟨_, rfl⟩, hW, hsame.mono (Nat.le_of_ble_eq_true rfl) (Nat.le_of_ble_eq_true rfl)⟩
  · exact X12.returnOut hx Bd.returns (hb hby d3_20) hr
  · show Q_fil Z a0 k0 x0 x1 x2 h0 n0 _ T12.heap _
    rw [e12]
    exact ⟨rfl, N12, f14, fa12⟩
theorem d1_0 : decode prog_17_method_1_code 0 = .ok (.aload_n 0, 1) := by decide +kernel
theorem d1_1 : decode prog_17_method_1_code 1 = .ok (.invokespecial 1, 3) := by decide +kernel
theorem d1_4 : decode prog_17_method_1_code 4 = .ok (.aload_n 0, 1) := by decide +kernel
theorem d1_5 : decode prog_17_method_1_code 5 = .ok (.aload_n 1, 1) := by decide +kernel
theorem d1_6 : decode prog_17_method_1_code 6 = .ok (.putfield 7, 3) := by decide +kernel
theorem d1_9 : decode prog_17_method_1_code 9 = .ok (.aload_n 0, 1) := by decide +kernel
theorem d1_10 : decode prog_17_method_1_code 10 = .ok (.aload_n 1, 1) := by decide +kernel
theorem d1_11 : decode prog_17_method_1_code 11 = .ok (.arraylength, 1) := by decide +kernel
theorem d1_12 : decode prog_17_method_1_code 12 = .ok (.newarray .int, 2) := by decide +kernel
theorem d1_14 : decode prog_17_method_1_code 14 = .ok (.putfield 13, 3) := by decide +kernel
theorem d1_17 : decode prog_17_method_1_code 17 = .ok (.aload_n 0, 1) := by decide +kernel
theorem d1_18 : decode prog_17_method_1_code 18 = .ok (.aload_n 1, 1) := by decide +kernel
theorem d1_19 : decode prog_17_method_1_code 19 = .ok (.arraylength, 1) := by decide +kernel
theorem d1_20 : decode prog_17_method_1_code 20 = .ok (.newarray .int, 2) := by decide +kernel
theorem d1_22 : decode prog_17_method_1_code 22 = .ok (.putfield 17, 3) := by decide +kernel
theorem d1_25 : decode prog_17_method_1_code 25 = .ok (.aload_n 0, 1) := by decide +kernel
theorem d1_26 : decode prog_17_method_1_code 26 = .ok (.getfield 17, 3) := by decide +kernel
theorem d1_29 : decode prog_17_method_1_code 29 = .ok (.iconst (-1), 1) := by decide +kernel
theorem d1_30 : decode prog_17_method_1_code 30 = .ok (.invokestatic 20, 3) := by decide +kernel
theorem d1_33 : decode prog_17_method_1_code 33 = .ok (.return_, 1) := by decide +kernel
theorem pn_ini : plainName "com/example/octopoll/octopoll/PageHeap" = true := by first | (simp [plainName, overriddenIn]; done) | decide +kernel
theorem ef_ini (m : MethodId) (a0 : Addr) (ka : Addr) : entryFrame m #[(.ref a0), (.ref ka)] 2 = mkF m 0 #[.val (.ref a0), .val (.ref ka)] [] := by first | (simp [entryFrame, mkF, argsToLocals, Value.category]; done) | rfl
def Q_ini (Z : State) (a0 : Addr) (ka : Addr) (kk : ClassId) (d0 : UInt64) (d1 : UInt64) (d2 : UInt64) (h0 : Heap) (n0 : Nat) (v : Option Value) (h : Heap) (L : List Loc) : Prop := ∃ (ha : Addr) (pa : Addr) (kh : ClassId) (kp : ClassId), v = none ∧ Fr n0 L ∧ Keep h0 h [a0] ∧ h0.size ≤ ha ∧ n0 ≤ ha ∧ h0.size ≤ pa ∧ n0 ≤ pa ∧ Exa Z h a0 "com/example/octopoll/octopoll/PageHeap" ∧ Fld Z h a0 "com/example/octopoll/octopoll/PageHeap" "key" "[D" (.ref ka) ∧ Fld Z h a0 "com/example/octopoll/octopoll/PageHeap" "heap" "[I" (.ref ha) ∧ Fld Z h a0 "com/example/octopoll/octopoll/PageHeap" "position" "[I" (.ref pa) ∧ Fld Z h a0 "com/example/octopoll/octopoll/PageHeap" "size" "I" (.int (0 : Int32)) ∧ Arv Z h ha kh .int (3 : Int32) [(.int (0 : Int32)), (.int (0 : Int32)), (.int (0 : Int32))] (.int (0 : Int32)) ∧ Arv Z h pa kp .int (3 : Int32) [(.int (-1 : Int32)), (.int (-1 : Int32)), (.int (-1 : Int32))] (.int (0 : Int32)) ∧ ha ≠ pa
set_option maxRecDepth 65536 in
set_option maxHeartbeats 40000000 in
theorem rm_ini (l : Launch) (Z : State) (av0 : Array Value) (hw : ∀ d ∈ tables_1, d.before av0 Z = true) (ws : List Jvm.Cond) (a0 : Addr) (ka : Addr) (kk : ClassId) (d0 : UInt64) (d1 : UInt64) (d2 : UInt64) (h0 : Heap) (n0 : Nat) (Z0 : n0 ≤ h0.size) (fi0 : Exa Z h0 a0 "com/example/octopoll/octopoll/PageHeap") (fi1 : Fld Z h0 a0 "com/example/octopoll/octopoll/PageHeap" "key" "[D" .null) (fi2 : Fld Z h0 a0 "com/example/octopoll/octopoll/PageHeap" "heap" "[I" .null) (fi3 : Fld Z h0 a0 "com/example/octopoll/octopoll/PageHeap" "position" "[I" .null) (fi4 : Fld Z h0 a0 "com/example/octopoll/octopoll/PageHeap" "size" "I" (.int (0 : Int32))) (fi5 : Arv Z h0 ka kk .double (3 : Int32) [(.double d0), (.double d1), (.double d2)] (.double 0)) (g_a0 : n0 ≤ a0) (ne_a0_ka : a0 ≠ ka) :
    MetFree l (⟨"com/example/octopoll/octopoll/PageHeap", "<init>", "([D)V"⟩ : MethodName) (head1 (Jvm.Cond.code (⟨"com/example/octopoll/octopoll/PageHeap", "<init>", "([D)V"⟩ : MethodName) prog_17_method_1_code 2 none :: ws) ({ frames := 1, cells := 2, slots := 6, locals := 15 } : Room)) (fun a U => a = #[(.ref a0), (.ref ka)] ∧ Z.Warmed39 U.vm ∧ U.heap = h0) (fun _ _ _ _ _ => True) (fun _ U o U' => ∃ v L, o = .returned v ∧ Q_ini Z a0 ka kk d0 d1 d2 h0 n0 v U'.heap L ∧ FrameEnd U o U' L ({ frames := 1, cells := 2, slots := 6, locals := 15 } : Room).cells ({ frames := 1, cells := 2, slots := 6, locals := 15 } : Room).slots) := by
  refine MetFree.of_bodySF (plainFor_of_name pn_ini) hisR ?_
  intro p e s m args below meth c s₁ Bd hml0 hP hK
  obtain ⟨rfl, hZ, hh⟩ := hP
  have hx := Bd.exec
  have hby := Bd.bytes
  have hml : c.maxLocals = 2 := hml0
  have hown : s.vm.findClass "com/example/octopoll/octopoll/PageHeap" = some m.cls := findClass_of_methodNamed Bd.named
  have hnm := (name_of_methodNamed Bd.named Bd.method).1
  have X0 : Stand p l e ({ frames := 1, cells := 2, slots := 6, locals := 15 } : Room) s m #[(.ref a0), (.ref ka)] below meth c s₁ [] 0 0 := Stand.of_body Bd
  have e0 : s₁.heap = h0 := by rw [← hh, Bd.state]; rfl
  have N0 := Fr.nil n0
  have pre0 : Go p.tables e below (s₁.setTop (entryFrame m #[(.ref a0), (.ref ka)] 2)) s₁ (mkF m 0 #[.val (.ref a0), .val (.ref ka)] []) := fun t k => castTop (ef_ini m a0 ka) k
  have K0 : Keep h0 h0 [a0] := Keep.refl _ _
  have pre1 : Go p.tables e below (s₁.setTop (entryFrame m #[(.ref a0), (.ref ka)] 2)) s₁ (mkF m 1 #[.val (.ref a0), .val (.ref ka)] [(.ref a0)]) := fun t k => pre0 t (by
      refine XS.aloadN X0.here hx rfl (hb hby d1_0) rfl rfl ?_
      exact k)
  obtain ⟨T2, X2, e2, st2⟩ := initO X0 hx hZ hown (hw _ (List.mem_of_getElem? (i := 7) rfl)) (hw _ (List.mem_of_getElem? (i := 8) rfl)) (hw _ (List.mem_of_getElem? (i := 9) rfl)) e0 (g := (mkF m 1 #[.val (.ref a0), .val (.ref ka)] [(.ref a0)])) rfl (by rw [hml]; rfl) rfl (hb hby d1_1) (by decide) (W := 0) (by show 2 * 0 + _ ≤ _; exact Nat.le_of_eq rfl) (by decide)
  have pre2 : Go p.tables e below (s₁.setTop (entryFrame m #[(.ref a0), (.ref ka)] 2)) T2 (mkF m 4 #[.val (.ref a0), .val (.ref ka)] []) := fun t k => pre1 t (st2 _ k)
  have pre3 : Go p.tables e below (s₁.setTop (entryFrame m #[(.ref a0), (.ref ka)] 2)) T2 (mkF m 6 #[.val (.ref a0), .val (.ref ka)] [(.ref ka), (.ref a0)]) := fun t k => pre2 t (by
      refine XS.aloadN X2.here hx rfl (hb hby d1_4) rfl rfl ?_
      show Steps p.tables e below (T2.setTop (mkF m 5 #[.val (.ref a0), .val (.ref ka)] [(.ref a0)])) _
      refine XS.aloadN X2.here hx rfl (hb hby d1_5) rfl rfl ?_
      exact k)
  obtain ⟨T4, h4, X4, e4, W4, st4⟩ := putF X2 hx hZ hown (host := "") (Or.inl (hw _ (List.mem_of_getElem? (i := 10) rfl))) Via.refl e2 fi1 fi0 (Or.inr ⟨(hw _ (List.mem_of_getElem? (i := 11) rfl)), rfl, hnm⟩) (hw _ (List.mem_of_getElem? (i := 2) rfl)) (ty := (.array .double)) (by decide) rfl rfl (g := (mkF m 6 #[.val (.ref a0), .val (.ref ka)] [(.ref ka), (.ref a0)])) rfl rfl (hb hby d1_6)
  have N4 := Fr.snoc X4 N0 g_a0
  have f5 : n0 ≤ h4.size := Nat.le_trans Z0 (Keep.of_wr W4).1
  have f6 : Exa Z h4 a0 "com/example/octopoll/octopoll/PageHeap" := fi0.wr W4
  have f7 : Fld Z h4 a0 "com/example/octopoll/octopoll/PageHeap" "key" "[D" (.ref ka) := fi1.same W4
  have f8 : Fld Z h4 a0 "com/example/octopoll/octopoll/PageHeap" "heap" "[I" .null := fi2.other W4 (Or.inr (slot_ne (Or.inr (hw _ (List.mem_of_getElem? (i := 14) rfl))) (Or.inr (hw _ (List.mem_of_getElem? (i := 11) rfl))) (by decide) (t := (.array .int)) (t' := (.array .double)) (by decide) (by decide)))
  have f9 : Fld Z h4 a0 "com/example/octopoll/octopoll/PageHeap" "position" "[I" .null := fi3.other W4 (Or.inr (slot_ne (Or.inr (hw _ (List.mem_of_getElem? (i := 16) rfl))) (Or.inr (hw _ (List.mem_of_getElem? (i := 11) rfl))) (by decide) (t := (.array .int)) (t' := (.array .double)) (by decide) (by decide)))
  have f10 : Fld Z h4 a0 "com/example/octopoll/octopoll/PageHeap" "size" "I" (.int (0 : Int32)) := fi4.other W4 (Or.inr (slot_ne (Or.inl (hw _ (List.mem_of_getElem? (i := 27) rfl))) (Or.inr (hw _ (List.mem_of_getElem? (i := 11) rfl))) (by decide) (t := .int) (t' := (.array .double)) (by decide) (by decide)))
  have f11 : Arv Z h4 ka kk .double (3 : Int32) [(.double d0), (.double d1), (.double d2)] (.double 0) := fi5.other W4 ne_a0_ka.symm
  have f12 : Keep h0 h4 [a0] := K0.wr W4 (Or.inl (List.mem_of_getElem? (i := 0) rfl))
  have pre4 : Go p.tables e below (s₁.setTop (entryFrame m #[(.ref a0), (.ref ka)] 2)) T4 (mkF m 9 #[.val (.ref a0), .val (.ref ka)] []) := fun t k => pre3 t (st4 _ k)
  have pre13 : Go p.tables e below (s₁.setTop (entryFrame m #[(.ref a0), (.ref ka)] 2)) T4 (mkF m 11 #[.val (.ref a0), .val (.ref ka)] [(.ref ka), (.ref a0)]) := fun t k => pre4 t (by
      refine XS.aloadN X4.here hx rfl (hb hby d1_9) rfl rfl ?_
      show Steps p.tables e below (T4.setTop (mkF m 10 #[.val (.ref a0), .val (.ref ka)] [(.ref a0)])) _
      refine XS.aloadN X4.here hx rfl (hb hby d1_10) rfl rfl ?_
      exact k)
  obtain ⟨c14, Ar14, q14, S14, M14, H14, G14⟩ := (id f11)
  have pre14 : Go p.tables e below (s₁.setTop (entryFrame m #[(.ref a0), (.ref ka)] 2)) T4 (mkF m 12 #[.val (.ref a0), .val (.ref ka)] [(.int (3 : Int32)), (.ref a0)]) := fun t k => pre13 t (X4.arraylength hx (by rw [e4]; exact Ar14.1) (State.isArrayOf_alike hZ.alike Ar14.2.1) (g := (mkF m 11 #[.val (.ref a0), .val (.ref ka)] [(.ref ka), (.ref a0)])) rfl rfl (hb hby d1_11) _ (by rw [len_of S14 M14]; exact k))
  obtain ⟨T15, h15, k15, X15, e15, E15, A15, st15⟩ := newP X4 hx hZ (hw _ (List.mem_of_getElem? (i := 12) rfl)) e4 (g := (mkF m 12 #[.val (.ref a0), .val (.ref ka)] [(.int (3 : Int32)), (.ref a0)])) rfl (hb hby d1_12) rfl (by decide) (cap := 3) (by decide) (by decide) (by decide) (by decide)
  obtain ⟨b15, ga15⟩ : ∃ z, z = h4.size := ⟨_, rfl⟩
  rw [← ga15] at A15 st15
  have ne16 : a0 ≠ b15 := Nat.ne_of_lt (Nat.lt_of_lt_of_le f6.lt (Nat.le_of_eq ga15.symm))
  have ne17 : ka ≠ b15 := Nat.ne_of_lt (Nat.lt_of_lt_of_le f11.lt (Nat.le_of_eq ga15.symm))
  have g18 : n0 ≤ b15 := Nat.le_trans f5 (Nat.le_of_eq ga15.symm)
  have sz19 : h0.size ≤ b15 := Nat.le_trans f12.1 (Nat.le_of_eq ga15.symm)
  have f20 : n0 ≤ h15.size := Nat.le_trans f5 E15.1
  have f21 : Exa Z h15 a0 "com/example/octopoll/octopoll/PageHeap" := f6.ext E15
  have f22 : Fld Z h15 a0 "com/example/octopoll/octopoll/PageHeap" "key" "[D" (.ref ka) := f7.ext E15
  have f23 : Fld Z h15 a0 "com/example/octopoll/octopoll/PageHeap" "heap" "[I" .null := f8.ext E15
  have f24 : Fld Z h15 a0 "com/example/octopoll/octopoll/PageHeap" "position" "[I" .null := f9.ext E15
  have f25 : Fld Z h15 a0 "com/example/octopoll/octopoll/PageHeap" "size" "I" (.int (0 : Int32)) := f10.ext E15
  have f26 : Arv Z h15 ka kk .double (3 : Int32) [(.double d0), (.double d1), (.double d2)] (.double 0) := f11.ext E15
  have f27 : Keep h0 h15 [a0] := f12.ext E15
  have f28 : Arv Z h15 b15 k15 .int (3 : Int32) [(.int (0 : Int32)), (.int (0 : Int32)), (.int (0 : Int32))] (.int (0 : Int32)) := (Arv.new A15 (by decide)).pad (pad_rep [] (.int (0 : Int32)) 3)
  have pre15 : Go p.tables e below (s₁.setTop (entryFrame m #[(.ref a0), (.ref ka)] 2)) T15 (mkF m 14 #[.val (.ref a0), .val (.ref ka)] [(.ref b15), (.ref a0)]) := fun t k => pre14 t (st15 _ k)
  obtain ⟨T29, h29, X29, e29, W29, st29⟩ := putF X15 hx hZ hown (host := "") (Or.inl (hw _ (List.mem_of_getElem? (i := 13) rfl))) Via.refl e15 f23 f21 (Or.inr ⟨(hw _ (List.mem_of_getElem? (i := 14) rfl)), rfl, hnm⟩) (hw _ (List.mem_of_getElem? (i := 2) rfl)) (ty := (.array .int)) (by decide) rfl rfl (g := (mkF m 14 #[.val (.ref a0), .val (.ref ka)] [(.ref b15), (.ref a0)])) rfl rfl (hb hby d1_14)
  have N29 := Fr.snoc X29 N4 g_a0
  have f30 : n0 ≤ h29.size := Nat.le_trans f20 (Keep.of_wr W29).1
  have f31 : Exa Z h29 a0 "com/example/octopoll/octopoll/PageHeap" := f21.wr W29
  have f32 : Fld Z h29 a0 "com/example/octopoll/octopoll/PageHeap" "key" "[D" (.ref ka) := f22.other W29 (Or.inr (slot_ne (Or.inr (hw _ (List.mem_of_getElem? (i := 11) rfl))) (Or.inr (hw _ (List.mem_of_getElem? (i := 14) rfl))) (by decide) (t := (.array .double)) (t' := (.array .int)) (by decide) (by decide)))
  have f33 : Fld Z h29 a0 "com/example/octopoll/octopoll/PageHeap" "heap" "[I" (.ref b15) := f23.same W29
  have f34 : Fld Z h29 a0 "com/example/octopoll/octopoll/PageHeap" "position" "[I" .null := f24.other W29 (Or.inr (slot_ne (Or.inr (hw _ (List.mem_of_getElem? (i := 16) rfl))) (Or.inr (hw _ (List.mem_of_getElem? (i := 14) rfl))) (by decide) (t := (.array .int)) (t' := (.array .int)) (by decide) (by decide)))
  have f35 : Fld Z h29 a0 "com/example/octopoll/octopoll/PageHeap" "size" "I" (.int (0 : Int32)) := f25.other W29 (Or.inr (slot_ne (Or.inl (hw _ (List.mem_of_getElem? (i := 27) rfl))) (Or.inr (hw _ (List.mem_of_getElem? (i := 14) rfl))) (by decide) (t := .int) (t' := (.array .int)) (by decide) (by decide)))
  have f36 : Arv Z h29 ka kk .double (3 : Int32) [(.double d0), (.double d1), (.double d2)] (.double 0) := f26.other W29 ne_a0_ka.symm
  have f37 : Keep h0 h29 [a0] := f27.wr W29 (Or.inl (List.mem_of_getElem? (i := 0) rfl))
  have f38 : Arv Z h29 b15 k15 .int (3 : Int32) [(.int (0 : Int32)), (.int (0 : Int32)), (.int (0 : Int32))] (.int (0 : Int32)) := f28.other W29 ne16.symm
  have pre29 : Go p.tables e below (s₁.setTop (entryFrame m #[(.ref a0), (.ref ka)] 2)) T29 (mkF m 17 #[.val (.ref a0), .val (.ref ka)] []) := fun t k => pre15 t (st29 _ k)
  have pre39 : Go p.tables e below (s₁.setTop (entryFrame m #[(.ref a0), (.ref ka)] 2)) T29 (mkF m 19 #[.val (.ref a0), .val (.ref ka)] [(.ref ka), (.ref a0)]) := fun t k => pre29 t (by
      refine XS.aloadN X29.here hx rfl (hb hby d1_17) rfl rfl ?_
      show Steps p.tables e below (T29.setTop (mkF m 18 #[.val (.ref a0), .val (.ref ka)] [(.ref a0)])) _
      refine XS.aloadN X29.here hx rfl (hb hby d1_18) rfl rfl ?_
      exact k)
  obtain ⟨c40, Ar40, q40, S40, M40, H40, G40⟩ := (id f36)
  have pre40 : Go p.tables e below (s₁.setTop (entryFrame m #[(.ref a0), (.ref ka)] 2)) T29 (mkF m 20 #[.val (.ref a0), .val (.ref ka)] [(.int (3 : Int32)), (.ref a0)]) := fun t k => pre39 t (X29.arraylength hx (by rw [e29]; exact Ar40.1) (State.isArrayOf_alike hZ.alike Ar40.2.1) (g := (mkF m 19 #[.val (.ref a0), .val (.ref ka)] [(.ref ka), (.ref a0)])) rfl rfl (hb hby d1_19) _ (by rw [len_of S40 M40]; exact k))
  obtain ⟨T41, h41, k41, X41, e41, E41, A41, st41⟩ := newP X29 hx hZ (hw _ (List.mem_of_getElem? (i := 12) rfl)) e29 (g := (mkF m 20 #[.val (.ref a0), .val (.ref ka)] [(.int (3 : Int32)), (.ref a0)])) rfl (hb hby d1_20) rfl (by decide) (cap := 3) (by decide) (by decide) (by decide) (by decide)
  obtain ⟨b41, ga41⟩ : ∃ z, z = h29.size := ⟨_, rfl⟩
  rw [← ga41] at A41 st41
  have ne42 : a0 ≠ b41 := Nat.ne_of_lt (Nat.lt_of_lt_of_le f31.lt (Nat.le_of_eq ga41.symm))
  have ne43 : ka ≠ b41 := Nat.ne_of_lt (Nat.lt_of_lt_of_le f36.lt (Nat.le_of_eq ga41.symm))
  have ne44 : b15 ≠ b41 := Nat.ne_of_lt (Nat.lt_of_lt_of_le f38.lt (Nat.le_of_eq ga41.symm))
  have g45 : n0 ≤ b41 := Nat.le_trans f30 (Nat.le_of_eq ga41.symm)
  have sz46 : h0.size ≤ b41 := Nat.le_trans f37.1 (Nat.le_of_eq ga41.symm)
  have f47 : n0 ≤ h41.size := Nat.le_trans f30 E41.1
  have f48 : Exa Z h41 a0 "com/example/octopoll/octopoll/PageHeap" := f31.ext E41
  have f49 : Fld Z h41 a0 "com/example/octopoll/octopoll/PageHeap" "key" "[D" (.ref ka) := f32.ext E41
  have f50 : Fld Z h41 a0 "com/example/octopoll/octopoll/PageHeap" "heap" "[I" (.ref b15) := f33.ext E41
  have f51 : Fld Z h41 a0 "com/example/octopoll/octopoll/PageHeap" "position" "[I" .null := f34.ext E41
  have f52 : Fld Z h41 a0 "com/example/octopoll/octopoll/PageHeap" "size" "I" (.int (0 : Int32)) := f35.ext E41
  have f53 : Arv Z h41 ka kk .double (3 : Int32) [(.double d0), (.double d1), (.double d2)] (.double 0) := f36.ext E41
  have f54 : Keep h0 h41 [a0] := f37.ext E41
  have f55 : Arv Z h41 b15 k15 .int (3 : Int32) [(.int (0 : Int32)), (.int (0 : Int32)), (.int (0 : Int32))] (.int (0 : Int32)) := f38.ext E41
  have f56 : Arv Z h41 b41 k41 .int (3 : Int32) [(.int (0 : Int32)), (.int (0 : Int32)), (.int (0 : Int32))] (.int (0 : Int32)) := (Arv.new A41 (by decide)).pad (pad_rep [] (.int (0 : Int32)) 3)
  have pre41 : Go p.tables e below (s₁.setTop (entryFrame m #[(.ref a0), (.ref ka)] 2)) T41 (mkF m 22 #[.val (.ref a0), .val (.ref ka)] [(.ref b41), (.ref a0)]) := fun t k => pre40 t (st41 _ k)
  obtain ⟨T57, h57, X57, e57, W57, st57⟩ := putF X41 hx hZ hown (host := "") (Or.inl (hw _ (List.mem_of_getElem? (i := 15) rfl))) Via.refl e41 f51 f48 (Or.inr ⟨(hw _ (List.mem_of_getElem? (i := 16) rfl)), rfl, hnm⟩) (hw _ (List.mem_of_getElem? (i := 2) rfl)) (ty := (.array .int)) (by decide) rfl rfl (g := (mkF m 22 #[.val (.ref a0), .val (.ref ka)] [(.ref b41), (.ref a0)])) rfl rfl (hb hby d1_22)
  have N57 := Fr.snoc X57 N29 g_a0
  have f58 : n0 ≤ h57.size := Nat.le_trans f47 (Keep.of_wr W57).1
  have f59 : Exa Z h57 a0 "com/example/octopoll/octopoll/PageHeap" := f48.wr W57
  have f60 : Fld Z h57 a0 "com/example/octopoll/octopoll/PageHeap" "key" "[D" (.ref ka) := f49.other W57 (Or.inr (slot_ne (Or.inr (hw _ (List.mem_of_getElem? (i := 11) rfl))) (Or.inr (hw _ (List.mem_of_getElem? (i := 16) rfl))) (by decide) (t := (.array .double)) (t' := (.array .int)) (by decide) (by decide)))
  have f61 : Fld Z h57 a0 "com/example/octopoll/octopoll/PageHeap" "heap" "[I" (.ref b15) := f50.other W57 (Or.inr (slot_ne (Or.inr (hw _ (List.mem_of_getElem? (i := 14) rfl))) (Or.inr (hw _ (List.mem_of_getElem? (i := 16) rfl))) (by decide) (t := (.array .int)) (t' := (.array .int)) (by decide) (by decide)))
  have f62 : Fld Z h57 a0 "com/example/octopoll/octopoll/PageHeap" "position" "[I" (.ref b41) := f51.same W57
  have f63 : Fld Z h57 a0 "com/example/octopoll/octopoll/PageHeap" "size" "I" (.int (0 : Int32)) := f52.other W57 (Or.inr (slot_ne (Or.inl (hw _ (List.mem_of_getElem? (i := 27) rfl))) (Or.inr (hw _ (List.mem_of_getElem? (i := 16) rfl))) (by decide) (t := .int) (t' := (.array .int)) (by decide) (by decide)))
  have f64 : Arv Z h57 ka kk .double (3 : Int32) [(.double d0), (.double d1), (.double d2)] (.double 0) := f53.other W57 ne_a0_ka.symm
  have f65 : Keep h0 h57 [a0] := f54.wr W57 (Or.inl (List.mem_of_getElem? (i := 0) rfl))
  have f66 : Arv Z h57 b15 k15 .int (3 : Int32) [(.int (0 : Int32)), (.int (0 : Int32)), (.int (0 : Int32))] (.int (0 : Int32)) := f55.other W57 ne16.symm
  have f67 : Arv Z h57 b41 k41 .int (3 : Int32) [(.int (0 : Int32)), (.int (0 : Int32)), (.int (0 : Int32))] (.int (0 : Int32)) := f56.other W57 ne42.symm
  have pre57 : Go p.tables e below (s₁.setTop (entryFrame m #[(.ref a0), (.ref ka)] 2)) T57 (mkF m 25 #[.val (.ref a0), .val (.ref ka)] []) := fun t k => pre41 t (st57 _ k)
  have pre68 : Go p.tables e below (s₁.setTop (entryFrame m #[(.ref a0), (.ref ka)] 2)) T57 (mkF m 26 #[.val (.ref a0), .val (.ref ka)] [(.ref a0)]) := fun t k => pre57 t (by
      refine XS.aloadN X57.here hx rfl (hb hby d1_25) rfl rfl ?_
      exact k)
  obtain ⟨T69, X69, e69, st69⟩ := getF X57 hx hZ hown (host := "") (Or.inl (hw _ (List.mem_of_getElem? (i := 15) rfl))) Via.refl e57 f62 (g := (mkF m 26 #[.val (.ref a0), .val (.ref ka)] [(.ref a0)])) rfl rfl (hb hby d1_26)
  have pre69 : Go p.tables e below (s₁.setTop (entryFrame m #[(.ref a0), (.ref ka)] 2)) T69 (mkF m 29 #[.val (.ref a0), .val (.ref ka)] [(.ref b41)]) := fun t k => pre68 t (st69 _ k)
  have pre70 : Go p.tables e below (s₁.setTop (entryFrame m #[(.ref a0), (.ref ka)] 2)) T69 (mkF m 30 #[.val (.ref a0), .val (.ref ka)] [(.int (-1 : Int32)), (.ref b41)]) := fun t k => pre69 t (by
      refine XS.iconst X69.here hx rfl (hb hby d1_29) ?_
      exact k)
  obtain ⟨_, _, ⟨T71, L71, k71, n71⟩, -, X71, ⟨Lc71, hQ71, l71, y71, z71⟩, st71⟩ := Jvm.LawKit.callS X69 hx (y := (⟨"java/util/Arrays", "fill", "([II)V"⟩ : MethodName)) hown (mvT hZ (hw _ (List.mem_of_getElem? (i := 17) rfl))) (mvT hZ (hw _ (List.mem_of_getElem? (i := 18) rfl))) (mvT hZ (hw _ (List.mem_of_getElem? (i := 19) rfl))) (mvT hZ (hw _ (List.mem_of_getElem? (i := 20) rfl))) (by decide) (backOf (W := 0) (rm_fil l Z av0 hw [] b41 k41 (0 : Int32) (0 : Int32) (0 : Int32) h57 n0 f58 f67 g45) hZ (hw _ (List.mem_of_getElem? (i := 20) rfl)) (hw _ (List.mem_of_getElem? (i := 19) rfl)) (by decide) (by decide)) (g := (mkF m 30 #[.val (.ref a0), .val (.ref ka)] [(.int (-1 : Int32)), (.ref b41)])) rfl (by rw [hml]; rfl) (argsL := [(.ref b41), (.int (-1 : Int32))]) (rest := []) (lenOf pd_3 rfl) rfl (by show 2 * 0 + _ ≤ _; exact Nat.le_of_eq rfl) (hb hby d1_30) (fun _ _ => ⟨rfl, e69, (by decide : 2 + 0 ≤ _), (by decide : 6 + 0 ≤ _)⟩)
  dsimp only [Pt.U, Pt.locs, Pt.cells, Pt.slots] at X71 l71 y71 z71 st71 hQ71
  subst l71 y71 z71
  obtain ⟨hv71, N71q, K71, fo71_0⟩ := hQ71
  have f72 : n0 ≤ T71.heap.size := Nat.le_trans f58 K71.1
  have f73 : Exa Z T71.heap a0 "com/example/octopoll/octopoll/PageHeap" := f59.keep K71
  have f74 : Fld Z T71.heap a0 "com/example/octopoll/octopoll/PageHeap" "key" "[D" (.ref ka) := f60.keep K71 (ninS ne42 nin0)
  have f75 : Fld Z T71.heap a0 "com/example/octopoll/octopoll/PageHeap" "heap" "[I" (.ref b15) := f61.keep K71 (ninS ne42 nin0)
  have f76 : Fld Z T71.heap a0 "com/example/octopoll/octopoll/PageHeap" "position" "[I" (.ref b41) := f62.keep K71 (ninS ne42 nin0)
  have f77 : Fld Z T71.heap a0 "com/example/octopoll/octopoll/PageHeap" "size" "I" (.int (0 : Int32)) := f63.keep K71 (ninS ne42 nin0)
  have f78 : Arv Z T71.heap ka kk .double (3 : Int32) [(.double d0), (.double d1), (.double d2)] (.double 0) := f64.keep K71 (ninS ne43 nin0)
  have f79 : Keep h0 T71.heap [a0] := f65.trans K71 (allS (Or.inr sz46) all0)
  have f80 : Arv Z T71.heap b15 k15 .int (3 : Int32) [(.int (0 : Int32)), (.int (0 : Int32)), (.int (0 : Int32))] (.int (0 : Int32)) := f66.keep K71 (ninS ne44 nin0)
  subst hv71
  have N71 := Fr.app N57 N71q
  have pre71 : Go p.tables e below (s₁.setTop (entryFrame m #[(.ref a0), (.ref ka)] 2)) T71 (mkF m 33 #[.val (.ref a0), .val (.ref ka)] []) := fun t k => pre70 t (st71 _ k)
  obtain ⟨fs, hr, hrun, hended, hW, hsame⟩ := X71.leave (v := none) (fun _ => rfl) (BodyLoose.notSynchronized Bd)
  refine ⟨_, _, pre71 _ ?_, hrun, hended, _, _, rfl, ?_, ⟨_, rfl⟩, hW, hsame.mono (Nat.le_of_ble_eq_true rfl) (Nat.le_of_ble_eq_true rfl)⟩
  · exact X71.returnOut hx Bd.returns (hb hby d1_33) hr
  · show Q_ini Z a0 ka kk d0 d1 d2 h0 n0 _ T71.heap _
    exact ⟨b15, b41, k15, k41, rfl, N71, f79, sz19, g18, sz46, g45, f73, f74, f75, f76, f77, f80, fo71_0, ne44⟩
theorem d4_0 : decode prog_17_method_2_code 0 = .ok (.aload_n 0, 1) := by decide +kernel
theorem d4_1 : decode prog_17_method_2_code 1 = .ok (.getfield 26, 3) := by decide +kernel
theorem d4_4 : decode prog_17_method_2_code 4 = .ok (.ifCond .ne 7, 3) := by decide +kernel
theorem d4_7 : decode prog_17_method_2_code 7 = .ok (.iconst 1, 1) := by decide +kernel
theorem d4_8 : decode prog_17_method_2_code 8 = .ok (.goto 4, 3) := by decide +kernel
theorem d4_11 : decode prog_17_method_2_code 11 = .ok (.iconst 0, 1) := by decide +kernel
theorem d4_12 : decode prog_17_method_2_code 12 = .ok (.ireturn, 1) := by decide +kernel
theorem pn_ise : plainName "com/example/octopoll/octopoll/PageHeap" = true := by first | (simp [plainName, overriddenIn]; done) | decide +kernel
theorem ef_ise (m : MethodId) (a0 : Addr) : entryFrame m #[(.ref a0)] 1 = mkF m 0 #[.val (.ref a0)] [] := by first | (simp [entryFrame, mkF, argsToLocals, Value.category]; done) | rfl
def Q_ise (Z : State) (a0 : Addr) (n0v : Int32) (h0 : Heap) (n0 : Nat) (v : Option Value) (h : Heap) (L : List Loc) : Prop := v = some (.int (own_e n0v)) ∧ Fr n0 L ∧ h = h0
set_option maxRecDepth 65536 in
set_option maxHeartbeats 40000000 in
theorem rm_ise (l : Launch) (Z : State) (av0 : Array Value) (hw : ∀ d ∈ tables_1, d.before av0 Z = true) (ws : List Jvm.Cond) (a0 : Addr) (n0v : Int32) (h0 : Heap) (n0 : Nat) (fi0 : Fld Z h0 a0 "com/example/octopoll/octopoll/PageHeap" "size" "I" (.int n0v)) :
    MetFree l (⟨"com/example/octopoll/octopoll/PageHeap", "isEmpty", "()Z"⟩ : MethodName) (head1 (Jvm.Cond.code (⟨"com/example/octopoll/octopoll/PageHeap", "isEmpty", "()Z"⟩ : MethodName) prog_17_method_2_code 1 (some .boolean) :: ws) ({ frames := 0, cells := 0, slots := 0, locals := 0 } : Room)) (fun a U => a = #[(.ref a0)] ∧ Z.Warmed39 U.vm ∧ U.heap = h0) (fun _ _ _ _ _ => True) (fun _ U o U' => ∃ v L, o = .returned v ∧ Q_ise Z a0 n0v h0 n0 v U'.heap L ∧ FrameEnd U o U' L ({ frames := 0, cells := 0, slots := 0, locals := 0 } : Room).cells ({ frames := 0, cells := 0, slots := 0, locals := 0 } : Room).slots) := by
  refine MetFree.of_bodySF (plainFor_of_name pn_ise) hisR ?_
  intro p e s m args below meth c s₁ Bd hml0 hP hK
  obtain ⟨rfl, hZ, hh⟩ := hP
  have hx := Bd.exec
  have hby := Bd.bytes
  have hml : c.maxLocals = 1 := hml0
  have hown : s.vm.findClass "com/example/octopoll/octopoll/PageHeap" = some m.cls := findClass_of_methodNamed Bd.named
  have hnm := (name_of_methodNamed Bd.named Bd.method).1
  have X0 : Stand p l e ({ frames := 0, cells := 0, slots := 0, locals := 0 } : Room) s m #[(.ref a0)] below meth c s₁ [] 0 0 := Stand.of_body Bd
  have e0 : s₁.heap = h0 := by rw [← hh, Bd.state]; rfl
  have N0 := Fr.nil n0
  have pre0 : Go p.tables e below (s₁.setTop (entryFrame m #[(.ref a0)] 1)) s₁ (mkF m 0 #[.val (.ref a0)] []) := fun t k => castTop (ef_ise m a0) k
  have pre1 : Go p.tables e below (s₁.setTop (entryFrame m #[(.ref a0)] 1)) s₁ (mkF m 1 #[.val (.ref a0)] [(.ref a0)]) := fun t k => pre0 t (by
      refine XS.aloadN X0.here hx rfl (hb hby d4_0) rfl rfl ?_
      exact k)
  obtain ⟨T2, X2, e2, st2⟩ := getF X0 hx hZ hown (host := "") (Or.inl (hw _ (List.mem_of_getElem? (i := 26) rfl))) Via.refl e0 fi0 (g := (mkF m 1 #[.val (.ref a0)] [(.ref a0)])) rfl rfl (hb hby d4_1)
  have pre2 : Go p.tables e below (s₁.setTop (entryFrame m #[(.ref a0)] 1)) T2 (mkF m 4 #[.val (.ref a0)] [(.int n0v)]) := fun t k => pre1 t (st2 _ k)
  by_cases hc3 : n0v = (0 : Int32)
  · -- hc3: True
    have pre4 : Go p.tables e below (s₁.setTop (entryFrame m #[(.ref a0)] 1)) T2 (mkF m 12 #[.val (.ref a0)] [(.int (1 : Int32))]) := fun t k => pre2 t (by
        refine XS.ifNo X2.here hx rfl (hb hby d4_4) rfl ((if0 _ _).trans (teq hc3).2) ?_
        show Steps p.tables e below (T2.setTop (mkF m 7 #[.val (.ref a0)] [])) _
        refine XS.iconst X2.here hx rfl (hb hby d4_7) ?_
        show Steps p.tables e below (T2.setTop (mkF m 8 #[.val (.ref a0)] [(.int (1 : Int32))])) _
        refine XS.goto X2.here hx rfl (pc0 := 8) (pc' := 12) rfl (hb hby d4_8) (by decide) (by decide) ?_
        exact k)
    obtain ⟨fs, hr, hrun, hended, hW, hsame⟩ := X2.leave (v := some (.int (1 : Int32))) (fun h => by rw [Bd.returns] at h; cases h) (BodyLoose.notSynchronized Bd)
    refine ⟨_, _, pre4 _ ?_, hrun, hended, _, _, rfl, ?_, ⟨_, rfl⟩, hW, hsame.mono (Nat.le_of_ble_eq_true rfl) (Nat.le_of_ble_eq_true rfl)⟩
    · exact retN X2 hx (t := .boolean) Bd.returns (by simp) (hb hby d4_12) hr
    · show Q_ise Z a0 n0v h0 n0 _ T2.heap _
      rw [e2]
      exact ⟨(by simp [own_e, hc3]), N0, rfl⟩
  · -- hc3: False
    have pre5 : Go p.tables e below (s₁.setTop (entryFrame m #[(.ref a0)] 1)) T2 (mkF m 12 #[.val (.ref a0)] [(.int (0 : Int32))]) := fun t k => pre2 t (by
        refine XS.ifYes X2.here hx rfl (pc0 := 4) (pc' := 11) rfl (hb hby d4_4) rfl ((if0 _ _).trans (feq hc3).2) (by decide) (by decide) ?_
        show Steps p.tables e below (T2.setTop (mkF m 11 #[.val (.ref a0)] [])) _
        refine XS.iconst X2.here hx rfl (hb hby d4_11) ?_
        exact k)
    obtain ⟨fs, hr, hrun, hended, hW, hsame⟩ := X2.leave (v := some (.int (0 : Int32))) (fun h => by rw [Bd.returns] at h; cases h) (BodyLoose.notSynchronized Bd)
    refine ⟨_, _, pre5 _ ?_, hrun, hended, _, _, rfl, ?_, ⟨_, rfl⟩, hW, hsame.mono (Nat.le_of_ble_eq_true rfl) (Nat.le_of_ble_eq_true rfl)⟩
    · exact retN X2 hx (t := .boolean) Bd.returns (by simp) (hb hby d4_12) hr
    · show Q_ise Z a0 n0v h0 n0 _ T2.heap _
      rw [e2]
      exact ⟨(by simp [own_e, hc3]), N0, rfl⟩
theorem pn_law : plainName "com/example/octopoll/octopoll/PageHeapIsEmptyPinLaw" = true := by first | (simp [plainName, overriddenIn]; done) | decide +kernel
theorem ef_law (m : MethodId) (u0 : Int32) (u1 : Int32) (u2 : Int32) (u3 : Int32) (u4 : Int32) : entryFrame m #[(.int u0), (.int u1), (.int u2), (.int u3), (.int u4)] maxLocals = mkF m 0 #[.val (.int u0), .val (.int u1), .val (.int u2), .val (.int u3), .val (.int u4), .unset, .unset, .unset, .unset, .unset, .unset] [] := by first | (simp [entryFrame, mkF, argsToLocals, Value.category, maxLocals]; done) | rfl
def Q_law (Z : State) (u0 : Int32) (u1 : Int32) (u2 : Int32) (u3 : Int32) (u4 : Int32) (h0 : Heap) (n0 : Nat) (v : Option Value) (h : Heap) (L : List Loc) : Prop := v = some (.int 1) ∧ Fr n0 L
set_option maxRecDepth 65536 in
set_option maxHeartbeats 40000000 in
theorem rm_law (l : Launch) (Z : State) (av0 : Array Value) (hw : ∀ d ∈ tables_1, d.before av0 Z = true) (ws : List Jvm.Cond) (u0 : Int32) (u1 : Int32) (u2 : Int32) (u3 : Int32) (u4 : Int32) (h0 : Heap) (n0 : Nat) (Z0 : n0 ≤ h0.size) :
    MetFree l x (head1 (Jvm.Cond.code x code maxLocals ret :: ws) room_1) (fun a U => a = #[(.int u0), (.int u1), (.int u2), (.int u3), (.int u4)] ∧ Z.Warmed39 U.vm ∧ U.heap = h0) (fun _ _ _ _ _ => True) (fun _ U o U' => ∃ v L, o = .returned v ∧ Q_law Z u0 u1 u2 u3 u4 h0 n0 v U'.heap L ∧ FrameEnd U o U' L room_1.cells room_1.slots) := by
  refine MetFree.of_bodySF (plainFor_of_name pn_law) hisR ?_
  intro p e s m args below meth c s₁ Bd hml0 hP hK
  obtain ⟨rfl, hZ, hh⟩ := hP
  have hx := Bd.exec
  have hby := Bd.bytes
  have hml : c.maxLocals = 11 := hml0
  have hown : s.vm.findClass "com/example/octopoll/octopoll/PageHeapIsEmptyPinLaw" = some m.cls := findClass_of_methodNamed Bd.named
  have hnm := (name_of_methodNamed Bd.named Bd.method).1
  have X0 : Stand p l e room_1 s m #[(.int u0), (.int u1), (.int u2), (.int u3), (.int u4)] below meth c s₁ [] 0 0 := Stand.of_body Bd
  have e0 : s₁.heap = h0 := by rw [← hh, Bd.state]; rfl
  have N0 := Fr.nil n0
  have pre0 : Go p.tables e below (s₁.setTop (entryFrame m #[(.int u0), (.int u1), (.int u2), (.int u3), (.int u4)] maxLocals)) s₁ (mkF m 0 #[.val (.int u0), .val (.int u1), .val (.int u2), .val (.int u3), .val (.int u4), .unset, .unset, .unset, .unset, .unset, .unset] []) := fun t k => castTop (ef_law m u0 u1 u2 u3 u4) k
  have pre1 : Go p.tables e below (s₁.setTop (entryFrame m #[(.int u0), (.int u1), (.int u2), (.int u3), (.int u4)] maxLocals)) s₁ (mkF m 1 #[.val (.int u0), .val (.int u1), .val (.int u2), .val (.int u3), .val (.int u4), .unset, .unset, .unset, .unset, .unset, .unset] [(.int (3 : Int32))]) := fun t k => pre0 t (by
      refine XS.iconst X0.here hx rfl (hb hby at_0) ?_
      exact k)
  obtain ⟨T2, h2, k2, X2, e2, E2, A2, st2⟩ := newP X0 hx hZ (hw _ (List.mem_of_getElem? (i := 0) rfl)) e0 (g := (mkF m 1 #[.val (.int u0), .val (.int u1), .val (.int u2), .val (.int u3), .val (.int u4), .unset, .unset, .unset, .unset, .unset, .unset] [(.int (3 : Int32))])) rfl (hb hby at_1) rfl (by decide) (cap := 3) (by decide) (by decide) (by decide) (by decide)
  obtain ⟨b2, ga2⟩ : ∃ z, z = h0.size := ⟨_, rfl⟩
  rw [← ga2] at A2 st2
  have g3 : n0 ≤ b2 := Nat.le_trans Z0 (Nat.le_of_eq ga2.symm)
  have f4 := Nat.le_trans Z0 E2.1
  have f5 : Arv Z h2 b2 k2 .double (3 : Int32) [(.double 0), (.double 0), (.double 0)] (.double 0) := (Arv.new A2 (by decide)).pad (pad_rep [] (.double 0) 3)
  have pre2 : Go p.tables e below (s₁.setTop (entryFrame m #[(.int u0), (.int u1), (.int u2), (.int u3), (.int u4)] maxLocals)) T2 (mkF m 3 #[.val (.int u0), .val (.int u1), .val (.int u2), .val (.int u3), .val (.int u4), .unset, .unset, .unset, .unset, .unset, .unset] [(.ref b2)]) := fun t k => pre1 t (st2 _ k)
  have pre6 : Go p.tables e below (s₁.setTop (entryFrame m #[(.int u0), (.int u1), (.int u2), (.int u3), (.int u4)] maxLocals)) T2 (mkF m 12 #[.val (.int u0), .val (.int u1), .val (.int u2), .val (.int u3), .val (.int u4), .val (.ref b2), .unset, .unset, .unset, .unset, .unset] [(.double (FP.i2d (u2 &&& (3 : Int32)))), (.int (0 : Int32)), (.ref b2)]) := fun t k => pre2 t (by
      refine XS.astore X2.here hx rfl (hb hby at_3) rfl rfl (l' := #[.val (.int u0), .val (.int u1), .val (.int u2), .val (.int u3), .val (.int u4), .val (.ref b2), .unset, .unset, .unset, .unset, .unset]) rfl ?_
      show Steps p.tables e below (T2.setTop (mkF m 5 #[.val (.int u0), .val (.int u1), .val (.int u2), .val (.int u3), .val (.int u4), .val (.ref b2), .unset, .unset, .unset, .unset, .unset] [])) _
      refine XS.aload X2.here hx rfl (hb hby at_5) rfl rfl ?_
      refine XS.iconst X2.here hx rfl (hb hby at_7) ?_
      refine XS.iloadN X2.here hx rfl (hb hby at_8) rfl ?_
      refine XS.iconst X2.here hx rfl (hb hby at_9) ?_
      refine XS.iand X2.here hx rfl (hb hby at_10) rfl ?_
      refine XS.i2dS X2.here hx rfl (hb hby at_11) rfl rfl ?_
      exact k)
  obtain ⟨c7, Ar7, q7, S7, M7, H7, G7⟩ := (id f5)
  have hin7 : ¬ ((0 : Int32) < 0 ∨ c7.slots.size ≤ ((0 : Int32)).toNatClampNeg) := inb_of S7 ⟨by decide, by decide⟩
  obtain ⟨T7, h7, X7, e7, W7, st7⟩ := stD X2 hx hZ e2 Ar7 (j := (0 : Int32)) hin7 (g := (mkF m 12 #[.val (.int u0), .val (.int u1), .val (.int u2), .val (.int u3), .val (.int u4), .val (.ref b2), .unset, .unset, .unset, .unset, .unset] [(.double (FP.i2d (u2 &&& (3 : Int32)))), (.int (0 : Int32)), (.ref b2)])) rfl rfl (hb hby at_12)
  have fa7 : Arv Z h7 b2 k2 .double (3 : Int32) [(.double (FP.i2d (u2 &&& (3 : Int32)))), (.double 0), (.double 0)] (.double 0) := Arv.set Ar7 q7 S7 M7 H7 G7 rfl W7 0 rfl (Nat.le_of_ble_eq_true rfl)
  have N7 := Fr.snoc X7 N0 g3
  have f8 : n0 ≤ h7.size := Nat.le_trans f4 (Keep.of_wr W7).1
  have pre7 : Go p.tables e below (s₁.setTop (entryFrame m #[(.int u0), (.int u1), (.int u2), (.int u3), (.int u4)] maxLocals)) T7 (mkF m 13 #[.val (.int u0), .val (.int u1), .val (.int u2), .val (.int u3), .val (.int u4), .val (.ref b2), .unset, .unset, .unset, .unset, .unset] []) := fun t k => pre6 t (st7 _ k)
  have pre9 : Go p.tables e below (s₁.setTop (entryFrame m #[(.int u0), (.int u1), (.int u2), (.int u3), (.int u4)] maxLocals)) T7 (mkF m 20 #[.val (.int u0), .val (.int u1), .val (.int u2), .val (.int u3), .val (.int u4), .val (.ref b2), .unset, .unset, .unset, .unset, .unset] [(.double (FP.i2d (u3 &&& (3 : Int32)))), (.int (1 : Int32)), (.ref b2)]) := fun t k => pre7 t (by
      refine XS.aload X7.here hx rfl (hb hby at_13) rfl rfl ?_
      refine XS.iconst X7.here hx rfl (hb hby at_15) ?_
      refine XS.iloadN X7.here hx rfl (hb hby at_16) rfl ?_
      refine XS.iconst X7.here hx rfl (hb hby at_17) ?_
      refine XS.iand X7.here hx rfl (hb hby at_18) rfl ?_
      refine XS.i2dS X7.here hx rfl (hb hby at_19) rfl rfl ?_
      exact k)
  obtain ⟨c10, Ar10, q10, S10, M10, H10, G10⟩ := (id fa7)
  have hin10 : ¬ ((1 : Int32) < 0 ∨ c10.slots.size ≤ ((1 : Int32)).toNatClampNeg) := inb_of S10 ⟨by decide, by decide⟩
  obtain ⟨T10, h10, X10, e10, W10, st10⟩ := stD X7 hx hZ e7 Ar10 (j := (1 : Int32)) hin10 (g := (mkF m 20 #[.val (.int u0), .val (.int u1), .val (.int u2), .val (.int u3), .val (.int u4), .val (.ref b2), .unset, .unset, .unset, .unset, .unset] [(.double (FP.i2d (u3 &&& (3 : Int32)))), (.int (1 : Int32)), (.ref b2)])) rfl rfl (hb hby at_20)
  have fa10 : Arv Z h10 b2 k2 .double (3 : Int32) [(.double (FP.i2d (u2 &&& (3 : Int32)))), (.double (FP.i2d (u3 &&& (3 : Int32)))), (.double 0)] (.double 0) := Arv.set Ar10 q10 S10 M10 H10 G10 rfl W10 1 rfl (Nat.le_of_ble_eq_true rfl)
  have N10 := Fr.snoc X10 N7 g3
  have f11 : n0 ≤ h10.size := Nat.le_trans f8 (Keep.of_wr W10).1
  have pre10 : Go p.tables e below (s₁.setTop (entryFrame m #[(.int u0), (.int u1), (.int u2), (.int u3), (.int u4)] maxLocals)) T10 (mkF m 21 #[.val (.int u0), .val (.int u1), .val (.int u2), .val (.int u3), .val (.int u4), .val (.ref b2), .unset, .unset, .unset, .unset, .unset] []) := fun t k => pre9 t (st10 _ k)
  have pre12 : Go p.tables e below (s₁.setTop (entryFrame m #[(.int u0), (.int u1), (.int u2), (.int u3), (.int u4)] maxLocals)) T10 (mkF m 29 #[.val (.int u0), .val (.int u1), .val (.int u2), .val (.int u3), .val (.int u4), .val (.ref b2), .unset, .unset, .unset, .unset, .unset] [(.double (FP.i2d (u4 &&& (3 : Int32)))), (.int (2 : Int32)), (.ref b2)]) := fun t k => pre10 t (by
      refine XS.aload X10.here hx rfl (hb hby at_21) rfl rfl ?_
      refine XS.iconst X10.here hx rfl (hb hby at_23) ?_
      refine XS.iload X10.here hx rfl (hb hby at_24) rfl ?_
      refine XS.iconst X10.here hx rfl (hb hby at_26) ?_
      refine XS.iand X10.here hx rfl (hb hby at_27) rfl ?_
      refine XS.i2dS X10.here hx rfl (hb hby at_28) rfl rfl ?_
      exact k)
  obtain ⟨c13, Ar13, q13, S13, M13, H13, G13⟩ := (id fa10)
  have hin13 : ¬ ((2 : Int32) < 0 ∨ c13.slots.size ≤ ((2 : Int32)).toNatClampNeg) := inb_of S13 ⟨by decide, by decide⟩
  obtain ⟨T13, h13, X13, e13, W13, st13⟩ := stD X10 hx hZ e10 Ar13 (j := (2 : Int32)) hin13 (g := (mkF m 29 #[.val (.int u0), .val (.int u1), .val (.int u2), .val (.int u3), .val (.int u4), .val (.ref b2), .unset, .unset, .unset, .unset, .unset] [(.double (FP.i2d (u4 &&& (3 : Int32)))), (.int (2 : Int32)), (.ref b2)])) rfl rfl (hb hby at_29)
  have fa13 : Arv Z h13 b2 k2 .double (3 : Int32) [(.double (FP.i2d (u2 &&& (3 : Int32)))), (.double (FP.i2d (u3 &&& (3 : Int32)))), (.double (FP.i2d (u4 &&& (3 : Int32))))] (.double 0) := Arv.set Ar13 q13 S13 M13 H13 G13 rfl W13 2 rfl (Nat.le_of_ble_eq_true rfl)
  have N13 := Fr.snoc X13 N10 g3
  have f14 : n0 ≤ h13.size := Nat.le_trans f11 (Keep.of_wr W13).1
  have pre13 : Go p.tables e below (s₁.setTop (entryFrame m #[(.int u0), (.int u1), (.int u2), (.int u3), (.int u4)] maxLocals)) T13 (mkF m 30 #[.val (.int u0), .val (.int u1), .val (.int u2), .val (.int u3), .val (.int u4), .val (.ref b2), .unset, .unset, .unset, .unset, .unset] []) := fun t k => pre12 t (st13 _ k)
  obtain ⟨T15, h15, X15, e15, E15, A15, D15, -, st15⟩ := newO X13 hx hZ hown (hw _ (List.mem_of_getElem? (i := 1) rfl)) (hw _ (List.mem_of_getElem? (i := 2) rfl)) (hw _ (List.mem_of_getElem? (i := 3) rfl)) e13 (g := (mkF m 30 #[.val (.int u0), .val (.int u1), .val (.int u2), .val (.int u3), .val (.int u4), .val (.ref b2), .unset, .unset, .unset, .unset, .unset] [])) rfl (hb hby at_30) (by decide) (by decide)
  obtain ⟨b15, ga15⟩ : ∃ z, z = h13.size := ⟨_, rfl⟩
  rw [← ga15] at A15 D15 st15
  have ne16 : b2 ≠ b15 := Nat.ne_of_lt (Nat.lt_of_lt_of_le fa13.lt (Nat.le_of_eq ga15.symm))
  have g17 : n0 ≤ b15 := Nat.le_trans f14 (Nat.le_of_eq ga15.symm)
  have f18 := Nat.le_trans f14 E15.1
  have f19 := fa13.ext E15
  have f20 : Fld Z h15 b15 "com/example/octopoll/octopoll/PageHeap" "key" "[D" .null := D15 (Or.inr (hw _ (List.mem_of_getElem? (i := 11) rfl))) (ty := (.array .double)) (by decide)
  have f21 : Fld Z h15 b15 "com/example/octopoll/octopoll/PageHeap" "heap" "[I" .null := D15 (Or.inr (hw _ (List.mem_of_getElem? (i := 14) rfl))) (ty := (.array .int)) (by decide)
  have f22 : Fld Z h15 b15 "com/example/octopoll/octopoll/PageHeap" "position" "[I" .null := D15 (Or.inr (hw _ (List.mem_of_getElem? (i := 16) rfl))) (ty := (.array .int)) (by decide)
  have f23 : Fld Z h15 b15 "com/example/octopoll/octopoll/PageHeap" "size" "I" (.int (0 : Int32)) := D15 (Or.inl (hw _ (List.mem_of_getElem? (i := 27) rfl))) (ty := .int) (by decide)
  have pre15 : Go p.tables e below (s₁.setTop (entryFrame m #[(.int u0), (.int u1), (.int u2), (.int u3), (.int u4)] maxLocals)) T15 (mkF m 33 #[.val (.int u0), .val (.int u1), .val (.int u2), .val (.int u3), .val (.int u4), .val (.ref b2), .unset, .unset, .unset, .unset, .unset] [(.ref b15)]) := fun t k => pre13 t (st15 _ k)
  have pre24 : Go p.tables e below (s₁.setTop (entryFrame m #[(.int u0), (.int u1), (.int u2), (.int u3), (.int u4)] maxLocals)) T15 (mkF m 36 #[.val (.int u0), .val (.int u1), .val (.int u2), .val (.int u3), .val (.int u4), .val (.ref b2), .unset, .unset, .unset, .unset, .unset] [(.ref b2), (.ref b15), (.ref b15)]) := fun t k => pre15 t (by
      refine XS.dup X15.here hx rfl (hb hby at_33) rfl rfl ?_
      show Steps p.tables e below (T15.setTop (mkF m 34 #[.val (.int u0), .val (.int u1), .val (.int u2), .val (.int u3), .val (.int u4), .val (.ref b2), .unset, .unset, .unset, .unset, .unset] [(.ref b15), (.ref b15)])) _
      refine XS.aload X15.here hx rfl (hb hby at_34) rfl rfl ?_
      exact k)
  obtain ⟨_, _, ⟨T25, L25, k25, n25⟩, -, X25, ⟨Lc25, hQ25, l25, y25, z25⟩, st25⟩ := X15.specialBack hx (y := (⟨"com/example/octopoll/octopoll/PageHeap", "<init>", "([D)V"⟩ : MethodName)) rfl hown (mvT hZ (hw _ (List.mem_of_getElem? (i := 4) rfl))) (mvT hZ (hw _ (List.mem_of_getElem? (i := 5) rfl))) (mvT hZ (hw _ (List.mem_of_getElem? (i := 6) rfl))) (by decide) (backOf (W := 1) (rm_ini l Z av0 hw [] b15 b2 k2 (FP.i2d (u2 &&& (3 : Int32))) (FP.i2d (u3 &&& (3 : Int32))) (FP.i2d (u4 &&& (3 : Int32))) h15 n0 f18 A15 f20 f21 f22 f23 f19 g17 ne16.symm) hZ (hw _ (List.mem_of_getElem? (i := 6) rfl)) (hw _ (List.mem_of_getElem? (i := 3) rfl)) (by decide) (by decide)) (g := (mkF m 36 #[.val (.int u0), .val (.int u1), .val (.int u2), .val (.int u3), .val (.int u4), .val (.ref b2), .unset, .unset, .unset, .unset, .unset] [(.ref b2), (.ref b15), (.ref b15)])) rfl (by rw [hml]; rfl) (Steps.refl _) (a := b15) (argsL := [(.ref b2)]) (rest := [(.ref b15)]) (lenOf pd_4 rfl) rfl (by show 2 * 0 + _ ≤ _; exact Nat.le_of_eq rfl) (hb hby at_36) (fun _ _ => ⟨rfl, e15, (by decide : 2 + 2 ≤ _), (by decide : 7 + 6 ≤ _)⟩)
  dsimp only [Pt.U, Pt.locs, Pt.cells, Pt.slots] at X25 l25 y25 z25 st25 hQ25
  subst l25 y25 z25
  obtain ⟨ha25, pa25, kh25, kp25, hv25, N25q, K25, sha25, gha25, spa25, gpa25, fo25_0, fo25_1, fo25_2, fo25_3, fo25_4, fo25_5, fo25_6, po25_0⟩ := hQ25
  have ne26 : b2 ≠ ha25 := Nat.ne_of_lt (Nat.lt_of_lt_of_le f19.lt sha25)
  have ne27 : b15 ≠ ha25 := Nat.ne_of_lt (Nat.lt_of_lt_of_le A15.lt sha25)
  have g28 : n0 ≤ ha25 := Nat.le_trans f18 sha25
  have ne29 : b2 ≠ pa25 := Nat.ne_of_lt (Nat.lt_of_lt_of_le f19.lt spa25)
  have ne30 : b15 ≠ pa25 := Nat.ne_of_lt (Nat.lt_of_lt_of_le A15.lt spa25)
  have g31 : n0 ≤ pa25 := Nat.le_trans f18 spa25
  have f32 := Nat.le_trans f18 K25.1
  have f33 := f19.keep K25 (ninS ne16 nin0)
  have f34 := A15.keep K25
  subst hv25
  have N25 := Fr.app N13 N25q
  have pre25 : Go p.tables e below (s₁.setTop (entryFrame m #[(.int u0), (.int u1), (.int u2), (.int u3), (.int u4)] maxLocals)) T25 (mkF m 39 #[.val (.int u0), .val (.int u1), .val (.int u2), .val (.int u3), .val (.int u4), .val (.ref b2), .unset, .unset, .unset, .unset, .unset] [(.ref b15)]) := fun t k => pre24 t (st25.trans k)
  have pre35 : Go p.tables e below (s₁.setTop (entryFrame m #[(.int u0), (.int u1), (.int u2), (.int u3), (.int u4)] maxLocals)) T25 (mkF m 41 #[.val (.int u0), .val (.int u1), .val (.int u2), .val (.int u3), .val (.int u4), .val (.ref b2), .val (.ref b15), .unset, .unset, .unset, .unset] []) := fun t k => pre25 t (by
      refine XS.astore X25.here hx rfl (hb hby at_39) rfl rfl (l' := #[.val (.int u0), .val (.int u1), .val (.int u2), .val (.int u3), .val (.int u4), .val (.ref b2), .val (.ref b15), .unset, .unset, .unset, .unset]) rfl ?_
      exact k)
  have hS0 : ((0 : Int32), (0 : Int32), (0 : Int32), (-1 : Int32), (-1 : Int32), (-1 : Int32)) ∈ own_S false false false := by decide
  have pre36 : Go p.tables e below (s₁.setTop (entryFrame m #[(.int u0), (.int u1), (.int u2), (.int u3), (.int u4)] maxLocals)) T25 (mkF m 43 #[.val (.int u0), .val (.int u1), .val (.int u2), .val (.int u3), .val (.int u4), .val (.ref b2), .val (.ref b15), .unset, .unset, .unset, .unset] [(.ref b15)]) := fun t k => pre35 t (by
      refine XS.aload X25.here hx rfl (hb hby at_41) rfl rfl ?_
      exact k)
  obtain ⟨cq37, kq37, q37a, q37b, q37c⟩ := isOf hZ rfl fo25_0
  obtain ⟨_, _, ⟨T37, L37, k37, n37⟩, -, X37, ⟨Lc37, hQ37, l37, y37, z37⟩, st37⟩ := X25.virtualBack hx (y := (⟨"com/example/octopoll/octopoll/PageHeap", "isEmpty", "()Z"⟩ : MethodName)) (z := (⟨"com/example/octopoll/octopoll/PageHeap", "isEmpty", "()Z"⟩ : MethodName)) hown (mvT hZ (hw _ (List.mem_of_getElem? (i := 21) rfl))) (mvT hZ (hw _ (List.mem_of_getElem? (i := 22) rfl))) (notFace_of_selects (args := #[]) (mvT hZ (hw _ (List.mem_of_getElem? (i := 24) rfl)))) (mvT hZ (hw _ (List.mem_of_getElem? (i := 24) rfl))) (mvT hZ (hw _ (List.mem_of_getElem? (i := 23) rfl))) (by decide) (backOf (W := 0) (rm_ise l Z av0 hw [] b15 (0 : Int32) T25.heap n0  fo25_4) hZ (hw _ (List.mem_of_getElem? (i := 25) rfl)) (hw _ (List.mem_of_getElem? (i := 3) rfl)) (by decide) (by decide)) q37a q37c (g := (mkF m 43 #[.val (.int u0), .val (.int u1), .val (.int u2), .val (.int u3), .val (.int u4), .val (.ref b2), .val (.ref b15), .unset, .unset, .unset, .unset] [(.ref b15)])) rfl (by rw [hml]; rfl) (Steps.refl _) (argsL := []) (rest := []) (lenOf pd_5 rfl) rfl (by show 2 * 0 + _ ≤ _; exact Nat.le_of_eq rfl) (hb hby at_43) (fun _ _ => ⟨rfl, rfl, (by decide : 4 + 0 ≤ _), (by decide : 13 + 0 ≤ _)⟩)
  dsimp only [Pt.U, Pt.locs, Pt.cells, Pt.slots] at X37 l37 y37 z37 st37 hQ37
  subst l37 y37 z37
  obtain ⟨hv37, N37q, e37⟩ := hQ37
  rw [show own_e (0 : Int32) = (1 : Int32) from rfl] at hv37
  subst hv37
  have N37 := Fr.app N25 N37q
  have pre37 : Go p.tables e below (s₁.setTop (entryFrame m #[(.int u0), (.int u1), (.int u2), (.int u3), (.int u4)] maxLocals)) T37 (mkF m 46 #[.val (.int u0), .val (.int u1), .val (.int u2), .val (.int u3), .val (.int u4), .val (.ref b2), .val (.ref b15), .unset, .unset, .unset, .unset] [(.int (1 : Int32))]) := fun t k => pre36 t (st37.trans k)
  have pre38 : Go p.tables e below (s₁.setTop (entryFrame m #[(.int u0), (.int u1), (.int u2), (.int u3), (.int u4)] maxLocals)) T37 (mkF m 51 #[.val (.int u0), .val (.int u1), .val (.int u2), .val (.int u3), .val (.int u4), .val (.ref b2), .val (.ref b15), .val (.int (1 : Int32)), .unset, .unset, .unset] [(.int (u0 &&& (1 : Int32)))]) := fun t k => pre37 t (by
      refine XS.istore X37.here hx rfl (hb hby at_46) rfl (l' := #[.val (.int u0), .val (.int u1), .val (.int u2), .val (.int u3), .val (.int u4), .val (.ref b2), .val (.ref b15), .val (.int (1 : Int32)), .unset, .unset, .unset]) rfl ?_
      show Steps p.tables e below (T37.setTop (mkF m 48 #[.val (.int u0), .val (.int u1), .val (.int u2), .val (.int u3), .val (.int u4), .val (.ref b2), .val (.ref b15), .val (.int (1 : Int32)), .unset, .unset, .unset] [])) _
      refine XS.iloadN X37.here hx rfl (hb hby at_48) rfl ?_
      refine XS.iconst X37.here hx rfl (hb hby at_49) ?_
      refine XS.iand X37.here hx rfl (hb hby at_50) rfl ?_
      exact k)
  by_cases hc39 : (u0 &&& (1 : Int32)) = (0 : Int32)
  · -- hc39: True
    have pre40 : Go p.tables e below (s₁.setTop (entryFrame m #[(.int u0), (.int u1), (.int u2), (.int u3), (.int u4)] maxLocals)) T37 (mkF m 64 #[.val (.int u0), .val (.int u1), .val (.int u2), .val (.int u3), .val (.int u4), .val (.ref b2), .val (.ref b15), .val (.int (1 : Int32)), .val (.int (0 : Int32)), .unset, .unset] [(.int (u0 &&& (2 : Int32)))]) := fun t k => pre38 t (by
        refine XS.ifYes X37.here hx rfl (pc0 := 51) (pc' := 58) rfl (hb hby at_51) rfl ((if0 _ _).trans (teq hc39).1) (by decide) (by decide) ?_
        refine XS.iconst X37.here hx rfl (hb hby at_58) ?_
        refine XS.istore X37.here hx rfl (hb hby at_59) rfl (l' := #[.val (.int u0), .val (.int u1), .val (.int u2), .val (.int u3), .val (.int u4), .val (.ref b2), .val (.ref b15), .val (.int (1 : Int32)), .val (.int (0 : Int32)), .unset, .unset]) rfl ?_
        show Steps p.tables e below (T37.setTop (mkF m 61 #[.val (.int u0), .val (.int u1), .val (.int u2), .val (.int u3), .val (.int u4), .val (.ref b2), .val (.ref b15), .val (.int (1 : Int32)), .val (.int (0 : Int32)), .unset, .unset] [])) _
        refine XS.iloadN X37.here hx rfl (hb hby at_61) rfl ?_
        refine XS.iconst X37.here hx rfl (hb hby at_62) ?_
        refine XS.iand X37.here hx rfl (hb hby at_63) rfl ?_
        exact k)
    by_cases hc41 : (u0 &&& (2 : Int32)) = (0 : Int32)
    · -- hc41: True
      have pre42 : Go p.tables e below (s₁.setTop (entryFrame m #[(.int u0), (.int u1), (.int u2), (.int u3), (.int u4)] maxLocals)) T37 (mkF m 77 #[.val (.int u0), .val (.int u1), .val (.int u2), .val (.int u3), .val (.int u4), .val (.ref b2), .val (.ref b15), .val (.int (1 : Int32)), .val (.int (0 : Int32)), .val (.int (0 : Int32)), .unset] [(.int (u0 &&& (4 : Int32)))]) := fun t k => pre40 t (by
          refine XS.ifYes X37.here hx rfl (pc0 := 64) (pc' := 71) rfl (hb hby at_64) rfl ((if0 _ _).trans (teq hc41).1) (by decide) (by decide) ?_
          refine XS.iconst X37.here hx rfl (hb hby at_71) ?_
          refine XS.istore X37.here hx rfl (hb hby at_72) rfl (l' := #[.val (.int u0), .val (.int u1), .val (.int u2), .val (.int u3), .val (.int u4), .val (.ref b2), .val (.ref b15), .val (.int (1 : Int32)), .val (.int (0 : Int32)), .val (.int (0 : Int32)), .unset]) rfl ?_
          show Steps p.tables e below (T37.setTop (mkF m 74 #[.val (.int u0), .val (.int u1), .val (.int u2), .val (.int u3), .val (.int u4), .val (.ref b2), .val (.ref b15), .val (.int (1 : Int32)), .val (.int (0 : Int32)), .val (.int (0 : Int32)), .unset] [])) _
          refine XS.iloadN X37.here hx rfl (hb hby at_74) rfl ?_
          refine XS.iconst X37.here hx rfl (hb hby at_75) ?_
          refine XS.iand X37.here hx rfl (hb hby at_76) rfl ?_
          exact k)
      by_cases hc43 : (u0 &&& (4 : Int32)) = (0 : Int32)
      · -- hc43: True
        have pre44 : Go p.tables e below (s₁.setTop (entryFrame m #[(.int u0), (.int u1), (.int u2), (.int u3), (.int u4)] maxLocals)) T37 (mkF m 127 #[.val (.int u0), .val (.int u1), .val (.int u2), .val (.int u3), .val (.int u4), .val (.ref b2), .val (.ref b15), .val (.int (1 : Int32)), .val (.int (0 : Int32)), .val (.int (0 : Int32)), .val (.int (0 : Int32))] [(.ref b15)]) := fun t k => pre42 t (by
            refine XS.ifYes X37.here hx rfl (pc0 := 77) (pc' := 84) rfl (hb hby at_77) rfl ((if0 _ _).trans (teq hc43).1) (by decide) (by decide) ?_
            refine XS.iconst X37.here hx rfl (hb hby at_84) ?_
            refine XS.istore X37.here hx rfl (hb hby at_85) rfl (l' := #[.val (.int u0), .val (.int u1), .val (.int u2), .val (.int u3), .val (.int u4), .val (.ref b2), .val (.ref b15), .val (.int (1 : Int32)), .val (.int (0 : Int32)), .val (.int (0 : Int32)), .val (.int (0 : Int32))]) rfl ?_
            show Steps p.tables e below (T37.setTop (mkF m 87 #[.val (.int u0), .val (.int u1), .val (.int u2), .val (.int u3), .val (.int u4), .val (.ref b2), .val (.ref b15), .val (.int (1 : Int32)), .val (.int (0 : Int32)), .val (.int (0 : Int32)), .val (.int (0 : Int32))] [])) _
            refine XS.iload X37.here hx rfl (hb hby at_87) rfl ?_
            refine XS.ifYes X37.here hx rfl (pc0 := 89) (pc' := 98) rfl (hb hby at_89) rfl ((if0 _ _).trans (teq (by decide)).1) (by decide) (by decide) ?_
            refine XS.iload X37.here hx rfl (hb hby at_98) rfl ?_
            refine XS.ifYes X37.here hx rfl (pc0 := 100) (pc' := 109) rfl (hb hby at_100) rfl ((if0 _ _).trans (teq (by decide)).1) (by decide) (by decide) ?_
            refine XS.iload X37.here hx rfl (hb hby at_109) rfl ?_
            refine XS.ifYes X37.here hx rfl (pc0 := 111) (pc' := 120) rfl (hb hby at_111) rfl ((if0 _ _).trans (teq (by decide)).1) (by decide) (by decide) ?_
            refine XS.iload X37.here hx rfl (hb hby at_120) rfl ?_
            refine XS.ifNo X37.here hx rfl (hb hby at_122) rfl ((if0 _ _).trans (feq (by decide)).1) ?_
            refine XS.aload X37.here hx rfl (hb hby at_125) rfl rfl ?_
            exact k)
        obtain ⟨cq45, kq45, q45a, q45b, q45c⟩ := isOf hZ e37 fo25_0
        obtain ⟨_, _, ⟨T45, L45, k45, n45⟩, -, X45, ⟨Lc45, hQ45, l45, y45, z45⟩, st45⟩ := X37.virtualBack hx (y := (⟨"com/example/octopoll/octopoll/PageHeap", "isEmpty", "()Z"⟩ : MethodName)) (z := (⟨"com/example/octopoll/octopoll/PageHeap", "isEmpty", "()Z"⟩ : MethodName)) hown (mvT hZ (hw _ (List.mem_of_getElem? (i := 21) rfl))) (mvT hZ (hw _ (List.mem_of_getElem? (i := 22) rfl))) (notFace_of_selects (args := #[]) (mvT hZ (hw _ (List.mem_of_getElem? (i := 24) rfl)))) (mvT hZ (hw _ (List.mem_of_getElem? (i := 24) rfl))) (mvT hZ (hw _ (List.mem_of_getElem? (i := 23) rfl))) (by decide) (backOf (W := 0) (rm_ise l Z av0 hw [] b15 (0 : Int32) T25.heap n0  fo25_4) hZ (hw _ (List.mem_of_getElem? (i := 25) rfl)) (hw _ (List.mem_of_getElem? (i := 3) rfl)) (by decide) (by decide)) q45a q45c (g := (mkF m 127 #[.val (.int u0), .val (.int u1), .val (.int u2), .val (.int u3), .val (.int u4), .val (.ref b2), .val (.ref b15), .val (.int (1 : Int32)), .val (.int (0 : Int32)), .val (.int (0 : Int32)), .val (.int (0 : Int32))] [(.ref b15)])) rfl (by rw [hml]; rfl) (Steps.refl _) (argsL := []) (rest := []) (lenOf pd_5 rfl) rfl (by show 2 * 0 + _ ≤ _; exact Nat.le_of_eq rfl) (hb hby at_127) (fun _ _ => ⟨rfl, e37, (by decide : 4 + 0 ≤ _), (by decide : 13 + 0 ≤ _)⟩)
        dsimp only [Pt.U, Pt.locs, Pt.cells, Pt.slots] at X45 l45 y45 z45 st45 hQ45
        subst l45 y45 z45
        obtain ⟨hv45, N45q, e45⟩ := hQ45
        rw [show own_e (0 : Int32) = (1 : Int32) from rfl] at hv45
        subst hv45
        have N45 := Fr.app N37 N45q
        have pre45 : Go p.tables e below (s₁.setTop (entryFrame m #[(.int u0), (.int u1), (.int u2), (.int u3), (.int u4)] maxLocals)) T45 (mkF m 130 #[.val (.int u0), .val (.int u1), .val (.int u2), .val (.int u3), .val (.int u4), .val (.ref b2), .val (.ref b15), .val (.int (1 : Int32)), .val (.int (0 : Int32)), .val (.int (0 : Int32)), .val (.int (0 : Int32))] [(.int (1 : Int32))]) := fun t k => pre44 t (st45.trans k)
        have pre46 : Go p.tables e below (s₁.setTop (entryFrame m #[(.int u0), (.int u1), (.int u2), (.int u3), (.int u4)] maxLocals)) T45 (mkF m 227 #[.val (.int u0), .val (.int u1), .val (.int u2), .val (.int u3), .val (.int u4), .val (.ref b2), .val (.ref b15), .val (.int (1 : Int32)), .val (.int (0 : Int32)), .val (.int (0 : Int32)), .val (.int (0 : Int32))] [(.ref b15)]) := fun t k => pre45 t (by
            refine XS.iload X45.here hx rfl (hb hby at_130) rfl ?_
            refine XS.ifNo X45.here hx rfl (hb hby at_132) rfl ((if0 _ _).trans (teq (by decide)).2) ?_
            refine XS.iload X45.here hx rfl (hb hby at_135) rfl ?_
            refine XS.ifNo X45.here hx rfl (hb hby at_137) rfl ((if0 _ _).trans (teq (by decide)).2) ?_
            refine XS.iload X45.here hx rfl (hb hby at_140) rfl ?_
            refine XS.ifNo X45.here hx rfl (hb hby at_142) rfl ((if0 _ _).trans (teq (by decide)).2) ?_
            refine XS.iconst X45.here hx rfl (hb hby at_145) ?_
            refine XS.goto X45.here hx rfl (pc0 := 146) (pc' := 150) rfl (hb hby at_146) (by decide) (by decide) ?_
            show Steps p.tables e below (T45.setTop (mkF m 150 #[.val (.int u0), .val (.int u1), .val (.int u2), .val (.int u3), .val (.int u4), .val (.ref b2), .val (.ref b15), .val (.int (1 : Int32)), .val (.int (0 : Int32)), .val (.int (0 : Int32)), .val (.int (0 : Int32))] [(.int (1 : Int32)), (.int (1 : Int32))])) _
            refine XS.icmpNo X45.here hx rfl (hb hby at_150) rfl (teq (by decide)).2 ?_
            refine XS.iconst X45.here hx rfl (hb hby at_153) ?_
            refine XS.goto X45.here hx rfl (pc0 := 154) (pc' := 158) rfl (hb hby at_154) (by decide) (by decide) ?_
            show Steps p.tables e below (T45.setTop (mkF m 158 #[.val (.int u0), .val (.int u1), .val (.int u2), .val (.int u3), .val (.int u4), .val (.ref b2), .val (.ref b15), .val (.int (1 : Int32)), .val (.int (0 : Int32)), .val (.int (0 : Int32)), .val (.int (0 : Int32))] [(.int (1 : Int32))])) _
            refine XS.istore X45.here hx rfl (hb hby at_158) rfl (l' := #[.val (.int u0), .val (.int u1), .val (.int u2), .val (.int u3), .val (.int u4), .val (.ref b2), .val (.ref b15), .val (.int (1 : Int32)), .val (.int (0 : Int32)), .val (.int (0 : Int32)), .val (.int (0 : Int32))]) rfl ?_
            show Steps p.tables e below (T45.setTop (mkF m 160 #[.val (.int u0), .val (.int u1), .val (.int u2), .val (.int u3), .val (.int u4), .val (.ref b2), .val (.ref b15), .val (.int (1 : Int32)), .val (.int (0 : Int32)), .val (.int (0 : Int32)), .val (.int (0 : Int32))] [])) _
            refine XS.iload X45.here hx rfl (hb hby at_160) rfl ?_
            refine XS.ifYes X45.here hx rfl (pc0 := 162) (pc' := 180) rfl (hb hby at_162) rfl ((if0 _ _).trans (teq (by decide)).1) (by decide) (by decide) ?_
            refine XS.iload X45.here hx rfl (hb hby at_180) rfl ?_
            refine XS.ifYes X45.here hx rfl (pc0 := 182) (pc' := 200) rfl (hb hby at_182) rfl ((if0 _ _).trans (teq (by decide)).1) (by decide) (by decide) ?_
            refine XS.iload X45.here hx rfl (hb hby at_200) rfl ?_
            refine XS.ifYes X45.here hx rfl (pc0 := 202) (pc' := 220) rfl (hb hby at_202) rfl ((if0 _ _).trans (teq (by decide)).1) (by decide) (by decide) ?_
            refine XS.iload X45.here hx rfl (hb hby at_220) rfl ?_
            refine XS.ifNo X45.here hx rfl (hb hby at_222) rfl ((if0 _ _).trans (feq (by decide)).1) ?_
            refine XS.aload X45.here hx rfl (hb hby at_225) rfl rfl ?_
            exact k)
        obtain ⟨cq47, kq47, q47a, q47b, q47c⟩ := isOf hZ e45 fo25_0
        obtain ⟨_, _, ⟨T47, L47, k47, n47⟩, -, X47, ⟨Lc47, hQ47, l47, y47, z47⟩, st47⟩ := X45.virtualBack hx (y := (⟨"com/example/octopoll/octopoll/PageHeap", "isEmpty", "()Z"⟩ : MethodName)) (z := (⟨"com/example/octopoll/octopoll/PageHeap", "isEmpty", "()Z"⟩ : MethodName)) hown (mvT hZ (hw _ (List.mem_of_getElem? (i := 21) rfl))) (mvT hZ (hw _ (List.mem_of_getElem? (i := 22) rfl))) (notFace_of_selects (args := #[]) (mvT hZ (hw _ (List.mem_of_getElem? (i := 24) rfl)))) (mvT hZ (hw _ (List.mem_of_getElem? (i := 24) rfl))) (mvT hZ (hw _ (List.mem_of_getElem? (i := 23) rfl))) (by decide) (backOf (W := 0) (rm_ise l Z av0 hw [] b15 (0 : Int32) T25.heap n0  fo25_4) hZ (hw _ (List.mem_of_getElem? (i := 25) rfl)) (hw _ (List.mem_of_getElem? (i := 3) rfl)) (by decide) (by decide)) q47a q47c (g := (mkF m 227 #[.val (.int u0), .val (.int u1), .val (.int u2), .val (.int u3), .val (.int u4), .val (.ref b2), .val (.ref b15), .val (.int (1 : Int32)), .val (.int (0 : Int32)), .val (.int (0 : Int32)), .val (.int (0 : Int32))] [(.ref b15)])) rfl (by rw [hml]; rfl) (Steps.refl _) (argsL := []) (rest := []) (lenOf pd_5 rfl) rfl (by show 2 * 0 + _ ≤ _; exact Nat.le_of_eq rfl) (hb hby at_227) (fun _ _ => ⟨rfl, e45, (by decide : 4 + 0 ≤ _), (by decide : 13 + 0 ≤ _)⟩)
        dsimp only [Pt.U, Pt.locs, Pt.cells, Pt.slots] at X47 l47 y47 z47 st47 hQ47
        subst l47 y47 z47
        obtain ⟨hv47, N47q, e47⟩ := hQ47
        rw [show own_e (0 : Int32) = (1 : Int32) from rfl] at hv47
        subst hv47
        have N47 := Fr.app N45 N47q
        have pre47 : Go p.tables e below (s₁.setTop (entryFrame m #[(.int u0), (.int u1), (.int u2), (.int u3), (.int u4)] maxLocals)) T47 (mkF m 230 #[.val (.int u0), .val (.int u1), .val (.int u2), .val (.int u3), .val (.int u4), .val (.ref b2), .val (.ref b15), .val (.int (1 : Int32)), .val (.int (0 : Int32)), .val (.int (0 : Int32)), .val (.int (0 : Int32))] [(.int (1 : Int32))]) := fun t k => pre46 t (st47.trans k)
        have pre48 : Go p.tables e below (s₁.setTop (entryFrame m #[(.int u0), (.int u1), (.int u2), (.int u3), (.int u4)] maxLocals)) T47 (mkF m 262 #[.val (.int u0), .val (.int u1), .val (.int u2), .val (.int u3), .val (.int u4), .val (.ref b2), .val (.ref b15), .val (.int (1 : Int32)), .val (.int (0 : Int32)), .val (.int (0 : Int32)), .val (.int (0 : Int32))] [(.int (1 : Int32))]) := fun t k => pre47 t (by
            refine XS.iload X47.here hx rfl (hb hby at_230) rfl ?_
            refine XS.ifNo X47.here hx rfl (hb hby at_232) rfl ((if0 _ _).trans (teq (by decide)).2) ?_
            refine XS.iload X47.here hx rfl (hb hby at_235) rfl ?_
            refine XS.ifNo X47.here hx rfl (hb hby at_237) rfl ((if0 _ _).trans (teq (by decide)).2) ?_
            refine XS.iload X47.here hx rfl (hb hby at_240) rfl ?_
            refine XS.ifNo X47.here hx rfl (hb hby at_242) rfl ((if0 _ _).trans (teq (by decide)).2) ?_
            refine XS.iconst X47.here hx rfl (hb hby at_245) ?_
            refine XS.goto X47.here hx rfl (pc0 := 246) (pc' := 250) rfl (hb hby at_246) (by decide) (by decide) ?_
            show Steps p.tables e below (T47.setTop (mkF m 250 #[.val (.int u0), .val (.int u1), .val (.int u2), .val (.int u3), .val (.int u4), .val (.ref b2), .val (.ref b15), .val (.int (1 : Int32)), .val (.int (0 : Int32)), .val (.int (0 : Int32)), .val (.int (0 : Int32))] [(.int (1 : Int32)), (.int (1 : Int32))])) _
            refine XS.icmpNo X47.here hx rfl (hb hby at_250) rfl (teq (by decide)).2 ?_
            refine XS.iconst X47.here hx rfl (hb hby at_253) ?_
            refine XS.goto X47.here hx rfl (pc0 := 254) (pc' := 258) rfl (hb hby at_254) (by decide) (by decide) ?_
            show Steps p.tables e below (T47.setTop (mkF m 258 #[.val (.int u0), .val (.int u1), .val (.int u2), .val (.int u3), .val (.int u4), .val (.ref b2), .val (.ref b15), .val (.int (1 : Int32)), .val (.int (0 : Int32)), .val (.int (0 : Int32)), .val (.int (0 : Int32))] [(.int (1 : Int32))])) _
            refine XS.istore X47.here hx rfl (hb hby at_258) rfl (l' := #[.val (.int u0), .val (.int u1), .val (.int u2), .val (.int u3), .val (.int u4), .val (.ref b2), .val (.ref b15), .val (.int (1 : Int32)), .val (.int (0 : Int32)), .val (.int (0 : Int32)), .val (.int (0 : Int32))]) rfl ?_
            show Steps p.tables e below (T47.setTop (mkF m 260 #[.val (.int u0), .val (.int u1), .val (.int u2), .val (.int u3), .val (.int u4), .val (.ref b2), .val (.ref b15), .val (.int (1 : Int32)), .val (.int (0 : Int32)), .val (.int (0 : Int32)), .val (.int (0 : Int32))] [])) _
            refine XS.iload X47.here hx rfl (hb hby at_260) rfl ?_
            exact k)
        obtain ⟨fs, hr, hrun, hended, hW, hsame⟩ := X47.leave (v := some (.int (1 : Int32))) (fun h => by rw [Bd.returns] at h; cases h) (BodyLoose.notSynchronized Bd)
        refine ⟨_, _, pre48 _ ?_, hrun, hended, _, _, rfl, ?_, ⟨_, rfl⟩, hW, hsame.mono (Nat.le_of_ble_eq_true rfl) (Nat.le_of_ble_eq_true rfl)⟩
        · exact retN X47 hx (t := .boolean) Bd.returns (by simp) (hb hby at_262) hr
        · show Q_law Z u0 u1 u2 u3 u4 h0 n0 _ T47.heap _
          rw [e47]
          exact ⟨rfl, N47⟩
      · -- hc43: False
        have pre49 : Go p.tables e below (s₁.setTop (entryFrame m #[(.int u0), (.int u1), (.int u2), (.int u3), (.int u4)] maxLocals)) T37 (mkF m 117 #[.val (.int u0), .val (.int u1), .val (.int u2), .val (.int u3), .val (.int u4), .val (.ref b2), .val (.ref b15), .val (.int (1 : Int32)), .val (.int (0 : Int32)), .val (.int (0 : Int32)), .val (.int (1 : Int32))] [(.int (2 : Int32)), (.ref b15)]) := fun t k => pre42 t (by
            refine XS.ifNo X37.here hx rfl (hb hby at_77) rfl ((if0 _ _).trans (feq hc43).1) ?_
            refine XS.iconst X37.here hx rfl (hb hby at_80) ?_
            refine XS.goto X37.here hx rfl (pc0 := 81) (pc' := 85) rfl (hb hby at_81) (by decide) (by decide) ?_
            show Steps p.tables e below (T37.setTop (mkF m 85 #[.val (.int u0), .val (.int u1), .val (.int u2), .val (.int u3), .val (.int u4), .val (.ref b2), .val (.ref b15), .val (.int (1 : Int32)), .val (.int (0 : Int32)), .val (.int (0 : Int32)), .unset] [(.int (1 : Int32))])) _
            refine XS.istore X37.here hx rfl (hb hby at_85) rfl (l' := #[.val (.int u0), .val (.int u1), .val (.int u2), .val (.int u3), .val (.int u4), .val (.ref b2), .val (.ref b15), .val (.int (1 : Int32)), .val (.int (0 : Int32)), .val (.int (0 : Int32)), .val (.int (1 : Int32))]) rfl ?_
            show Steps p.tables e below (T37.setTop (mkF m 87 #[.val (.int u0), .val (.int u1), .val (.int u2), .val (.int u3), .val (.int u4), .val (.ref b2), .val (.ref b15), .val (.int (1 : Int32)), .val (.int (0 : Int32)), .val (.int (0 : Int32)), .val (.int (1 : Int32))] [])) _
            refine XS.iload X37.here hx rfl (hb hby at_87) rfl ?_
            refine XS.ifYes X37.here hx rfl (pc0 := 89) (pc' := 98) rfl (hb hby at_89) rfl ((if0 _ _).trans (teq (by decide)).1) (by decide) (by decide) ?_
            refine XS.iload X37.here hx rfl (hb hby at_98) rfl ?_
            refine XS.ifYes X37.here hx rfl (pc0 := 100) (pc' := 109) rfl (hb hby at_100) rfl ((if0 _ _).trans (teq (by decide)).1) (by decide) (by decide) ?_
            refine XS.iload X37.here hx rfl (hb hby at_109) rfl ?_
            refine XS.ifNo X37.here hx rfl (hb hby at_111) rfl ((if0 _ _).trans (feq (by decide)).1) ?_
            refine XS.aload X37.here hx rfl (hb hby at_114) rfl rfl ?_
            refine XS.iconst X37.here hx rfl (hb hby at_116) ?_
            exact k)
        obtain ⟨cq50, kq50, q50a, q50b, q50c⟩ := isOf hZ e37 fo25_0
        obtain ⟨_, _, ⟨T50, L50, k50, n50⟩, -, X50, ⟨Lc50, hQ50, l50, y50, z50⟩, st50⟩ := X37.virtualBack hx (y := (⟨"com/example/octopoll/octopoll/PageHeap", "add", "(I)V"⟩ : MethodName)) (z := (⟨"com/example/octopoll/octopoll/PageHeap", "add", "(I)V"⟩ : MethodName)) hown (mvT hZ (hw _ (List.mem_of_getElem? (i := 28) rfl))) (mvT hZ (hw _ (List.mem_of_getElem? (i := 29) rfl))) (notFace_of_selects (args := #[]) (mvT hZ (hw _ (List.mem_of_getElem? (i := 31) rfl)))) (mvT hZ (hw _ (List.mem_of_getElem? (i := 31) rfl))) (mvT hZ (hw _ (List.mem_of_getElem? (i := 30) rfl))) (by decide) (backOf (W := 0) (rm_add2 l Z av0 hw [] b15 b2 ha25 pa25 k2 kh25 kp25 (FP.i2d (u2 &&& (3 : Int32))) (FP.i2d (u3 &&& (3 : Int32))) (FP.i2d (u4 &&& (3 : Int32))) (0 : Int32) (0 : Int32) (0 : Int32) (-1 : Int32) (-1 : Int32) (-1 : Int32) false false T25.heap n0 f32 fo25_0 fo25_1 fo25_2 fo25_3 fo25_4 f33 fo25_5 fo25_6 g17 gha25 gpa25 ne27 ne30 po25_0 ne16.symm ne26 ne29 hS0) hZ (hw _ (List.mem_of_getElem? (i := 32) rfl)) (hw _ (List.mem_of_getElem? (i := 3) rfl)) (by decide) (by decide)) q50a q50c (g := (mkF m 117 #[.val (.int u0), .val (.int u1), .val (.int u2), .val (.int u3), .val (.int u4), .val (.ref b2), .val (.ref b15), .val (.int (1 : Int32)), .val (.int (0 : Int32)), .val (.int (0 : Int32)), .val (.int (1 : Int32))] [(.int (2 : Int32)), (.ref b15)])) rfl (by rw [hml]; rfl) (Steps.refl _) (argsL := [(.int (2 : Int32))]) (rest := []) (lenOf pd_2 rfl) rfl (by show 2 * 0 + _ ≤ _; exact Nat.le_of_eq rfl) (hb hby at_117) (fun _ _ => ⟨rfl, e37, (by decide : 4 + 0 ≤ _), (by decide : 13 + 0 ≤ _)⟩)
        dsimp only [Pt.U, Pt.locs, Pt.cells, Pt.slots] at X50 l50 y50 z50 st50 hQ50
        subst l50 y50 z50
        obtain ⟨z050, z150, z250, z350, z450, z550, hv50, N50q, K50, fo50_0, fo50_1, fo50_2, fo50_3, fo50_4, fo50_5, fo50_6, po50_0⟩ := hQ50
        have f51 := Nat.le_trans f32 K50.1
        have f52 := f33.keep K50 (ninS ne16 (ninS ne26 (ninS ne29 nin0)))
        have f53 := fo25_0.keep K50
        subst hv50
        have N50 := Fr.app N37 N50q
        have pre50 : Go p.tables e below (s₁.setTop (entryFrame m #[(.int u0), (.int u1), (.int u2), (.int u3), (.int u4)] maxLocals)) T50 (mkF m 120 #[.val (.int u0), .val (.int u1), .val (.int u2), .val (.int u3), .val (.int u4), .val (.ref b2), .val (.ref b15), .val (.int (1 : Int32)), .val (.int (0 : Int32)), .val (.int (0 : Int32)), .val (.int (1 : Int32))] []) := fun t k => pre49 t (st50.trans k)
        have pre54 : Go p.tables e below (s₁.setTop (entryFrame m #[(.int u0), (.int u1), (.int u2), (.int u3), (.int u4)] maxLocals)) T50 (mkF m 127 #[.val (.int u0), .val (.int u1), .val (.int u2), .val (.int u3), .val (.int u4), .val (.ref b2), .val (.ref b15), .val (.int (1 : Int32)), .val (.int (0 : Int32)), .val (.int (0 : Int32)), .val (.int (1 : Int32))] [(.ref b15)]) := fun t k => pre50 t (by
            refine XS.iload X50.here hx rfl (hb hby at_120) rfl ?_
            refine XS.ifNo X50.here hx rfl (hb hby at_122) rfl ((if0 _ _).trans (feq (by decide)).1) ?_
            refine XS.aload X50.here hx rfl (hb hby at_125) rfl rfl ?_
            exact k)
        obtain ⟨cq55, kq55, q55a, q55b, q55c⟩ := isOf hZ rfl fo50_0
        obtain ⟨_, _, ⟨T55, L55, k55, n55⟩, -, X55, ⟨Lc55, hQ55, l55, y55, z55⟩, st55⟩ := X50.virtualBack hx (y := (⟨"com/example/octopoll/octopoll/PageHeap", "isEmpty", "()Z"⟩ : MethodName)) (z := (⟨"com/example/octopoll/octopoll/PageHeap", "isEmpty", "()Z"⟩ : MethodName)) hown (mvT hZ (hw _ (List.mem_of_getElem? (i := 21) rfl))) (mvT hZ (hw _ (List.mem_of_getElem? (i := 22) rfl))) (notFace_of_selects (args := #[]) (mvT hZ (hw _ (List.mem_of_getElem? (i := 24) rfl)))) (mvT hZ (hw _ (List.mem_of_getElem? (i := 24) rfl))) (mvT hZ (hw _ (List.mem_of_getElem? (i := 23) rfl))) (by decide) (backOf (W := 0) (rm_ise l Z av0 hw [] b15 (1 : Int32) T50.heap n0  fo50_4) hZ (hw _ (List.mem_of_getElem? (i := 25) rfl)) (hw _ (List.mem_of_getElem? (i := 3) rfl)) (by decide) (by decide)) q55a q55c (g := (mkF m 127 #[.val (.int u0), .val (.int u1), .val (.int u2), .val (.int u3), .val (.int u4), .val (.ref b2), .val (.ref b15), .val (.int (1 : Int32)), .val (.int (0 : Int32)), .val (.int (0 : Int32)), .val (.int (1 : Int32))] [(.ref b15)])) rfl (by rw [hml]; rfl) (Steps.refl _) (argsL := []) (rest := []) (lenOf pd_5 rfl) rfl (by show 2 * 0 + _ ≤ _; exact Nat.le_of_eq rfl) (hb hby at_127) (fun _ _ => ⟨rfl, rfl, (by decide : 4 + 0 ≤ _), (by decide : 13 + 0 ≤ _)⟩)
        dsimp only [Pt.U, Pt.locs, Pt.cells, Pt.slots] at X55 l55 y55 z55 st55 hQ55
        subst l55 y55 z55
        obtain ⟨hv55, N55q, e55⟩ := hQ55
        rw [show own_e (1 : Int32) = (0 : Int32) from rfl] at hv55
        subst hv55
        have N55 := Fr.app N50 N55q
        have pre55 : Go p.tables e below (s₁.setTop (entryFrame m #[(.int u0), (.int u1), (.int u2), (.int u3), (.int u4)] maxLocals)) T55 (mkF m 130 #[.val (.int u0), .val (.int u1), .val (.int u2), .val (.int u3), .val (.int u4), .val (.ref b2), .val (.ref b15), .val (.int (1 : Int32)), .val (.int (0 : Int32)), .val (.int (0 : Int32)), .val (.int (1 : Int32))] [(.int (0 : Int32))]) := fun t k => pre54 t (st55.trans k)
        have pre56 : Go p.tables e below (s₁.setTop (entryFrame m #[(.int u0), (.int u1), (.int u2), (.int u3), (.int u4)] maxLocals)) T55 (mkF m 208 #[.val (.int u0), .val (.int u1), .val (.int u2), .val (.int u3), .val (.int u4), .val (.ref b2), .val (.ref b15), .val (.int (1 : Int32)), .val (.int (0 : Int32)), .val (.int (0 : Int32)), .val (.int (1 : Int32))] [(.int (u1 &&& (4 : Int32)))]) := fun t k => pre55 t (by
            refine XS.iload X55.here hx rfl (hb hby at_130) rfl ?_
            refine XS.ifNo X55.here hx rfl (hb hby at_132) rfl ((if0 _ _).trans (teq (by decide)).2) ?_
            refine XS.iload X55.here hx rfl (hb hby at_135) rfl ?_
            refine XS.ifNo X55.here hx rfl (hb hby at_137) rfl ((if0 _ _).trans (teq (by decide)).2) ?_
            refine XS.iload X55.here hx rfl (hb hby at_140) rfl ?_
            refine XS.ifYes X55.here hx rfl (pc0 := 142) (pc' := 149) rfl (hb hby at_142) rfl ((if0 _ _).trans (feq (by decide)).2) (by decide) (by decide) ?_
            refine XS.iconst X55.here hx rfl (hb hby at_149) ?_
            refine XS.icmpNo X55.here hx rfl (hb hby at_150) rfl (teq (by decide)).2 ?_
            refine XS.iconst X55.here hx rfl (hb hby at_153) ?_
            refine XS.goto X55.here hx rfl (pc0 := 154) (pc' := 158) rfl (hb hby at_154) (by decide) (by decide) ?_
            show Steps p.tables e below (T55.setTop (mkF m 158 #[.val (.int u0), .val (.int u1), .val (.int u2), .val (.int u3), .val (.int u4), .val (.ref b2), .val (.ref b15), .val (.int (1 : Int32)), .val (.int (0 : Int32)), .val (.int (0 : Int32)), .val (.int (1 : Int32))] [(.int (1 : Int32))])) _
            refine XS.istore X55.here hx rfl (hb hby at_158) rfl (l' := #[.val (.int u0), .val (.int u1), .val (.int u2), .val (.int u3), .val (.int u4), .val (.ref b2), .val (.ref b15), .val (.int (1 : Int32)), .val (.int (0 : Int32)), .val (.int (0 : Int32)), .val (.int (1 : Int32))]) rfl ?_
            show Steps p.tables e below (T55.setTop (mkF m 160 #[.val (.int u0), .val (.int u1), .val (.int u2), .val (.int u3), .val (.int u4), .val (.ref b2), .val (.ref b15), .val (.int (1 : Int32)), .val (.int (0 : Int32)), .val (.int (0 : Int32)), .val (.int (1 : Int32))] [])) _
            refine XS.iload X55.here hx rfl (hb hby at_160) rfl ?_
            refine XS.ifYes X55.here hx rfl (pc0 := 162) (pc' := 180) rfl (hb hby at_162) rfl ((if0 _ _).trans (teq (by decide)).1) (by decide) (by decide) ?_
            refine XS.iload X55.here hx rfl (hb hby at_180) rfl ?_
            refine XS.ifYes X55.here hx rfl (pc0 := 182) (pc' := 200) rfl (hb hby at_182) rfl ((if0 _ _).trans (teq (by decide)).1) (by decide) (by decide) ?_
            refine XS.iload X55.here hx rfl (hb hby at_200) rfl ?_
            refine XS.ifNo X55.here hx rfl (hb hby at_202) rfl ((if0 _ _).trans (feq (by decide)).1) ?_
            refine XS.iloadN X55.here hx rfl (hb hby at_205) rfl ?_
            refine XS.iconst X55.here hx rfl (hb hby at_206) ?_
            refine XS.iand X55.here hx rfl (hb hby at_207) rfl ?_
            exact k)
        by_cases hc57 : (u1 &&& (4 : Int32)) = (0 : Int32)
        · -- hc57: True
          have pre58 : Go p.tables e below (s₁.setTop (entryFrame m #[(.int u0), (.int u1), (.int u2), (.int u3), (.int u4)] maxLocals)) T55 (mkF m 227 #[.val (.int u0), .val (.int u1), .val (.int u2), .val (.int u3), .val (.int u4), .val (.ref b2), .val (.ref b15), .val (.int (1 : Int32)), .val (.int (0 : Int32)), .val (.int (0 : Int32)), .val (.int (1 : Int32))] [(.ref b15)]) := fun t k => pre56 t (by
              refine XS.ifYes X55.here hx rfl (pc0 := 208) (pc' := 220) rfl (hb hby at_208) rfl ((if0 _ _).trans (teq hc57).1) (by decide) (by decide) ?_
              refine XS.iload X55.here hx rfl (hb hby at_220) rfl ?_
              refine XS.ifNo X55.here hx rfl (hb hby at_222) rfl ((if0 _ _).trans (feq (by decide)).1) ?_
              refine XS.aload X55.here hx rfl (hb hby at_225) rfl rfl ?_
              exact k)
          obtain ⟨cq59, kq59, q59a, q59b, q59c⟩ := isOf hZ e55 fo50_0
          obtain ⟨_, _, ⟨T59, L59, k59, n59⟩, -, X59, ⟨Lc59, hQ59, l59, y59, z59⟩, st59⟩ := X55.virtualBack hx (y := (⟨"com/example/octopoll/octopoll/PageHeap", "isEmpty", "()Z"⟩ : MethodName)) (z := (⟨"com/example/octopoll/octopoll/PageHeap", "isEmpty", "()Z"⟩ : MethodName)) hown (mvT hZ (hw _ (List.mem_of_getElem? (i := 21) rfl))) (mvT hZ (hw _ (List.mem_of_getElem? (i := 22) rfl))) (notFace_of_selects (args := #[]) (mvT hZ (hw _ (List.mem_of_getElem? (i := 24) rfl)))) (mvT hZ (hw _ (List.mem_of_getElem? (i := 24) rfl))) (mvT hZ (hw _ (List.mem_of_getElem? (i := 23) rfl))) (by decide) (backOf (W := 0) (rm_ise l Z av0 hw [] b15 (1 : Int32) T50.heap n0  fo50_4) hZ (hw _ (List.mem_of_getElem? (i := 25) rfl)) (hw _ (List.mem_of_getElem? (i := 3) rfl)) (by decide) (by decide)) q59a q59c (g := (mkF m 227 #[.val (.int u0), .val (.int u1), .val (.int u2), .val (.int u3), .val (.int u4), .val (.ref b2), .val (.ref b15), .val (.int (1 : Int32)), .val (.int (0 : Int32)), .val (.int (0 : Int32)), .val (.int (1 : Int32))] [(.ref b15)])) rfl (by rw [hml]; rfl) (Steps.refl _) (argsL := []) (rest := []) (lenOf pd_5 rfl) rfl (by show 2 * 0 + _ ≤ _; exact Nat.le_of_eq rfl) (hb hby at_227) (fun _ _ => ⟨rfl, e55, (by decide : 4 + 0 ≤ _), (by decide : 13 + 0 ≤ _)⟩)
          dsimp only [Pt.U, Pt.locs, Pt.cells, Pt.slots] at X59 l59 y59 z59 st59 hQ59
          subst l59 y59 z59
          obtain ⟨hv59, N59q, e59⟩ := hQ59
          rw [show own_e (1 : Int32) = (0 : Int32) from rfl] at hv59
          subst hv59
          have N59 := Fr.app N55 N59q
          have pre59 : Go p.tables e below (s₁.setTop (entryFrame m #[(.int u0), (.int u1), (.int u2), (.int u3), (.int u4)] maxLocals)) T59 (mkF m 230 #[.val (.int u0), .val (.int u1), .val (.int u2), .val (.int u3), .val (.int u4), .val (.ref b2), .val (.ref b15), .val (.int (1 : Int32)), .val (.int (0 : Int32)), .val (.int (0 : Int32)), .val (.int (1 : Int32))] [(.int (0 : Int32))]) := fun t k => pre58 t (st59.trans k)
          have pre60 : Go p.tables e below (s₁.setTop (entryFrame m #[(.int u0), (.int u1), (.int u2), (.int u3), (.int u4)] maxLocals)) T59 (mkF m 262 #[.val (.int u0), .val (.int u1), .val (.int u2), .val (.int u3), .val (.int u4), .val (.ref b2), .val (.ref b15), .val (.int (1 : Int32)), .val (.int (0 : Int32)), .val (.int (0 : Int32)), .val (.int (1 : Int32))] [(.int (1 : Int32))]) := fun t k => pre59 t (by
              refine XS.iload X59.here hx rfl (hb hby at_230) rfl ?_
              refine XS.ifNo X59.here hx rfl (hb hby at_232) rfl ((if0 _ _).trans (teq (by decide)).2) ?_
              refine XS.iload X59.here hx rfl (hb hby at_235) rfl ?_
              refine XS.ifNo X59.here hx rfl (hb hby at_237) rfl ((if0 _ _).trans (teq (by decide)).2) ?_
              refine XS.iload X59.here hx rfl (hb hby at_240) rfl ?_
              refine XS.ifYes X59.here hx rfl (pc0 := 242) (pc' := 249) rfl (hb hby at_242) rfl ((if0 _ _).trans (feq (by decide)).2) (by decide) (by decide) ?_
              refine XS.iconst X59.here hx rfl (hb hby at_249) ?_
              refine XS.icmpNo X59.here hx rfl (hb hby at_250) rfl (teq (by decide)).2 ?_
              refine XS.iconst X59.here hx rfl (hb hby at_253) ?_
              refine XS.goto X59.here hx rfl (pc0 := 254) (pc' := 258) rfl (hb hby at_254) (by decide) (by decide) ?_
              show Steps p.tables e below (T59.setTop (mkF m 258 #[.val (.int u0), .val (.int u1), .val (.int u2), .val (.int u3), .val (.int u4), .val (.ref b2), .val (.ref b15), .val (.int (1 : Int32)), .val (.int (0 : Int32)), .val (.int (0 : Int32)), .val (.int (1 : Int32))] [(.int (1 : Int32))])) _
              refine XS.istore X59.here hx rfl (hb hby at_258) rfl (l' := #[.val (.int u0), .val (.int u1), .val (.int u2), .val (.int u3), .val (.int u4), .val (.ref b2), .val (.ref b15), .val (.int (1 : Int32)), .val (.int (0 : Int32)), .val (.int (0 : Int32)), .val (.int (1 : Int32))]) rfl ?_
              show Steps p.tables e below (T59.setTop (mkF m 260 #[.val (.int u0), .val (.int u1), .val (.int u2), .val (.int u3), .val (.int u4), .val (.ref b2), .val (.ref b15), .val (.int (1 : Int32)), .val (.int (0 : Int32)), .val (.int (0 : Int32)), .val (.int (1 : Int32))] [])) _
              refine XS.iload X59.here hx rfl (hb hby at_260) rfl ?_
              exact k)
          obtain ⟨fs, hr, hrun, hended, hW, hsame⟩ := X59.leave (v := some (.int (1 : Int32))) (fun h => by rw [Bd.returns] at h; cases h) (BodyLoose.notSynchronized Bd)
          refine ⟨_, _, pre60 _ ?_, hrun, hended, _, _, rfl, ?_, ⟨_, rfl⟩, hW, hsame.mono (Nat.le_of_ble_eq_true rfl) (Nat.le_of_ble_eq_true rfl)⟩
          · exact retN X59 hx (t := .boolean) Bd.returns (by simp) (hb hby at_262) hr
          · show Q_law Z u0 u1 u2 u3 u4 h0 n0 _ T59.heap _
            rw [e59]
            exact ⟨rfl, N59⟩
        · -- hc57: False
          have pre61 : Go p.tables e below (s₁.setTop (entryFrame m #[(.int u0), (.int u1), (.int u2), (.int u3), (.int u4)] maxLocals)) T55 (mkF m 214 #[.val (.int u0), .val (.int u1), .val (.int u2), .val (.int u3), .val (.int u4), .val (.ref b2), .val (.ref b15), .val (.int (1 : Int32)), .val (.int (0 : Int32)), .val (.int (0 : Int32)), .val (.int (1 : Int32))] [(.int (2 : Int32)), (.ref b15)]) := fun t k => pre56 t (by
              refine XS.ifNo X55.here hx rfl (hb hby at_208) rfl ((if0 _ _).trans (feq hc57).1) ?_
              refine XS.aload X55.here hx rfl (hb hby at_211) rfl rfl ?_
              refine XS.iconst X55.here hx rfl (hb hby at_213) ?_
              exact k)
          obtain ⟨cq62, kq62, q62a, q62b, q62c⟩ := isOf hZ e55 fo50_0
          obtain ⟨_, _, ⟨T62, L62, k62, n62⟩, -, X62, ⟨Lc62, hQ62, l62, y62, z62⟩, st62⟩ := X55.virtualBack hx (y := (⟨"com/example/octopoll/octopoll/PageHeap", "remove", "(I)V"⟩ : MethodName)) (z := (⟨"com/example/octopoll/octopoll/PageHeap", "remove", "(I)V"⟩ : MethodName)) hown (mvT hZ (hw _ (List.mem_of_getElem? (i := 45) rfl))) (mvT hZ (hw _ (List.mem_of_getElem? (i := 46) rfl))) (notFace_of_selects (args := #[]) (mvT hZ (hw _ (List.mem_of_getElem? (i := 48) rfl)))) (mvT hZ (hw _ (List.mem_of_getElem? (i := 48) rfl))) (mvT hZ (hw _ (List.mem_of_getElem? (i := 47) rfl))) (by decide) (backOf (W := 0) (rm_rem2 l Z av0 hw [] b15 b2 ha25 pa25 k2 kh25 kp25 (FP.i2d (u2 &&& (3 : Int32))) (FP.i2d (u3 &&& (3 : Int32))) (FP.i2d (u4 &&& (3 : Int32))) z050 z150 z250 z350 z450 z550 false false T50.heap n0 f51 fo50_0 fo50_1 fo50_2 fo50_3 fo50_4 f52 fo50_5 fo50_6 g17 gha25 gpa25 ne27 ne30 po25_0 ne16.symm ne26 ne29 po50_0) hZ (hw _ (List.mem_of_getElem? (i := 49) rfl)) (hw _ (List.mem_of_getElem? (i := 3) rfl)) (by decide) (by decide)) q62a q62c (g := (mkF m 214 #[.val (.int u0), .val (.int u1), .val (.int u2), .val (.int u3), .val (.int u4), .val (.ref b2), .val (.ref b15), .val (.int (1 : Int32)), .val (.int (0 : Int32)), .val (.int (0 : Int32)), .val (.int (1 : Int32))] [(.int (2 : Int32)), (.ref b15)])) rfl (by rw [hml]; rfl) (Steps.refl _) (argsL := [(.int (2 : Int32))]) (rest := []) (lenOf pd_2 rfl) rfl (by show 2 * 0 + _ ≤ _; exact Nat.le_of_eq rfl) (hb hby at_214) (fun _ _ => ⟨rfl, e55, (by decide : 4 + 0 ≤ _), (by decide : 13 + 0 ≤ _)⟩)
          dsimp only [Pt.U, Pt.locs, Pt.cells, Pt.slots] at X62 l62 y62 z62 st62 hQ62
          subst l62 y62 z62
          obtain ⟨z062, z162, z262, z362, z462, z562, hv62, N62q, K62, fo62_0, fo62_1, fo62_2, fo62_3, fo62_4, fo62_5, fo62_6, po62_0⟩ := hQ62
          have f63 := Nat.le_trans f51 K62.1
          have f64 := f52.keep K62 (ninS ne16 (ninS ne26 (ninS ne29 nin0)))
          have f65 := fo50_0.keep K62
          subst hv62
          have N62 := Fr.app N55 N62q
          have pre62 : Go p.tables e below (s₁.setTop (entryFrame m #[(.int u0), (.int u1), (.int u2), (.int u3), (.int u4)] maxLocals)) T62 (mkF m 217 #[.val (.int u0), .val (.int u1), .val (.int u2), .val (.int u3), .val (.int u4), .val (.ref b2), .val (.ref b15), .val (.int (1 : Int32)), .val (.int (0 : Int32)), .val (.int (0 : Int32)), .val (.int (1 : Int32))] []) := fun t k => pre61 t (st62.trans k)
          have pre66 : Go p.tables e below (s₁.setTop (entryFrame m #[(.int u0), (.int u1), (.int u2), (.int u3), (.int u4)] maxLocals)) T62 (mkF m 227 #[.val (.int u0), .val (.int u1), .val (.int u2), .val (.int u3), .val (.int u4), .val (.ref b2), .val (.ref b15), .val (.int (1 : Int32)), .val (.int (0 : Int32)), .val (.int (0 : Int32)), .val (.int (0 : Int32))] [(.ref b15)]) := fun t k => pre62 t (by
              refine XS.iconst X62.here hx rfl (hb hby at_217) ?_
              refine XS.istore X62.here hx rfl (hb hby at_218) rfl (l' := #[.val (.int u0), .val (.int u1), .val (.int u2), .val (.int u3), .val (.int u4), .val (.ref b2), .val (.ref b15), .val (.int (1 : Int32)), .val (.int (0 : Int32)), .val (.int (0 : Int32)), .val (.int (0 : Int32))]) rfl ?_
              show Steps p.tables e below (T62.setTop (mkF m 220 #[.val (.int u0), .val (.int u1), .val (.int u2), .val (.int u3), .val (.int u4), .val (.ref b2), .val (.ref b15), .val (.int (1 : Int32)), .val (.int (0 : Int32)), .val (.int (0 : Int32)), .val (.int (0 : Int32))] [])) _
              refine XS.iload X62.here hx rfl (hb hby at_220) rfl ?_
              refine XS.ifNo X62.here hx rfl (hb hby at_222) rfl ((if0 _ _).trans (feq (by decide)).1) ?_
              refine XS.aload X62.here hx rfl (hb hby at_225) rfl rfl ?_
              exact k)
          obtain ⟨cq67, kq67, q67a, q67b, q67c⟩ := isOf hZ rfl fo62_0
          obtain ⟨_, _, ⟨T67, L67, k67, n67⟩, -, X67, ⟨Lc67, hQ67, l67, y67, z67⟩, st67⟩ := X62.virtualBack hx (y := (⟨"com/example/octopoll/octopoll/PageHeap", "isEmpty", "()Z"⟩ : MethodName)) (z := (⟨"com/example/octopoll/octopoll/PageHeap", "isEmpty", "()Z"⟩ : MethodName)) hown (mvT hZ (hw _ (List.mem_of_getElem? (i := 21) rfl))) (mvT hZ (hw _ (List.mem_of_getElem? (i := 22) rfl))) (notFace_of_selects (args := #[]) (mvT hZ (hw _ (List.mem_of_getElem? (i := 24) rfl)))) (mvT hZ (hw _ (List.mem_of_getElem? (i := 24) rfl))) (mvT hZ (hw _ (List.mem_of_getElem? (i := 23) rfl))) (by decide) (backOf (W := 0) (rm_ise l Z av0 hw [] b15 (0 : Int32) T62.heap n0  fo62_4) hZ (hw _ (List.mem_of_getElem? (i := 25) rfl)) (hw _ (List.mem_of_getElem? (i := 3) rfl)) (by decide) (by decide)) q67a q67c (g := (mkF m 227 #[.val (.int u0), .val (.int u1), .val (.int u2), .val (.int u3), .val (.int u4), .val (.ref b2), .val (.ref b15), .val (.int (1 : Int32)), .val (.int (0 : Int32)), .val (.int (0 : Int32)), .val (.int (0 : Int32))] [(.ref b15)])) rfl (by rw [hml]; rfl) (Steps.refl _) (argsL := []) (rest := []) (lenOf pd_5 rfl) rfl (by show 2 * 0 + _ ≤ _; exact Nat.le_of_eq rfl) (hb hby at_227) (fun _ _ => ⟨rfl, rfl, (by decide : 4 + 0 ≤ _), (by decide : 13 + 0 ≤ _)⟩)
          dsimp only [Pt.U, Pt.locs, Pt.cells, Pt.slots] at X67 l67 y67 z67 st67 hQ67
          subst l67 y67 z67
          obtain ⟨hv67, N67q, e67⟩ := hQ67
          rw [show own_e (0 : Int32) = (1 : Int32) from rfl] at hv67
          subst hv67
          have N67 := Fr.app N62 N67q
          have pre67 : Go p.tables e below (s₁.setTop (entryFrame m #[(.int u0), (.int u1), (.int u2), (.int u3), (.int u4)] maxLocals)) T67 (mkF m 230 #[.val (.int u0), .val (.int u1), .val (.int u2), .val (.int u3), .val (.int u4), .val (.ref b2), .val (.ref b15), .val (.int (1 : Int32)), .val (.int (0 : Int32)), .val (.int (0 : Int32)), .val (.int (0 : Int32))] [(.int (1 : Int32))]) := fun t k => pre66 t (st67.trans k)
          have pre68 : Go p.tables e below (s₁.setTop (entryFrame m #[(.int u0), (.int u1), (.int u2), (.int u3), (.int u4)] maxLocals)) T67 (mkF m 262 #[.val (.int u0), .val (.int u1), .val (.int u2), .val (.int u3), .val (.int u4), .val (.ref b2), .val (.ref b15), .val (.int (1 : Int32)), .val (.int (0 : Int32)), .val (.int (0 : Int32)), .val (.int (0 : Int32))] [(.int (1 : Int32))]) := fun t k => pre67 t (by
              refine XS.iload X67.here hx rfl (hb hby at_230) rfl ?_
              refine XS.ifNo X67.here hx rfl (hb hby at_232) rfl ((if0 _ _).trans (teq (by decide)).2) ?_
              refine XS.iload X67.here hx rfl (hb hby at_235) rfl ?_
              refine XS.ifNo X67.here hx rfl (hb hby at_237) rfl ((if0 _ _).trans (teq (by decide)).2) ?_
              refine XS.iload X67.here hx rfl (hb hby at_240) rfl ?_
              refine XS.ifNo X67.here hx rfl (hb hby at_242) rfl ((if0 _ _).trans (teq (by decide)).2) ?_
              refine XS.iconst X67.here hx rfl (hb hby at_245) ?_
              refine XS.goto X67.here hx rfl (pc0 := 246) (pc' := 250) rfl (hb hby at_246) (by decide) (by decide) ?_
              show Steps p.tables e below (T67.setTop (mkF m 250 #[.val (.int u0), .val (.int u1), .val (.int u2), .val (.int u3), .val (.int u4), .val (.ref b2), .val (.ref b15), .val (.int (1 : Int32)), .val (.int (0 : Int32)), .val (.int (0 : Int32)), .val (.int (0 : Int32))] [(.int (1 : Int32)), (.int (1 : Int32))])) _
              refine XS.icmpNo X67.here hx rfl (hb hby at_250) rfl (teq (by decide)).2 ?_
              refine XS.iconst X67.here hx rfl (hb hby at_253) ?_
              refine XS.goto X67.here hx rfl (pc0 := 254) (pc' := 258) rfl (hb hby at_254) (by decide) (by decide) ?_
              show Steps p.tables e below (T67.setTop (mkF m 258 #[.val (.int u0), .val (.int u1), .val (.int u2), .val (.int u3), .val (.int u4), .val (.ref b2), .val (.ref b15), .val (.int (1 : Int32)), .val (.int (0 : Int32)), .val (.int (0 : Int32)), .val (.int (0 : Int32))] [(.int (1 : Int32))])) _
              refine XS.istore X67.here hx rfl (hb hby at_258) rfl (l' := #[.val (.int u0), .val (.int u1), .val (.int u2), .val (.int u3), .val (.int u4), .val (.ref b2), .val (.ref b15), .val (.int (1 : Int32)), .val (.int (0 : Int32)), .val (.int (0 : Int32)), .val (.int (0 : Int32))]) rfl ?_
              show Steps p.tables e below (T67.setTop (mkF m 260 #[.val (.int u0), .val (.int u1), .val (.int u2), .val (.int u3), .val (.int u4), .val (.ref b2), .val (.ref b15), .val (.int (1 : Int32)), .val (.int (0 : Int32)), .val (.int (0 : Int32)), .val (.int (0 : Int32))] [])) _
              refine XS.iload X67.here hx rfl (hb hby at_260) rfl ?_
              exact k)
          obtain ⟨fs, hr, hrun, hended, hW, hsame⟩ := X67.leave (v := some (.int (1 : Int32))) (fun h => by rw [Bd.returns] at h; cases h) (BodyLoose.notSynchronized Bd)
          refine ⟨_, _, pre68 _ ?_, hrun, hended, _, _, rfl, ?_, ⟨_, rfl⟩, hW, hsame.mono (Nat.le_of_ble_eq_true rfl) (Nat.le_of_ble_eq_true rfl)⟩
          · exact retN X67 hx (t := .boolean) Bd.returns (by simp) (hb hby at_262) hr
          · show Q_law Z u0 u1 u2 u3 u4 h0 n0 _ T67.heap _
            rw [e67]
            exact ⟨rfl, N67⟩
    · -- hc41: False
      have pre69 : Go p.tables e below (s₁.setTop (entryFrame m #[(.int u0), (.int u1), (.int u2), (.int u3), (.int u4)] maxLocals)) T37 (mkF m 77 #[.val (.int u0), .val (.int u1), .val (.int u2), .val (.int u3), .val (.int u4), .val (.ref b2), .val (.ref b15), .val (.int (1 : Int32)), .val (.int (0 : Int32)), .val (.int (1 : Int32)), .unset] [(.int (u0 &&& (4 : Int32)))]) := fun t k => pre40 t (by
          refine XS.ifNo X37.here hx rfl (hb hby at_64) rfl ((if0 _ _).trans (feq hc41).1) ?_
          refine XS.iconst X37.here hx rfl (hb hby at_67) ?_
          refine XS.goto X37.here hx rfl (pc0 := 68) (pc' := 72) rfl (hb hby at_68) (by decide) (by decide) ?_
          show Steps p.tables e below (T37.setTop (mkF m 72 #[.val (.int u0), .val (.int u1), .val (.int u2), .val (.int u3), .val (.int u4), .val (.ref b2), .val (.ref b15), .val (.int (1 : Int32)), .val (.int (0 : Int32)), .unset, .unset] [(.int (1 : Int32))])) _
          refine XS.istore X37.here hx rfl (hb hby at_72) rfl (l' := #[.val (.int u0), .val (.int u1), .val (.int u2), .val (.int u3), .val (.int u4), .val (.ref b2), .val (.ref b15), .val (.int (1 : Int32)), .val (.int (0 : Int32)), .val (.int (1 : Int32)), .unset]) rfl ?_
          show Steps p.tables e below (T37.setTop (mkF m 74 #[.val (.int u0), .val (.int u1), .val (.int u2), .val (.int u3), .val (.int u4), .val (.ref b2), .val (.ref b15), .val (.int (1 : Int32)), .val (.int (0 : Int32)), .val (.int (1 : Int32)), .unset] [])) _
          refine XS.iloadN X37.here hx rfl (hb hby at_74) rfl ?_
          refine XS.iconst X37.here hx rfl (hb hby at_75) ?_
          refine XS.iand X37.here hx rfl (hb hby at_76) rfl ?_
          exact k)
      by_cases hc70 : (u0 &&& (4 : Int32)) = (0 : Int32)
      · -- hc70: True
        have pre71 : Go p.tables e below (s₁.setTop (entryFrame m #[(.int u0), (.int u1), (.int u2), (.int u3), (.int u4)] maxLocals)) T37 (mkF m 106 #[.val (.int u0), .val (.int u1), .val (.int u2), .val (.int u3), .val (.int u4), .val (.ref b2), .val (.ref b15), .val (.int (1 : Int32)), .val (.int (0 : Int32)), .val (.int (1 : Int32)), .val (.int (0 : Int32))] [(.int (1 : Int32)), (.ref b15)]) := fun t k => pre69 t (by
            refine XS.ifYes X37.here hx rfl (pc0 := 77) (pc' := 84) rfl (hb hby at_77) rfl ((if0 _ _).trans (teq hc70).1) (by decide) (by decide) ?_
            refine XS.iconst X37.here hx rfl (hb hby at_84) ?_
            refine XS.istore X37.here hx rfl (hb hby at_85) rfl (l' := #[.val (.int u0), .val (.int u1), .val (.int u2), .val (.int u3), .val (.int u4), .val (.ref b2), .val (.ref b15), .val (.int (1 : Int32)), .val (.int (0 : Int32)), .val (.int (1 : Int32)), .val (.int (0 : Int32))]) rfl ?_
            show Steps p.tables e below (T37.setTop (mkF m 87 #[.val (.int u0), .val (.int u1), .val (.int u2), .val (.int u3), .val (.int u4), .val (.ref b2), .val (.ref b15), .val (.int (1 : Int32)), .val (.int (0 : Int32)), .val (.int (1 : Int32)), .val (.int (0 : Int32))] [])) _
            refine XS.iload X37.here hx rfl (hb hby at_87) rfl ?_
            refine XS.ifYes X37.here hx rfl (pc0 := 89) (pc' := 98) rfl (hb hby at_89) rfl ((if0 _ _).trans (teq (by decide)).1) (by decide) (by decide) ?_
            refine XS.iload X37.here hx rfl (hb hby at_98) rfl ?_
            refine XS.ifNo X37.here hx rfl (hb hby at_100) rfl ((if0 _ _).trans (feq (by decide)).1) ?_
            refine XS.aload X37.here hx rfl (hb hby at_103) rfl rfl ?_
            refine XS.iconst X37.here hx rfl (hb hby at_105) ?_
            exact k)
        obtain ⟨cq72, kq72, q72a, q72b, q72c⟩ := isOf hZ e37 fo25_0
        obtain ⟨_, _, ⟨T72, L72, k72, n72⟩, -, X72, ⟨Lc72, hQ72, l72, y72, z72⟩, st72⟩ := X37.virtualBack hx (y := (⟨"com/example/octopoll/octopoll/PageHeap", "add", "(I)V"⟩ : MethodName)) (z := (⟨"com/example/octopoll/octopoll/PageHeap", "add", "(I)V"⟩ : MethodName)) hown (mvT hZ (hw _ (List.mem_of_getElem? (i := 28) rfl))) (mvT hZ (hw _ (List.mem_of_getElem? (i := 29) rfl))) (notFace_of_selects (args := #[]) (mvT hZ (hw _ (List.mem_of_getElem? (i := 31) rfl)))) (mvT hZ (hw _ (List.mem_of_getElem? (i := 31) rfl))) (mvT hZ (hw _ (List.mem_of_getElem? (i := 30) rfl))) (by decide) (backOf (W := 0) (rm_add1 l Z av0 hw [] b15 b2 ha25 pa25 k2 kh25 kp25 (FP.i2d (u2 &&& (3 : Int32))) (FP.i2d (u3 &&& (3 : Int32))) (FP.i2d (u4 &&& (3 : Int32))) (0 : Int32) (0 : Int32) (0 : Int32) (-1 : Int32) (-1 : Int32) (-1 : Int32) false false T25.heap n0 f32 fo25_0 fo25_1 fo25_2 fo25_3 fo25_4 f33 fo25_5 fo25_6 g17 gha25 gpa25 ne27 ne30 po25_0 ne16.symm ne26 ne29 hS0) hZ (hw _ (List.mem_of_getElem? (i := 32) rfl)) (hw _ (List.mem_of_getElem? (i := 3) rfl)) (by decide) (by decide)) q72a q72c (g := (mkF m 106 #[.val (.int u0), .val (.int u1), .val (.int u2), .val (.int u3), .val (.int u4), .val (.ref b2), .val (.ref b15), .val (.int (1 : Int32)), .val (.int (0 : Int32)), .val (.int (1 : Int32)), .val (.int (0 : Int32))] [(.int (1 : Int32)), (.ref b15)])) rfl (by rw [hml]; rfl) (Steps.refl _) (argsL := [(.int (1 : Int32))]) (rest := []) (lenOf pd_2 rfl) rfl (by show 2 * 0 + _ ≤ _; exact Nat.le_of_eq rfl) (hb hby at_106) (fun _ _ => ⟨rfl, e37, (by decide : 4 + 0 ≤ _), (by decide : 13 + 0 ≤ _)⟩)
        dsimp only [Pt.U, Pt.locs, Pt.cells, Pt.slots] at X72 l72 y72 z72 st72 hQ72
        subst l72 y72 z72
        obtain ⟨z072, z172, z272, z372, z472, z572, hv72, N72q, K72, fo72_0, fo72_1, fo72_2, fo72_3, fo72_4, fo72_5, fo72_6, po72_0⟩ := hQ72
        have f73 := Nat.le_trans f32 K72.1
        have f74 := f33.keep K72 (ninS ne16 (ninS ne26 (ninS ne29 nin0)))
        have f75 := fo25_0.keep K72
        subst hv72
        have N72 := Fr.app N37 N72q
        have pre72 : Go p.tables e below (s₁.setTop (entryFrame m #[(.int u0), (.int u1), (.int u2), (.int u3), (.int u4)] maxLocals)) T72 (mkF m 109 #[.val (.int u0), .val (.int u1), .val (.int u2), .val (.int u3), .val (.int u4), .val (.ref b2), .val (.ref b15), .val (.int (1 : Int32)), .val (.int (0 : Int32)), .val (.int (1 : Int32)), .val (.int (0 : Int32))] []) := fun t k => pre71 t (st72.trans k)
        have pre76 : Go p.tables e below (s₁.setTop (entryFrame m #[(.int u0), (.int u1), (.int u2), (.int u3), (.int u4)] maxLocals)) T72 (mkF m 127 #[.val (.int u0), .val (.int u1), .val (.int u2), .val (.int u3), .val (.int u4), .val (.ref b2), .val (.ref b15), .val (.int (1 : Int32)), .val (.int (0 : Int32)), .val (.int (1 : Int32)), .val (.int (0 : Int32))] [(.ref b15)]) := fun t k => pre72 t (by
            refine XS.iload X72.here hx rfl (hb hby at_109) rfl ?_
            refine XS.ifYes X72.here hx rfl (pc0 := 111) (pc' := 120) rfl (hb hby at_111) rfl ((if0 _ _).trans (teq (by decide)).1) (by decide) (by decide) ?_
            refine XS.iload X72.here hx rfl (hb hby at_120) rfl ?_
            refine XS.ifNo X72.here hx rfl (hb hby at_122) rfl ((if0 _ _).trans (feq (by decide)).1) ?_
            refine XS.aload X72.here hx rfl (hb hby at_125) rfl rfl ?_
            exact k)
        obtain ⟨cq77, kq77, q77a, q77b, q77c⟩ := isOf hZ rfl fo72_0
        obtain ⟨_, _, ⟨T77, L77, k77, n77⟩, -, X77, ⟨Lc77, hQ77, l77, y77, z77⟩, st77⟩ := X72.virtualBack hx (y := (⟨"com/example/octopoll/octopoll/PageHeap", "isEmpty", "()Z"⟩ : MethodName)) (z := (⟨"com/example/octopoll/octopoll/PageHeap", "isEmpty", "()Z"⟩ : MethodName)) hown (mvT hZ (hw _ (List.mem_of_getElem? (i := 21) rfl))) (mvT hZ (hw _ (List.mem_of_getElem? (i := 22) rfl))) (notFace_of_selects (args := #[]) (mvT hZ (hw _ (List.mem_of_getElem? (i := 24) rfl)))) (mvT hZ (hw _ (List.mem_of_getElem? (i := 24) rfl))) (mvT hZ (hw _ (List.mem_of_getElem? (i := 23) rfl))) (by decide) (backOf (W := 0) (rm_ise l Z av0 hw [] b15 (1 : Int32) T72.heap n0  fo72_4) hZ (hw _ (List.mem_of_getElem? (i := 25) rfl)) (hw _ (List.mem_of_getElem? (i := 3) rfl)) (by decide) (by decide)) q77a q77c (g := (mkF m 127 #[.val (.int u0), .val (.int u1), .val (.int u2), .val (.int u3), .val (.int u4), .val (.ref b2), .val (.ref b15), .val (.int (1 : Int32)), .val (.int (0 : Int32)), .val (.int (1 : Int32)), .val (.int (0 : Int32))] [(.ref b15)])) rfl (by rw [hml]; rfl) (Steps.refl _) (argsL := []) (rest := []) (lenOf pd_5 rfl) rfl (by show 2 * 0 + _ ≤ _; exact Nat.le_of_eq rfl) (hb hby at_127) (fun _ _ => ⟨rfl, rfl, (by decide : 4 + 0 ≤ _), (by decide : 13 + 0 ≤ _)⟩)
        dsimp only [Pt.U, Pt.locs, Pt.cells, Pt.slots] at X77 l77 y77 z77 st77 hQ77
        subst l77 y77 z77
        obtain ⟨hv77, N77q, e77⟩ := hQ77
        rw [show own_e (1 : Int32) = (0 : Int32) from rfl] at hv77
        subst hv77
        have N77 := Fr.app N72 N77q
        have pre77 : Go p.tables e below (s₁.setTop (entryFrame m #[(.int u0), (.int u1), (.int u2), (.int u3), (.int u4)] maxLocals)) T77 (mkF m 130 #[.val (.int u0), .val (.int u1), .val (.int u2), .val (.int u3), .val (.int u4), .val (.ref b2), .val (.ref b15), .val (.int (1 : Int32)), .val (.int (0 : Int32)), .val (.int (1 : Int32)), .val (.int (0 : Int32))] [(.int (0 : Int32))]) := fun t k => pre76 t (st77.trans k)
        have pre78 : Go p.tables e below (s₁.setTop (entryFrame m #[(.int u0), (.int u1), (.int u2), (.int u3), (.int u4)] maxLocals)) T77 (mkF m 188 #[.val (.int u0), .val (.int u1), .val (.int u2), .val (.int u3), .val (.int u4), .val (.ref b2), .val (.ref b15), .val (.int (1 : Int32)), .val (.int (0 : Int32)), .val (.int (1 : Int32)), .val (.int (0 : Int32))] [(.int (u1 &&& (2 : Int32)))]) := fun t k => pre77 t (by
            refine XS.iload X77.here hx rfl (hb hby at_130) rfl ?_
            refine XS.ifNo X77.here hx rfl (hb hby at_132) rfl ((if0 _ _).trans (teq (by decide)).2) ?_
            refine XS.iload X77.here hx rfl (hb hby at_135) rfl ?_
            refine XS.ifYes X77.here hx rfl (pc0 := 137) (pc' := 149) rfl (hb hby at_137) rfl ((if0 _ _).trans (feq (by decide)).2) (by decide) (by decide) ?_
            refine XS.iconst X77.here hx rfl (hb hby at_149) ?_
            refine XS.icmpNo X77.here hx rfl (hb hby at_150) rfl (teq (by decide)).2 ?_
            refine XS.iconst X77.here hx rfl (hb hby at_153) ?_
            refine XS.goto X77.here hx rfl (pc0 := 154) (pc' := 158) rfl (hb hby at_154) (by decide) (by decide) ?_
            show Steps p.tables e below (T77.setTop (mkF m 158 #[.val (.int u0), .val (.int u1), .val (.int u2), .val (.int u3), .val (.int u4), .val (.ref b2), .val (.ref b15), .val (.int (1 : Int32)), .val (.int (0 : Int32)), .val (.int (1 : Int32)), .val (.int (0 : Int32))] [(.int (1 : Int32))])) _
            refine XS.istore X77.here hx rfl (hb hby at_158) rfl (l' := #[.val (.int u0), .val (.int u1), .val (.int u2), .val (.int u3), .val (.int u4), .val (.ref b2), .val (.ref b15), .val (.int (1 : Int32)), .val (.int (0 : Int32)), .val (.int (1 : Int32)), .val (.int (0 : Int32))]) rfl ?_
            show Steps p.tables e below (T77.setTop (mkF m 160 #[.val (.int u0), .val (.int u1), .val (.int u2), .val (.int u3), .val (.int u4), .val (.ref b2), .val (.ref b15), .val (.int (1 : Int32)), .val (.int (0 : Int32)), .val (.int (1 : Int32)), .val (.int (0 : Int32))] [])) _
            refine XS.iload X77.here hx rfl (hb hby at_160) rfl ?_
            refine XS.ifYes X77.here hx rfl (pc0 := 162) (pc' := 180) rfl (hb hby at_162) rfl ((if0 _ _).trans (teq (by decide)).1) (by decide) (by decide) ?_
            refine XS.iload X77.here hx rfl (hb hby at_180) rfl ?_
            refine XS.ifNo X77.here hx rfl (hb hby at_182) rfl ((if0 _ _).trans (feq (by decide)).1) ?_
            refine XS.iloadN X77.here hx rfl (hb hby at_185) rfl ?_
            refine XS.iconst X77.here hx rfl (hb hby at_186) ?_
            refine XS.iand X77.here hx rfl (hb hby at_187) rfl ?_
            exact k)
        by_cases hc79 : (u1 &&& (2 : Int32)) = (0 : Int32)
        · -- hc79: True
          have pre80 : Go p.tables e below (s₁.setTop (entryFrame m #[(.int u0), (.int u1), (.int u2), (.int u3), (.int u4)] maxLocals)) T77 (mkF m 227 #[.val (.int u0), .val (.int u1), .val (.int u2), .val (.int u3), .val (.int u4), .val (.ref b2), .val (.ref b15), .val (.int (1 : Int32)), .val (.int (0 : Int32)), .val (.int (1 : Int32)), .val (.int (0 : Int32))] [(.ref b15)]) := fun t k => pre78 t (by
              refine XS.ifYes X77.here hx rfl (pc0 := 188) (pc' := 200) rfl (hb hby at_188) rfl ((if0 _ _).trans (teq hc79).1) (by decide) (by decide) ?_
              refine XS.iload X77.here hx rfl (hb hby at_200) rfl ?_
              refine XS.ifYes X77.here hx rfl (pc0 := 202) (pc' := 220) rfl (hb hby at_202) rfl ((if0 _ _).trans (teq (by decide)).1) (by decide) (by decide) ?_
              refine XS.iload X77.here hx rfl (hb hby at_220) rfl ?_
              refine XS.ifNo X77.here hx rfl (hb hby at_222) rfl ((if0 _ _).trans (feq (by decide)).1) ?_
              refine XS.aload X77.here hx rfl (hb hby at_225) rfl rfl ?_
              exact k)
          obtain ⟨cq81, kq81, q81a, q81b, q81c⟩ := isOf hZ e77 fo72_0
          obtain ⟨_, _, ⟨T81, L81, k81, n81⟩, -, X81, ⟨Lc81, hQ81, l81, y81, z81⟩, st81⟩ := X77.virtualBack hx (y := (⟨"com/example/octopoll/octopoll/PageHeap", "isEmpty", "()Z"⟩ : MethodName)) (z := (⟨"com/example/octopoll/octopoll/PageHeap", "isEmpty", "()Z"⟩ : MethodName)) hown (mvT hZ (hw _ (List.mem_of_getElem? (i := 21) rfl))) (mvT hZ (hw _ (List.mem_of_getElem? (i := 22) rfl))) (notFace_of_selects (args := #[]) (mvT hZ (hw _ (List.mem_of_getElem? (i := 24) rfl)))) (mvT hZ (hw _ (List.mem_of_getElem? (i := 24) rfl))) (mvT hZ (hw _ (List.mem_of_getElem? (i := 23) rfl))) (by decide) (backOf (W := 0) (rm_ise l Z av0 hw [] b15 (1 : Int32) T72.heap n0  fo72_4) hZ (hw _ (List.mem_of_getElem? (i := 25) rfl)) (hw _ (List.mem_of_getElem? (i := 3) rfl)) (by decide) (by decide)) q81a q81c (g := (mkF m 227 #[.val (.int u0), .val (.int u1), .val (.int u2), .val (.int u3), .val (.int u4), .val (.ref b2), .val (.ref b15), .val (.int (1 : Int32)), .val (.int (0 : Int32)), .val (.int (1 : Int32)), .val (.int (0 : Int32))] [(.ref b15)])) rfl (by rw [hml]; rfl) (Steps.refl _) (argsL := []) (rest := []) (lenOf pd_5 rfl) rfl (by show 2 * 0 + _ ≤ _; exact Nat.le_of_eq rfl) (hb hby at_227) (fun _ _ => ⟨rfl, e77, (by decide : 4 + 0 ≤ _), (by decide : 13 + 0 ≤ _)⟩)
          dsimp only [Pt.U, Pt.locs, Pt.cells, Pt.slots] at X81 l81 y81 z81 st81 hQ81
          subst l81 y81 z81
          obtain ⟨hv81, N81q, e81⟩ := hQ81
          rw [show own_e (1 : Int32) = (0 : Int32) from rfl] at hv81
          subst hv81
          have N81 := Fr.app N77 N81q
          have pre81 : Go p.tables e below (s₁.setTop (entryFrame m #[(.int u0), (.int u1), (.int u2), (.int u3), (.int u4)] maxLocals)) T81 (mkF m 230 #[.val (.int u0), .val (.int u1), .val (.int u2), .val (.int u3), .val (.int u4), .val (.ref b2), .val (.ref b15), .val (.int (1 : Int32)), .val (.int (0 : Int32)), .val (.int (1 : Int32)), .val (.int (0 : Int32))] [(.int (0 : Int32))]) := fun t k => pre80 t (st81.trans k)
          have pre82 : Go p.tables e below (s₁.setTop (entryFrame m #[(.int u0), (.int u1), (.int u2), (.int u3), (.int u4)] maxLocals)) T81 (mkF m 262 #[.val (.int u0), .val (.int u1), .val (.int u2), .val (.int u3), .val (.int u4), .val (.ref b2), .val (.ref b15), .val (.int (1 : Int32)), .val (.int (0 : Int32)), .val (.int (1 : Int32)), .val (.int (0 : Int32))] [(.int (1 : Int32))]) := fun t k => pre81 t (by
              refine XS.iload X81.here hx rfl (hb hby at_230) rfl ?_
              refine XS.ifNo X81.here hx rfl (hb hby at_232) rfl ((if0 _ _).trans (teq (by decide)).2) ?_
              refine XS.iload X81.here hx rfl (hb hby at_235) rfl ?_
              refine XS.ifYes X81.here hx rfl (pc0 := 237) (pc' := 249) rfl (hb hby at_237) rfl ((if0 _ _).trans (feq (by decide)).2) (by decide) (by decide) ?_
              refine XS.iconst X81.here hx rfl (hb hby at_249) ?_
              refine XS.icmpNo X81.here hx rfl (hb hby at_250) rfl (teq (by decide)).2 ?_
              refine XS.iconst X81.here hx rfl (hb hby at_253) ?_
              refine XS.goto X81.here hx rfl (pc0 := 254) (pc' := 258) rfl (hb hby at_254) (by decide) (by decide) ?_
              show Steps p.tables e below (T81.setTop (mkF m 258 #[.val (.int u0), .val (.int u1), .val (.int u2), .val (.int u3), .val (.int u4), .val (.ref b2), .val (.ref b15), .val (.int (1 : Int32)), .val (.int (0 : Int32)), .val (.int (1 : Int32)), .val (.int (0 : Int32))] [(.int (1 : Int32))])) _
              refine XS.istore X81.here hx rfl (hb hby at_258) rfl (l' := #[.val (.int u0), .val (.int u1), .val (.int u2), .val (.int u3), .val (.int u4), .val (.ref b2), .val (.ref b15), .val (.int (1 : Int32)), .val (.int (0 : Int32)), .val (.int (1 : Int32)), .val (.int (0 : Int32))]) rfl ?_
              show Steps p.tables e below (T81.setTop (mkF m 260 #[.val (.int u0), .val (.int u1), .val (.int u2), .val (.int u3), .val (.int u4), .val (.ref b2), .val (.ref b15), .val (.int (1 : Int32)), .val (.int (0 : Int32)), .val (.int (1 : Int32)), .val (.int (0 : Int32))] [])) _
              refine XS.iload X81.here hx rfl (hb hby at_260) rfl ?_
              exact k)
          obtain ⟨fs, hr, hrun, hended, hW, hsame⟩ := X81.leave (v := some (.int (1 : Int32))) (fun h => by rw [Bd.returns] at h; cases h) (BodyLoose.notSynchronized Bd)
          refine ⟨_, _, pre82 _ ?_, hrun, hended, _, _, rfl, ?_, ⟨_, rfl⟩, hW, hsame.mono (Nat.le_of_ble_eq_true rfl) (Nat.le_of_ble_eq_true rfl)⟩
          · exact retN X81 hx (t := .boolean) Bd.returns (by simp) (hb hby at_262) hr
          · show Q_law Z u0 u1 u2 u3 u4 h0 n0 _ T81.heap _
            rw [e81]
            exact ⟨rfl, N81⟩
        · -- hc79: False
          have pre83 : Go p.tables e below (s₁.setTop (entryFrame m #[(.int u0), (.int u1), (.int u2), (.int u3), (.int u4)] maxLocals)) T77 (mkF m 194 #[.val (.int u0), .val (.int u1), .val (.int u2), .val (.int u3), .val (.int u4), .val (.ref b2), .val (.ref b15), .val (.int (1 : Int32)), .val (.int (0 : Int32)), .val (.int (1 : Int32)), .val (.int (0 : Int32))] [(.int (1 : Int32)), (.ref b15)]) := fun t k => pre78 t (by
              refine XS.ifNo X77.here hx rfl (hb hby at_188) rfl ((if0 _ _).trans (feq hc79).1) ?_
              refine XS.aload X77.here hx rfl (hb hby at_191) rfl rfl ?_
              refine XS.iconst X77.here hx rfl (hb hby at_193) ?_
              exact k)
          obtain ⟨cq84, kq84, q84a, q84b, q84c⟩ := isOf hZ e77 fo72_0
          obtain ⟨_, _, ⟨T84, L84, k84, n84⟩, -, X84, ⟨Lc84, hQ84, l84, y84, z84⟩, st84⟩ := X77.virtualBack hx (y := (⟨"com/example/octopoll/octopoll/PageHeap", "remove", "(I)V"⟩ : MethodName)) (z := (⟨"com/example/octopoll/octopoll/PageHeap", "remove", "(I)V"⟩ : MethodName)) hown (mvT hZ (hw _ (List.mem_of_getElem? (i := 45) rfl))) (mvT hZ (hw _ (List.mem_of_getElem? (i := 46) rfl))) (notFace_of_selects (args := #[]) (mvT hZ (hw _ (List.mem_of_getElem? (i := 48) rfl)))) (mvT hZ (hw _ (List.mem_of_getElem? (i := 48) rfl))) (mvT hZ (hw _ (List.mem_of_getElem? (i := 47) rfl))) (by decide) (backOf (W := 0) (rm_rem1 l Z av0 hw [] b15 b2 ha25 pa25 k2 kh25 kp25 (FP.i2d (u2 &&& (3 : Int32))) (FP.i2d (u3 &&& (3 : Int32))) (FP.i2d (u4 &&& (3 : Int32))) z072 z172 z272 z372 z472 z572 false false T72.heap n0 f73 fo72_0 fo72_1 fo72_2 fo72_3 fo72_4 f74 fo72_5 fo72_6 g17 gha25 gpa25 ne27 ne30 po25_0 ne16.symm ne26 ne29 po72_0) hZ (hw _ (List.mem_of_getElem? (i := 49) rfl)) (hw _ (List.mem_of_getElem? (i := 3) rfl)) (by decide) (by decide)) q84a q84c (g := (mkF m 194 #[.val (.int u0), .val (.int u1), .val (.int u2), .val (.int u3), .val (.int u4), .val (.ref b2), .val (.ref b15), .val (.int (1 : Int32)), .val (.int (0 : Int32)), .val (.int (1 : Int32)), .val (.int (0 : Int32))] [(.int (1 : Int32)), (.ref b15)])) rfl (by rw [hml]; rfl) (Steps.refl _) (argsL := [(.int (1 : Int32))]) (rest := []) (lenOf pd_2 rfl) rfl (by show 2 * 0 + _ ≤ _; exact Nat.le_of_eq rfl) (hb hby at_194) (fun _ _ => ⟨rfl, e77, (by decide : 4 + 0 ≤ _), (by decide : 13 + 0 ≤ _)⟩)
          dsimp only [Pt.U, Pt.locs, Pt.cells, Pt.slots] at X84 l84 y84 z84 st84 hQ84
          subst l84 y84 z84
          obtain ⟨z084, z184, z284, z384, z484, z584, hv84, N84q, K84, fo84_0, fo84_1, fo84_2, fo84_3, fo84_4, fo84_5, fo84_6, po84_0⟩ := hQ84
          have f85 := Nat.le_trans f73 K84.1
          have f86 := f74.keep K84 (ninS ne16 (ninS ne26 (ninS ne29 nin0)))
          have f87 := fo72_0.keep K84
          subst hv84
          have N84 := Fr.app N77 N84q
          have pre84 : Go p.tables e below (s₁.setTop (entryFrame m #[(.int u0), (.int u1), (.int u2), (.int u3), (.int u4)] maxLocals)) T84 (mkF m 197 #[.val (.int u0), .val (.int u1), .val (.int u2), .val (.int u3), .val (.int u4), .val (.ref b2), .val (.ref b15), .val (.int (1 : Int32)), .val (.int (0 : Int32)), .val (.int (1 : Int32)), .val (.int (0 : Int32))] []) := fun t k => pre83 t (st84.trans k)
          have pre88 : Go p.tables e below (s₁.setTop (entryFrame m #[(.int u0), (.int u1), (.int u2), (.int u3), (.int u4)] maxLocals)) T84 (mkF m 227 #[.val (.int u0), .val (.int u1), .val (.int u2), .val (.int u3), .val (.int u4), .val (.ref b2), .val (.ref b15), .val (.int (1 : Int32)), .val (.int (0 : Int32)), .val (.int (0 : Int32)), .val (.int (0 : Int32))] [(.ref b15)]) := fun t k => pre84 t (by
              refine XS.iconst X84.here hx rfl (hb hby at_197) ?_
              refine XS.istore X84.here hx rfl (hb hby at_198) rfl (l' := #[.val (.int u0), .val (.int u1), .val (.int u2), .val (.int u3), .val (.int u4), .val (.ref b2), .val (.ref b15), .val (.int (1 : Int32)), .val (.int (0 : Int32)), .val (.int (0 : Int32)), .val (.int (0 : Int32))]) rfl ?_
              show Steps p.tables e below (T84.setTop (mkF m 200 #[.val (.int u0), .val (.int u1), .val (.int u2), .val (.int u3), .val (.int u4), .val (.ref b2), .val (.ref b15), .val (.int (1 : Int32)), .val (.int (0 : Int32)), .val (.int (0 : Int32)), .val (.int (0 : Int32))] [])) _
              refine XS.iload X84.here hx rfl (hb hby at_200) rfl ?_
              refine XS.ifYes X84.here hx rfl (pc0 := 202) (pc' := 220) rfl (hb hby at_202) rfl ((if0 _ _).trans (teq (by decide)).1) (by decide) (by decide) ?_
              refine XS.iload X84.here hx rfl (hb hby at_220) rfl ?_
              refine XS.ifNo X84.here hx rfl (hb hby at_222) rfl ((if0 _ _).trans (feq (by decide)).1) ?_
              refine XS.aload X84.here hx rfl (hb hby at_225) rfl rfl ?_
              exact k)
          obtain ⟨cq89, kq89, q89a, q89b, q89c⟩ := isOf hZ rfl fo84_0
          obtain ⟨_, _, ⟨T89, L89, k89, n89⟩, -, X89, ⟨Lc89, hQ89, l89, y89, z89⟩, st89⟩ := X84.virtualBack hx (y := (⟨"com/example/octopoll/octopoll/PageHeap", "isEmpty", "()Z"⟩ : MethodName)) (z := (⟨"com/example/octopoll/octopoll/PageHeap", "isEmpty", "()Z"⟩ : MethodName)) hown (mvT hZ (hw _ (List.mem_of_getElem? (i := 21) rfl))) (mvT hZ (hw _ (List.mem_of_getElem? (i := 22) rfl))) (notFace_of_selects (args := #[]) (mvT hZ (hw _ (List.mem_of_getElem? (i := 24) rfl)))) (mvT hZ (hw _ (List.mem_of_getElem? (i := 24) rfl))) (mvT hZ (hw _ (List.mem_of_getElem? (i := 23) rfl))) (by decide) (backOf (W := 0) (rm_ise l Z av0 hw [] b15 (0 : Int32) T84.heap n0  fo84_4) hZ (hw _ (List.mem_of_getElem? (i := 25) rfl)) (hw _ (List.mem_of_getElem? (i := 3) rfl)) (by decide) (by decide)) q89a q89c (g := (mkF m 227 #[.val (.int u0), .val (.int u1), .val (.int u2), .val (.int u3), .val (.int u4), .val (.ref b2), .val (.ref b15), .val (.int (1 : Int32)), .val (.int (0 : Int32)), .val (.int (0 : Int32)), .val (.int (0 : Int32))] [(.ref b15)])) rfl (by rw [hml]; rfl) (Steps.refl _) (argsL := []) (rest := []) (lenOf pd_5 rfl) rfl (by show 2 * 0 + _ ≤ _; exact Nat.le_of_eq rfl) (hb hby at_227) (fun _ _ => ⟨rfl, rfl, (by decide : 4 + 0 ≤ _), (by decide : 13 + 0 ≤ _)⟩)
          dsimp only [Pt.U, Pt.locs, Pt.cells, Pt.slots] at X89 l89 y89 z89 st89 hQ89
          subst l89 y89 z89
          obtain ⟨hv89, N89q, e89⟩ := hQ89
          rw [show own_e (0 : Int32) = (1 : Int32) from rfl] at hv89
          subst hv89
          have N89 := Fr.app N84 N89q
          have pre89 : Go p.tables e below (s₁.setTop (entryFrame m #[(.int u0), (.int u1), (.int u2), (.int u3), (.int u4)] maxLocals)) T89 (mkF m 230 #[.val (.int u0), .val (.int u1), .val (.int u2), .val (.int u3), .val (.int u4), .val (.ref b2), .val (.ref b15), .val (.int (1 : Int32)), .val (.int (0 : Int32)), .val (.int (0 : Int32)), .val (.int (0 : Int32))] [(.int (1 : Int32))]) := fun t k => pre88 t (st89.trans k)
          have pre90 : Go p.tables e below (s₁.setTop (entryFrame m #[(.int u0), (.int u1), (.int u2), (.int u3), (.int u4)] maxLocals)) T89 (mkF m 262 #[.val (.int u0), .val (.int u1), .val (.int u2), .val (.int u3), .val (.int u4), .val (.ref b2), .val (.ref b15), .val (.int (1 : Int32)), .val (.int (0 : Int32)), .val (.int (0 : Int32)), .val (.int (0 : Int32))] [(.int (1 : Int32))]) := fun t k => pre89 t (by
              refine XS.iload X89.here hx rfl (hb hby at_230) rfl ?_
              refine XS.ifNo X89.here hx rfl (hb hby at_232) rfl ((if0 _ _).trans (teq (by decide)).2) ?_
              refine XS.iload X89.here hx rfl (hb hby at_235) rfl ?_
              refine XS.ifNo X89.here hx rfl (hb hby at_237) rfl ((if0 _ _).trans (teq (by decide)).2) ?_
              refine XS.iload X89.here hx rfl (hb hby at_240) rfl ?_
              refine XS.ifNo X89.here hx rfl (hb hby at_242) rfl ((if0 _ _).trans (teq (by decide)).2) ?_
              refine XS.iconst X89.here hx rfl (hb hby at_245) ?_
              refine XS.goto X89.here hx rfl (pc0 := 246) (pc' := 250) rfl (hb hby at_246) (by decide) (by decide) ?_
              show Steps p.tables e below (T89.setTop (mkF m 250 #[.val (.int u0), .val (.int u1), .val (.int u2), .val (.int u3), .val (.int u4), .val (.ref b2), .val (.ref b15), .val (.int (1 : Int32)), .val (.int (0 : Int32)), .val (.int (0 : Int32)), .val (.int (0 : Int32))] [(.int (1 : Int32)), (.int (1 : Int32))])) _
              refine XS.icmpNo X89.here hx rfl (hb hby at_250) rfl (teq (by decide)).2 ?_
              refine XS.iconst X89.here hx rfl (hb hby at_253) ?_
              refine XS.goto X89.here hx rfl (pc0 := 254) (pc' := 258) rfl (hb hby at_254) (by decide) (by decide) ?_
              show Steps p.tables e below (T89.setTop (mkF m 258 #[.val (.int u0), .val (.int u1), .val (.int u2), .val (.int u3), .val (.int u4), .val (.ref b2), .val (.ref b15), .val (.int (1 : Int32)), .val (.int (0 : Int32)), .val (.int (0 : Int32)), .val (.int (0 : Int32))] [(.int (1 : Int32))])) _
              refine XS.istore X89.here hx rfl (hb hby at_258) rfl (l' := #[.val (.int u0), .val (.int u1), .val (.int u2), .val (.int u3), .val (.int u4), .val (.ref b2), .val (.ref b15), .val (.int (1 : Int32)), .val (.int (0 : Int32)), .val (.int (0 : Int32)), .val (.int (0 : Int32))]) rfl ?_
              show Steps p.tables e below (T89.setTop (mkF m 260 #[.val (.int u0), .val (.int u1), .val (.int u2), .val (.int u3), .val (.int u4), .val (.ref b2), .val (.ref b15), .val (.int (1 : Int32)), .val (.int (0 : Int32)), .val (.int (0 : Int32)), .val (.int (0 : Int32))] [])) _
              refine XS.iload X89.here hx rfl (hb hby at_260) rfl ?_
              exact k)
          obtain ⟨fs, hr, hrun, hended, hW, hsame⟩ := X89.leave (v := some (.int (1 : Int32))) (fun h => by rw [Bd.returns] at h; cases h) (BodyLoose.notSynchronized Bd)
          refine ⟨_, _, pre90 _ ?_, hrun, hended, _, _, rfl, ?_, ⟨_, rfl⟩, hW, hsame.mono (Nat.le_of_ble_eq_true rfl) (Nat.le_of_ble_eq_true rfl)⟩
          · exact retN X89 hx (t := .boolean) Bd.returns (by simp) (hb hby at_262) hr
          · show Q_law Z u0 u1 u2 u3 u4 h0 n0 _ T89.heap _
            rw [e89]
            exact ⟨rfl, N89⟩
      · -- hc70: False
        have pre91 : Go p.tables e below (s₁.setTop (entryFrame m #[(.int u0), (.int u1), (.int u2), (.int u3), (.int u4)] maxLocals)) T37 (mkF m 106 #[.val (.int u0), .val (.int u1), .val (.int u2), .val (.int u3), .val (.int u4), .val (.ref b2), .val (.ref b15), .val (.int (1 : Int32)), .val (.int (0 : Int32)), .val (.int (1 : Int32)), .val (.int (1 : Int32))] [(.int (1 : Int32)), (.ref b15)]) := fun t k => pre69 t (by
            refine XS.ifNo X37.here hx rfl (hb hby at_77) rfl ((if0 _ _).trans (feq hc70).1) ?_
            refine XS.iconst X37.here hx rfl (hb hby at_80) ?_
            refine XS.goto X37.here hx rfl (pc0 := 81) (pc' := 85) rfl (hb hby at_81) (by decide) (by decide) ?_
            show Steps p.tables e below (T37.setTop (mkF m 85 #[.val (.int u0), .val (.int u1), .val (.int u2), .val (.int u3), .val (.int u4), .val (.ref b2), .val (.ref b15), .val (.int (1 : Int32)), .val (.int (0 : Int32)), .val (.int (1 : Int32)), .unset] [(.int (1 : Int32))])) _
            refine XS.istore X37.here hx rfl (hb hby at_85) rfl (l' := #[.val (.int u0), .val (.int u1), .val (.int u2), .val (.int u3), .val (.int u4), .val (.ref b2), .val (.ref b15), .val (.int (1 : Int32)), .val (.int (0 : Int32)), .val (.int (1 : Int32)), .val (.int (1 : Int32))]) rfl ?_
            show Steps p.tables e below (T37.setTop (mkF m 87 #[.val (.int u0), .val (.int u1), .val (.int u2), .val (.int u3), .val (.int u4), .val (.ref b2), .val (.ref b15), .val (.int (1 : Int32)), .val (.int (0 : Int32)), .val (.int (1 : Int32)), .val (.int (1 : Int32))] [])) _
            refine XS.iload X37.here hx rfl (hb hby at_87) rfl ?_
            refine XS.ifYes X37.here hx rfl (pc0 := 89) (pc' := 98) rfl (hb hby at_89) rfl ((if0 _ _).trans (teq (by decide)).1) (by decide) (by decide) ?_
            refine XS.iload X37.here hx rfl (hb hby at_98) rfl ?_
            refine XS.ifNo X37.here hx rfl (hb hby at_100) rfl ((if0 _ _).trans (feq (by decide)).1) ?_
            refine XS.aload X37.here hx rfl (hb hby at_103) rfl rfl ?_
            refine XS.iconst X37.here hx rfl (hb hby at_105) ?_
            exact k)
        obtain ⟨cq92, kq92, q92a, q92b, q92c⟩ := isOf hZ e37 fo25_0
        obtain ⟨_, _, ⟨T92, L92, k92, n92⟩, -, X92, ⟨Lc92, hQ92, l92, y92, z92⟩, st92⟩ := X37.virtualBack hx (y := (⟨"com/example/octopoll/octopoll/PageHeap", "add", "(I)V"⟩ : MethodName)) (z := (⟨"com/example/octopoll/octopoll/PageHeap", "add", "(I)V"⟩ : MethodName)) hown (mvT hZ (hw _ (List.mem_of_getElem? (i := 28) rfl))) (mvT hZ (hw _ (List.mem_of_getElem? (i := 29) rfl))) (notFace_of_selects (args := #[]) (mvT hZ (hw _ (List.mem_of_getElem? (i := 31) rfl)))) (mvT hZ (hw _ (List.mem_of_getElem? (i := 31) rfl))) (mvT hZ (hw _ (List.mem_of_getElem? (i := 30) rfl))) (by decide) (backOf (W := 0) (rm_add1 l Z av0 hw [] b15 b2 ha25 pa25 k2 kh25 kp25 (FP.i2d (u2 &&& (3 : Int32))) (FP.i2d (u3 &&& (3 : Int32))) (FP.i2d (u4 &&& (3 : Int32))) (0 : Int32) (0 : Int32) (0 : Int32) (-1 : Int32) (-1 : Int32) (-1 : Int32) false false T25.heap n0 f32 fo25_0 fo25_1 fo25_2 fo25_3 fo25_4 f33 fo25_5 fo25_6 g17 gha25 gpa25 ne27 ne30 po25_0 ne16.symm ne26 ne29 hS0) hZ (hw _ (List.mem_of_getElem? (i := 32) rfl)) (hw _ (List.mem_of_getElem? (i := 3) rfl)) (by decide) (by decide)) q92a q92c (g := (mkF m 106 #[.val (.int u0), .val (.int u1), .val (.int u2), .val (.int u3), .val (.int u4), .val (.ref b2), .val (.ref b15), .val (.int (1 : Int32)), .val (.int (0 : Int32)), .val (.int (1 : Int32)), .val (.int (1 : Int32))] [(.int (1 : Int32)), (.ref b15)])) rfl (by rw [hml]; rfl) (Steps.refl _) (argsL := [(.int (1 : Int32))]) (rest := []) (lenOf pd_2 rfl) rfl (by show 2 * 0 + _ ≤ _; exact Nat.le_of_eq rfl) (hb hby at_106) (fun _ _ => ⟨rfl, e37, (by decide : 4 + 0 ≤ _), (by decide : 13 + 0 ≤ _)⟩)
        dsimp only [Pt.U, Pt.locs, Pt.cells, Pt.slots] at X92 l92 y92 z92 st92 hQ92
        subst l92 y92 z92
        obtain ⟨z092, z192, z292, z392, z492, z592, hv92, N92q, K92, fo92_0, fo92_1, fo92_2, fo92_3, fo92_4, fo92_5, fo92_6, po92_0⟩ := hQ92
        have f93 := Nat.le_trans f32 K92.1
        have f94 := f33.keep K92 (ninS ne16 (ninS ne26 (ninS ne29 nin0)))
        have f95 := fo25_0.keep K92
        subst hv92
        have N92 := Fr.app N37 N92q
        have pre92 : Go p.tables e below (s₁.setTop (entryFrame m #[(.int u0), (.int u1), (.int u2), (.int u3), (.int u4)] maxLocals)) T92 (mkF m 109 #[.val (.int u0), .val (.int u1), .val (.int u2), .val (.int u3), .val (.int u4), .val (.ref b2), .val (.ref b15), .val (.int (1 : Int32)), .val (.int (0 : Int32)), .val (.int (1 : Int32)), .val (.int (1 : Int32))] []) := fun t k => pre91 t (st92.trans k)
        have pre96 : Go p.tables e below (s₁.setTop (entryFrame m #[(.int u0), (.int u1), (.int u2), (.int u3), (.int u4)] maxLocals)) T92 (mkF m 117 #[.val (.int u0), .val (.int u1), .val (.int u2), .val (.int u3), .val (.int u4), .val (.ref b2), .val (.ref b15), .val (.int (1 : Int32)), .val (.int (0 : Int32)), .val (.int (1 : Int32)), .val (.int (1 : Int32))] [(.int (2 : Int32)), (.ref b15)]) := fun t k => pre92 t (by
            refine XS.iload X92.here hx rfl (hb hby at_109) rfl ?_
            refine XS.ifNo X92.here hx rfl (hb hby at_111) rfl ((if0 _ _).trans (feq (by decide)).1) ?_
            refine XS.aload X92.here hx rfl (hb hby at_114) rfl rfl ?_
            refine XS.iconst X92.here hx rfl (hb hby at_116) ?_
            exact k)
        obtain ⟨cq97, kq97, q97a, q97b, q97c⟩ := isOf hZ rfl fo92_0
        obtain ⟨_, _, ⟨T97, L97, k97, n97⟩, -, X97, ⟨Lc97, hQ97, l97, y97, z97⟩, st97⟩ := X92.virtualBack hx (y := (⟨"com/example/octopoll/octopoll/PageHeap", "add", "(I)V"⟩ : MethodName)) (z := (⟨"com/example/octopoll/octopoll/PageHeap", "add", "(I)V"⟩ : MethodName)) hown (mvT hZ (hw _ (List.mem_of_getElem? (i := 28) rfl))) (mvT hZ (hw _ (List.mem_of_getElem? (i := 29) rfl))) (notFace_of_selects (args := #[]) (mvT hZ (hw _ (List.mem_of_getElem? (i := 31) rfl)))) (mvT hZ (hw _ (List.mem_of_getElem? (i := 31) rfl))) (mvT hZ (hw _ (List.mem_of_getElem? (i := 30) rfl))) (by decide) (backOf (W := 0) (rm_add2 l Z av0 hw [] b15 b2 ha25 pa25 k2 kh25 kp25 (FP.i2d (u2 &&& (3 : Int32))) (FP.i2d (u3 &&& (3 : Int32))) (FP.i2d (u4 &&& (3 : Int32))) z092 z192 z292 z392 z492 z592 false true T92.heap n0 f93 fo92_0 fo92_1 fo92_2 fo92_3 fo92_4 f94 fo92_5 fo92_6 g17 gha25 gpa25 ne27 ne30 po25_0 ne16.symm ne26 ne29 po92_0) hZ (hw _ (List.mem_of_getElem? (i := 32) rfl)) (hw _ (List.mem_of_getElem? (i := 3) rfl)) (by decide) (by decide)) q97a q97c (g := (mkF m 117 #[.val (.int u0), .val (.int u1), .val (.int u2), .val (.int u3), .val (.int u4), .val (.ref b2), .val (.ref b15), .val (.int (1 : Int32)), .val (.int (0 : Int32)), .val (.int (1 : Int32)), .val (.int (1 : Int32))] [(.int (2 : Int32)), (.ref b15)])) rfl (by rw [hml]; rfl) (Steps.refl _) (argsL := [(.int (2 : Int32))]) (rest := []) (lenOf pd_2 rfl) rfl (by show 2 * 0 + _ ≤ _; exact Nat.le_of_eq rfl) (hb hby at_117) (fun _ _ => ⟨rfl, rfl, (by decide : 4 + 0 ≤ _), (by decide : 13 + 0 ≤ _)⟩)
        dsimp only [Pt.U, Pt.locs, Pt.cells, Pt.slots] at X97 l97 y97 z97 st97 hQ97
        subst l97 y97 z97
        obtain ⟨z097, z197, z297, z397, z497, z597, hv97, N97q, K97, fo97_0, fo97_1, fo97_2, fo97_3, fo97_4, fo97_5, fo97_6, po97_0⟩ := hQ97
        have f98 := Nat.le_trans f93 K97.1
        have f99 := f94.keep K97 (ninS ne16 (ninS ne26 (ninS ne29 nin0)))
        have f100 := fo92_0.keep K97
        subst hv97
        have N97 := Fr.app N92 N97q
        have pre97 : Go p.tables e below (s₁.setTop (entryFrame m #[(.int u0), (.int u1), (.int u2), (.int u3), (.int u4)] maxLocals)) T97 (mkF m 120 #[.val (.int u0), .val (.int u1), .val (.int u2), .val (.int u3), .val (.int u4), .val (.ref b2), .val (.ref b15), .val (.int (1 : Int32)), .val (.int (0 : Int32)), .val (.int (1 : Int32)), .val (.int (1 : Int32))] []) := fun t k => pre96 t (st97.trans k)
        have pre101 : Go p.tables e below (s₁.setTop (entryFrame m #[(.int u0), (.int u1), (.int u2), (.int u3), (.int u4)] maxLocals)) T97 (mkF m 127 #[.val (.int u0), .val (.int u1), .val (.int u2), .val (.int u3), .val (.int u4), .val (.ref b2), .val (.ref b15), .val (.int (1 : Int32)), .val (.int (0 : Int32)), .val (.int (1 : Int32)), .val (.int (1 : Int32))] [(.ref b15)]) := fun t k => pre97 t (by
            refine XS.iload X97.here hx rfl (hb hby at_120) rfl ?_
            refine XS.ifNo X97.here hx rfl (hb hby at_122) rfl ((if0 _ _).trans (feq (by decide)).1) ?_
            refine XS.aload X97.here hx rfl (hb hby at_125) rfl rfl ?_
            exact k)
        obtain ⟨cq102, kq102, q102a, q102b, q102c⟩ := isOf hZ rfl fo97_0
        obtain ⟨_, _, ⟨T102, L102, k102, n102⟩, -, X102, ⟨Lc102, hQ102, l102, y102, z102⟩, st102⟩ := X97.virtualBack hx (y := (⟨"com/example/octopoll/octopoll/PageHeap", "isEmpty", "()Z"⟩ : MethodName)) (z := (⟨"com/example/octopoll/octopoll/PageHeap", "isEmpty", "()Z"⟩ : MethodName)) hown (mvT hZ (hw _ (List.mem_of_getElem? (i := 21) rfl))) (mvT hZ (hw _ (List.mem_of_getElem? (i := 22) rfl))) (notFace_of_selects (args := #[]) (mvT hZ (hw _ (List.mem_of_getElem? (i := 24) rfl)))) (mvT hZ (hw _ (List.mem_of_getElem? (i := 24) rfl))) (mvT hZ (hw _ (List.mem_of_getElem? (i := 23) rfl))) (by decide) (backOf (W := 0) (rm_ise l Z av0 hw [] b15 (2 : Int32) T97.heap n0  fo97_4) hZ (hw _ (List.mem_of_getElem? (i := 25) rfl)) (hw _ (List.mem_of_getElem? (i := 3) rfl)) (by decide) (by decide)) q102a q102c (g := (mkF m 127 #[.val (.int u0), .val (.int u1), .val (.int u2), .val (.int u3), .val (.int u4), .val (.ref b2), .val (.ref b15), .val (.int (1 : Int32)), .val (.int (0 : Int32)), .val (.int (1 : Int32)), .val (.int (1 : Int32))] [(.ref b15)])) rfl (by rw [hml]; rfl) (Steps.refl _) (argsL := []) (rest := []) (lenOf pd_5 rfl) rfl (by show 2 * 0 + _ ≤ _; exact Nat.le_of_eq rfl) (hb hby at_127) (fun _ _ => ⟨rfl, rfl, (by decide : 4 + 0 ≤ _), (by decide : 13 + 0 ≤ _)⟩)
        dsimp only [Pt.U, Pt.locs, Pt.cells, Pt.slots] at X102 l102 y102 z102 st102 hQ102
        subst l102 y102 z102
        obtain ⟨hv102, N102q, e102⟩ := hQ102
        rw [show own_e (2 : Int32) = (0 : Int32) from rfl] at hv102
        subst hv102
        have N102 := Fr.app N97 N102q
        have pre102 : Go p.tables e below (s₁.setTop (entryFrame m #[(.int u0), (.int u1), (.int u2), (.int u3), (.int u4)] maxLocals)) T102 (mkF m 130 #[.val (.int u0), .val (.int u1), .val (.int u2), .val (.int u3), .val (.int u4), .val (.ref b2), .val (.ref b15), .val (.int (1 : Int32)), .val (.int (0 : Int32)), .val (.int (1 : Int32)), .val (.int (1 : Int32))] [(.int (0 : Int32))]) := fun t k => pre101 t (st102.trans k)
        have pre103 : Go p.tables e below (s₁.setTop (entryFrame m #[(.int u0), (.int u1), (.int u2), (.int u3), (.int u4)] maxLocals)) T102 (mkF m 188 #[.val (.int u0), .val (.int u1), .val (.int u2), .val (.int u3), .val (.int u4), .val (.ref b2), .val (.ref b15), .val (.int (1 : Int32)), .val (.int (0 : Int32)), .val (.int (1 : Int32)), .val (.int (1 : Int32))] [(.int (u1 &&& (2 : Int32)))]) := fun t k => pre102 t (by
            refine XS.iload X102.here hx rfl (hb hby at_130) rfl ?_
            refine XS.ifNo X102.here hx rfl (hb hby at_132) rfl ((if0 _ _).trans (teq (by decide)).2) ?_
            refine XS.iload X102.here hx rfl (hb hby at_135) rfl ?_
            refine XS.ifYes X102.here hx rfl (pc0 := 137) (pc' := 149) rfl (hb hby at_137) rfl ((if0 _ _).trans (feq (by decide)).2) (by decide) (by decide) ?_
            refine XS.iconst X102.here hx rfl (hb hby at_149) ?_
            refine XS.icmpNo X102.here hx rfl (hb hby at_150) rfl (teq (by decide)).2 ?_
            refine XS.iconst X102.here hx rfl (hb hby at_153) ?_
            refine XS.goto X102.here hx rfl (pc0 := 154) (pc' := 158) rfl (hb hby at_154) (by decide) (by decide) ?_
            show Steps p.tables e below (T102.setTop (mkF m 158 #[.val (.int u0), .val (.int u1), .val (.int u2), .val (.int u3), .val (.int u4), .val (.ref b2), .val (.ref b15), .val (.int (1 : Int32)), .val (.int (0 : Int32)), .val (.int (1 : Int32)), .val (.int (1 : Int32))] [(.int (1 : Int32))])) _
            refine XS.istore X102.here hx rfl (hb hby at_158) rfl (l' := #[.val (.int u0), .val (.int u1), .val (.int u2), .val (.int u3), .val (.int u4), .val (.ref b2), .val (.ref b15), .val (.int (1 : Int32)), .val (.int (0 : Int32)), .val (.int (1 : Int32)), .val (.int (1 : Int32))]) rfl ?_
            show Steps p.tables e below (T102.setTop (mkF m 160 #[.val (.int u0), .val (.int u1), .val (.int u2), .val (.int u3), .val (.int u4), .val (.ref b2), .val (.ref b15), .val (.int (1 : Int32)), .val (.int (0 : Int32)), .val (.int (1 : Int32)), .val (.int (1 : Int32))] [])) _
            refine XS.iload X102.here hx rfl (hb hby at_160) rfl ?_
            refine XS.ifYes X102.here hx rfl (pc0 := 162) (pc' := 180) rfl (hb hby at_162) rfl ((if0 _ _).trans (teq (by decide)).1) (by decide) (by decide) ?_
            refine XS.iload X102.here hx rfl (hb hby at_180) rfl ?_
            refine XS.ifNo X102.here hx rfl (hb hby at_182) rfl ((if0 _ _).trans (feq (by decide)).1) ?_
            refine XS.iloadN X102.here hx rfl (hb hby at_185) rfl ?_
            refine XS.iconst X102.here hx rfl (hb hby at_186) ?_
            refine XS.iand X102.here hx rfl (hb hby at_187) rfl ?_
            exact k)
        by_cases hc104 : (u1 &&& (2 : Int32)) = (0 : Int32)
        · -- hc104: True
          have pre105 : Go p.tables e below (s₁.setTop (entryFrame m #[(.int u0), (.int u1), (.int u2), (.int u3), (.int u4)] maxLocals)) T102 (mkF m 208 #[.val (.int u0), .val (.int u1), .val (.int u2), .val (.int u3), .val (.int u4), .val (.ref b2), .val (.ref b15), .val (.int (1 : Int32)), .val (.int (0 : Int32)), .val (.int (1 : Int32)), .val (.int (1 : Int32))] [(.int (u1 &&& (4 : Int32)))]) := fun t k => pre103 t (by
              refine XS.ifYes X102.here hx rfl (pc0 := 188) (pc' := 200) rfl (hb hby at_188) rfl ((if0 _ _).trans (teq hc104).1) (by decide) (by decide) ?_
              refine XS.iload X102.here hx rfl (hb hby at_200) rfl ?_
              refine XS.ifNo X102.here hx rfl (hb hby at_202) rfl ((if0 _ _).trans (feq (by decide)).1) ?_
              refine XS.iloadN X102.here hx rfl (hb hby at_205) rfl ?_
              refine XS.iconst X102.here hx rfl (hb hby at_206) ?_
              refine XS.iand X102.here hx rfl (hb hby at_207) rfl ?_
              exact k)
          by_cases hc106 : (u1 &&& (4 : Int32)) = (0 : Int32)
          · -- hc106: True
            have pre107 : Go p.tables e below (s₁.setTop (entryFrame m #[(.int u0), (.int u1), (.int u2), (.int u3), (.int u4)] maxLocals)) T102 (mkF m 227 #[.val (.int u0), .val (.int u1), .val (.int u2), .val (.int u3), .val (.int u4), .val (.ref b2), .val (.ref b15), .val (.int (1 : Int32)), .val (.int (0 : Int32)), .val (.int (1 : Int32)), .val (.int (1 : Int32))] [(.ref b15)]) := fun t k => pre105 t (by
                refine XS.ifYes X102.here hx rfl (pc0 := 208) (pc' := 220) rfl (hb hby at_208) rfl ((if0 _ _).trans (teq hc106).1) (by decide) (by decide) ?_
                refine XS.iload X102.here hx rfl (hb hby at_220) rfl ?_
                refine XS.ifNo X102.here hx rfl (hb hby at_222) rfl ((if0 _ _).trans (feq (by decide)).1) ?_
                refine XS.aload X102.here hx rfl (hb hby at_225) rfl rfl ?_
                exact k)
            obtain ⟨cq108, kq108, q108a, q108b, q108c⟩ := isOf hZ e102 fo97_0
            obtain ⟨_, _, ⟨T108, L108, k108, n108⟩, -, X108, ⟨Lc108, hQ108, l108, y108, z108⟩, st108⟩ := X102.virtualBack hx (y := (⟨"com/example/octopoll/octopoll/PageHeap", "isEmpty", "()Z"⟩ : MethodName)) (z := (⟨"com/example/octopoll/octopoll/PageHeap", "isEmpty", "()Z"⟩ : MethodName)) hown (mvT hZ (hw _ (List.mem_of_getElem? (i := 21) rfl))) (mvT hZ (hw _ (List.mem_of_getElem? (i := 22) rfl))) (notFace_of_selects (args := #[]) (mvT hZ (hw _ (List.mem_of_getElem? (i := 24) rfl)))) (mvT hZ (hw _ (List.mem_of_getElem? (i := 24) rfl))) (mvT hZ (hw _ (List.mem_of_getElem? (i := 23) rfl))) (by decide) (backOf (W := 0) (rm_ise l Z av0 hw [] b15 (2 : Int32) T97.heap n0  fo97_4) hZ (hw _ (List.mem_of_getElem? (i := 25) rfl)) (hw _ (List.mem_of_getElem? (i := 3) rfl)) (by decide) (by decide)) q108a q108c (g := (mkF m 227 #[.val (.int u0), .val (.int u1), .val (.int u2), .val (.int u3), .val (.int u4), .val (.ref b2), .val (.ref b15), .val (.int (1 : Int32)), .val (.int (0 : Int32)), .val (.int (1 : Int32)), .val (.int (1 : Int32))] [(.ref b15)])) rfl (by rw [hml]; rfl) (Steps.refl _) (argsL := []) (rest := []) (lenOf pd_5 rfl) rfl (by show 2 * 0 + _ ≤ _; exact Nat.le_of_eq rfl) (hb hby at_227) (fun _ _ => ⟨rfl, e102, (by decide : 4 + 0 ≤ _), (by decide : 13 + 0 ≤ _)⟩)
            dsimp only [Pt.U, Pt.locs, Pt.cells, Pt.slots] at X108 l108 y108 z108 st108 hQ108
            subst l108 y108 z108
            obtain ⟨hv108, N108q, e108⟩ := hQ108
            rw [show own_e (2 : Int32) = (0 : Int32) from rfl] at hv108
            subst hv108
            have N108 := Fr.app N102 N108q
            have pre108 : Go p.tables e below (s₁.setTop (entryFrame m #[(.int u0), (.int u1), (.int u2), (.int u3), (.int u4)] maxLocals)) T108 (mkF m 230 #[.val (.int u0), .val (.int u1), .val (.int u2), .val (.int u3), .val (.int u4), .val (.ref b2), .val (.ref b15), .val (.int (1 : Int32)), .val (.int (0 : Int32)), .val (.int (1 : Int32)), .val (.int (1 : Int32))] [(.int (0 : Int32))]) := fun t k => pre107 t (st108.trans k)
            have pre109 : Go p.tables e below (s₁.setTop (entryFrame m #[(.int u0), (.int u1), (.int u2), (.int u3), (.int u4)] maxLocals)) T108 (mkF m 262 #[.val (.int u0), .val (.int u1), .val (.int u2), .val (.int u3), .val (.int u4), .val (.ref b2), .val (.ref b15), .val (.int (1 : Int32)), .val (.int (0 : Int32)), .val (.int (1 : Int32)), .val (.int (1 : Int32))] [(.int (1 : Int32))]) := fun t k => pre108 t (by
                refine XS.iload X108.here hx rfl (hb hby at_230) rfl ?_
                refine XS.ifNo X108.here hx rfl (hb hby at_232) rfl ((if0 _ _).trans (teq (by decide)).2) ?_
                refine XS.iload X108.here hx rfl (hb hby at_235) rfl ?_
                refine XS.ifYes X108.here hx rfl (pc0 := 237) (pc' := 249) rfl (hb hby at_237) rfl ((if0 _ _).trans (feq (by decide)).2) (by decide) (by decide) ?_
                refine XS.iconst X108.here hx rfl (hb hby at_249) ?_
                refine XS.icmpNo X108.here hx rfl (hb hby at_250) rfl (teq (by decide)).2 ?_
                refine XS.iconst X108.here hx rfl (hb hby at_253) ?_
                refine XS.goto X108.here hx rfl (pc0 := 254) (pc' := 258) rfl (hb hby at_254) (by decide) (by decide) ?_
                show Steps p.tables e below (T108.setTop (mkF m 258 #[.val (.int u0), .val (.int u1), .val (.int u2), .val (.int u3), .val (.int u4), .val (.ref b2), .val (.ref b15), .val (.int (1 : Int32)), .val (.int (0 : Int32)), .val (.int (1 : Int32)), .val (.int (1 : Int32))] [(.int (1 : Int32))])) _
                refine XS.istore X108.here hx rfl (hb hby at_258) rfl (l' := #[.val (.int u0), .val (.int u1), .val (.int u2), .val (.int u3), .val (.int u4), .val (.ref b2), .val (.ref b15), .val (.int (1 : Int32)), .val (.int (0 : Int32)), .val (.int (1 : Int32)), .val (.int (1 : Int32))]) rfl ?_
                show Steps p.tables e below (T108.setTop (mkF m 260 #[.val (.int u0), .val (.int u1), .val (.int u2), .val (.int u3), .val (.int u4), .val (.ref b2), .val (.ref b15), .val (.int (1 : Int32)), .val (.int (0 : Int32)), .val (.int (1 : Int32)), .val (.int (1 : Int32))] [])) _
                refine XS.iload X108.here hx rfl (hb hby at_260) rfl ?_
                exact k)
            obtain ⟨fs, hr, hrun, hended, hW, hsame⟩ := X108.leave (v := some (.int (1 : Int32))) (fun h => by rw [Bd.returns] at h; cases h) (BodyLoose.notSynchronized Bd)
            refine ⟨_, _, pre109 _ ?_, hrun, hended, _, _, rfl, ?_, ⟨_, rfl⟩, hW, hsame.mono (Nat.le_of_ble_eq_true rfl) (Nat.le_of_ble_eq_true rfl)⟩
            · exact retN X108 hx (t := .boolean) Bd.returns (by simp) (hb hby at_262) hr
            · show Q_law Z u0 u1 u2 u3 u4 h0 n0 _ T108.heap _
              rw [e108]
              exact ⟨rfl, N108⟩
          · -- hc106: False
            have pre110 : Go p.tables e below (s₁.setTop (entryFrame m #[(.int u0), (.int u1), (.int u2), (.int u3), (.int u4)] maxLocals)) T102 (mkF m 214 #[.val (.int u0), .val (.int u1), .val (.int u2), .val (.int u3), .val (.int u4), .val (.ref b2), .val (.ref b15), .val (.int (1 : Int32)), .val (.int (0 : Int32)), .val (.int (1 : Int32)), .val (.int (1 : Int32))] [(.int (2 : Int32)), (.ref b15)]) := fun t k => pre105 t (by
                refine XS.ifNo X102.here hx rfl (hb hby at_208) rfl ((if0 _ _).trans (feq hc106).1) ?_
                refine XS.aload X102.here hx rfl (hb hby at_211) rfl rfl ?_
                refine XS.iconst X102.here hx rfl (hb hby at_213) ?_
                exact k)
            obtain ⟨cq111, kq111, q111a, q111b, q111c⟩ := isOf hZ e102 fo97_0
            obtain ⟨_, _, ⟨T111, L111, k111, n111⟩, -, X111, ⟨Lc111, hQ111, l111, y111, z111⟩, st111⟩ := X102.virtualBack hx (y := (⟨"com/example/octopoll/octopoll/PageHeap", "remove", "(I)V"⟩ : MethodName)) (z := (⟨"com/example/octopoll/octopoll/PageHeap", "remove", "(I)V"⟩ : MethodName)) hown (mvT hZ (hw _ (List.mem_of_getElem? (i := 45) rfl))) (mvT hZ (hw _ (List.mem_of_getElem? (i := 46) rfl))) (notFace_of_selects (args := #[]) (mvT hZ (hw _ (List.mem_of_getElem? (i := 48) rfl)))) (mvT hZ (hw _ (List.mem_of_getElem? (i := 48) rfl))) (mvT hZ (hw _ (List.mem_of_getElem? (i := 47) rfl))) (by decide) (backOf (W := 0) (rm_rem2 l Z av0 hw [] b15 b2 ha25 pa25 k2 kh25 kp25 (FP.i2d (u2 &&& (3 : Int32))) (FP.i2d (u3 &&& (3 : Int32))) (FP.i2d (u4 &&& (3 : Int32))) z097 z197 z297 z397 z497 z597 false true T97.heap n0 f98 fo97_0 fo97_1 fo97_2 fo97_3 fo97_4 f99 fo97_5 fo97_6 g17 gha25 gpa25 ne27 ne30 po25_0 ne16.symm ne26 ne29 po97_0) hZ (hw _ (List.mem_of_getElem? (i := 49) rfl)) (hw _ (List.mem_of_getElem? (i := 3) rfl)) (by decide) (by decide)) q111a q111c (g := (mkF m 214 #[.val (.int u0), .val (.int u1), .val (.int u2), .val (.int u3), .val (.int u4), .val (.ref b2), .val (.ref b15), .val (.int (1 : Int32)), .val (.int (0 : Int32)), .val (.int (1 : Int32)), .val (.int (1 : Int32))] [(.int (2 : Int32)), (.ref b15)])) rfl (by rw [hml]; rfl) (Steps.refl _) (argsL := [(.int (2 : Int32))]) (rest := []) (lenOf pd_2 rfl) rfl (by show 2 * 0 + _ ≤ _; exact Nat.le_of_eq rfl) (hb hby at_214) (fun _ _ => ⟨rfl, e102, (by decide : 4 + 0 ≤ _), (by decide : 13 + 0 ≤ _)⟩)
            dsimp only [Pt.U, Pt.locs, Pt.cells, Pt.slots] at X111 l111 y111 z111 st111 hQ111
            subst l111 y111 z111
            obtain ⟨z0111, z1111, z2111, z3111, z4111, z5111, hv111, N111q, K111, fo111_0, fo111_1, fo111_2, fo111_3, fo111_4, fo111_5, fo111_6, po111_0⟩ := hQ111
            have f112 := Nat.le_trans f98 K111.1
            have f113 := f99.keep K111 (ninS ne16 (ninS ne26 (ninS ne29 nin0)))
            have f114 := fo97_0.keep K111
            subst hv111
            have N111 := Fr.app N102 N111q
            have pre111 : Go p.tables e below (s₁.setTop (entryFrame m #[(.int u0), (.int u1), (.int u2), (.int u3), (.int u4)] maxLocals)) T111 (mkF m 217 #[.val (.int u0), .val (.int u1), .val (.int u2), .val (.int u3), .val (.int u4), .val (.ref b2), .val (.ref b15), .val (.int (1 : Int32)), .val (.int (0 : Int32)), .val (.int (1 : Int32)), .val (.int (1 : Int32))] []) := fun t k => pre110 t (st111.trans k)
            have pre115 : Go p.tables e below (s₁.setTop (entryFrame m #[(.int u0), (.int u1), (.int u2), (.int u3), (.int u4)] maxLocals)) T111 (mkF m 227 #[.val (.int u0), .val (.int u1), .val (.int u2), .val (.int u3), .val (.int u4), .val (.ref b2), .val (.ref b15), .val (.int (1 : Int32)), .val (.int (0 : Int32)), .val (.int (1 : Int32)), .val (.int (0 : Int32))] [(.ref b15)]) := fun t k => pre111 t (by
                refine XS.iconst X111.here hx rfl (hb hby at_217) ?_
                refine XS.istore X111.here hx rfl (hb hby at_218) rfl (l' := #[.val (.int u0), .val (.int u1), .val (.int u2), .val (.int u3), .val (.int u4), .val (.ref b2), .val (.ref b15), .val (.int (1 : Int32)), .val (.int (0 : Int32)), .val (.int (1 : Int32)), .val (.int (0 : Int32))]) rfl ?_
                show Steps p.tables e below (T111.setTop (mkF m 220 #[.val (.int u0), .val (.int u1), .val (.int u2), .val (.int u3), .val (.int u4), .val (.ref b2), .val (.ref b15), .val (.int (1 : Int32)), .val (.int (0 : Int32)), .val (.int (1 : Int32)), .val (.int (0 : Int32))] [])) _
                refine XS.iload X111.here hx rfl (hb hby at_220) rfl ?_
                refine XS.ifNo X111.here hx rfl (hb hby at_222) rfl ((if0 _ _).trans (feq (by decide)).1) ?_
                refine XS.aload X111.here hx rfl (hb hby at_225) rfl rfl ?_
                exact k)
            obtain ⟨cq116, kq116, q116a, q116b, q116c⟩ := isOf hZ rfl fo111_0
            obtain ⟨_, _, ⟨T116, L116, k116, n116⟩, -, X116, ⟨Lc116, hQ116, l116, y116, z116⟩, st116⟩ := X111.virtualBack hx (y := (⟨"com/example/octopoll/octopoll/PageHeap", "isEmpty", "()Z"⟩ : MethodName)) (z := (⟨"com/example/octopoll/octopoll/PageHeap", "isEmpty", "()Z"⟩ : MethodName)) hown (mvT hZ (hw _ (List.mem_of_getElem? (i := 21) rfl))) (mvT hZ (hw _ (List.mem_of_getElem? (i := 22) rfl))) (notFace_of_selects (args := #[]) (mvT hZ (hw _ (List.mem_of_getElem? (i := 24) rfl)))) (mvT hZ (hw _ (List.mem_of_getElem? (i := 24) rfl))) (mvT hZ (hw _ (List.mem_of_getElem? (i := 23) rfl))) (by decide) (backOf (W := 0) (rm_ise l Z av0 hw [] b15 (1 : Int32) T111.heap n0  fo111_4) hZ (hw _ (List.mem_of_getElem? (i := 25) rfl)) (hw _ (List.mem_of_getElem? (i := 3) rfl)) (by decide) (by decide)) q116a q116c (g := (mkF m 227 #[.val (.int u0), .val (.int u1), .val (.int u2), .val (.int u3), .val (.int u4), .val (.ref b2), .val (.ref b15), .val (.int (1 : Int32)), .val (.int (0 : Int32)), .val (.int (1 : Int32)), .val (.int (0 : Int32))] [(.ref b15)])) rfl (by rw [hml]; rfl) (Steps.refl _) (argsL := []) (rest := []) (lenOf pd_5 rfl) rfl (by show 2 * 0 + _ ≤ _; exact Nat.le_of_eq rfl) (hb hby at_227) (fun _ _ => ⟨rfl, rfl, (by decide : 4 + 0 ≤ _), (by decide : 13 + 0 ≤ _)⟩)
            dsimp only [Pt.U, Pt.locs, Pt.cells, Pt.slots] at X116 l116 y116 z116 st116 hQ116
            subst l116 y116 z116
            obtain ⟨hv116, N116q, e116⟩ := hQ116
            rw [show own_e (1 : Int32) = (0 : Int32) from rfl] at hv116
            subst hv116
            have N116 := Fr.app N111 N116q
            have pre116 : Go p.tables e below (s₁.setTop (entryFrame m #[(.int u0), (.int u1), (.int u2), (.int u3), (.int u4)] maxLocals)) T116 (mkF m 230 #[.val (.int u0), .val (.int u1), .val (.int u2), .val (.int u3), .val (.int u4), .val (.ref b2), .val (.ref b15), .val (.int (1 : Int32)), .val (.int (0 : Int32)), .val (.int (1 : Int32)), .val (.int (0 : Int32))] [(.int (0 : Int32))]) := fun t k => pre115 t (st116.trans k)
            have pre117 : Go p.tables e below (s₁.setTop (entryFrame m #[(.int u0), (.int u1), (.int u2), (.int u3), (.int u4)] maxLocals)) T116 (mkF m 262 #[.val (.int u0), .val (.int u1), .val (.int u2), .val (.int u3), .val (.int u4), .val (.ref b2), .val (.ref b15), .val (.int (1 : Int32)), .val (.int (0 : Int32)), .val (.int (1 : Int32)), .val (.int (0 : Int32))] [(.int (1 : Int32))]) := fun t k => pre116 t (by
                refine XS.iload X116.here hx rfl (hb hby at_230) rfl ?_
                refine XS.ifNo X116.here hx rfl (hb hby at_232) rfl ((if0 _ _).trans (teq (by decide)).2) ?_
                refine XS.iload X116.here hx rfl (hb hby at_235) rfl ?_
                refine XS.ifYes X116.here hx rfl (pc0 := 237) (pc' := 249) rfl (hb hby at_237) rfl ((if0 _ _).trans (feq (by decide)).2) (by decide) (by decide) ?_
                refine XS.iconst X116.here hx rfl (hb hby at_249) ?_
                refine XS.icmpNo X116.here hx rfl (hb hby at_250) rfl (teq (by decide)).2 ?_
                refine XS.iconst X116.here hx rfl (hb hby at_253) ?_
                refine XS.goto X116.here hx rfl (pc0 := 254) (pc' := 258) rfl (hb hby at_254) (by decide) (by decide) ?_
                show Steps p.tables e below (T116.setTop (mkF m 258 #[.val (.int u0), .val (.int u1), .val (.int u2), .val (.int u3), .val (.int u4), .val (.ref b2), .val (.ref b15), .val (.int (1 : Int32)), .val (.int (0 : Int32)), .val (.int (1 : Int32)), .val (.int (0 : Int32))] [(.int (1 : Int32))])) _
                refine XS.istore X116.here hx rfl (hb hby at_258) rfl (l' := #[.val (.int u0), .val (.int u1), .val (.int u2), .val (.int u3), .val (.int u4), .val (.ref b2), .val (.ref b15), .val (.int (1 : Int32)), .val (.int (0 : Int32)), .val (.int (1 : Int32)), .val (.int (0 : Int32))]) rfl ?_
                show Steps p.tables e below (T116.setTop (mkF m 260 #[.val (.int u0), .val (.int u1), .val (.int u2), .val (.int u3), .val (.int u4), .val (.ref b2), .val (.ref b15), .val (.int (1 : Int32)), .val (.int (0 : Int32)), .val (.int (1 : Int32)), .val (.int (0 : Int32))] [])) _
                refine XS.iload X116.here hx rfl (hb hby at_260) rfl ?_
                exact k)
            obtain ⟨fs, hr, hrun, hended, hW, hsame⟩ := X116.leave (v := some (.int (1 : Int32))) (fun h => by rw [Bd.returns] at h; cases h) (BodyLoose.notSynchronized Bd)
            refine ⟨_, _, pre117 _ ?_, hrun, hended, _, _, rfl, ?_, ⟨_, rfl⟩, hW, hsame.mono (Nat.le_of_ble_eq_true rfl) (Nat.le_of_ble_eq_true rfl)⟩
            · exact retN X116 hx (t := .boolean) Bd.returns (by simp) (hb hby at_262) hr
            · show Q_law Z u0 u1 u2 u3 u4 h0 n0 _ T116.heap _
              rw [e116]
              exact ⟨rfl, N116⟩
        · -- hc104: False
          have pre118 : Go p.tables e below (s₁.setTop (entryFrame m #[(.int u0), (.int u1), (.int u2), (.int u3), (.int u4)] maxLocals)) T102 (mkF m 194 #[.val (.int u0), .val (.int u1), .val (.int u2), .val (.int u3), .val (.int u4), .val (.ref b2), .val (.ref b15), .val (.int (1 : Int32)), .val (.int (0 : Int32)), .val (.int (1 : Int32)), .val (.int (1 : Int32))] [(.int (1 : Int32)), (.ref b15)]) := fun t k => pre103 t (by
              refine XS.ifNo X102.here hx rfl (hb hby at_188) rfl ((if0 _ _).trans (feq hc104).1) ?_
              refine XS.aload X102.here hx rfl (hb hby at_191) rfl rfl ?_
              refine XS.iconst X102.here hx rfl (hb hby at_193) ?_
              exact k)
          obtain ⟨cq119, kq119, q119a, q119b, q119c⟩ := isOf hZ e102 fo97_0
          obtain ⟨_, _, ⟨T119, L119, k119, n119⟩, -, X119, ⟨Lc119, hQ119, l119, y119, z119⟩, st119⟩ := X102.virtualBack hx (y := (⟨"com/example/octopoll/octopoll/PageHeap", "remove", "(I)V"⟩ : MethodName)) (z := (⟨"com/example/octopoll/octopoll/PageHeap", "remove", "(I)V"⟩ : MethodName)) hown (mvT hZ (hw _ (List.mem_of_getElem? (i := 45) rfl))) (mvT hZ (hw _ (List.mem_of_getElem? (i := 46) rfl))) (notFace_of_selects (args := #[]) (mvT hZ (hw _ (List.mem_of_getElem? (i := 48) rfl)))) (mvT hZ (hw _ (List.mem_of_getElem? (i := 48) rfl))) (mvT hZ (hw _ (List.mem_of_getElem? (i := 47) rfl))) (by decide) (backOf (W := 0) (rm_rem1 l Z av0 hw [] b15 b2 ha25 pa25 k2 kh25 kp25 (FP.i2d (u2 &&& (3 : Int32))) (FP.i2d (u3 &&& (3 : Int32))) (FP.i2d (u4 &&& (3 : Int32))) z097 z197 z297 z397 z497 z597 false true T97.heap n0 f98 fo97_0 fo97_1 fo97_2 fo97_3 fo97_4 f99 fo97_5 fo97_6 g17 gha25 gpa25 ne27 ne30 po25_0 ne16.symm ne26 ne29 po97_0) hZ (hw _ (List.mem_of_getElem? (i := 49) rfl)) (hw _ (List.mem_of_getElem? (i := 3) rfl)) (by decide) (by decide)) q119a q119c (g := (mkF m 194 #[.val (.int u0), .val (.int u1), .val (.int u2), .val (.int u3), .val (.int u4), .val (.ref b2), .val (.ref b15), .val (.int (1 : Int32)), .val (.int (0 : Int32)), .val (.int (1 : Int32)), .val (.int (1 : Int32))] [(.int (1 : Int32)), (.ref b15)])) rfl (by rw [hml]; rfl) (Steps.refl _) (argsL := [(.int (1 : Int32))]) (rest := []) (lenOf pd_2 rfl) rfl (by show 2 * 0 + _ ≤ _; exact Nat.le_of_eq rfl) (hb hby at_194) (fun _ _ => ⟨rfl, e102, (by decide : 4 + 0 ≤ _), (by decide : 13 + 0 ≤ _)⟩)
          dsimp only [Pt.U, Pt.locs, Pt.cells, Pt.slots] at X119 l119 y119 z119 st119 hQ119
          subst l119 y119 z119
          obtain ⟨z0119, z1119, z2119, z3119, z4119, z5119, hv119, N119q, K119, fo119_0, fo119_1, fo119_2, fo119_3, fo119_4, fo119_5, fo119_6, po119_0⟩ := hQ119
          have f120 := Nat.le_trans f98 K119.1
          have f121 := f99.keep K119 (ninS ne16 (ninS ne26 (ninS ne29 nin0)))
          have f122 := fo97_0.keep K119
          subst hv119
          have N119 := Fr.app N102 N119q
          have pre119 : Go p.tables e below (s₁.setTop (entryFrame m #[(.int u0), (.int u1), (.int u2), (.int u3), (.int u4)] maxLocals)) T119 (mkF m 197 #[.val (.int u0), .val (.int u1), .val (.int u2), .val (.int u3), .val (.int u4), .val (.ref b2), .val (.ref b15), .val (.int (1 : Int32)), .val (.int (0 : Int32)), .val (.int (1 : Int32)), .val (.int (1 : Int32))] []) := fun t k => pre118 t (st119.trans k)
          have pre123 : Go p.tables e below (s₁.setTop (entryFrame m #[(.int u0), (.int u1), (.int u2), (.int u3), (.int u4)] maxLocals)) T119 (mkF m 208 #[.val (.int u0), .val (.int u1), .val (.int u2), .val (.int u3), .val (.int u4), .val (.ref b2), .val (.ref b15), .val (.int (1 : Int32)), .val (.int (0 : Int32)), .val (.int (0 : Int32)), .val (.int (1 : Int32))] [(.int (u1 &&& (4 : Int32)))]) := fun t k => pre119 t (by
              refine XS.iconst X119.here hx rfl (hb hby at_197) ?_
              refine XS.istore X119.here hx rfl (hb hby at_198) rfl (l' := #[.val (.int u0), .val (.int u1), .val (.int u2), .val (.int u3), .val (.int u4), .val (.ref b2), .val (.ref b15), .val (.int (1 : Int32)), .val (.int (0 : Int32)), .val (.int (0 : Int32)), .val (.int (1 : Int32))]) rfl ?_
              show Steps p.tables e below (T119.setTop (mkF m 200 #[.val (.int u0), .val (.int u1), .val (.int u2), .val (.int u3), .val (.int u4), .val (.ref b2), .val (.ref b15), .val (.int (1 : Int32)), .val (.int (0 : Int32)), .val (.int (0 : Int32)), .val (.int (1 : Int32))] [])) _
              refine XS.iload X119.here hx rfl (hb hby at_200) rfl ?_
              refine XS.ifNo X119.here hx rfl (hb hby at_202) rfl ((if0 _ _).trans (feq (by decide)).1) ?_
              refine XS.iloadN X119.here hx rfl (hb hby at_205) rfl ?_
              refine XS.iconst X119.here hx rfl (hb hby at_206) ?_
              refine XS.iand X119.here hx rfl (hb hby at_207) rfl ?_
              exact k)
          by_cases hc124 : (u1 &&& (4 : Int32)) = (0 : Int32)
          · -- hc124: True
            have pre125 : Go p.tables e below (s₁.setTop (entryFrame m #[(.int u0), (.int u1), (.int u2), (.int u3), (.int u4)] maxLocals)) T119 (mkF m 227 #[.val (.int u0), .val (.int u1), .val (.int u2), .val (.int u3), .val (.int u4), .val (.ref b2), .val (.ref b15), .val (.int (1 : Int32)), .val (.int (0 : Int32)), .val (.int (0 : Int32)), .val (.int (1 : Int32))] [(.ref b15)]) := fun t k => pre123 t (by
                refine XS.ifYes X119.here hx rfl (pc0 := 208) (pc' := 220) rfl (hb hby at_208) rfl ((if0 _ _).trans (teq hc124).1) (by decide) (by decide) ?_
                refine XS.iload X119.here hx rfl (hb hby at_220) rfl ?_
                refine XS.ifNo X119.here hx rfl (hb hby at_222) rfl ((if0 _ _).trans (feq (by decide)).1) ?_
                refine XS.aload X119.here hx rfl (hb hby at_225) rfl rfl ?_
                exact k)
            obtain ⟨cq126, kq126, q126a, q126b, q126c⟩ := isOf hZ rfl fo119_0
            obtain ⟨_, _, ⟨T126, L126, k126, n126⟩, -, X126, ⟨Lc126, hQ126, l126, y126, z126⟩, st126⟩ := X119.virtualBack hx (y := (⟨"com/example/octopoll/octopoll/PageHeap", "isEmpty", "()Z"⟩ : MethodName)) (z := (⟨"com/example/octopoll/octopoll/PageHeap", "isEmpty", "()Z"⟩ : MethodName)) hown (mvT hZ (hw _ (List.mem_of_getElem? (i := 21) rfl))) (mvT hZ (hw _ (List.mem_of_getElem? (i := 22) rfl))) (notFace_of_selects (args := #[]) (mvT hZ (hw _ (List.mem_of_getElem? (i := 24) rfl)))) (mvT hZ (hw _ (List.mem_of_getElem? (i := 24) rfl))) (mvT hZ (hw _ (List.mem_of_getElem? (i := 23) rfl))) (by decide) (backOf (W := 0) (rm_ise l Z av0 hw [] b15 (1 : Int32) T119.heap n0  fo119_4) hZ (hw _ (List.mem_of_getElem? (i := 25) rfl)) (hw _ (List.mem_of_getElem? (i := 3) rfl)) (by decide) (by decide)) q126a q126c (g := (mkF m 227 #[.val (.int u0), .val (.int u1), .val (.int u2), .val (.int u3), .val (.int u4), .val (.ref b2), .val (.ref b15), .val (.int (1 : Int32)), .val (.int (0 : Int32)), .val (.int (0 : Int32)), .val (.int (1 : Int32))] [(.ref b15)])) rfl (by rw [hml]; rfl) (Steps.refl _) (argsL := []) (rest := []) (lenOf pd_5 rfl) rfl (by show 2 * 0 + _ ≤ _; exact Nat.le_of_eq rfl) (hb hby at_227) (fun _ _ => ⟨rfl, rfl, (by decide : 4 + 0 ≤ _), (by decide : 13 + 0 ≤ _)⟩)
            dsimp only [Pt.U, Pt.locs, Pt.cells, Pt.slots] at X126 l126 y126 z126 st126 hQ126
            subst l126 y126 z126
            obtain ⟨hv126, N126q, e126⟩ := hQ126
            rw [show own_e (1 : Int32) = (0 : Int32) from rfl] at hv126
            subst hv126
            have N126 := Fr.app N119 N126q
            have pre126 : Go p.tables e below (s₁.setTop (entryFrame m #[(.int u0), (.int u1), (.int u2), (.int u3), (.int u4)] maxLocals)) T126 (mkF m 230 #[.val (.int u0), .val (.int u1), .val (.int u2), .val (.int u3), .val (.int u4), .val (.ref b2), .val (.ref b15), .val (.int (1 : Int32)), .val (.int (0 : Int32)), .val (.int (0 : Int32)), .val (.int (1 : Int32))] [(.int (0 : Int32))]) := fun t k => pre125 t (st126.trans k)
            have pre127 : Go p.tables e below (s₁.setTop (entryFrame m #[(.int u0), (.int u1), (.int u2), (.int u3), (.int u4)] maxLocals)) T126 (mkF m 262 #[.val (.int u0), .val (.int u1), .val (.int u2), .val (.int u3), .val (.int u4), .val (.ref b2), .val (.ref b15), .val (.int (1 : Int32)), .val (.int (0 : Int32)), .val (.int (0 : Int32)), .val (.int (1 : Int32))] [(.int (1 : Int32))]) := fun t k => pre126 t (by
                refine XS.iload X126.here hx rfl (hb hby at_230) rfl ?_
                refine XS.ifNo X126.here hx rfl (hb hby at_232) rfl ((if0 _ _).trans (teq (by decide)).2) ?_
                refine XS.iload X126.here hx rfl (hb hby at_235) rfl ?_
                refine XS.ifNo X126.here hx rfl (hb hby at_237) rfl ((if0 _ _).trans (teq (by decide)).2) ?_
                refine XS.iload X126.here hx rfl (hb hby at_240) rfl ?_
                refine XS.ifYes X126.here hx rfl (pc0 := 242) (pc' := 249) rfl (hb hby at_242) rfl ((if0 _ _).trans (feq (by decide)).2) (by decide) (by decide) ?_
                refine XS.iconst X126.here hx rfl (hb hby at_249) ?_
                refine XS.icmpNo X126.here hx rfl (hb hby at_250) rfl (teq (by decide)).2 ?_
                refine XS.iconst X126.here hx rfl (hb hby at_253) ?_
                refine XS.goto X126.here hx rfl (pc0 := 254) (pc' := 258) rfl (hb hby at_254) (by decide) (by decide) ?_
                show Steps p.tables e below (T126.setTop (mkF m 258 #[.val (.int u0), .val (.int u1), .val (.int u2), .val (.int u3), .val (.int u4), .val (.ref b2), .val (.ref b15), .val (.int (1 : Int32)), .val (.int (0 : Int32)), .val (.int (0 : Int32)), .val (.int (1 : Int32))] [(.int (1 : Int32))])) _
                refine XS.istore X126.here hx rfl (hb hby at_258) rfl (l' := #[.val (.int u0), .val (.int u1), .val (.int u2), .val (.int u3), .val (.int u4), .val (.ref b2), .val (.ref b15), .val (.int (1 : Int32)), .val (.int (0 : Int32)), .val (.int (0 : Int32)), .val (.int (1 : Int32))]) rfl ?_
                show Steps p.tables e below (T126.setTop (mkF m 260 #[.val (.int u0), .val (.int u1), .val (.int u2), .val (.int u3), .val (.int u4), .val (.ref b2), .val (.ref b15), .val (.int (1 : Int32)), .val (.int (0 : Int32)), .val (.int (0 : Int32)), .val (.int (1 : Int32))] [])) _
                refine XS.iload X126.here hx rfl (hb hby at_260) rfl ?_
                exact k)
            obtain ⟨fs, hr, hrun, hended, hW, hsame⟩ := X126.leave (v := some (.int (1 : Int32))) (fun h => by rw [Bd.returns] at h; cases h) (BodyLoose.notSynchronized Bd)
            refine ⟨_, _, pre127 _ ?_, hrun, hended, _, _, rfl, ?_, ⟨_, rfl⟩, hW, hsame.mono (Nat.le_of_ble_eq_true rfl) (Nat.le_of_ble_eq_true rfl)⟩
            · exact retN X126 hx (t := .boolean) Bd.returns (by simp) (hb hby at_262) hr
            · show Q_law Z u0 u1 u2 u3 u4 h0 n0 _ T126.heap _
              rw [e126]
              exact ⟨rfl, N126⟩
          · -- hc124: False
            have pre128 : Go p.tables e below (s₁.setTop (entryFrame m #[(.int u0), (.int u1), (.int u2), (.int u3), (.int u4)] maxLocals)) T119 (mkF m 214 #[.val (.int u0), .val (.int u1), .val (.int u2), .val (.int u3), .val (.int u4), .val (.ref b2), .val (.ref b15), .val (.int (1 : Int32)), .val (.int (0 : Int32)), .val (.int (0 : Int32)), .val (.int (1 : Int32))] [(.int (2 : Int32)), (.ref b15)]) := fun t k => pre123 t (by
                refine XS.ifNo X119.here hx rfl (hb hby at_208) rfl ((if0 _ _).trans (feq hc124).1) ?_
                refine XS.aload X119.here hx rfl (hb hby at_211) rfl rfl ?_
                refine XS.iconst X119.here hx rfl (hb hby at_213) ?_
                exact k)
            obtain ⟨cq129, kq129, q129a, q129b, q129c⟩ := isOf hZ rfl fo119_0
            obtain ⟨_, _, ⟨T129, L129, k129, n129⟩, -, X129, ⟨Lc129, hQ129, l129, y129, z129⟩, st129⟩ := X119.virtualBack hx (y := (⟨"com/example/octopoll/octopoll/PageHeap", "remove", "(I)V"⟩ : MethodName)) (z := (⟨"com/example/octopoll/octopoll/PageHeap", "remove", "(I)V"⟩ : MethodName)) hown (mvT hZ (hw _ (List.mem_of_getElem? (i := 45) rfl))) (mvT hZ (hw _ (List.mem_of_getElem? (i := 46) rfl))) (notFace_of_selects (args := #[]) (mvT hZ (hw _ (List.mem_of_getElem? (i := 48) rfl)))) (mvT hZ (hw _ (List.mem_of_getElem? (i := 48) rfl))) (mvT hZ (hw _ (List.mem_of_getElem? (i := 47) rfl))) (by decide) (backOf (W := 0) (rm_rem2 l Z av0 hw [] b15 b2 ha25 pa25 k2 kh25 kp25 (FP.i2d (u2 &&& (3 : Int32))) (FP.i2d (u3 &&& (3 : Int32))) (FP.i2d (u4 &&& (3 : Int32))) z0119 z1119 z2119 z3119 z4119 z5119 false false T119.heap n0 f120 fo119_0 fo119_1 fo119_2 fo119_3 fo119_4 f121 fo119_5 fo119_6 g17 gha25 gpa25 ne27 ne30 po25_0 ne16.symm ne26 ne29 po119_0) hZ (hw _ (List.mem_of_getElem? (i := 49) rfl)) (hw _ (List.mem_of_getElem? (i := 3) rfl)) (by decide) (by decide)) q129a q129c (g := (mkF m 214 #[.val (.int u0), .val (.int u1), .val (.int u2), .val (.int u3), .val (.int u4), .val (.ref b2), .val (.ref b15), .val (.int (1 : Int32)), .val (.int (0 : Int32)), .val (.int (0 : Int32)), .val (.int (1 : Int32))] [(.int (2 : Int32)), (.ref b15)])) rfl (by rw [hml]; rfl) (Steps.refl _) (argsL := [(.int (2 : Int32))]) (rest := []) (lenOf pd_2 rfl) rfl (by show 2 * 0 + _ ≤ _; exact Nat.le_of_eq rfl) (hb hby at_214) (fun _ _ => ⟨rfl, rfl, (by decide : 4 + 0 ≤ _), (by decide : 13 + 0 ≤ _)⟩)
            dsimp only [Pt.U, Pt.locs, Pt.cells, Pt.slots] at X129 l129 y129 z129 st129 hQ129
            subst l129 y129 z129
            obtain ⟨z0129, z1129, z2129, z3129, z4129, z5129, hv129, N129q, K129, fo129_0, fo129_1, fo129_2, fo129_3, fo129_4, fo129_5, fo129_6, po129_0⟩ := hQ129
            have f130 := Nat.le_trans f120 K129.1
            have f131 := f121.keep K129 (ninS ne16 (ninS ne26 (ninS ne29 nin0)))
            have f132 := fo119_0.keep K129
            subst hv129
            have N129 := Fr.app N119 N129q
            have pre129 : Go p.tables e below (s₁.setTop (entryFrame m #[(.int u0), (.int u1), (.int u2), (.int u3), (.int u4)] maxLocals)) T129 (mkF m 217 #[.val (.int u0), .val (.int u1), .val (.int u2), .val (.int u3), .val (.int u4), .val (.ref b2), .val (.ref b15), .val (.int (1 : Int32)), .val (.int (0 : Int32)), .val (.int (0 : Int32)), .val (.int (1 : Int32))] []) := fun t k => pre128 t (st129.trans k)
            have pre133 : Go p.tables e below (s₁.setTop (entryFrame m #[(.int u0), (.int u1), (.int u2), (.int u3), (.int u4)] maxLocals)) T129 (mkF m 227 #[.val (.int u0), .val (.int u1), .val (.int u2), .val (.int u3), .val (.int u4), .val (.ref b2), .val (.ref b15), .val (.int (1 : Int32)), .val (.int (0 : Int32)), .val (.int (0 : Int32)), .val (.int (0 : Int32))] [(.ref b15)]) := fun t k => pre129 t (by
                refine XS.iconst X129.here hx rfl (hb hby at_217) ?_
                refine XS.istore X129.here hx rfl (hb hby at_218) rfl (l' := #[.val (.int u0), .val (.int u1), .val (.int u2), .val (.int u3), .val (.int u4), .val (.ref b2), .val (.ref b15), .val (.int (1 : Int32)), .val (.int (0 : Int32)), .val (.int (0 : Int32)), .val (.int (0 : Int32))]) rfl ?_
                show Steps p.tables e below (T129.setTop (mkF m 220 #[.val (.int u0), .val (.int u1), .val (.int u2), .val (.int u3), .val (.int u4), .val (.ref b2), .val (.ref b15), .val (.int (1 : Int32)), .val (.int (0 : Int32)), .val (.int (0 : Int32)), .val (.int (0 : Int32))] [])) _
                refine XS.iload X129.here hx rfl (hb hby at_220) rfl ?_
                refine XS.ifNo X129.here hx rfl (hb hby at_222) rfl ((if0 _ _).trans (feq (by decide)).1) ?_
                refine XS.aload X129.here hx rfl (hb hby at_225) rfl rfl ?_
                exact k)
            obtain ⟨cq134, kq134, q134a, q134b, q134c⟩ := isOf hZ rfl fo129_0
            obtain ⟨_, _, ⟨T134, L134, k134, n134⟩, -, X134, ⟨Lc134, hQ134, l134, y134, z134⟩, st134⟩ := X129.virtualBack hx (y := (⟨"com/example/octopoll/octopoll/PageHeap", "isEmpty", "()Z"⟩ : MethodName)) (z := (⟨"com/example/octopoll/octopoll/PageHeap", "isEmpty", "()Z"⟩ : MethodName)) hown (mvT hZ (hw _ (List.mem_of_getElem? (i := 21) rfl))) (mvT hZ (hw _ (List.mem_of_getElem? (i := 22) rfl))) (notFace_of_selects (args := #[]) (mvT hZ (hw _ (List.mem_of_getElem? (i := 24) rfl)))) (mvT hZ (hw _ (List.mem_of_getElem? (i := 24) rfl))) (mvT hZ (hw _ (List.mem_of_getElem? (i := 23) rfl))) (by decide) (backOf (W := 0) (rm_ise l Z av0 hw [] b15 (0 : Int32) T129.heap n0  fo129_4) hZ (hw _ (List.mem_of_getElem? (i := 25) rfl)) (hw _ (List.mem_of_getElem? (i := 3) rfl)) (by decide) (by decide)) q134a q134c (g := (mkF m 227 #[.val (.int u0), .val (.int u1), .val (.int u2), .val (.int u3), .val (.int u4), .val (.ref b2), .val (.ref b15), .val (.int (1 : Int32)), .val (.int (0 : Int32)), .val (.int (0 : Int32)), .val (.int (0 : Int32))] [(.ref b15)])) rfl (by rw [hml]; rfl) (Steps.refl _) (argsL := []) (rest := []) (lenOf pd_5 rfl) rfl (by show 2 * 0 + _ ≤ _; exact Nat.le_of_eq rfl) (hb hby at_227) (fun _ _ => ⟨rfl, rfl, (by decide : 4 + 0 ≤ _), (by decide : 13 + 0 ≤ _)⟩)
            dsimp only [Pt.U, Pt.locs, Pt.cells, Pt.slots] at X134 l134 y134 z134 st134 hQ134
            subst l134 y134 z134
            obtain ⟨hv134, N134q, e134⟩ := hQ134
            rw [show own_e (0 : Int32) = (1 : Int32) from rfl] at hv134
            subst hv134
            have N134 := Fr.app N129 N134q
            have pre134 : Go p.tables e below (s₁.setTop (entryFrame m #[(.int u0), (.int u1), (.int u2), (.int u3), (.int u4)] maxLocals)) T134 (mkF m 230 #[.val (.int u0), .val (.int u1), .val (.int u2), .val (.int u3), .val (.int u4), .val (.ref b2), .val (.ref b15), .val (.int (1 : Int32)), .val (.int (0 : Int32)), .val (.int (0 : Int32)), .val (.int (0 : Int32))] [(.int (1 : Int32))]) := fun t k => pre133 t (st134.trans k)
            have pre135 : Go p.tables e below (s₁.setTop (entryFrame m #[(.int u0), (.int u1), (.int u2), (.int u3), (.int u4)] maxLocals)) T134 (mkF m 262 #[.val (.int u0), .val (.int u1), .val (.int u2), .val (.int u3), .val (.int u4), .val (.ref b2), .val (.ref b15), .val (.int (1 : Int32)), .val (.int (0 : Int32)), .val (.int (0 : Int32)), .val (.int (0 : Int32))] [(.int (1 : Int32))]) := fun t k => pre134 t (by
                refine XS.iload X134.here hx rfl (hb hby at_230) rfl ?_
                refine XS.ifNo X134.here hx rfl (hb hby at_232) rfl ((if0 _ _).trans (teq (by decide)).2) ?_
                refine XS.iload X134.here hx rfl (hb hby at_235) rfl ?_
                refine XS.ifNo X134.here hx rfl (hb hby at_237) rfl ((if0 _ _).trans (teq (by decide)).2) ?_
                refine XS.iload X134.here hx rfl (hb hby at_240) rfl ?_
                refine XS.ifNo X134.here hx rfl (hb hby at_242) rfl ((if0 _ _).trans (teq (by decide)).2) ?_
                refine XS.iconst X134.here hx rfl (hb hby at_245) ?_
                refine XS.goto X134.here hx rfl (pc0 := 246) (pc' := 250) rfl (hb hby at_246) (by decide) (by decide) ?_
                show Steps p.tables e below (T134.setTop (mkF m 250 #[.val (.int u0), .val (.int u1), .val (.int u2), .val (.int u3), .val (.int u4), .val (.ref b2), .val (.ref b15), .val (.int (1 : Int32)), .val (.int (0 : Int32)), .val (.int (0 : Int32)), .val (.int (0 : Int32))] [(.int (1 : Int32)), (.int (1 : Int32))])) _
                refine XS.icmpNo X134.here hx rfl (hb hby at_250) rfl (teq (by decide)).2 ?_
                refine XS.iconst X134.here hx rfl (hb hby at_253) ?_
                refine XS.goto X134.here hx rfl (pc0 := 254) (pc' := 258) rfl (hb hby at_254) (by decide) (by decide) ?_
                show Steps p.tables e below (T134.setTop (mkF m 258 #[.val (.int u0), .val (.int u1), .val (.int u2), .val (.int u3), .val (.int u4), .val (.ref b2), .val (.ref b15), .val (.int (1 : Int32)), .val (.int (0 : Int32)), .val (.int (0 : Int32)), .val (.int (0 : Int32))] [(.int (1 : Int32))])) _
                refine XS.istore X134.here hx rfl (hb hby at_258) rfl (l' := #[.val (.int u0), .val (.int u1), .val (.int u2), .val (.int u3), .val (.int u4), .val (.ref b2), .val (.ref b15), .val (.int (1 : Int32)), .val (.int (0 : Int32)), .val (.int (0 : Int32)), .val (.int (0 : Int32))]) rfl ?_
                show Steps p.tables e below (T134.setTop (mkF m 260 #[.val (.int u0), .val (.int u1), .val (.int u2), .val (.int u3), .val (.int u4), .val (.ref b2), .val (.ref b15), .val (.int (1 : Int32)), .val (.int (0 : Int32)), .val (.int (0 : Int32)), .val (.int (0 : Int32))] [])) _
                refine XS.iload X134.here hx rfl (hb hby at_260) rfl ?_
                exact k)
            obtain ⟨fs, hr, hrun, hended, hW, hsame⟩ := X134.leave (v := some (.int (1 : Int32))) (fun h => by rw [Bd.returns] at h; cases h) (BodyLoose.notSynchronized Bd)
            refine ⟨_, _, pre135 _ ?_, hrun, hended, _, _, rfl, ?_, ⟨_, rfl⟩, hW, hsame.mono (Nat.le_of_ble_eq_true rfl) (Nat.le_of_ble_eq_true rfl)⟩
            · exact retN X134 hx (t := .boolean) Bd.returns (by simp) (hb hby at_262) hr
            · show Q_law Z u0 u1 u2 u3 u4 h0 n0 _ T134.heap _
              rw [e134]
              exact ⟨rfl, N134⟩
  · -- hc39: False
    have pre136 : Go p.tables e below (s₁.setTop (entryFrame m #[(.int u0), (.int u1), (.int u2), (.int u3), (.int u4)] maxLocals)) T37 (mkF m 64 #[.val (.int u0), .val (.int u1), .val (.int u2), .val (.int u3), .val (.int u4), .val (.ref b2), .val (.ref b15), .val (.int (1 : Int32)), .val (.int (1 : Int32)), .unset, .unset] [(.int (u0 &&& (2 : Int32)))]) := fun t k => pre38 t (by
        refine XS.ifNo X37.here hx rfl (hb hby at_51) rfl ((if0 _ _).trans (feq hc39).1) ?_
        refine XS.iconst X37.here hx rfl (hb hby at_54) ?_
        refine XS.goto X37.here hx rfl (pc0 := 55) (pc' := 59) rfl (hb hby at_55) (by decide) (by decide) ?_
        show Steps p.tables e below (T37.setTop (mkF m 59 #[.val (.int u0), .val (.int u1), .val (.int u2), .val (.int u3), .val (.int u4), .val (.ref b2), .val (.ref b15), .val (.int (1 : Int32)), .unset, .unset, .unset] [(.int (1 : Int32))])) _
        refine XS.istore X37.here hx rfl (hb hby at_59) rfl (l' := #[.val (.int u0), .val (.int u1), .val (.int u2), .val (.int u3), .val (.int u4), .val (.ref b2), .val (.ref b15), .val (.int (1 : Int32)), .val (.int (1 : Int32)), .unset, .unset]) rfl ?_
        show Steps p.tables e below (T37.setTop (mkF m 61 #[.val (.int u0), .val (.int u1), .val (.int u2), .val (.int u3), .val (.int u4), .val (.ref b2), .val (.ref b15), .val (.int (1 : Int32)), .val (.int (1 : Int32)), .unset, .unset] [])) _
        refine XS.iloadN X37.here hx rfl (hb hby at_61) rfl ?_
        refine XS.iconst X37.here hx rfl (hb hby at_62) ?_
        refine XS.iand X37.here hx rfl (hb hby at_63) rfl ?_
        exact k)
    by_cases hc137 : (u0 &&& (2 : Int32)) = (0 : Int32)
    · -- hc137: True
      have pre138 : Go p.tables e below (s₁.setTop (entryFrame m #[(.int u0), (.int u1), (.int u2), (.int u3), (.int u4)] maxLocals)) T37 (mkF m 77 #[.val (.int u0), .val (.int u1), .val (.int u2), .val (.int u3), .val (.int u4), .val (.ref b2), .val (.ref b15), .val (.int (1 : Int32)), .val (.int (1 : Int32)), .val (.int (0 : Int32)), .unset] [(.int (u0 &&& (4 : Int32)))]) := fun t k => pre136 t (by
          refine XS.ifYes X37.here hx rfl (pc0 := 64) (pc' := 71) rfl (hb hby at_64) rfl ((if0 _ _).trans (teq hc137).1) (by decide) (by decide) ?_
          refine XS.iconst X37.here hx rfl (hb hby at_71) ?_
          refine XS.istore X37.here hx rfl (hb hby at_72) rfl (l' := #[.val (.int u0), .val (.int u1), .val (.int u2), .val (.int u3), .val (.int u4), .val (.ref b2), .val (.ref b15), .val (.int (1 : Int32)), .val (.int (1 : Int32)), .val (.int (0 : Int32)), .unset]) rfl ?_
          show Steps p.tables e below (T37.setTop (mkF m 74 #[.val (.int u0), .val (.int u1), .val (.int u2), .val (.int u3), .val (.int u4), .val (.ref b2), .val (.ref b15), .val (.int (1 : Int32)), .val (.int (1 : Int32)), .val (.int (0 : Int32)), .unset] [])) _
          refine XS.iloadN X37.here hx rfl (hb hby at_74) rfl ?_
          refine XS.iconst X37.here hx rfl (hb hby at_75) ?_
          refine XS.iand X37.here hx rfl (hb hby at_76) rfl ?_
          exact k)
      by_cases hc139 : (u0 &&& (4 : Int32)) = (0 : Int32)
      · -- hc139: True
        have pre140 : Go p.tables e below (s₁.setTop (entryFrame m #[(.int u0), (.int u1), (.int u2), (.int u3), (.int u4)] maxLocals)) T37 (mkF m 95 #[.val (.int u0), .val (.int u1), .val (.int u2), .val (.int u3), .val (.int u4), .val (.ref b2), .val (.ref b15), .val (.int (1 : Int32)), .val (.int (1 : Int32)), .val (.int (0 : Int32)), .val (.int (0 : Int32))] [(.int (0 : Int32)), (.ref b15)]) := fun t k => pre138 t (by
            refine XS.ifYes X37.here hx rfl (pc0 := 77) (pc' := 84) rfl (hb hby at_77) rfl ((if0 _ _).trans (teq hc139).1) (by decide) (by decide) ?_
            refine XS.iconst X37.here hx rfl (hb hby at_84) ?_
            refine XS.istore X37.here hx rfl (hb hby at_85) rfl (l' := #[.val (.int u0), .val (.int u1), .val (.int u2), .val (.int u3), .val (.int u4), .val (.ref b2), .val (.ref b15), .val (.int (1 : Int32)), .val (.int (1 : Int32)), .val (.int (0 : Int32)), .val (.int (0 : Int32))]) rfl ?_
            show Steps p.tables e below (T37.setTop (mkF m 87 #[.val (.int u0), .val (.int u1), .val (.int u2), .val (.int u3), .val (.int u4), .val (.ref b2), .val (.ref b15), .val (.int (1 : Int32)), .val (.int (1 : Int32)), .val (.int (0 : Int32)), .val (.int (0 : Int32))] [])) _
            refine XS.iload X37.here hx rfl (hb hby at_87) rfl ?_
            refine XS.ifNo X37.here hx rfl (hb hby at_89) rfl ((if0 _ _).trans (feq (by decide)).1) ?_
            refine XS.aload X37.here hx rfl (hb hby at_92) rfl rfl ?_
            refine XS.iconst X37.here hx rfl (hb hby at_94) ?_
            exact k)
        obtain ⟨cq141, kq141, q141a, q141b, q141c⟩ := isOf hZ e37 fo25_0
        obtain ⟨_, _, ⟨T141, L141, k141, n141⟩, -, X141, ⟨Lc141, hQ141, l141, y141, z141⟩, st141⟩ := X37.virtualBack hx (y := (⟨"com/example/octopoll/octopoll/PageHeap", "add", "(I)V"⟩ : MethodName)) (z := (⟨"com/example/octopoll/octopoll/PageHeap", "add", "(I)V"⟩ : MethodName)) hown (mvT hZ (hw _ (List.mem_of_getElem? (i := 28) rfl))) (mvT hZ (hw _ (List.mem_of_getElem? (i := 29) rfl))) (notFace_of_selects (args := #[]) (mvT hZ (hw _ (List.mem_of_getElem? (i := 31) rfl)))) (mvT hZ (hw _ (List.mem_of_getElem? (i := 31) rfl))) (mvT hZ (hw _ (List.mem_of_getElem? (i := 30) rfl))) (by decide) (backOf (W := 0) (rm_add0 l Z av0 hw [] b15 b2 ha25 pa25 k2 kh25 kp25 (FP.i2d (u2 &&& (3 : Int32))) (FP.i2d (u3 &&& (3 : Int32))) (FP.i2d (u4 &&& (3 : Int32))) (0 : Int32) (0 : Int32) (0 : Int32) (-1 : Int32) (-1 : Int32) (-1 : Int32) false false T25.heap n0 f32 fo25_0 fo25_1 fo25_2 fo25_3 fo25_4 f33 fo25_5 fo25_6 g17 gha25 gpa25 ne27 ne30 po25_0 ne16.symm ne26 ne29 hS0) hZ (hw _ (List.mem_of_getElem? (i := 32) rfl)) (hw _ (List.mem_of_getElem? (i := 3) rfl)) (by decide) (by decide)) q141a q141c (g := (mkF m 95 #[.val (.int u0), .val (.int u1), .val (.int u2), .val (.int u3), .val (.int u4), .val (.ref b2), .val (.ref b15), .val (.int (1 : Int32)), .val (.int (1 : Int32)), .val (.int (0 : Int32)), .val (.int (0 : Int32))] [(.int (0 : Int32)), (.ref b15)])) rfl (by rw [hml]; rfl) (Steps.refl _) (argsL := [(.int (0 : Int32))]) (rest := []) (lenOf pd_2 rfl) rfl (by show 2 * 0 + _ ≤ _; exact Nat.le_of_eq rfl) (hb hby at_95) (fun _ _ => ⟨rfl, e37, (by decide : 4 + 0 ≤ _), (by decide : 13 + 0 ≤ _)⟩)
        dsimp only [Pt.U, Pt.locs, Pt.cells, Pt.slots] at X141 l141 y141 z141 st141 hQ141
        subst l141 y141 z141
        obtain ⟨z0141, z1141, z2141, z3141, z4141, z5141, hv141, N141q, K141, fo141_0, fo141_1, fo141_2, fo141_3, fo141_4, fo141_5, fo141_6, po141_0⟩ := hQ141
        have f142 := Nat.le_trans f32 K141.1
        have f143 := f33.keep K141 (ninS ne16 (ninS ne26 (ninS ne29 nin0)))
        have f144 := fo25_0.keep K141
        subst hv141
        have N141 := Fr.app N37 N141q
        have pre141 : Go p.tables e below (s₁.setTop (entryFrame m #[(.int u0), (.int u1), (.int u2), (.int u3), (.int u4)] maxLocals)) T141 (mkF m 98 #[.val (.int u0), .val (.int u1), .val (.int u2), .val (.int u3), .val (.int u4), .val (.ref b2), .val (.ref b15), .val (.int (1 : Int32)), .val (.int (1 : Int32)), .val (.int (0 : Int32)), .val (.int (0 : Int32))] []) := fun t k => pre140 t (st141.trans k)
        have pre145 : Go p.tables e below (s₁.setTop (entryFrame m #[(.int u0), (.int u1), (.int u2), (.int u3), (.int u4)] maxLocals)) T141 (mkF m 127 #[.val (.int u0), .val (.int u1), .val (.int u2), .val (.int u3), .val (.int u4), .val (.ref b2), .val (.ref b15), .val (.int (1 : Int32)), .val (.int (1 : Int32)), .val (.int (0 : Int32)), .val (.int (0 : Int32))] [(.ref b15)]) := fun t k => pre141 t (by
            refine XS.iload X141.here hx rfl (hb hby at_98) rfl ?_
            refine XS.ifYes X141.here hx rfl (pc0 := 100) (pc' := 109) rfl (hb hby at_100) rfl ((if0 _ _).trans (teq (by decide)).1) (by decide) (by decide) ?_
            refine XS.iload X141.here hx rfl (hb hby at_109) rfl ?_
            refine XS.ifYes X141.here hx rfl (pc0 := 111) (pc' := 120) rfl (hb hby at_111) rfl ((if0 _ _).trans (teq (by decide)).1) (by decide) (by decide) ?_
            refine XS.iload X141.here hx rfl (hb hby at_120) rfl ?_
            refine XS.ifNo X141.here hx rfl (hb hby at_122) rfl ((if0 _ _).trans (feq (by decide)).1) ?_
            refine XS.aload X141.here hx rfl (hb hby at_125) rfl rfl ?_
            exact k)
        obtain ⟨cq146, kq146, q146a, q146b, q146c⟩ := isOf hZ rfl fo141_0
        obtain ⟨_, _, ⟨T146, L146, k146, n146⟩, -, X146, ⟨Lc146, hQ146, l146, y146, z146⟩, st146⟩ := X141.virtualBack hx (y := (⟨"com/example/octopoll/octopoll/PageHeap", "isEmpty", "()Z"⟩ : MethodName)) (z := (⟨"com/example/octopoll/octopoll/PageHeap", "isEmpty", "()Z"⟩ : MethodName)) hown (mvT hZ (hw _ (List.mem_of_getElem? (i := 21) rfl))) (mvT hZ (hw _ (List.mem_of_getElem? (i := 22) rfl))) (notFace_of_selects (args := #[]) (mvT hZ (hw _ (List.mem_of_getElem? (i := 24) rfl)))) (mvT hZ (hw _ (List.mem_of_getElem? (i := 24) rfl))) (mvT hZ (hw _ (List.mem_of_getElem? (i := 23) rfl))) (by decide) (backOf (W := 0) (rm_ise l Z av0 hw [] b15 (1 : Int32) T141.heap n0  fo141_4) hZ (hw _ (List.mem_of_getElem? (i := 25) rfl)) (hw _ (List.mem_of_getElem? (i := 3) rfl)) (by decide) (by decide)) q146a q146c (g := (mkF m 127 #[.val (.int u0), .val (.int u1), .val (.int u2), .val (.int u3), .val (.int u4), .val (.ref b2), .val (.ref b15), .val (.int (1 : Int32)), .val (.int (1 : Int32)), .val (.int (0 : Int32)), .val (.int (0 : Int32))] [(.ref b15)])) rfl (by rw [hml]; rfl) (Steps.refl _) (argsL := []) (rest := []) (lenOf pd_5 rfl) rfl (by show 2 * 0 + _ ≤ _; exact Nat.le_of_eq rfl) (hb hby at_127) (fun _ _ => ⟨rfl, rfl, (by decide : 4 + 0 ≤ _), (by decide : 13 + 0 ≤ _)⟩)
        dsimp only [Pt.U, Pt.locs, Pt.cells, Pt.slots] at X146 l146 y146 z146 st146 hQ146
        subst l146 y146 z146
        obtain ⟨hv146, N146q, e146⟩ := hQ146
        rw [show own_e (1 : Int32) = (0 : Int32) from rfl] at hv146
        subst hv146
        have N146 := Fr.app N141 N146q
        have pre146 : Go p.tables e below (s₁.setTop (entryFrame m #[(.int u0), (.int u1), (.int u2), (.int u3), (.int u4)] maxLocals)) T146 (mkF m 130 #[.val (.int u0), .val (.int u1), .val (.int u2), .val (.int u3), .val (.int u4), .val (.ref b2), .val (.ref b15), .val (.int (1 : Int32)), .val (.int (1 : Int32)), .val (.int (0 : Int32)), .val (.int (0 : Int32))] [(.int (0 : Int32))]) := fun t k => pre145 t (st146.trans k)
        have pre147 : Go p.tables e below (s₁.setTop (entryFrame m #[(.int u0), (.int u1), (.int u2), (.int u3), (.int u4)] maxLocals)) T146 (mkF m 168 #[.val (.int u0), .val (.int u1), .val (.int u2), .val (.int u3), .val (.int u4), .val (.ref b2), .val (.ref b15), .val (.int (1 : Int32)), .val (.int (1 : Int32)), .val (.int (0 : Int32)), .val (.int (0 : Int32))] [(.int (u1 &&& (1 : Int32)))]) := fun t k => pre146 t (by
            refine XS.iload X146.here hx rfl (hb hby at_130) rfl ?_
            refine XS.ifYes X146.here hx rfl (pc0 := 132) (pc' := 149) rfl (hb hby at_132) rfl ((if0 _ _).trans (feq (by decide)).2) (by decide) (by decide) ?_
            refine XS.iconst X146.here hx rfl (hb hby at_149) ?_
            refine XS.icmpNo X146.here hx rfl (hb hby at_150) rfl (teq (by decide)).2 ?_
            refine XS.iconst X146.here hx rfl (hb hby at_153) ?_
            refine XS.goto X146.here hx rfl (pc0 := 154) (pc' := 158) rfl (hb hby at_154) (by decide) (by decide) ?_
            show Steps p.tables e below (T146.setTop (mkF m 158 #[.val (.int u0), .val (.int u1), .val (.int u2), .val (.int u3), .val (.int u4), .val (.ref b2), .val (.ref b15), .val (.int (1 : Int32)), .val (.int (1 : Int32)), .val (.int (0 : Int32)), .val (.int (0 : Int32))] [(.int (1 : Int32))])) _
            refine XS.istore X146.here hx rfl (hb hby at_158) rfl (l' := #[.val (.int u0), .val (.int u1), .val (.int u2), .val (.int u3), .val (.int u4), .val (.ref b2), .val (.ref b15), .val (.int (1 : Int32)), .val (.int (1 : Int32)), .val (.int (0 : Int32)), .val (.int (0 : Int32))]) rfl ?_
            show Steps p.tables e below (T146.setTop (mkF m 160 #[.val (.int u0), .val (.int u1), .val (.int u2), .val (.int u3), .val (.int u4), .val (.ref b2), .val (.ref b15), .val (.int (1 : Int32)), .val (.int (1 : Int32)), .val (.int (0 : Int32)), .val (.int (0 : Int32))] [])) _
            refine XS.iload X146.here hx rfl (hb hby at_160) rfl ?_
            refine XS.ifNo X146.here hx rfl (hb hby at_162) rfl ((if0 _ _).trans (feq (by decide)).1) ?_
            refine XS.iloadN X146.here hx rfl (hb hby at_165) rfl ?_
            refine XS.iconst X146.here hx rfl (hb hby at_166) ?_
            refine XS.iand X146.here hx rfl (hb hby at_167) rfl ?_
            exact k)
        by_cases hc148 : (u1 &&& (1 : Int32)) = (0 : Int32)
        · -- hc148: True
          have pre149 : Go p.tables e below (s₁.setTop (entryFrame m #[(.int u0), (.int u1), (.int u2), (.int u3), (.int u4)] maxLocals)) T146 (mkF m 227 #[.val (.int u0), .val (.int u1), .val (.int u2), .val (.int u3), .val (.int u4), .val (.ref b2), .val (.ref b15), .val (.int (1 : Int32)), .val (.int (1 : Int32)), .val (.int (0 : Int32)), .val (.int (0 : Int32))] [(.ref b15)]) := fun t k => pre147 t (by
              refine XS.ifYes X146.here hx rfl (pc0 := 168) (pc' := 180) rfl (hb hby at_168) rfl ((if0 _ _).trans (teq hc148).1) (by decide) (by decide) ?_
              refine XS.iload X146.here hx rfl (hb hby at_180) rfl ?_
              refine XS.ifYes X146.here hx rfl (pc0 := 182) (pc' := 200) rfl (hb hby at_182) rfl ((if0 _ _).trans (teq (by decide)).1) (by decide) (by decide) ?_
              refine XS.iload X146.here hx rfl (hb hby at_200) rfl ?_
              refine XS.ifYes X146.here hx rfl (pc0 := 202) (pc' := 220) rfl (hb hby at_202) rfl ((if0 _ _).trans (teq (by decide)).1) (by decide) (by decide) ?_
              refine XS.iload X146.here hx rfl (hb hby at_220) rfl ?_
              refine XS.ifNo X146.here hx rfl (hb hby at_222) rfl ((if0 _ _).trans (feq (by decide)).1) ?_
              refine XS.aload X146.here hx rfl (hb hby at_225) rfl rfl ?_
              exact k)
          obtain ⟨cq150, kq150, q150a, q150b, q150c⟩ := isOf hZ e146 fo141_0
          obtain ⟨_, _, ⟨T150, L150, k150, n150⟩, -, X150, ⟨Lc150, hQ150, l150, y150, z150⟩, st150⟩ := X146.virtualBack hx (y := (⟨"com/example/octopoll/octopoll/PageHeap", "isEmpty", "()Z"⟩ : MethodName)) (z := (⟨"com/example/octopoll/octopoll/PageHeap", "isEmpty", "()Z"⟩ : MethodName)) hown (mvT hZ (hw _ (List.mem_of_getElem? (i := 21) rfl))) (mvT hZ (hw _ (List.mem_of_getElem? (i := 22) rfl))) (notFace_of_selects (args := #[]) (mvT hZ (hw _ (List.mem_of_getElem? (i := 24) rfl)))) (mvT hZ (hw _ (List.mem_of_getElem? (i := 24) rfl))) (mvT hZ (hw _ (List.mem_of_getElem? (i := 23) rfl))) (by decide) (backOf (W := 0) (rm_ise l Z av0 hw [] b15 (1 : Int32) T141.heap n0  fo141_4) hZ (hw _ (List.mem_of_getElem? (i := 25) rfl)) (hw _ (List.mem_of_getElem? (i := 3) rfl)) (by decide) (by decide)) q150a q150c (g := (mkF m 227 #[.val (.int u0), .val (.int u1), .val (.int u2), .val (.int u3), .val (.int u4), .val (.ref b2), .val (.ref b15), .val (.int (1 : Int32)), .val (.int (1 : Int32)), .val (.int (0 : Int32)), .val (.int (0 : Int32))] [(.ref b15)])) rfl (by rw [hml]; rfl) (Steps.refl _) (argsL := []) (rest := []) (lenOf pd_5 rfl) rfl (by show 2 * 0 + _ ≤ _; exact Nat.le_of_eq rfl) (hb hby at_227) (fun _ _ => ⟨rfl, e146, (by decide : 4 + 0 ≤ _), (by decide : 13 + 0 ≤ _)⟩)
          dsimp only [Pt.U, Pt.locs, Pt.cells, Pt.slots] at X150 l150 y150 z150 st150 hQ150
          subst l150 y150 z150
          obtain ⟨hv150, N150q, e150⟩ := hQ150
          rw [show own_e (1 : Int32) = (0 : Int32) from rfl] at hv150
          subst hv150
          have N150 := Fr.app N146 N150q
          have pre150 : Go p.tables e below (s₁.setTop (entryFrame m #[(.int u0), (.int u1), (.int u2), (.int u3), (.int u4)] maxLocals)) T150 (mkF m 230 #[.val (.int u0), .val (.int u1), .val (.int u2), .val (.int u3), .val (.int u4), .val (.ref b2), .val (.ref b15), .val (.int (1 : Int32)), .val (.int (1 : Int32)), .val (.int (0 : Int32)), .val (.int (0 : Int32))] [(.int (0 : Int32))]) := fun t k => pre149 t (st150.trans k)
          have pre151 : Go p.tables e below (s₁.setTop (entryFrame m #[(.int u0), (.int u1), (.int u2), (.int u3), (.int u4)] maxLocals)) T150 (mkF m 262 #[.val (.int u0), .val (.int u1), .val (.int u2), .val (.int u3), .val (.int u4), .val (.ref b2), .val (.ref b15), .val (.int (1 : Int32)), .val (.int (1 : Int32)), .val (.int (0 : Int32)), .val (.int (0 : Int32))] [(.int (1 : Int32))]) := fun t k => pre150 t (by
              refine XS.iload X150.here hx rfl (hb hby at_230) rfl ?_
              refine XS.ifYes X150.here hx rfl (pc0 := 232) (pc' := 249) rfl (hb hby at_232) rfl ((if0 _ _).trans (feq (by decide)).2) (by decide) (by decide) ?_
              refine XS.iconst X150.here hx rfl (hb hby at_249) ?_
              refine XS.icmpNo X150.here hx rfl (hb hby at_250) rfl (teq (by decide)).2 ?_
              refine XS.iconst X150.here hx rfl (hb hby at_253) ?_
              refine XS.goto X150.here hx rfl (pc0 := 254) (pc' := 258) rfl (hb hby at_254) (by decide) (by decide) ?_
              show Steps p.tables e below (T150.setTop (mkF m 258 #[.val (.int u0), .val (.int u1), .val (.int u2), .val (.int u3), .val (.int u4), .val (.ref b2), .val (.ref b15), .val (.int (1 : Int32)), .val (.int (1 : Int32)), .val (.int (0 : Int32)), .val (.int (0 : Int32))] [(.int (1 : Int32))])) _
              refine XS.istore X150.here hx rfl (hb hby at_258) rfl (l' := #[.val (.int u0), .val (.int u1), .val (.int u2), .val (.int u3), .val (.int u4), .val (.ref b2), .val (.ref b15), .val (.int (1 : Int32)), .val (.int (1 : Int32)), .val (.int (0 : Int32)), .val (.int (0 : Int32))]) rfl ?_
              show Steps p.tables e below (T150.setTop (mkF m 260 #[.val (.int u0), .val (.int u1), .val (.int u2), .val (.int u3), .val (.int u4), .val (.ref b2), .val (.ref b15), .val (.int (1 : Int32)), .val (.int (1 : Int32)), .val (.int (0 : Int32)), .val (.int (0 : Int32))] [])) _
              refine XS.iload X150.here hx rfl (hb hby at_260) rfl ?_
              exact k)
          obtain ⟨fs, hr, hrun, hended, hW, hsame⟩ := X150.leave (v := some (.int (1 : Int32))) (fun h => by rw [Bd.returns] at h; cases h) (BodyLoose.notSynchronized Bd)
          refine ⟨_, _, pre151 _ ?_, hrun, hended, _, _, rfl, ?_, ⟨_, rfl⟩, hW, hsame.mono (Nat.le_of_ble_eq_true rfl) (Nat.le_of_ble_eq_true rfl)⟩
          · exact retN X150 hx (t := .boolean) Bd.returns (by simp) (hb hby at_262) hr
          · show Q_law Z u0 u1 u2 u3 u4 h0 n0 _ T150.heap _
            rw [e150]
            exact ⟨rfl, N150⟩
        · -- hc148: False
          have pre152 : Go p.tables e below (s₁.setTop (entryFrame m #[(.int u0), (.int u1), (.int u2), (.int u3), (.int u4)] maxLocals)) T146 (mkF m 174 #[.val (.int u0), .val (.int u1), .val (.int u2), .val (.int u3), .val (.int u4), .val (.ref b2), .val (.ref b15), .val (.int (1 : Int32)), .val (.int (1 : Int32)), .val (.int (0 : Int32)), .val (.int (0 : Int32))] [(.int (0 : Int32)), (.ref b15)]) := fun t k => pre147 t (by
              refine XS.ifNo X146.here hx rfl (hb hby at_168) rfl ((if0 _ _).trans (feq hc148).1) ?_
              refine XS.aload X146.here hx rfl (hb hby at_171) rfl rfl ?_
              refine XS.iconst X146.here hx rfl (hb hby at_173) ?_
              exact k)
          obtain ⟨cq153, kq153, q153a, q153b, q153c⟩ := isOf hZ e146 fo141_0
          obtain ⟨_, _, ⟨T153, L153, k153, n153⟩, -, X153, ⟨Lc153, hQ153, l153, y153, z153⟩, st153⟩ := X146.virtualBack hx (y := (⟨"com/example/octopoll/octopoll/PageHeap", "remove", "(I)V"⟩ : MethodName)) (z := (⟨"com/example/octopoll/octopoll/PageHeap", "remove", "(I)V"⟩ : MethodName)) hown (mvT hZ (hw _ (List.mem_of_getElem? (i := 45) rfl))) (mvT hZ (hw _ (List.mem_of_getElem? (i := 46) rfl))) (notFace_of_selects (args := #[]) (mvT hZ (hw _ (List.mem_of_getElem? (i := 48) rfl)))) (mvT hZ (hw _ (List.mem_of_getElem? (i := 48) rfl))) (mvT hZ (hw _ (List.mem_of_getElem? (i := 47) rfl))) (by decide) (backOf (W := 0) (rm_rem0 l Z av0 hw [] b15 b2 ha25 pa25 k2 kh25 kp25 (FP.i2d (u2 &&& (3 : Int32))) (FP.i2d (u3 &&& (3 : Int32))) (FP.i2d (u4 &&& (3 : Int32))) z0141 z1141 z2141 z3141 z4141 z5141 false false T141.heap n0 f142 fo141_0 fo141_1 fo141_2 fo141_3 fo141_4 f143 fo141_5 fo141_6 g17 gha25 gpa25 ne27 ne30 po25_0 ne16.symm ne26 ne29 po141_0) hZ (hw _ (List.mem_of_getElem? (i := 49) rfl)) (hw _ (List.mem_of_getElem? (i := 3) rfl)) (by decide) (by decide)) q153a q153c (g := (mkF m 174 #[.val (.int u0), .val (.int u1), .val (.int u2), .val (.int u3), .val (.int u4), .val (.ref b2), .val (.ref b15), .val (.int (1 : Int32)), .val (.int (1 : Int32)), .val (.int (0 : Int32)), .val (.int (0 : Int32))] [(.int (0 : Int32)), (.ref b15)])) rfl (by rw [hml]; rfl) (Steps.refl _) (argsL := [(.int (0 : Int32))]) (rest := []) (lenOf pd_2 rfl) rfl (by show 2 * 0 + _ ≤ _; exact Nat.le_of_eq rfl) (hb hby at_174) (fun _ _ => ⟨rfl, e146, (by decide : 4 + 0 ≤ _), (by decide : 13 + 0 ≤ _)⟩)
          dsimp only [Pt.U, Pt.locs, Pt.cells, Pt.slots] at X153 l153 y153 z153 st153 hQ153
          subst l153 y153 z153
          obtain ⟨z0153, z1153, z2153, z3153, z4153, z5153, hv153, N153q, K153, fo153_0, fo153_1, fo153_2, fo153_3, fo153_4, fo153_5, fo153_6, po153_0⟩ := hQ153
          have f154 := Nat.le_trans f142 K153.1
          have f155 := f143.keep K153 (ninS ne16 (ninS ne26 (ninS ne29 nin0)))
          have f156 := fo141_0.keep K153
          subst hv153
          have N153 := Fr.app N146 N153q
          have pre153 : Go p.tables e below (s₁.setTop (entryFrame m #[(.int u0), (.int u1), (.int u2), (.int u3), (.int u4)] maxLocals)) T153 (mkF m 177 #[.val (.int u0), .val (.int u1), .val (.int u2), .val (.int u3), .val (.int u4), .val (.ref b2), .val (.ref b15), .val (.int (1 : Int32)), .val (.int (1 : Int32)), .val (.int (0 : Int32)), .val (.int (0 : Int32))] []) := fun t k => pre152 t (st153.trans k)
          have pre157 : Go p.tables e below (s₁.setTop (entryFrame m #[(.int u0), (.int u1), (.int u2), (.int u3), (.int u4)] maxLocals)) T153 (mkF m 227 #[.val (.int u0), .val (.int u1), .val (.int u2), .val (.int u3), .val (.int u4), .val (.ref b2), .val (.ref b15), .val (.int (1 : Int32)), .val (.int (0 : Int32)), .val (.int (0 : Int32)), .val (.int (0 : Int32))] [(.ref b15)]) := fun t k => pre153 t (by
              refine XS.iconst X153.here hx rfl (hb hby at_177) ?_
              refine XS.istore X153.here hx rfl (hb hby at_178) rfl (l' := #[.val (.int u0), .val (.int u1), .val (.int u2), .val (.int u3), .val (.int u4), .val (.ref b2), .val (.ref b15), .val (.int (1 : Int32)), .val (.int (0 : Int32)), .val (.int (0 : Int32)), .val (.int (0 : Int32))]) rfl ?_
              show Steps p.tables e below (T153.setTop (mkF m 180 #[.val (.int u0), .val (.int u1), .val (.int u2), .val (.int u3), .val (.int u4), .val (.ref b2), .val (.ref b15), .val (.int (1 : Int32)), .val (.int (0 : Int32)), .val (.int (0 : Int32)), .val (.int (0 : Int32))] [])) _
              refine XS.iload X153.here hx rfl (hb hby at_180) rfl ?_
              refine XS.ifYes X153.here hx rfl (pc0 := 182) (pc' := 200) rfl (hb hby at_182) rfl ((if0 _ _).trans (teq (by decide)).1) (by decide) (by decide) ?_
              refine XS.iload X153.here hx rfl (hb hby at_200) rfl ?_
              refine XS.ifYes X153.here hx rfl (pc0 := 202) (pc' := 220) rfl (hb hby at_202) rfl ((if0 _ _).trans (teq (by decide)).1) (by decide) (by decide) ?_
              refine XS.iload X153.here hx rfl (hb hby at_220) rfl ?_
              refine XS.ifNo X153.here hx rfl (hb hby at_222) rfl ((if0 _ _).trans (feq (by decide)).1) ?_
              refine XS.aload X153.here hx rfl (hb hby at_225) rfl rfl ?_
              exact k)
          obtain ⟨cq158, kq158, q158a, q158b, q158c⟩ := isOf hZ rfl fo153_0
          obtain ⟨_, _, ⟨T158, L158, k158, n158⟩, -, X158, ⟨Lc158, hQ158, l158, y158, z158⟩, st158⟩ := X153.virtualBack hx (y := (⟨"com/example/octopoll/octopoll/PageHeap", "isEmpty", "()Z"⟩ : MethodName)) (z := (⟨"com/example/octopoll/octopoll/PageHeap", "isEmpty", "()Z"⟩ : MethodName)) hown (mvT hZ (hw _ (List.mem_of_getElem? (i := 21) rfl))) (mvT hZ (hw _ (List.mem_of_getElem? (i := 22) rfl))) (notFace_of_selects (args := #[]) (mvT hZ (hw _ (List.mem_of_getElem? (i := 24) rfl)))) (mvT hZ (hw _ (List.mem_of_getElem? (i := 24) rfl))) (mvT hZ (hw _ (List.mem_of_getElem? (i := 23) rfl))) (by decide) (backOf (W := 0) (rm_ise l Z av0 hw [] b15 (0 : Int32) T153.heap n0  fo153_4) hZ (hw _ (List.mem_of_getElem? (i := 25) rfl)) (hw _ (List.mem_of_getElem? (i := 3) rfl)) (by decide) (by decide)) q158a q158c (g := (mkF m 227 #[.val (.int u0), .val (.int u1), .val (.int u2), .val (.int u3), .val (.int u4), .val (.ref b2), .val (.ref b15), .val (.int (1 : Int32)), .val (.int (0 : Int32)), .val (.int (0 : Int32)), .val (.int (0 : Int32))] [(.ref b15)])) rfl (by rw [hml]; rfl) (Steps.refl _) (argsL := []) (rest := []) (lenOf pd_5 rfl) rfl (by show 2 * 0 + _ ≤ _; exact Nat.le_of_eq rfl) (hb hby at_227) (fun _ _ => ⟨rfl, rfl, (by decide : 4 + 0 ≤ _), (by decide : 13 + 0 ≤ _)⟩)
          dsimp only [Pt.U, Pt.locs, Pt.cells, Pt.slots] at X158 l158 y158 z158 st158 hQ158
          subst l158 y158 z158
          obtain ⟨hv158, N158q, e158⟩ := hQ158
          rw [show own_e (0 : Int32) = (1 : Int32) from rfl] at hv158
          subst hv158
          have N158 := Fr.app N153 N158q
          have pre158 : Go p.tables e below (s₁.setTop (entryFrame m #[(.int u0), (.int u1), (.int u2), (.int u3), (.int u4)] maxLocals)) T158 (mkF m 230 #[.val (.int u0), .val (.int u1), .val (.int u2), .val (.int u3), .val (.int u4), .val (.ref b2), .val (.ref b15), .val (.int (1 : Int32)), .val (.int (0 : Int32)), .val (.int (0 : Int32)), .val (.int (0 : Int32))] [(.int (1 : Int32))]) := fun t k => pre157 t (st158.trans k)
          have pre159 : Go p.tables e below (s₁.setTop (entryFrame m #[(.int u0), (.int u1), (.int u2), (.int u3), (.int u4)] maxLocals)) T158 (mkF m 262 #[.val (.int u0), .val (.int u1), .val (.int u2), .val (.int u3), .val (.int u4), .val (.ref b2), .val (.ref b15), .val (.int (1 : Int32)), .val (.int (0 : Int32)), .val (.int (0 : Int32)), .val (.int (0 : Int32))] [(.int (1 : Int32))]) := fun t k => pre158 t (by
              refine XS.iload X158.here hx rfl (hb hby at_230) rfl ?_
              refine XS.ifNo X158.here hx rfl (hb hby at_232) rfl ((if0 _ _).trans (teq (by decide)).2) ?_
              refine XS.iload X158.here hx rfl (hb hby at_235) rfl ?_
              refine XS.ifNo X158.here hx rfl (hb hby at_237) rfl ((if0 _ _).trans (teq (by decide)).2) ?_
              refine XS.iload X158.here hx rfl (hb hby at_240) rfl ?_
              refine XS.ifNo X158.here hx rfl (hb hby at_242) rfl ((if0 _ _).trans (teq (by decide)).2) ?_
              refine XS.iconst X158.here hx rfl (hb hby at_245) ?_
              refine XS.goto X158.here hx rfl (pc0 := 246) (pc' := 250) rfl (hb hby at_246) (by decide) (by decide) ?_
              show Steps p.tables e below (T158.setTop (mkF m 250 #[.val (.int u0), .val (.int u1), .val (.int u2), .val (.int u3), .val (.int u4), .val (.ref b2), .val (.ref b15), .val (.int (1 : Int32)), .val (.int (0 : Int32)), .val (.int (0 : Int32)), .val (.int (0 : Int32))] [(.int (1 : Int32)), (.int (1 : Int32))])) _
              refine XS.icmpNo X158.here hx rfl (hb hby at_250) rfl (teq (by decide)).2 ?_
              refine XS.iconst X158.here hx rfl (hb hby at_253) ?_
              refine XS.goto X158.here hx rfl (pc0 := 254) (pc' := 258) rfl (hb hby at_254) (by decide) (by decide) ?_
              show Steps p.tables e below (T158.setTop (mkF m 258 #[.val (.int u0), .val (.int u1), .val (.int u2), .val (.int u3), .val (.int u4), .val (.ref b2), .val (.ref b15), .val (.int (1 : Int32)), .val (.int (0 : Int32)), .val (.int (0 : Int32)), .val (.int (0 : Int32))] [(.int (1 : Int32))])) _
              refine XS.istore X158.here hx rfl (hb hby at_258) rfl (l' := #[.val (.int u0), .val (.int u1), .val (.int u2), .val (.int u3), .val (.int u4), .val (.ref b2), .val (.ref b15), .val (.int (1 : Int32)), .val (.int (0 : Int32)), .val (.int (0 : Int32)), .val (.int (0 : Int32))]) rfl ?_
              show Steps p.tables e below (T158.setTop (mkF m 260 #[.val (.int u0), .val (.int u1), .val (.int u2), .val (.int u3), .val (.int u4), .val (.ref b2), .val (.ref b15), .val (.int (1 : Int32)), .val (.int (0 : Int32)), .val (.int (0 : Int32)), .val (.int (0 : Int32))] [])) _
              refine XS.iload X158.here hx rfl (hb hby at_260) rfl ?_
              exact k)
          obtain ⟨fs, hr, hrun, hended, hW, hsame⟩ := X158.leave (v := some (.int (1 : Int32))) (fun h => by rw [Bd.returns] at h; cases h) (BodyLoose.notSynchronized Bd)
          refine ⟨_, _, pre159 _ ?_, hrun, hended, _, _, rfl, ?_, ⟨_, rfl⟩, hW, hsame.mono (Nat.le_of_ble_eq_true rfl) (Nat.le_of_ble_eq_true rfl)⟩
          · exact retN X158 hx (t := .boolean) Bd.returns (by simp) (hb hby at_262) hr
          · show Q_law Z u0 u1 u2 u3 u4 h0 n0 _ T158.heap _
            rw [e158]
            exact ⟨rfl, N158⟩
      · -- hc139: False
        have pre160 : Go p.tables e below (s₁.setTop (entryFrame m #[(.int u0), (.int u1), (.int u2), (.int u3), (.int u4)] maxLocals)) T37 (mkF m 95 #[.val (.int u0), .val (.int u1), .val (.int u2), .val (.int u3), .val (.int u4), .val (.ref b2), .val (.ref b15), .val (.int (1 : Int32)), .val (.int (1 : Int32)), .val (.int (0 : Int32)), .val (.int (1 : Int32))] [(.int (0 : Int32)), (.ref b15)]) := fun t k => pre138 t (by
            refine XS.ifNo X37.here hx rfl (hb hby at_77) rfl ((if0 _ _).trans (feq hc139).1) ?_
            refine XS.iconst X37.here hx rfl (hb hby at_80) ?_
            refine XS.goto X37.here hx rfl (pc0 := 81) (pc' := 85) rfl (hb hby at_81) (by decide) (by decide) ?_
            show Steps p.tables e below (T37.setTop (mkF m 85 #[.val (.int u0), .val (.int u1), .val (.int u2), .val (.int u3), .val (.int u4), .val (.ref b2), .val (.ref b15), .val (.int (1 : Int32)), .val (.int (1 : Int32)), .val (.int (0 : Int32)), .unset] [(.int (1 : Int32))])) _
            refine XS.istore X37.here hx rfl (hb hby at_85) rfl (l' := #[.val (.int u0), .val (.int u1), .val (.int u2), .val (.int u3), .val (.int u4), .val (.ref b2), .val (.ref b15), .val (.int (1 : Int32)), .val (.int (1 : Int32)), .val (.int (0 : Int32)), .val (.int (1 : Int32))]) rfl ?_
            show Steps p.tables e below (T37.setTop (mkF m 87 #[.val (.int u0), .val (.int u1), .val (.int u2), .val (.int u3), .val (.int u4), .val (.ref b2), .val (.ref b15), .val (.int (1 : Int32)), .val (.int (1 : Int32)), .val (.int (0 : Int32)), .val (.int (1 : Int32))] [])) _
            refine XS.iload X37.here hx rfl (hb hby at_87) rfl ?_
            refine XS.ifNo X37.here hx rfl (hb hby at_89) rfl ((if0 _ _).trans (feq (by decide)).1) ?_
            refine XS.aload X37.here hx rfl (hb hby at_92) rfl rfl ?_
            refine XS.iconst X37.here hx rfl (hb hby at_94) ?_
            exact k)
        obtain ⟨cq161, kq161, q161a, q161b, q161c⟩ := isOf hZ e37 fo25_0
        obtain ⟨_, _, ⟨T161, L161, k161, n161⟩, -, X161, ⟨Lc161, hQ161, l161, y161, z161⟩, st161⟩ := X37.virtualBack hx (y := (⟨"com/example/octopoll/octopoll/PageHeap", "add", "(I)V"⟩ : MethodName)) (z := (⟨"com/example/octopoll/octopoll/PageHeap", "add", "(I)V"⟩ : MethodName)) hown (mvT hZ (hw _ (List.mem_of_getElem? (i := 28) rfl))) (mvT hZ (hw _ (List.mem_of_getElem? (i := 29) rfl))) (notFace_of_selects (args := #[]) (mvT hZ (hw _ (List.mem_of_getElem? (i := 31) rfl)))) (mvT hZ (hw _ (List.mem_of_getElem? (i := 31) rfl))) (mvT hZ (hw _ (List.mem_of_getElem? (i := 30) rfl))) (by decide) (backOf (W := 0) (rm_add0 l Z av0 hw [] b15 b2 ha25 pa25 k2 kh25 kp25 (FP.i2d (u2 &&& (3 : Int32))) (FP.i2d (u3 &&& (3 : Int32))) (FP.i2d (u4 &&& (3 : Int32))) (0 : Int32) (0 : Int32) (0 : Int32) (-1 : Int32) (-1 : Int32) (-1 : Int32) false false T25.heap n0 f32 fo25_0 fo25_1 fo25_2 fo25_3 fo25_4 f33 fo25_5 fo25_6 g17 gha25 gpa25 ne27 ne30 po25_0 ne16.symm ne26 ne29 hS0) hZ (hw _ (List.mem_of_getElem? (i := 32) rfl)) (hw _ (List.mem_of_getElem? (i := 3) rfl)) (by decide) (by decide)) q161a q161c (g := (mkF m 95 #[.val (.int u0), .val (.int u1), .val (.int u2), .val (.int u3), .val (.int u4), .val (.ref b2), .val (.ref b15), .val (.int (1 : Int32)), .val (.int (1 : Int32)), .val (.int (0 : Int32)), .val (.int (1 : Int32))] [(.int (0 : Int32)), (.ref b15)])) rfl (by rw [hml]; rfl) (Steps.refl _) (argsL := [(.int (0 : Int32))]) (rest := []) (lenOf pd_2 rfl) rfl (by show 2 * 0 + _ ≤ _; exact Nat.le_of_eq rfl) (hb hby at_95) (fun _ _ => ⟨rfl, e37, (by decide : 4 + 0 ≤ _), (by decide : 13 + 0 ≤ _)⟩)
        dsimp only [Pt.U, Pt.locs, Pt.cells, Pt.slots] at X161 l161 y161 z161 st161 hQ161
        subst l161 y161 z161
        obtain ⟨z0161, z1161, z2161, z3161, z4161, z5161, hv161, N161q, K161, fo161_0, fo161_1, fo161_2, fo161_3, fo161_4, fo161_5, fo161_6, po161_0⟩ := hQ161
        have f162 := Nat.le_trans f32 K161.1
        have f163 := f33.keep K161 (ninS ne16 (ninS ne26 (ninS ne29 nin0)))
        have f164 := fo25_0.keep K161
        subst hv161
        have N161 := Fr.app N37 N161q
        have pre161 : Go p.tables e below (s₁.setTop (entryFrame m #[(.int u0), (.int u1), (.int u2), (.int u3), (.int u4)] maxLocals)) T161 (mkF m 98 #[.val (.int u0), .val (.int u1), .val (.int u2), .val (.int u3), .val (.int u4), .val (.ref b2), .val (.ref b15), .val (.int (1 : Int32)), .val (.int (1 : Int32)), .val (.int (0 : Int32)), .val (.int (1 : Int32))] []) := fun t k => pre160 t (st161.trans k)
        have pre165 : Go p.tables e below (s₁.setTop (entryFrame m #[(.int u0), (.int u1), (.int u2), (.int u3), (.int u4)] maxLocals)) T161 (mkF m 117 #[.val (.int u0), .val (.int u1), .val (.int u2), .val (.int u3), .val (.int u4), .val (.ref b2), .val (.ref b15), .val (.int (1 : Int32)), .val (.int (1 : Int32)), .val (.int (0 : Int32)), .val (.int (1 : Int32))] [(.int (2 : Int32)), (.ref b15)]) := fun t k => pre161 t (by
            refine XS.iload X161.here hx rfl (hb hby at_98) rfl ?_
            refine XS.ifYes X161.here hx rfl (pc0 := 100) (pc' := 109) rfl (hb hby at_100) rfl ((if0 _ _).trans (teq (by decide)).1) (by decide) (by decide) ?_
            refine XS.iload X161.here hx rfl (hb hby at_109) rfl ?_
            refine XS.ifNo X161.here hx rfl (hb hby at_111) rfl ((if0 _ _).trans (feq (by decide)).1) ?_
            refine XS.aload X161.here hx rfl (hb hby at_114) rfl rfl ?_
            refine XS.iconst X161.here hx rfl (hb hby at_116) ?_
            exact k)
        obtain ⟨cq166, kq166, q166a, q166b, q166c⟩ := isOf hZ rfl fo161_0
        obtain ⟨_, _, ⟨T166, L166, k166, n166⟩, -, X166, ⟨Lc166, hQ166, l166, y166, z166⟩, st166⟩ := X161.virtualBack hx (y := (⟨"com/example/octopoll/octopoll/PageHeap", "add", "(I)V"⟩ : MethodName)) (z := (⟨"com/example/octopoll/octopoll/PageHeap", "add", "(I)V"⟩ : MethodName)) hown (mvT hZ (hw _ (List.mem_of_getElem? (i := 28) rfl))) (mvT hZ (hw _ (List.mem_of_getElem? (i := 29) rfl))) (notFace_of_selects (args := #[]) (mvT hZ (hw _ (List.mem_of_getElem? (i := 31) rfl)))) (mvT hZ (hw _ (List.mem_of_getElem? (i := 31) rfl))) (mvT hZ (hw _ (List.mem_of_getElem? (i := 30) rfl))) (by decide) (backOf (W := 0) (rm_add2 l Z av0 hw [] b15 b2 ha25 pa25 k2 kh25 kp25 (FP.i2d (u2 &&& (3 : Int32))) (FP.i2d (u3 &&& (3 : Int32))) (FP.i2d (u4 &&& (3 : Int32))) z0161 z1161 z2161 z3161 z4161 z5161 true false T161.heap n0 f162 fo161_0 fo161_1 fo161_2 fo161_3 fo161_4 f163 fo161_5 fo161_6 g17 gha25 gpa25 ne27 ne30 po25_0 ne16.symm ne26 ne29 po161_0) hZ (hw _ (List.mem_of_getElem? (i := 32) rfl)) (hw _ (List.mem_of_getElem? (i := 3) rfl)) (by decide) (by decide)) q166a q166c (g := (mkF m 117 #[.val (.int u0), .val (.int u1), .val (.int u2), .val (.int u3), .val (.int u4), .val (.ref b2), .val (.ref b15), .val (.int (1 : Int32)), .val (.int (1 : Int32)), .val (.int (0 : Int32)), .val (.int (1 : Int32))] [(.int (2 : Int32)), (.ref b15)])) rfl (by rw [hml]; rfl) (Steps.refl _) (argsL := [(.int (2 : Int32))]) (rest := []) (lenOf pd_2 rfl) rfl (by show 2 * 0 + _ ≤ _; exact Nat.le_of_eq rfl) (hb hby at_117) (fun _ _ => ⟨rfl, rfl, (by decide : 4 + 0 ≤ _), (by decide : 13 + 0 ≤ _)⟩)
        dsimp only [Pt.U, Pt.locs, Pt.cells, Pt.slots] at X166 l166 y166 z166 st166 hQ166
        subst l166 y166 z166
        obtain ⟨z0166, z1166, z2166, z3166, z4166, z5166, hv166, N166q, K166, fo166_0, fo166_1, fo166_2, fo166_3, fo166_4, fo166_5, fo166_6, po166_0⟩ := hQ166
        have f167 := Nat.le_trans f162 K166.1
        have f168 := f163.keep K166 (ninS ne16 (ninS ne26 (ninS ne29 nin0)))
        have f169 := fo161_0.keep K166
        subst hv166
        have N166 := Fr.app N161 N166q
        have pre166 : Go p.tables e below (s₁.setTop (entryFrame m #[(.int u0), (.int u1), (.int u2), (.int u3), (.int u4)] maxLocals)) T166 (mkF m 120 #[.val (.int u0), .val (.int u1), .val (.int u2), .val (.int u3), .val (.int u4), .val (.ref b2), .val (.ref b15), .val (.int (1 : Int32)), .val (.int (1 : Int32)), .val (.int (0 : Int32)), .val (.int (1 : Int32))] []) := fun t k => pre165 t (st166.trans k)
        have pre170 : Go p.tables e below (s₁.setTop (entryFrame m #[(.int u0), (.int u1), (.int u2), (.int u3), (.int u4)] maxLocals)) T166 (mkF m 127 #[.val (.int u0), .val (.int u1), .val (.int u2), .val (.int u3), .val (.int u4), .val (.ref b2), .val (.ref b15), .val (.int (1 : Int32)), .val (.int (1 : Int32)), .val (.int (0 : Int32)), .val (.int (1 : Int32))] [(.ref b15)]) := fun t k => pre166 t (by
            refine XS.iload X166.here hx rfl (hb hby at_120) rfl ?_
            refine XS.ifNo X166.here hx rfl (hb hby at_122) rfl ((if0 _ _).trans (feq (by decide)).1) ?_
            refine XS.aload X166.here hx rfl (hb hby at_125) rfl rfl ?_
            exact k)
        obtain ⟨cq171, kq171, q171a, q171b, q171c⟩ := isOf hZ rfl fo166_0
        obtain ⟨_, _, ⟨T171, L171, k171, n171⟩, -, X171, ⟨Lc171, hQ171, l171, y171, z171⟩, st171⟩ := X166.virtualBack hx (y := (⟨"com/example/octopoll/octopoll/PageHeap", "isEmpty", "()Z"⟩ : MethodName)) (z := (⟨"com/example/octopoll/octopoll/PageHeap", "isEmpty", "()Z"⟩ : MethodName)) hown (mvT hZ (hw _ (List.mem_of_getElem? (i := 21) rfl))) (mvT hZ (hw _ (List.mem_of_getElem? (i := 22) rfl))) (notFace_of_selects (args := #[]) (mvT hZ (hw _ (List.mem_of_getElem? (i := 24) rfl)))) (mvT hZ (hw _ (List.mem_of_getElem? (i := 24) rfl))) (mvT hZ (hw _ (List.mem_of_getElem? (i := 23) rfl))) (by decide) (backOf (W := 0) (rm_ise l Z av0 hw [] b15 (2 : Int32) T166.heap n0  fo166_4) hZ (hw _ (List.mem_of_getElem? (i := 25) rfl)) (hw _ (List.mem_of_getElem? (i := 3) rfl)) (by decide) (by decide)) q171a q171c (g := (mkF m 127 #[.val (.int u0), .val (.int u1), .val (.int u2), .val (.int u3), .val (.int u4), .val (.ref b2), .val (.ref b15), .val (.int (1 : Int32)), .val (.int (1 : Int32)), .val (.int (0 : Int32)), .val (.int (1 : Int32))] [(.ref b15)])) rfl (by rw [hml]; rfl) (Steps.refl _) (argsL := []) (rest := []) (lenOf pd_5 rfl) rfl (by show 2 * 0 + _ ≤ _; exact Nat.le_of_eq rfl) (hb hby at_127) (fun _ _ => ⟨rfl, rfl, (by decide : 4 + 0 ≤ _), (by decide : 13 + 0 ≤ _)⟩)
        dsimp only [Pt.U, Pt.locs, Pt.cells, Pt.slots] at X171 l171 y171 z171 st171 hQ171
        subst l171 y171 z171
        obtain ⟨hv171, N171q, e171⟩ := hQ171
        rw [show own_e (2 : Int32) = (0 : Int32) from rfl] at hv171
        subst hv171
        have N171 := Fr.app N166 N171q
        have pre171 : Go p.tables e below (s₁.setTop (entryFrame m #[(.int u0), (.int u1), (.int u2), (.int u3), (.int u4)] maxLocals)) T171 (mkF m 130 #[.val (.int u0), .val (.int u1), .val (.int u2), .val (.int u3), .val (.int u4), .val (.ref b2), .val (.ref b15), .val (.int (1 : Int32)), .val (.int (1 : Int32)), .val (.int (0 : Int32)), .val (.int (1 : Int32))] [(.int (0 : Int32))]) := fun t k => pre170 t (st171.trans k)
        have pre172 : Go p.tables e below (s₁.setTop (entryFrame m #[(.int u0), (.int u1), (.int u2), (.int u3), (.int u4)] maxLocals)) T171 (mkF m 168 #[.val (.int u0), .val (.int u1), .val (.int u2), .val (.int u3), .val (.int u4), .val (.ref b2), .val (.ref b15), .val (.int (1 : Int32)), .val (.int (1 : Int32)), .val (.int (0 : Int32)), .val (.int (1 : Int32))] [(.int (u1 &&& (1 : Int32)))]) := fun t k => pre171 t (by
            refine XS.iload X171.here hx rfl (hb hby at_130) rfl ?_
            refine XS.ifYes X171.here hx rfl (pc0 := 132) (pc' := 149) rfl (hb hby at_132) rfl ((if0 _ _).trans (feq (by decide)).2) (by decide) (by decide) ?_
            refine XS.iconst X171.here hx rfl (hb hby at_149) ?_
            refine XS.icmpNo X171.here hx rfl (hb hby at_150) rfl (teq (by decide)).2 ?_
            refine XS.iconst X171.here hx rfl (hb hby at_153) ?_
            refine XS.goto X171.here hx rfl (pc0 := 154) (pc' := 158) rfl (hb hby at_154) (by decide) (by decide) ?_
            show Steps p.tables e below (T171.setTop (mkF m 158 #[.val (.int u0), .val (.int u1), .val (.int u2), .val (.int u3), .val (.int u4), .val (.ref b2), .val (.ref b15), .val (.int (1 : Int32)), .val (.int (1 : Int32)), .val (.int (0 : Int32)), .val (.int (1 : Int32))] [(.int (1 : Int32))])) _
            refine XS.istore X171.here hx rfl (hb hby at_158) rfl (l' := #[.val (.int u0), .val (.int u1), .val (.int u2), .val (.int u3), .val (.int u4), .val (.ref b2), .val (.ref b15), .val (.int (1 : Int32)), .val (.int (1 : Int32)), .val (.int (0 : Int32)), .val (.int (1 : Int32))]) rfl ?_
            show Steps p.tables e below (T171.setTop (mkF m 160 #[.val (.int u0), .val (.int u1), .val (.int u2), .val (.int u3), .val (.int u4), .val (.ref b2), .val (.ref b15), .val (.int (1 : Int32)), .val (.int (1 : Int32)), .val (.int (0 : Int32)), .val (.int (1 : Int32))] [])) _
            refine XS.iload X171.here hx rfl (hb hby at_160) rfl ?_
            refine XS.ifNo X171.here hx rfl (hb hby at_162) rfl ((if0 _ _).trans (feq (by decide)).1) ?_
            refine XS.iloadN X171.here hx rfl (hb hby at_165) rfl ?_
            refine XS.iconst X171.here hx rfl (hb hby at_166) ?_
            refine XS.iand X171.here hx rfl (hb hby at_167) rfl ?_
            exact k)
        by_cases hc173 : (u1 &&& (1 : Int32)) = (0 : Int32)
        · -- hc173: True
          have pre174 : Go p.tables e below (s₁.setTop (entryFrame m #[(.int u0), (.int u1), (.int u2), (.int u3), (.int u4)] maxLocals)) T171 (mkF m 208 #[.val (.int u0), .val (.int u1), .val (.int u2), .val (.int u3), .val (.int u4), .val (.ref b2), .val (.ref b15), .val (.int (1 : Int32)), .val (.int (1 : Int32)), .val (.int (0 : Int32)), .val (.int (1 : Int32))] [(.int (u1 &&& (4 : Int32)))]) := fun t k => pre172 t (by
              refine XS.ifYes X171.here hx rfl (pc0 := 168) (pc' := 180) rfl (hb hby at_168) rfl ((if0 _ _).trans (teq hc173).1) (by decide) (by decide) ?_
              refine XS.iload X171.here hx rfl (hb hby at_180) rfl ?_
              refine XS.ifYes X171.here hx rfl (pc0 := 182) (pc' := 200) rfl (hb hby at_182) rfl ((if0 _ _).trans (teq (by decide)).1) (by decide) (by decide) ?_
              refine XS.iload X171.here hx rfl (hb hby at_200) rfl ?_
              refine XS.ifNo X171.here hx rfl (hb hby at_202) rfl ((if0 _ _).trans (feq (by decide)).1) ?_
              refine XS.iloadN X171.here hx rfl (hb hby at_205) rfl ?_
              refine XS.iconst X171.here hx rfl (hb hby at_206) ?_
              refine XS.iand X171.here hx rfl (hb hby at_207) rfl ?_
              exact k)
          by_cases hc175 : (u1 &&& (4 : Int32)) = (0 : Int32)
          · -- hc175: True
            have pre176 : Go p.tables e below (s₁.setTop (entryFrame m #[(.int u0), (.int u1), (.int u2), (.int u3), (.int u4)] maxLocals)) T171 (mkF m 227 #[.val (.int u0), .val (.int u1), .val (.int u2), .val (.int u3), .val (.int u4), .val (.ref b2), .val (.ref b15), .val (.int (1 : Int32)), .val (.int (1 : Int32)), .val (.int (0 : Int32)), .val (.int (1 : Int32))] [(.ref b15)]) := fun t k => pre174 t (by
                refine XS.ifYes X171.here hx rfl (pc0 := 208) (pc' := 220) rfl (hb hby at_208) rfl ((if0 _ _).trans (teq hc175).1) (by decide) (by decide) ?_
                refine XS.iload X171.here hx rfl (hb hby at_220) rfl ?_
                refine XS.ifNo X171.here hx rfl (hb hby at_222) rfl ((if0 _ _).trans (feq (by decide)).1) ?_
                refine XS.aload X171.here hx rfl (hb hby at_225) rfl rfl ?_
                exact k)
            obtain ⟨cq177, kq177, q177a, q177b, q177c⟩ := isOf hZ e171 fo166_0
            obtain ⟨_, _, ⟨T177, L177, k177, n177⟩, -, X177, ⟨Lc177, hQ177, l177, y177, z177⟩, st177⟩ := X171.virtualBack hx (y := (⟨"com/example/octopoll/octopoll/PageHeap", "isEmpty", "()Z"⟩ : MethodName)) (z := (⟨"com/example/octopoll/octopoll/PageHeap", "isEmpty", "()Z"⟩ : MethodName)) hown (mvT hZ (hw _ (List.mem_of_getElem? (i := 21) rfl))) (mvT hZ (hw _ (List.mem_of_getElem? (i := 22) rfl))) (notFace_of_selects (args := #[]) (mvT hZ (hw _ (List.mem_of_getElem? (i := 24) rfl)))) (mvT hZ (hw _ (List.mem_of_getElem? (i := 24) rfl))) (mvT hZ (hw _ (List.mem_of_getElem? (i := 23) rfl))) (by decide) (backOf (W := 0) (rm_ise l Z av0 hw [] b15 (2 : Int32) T166.heap n0  fo166_4) hZ (hw _ (List.mem_of_getElem? (i := 25) rfl)) (hw _ (List.mem_of_getElem? (i := 3) rfl)) (by decide) (by decide)) q177a q177c (g := (mkF m 227 #[.val (.int u0), .val (.int u1), .val (.int u2), .val (.int u3), .val (.int u4), .val (.ref b2), .val (.ref b15), .val (.int (1 : Int32)), .val (.int (1 : Int32)), .val (.int (0 : Int32)), .val (.int (1 : Int32))] [(.ref b15)])) rfl (by rw [hml]; rfl) (Steps.refl _) (argsL := []) (rest := []) (lenOf pd_5 rfl) rfl (by show 2 * 0 + _ ≤ _; exact Nat.le_of_eq rfl) (hb hby at_227) (fun _ _ => ⟨rfl, e171, (by decide : 4 + 0 ≤ _), (by decide : 13 + 0 ≤ _)⟩)
            dsimp only [Pt.U, Pt.locs, Pt.cells, Pt.slots] at X177 l177 y177 z177 st177 hQ177
            subst l177 y177 z177
            obtain ⟨hv177, N177q, e177⟩ := hQ177
            rw [show own_e (2 : Int32) = (0 : Int32) from rfl] at hv177
            subst hv177
            have N177 := Fr.app N171 N177q
            have pre177 : Go p.tables e below (s₁.setTop (entryFrame m #[(.int u0), (.int u1), (.int u2), (.int u3), (.int u4)] maxLocals)) T177 (mkF m 230 #[.val (.int u0), .val (.int u1), .val (.int u2), .val (.int u3), .val (.int u4), .val (.ref b2), .val (.ref b15), .val (.int (1 : Int32)), .val (.int (1 : Int32)), .val (.int (0 : Int32)), .val (.int (1 : Int32))] [(.int (0 : Int32))]) := fun t k => pre176 t (st177.trans k)
            have pre178 : Go p.tables e below (s₁.setTop (entryFrame m #[(.int u0), (.int u1), (.int u2), (.int u3), (.int u4)] maxLocals)) T177 (mkF m 262 #[.val (.int u0), .val (.int u1), .val (.int u2), .val (.int u3), .val (.int u4), .val (.ref b2), .val (.ref b15), .val (.int (1 : Int32)), .val (.int (1 : Int32)), .val (.int (0 : Int32)), .val (.int (1 : Int32))] [(.int (1 : Int32))]) := fun t k => pre177 t (by
                refine XS.iload X177.here hx rfl (hb hby at_230) rfl ?_
                refine XS.ifYes X177.here hx rfl (pc0 := 232) (pc' := 249) rfl (hb hby at_232) rfl ((if0 _ _).trans (feq (by decide)).2) (by decide) (by decide) ?_
                refine XS.iconst X177.here hx rfl (hb hby at_249) ?_
                refine XS.icmpNo X177.here hx rfl (hb hby at_250) rfl (teq (by decide)).2 ?_
                refine XS.iconst X177.here hx rfl (hb hby at_253) ?_
                refine XS.goto X177.here hx rfl (pc0 := 254) (pc' := 258) rfl (hb hby at_254) (by decide) (by decide) ?_
                show Steps p.tables e below (T177.setTop (mkF m 258 #[.val (.int u0), .val (.int u1), .val (.int u2), .val (.int u3), .val (.int u4), .val (.ref b2), .val (.ref b15), .val (.int (1 : Int32)), .val (.int (1 : Int32)), .val (.int (0 : Int32)), .val (.int (1 : Int32))] [(.int (1 : Int32))])) _
                refine XS.istore X177.here hx rfl (hb hby at_258) rfl (l' := #[.val (.int u0), .val (.int u1), .val (.int u2), .val (.int u3), .val (.int u4), .val (.ref b2), .val (.ref b15), .val (.int (1 : Int32)), .val (.int (1 : Int32)), .val (.int (0 : Int32)), .val (.int (1 : Int32))]) rfl ?_
                show Steps p.tables e below (T177.setTop (mkF m 260 #[.val (.int u0), .val (.int u1), .val (.int u2), .val (.int u3), .val (.int u4), .val (.ref b2), .val (.ref b15), .val (.int (1 : Int32)), .val (.int (1 : Int32)), .val (.int (0 : Int32)), .val (.int (1 : Int32))] [])) _
                refine XS.iload X177.here hx rfl (hb hby at_260) rfl ?_
                exact k)
            obtain ⟨fs, hr, hrun, hended, hW, hsame⟩ := X177.leave (v := some (.int (1 : Int32))) (fun h => by rw [Bd.returns] at h; cases h) (BodyLoose.notSynchronized Bd)
            refine ⟨_, _, pre178 _ ?_, hrun, hended, _, _, rfl, ?_, ⟨_, rfl⟩, hW, hsame.mono (Nat.le_of_ble_eq_true rfl) (Nat.le_of_ble_eq_true rfl)⟩
            · exact retN X177 hx (t := .boolean) Bd.returns (by simp) (hb hby at_262) hr
            · show Q_law Z u0 u1 u2 u3 u4 h0 n0 _ T177.heap _
              rw [e177]
              exact ⟨rfl, N177⟩
          · -- hc175: False
            have pre179 : Go p.tables e below (s₁.setTop (entryFrame m #[(.int u0), (.int u1), (.int u2), (.int u3), (.int u4)] maxLocals)) T171 (mkF m 214 #[.val (.int u0), .val (.int u1), .val (.int u2), .val (.int u3), .val (.int u4), .val (.ref b2), .val (.ref b15), .val (.int (1 : Int32)), .val (.int (1 : Int32)), .val (.int (0 : Int32)), .val (.int (1 : Int32))] [(.int (2 : Int32)), (.ref b15)]) := fun t k => pre174 t (by
                refine XS.ifNo X171.here hx rfl (hb hby at_208) rfl ((if0 _ _).trans (feq hc175).1) ?_
                refine XS.aload X171.here hx rfl (hb hby at_211) rfl rfl ?_
                refine XS.iconst X171.here hx rfl (hb hby at_213) ?_
                exact k)
            obtain ⟨cq180, kq180, q180a, q180b, q180c⟩ := isOf hZ e171 fo166_0
            obtain ⟨_, _, ⟨T180, L180, k180, n180⟩, -, X180, ⟨Lc180, hQ180, l180, y180, z180⟩, st180⟩ := X171.virtualBack hx (y := (⟨"com/example/octopoll/octopoll/PageHeap", "remove", "(I)V"⟩ : MethodName)) (z := (⟨"com/example/octopoll/octopoll/PageHeap", "remove", "(I)V"⟩ : MethodName)) hown (mvT hZ (hw _ (List.mem_of_getElem? (i := 45) rfl))) (mvT hZ (hw _ (List.mem_of_getElem? (i := 46) rfl))) (notFace_of_selects (args := #[]) (mvT hZ (hw _ (List.mem_of_getElem? (i := 48) rfl)))) (mvT hZ (hw _ (List.mem_of_getElem? (i := 48) rfl))) (mvT hZ (hw _ (List.mem_of_getElem? (i := 47) rfl))) (by decide) (backOf (W := 0) (rm_rem2 l Z av0 hw [] b15 b2 ha25 pa25 k2 kh25 kp25 (FP.i2d (u2 &&& (3 : Int32))) (FP.i2d (u3 &&& (3 : Int32))) (FP.i2d (u4 &&& (3 : Int32))) z0166 z1166 z2166 z3166 z4166 z5166 true false T166.heap n0 f167 fo166_0 fo166_1 fo166_2 fo166_3 fo166_4 f168 fo166_5 fo166_6 g17 gha25 gpa25 ne27 ne30 po25_0 ne16.symm ne26 ne29 po166_0) hZ (hw _ (List.mem_of_getElem? (i := 49) rfl)) (hw _ (List.mem_of_getElem? (i := 3) rfl)) (by decide) (by decide)) q180a q180c (g := (mkF m 214 #[.val (.int u0), .val (.int u1), .val (.int u2), .val (.int u3), .val (.int u4), .val (.ref b2), .val (.ref b15), .val (.int (1 : Int32)), .val (.int (1 : Int32)), .val (.int (0 : Int32)), .val (.int (1 : Int32))] [(.int (2 : Int32)), (.ref b15)])) rfl (by rw [hml]; rfl) (Steps.refl _) (argsL := [(.int (2 : Int32))]) (rest := []) (lenOf pd_2 rfl) rfl (by show 2 * 0 + _ ≤ _; exact Nat.le_of_eq rfl) (hb hby at_214) (fun _ _ => ⟨rfl, e171, (by decide : 4 + 0 ≤ _), (by decide : 13 + 0 ≤ _)⟩)
            dsimp only [Pt.U, Pt.locs, Pt.cells, Pt.slots] at X180 l180 y180 z180 st180 hQ180
            subst l180 y180 z180
            obtain ⟨z0180, z1180, z2180, z3180, z4180, z5180, hv180, N180q, K180, fo180_0, fo180_1, fo180_2, fo180_3, fo180_4, fo180_5, fo180_6, po180_0⟩ := hQ180
            have f181 := Nat.le_trans f167 K180.1
            have f182 := f168.keep K180 (ninS ne16 (ninS ne26 (ninS ne29 nin0)))
            have f183 := fo166_0.keep K180
            subst hv180
            have N180 := Fr.app N171 N180q
            have pre180 : Go p.tables e below (s₁.setTop (entryFrame m #[(.int u0), (.int u1), (.int u2), (.int u3), (.int u4)] maxLocals)) T180 (mkF m 217 #[.val (.int u0), .val (.int u1), .val (.int u2), .val (.int u3), .val (.int u4), .val (.ref b2), .val (.ref b15), .val (.int (1 : Int32)), .val (.int (1 : Int32)), .val (.int (0 : Int32)), .val (.int (1 : Int32))] []) := fun t k => pre179 t (st180.trans k)
            have pre184 : Go p.tables e below (s₁.setTop (entryFrame m #[(.int u0), (.int u1), (.int u2), (.int u3), (.int u4)] maxLocals)) T180 (mkF m 227 #[.val (.int u0), .val (.int u1), .val (.int u2), .val (.int u3), .val (.int u4), .val (.ref b2), .val (.ref b15), .val (.int (1 : Int32)), .val (.int (1 : Int32)), .val (.int (0 : Int32)), .val (.int (0 : Int32))] [(.ref b15)]) := fun t k => pre180 t (by
                refine XS.iconst X180.here hx rfl (hb hby at_217) ?_
                refine XS.istore X180.here hx rfl (hb hby at_218) rfl (l' := #[.val (.int u0), .val (.int u1), .val (.int u2), .val (.int u3), .val (.int u4), .val (.ref b2), .val (.ref b15), .val (.int (1 : Int32)), .val (.int (1 : Int32)), .val (.int (0 : Int32)), .val (.int (0 : Int32))]) rfl ?_
                show Steps p.tables e below (T180.setTop (mkF m 220 #[.val (.int u0), .val (.int u1), .val (.int u2), .val (.int u3), .val (.int u4), .val (.ref b2), .val (.ref b15), .val (.int (1 : Int32)), .val (.int (1 : Int32)), .val (.int (0 : Int32)), .val (.int (0 : Int32))] [])) _
                refine XS.iload X180.here hx rfl (hb hby at_220) rfl ?_
                refine XS.ifNo X180.here hx rfl (hb hby at_222) rfl ((if0 _ _).trans (feq (by decide)).1) ?_
                refine XS.aload X180.here hx rfl (hb hby at_225) rfl rfl ?_
                exact k)
            obtain ⟨cq185, kq185, q185a, q185b, q185c⟩ := isOf hZ rfl fo180_0
            obtain ⟨_, _, ⟨T185, L185, k185, n185⟩, -, X185, ⟨Lc185, hQ185, l185, y185, z185⟩, st185⟩ := X180.virtualBack hx (y := (⟨"com/example/octopoll/octopoll/PageHeap", "isEmpty", "()Z"⟩ : MethodName)) (z := (⟨"com/example/octopoll/octopoll/PageHeap", "isEmpty", "()Z"⟩ : MethodName)) hown (mvT hZ (hw _ (List.mem_of_getElem? (i := 21) rfl))) (mvT hZ (hw _ (List.mem_of_getElem? (i := 22) rfl))) (notFace_of_selects (args := #[]) (mvT hZ (hw _ (List.mem_of_getElem? (i := 24) rfl)))) (mvT hZ (hw _ (List.mem_of_getElem? (i := 24) rfl))) (mvT hZ (hw _ (List.mem_of_getElem? (i := 23) rfl))) (by decide) (backOf (W := 0) (rm_ise l Z av0 hw [] b15 (1 : Int32) T180.heap n0  fo180_4) hZ (hw _ (List.mem_of_getElem? (i := 25) rfl)) (hw _ (List.mem_of_getElem? (i := 3) rfl)) (by decide) (by decide)) q185a q185c (g := (mkF m 227 #[.val (.int u0), .val (.int u1), .val (.int u2), .val (.int u3), .val (.int u4), .val (.ref b2), .val (.ref b15), .val (.int (1 : Int32)), .val (.int (1 : Int32)), .val (.int (0 : Int32)), .val (.int (0 : Int32))] [(.ref b15)])) rfl (by rw [hml]; rfl) (Steps.refl _) (argsL := []) (rest := []) (lenOf pd_5 rfl) rfl (by show 2 * 0 + _ ≤ _; exact Nat.le_of_eq rfl) (hb hby at_227) (fun _ _ => ⟨rfl, rfl, (by decide : 4 + 0 ≤ _), (by decide : 13 + 0 ≤ _)⟩)
            dsimp only [Pt.U, Pt.locs, Pt.cells, Pt.slots] at X185 l185 y185 z185 st185 hQ185
            subst l185 y185 z185
            obtain ⟨hv185, N185q, e185⟩ := hQ185
            rw [show own_e (1 : Int32) = (0 : Int32) from rfl] at hv185
            subst hv185
            have N185 := Fr.app N180 N185q
            have pre185 : Go p.tables e below (s₁.setTop (entryFrame m #[(.int u0), (.int u1), (.int u2), (.int u3), (.int u4)] maxLocals)) T185 (mkF m 230 #[.val (.int u0), .val (.int u1), .val (.int u2), .val (.int u3), .val (.int u4), .val (.ref b2), .val (.ref b15), .val (.int (1 : Int32)), .val (.int (1 : Int32)), .val (.int (0 : Int32)), .val (.int (0 : Int32))] [(.int (0 : Int32))]) := fun t k => pre184 t (st185.trans k)
            have pre186 : Go p.tables e below (s₁.setTop (entryFrame m #[(.int u0), (.int u1), (.int u2), (.int u3), (.int u4)] maxLocals)) T185 (mkF m 262 #[.val (.int u0), .val (.int u1), .val (.int u2), .val (.int u3), .val (.int u4), .val (.ref b2), .val (.ref b15), .val (.int (1 : Int32)), .val (.int (1 : Int32)), .val (.int (0 : Int32)), .val (.int (0 : Int32))] [(.int (1 : Int32))]) := fun t k => pre185 t (by
                refine XS.iload X185.here hx rfl (hb hby at_230) rfl ?_
                refine XS.ifYes X185.here hx rfl (pc0 := 232) (pc' := 249) rfl (hb hby at_232) rfl ((if0 _ _).trans (feq (by decide)).2) (by decide) (by decide) ?_
                refine XS.iconst X185.here hx rfl (hb hby at_249) ?_
                refine XS.icmpNo X185.here hx rfl (hb hby at_250) rfl (teq (by decide)).2 ?_
                refine XS.iconst X185.here hx rfl (hb hby at_253) ?_
                refine XS.goto X185.here hx rfl (pc0 := 254) (pc' := 258) rfl (hb hby at_254) (by decide) (by decide) ?_
                show Steps p.tables e below (T185.setTop (mkF m 258 #[.val (.int u0), .val (.int u1), .val (.int u2), .val (.int u3), .val (.int u4), .val (.ref b2), .val (.ref b15), .val (.int (1 : Int32)), .val (.int (1 : Int32)), .val (.int (0 : Int32)), .val (.int (0 : Int32))] [(.int (1 : Int32))])) _
                refine XS.istore X185.here hx rfl (hb hby at_258) rfl (l' := #[.val (.int u0), .val (.int u1), .val (.int u2), .val (.int u3), .val (.int u4), .val (.ref b2), .val (.ref b15), .val (.int (1 : Int32)), .val (.int (1 : Int32)), .val (.int (0 : Int32)), .val (.int (0 : Int32))]) rfl ?_
                show Steps p.tables e below (T185.setTop (mkF m 260 #[.val (.int u0), .val (.int u1), .val (.int u2), .val (.int u3), .val (.int u4), .val (.ref b2), .val (.ref b15), .val (.int (1 : Int32)), .val (.int (1 : Int32)), .val (.int (0 : Int32)), .val (.int (0 : Int32))] [])) _
                refine XS.iload X185.here hx rfl (hb hby at_260) rfl ?_
                exact k)
            obtain ⟨fs, hr, hrun, hended, hW, hsame⟩ := X185.leave (v := some (.int (1 : Int32))) (fun h => by rw [Bd.returns] at h; cases h) (BodyLoose.notSynchronized Bd)
            refine ⟨_, _, pre186 _ ?_, hrun, hended, _, _, rfl, ?_, ⟨_, rfl⟩, hW, hsame.mono (Nat.le_of_ble_eq_true rfl) (Nat.le_of_ble_eq_true rfl)⟩
            · exact retN X185 hx (t := .boolean) Bd.returns (by simp) (hb hby at_262) hr
            · show Q_law Z u0 u1 u2 u3 u4 h0 n0 _ T185.heap _
              rw [e185]
              exact ⟨rfl, N185⟩
        · -- hc173: False
          have pre187 : Go p.tables e below (s₁.setTop (entryFrame m #[(.int u0), (.int u1), (.int u2), (.int u3), (.int u4)] maxLocals)) T171 (mkF m 174 #[.val (.int u0), .val (.int u1), .val (.int u2), .val (.int u3), .val (.int u4), .val (.ref b2), .val (.ref b15), .val (.int (1 : Int32)), .val (.int (1 : Int32)), .val (.int (0 : Int32)), .val (.int (1 : Int32))] [(.int (0 : Int32)), (.ref b15)]) := fun t k => pre172 t (by
              refine XS.ifNo X171.here hx rfl (hb hby at_168) rfl ((if0 _ _).trans (feq hc173).1) ?_
              refine XS.aload X171.here hx rfl (hb hby at_171) rfl rfl ?_
              refine XS.iconst X171.here hx rfl (hb hby at_173) ?_
              exact k)
          obtain ⟨cq188, kq188, q188a, q188b, q188c⟩ := isOf hZ e171 fo166_0
          obtain ⟨_, _, ⟨T188, L188, k188, n188⟩, -, X188, ⟨Lc188, hQ188, l188, y188, z188⟩, st188⟩ := X171.virtualBack hx (y := (⟨"com/example/octopoll/octopoll/PageHeap", "remove", "(I)V"⟩ : MethodName)) (z := (⟨"com/example/octopoll/octopoll/PageHeap", "remove", "(I)V"⟩ : MethodName)) hown (mvT hZ (hw _ (List.mem_of_getElem? (i := 45) rfl))) (mvT hZ (hw _ (List.mem_of_getElem? (i := 46) rfl))) (notFace_of_selects (args := #[]) (mvT hZ (hw _ (List.mem_of_getElem? (i := 48) rfl)))) (mvT hZ (hw _ (List.mem_of_getElem? (i := 48) rfl))) (mvT hZ (hw _ (List.mem_of_getElem? (i := 47) rfl))) (by decide) (backOf (W := 0) (rm_rem0 l Z av0 hw [] b15 b2 ha25 pa25 k2 kh25 kp25 (FP.i2d (u2 &&& (3 : Int32))) (FP.i2d (u3 &&& (3 : Int32))) (FP.i2d (u4 &&& (3 : Int32))) z0166 z1166 z2166 z3166 z4166 z5166 false true T166.heap n0 f167 fo166_0 fo166_1 fo166_2 fo166_3 fo166_4 f168 fo166_5 fo166_6 g17 gha25 gpa25 ne27 ne30 po25_0 ne16.symm ne26 ne29 po166_0) hZ (hw _ (List.mem_of_getElem? (i := 49) rfl)) (hw _ (List.mem_of_getElem? (i := 3) rfl)) (by decide) (by decide)) q188a q188c (g := (mkF m 174 #[.val (.int u0), .val (.int u1), .val (.int u2), .val (.int u3), .val (.int u4), .val (.ref b2), .val (.ref b15), .val (.int (1 : Int32)), .val (.int (1 : Int32)), .val (.int (0 : Int32)), .val (.int (1 : Int32))] [(.int (0 : Int32)), (.ref b15)])) rfl (by rw [hml]; rfl) (Steps.refl _) (argsL := [(.int (0 : Int32))]) (rest := []) (lenOf pd_2 rfl) rfl (by show 2 * 0 + _ ≤ _; exact Nat.le_of_eq rfl) (hb hby at_174) (fun _ _ => ⟨rfl, e171, (by decide : 4 + 0 ≤ _), (by decide : 13 + 0 ≤ _)⟩)
          dsimp only [Pt.U, Pt.locs, Pt.cells, Pt.slots] at X188 l188 y188 z188 st188 hQ188
          subst l188 y188 z188
          obtain ⟨z0188, z1188, z2188, z3188, z4188, z5188, hv188, N188q, K188, fo188_0, fo188_1, fo188_2, fo188_3, fo188_4, fo188_5, fo188_6, po188_0⟩ := hQ188
          have f189 := Nat.le_trans f167 K188.1
          have f190 := f168.keep K188 (ninS ne16 (ninS ne26 (ninS ne29 nin0)))
          have f191 := fo166_0.keep K188
          subst hv188
          have N188 := Fr.app N171 N188q
          have pre188 : Go p.tables e below (s₁.setTop (entryFrame m #[(.int u0), (.int u1), (.int u2), (.int u3), (.int u4)] maxLocals)) T188 (mkF m 177 #[.val (.int u0), .val (.int u1), .val (.int u2), .val (.int u3), .val (.int u4), .val (.ref b2), .val (.ref b15), .val (.int (1 : Int32)), .val (.int (1 : Int32)), .val (.int (0 : Int32)), .val (.int (1 : Int32))] []) := fun t k => pre187 t (st188.trans k)
          have pre192 : Go p.tables e below (s₁.setTop (entryFrame m #[(.int u0), (.int u1), (.int u2), (.int u3), (.int u4)] maxLocals)) T188 (mkF m 208 #[.val (.int u0), .val (.int u1), .val (.int u2), .val (.int u3), .val (.int u4), .val (.ref b2), .val (.ref b15), .val (.int (1 : Int32)), .val (.int (0 : Int32)), .val (.int (0 : Int32)), .val (.int (1 : Int32))] [(.int (u1 &&& (4 : Int32)))]) := fun t k => pre188 t (by
              refine XS.iconst X188.here hx rfl (hb hby at_177) ?_
              refine XS.istore X188.here hx rfl (hb hby at_178) rfl (l' := #[.val (.int u0), .val (.int u1), .val (.int u2), .val (.int u3), .val (.int u4), .val (.ref b2), .val (.ref b15), .val (.int (1 : Int32)), .val (.int (0 : Int32)), .val (.int (0 : Int32)), .val (.int (1 : Int32))]) rfl ?_
              show Steps p.tables e below (T188.setTop (mkF m 180 #[.val (.int u0), .val (.int u1), .val (.int u2), .val (.int u3), .val (.int u4), .val (.ref b2), .val (.ref b15), .val (.int (1 : Int32)), .val (.int (0 : Int32)), .val (.int (0 : Int32)), .val (.int (1 : Int32))] [])) _
              refine XS.iload X188.here hx rfl (hb hby at_180) rfl ?_
              refine XS.ifYes X188.here hx rfl (pc0 := 182) (pc' := 200) rfl (hb hby at_182) rfl ((if0 _ _).trans (teq (by decide)).1) (by decide) (by decide) ?_
              refine XS.iload X188.here hx rfl (hb hby at_200) rfl ?_
              refine XS.ifNo X188.here hx rfl (hb hby at_202) rfl ((if0 _ _).trans (feq (by decide)).1) ?_
              refine XS.iloadN X188.here hx rfl (hb hby at_205) rfl ?_
              refine XS.iconst X188.here hx rfl (hb hby at_206) ?_
              refine XS.iand X188.here hx rfl (hb hby at_207) rfl ?_
              exact k)
          by_cases hc193 : (u1 &&& (4 : Int32)) = (0 : Int32)
          · -- hc193: True
            have pre194 : Go p.tables e below (s₁.setTop (entryFrame m #[(.int u0), (.int u1), (.int u2), (.int u3), (.int u4)] maxLocals)) T188 (mkF m 227 #[.val (.int u0), .val (.int u1), .val (.int u2), .val (.int u3), .val (.int u4), .val (.ref b2), .val (.ref b15), .val (.int (1 : Int32)), .val (.int (0 : Int32)), .val (.int (0 : Int32)), .val (.int (1 : Int32))] [(.ref b15)]) := fun t k => pre192 t (by
                refine XS.ifYes X188.here hx rfl (pc0 := 208) (pc' := 220) rfl (hb hby at_208) rfl ((if0 _ _).trans (teq hc193).1) (by decide) (by decide) ?_
                refine XS.iload X188.here hx rfl (hb hby at_220) rfl ?_
                refine XS.ifNo X188.here hx rfl (hb hby at_222) rfl ((if0 _ _).trans (feq (by decide)).1) ?_
                refine XS.aload X188.here hx rfl (hb hby at_225) rfl rfl ?_
                exact k)
            obtain ⟨cq195, kq195, q195a, q195b, q195c⟩ := isOf hZ rfl fo188_0
            obtain ⟨_, _, ⟨T195, L195, k195, n195⟩, -, X195, ⟨Lc195, hQ195, l195, y195, z195⟩, st195⟩ := X188.virtualBack hx (y := (⟨"com/example/octopoll/octopoll/PageHeap", "isEmpty", "()Z"⟩ : MethodName)) (z := (⟨"com/example/octopoll/octopoll/PageHeap", "isEmpty", "()Z"⟩ : MethodName)) hown (mvT hZ (hw _ (List.mem_of_getElem? (i := 21) rfl))) (mvT hZ (hw _ (List.mem_of_getElem? (i := 22) rfl))) (notFace_of_selects (args := #[]) (mvT hZ (hw _ (List.mem_of_getElem? (i := 24) rfl)))) (mvT hZ (hw _ (List.mem_of_getElem? (i := 24) rfl))) (mvT hZ (hw _ (List.mem_of_getElem? (i := 23) rfl))) (by decide) (backOf (W := 0) (rm_ise l Z av0 hw [] b15 (1 : Int32) T188.heap n0  fo188_4) hZ (hw _ (List.mem_of_getElem? (i := 25) rfl)) (hw _ (List.mem_of_getElem? (i := 3) rfl)) (by decide) (by decide)) q195a q195c (g := (mkF m 227 #[.val (.int u0), .val (.int u1), .val (.int u2), .val (.int u3), .val (.int u4), .val (.ref b2), .val (.ref b15), .val (.int (1 : Int32)), .val (.int (0 : Int32)), .val (.int (0 : Int32)), .val (.int (1 : Int32))] [(.ref b15)])) rfl (by rw [hml]; rfl) (Steps.refl _) (argsL := []) (rest := []) (lenOf pd_5 rfl) rfl (by show 2 * 0 + _ ≤ _; exact Nat.le_of_eq rfl) (hb hby at_227) (fun _ _ => ⟨rfl, rfl, (by decide : 4 + 0 ≤ _), (by decide : 13 + 0 ≤ _)⟩)
            dsimp only [Pt.U, Pt.locs, Pt.cells, Pt.slots] at X195 l195 y195 z195 st195 hQ195
            subst l195 y195 z195
            obtain ⟨hv195, N195q, e195⟩ := hQ195
            rw [show own_e (1 : Int32) = (0 : Int32) from rfl] at hv195
            subst hv195
            have N195 := Fr.app N188 N195q
            have pre195 : Go p.tables e below (s₁.setTop (entryFrame m #[(.int u0), (.int u1), (.int u2), (.int u3), (.int u4)] maxLocals)) T195 (mkF m 230 #[.val (.int u0), .val (.int u1), .val (.int u2), .val (.int u3), .val (.int u4), .val (.ref b2), .val (.ref b15), .val (.int (1 : Int32)), .val (.int (0 : Int32)), .val (.int (0 : Int32)), .val (.int (1 : Int32))] [(.int (0 : Int32))]) := fun t k => pre194 t (st195.trans k)
            have pre196 : Go p.tables e below (s₁.setTop (entryFrame m #[(.int u0), (.int u1), (.int u2), (.int u3), (.int u4)] maxLocals)) T195 (mkF m 262 #[.val (.int u0), .val (.int u1), .val (.int u2), .val (.int u3), .val (.int u4), .val (.ref b2), .val (.ref b15), .val (.int (1 : Int32)), .val (.int (0 : Int32)), .val (.int (0 : Int32)), .val (.int (1 : Int32))] [(.int (1 : Int32))]) := fun t k => pre195 t (by
                refine XS.iload X195.here hx rfl (hb hby at_230) rfl ?_
                refine XS.ifNo X195.here hx rfl (hb hby at_232) rfl ((if0 _ _).trans (teq (by decide)).2) ?_
                refine XS.iload X195.here hx rfl (hb hby at_235) rfl ?_
                refine XS.ifNo X195.here hx rfl (hb hby at_237) rfl ((if0 _ _).trans (teq (by decide)).2) ?_
                refine XS.iload X195.here hx rfl (hb hby at_240) rfl ?_
                refine XS.ifYes X195.here hx rfl (pc0 := 242) (pc' := 249) rfl (hb hby at_242) rfl ((if0 _ _).trans (feq (by decide)).2) (by decide) (by decide) ?_
                refine XS.iconst X195.here hx rfl (hb hby at_249) ?_
                refine XS.icmpNo X195.here hx rfl (hb hby at_250) rfl (teq (by decide)).2 ?_
                refine XS.iconst X195.here hx rfl (hb hby at_253) ?_
                refine XS.goto X195.here hx rfl (pc0 := 254) (pc' := 258) rfl (hb hby at_254) (by decide) (by decide) ?_
                show Steps p.tables e below (T195.setTop (mkF m 258 #[.val (.int u0), .val (.int u1), .val (.int u2), .val (.int u3), .val (.int u4), .val (.ref b2), .val (.ref b15), .val (.int (1 : Int32)), .val (.int (0 : Int32)), .val (.int (0 : Int32)), .val (.int (1 : Int32))] [(.int (1 : Int32))])) _
                refine XS.istore X195.here hx rfl (hb hby at_258) rfl (l' := #[.val (.int u0), .val (.int u1), .val (.int u2), .val (.int u3), .val (.int u4), .val (.ref b2), .val (.ref b15), .val (.int (1 : Int32)), .val (.int (0 : Int32)), .val (.int (0 : Int32)), .val (.int (1 : Int32))]) rfl ?_
                show Steps p.tables e below (T195.setTop (mkF m 260 #[.val (.int u0), .val (.int u1), .val (.int u2), .val (.int u3), .val (.int u4), .val (.ref b2), .val (.ref b15), .val (.int (1 : Int32)), .val (.int (0 : Int32)), .val (.int (0 : Int32)), .val (.int (1 : Int32))] [])) _
                refine XS.iload X195.here hx rfl (hb hby at_260) rfl ?_
                exact k)
            obtain ⟨fs, hr, hrun, hended, hW, hsame⟩ := X195.leave (v := some (.int (1 : Int32))) (fun h => by rw [Bd.returns] at h; cases h) (BodyLoose.notSynchronized Bd)
            refine ⟨_, _, pre196 _ ?_, hrun, hended, _, _, rfl, ?_, ⟨_, rfl⟩, hW, hsame.mono (Nat.le_of_ble_eq_true rfl) (Nat.le_of_ble_eq_true rfl)⟩
            · exact retN X195 hx (t := .boolean) Bd.returns (by simp) (hb hby at_262) hr
            · show Q_law Z u0 u1 u2 u3 u4 h0 n0 _ T195.heap _
              rw [e195]
              exact ⟨rfl, N195⟩
          · -- hc193: False
            have pre197 : Go p.tables e below (s₁.setTop (entryFrame m #[(.int u0), (.int u1), (.int u2), (.int u3), (.int u4)] maxLocals)) T188 (mkF m 214 #[.val (.int u0), .val (.int u1), .val (.int u2), .val (.int u3), .val (.int u4), .val (.ref b2), .val (.ref b15), .val (.int (1 : Int32)), .val (.int (0 : Int32)), .val (.int (0 : Int32)), .val (.int (1 : Int32))] [(.int (2 : Int32)), (.ref b15)]) := fun t k => pre192 t (by
                refine XS.ifNo X188.here hx rfl (hb hby at_208) rfl ((if0 _ _).trans (feq hc193).1) ?_
                refine XS.aload X188.here hx rfl (hb hby at_211) rfl rfl ?_
                refine XS.iconst X188.here hx rfl (hb hby at_213) ?_
                exact k)
            obtain ⟨cq198, kq198, q198a, q198b, q198c⟩ := isOf hZ rfl fo188_0
            obtain ⟨_, _, ⟨T198, L198, k198, n198⟩, -, X198, ⟨Lc198, hQ198, l198, y198, z198⟩, st198⟩ := X188.virtualBack hx (y := (⟨"com/example/octopoll/octopoll/PageHeap", "remove", "(I)V"⟩ : MethodName)) (z := (⟨"com/example/octopoll/octopoll/PageHeap", "remove", "(I)V"⟩ : MethodName)) hown (mvT hZ (hw _ (List.mem_of_getElem? (i := 45) rfl))) (mvT hZ (hw _ (List.mem_of_getElem? (i := 46) rfl))) (notFace_of_selects (args := #[]) (mvT hZ (hw _ (List.mem_of_getElem? (i := 48) rfl)))) (mvT hZ (hw _ (List.mem_of_getElem? (i := 48) rfl))) (mvT hZ (hw _ (List.mem_of_getElem? (i := 47) rfl))) (by decide) (backOf (W := 0) (rm_rem2 l Z av0 hw [] b15 b2 ha25 pa25 k2 kh25 kp25 (FP.i2d (u2 &&& (3 : Int32))) (FP.i2d (u3 &&& (3 : Int32))) (FP.i2d (u4 &&& (3 : Int32))) z0188 z1188 z2188 z3188 z4188 z5188 false false T188.heap n0 f189 fo188_0 fo188_1 fo188_2 fo188_3 fo188_4 f190 fo188_5 fo188_6 g17 gha25 gpa25 ne27 ne30 po25_0 ne16.symm ne26 ne29 po188_0) hZ (hw _ (List.mem_of_getElem? (i := 49) rfl)) (hw _ (List.mem_of_getElem? (i := 3) rfl)) (by decide) (by decide)) q198a q198c (g := (mkF m 214 #[.val (.int u0), .val (.int u1), .val (.int u2), .val (.int u3), .val (.int u4), .val (.ref b2), .val (.ref b15), .val (.int (1 : Int32)), .val (.int (0 : Int32)), .val (.int (0 : Int32)), .val (.int (1 : Int32))] [(.int (2 : Int32)), (.ref b15)])) rfl (by rw [hml]; rfl) (Steps.refl _) (argsL := [(.int (2 : Int32))]) (rest := []) (lenOf pd_2 rfl) rfl (by show 2 * 0 + _ ≤ _; exact Nat.le_of_eq rfl) (hb hby at_214) (fun _ _ => ⟨rfl, rfl, (by decide : 4 + 0 ≤ _), (by decide : 13 + 0 ≤ _)⟩)
            dsimp only [Pt.U, Pt.locs, Pt.cells, Pt.slots] at X198 l198 y198 z198 st198 hQ198
            subst l198 y198 z198
            obtain ⟨z0198, z1198, z2198, z3198, z4198, z5198, hv198, N198q, K198, fo198_0, fo198_1, fo198_2, fo198_3, fo198_4, fo198_5, fo198_6, po198_0⟩ := hQ198
            have f199 := Nat.le_trans f189 K198.1
            have f200 := f190.keep K198 (ninS ne16 (ninS ne26 (ninS ne29 nin0)))
            have f201 := fo188_0.keep K198
            subst hv198
            have N198 := Fr.app N188 N198q
            have pre198 : Go p.tables e below (s₁.setTop (entryFrame m #[(.int u0), (.int u1), (.int u2), (.int u3), (.int u4)] maxLocals)) T198 (mkF m 217 #[.val (.int u0), .val (.int u1), .val (.int u2), .val (.int u3), .val (.int u4), .val (.ref b2), .val (.ref b15), .val (.int (1 : Int32)), .val (.int (0 : Int32)), .val (.int (0 : Int32)), .val (.int (1 : Int32))] []) := fun t k => pre197 t (st198.trans k)
            have pre202 : Go p.tables e below (s₁.setTop (entryFrame m #[(.int u0), (.int u1), (.int u2), (.int u3), (.int u4)] maxLocals)) T198 (mkF m 227 #[.val (.int u0), .val (.int u1), .val (.int u2), .val (.int u3), .val (.int u4), .val (.ref b2), .val (.ref b15), .val (.int (1 : Int32)), .val (.int (0 : Int32)), .val (.int (0 : Int32)), .val (.int (0 : Int32))] [(.ref b15)]) := fun t k => pre198 t (by
                refine XS.iconst X198.here hx rfl (hb hby at_217) ?_
                refine XS.istore X198.here hx rfl (hb hby at_218) rfl (l' := #[.val (.int u0), .val (.int u1), .val (.int u2), .val (.int u3), .val (.int u4), .val (.ref b2), .val (.ref b15), .val (.int (1 : Int32)), .val (.int (0 : Int32)), .val (.int (0 : Int32)), .val (.int (0 : Int32))]) rfl ?_
                show Steps p.tables e below (T198.setTop (mkF m 220 #[.val (.int u0), .val (.int u1), .val (.int u2), .val (.int u3), .val (.int u4), .val (.ref b2), .val (.ref b15), .val (.int (1 : Int32)), .val (.int (0 : Int32)), .val (.int (0 : Int32)), .val (.int (0 : Int32))] [])) _
                refine XS.iload X198.here hx rfl (hb hby at_220) rfl ?_
                refine XS.ifNo X198.here hx rfl (hb hby at_222) rfl ((if0 _ _).trans (feq (by decide)).1) ?_
                refine XS.aload X198.here hx rfl (hb hby at_225) rfl rfl ?_
                exact k)
            obtain ⟨cq203, kq203, q203a, q203b, q203c⟩ := isOf hZ rfl fo198_0
            obtain ⟨_, _, ⟨T203, L203, k203, n203⟩, -, X203, ⟨Lc203, hQ203, l203, y203, z203⟩, st203⟩ := X198.virtualBack hx (y := (⟨"com/example/octopoll/octopoll/PageHeap", "isEmpty", "()Z"⟩ : MethodName)) (z := (⟨"com/example/octopoll/octopoll/PageHeap", "isEmpty", "()Z"⟩ : MethodName)) hown (mvT hZ (hw _ (List.mem_of_getElem? (i := 21) rfl))) (mvT hZ (hw _ (List.mem_of_getElem? (i := 22) rfl))) (notFace_of_selects (args := #[]) (mvT hZ (hw _ (List.mem_of_getElem? (i := 24) rfl)))) (mvT hZ (hw _ (List.mem_of_getElem? (i := 24) rfl))) (mvT hZ (hw _ (List.mem_of_getElem? (i := 23) rfl))) (by decide) (backOf (W := 0) (rm_ise l Z av0 hw [] b15 (0 : Int32) T198.heap n0  fo198_4) hZ (hw _ (List.mem_of_getElem? (i := 25) rfl)) (hw _ (List.mem_of_getElem? (i := 3) rfl)) (by decide) (by decide)) q203a q203c (g := (mkF m 227 #[.val (.int u0), .val (.int u1), .val (.int u2), .val (.int u3), .val (.int u4), .val (.ref b2), .val (.ref b15), .val (.int (1 : Int32)), .val (.int (0 : Int32)), .val (.int (0 : Int32)), .val (.int (0 : Int32))] [(.ref b15)])) rfl (by rw [hml]; rfl) (Steps.refl _) (argsL := []) (rest := []) (lenOf pd_5 rfl) rfl (by show 2 * 0 + _ ≤ _; exact Nat.le_of_eq rfl) (hb hby at_227) (fun _ _ => ⟨rfl, rfl, (by decide : 4 + 0 ≤ _), (by decide : 13 + 0 ≤ _)⟩)
            dsimp only [Pt.U, Pt.locs, Pt.cells, Pt.slots] at X203 l203 y203 z203 st203 hQ203
            subst l203 y203 z203
            obtain ⟨hv203, N203q, e203⟩ := hQ203
            rw [show own_e (0 : Int32) = (1 : Int32) from rfl] at hv203
            subst hv203
            have N203 := Fr.app N198 N203q
            have pre203 : Go p.tables e below (s₁.setTop (entryFrame m #[(.int u0), (.int u1), (.int u2), (.int u3), (.int u4)] maxLocals)) T203 (mkF m 230 #[.val (.int u0), .val (.int u1), .val (.int u2), .val (.int u3), .val (.int u4), .val (.ref b2), .val (.ref b15), .val (.int (1 : Int32)), .val (.int (0 : Int32)), .val (.int (0 : Int32)), .val (.int (0 : Int32))] [(.int (1 : Int32))]) := fun t k => pre202 t (st203.trans k)
            have pre204 : Go p.tables e below (s₁.setTop (entryFrame m #[(.int u0), (.int u1), (.int u2), (.int u3), (.int u4)] maxLocals)) T203 (mkF m 262 #[.val (.int u0), .val (.int u1), .val (.int u2), .val (.int u3), .val (.int u4), .val (.ref b2), .val (.ref b15), .val (.int (1 : Int32)), .val (.int (0 : Int32)), .val (.int (0 : Int32)), .val (.int (0 : Int32))] [(.int (1 : Int32))]) := fun t k => pre203 t (by
                refine XS.iload X203.here hx rfl (hb hby at_230) rfl ?_
                refine XS.ifNo X203.here hx rfl (hb hby at_232) rfl ((if0 _ _).trans (teq (by decide)).2) ?_
                refine XS.iload X203.here hx rfl (hb hby at_235) rfl ?_
                refine XS.ifNo X203.here hx rfl (hb hby at_237) rfl ((if0 _ _).trans (teq (by decide)).2) ?_
                refine XS.iload X203.here hx rfl (hb hby at_240) rfl ?_
                refine XS.ifNo X203.here hx rfl (hb hby at_242) rfl ((if0 _ _).trans (teq (by decide)).2) ?_
                refine XS.iconst X203.here hx rfl (hb hby at_245) ?_
                refine XS.goto X203.here hx rfl (pc0 := 246) (pc' := 250) rfl (hb hby at_246) (by decide) (by decide) ?_
                show Steps p.tables e below (T203.setTop (mkF m 250 #[.val (.int u0), .val (.int u1), .val (.int u2), .val (.int u3), .val (.int u4), .val (.ref b2), .val (.ref b15), .val (.int (1 : Int32)), .val (.int (0 : Int32)), .val (.int (0 : Int32)), .val (.int (0 : Int32))] [(.int (1 : Int32)), (.int (1 : Int32))])) _
                refine XS.icmpNo X203.here hx rfl (hb hby at_250) rfl (teq (by decide)).2 ?_
                refine XS.iconst X203.here hx rfl (hb hby at_253) ?_
                refine XS.goto X203.here hx rfl (pc0 := 254) (pc' := 258) rfl (hb hby at_254) (by decide) (by decide) ?_
                show Steps p.tables e below (T203.setTop (mkF m 258 #[.val (.int u0), .val (.int u1), .val (.int u2), .val (.int u3), .val (.int u4), .val (.ref b2), .val (.ref b15), .val (.int (1 : Int32)), .val (.int (0 : Int32)), .val (.int (0 : Int32)), .val (.int (0 : Int32))] [(.int (1 : Int32))])) _
                refine XS.istore X203.here hx rfl (hb hby at_258) rfl (l' := #[.val (.int u0), .val (.int u1), .val (.int u2), .val (.int u3), .val (.int u4), .val (.ref b2), .val (.ref b15), .val (.int (1 : Int32)), .val (.int (0 : Int32)), .val (.int (0 : Int32)), .val (.int (0 : Int32))]) rfl ?_
                show Steps p.tables e below (T203.setTop (mkF m 260 #[.val (.int u0), .val (.int u1), .val (.int u2), .val (.int u3), .val (.int u4), .val (.ref b2), .val (.ref b15), .val (.int (1 : Int32)), .val (.int (0 : Int32)), .val (.int (0 : Int32)), .val (.int (0 : Int32))] [])) _
                refine XS.iload X203.here hx rfl (hb hby at_260) rfl ?_
                exact k)
            obtain ⟨fs, hr, hrun, hended, hW, hsame⟩ := X203.leave (v := some (.int (1 : Int32))) (fun h => by rw [Bd.returns] at h; cases h) (BodyLoose.notSynchronized Bd)
            refine ⟨_, _, pre204 _ ?_, hrun, hended, _, _, rfl, ?_, ⟨_, rfl⟩, hW, hsame.mono (Nat.le_of_ble_eq_true rfl) (Nat.le_of_ble_eq_true rfl)⟩
            · exact retN X203 hx (t := .boolean) Bd.returns (by simp) (hb hby at_262) hr
            · show Q_law Z u0 u1 u2 u3 u4 h0 n0 _ T203.heap _
              rw [e203]
              exact ⟨rfl, N203⟩
    · -- hc137: False
      have pre205 : Go p.tables e below (s₁.setTop (entryFrame m #[(.int u0), (.int u1), (.int u2), (.int u3), (.int u4)] maxLocals)) T37 (mkF m 77 #[.val (.int u0), .val (.int u1), .val (.int u2), .val (.int u3), .val (.int u4), .val (.ref b2), .val (.ref b15), .val (.int (1 : Int32)), .val (.int (1 : Int32)), .val (.int (1 : Int32)), .unset] [(.int (u0 &&& (4 : Int32)))]) := fun t k => pre136 t (by
          refine XS.ifNo X37.here hx rfl (hb hby at_64) rfl ((if0 _ _).trans (feq hc137).1) ?_
          refine XS.iconst X37.here hx rfl (hb hby at_67) ?_
          refine XS.goto X37.here hx rfl (pc0 := 68) (pc' := 72) rfl (hb hby at_68) (by decide) (by decide) ?_
          show Steps p.tables e below (T37.setTop (mkF m 72 #[.val (.int u0), .val (.int u1), .val (.int u2), .val (.int u3), .val (.int u4), .val (.ref b2), .val (.ref b15), .val (.int (1 : Int32)), .val (.int (1 : Int32)), .unset, .unset] [(.int (1 : Int32))])) _
          refine XS.istore X37.here hx rfl (hb hby at_72) rfl (l' := #[.val (.int u0), .val (.int u1), .val (.int u2), .val (.int u3), .val (.int u4), .val (.ref b2), .val (.ref b15), .val (.int (1 : Int32)), .val (.int (1 : Int32)), .val (.int (1 : Int32)), .unset]) rfl ?_
          show Steps p.tables e below (T37.setTop (mkF m 74 #[.val (.int u0), .val (.int u1), .val (.int u2), .val (.int u3), .val (.int u4), .val (.ref b2), .val (.ref b15), .val (.int (1 : Int32)), .val (.int (1 : Int32)), .val (.int (1 : Int32)), .unset] [])) _
          refine XS.iloadN X37.here hx rfl (hb hby at_74) rfl ?_
          refine XS.iconst X37.here hx rfl (hb hby at_75) ?_
          refine XS.iand X37.here hx rfl (hb hby at_76) rfl ?_
          exact k)
      by_cases hc206 : (u0 &&& (4 : Int32)) = (0 : Int32)
      · -- hc206: True
        have pre207 : Go p.tables e below (s₁.setTop (entryFrame m #[(.int u0), (.int u1), (.int u2), (.int u3), (.int u4)] maxLocals)) T37 (mkF m 95 #[.val (.int u0), .val (.int u1), .val (.int u2), .val (.int u3), .val (.int u4), .val (.ref b2), .val (.ref b15), .val (.int (1 : Int32)), .val (.int (1 : Int32)), .val (.int (1 : Int32)), .val (.int (0 : Int32))] [(.int (0 : Int32)), (.ref b15)]) := fun t k => pre205 t (by
            refine XS.ifYes X37.here hx rfl (pc0 := 77) (pc' := 84) rfl (hb hby at_77) rfl ((if0 _ _).trans (teq hc206).1) (by decide) (by decide) ?_
            refine XS.iconst X37.here hx rfl (hb hby at_84) ?_
            refine XS.istore X37.here hx rfl (hb hby at_85) rfl (l' := #[.val (.int u0), .val (.int u1), .val (.int u2), .val (.int u3), .val (.int u4), .val (.ref b2), .val (.ref b15), .val (.int (1 : Int32)), .val (.int (1 : Int32)), .val (.int (1 : Int32)), .val (.int (0 : Int32))]) rfl ?_
            show Steps p.tables e below (T37.setTop (mkF m 87 #[.val (.int u0), .val (.int u1), .val (.int u2), .val (.int u3), .val (.int u4), .val (.ref b2), .val (.ref b15), .val (.int (1 : Int32)), .val (.int (1 : Int32)), .val (.int (1 : Int32)), .val (.int (0 : Int32))] [])) _
            refine XS.iload X37.here hx rfl (hb hby at_87) rfl ?_
            refine XS.ifNo X37.here hx rfl (hb hby at_89) rfl ((if0 _ _).trans (feq (by decide)).1) ?_
            refine XS.aload X37.here hx rfl (hb hby at_92) rfl rfl ?_
            refine XS.iconst X37.here hx rfl (hb hby at_94) ?_
            exact k)
        obtain ⟨cq208, kq208, q208a, q208b, q208c⟩ := isOf hZ e37 fo25_0
        obtain ⟨_, _, ⟨T208, L208, k208, n208⟩, -, X208, ⟨Lc208, hQ208, l208, y208, z208⟩, st208⟩ := X37.virtualBack hx (y := (⟨"com/example/octopoll/octopoll/PageHeap", "add", "(I)V"⟩ : MethodName)) (z := (⟨"com/example/octopoll/octopoll/PageHeap", "add", "(I)V"⟩ : MethodName)) hown (mvT hZ (hw _ (List.mem_of_getElem? (i := 28) rfl))) (mvT hZ (hw _ (List.mem_of_getElem? (i := 29) rfl))) (notFace_of_selects (args := #[]) (mvT hZ (hw _ (List.mem_of_getElem? (i := 31) rfl)))) (mvT hZ (hw _ (List.mem_of_getElem? (i := 31) rfl))) (mvT hZ (hw _ (List.mem_of_getElem? (i := 30) rfl))) (by decide) (backOf (W := 0) (rm_add0 l Z av0 hw [] b15 b2 ha25 pa25 k2 kh25 kp25 (FP.i2d (u2 &&& (3 : Int32))) (FP.i2d (u3 &&& (3 : Int32))) (FP.i2d (u4 &&& (3 : Int32))) (0 : Int32) (0 : Int32) (0 : Int32) (-1 : Int32) (-1 : Int32) (-1 : Int32) false false T25.heap n0 f32 fo25_0 fo25_1 fo25_2 fo25_3 fo25_4 f33 fo25_5 fo25_6 g17 gha25 gpa25 ne27 ne30 po25_0 ne16.symm ne26 ne29 hS0) hZ (hw _ (List.mem_of_getElem? (i := 32) rfl)) (hw _ (List.mem_of_getElem? (i := 3) rfl)) (by decide) (by decide)) q208a q208c (g := (mkF m 95 #[.val (.int u0), .val (.int u1), .val (.int u2), .val (.int u3), .val (.int u4), .val (.ref b2), .val (.ref b15), .val (.int (1 : Int32)), .val (.int (1 : Int32)), .val (.int (1 : Int32)), .val (.int (0 : Int32))] [(.int (0 : Int32)), (.ref b15)])) rfl (by rw [hml]; rfl) (Steps.refl _) (argsL := [(.int (0 : Int32))]) (rest := []) (lenOf pd_2 rfl) rfl (by show 2 * 0 + _ ≤ _; exact Nat.le_of_eq rfl) (hb hby at_95) (fun _ _ => ⟨rfl, e37, (by decide : 4 + 0 ≤ _), (by decide : 13 + 0 ≤ _)⟩)
        dsimp only [Pt.U, Pt.locs, Pt.cells, Pt.slots] at X208 l208 y208 z208 st208 hQ208
        subst l208 y208 z208
        obtain ⟨z0208, z1208, z2208, z3208, z4208, z5208, hv208, N208q, K208, fo208_0, fo208_1, fo208_2, fo208_3, fo208_4, fo208_5, fo208_6, po208_0⟩ := hQ208
        have f209 := Nat.le_trans f32 K208.1
        have f210 := f33.keep K208 (ninS ne16 (ninS ne26 (ninS ne29 nin0)))
        have f211 := fo25_0.keep K208
        subst hv208
        have N208 := Fr.app N37 N208q
        have pre208 : Go p.tables e below (s₁.setTop (entryFrame m #[(.int u0), (.int u1), (.int u2), (.int u3), (.int u4)] maxLocals)) T208 (mkF m 98 #[.val (.int u0), .val (.int u1), .val (.int u2), .val (.int u3), .val (.int u4), .val (.ref b2), .val (.ref b15), .val (.int (1 : Int32)), .val (.int (1 : Int32)), .val (.int (1 : Int32)), .val (.int (0 : Int32))] []) := fun t k => pre207 t (st208.trans k)
        have pre212 : Go p.tables e below (s₁.setTop (entryFrame m #[(.int u0), (.int u1), (.int u2), (.int u3), (.int u4)] maxLocals)) T208 (mkF m 106 #[.val (.int u0), .val (.int u1), .val (.int u2), .val (.int u3), .val (.int u4), .val (.ref b2), .val (.ref b15), .val (.int (1 : Int32)), .val (.int (1 : Int32)), .val (.int (1 : Int32)), .val (.int (0 : Int32))] [(.int (1 : Int32)), (.ref b15)]) := fun t k => pre208 t (by
            refine XS.iload X208.here hx rfl (hb hby at_98) rfl ?_
            refine XS.ifNo X208.here hx rfl (hb hby at_100) rfl ((if0 _ _).trans (feq (by decide)).1) ?_
            refine XS.aload X208.here hx rfl (hb hby at_103) rfl rfl ?_
            refine XS.iconst X208.here hx rfl (hb hby at_105) ?_
            exact k)
        obtain ⟨cq213, kq213, q213a, q213b, q213c⟩ := isOf hZ rfl fo208_0
        obtain ⟨_, _, ⟨T213, L213, k213, n213⟩, -, X213, ⟨Lc213, hQ213, l213, y213, z213⟩, st213⟩ := X208.virtualBack hx (y := (⟨"com/example/octopoll/octopoll/PageHeap", "add", "(I)V"⟩ : MethodName)) (z := (⟨"com/example/octopoll/octopoll/PageHeap", "add", "(I)V"⟩ : MethodName)) hown (mvT hZ (hw _ (List.mem_of_getElem? (i := 28) rfl))) (mvT hZ (hw _ (List.mem_of_getElem? (i := 29) rfl))) (notFace_of_selects (args := #[]) (mvT hZ (hw _ (List.mem_of_getElem? (i := 31) rfl)))) (mvT hZ (hw _ (List.mem_of_getElem? (i := 31) rfl))) (mvT hZ (hw _ (List.mem_of_getElem? (i := 30) rfl))) (by decide) (backOf (W := 0) (rm_add1 l Z av0 hw [] b15 b2 ha25 pa25 k2 kh25 kp25 (FP.i2d (u2 &&& (3 : Int32))) (FP.i2d (u3 &&& (3 : Int32))) (FP.i2d (u4 &&& (3 : Int32))) z0208 z1208 z2208 z3208 z4208 z5208 true false T208.heap n0 f209 fo208_0 fo208_1 fo208_2 fo208_3 fo208_4 f210 fo208_5 fo208_6 g17 gha25 gpa25 ne27 ne30 po25_0 ne16.symm ne26 ne29 po208_0) hZ (hw _ (List.mem_of_getElem? (i := 32) rfl)) (hw _ (List.mem_of_getElem? (i := 3) rfl)) (by decide) (by decide)) q213a q213c (g := (mkF m 106 #[.val (.int u0), .val (.int u1), .val (.int u2), .val (.int u3), .val (.int u4), .val (.ref b2), .val (.ref b15), .val (.int (1 : Int32)), .val (.int (1 : Int32)), .val (.int (1 : Int32)), .val (.int (0 : Int32))] [(.int (1 : Int32)), (.ref b15)])) rfl (by rw [hml]; rfl) (Steps.refl _) (argsL := [(.int (1 : Int32))]) (rest := []) (lenOf pd_2 rfl) rfl (by show 2 * 0 + _ ≤ _; exact Nat.le_of_eq rfl) (hb hby at_106) (fun _ _ => ⟨rfl, rfl, (by decide : 4 + 0 ≤ _), (by decide : 13 + 0 ≤ _)⟩)
        dsimp only [Pt.U, Pt.locs, Pt.cells, Pt.slots] at X213 l213 y213 z213 st213 hQ213
        subst l213 y213 z213
        obtain ⟨z0213, z1213, z2213, z3213, z4213, z5213, hv213, N213q, K213, fo213_0, fo213_1, fo213_2, fo213_3, fo213_4, fo213_5, fo213_6, po213_0⟩ := hQ213
        have f214 := Nat.le_trans f209 K213.1
        have f215 := f210.keep K213 (ninS ne16 (ninS ne26 (ninS ne29 nin0)))
        have f216 := fo208_0.keep K213
        subst hv213
        have N213 := Fr.app N208 N213q
        have pre213 : Go p.tables e below (s₁.setTop (entryFrame m #[(.int u0), (.int u1), (.int u2), (.int u3), (.int u4)] maxLocals)) T213 (mkF m 109 #[.val (.int u0), .val (.int u1), .val (.int u2), .val (.int u3), .val (.int u4), .val (.ref b2), .val (.ref b15), .val (.int (1 : Int32)), .val (.int (1 : Int32)), .val (.int (1 : Int32)), .val (.int (0 : Int32))] []) := fun t k => pre212 t (st213.trans k)
        have pre217 : Go p.tables e below (s₁.setTop (entryFrame m #[(.int u0), (.int u1), (.int u2), (.int u3), (.int u4)] maxLocals)) T213 (mkF m 127 #[.val (.int u0), .val (.int u1), .val (.int u2), .val (.int u3), .val (.int u4), .val (.ref b2), .val (.ref b15), .val (.int (1 : Int32)), .val (.int (1 : Int32)), .val (.int (1 : Int32)), .val (.int (0 : Int32))] [(.ref b15)]) := fun t k => pre213 t (by
            refine XS.iload X213.here hx rfl (hb hby at_109) rfl ?_
            refine XS.ifYes X213.here hx rfl (pc0 := 111) (pc' := 120) rfl (hb hby at_111) rfl ((if0 _ _).trans (teq (by decide)).1) (by decide) (by decide) ?_
            refine XS.iload X213.here hx rfl (hb hby at_120) rfl ?_
            refine XS.ifNo X213.here hx rfl (hb hby at_122) rfl ((if0 _ _).trans (feq (by decide)).1) ?_
            refine XS.aload X213.here hx rfl (hb hby at_125) rfl rfl ?_
            exact k)
        obtain ⟨cq218, kq218, q218a, q218b, q218c⟩ := isOf hZ rfl fo213_0
        obtain ⟨_, _, ⟨T218, L218, k218, n218⟩, -, X218, ⟨Lc218, hQ218, l218, y218, z218⟩, st218⟩ := X213.virtualBack hx (y := (⟨"com/example/octopoll/octopoll/PageHeap", "isEmpty", "()Z"⟩ : MethodName)) (z := (⟨"com/example/octopoll/octopoll/PageHeap", "isEmpty", "()Z"⟩ : MethodName)) hown (mvT hZ (hw _ (List.mem_of_getElem? (i := 21) rfl))) (mvT hZ (hw _ (List.mem_of_getElem? (i := 22) rfl))) (notFace_of_selects (args := #[]) (mvT hZ (hw _ (List.mem_of_getElem? (i := 24) rfl)))) (mvT hZ (hw _ (List.mem_of_getElem? (i := 24) rfl))) (mvT hZ (hw _ (List.mem_of_getElem? (i := 23) rfl))) (by decide) (backOf (W := 0) (rm_ise l Z av0 hw [] b15 (2 : Int32) T213.heap n0  fo213_4) hZ (hw _ (List.mem_of_getElem? (i := 25) rfl)) (hw _ (List.mem_of_getElem? (i := 3) rfl)) (by decide) (by decide)) q218a q218c (g := (mkF m 127 #[.val (.int u0), .val (.int u1), .val (.int u2), .val (.int u3), .val (.int u4), .val (.ref b2), .val (.ref b15), .val (.int (1 : Int32)), .val (.int (1 : Int32)), .val (.int (1 : Int32)), .val (.int (0 : Int32))] [(.ref b15)])) rfl (by rw [hml]; rfl) (Steps.refl _) (argsL := []) (rest := []) (lenOf pd_5 rfl) rfl (by show 2 * 0 + _ ≤ _; exact Nat.le_of_eq rfl) (hb hby at_127) (fun _ _ => ⟨rfl, rfl, (by decide : 4 + 0 ≤ _), (by decide : 13 + 0 ≤ _)⟩)
        dsimp only [Pt.U, Pt.locs, Pt.cells, Pt.slots] at X218 l218 y218 z218 st218 hQ218
        subst l218 y218 z218
        obtain ⟨hv218, N218q, e218⟩ := hQ218
        rw [show own_e (2 : Int32) = (0 : Int32) from rfl] at hv218
        subst hv218
        have N218 := Fr.app N213 N218q
        have pre218 : Go p.tables e below (s₁.setTop (entryFrame m #[(.int u0), (.int u1), (.int u2), (.int u3), (.int u4)] maxLocals)) T218 (mkF m 130 #[.val (.int u0), .val (.int u1), .val (.int u2), .val (.int u3), .val (.int u4), .val (.ref b2), .val (.ref b15), .val (.int (1 : Int32)), .val (.int (1 : Int32)), .val (.int (1 : Int32)), .val (.int (0 : Int32))] [(.int (0 : Int32))]) := fun t k => pre217 t (st218.trans k)
        have pre219 : Go p.tables e below (s₁.setTop (entryFrame m #[(.int u0), (.int u1), (.int u2), (.int u3), (.int u4)] maxLocals)) T218 (mkF m 168 #[.val (.int u0), .val (.int u1), .val (.int u2), .val (.int u3), .val (.int u4), .val (.ref b2), .val (.ref b15), .val (.int (1 : Int32)), .val (.int (1 : Int32)), .val (.int (1 : Int32)), .val (.int (0 : Int32))] [(.int (u1 &&& (1 : Int32)))]) := fun t k => pre218 t (by
            refine XS.iload X218.here hx rfl (hb hby at_130) rfl ?_
            refine XS.ifYes X218.here hx rfl (pc0 := 132) (pc' := 149) rfl (hb hby at_132) rfl ((if0 _ _).trans (feq (by decide)).2) (by decide) (by decide) ?_
            refine XS.iconst X218.here hx rfl (hb hby at_149) ?_
            refine XS.icmpNo X218.here hx rfl (hb hby at_150) rfl (teq (by decide)).2 ?_
            refine XS.iconst X218.here hx rfl (hb hby at_153) ?_
            refine XS.goto X218.here hx rfl (pc0 := 154) (pc' := 158) rfl (hb hby at_154) (by decide) (by decide) ?_
            show Steps p.tables e below (T218.setTop (mkF m 158 #[.val (.int u0), .val (.int u1), .val (.int u2), .val (.int u3), .val (.int u4), .val (.ref b2), .val (.ref b15), .val (.int (1 : Int32)), .val (.int (1 : Int32)), .val (.int (1 : Int32)), .val (.int (0 : Int32))] [(.int (1 : Int32))])) _
            refine XS.istore X218.here hx rfl (hb hby at_158) rfl (l' := #[.val (.int u0), .val (.int u1), .val (.int u2), .val (.int u3), .val (.int u4), .val (.ref b2), .val (.ref b15), .val (.int (1 : Int32)), .val (.int (1 : Int32)), .val (.int (1 : Int32)), .val (.int (0 : Int32))]) rfl ?_
            show Steps p.tables e below (T218.setTop (mkF m 160 #[.val (.int u0), .val (.int u1), .val (.int u2), .val (.int u3), .val (.int u4), .val (.ref b2), .val (.ref b15), .val (.int (1 : Int32)), .val (.int (1 : Int32)), .val (.int (1 : Int32)), .val (.int (0 : Int32))] [])) _
            refine XS.iload X218.here hx rfl (hb hby at_160) rfl ?_
            refine XS.ifNo X218.here hx rfl (hb hby at_162) rfl ((if0 _ _).trans (feq (by decide)).1) ?_
            refine XS.iloadN X218.here hx rfl (hb hby at_165) rfl ?_
            refine XS.iconst X218.here hx rfl (hb hby at_166) ?_
            refine XS.iand X218.here hx rfl (hb hby at_167) rfl ?_
            exact k)
        by_cases hc220 : (u1 &&& (1 : Int32)) = (0 : Int32)
        · -- hc220: True
          have pre221 : Go p.tables e below (s₁.setTop (entryFrame m #[(.int u0), (.int u1), (.int u2), (.int u3), (.int u4)] maxLocals)) T218 (mkF m 188 #[.val (.int u0), .val (.int u1), .val (.int u2), .val (.int u3), .val (.int u4), .val (.ref b2), .val (.ref b15), .val (.int (1 : Int32)), .val (.int (1 : Int32)), .val (.int (1 : Int32)), .val (.int (0 : Int32))] [(.int (u1 &&& (2 : Int32)))]) := fun t k => pre219 t (by
              refine XS.ifYes X218.here hx rfl (pc0 := 168) (pc' := 180) rfl (hb hby at_168) rfl ((if0 _ _).trans (teq hc220).1) (by decide) (by decide) ?_
              refine XS.iload X218.here hx rfl (hb hby at_180) rfl ?_
              refine XS.ifNo X218.here hx rfl (hb hby at_182) rfl ((if0 _ _).trans (feq (by decide)).1) ?_
              refine XS.iloadN X218.here hx rfl (hb hby at_185) rfl ?_
              refine XS.iconst X218.here hx rfl (hb hby at_186) ?_
              refine XS.iand X218.here hx rfl (hb hby at_187) rfl ?_
              exact k)
          by_cases hc222 : (u1 &&& (2 : Int32)) = (0 : Int32)
          · -- hc222: True
            have pre223 : Go p.tables e below (s₁.setTop (entryFrame m #[(.int u0), (.int u1), (.int u2), (.int u3), (.int u4)] maxLocals)) T218 (mkF m 227 #[.val (.int u0), .val (.int u1), .val (.int u2), .val (.int u3), .val (.int u4), .val (.ref b2), .val (.ref b15), .val (.int (1 : Int32)), .val (.int (1 : Int32)), .val (.int (1 : Int32)), .val (.int (0 : Int32))] [(.ref b15)]) := fun t k => pre221 t (by
                refine XS.ifYes X218.here hx rfl (pc0 := 188) (pc' := 200) rfl (hb hby at_188) rfl ((if0 _ _).trans (teq hc222).1) (by decide) (by decide) ?_
                refine XS.iload X218.here hx rfl (hb hby at_200) rfl ?_
                refine XS.ifYes X218.here hx rfl (pc0 := 202) (pc' := 220) rfl (hb hby at_202) rfl ((if0 _ _).trans (teq (by decide)).1) (by decide) (by decide) ?_
                refine XS.iload X218.here hx rfl (hb hby at_220) rfl ?_
                refine XS.ifNo X218.here hx rfl (hb hby at_222) rfl ((if0 _ _).trans (feq (by decide)).1) ?_
                refine XS.aload X218.here hx rfl (hb hby at_225) rfl rfl ?_
                exact k)
            obtain ⟨cq224, kq224, q224a, q224b, q224c⟩ := isOf hZ e218 fo213_0
            obtain ⟨_, _, ⟨T224, L224, k224, n224⟩, -, X224, ⟨Lc224, hQ224, l224, y224, z224⟩, st224⟩ := X218.virtualBack hx (y := (⟨"com/example/octopoll/octopoll/PageHeap", "isEmpty", "()Z"⟩ : MethodName)) (z := (⟨"com/example/octopoll/octopoll/PageHeap", "isEmpty", "()Z"⟩ : MethodName)) hown (mvT hZ (hw _ (List.mem_of_getElem? (i := 21) rfl))) (mvT hZ (hw _ (List.mem_of_getElem? (i := 22) rfl))) (notFace_of_selects (args := #[]) (mvT hZ (hw _ (List.mem_of_getElem? (i := 24) rfl)))) (mvT hZ (hw _ (List.mem_of_getElem? (i := 24) rfl))) (mvT hZ (hw _ (List.mem_of_getElem? (i := 23) rfl))) (by decide) (backOf (W := 0) (rm_ise l Z av0 hw [] b15 (2 : Int32) T213.heap n0  fo213_4) hZ (hw _ (List.mem_of_getElem? (i := 25) rfl)) (hw _ (List.mem_of_getElem? (i := 3) rfl)) (by decide) (by decide)) q224a q224c (g := (mkF m 227 #[.val (.int u0), .val (.int u1), .val (.int u2), .val (.int u3), .val (.int u4), .val (.ref b2), .val (.ref b15), .val (.int (1 : Int32)), .val (.int (1 : Int32)), .val (.int (1 : Int32)), .val (.int (0 : Int32))] [(.ref b15)])) rfl (by rw [hml]; rfl) (Steps.refl _) (argsL := []) (rest := []) (lenOf pd_5 rfl) rfl (by show 2 * 0 + _ ≤ _; exact Nat.le_of_eq rfl) (hb hby at_227) (fun _ _ => ⟨rfl, e218, (by decide : 4 + 0 ≤ _), (by decide : 13 + 0 ≤ _)⟩)
            dsimp only [Pt.U, Pt.locs, Pt.cells, Pt.slots] at X224 l224 y224 z224 st224 hQ224
            subst l224 y224 z224
            obtain ⟨hv224, N224q, e224⟩ := hQ224
            rw [show own_e (2 : Int32) = (0 : Int32) from rfl] at hv224
            subst hv224
            have N224 := Fr.app N218 N224q
            have pre224 : Go p.tables e below (s₁.setTop (entryFrame m #[(.int u0), (.int u1), (.int u2), (.int u3), (.int u4)] maxLocals)) T224 (mkF m 230 #[.val (.int u0), .val (.int u1), .val (.int u2), .val (.int u3), .val (.int u4), .val (.ref b2), .val (.ref b15), .val (.int (1 : Int32)), .val (.int (1 : Int32)), .val (.int (1 : Int32)), .val (.int (0 : Int32))] [(.int (0 : Int32))]) := fun t k => pre223 t (st224.trans k)
            have pre225 : Go p.tables e below (s₁.setTop (entryFrame m #[(.int u0), (.int u1), (.int u2), (.int u3), (.int u4)] maxLocals)) T224 (mkF m 262 #[.val (.int u0), .val (.int u1), .val (.int u2), .val (.int u3), .val (.int u4), .val (.ref b2), .val (.ref b15), .val (.int (1 : Int32)), .val (.int (1 : Int32)), .val (.int (1 : Int32)), .val (.int (0 : Int32))] [(.int (1 : Int32))]) := fun t k => pre224 t (by
                refine XS.iload X224.here hx rfl (hb hby at_230) rfl ?_
                refine XS.ifYes X224.here hx rfl (pc0 := 232) (pc' := 249) rfl (hb hby at_232) rfl ((if0 _ _).trans (feq (by decide)).2) (by decide) (by decide) ?_
                refine XS.iconst X224.here hx rfl (hb hby at_249) ?_
                refine XS.icmpNo X224.here hx rfl (hb hby at_250) rfl (teq (by decide)).2 ?_
                refine XS.iconst X224.here hx rfl (hb hby at_253) ?_
                refine XS.goto X224.here hx rfl (pc0 := 254) (pc' := 258) rfl (hb hby at_254) (by decide) (by decide) ?_
                show Steps p.tables e below (T224.setTop (mkF m 258 #[.val (.int u0), .val (.int u1), .val (.int u2), .val (.int u3), .val (.int u4), .val (.ref b2), .val (.ref b15), .val (.int (1 : Int32)), .val (.int (1 : Int32)), .val (.int (1 : Int32)), .val (.int (0 : Int32))] [(.int (1 : Int32))])) _
                refine XS.istore X224.here hx rfl (hb hby at_258) rfl (l' := #[.val (.int u0), .val (.int u1), .val (.int u2), .val (.int u3), .val (.int u4), .val (.ref b2), .val (.ref b15), .val (.int (1 : Int32)), .val (.int (1 : Int32)), .val (.int (1 : Int32)), .val (.int (0 : Int32))]) rfl ?_
                show Steps p.tables e below (T224.setTop (mkF m 260 #[.val (.int u0), .val (.int u1), .val (.int u2), .val (.int u3), .val (.int u4), .val (.ref b2), .val (.ref b15), .val (.int (1 : Int32)), .val (.int (1 : Int32)), .val (.int (1 : Int32)), .val (.int (0 : Int32))] [])) _
                refine XS.iload X224.here hx rfl (hb hby at_260) rfl ?_
                exact k)
            obtain ⟨fs, hr, hrun, hended, hW, hsame⟩ := X224.leave (v := some (.int (1 : Int32))) (fun h => by rw [Bd.returns] at h; cases h) (BodyLoose.notSynchronized Bd)
            refine ⟨_, _, pre225 _ ?_, hrun, hended, _, _, rfl, ?_, ⟨_, rfl⟩, hW, hsame.mono (Nat.le_of_ble_eq_true rfl) (Nat.le_of_ble_eq_true rfl)⟩
            · exact retN X224 hx (t := .boolean) Bd.returns (by simp) (hb hby at_262) hr
            · show Q_law Z u0 u1 u2 u3 u4 h0 n0 _ T224.heap _
              rw [e224]
              exact ⟨rfl, N224⟩
          · -- hc222: False
            have pre226 : Go p.tables e below (s₁.setTop (entryFrame m #[(.int u0), (.int u1), (.int u2), (.int u3), (.int u4)] maxLocals)) T218 (mkF m 194 #[.val (.int u0), .val (.int u1), .val (.int u2), .val (.int u3), .val (.int u4), .val (.ref b2), .val (.ref b15), .val (.int (1 : Int32)), .val (.int (1 : Int32)), .val (.int (1 : Int32)), .val (.int (0 : Int32))] [(.int (1 : Int32)), (.ref b15)]) := fun t k => pre221 t (by
                refine XS.ifNo X218.here hx rfl (hb hby at_188) rfl ((if0 _ _).trans (feq hc222).1) ?_
                refine XS.aload X218.here hx rfl (hb hby at_191) rfl rfl ?_
                refine XS.iconst X218.here hx rfl (hb hby at_193) ?_
                exact k)
            obtain ⟨cq227, kq227, q227a, q227b, q227c⟩ := isOf hZ e218 fo213_0
            obtain ⟨_, _, ⟨T227, L227, k227, n227⟩, -, X227, ⟨Lc227, hQ227, l227, y227, z227⟩, st227⟩ := X218.virtualBack hx (y := (⟨"com/example/octopoll/octopoll/PageHeap", "remove", "(I)V"⟩ : MethodName)) (z := (⟨"com/example/octopoll/octopoll/PageHeap", "remove", "(I)V"⟩ : MethodName)) hown (mvT hZ (hw _ (List.mem_of_getElem? (i := 45) rfl))) (mvT hZ (hw _ (List.mem_of_getElem? (i := 46) rfl))) (notFace_of_selects (args := #[]) (mvT hZ (hw _ (List.mem_of_getElem? (i := 48) rfl)))) (mvT hZ (hw _ (List.mem_of_getElem? (i := 48) rfl))) (mvT hZ (hw _ (List.mem_of_getElem? (i := 47) rfl))) (by decide) (backOf (W := 0) (rm_rem1 l Z av0 hw [] b15 b2 ha25 pa25 k2 kh25 kp25 (FP.i2d (u2 &&& (3 : Int32))) (FP.i2d (u3 &&& (3 : Int32))) (FP.i2d (u4 &&& (3 : Int32))) z0213 z1213 z2213 z3213 z4213 z5213 true false T213.heap n0 f214 fo213_0 fo213_1 fo213_2 fo213_3 fo213_4 f215 fo213_5 fo213_6 g17 gha25 gpa25 ne27 ne30 po25_0 ne16.symm ne26 ne29 po213_0) hZ (hw _ (List.mem_of_getElem? (i := 49) rfl)) (hw _ (List.mem_of_getElem? (i := 3) rfl)) (by decide) (by decide)) q227a q227c (g := (mkF m 194 #[.val (.int u0), .val (.int u1), .val (.int u2), .val (.int u3), .val (.int u4), .val (.ref b2), .val (.ref b15), .val (.int (1 : Int32)), .val (.int (1 : Int32)), .val (.int (1 : Int32)), .val (.int (0 : Int32))] [(.int (1 : Int32)), (.ref b15)])) rfl (by rw [hml]; rfl) (Steps.refl _) (argsL := [(.int (1 : Int32))]) (rest := []) (lenOf pd_2 rfl) rfl (by show 2 * 0 + _ ≤ _; exact Nat.le_of_eq rfl) (hb hby at_194) (fun _ _ => ⟨rfl, e218, (by decide : 4 + 0 ≤ _), (by decide : 13 + 0 ≤ _)⟩)
            dsimp only [Pt.U, Pt.locs, Pt.cells, Pt.slots] at X227 l227 y227 z227 st227 hQ227
            subst l227 y227 z227
            obtain ⟨z0227, z1227, z2227, z3227, z4227, z5227, hv227, N227q, K227, fo227_0, fo227_1, fo227_2, fo227_3, fo227_4, fo227_5, fo227_6, po227_0⟩ := hQ227
            have f228 := Nat.le_trans f214 K227.1
            have f229 := f215.keep K227 (ninS ne16 (ninS ne26 (ninS ne29 nin0)))
            have f230 := fo213_0.keep K227
            subst hv227
            have N227 := Fr.app N218 N227q
            have pre227 : Go p.tables e below (s₁.setTop (entryFrame m #[(.int u0), (.int u1), (.int u2), (.int u3), (.int u4)] maxLocals)) T227 (mkF m 197 #[.val (.int u0), .val (.int u1), .val (.int u2), .val (.int u3), .val (.int u4), .val (.ref b2), .val (.ref b15), .val (.int (1 : Int32)), .val (.int (1 : Int32)), .val (.int (1 : Int32)), .val (.int (0 : Int32))] []) := fun t k => pre226 t (st227.trans k)
            have pre231 : Go p.tables e below (s₁.setTop (entryFrame m #[(.int u0), (.int u1), (.int u2), (.int u3), (.int u4)] maxLocals)) T227 (mkF m 227 #[.val (.int u0), .val (.int u1), .val (.int u2), .val (.int u3), .val (.int u4), .val (.ref b2), .val (.ref b15), .val (.int (1 : Int32)), .val (.int (1 : Int32)), .val (.int (0 : Int32)), .val (.int (0 : Int32))] [(.ref b15)]) := fun t k => pre227 t (by
                refine XS.iconst X227.here hx rfl (hb hby at_197) ?_
                refine XS.istore X227.here hx rfl (hb hby at_198) rfl (l' := #[.val (.int u0), .val (.int u1), .val (.int u2), .val (.int u3), .val (.int u4), .val (.ref b2), .val (.ref b15), .val (.int (1 : Int32)), .val (.int (1 : Int32)), .val (.int (0 : Int32)), .val (.int (0 : Int32))]) rfl ?_
                show Steps p.tables e below (T227.setTop (mkF m 200 #[.val (.int u0), .val (.int u1), .val (.int u2), .val (.int u3), .val (.int u4), .val (.ref b2), .val (.ref b15), .val (.int (1 : Int32)), .val (.int (1 : Int32)), .val (.int (0 : Int32)), .val (.int (0 : Int32))] [])) _
                refine XS.iload X227.here hx rfl (hb hby at_200) rfl ?_
                refine XS.ifYes X227.here hx rfl (pc0 := 202) (pc' := 220) rfl (hb hby at_202) rfl ((if0 _ _).trans (teq (by decide)).1) (by decide) (by decide) ?_
                refine XS.iload X227.here hx rfl (hb hby at_220) rfl ?_
                refine XS.ifNo X227.here hx rfl (hb hby at_222) rfl ((if0 _ _).trans (feq (by decide)).1) ?_
                refine XS.aload X227.here hx rfl (hb hby at_225) rfl rfl ?_
                exact k)
            obtain ⟨cq232, kq232, q232a, q232b, q232c⟩ := isOf hZ rfl fo227_0
            obtain ⟨_, _, ⟨T232, L232, k232, n232⟩, -, X232, ⟨Lc232, hQ232, l232, y232, z232⟩, st232⟩ := X227.virtualBack hx (y := (⟨"com/example/octopoll/octopoll/PageHeap", "isEmpty", "()Z"⟩ : MethodName)) (z := (⟨"com/example/octopoll/octopoll/PageHeap", "isEmpty", "()Z"⟩ : MethodName)) hown (mvT hZ (hw _ (List.mem_of_getElem? (i := 21) rfl))) (mvT hZ (hw _ (List.mem_of_getElem? (i := 22) rfl))) (notFace_of_selects (args := #[]) (mvT hZ (hw _ (List.mem_of_getElem? (i := 24) rfl)))) (mvT hZ (hw _ (List.mem_of_getElem? (i := 24) rfl))) (mvT hZ (hw _ (List.mem_of_getElem? (i := 23) rfl))) (by decide) (backOf (W := 0) (rm_ise l Z av0 hw [] b15 (1 : Int32) T227.heap n0  fo227_4) hZ (hw _ (List.mem_of_getElem? (i := 25) rfl)) (hw _ (List.mem_of_getElem? (i := 3) rfl)) (by decide) (by decide)) q232a q232c (g := (mkF m 227 #[.val (.int u0), .val (.int u1), .val (.int u2), .val (.int u3), .val (.int u4), .val (.ref b2), .val (.ref b15), .val (.int (1 : Int32)), .val (.int (1 : Int32)), .val (.int (0 : Int32)), .val (.int (0 : Int32))] [(.ref b15)])) rfl (by rw [hml]; rfl) (Steps.refl _) (argsL := []) (rest := []) (lenOf pd_5 rfl) rfl (by show 2 * 0 + _ ≤ _; exact Nat.le_of_eq rfl) (hb hby at_227) (fun _ _ => ⟨rfl, rfl, (by decide : 4 + 0 ≤ _), (by decide : 13 + 0 ≤ _)⟩)
            dsimp only [Pt.U, Pt.locs, Pt.cells, Pt.slots] at X232 l232 y232 z232 st232 hQ232
            subst l232 y232 z232
            obtain ⟨hv232, N232q, e232⟩ := hQ232
            rw [show own_e (1 : Int32) = (0 : Int32) from rfl] at hv232
            subst hv232
            have N232 := Fr.app N227 N232q
            have pre232 : Go p.tables e below (s₁.setTop (entryFrame m #[(.int u0), (.int u1), (.int u2), (.int u3), (.int u4)] maxLocals)) T232 (mkF m 230 #[.val (.int u0), .val (.int u1), .val (.int u2), .val (.int u3), .val (.int u4), .val (.ref b2), .val (.ref b15), .val (.int (1 : Int32)), .val (.int (1 : Int32)), .val (.int (0 : Int32)), .val (.int (0 : Int32))] [(.int (0 : Int32))]) := fun t k => pre231 t (st232.trans k)
            have pre233 : Go p.tables e below (s₁.setTop (entryFrame m #[(.int u0), (.int u1), (.int u2), (.int u3), (.int u4)] maxLocals)) T232 (mkF m 262 #[.val (.int u0), .val (.int u1), .val (.int u2), .val (.int u3), .val (.int u4), .val (.ref b2), .val (.ref b15), .val (.int (1 : Int32)), .val (.int (1 : Int32)), .val (.int (0 : Int32)), .val (.int (0 : Int32))] [(.int (1 : Int32))]) := fun t k => pre232 t (by
                refine XS.iload X232.here hx rfl (hb hby at_230) rfl ?_
                refine XS.ifYes X232.here hx rfl (pc0 := 232) (pc' := 249) rfl (hb hby at_232) rfl ((if0 _ _).trans (feq (by decide)).2) (by decide) (by decide) ?_
                refine XS.iconst X232.here hx rfl (hb hby at_249) ?_
                refine XS.icmpNo X232.here hx rfl (hb hby at_250) rfl (teq (by decide)).2 ?_
                refine XS.iconst X232.here hx rfl (hb hby at_253) ?_
                refine XS.goto X232.here hx rfl (pc0 := 254) (pc' := 258) rfl (hb hby at_254) (by decide) (by decide) ?_
                show Steps p.tables e below (T232.setTop (mkF m 258 #[.val (.int u0), .val (.int u1), .val (.int u2), .val (.int u3), .val (.int u4), .val (.ref b2), .val (.ref b15), .val (.int (1 : Int32)), .val (.int (1 : Int32)), .val (.int (0 : Int32)), .val (.int (0 : Int32))] [(.int (1 : Int32))])) _
                refine XS.istore X232.here hx rfl (hb hby at_258) rfl (l' := #[.val (.int u0), .val (.int u1), .val (.int u2), .val (.int u3), .val (.int u4), .val (.ref b2), .val (.ref b15), .val (.int (1 : Int32)), .val (.int (1 : Int32)), .val (.int (0 : Int32)), .val (.int (0 : Int32))]) rfl ?_
                show Steps p.tables e below (T232.setTop (mkF m 260 #[.val (.int u0), .val (.int u1), .val (.int u2), .val (.int u3), .val (.int u4), .val (.ref b2), .val (.ref b15), .val (.int (1 : Int32)), .val (.int (1 : Int32)), .val (.int (0 : Int32)), .val (.int (0 : Int32))] [])) _
                refine XS.iload X232.here hx rfl (hb hby at_260) rfl ?_
                exact k)
            obtain ⟨fs, hr, hrun, hended, hW, hsame⟩ := X232.leave (v := some (.int (1 : Int32))) (fun h => by rw [Bd.returns] at h; cases h) (BodyLoose.notSynchronized Bd)
            refine ⟨_, _, pre233 _ ?_, hrun, hended, _, _, rfl, ?_, ⟨_, rfl⟩, hW, hsame.mono (Nat.le_of_ble_eq_true rfl) (Nat.le_of_ble_eq_true rfl)⟩
            · exact retN X232 hx (t := .boolean) Bd.returns (by simp) (hb hby at_262) hr
            · show Q_law Z u0 u1 u2 u3 u4 h0 n0 _ T232.heap _
              rw [e232]
              exact ⟨rfl, N232⟩
        · -- hc220: False
          have pre234 : Go p.tables e below (s₁.setTop (entryFrame m #[(.int u0), (.int u1), (.int u2), (.int u3), (.int u4)] maxLocals)) T218 (mkF m 174 #[.val (.int u0), .val (.int u1), .val (.int u2), .val (.int u3), .val (.int u4), .val (.ref b2), .val (.ref b15), .val (.int (1 : Int32)), .val (.int (1 : Int32)), .val (.int (1 : Int32)), .val (.int (0 : Int32))] [(.int (0 : Int32)), (.ref b15)]) := fun t k => pre219 t (by
              refine XS.ifNo X218.here hx rfl (hb hby at_168) rfl ((if0 _ _).trans (feq hc220).1) ?_
              refine XS.aload X218.here hx rfl (hb hby at_171) rfl rfl ?_
              refine XS.iconst X218.here hx rfl (hb hby at_173) ?_
              exact k)
          obtain ⟨cq235, kq235, q235a, q235b, q235c⟩ := isOf hZ e218 fo213_0
          obtain ⟨_, _, ⟨T235, L235, k235, n235⟩, -, X235, ⟨Lc235, hQ235, l235, y235, z235⟩, st235⟩ := X218.virtualBack hx (y := (⟨"com/example/octopoll/octopoll/PageHeap", "remove", "(I)V"⟩ : MethodName)) (z := (⟨"com/example/octopoll/octopoll/PageHeap", "remove", "(I)V"⟩ : MethodName)) hown (mvT hZ (hw _ (List.mem_of_getElem? (i := 45) rfl))) (mvT hZ (hw _ (List.mem_of_getElem? (i := 46) rfl))) (notFace_of_selects (args := #[]) (mvT hZ (hw _ (List.mem_of_getElem? (i := 48) rfl)))) (mvT hZ (hw _ (List.mem_of_getElem? (i := 48) rfl))) (mvT hZ (hw _ (List.mem_of_getElem? (i := 47) rfl))) (by decide) (backOf (W := 0) (rm_rem0 l Z av0 hw [] b15 b2 ha25 pa25 k2 kh25 kp25 (FP.i2d (u2 &&& (3 : Int32))) (FP.i2d (u3 &&& (3 : Int32))) (FP.i2d (u4 &&& (3 : Int32))) z0213 z1213 z2213 z3213 z4213 z5213 true false T213.heap n0 f214 fo213_0 fo213_1 fo213_2 fo213_3 fo213_4 f215 fo213_5 fo213_6 g17 gha25 gpa25 ne27 ne30 po25_0 ne16.symm ne26 ne29 po213_0) hZ (hw _ (List.mem_of_getElem? (i := 49) rfl)) (hw _ (List.mem_of_getElem? (i := 3) rfl)) (by decide) (by decide)) q235a q235c (g := (mkF m 174 #[.val (.int u0), .val (.int u1), .val (.int u2), .val (.int u3), .val (.int u4), .val (.ref b2), .val (.ref b15), .val (.int (1 : Int32)), .val (.int (1 : Int32)), .val (.int (1 : Int32)), .val (.int (0 : Int32))] [(.int (0 : Int32)), (.ref b15)])) rfl (by rw [hml]; rfl) (Steps.refl _) (argsL := [(.int (0 : Int32))]) (rest := []) (lenOf pd_2 rfl) rfl (by show 2 * 0 + _ ≤ _; exact Nat.le_of_eq rfl) (hb hby at_174) (fun _ _ => ⟨rfl, e218, (by decide : 4 + 0 ≤ _), (by decide : 13 + 0 ≤ _)⟩)
          dsimp only [Pt.U, Pt.locs, Pt.cells, Pt.slots] at X235 l235 y235 z235 st235 hQ235
          subst l235 y235 z235
          obtain ⟨z0235, z1235, z2235, z3235, z4235, z5235, hv235, N235q, K235, fo235_0, fo235_1, fo235_2, fo235_3, fo235_4, fo235_5, fo235_6, po235_0⟩ := hQ235
          have f236 := Nat.le_trans f214 K235.1
          have f237 := f215.keep K235 (ninS ne16 (ninS ne26 (ninS ne29 nin0)))
          have f238 := fo213_0.keep K235
          subst hv235
          have N235 := Fr.app N218 N235q
          have pre235 : Go p.tables e below (s₁.setTop (entryFrame m #[(.int u0), (.int u1), (.int u2), (.int u3), (.int u4)] maxLocals)) T235 (mkF m 177 #[.val (.int u0), .val (.int u1), .val (.int u2), .val (.int u3), .val (.int u4), .val (.ref b2), .val (.ref b15), .val (.int (1 : Int32)), .val (.int (1 : Int32)), .val (.int (1 : Int32)), .val (.int (0 : Int32))] []) := fun t k => pre234 t (st235.trans k)
          have pre239 : Go p.tables e below (s₁.setTop (entryFrame m #[(.int u0), (.int u1), (.int u2), (.int u3), (.int u4)] maxLocals)) T235 (mkF m 188 #[.val (.int u0), .val (.int u1), .val (.int u2), .val (.int u3), .val (.int u4), .val (.ref b2), .val (.ref b15), .val (.int (1 : Int32)), .val (.int (0 : Int32)), .val (.int (1 : Int32)), .val (.int (0 : Int32))] [(.int (u1 &&& (2 : Int32)))]) := fun t k => pre235 t (by
              refine XS.iconst X235.here hx rfl (hb hby at_177) ?_
              refine XS.istore X235.here hx rfl (hb hby at_178) rfl (l' := #[.val (.int u0), .val (.int u1), .val (.int u2), .val (.int u3), .val (.int u4), .val (.ref b2), .val (.ref b15), .val (.int (1 : Int32)), .val (.int (0 : Int32)), .val (.int (1 : Int32)), .val (.int (0 : Int32))]) rfl ?_
              show Steps p.tables e below (T235.setTop (mkF m 180 #[.val (.int u0), .val (.int u1), .val (.int u2), .val (.int u3), .val (.int u4), .val (.ref b2), .val (.ref b15), .val (.int (1 : Int32)), .val (.int (0 : Int32)), .val (.int (1 : Int32)), .val (.int (0 : Int32))] [])) _
              refine XS.iload X235.here hx rfl (hb hby at_180) rfl ?_
              refine XS.ifNo X235.here hx rfl (hb hby at_182) rfl ((if0 _ _).trans (feq (by decide)).1) ?_
              refine XS.iloadN X235.here hx rfl (hb hby at_185) rfl ?_
              refine XS.iconst X235.here hx rfl (hb hby at_186) ?_
              refine XS.iand X235.here hx rfl (hb hby at_187) rfl ?_
              exact k)
          by_cases hc240 : (u1 &&& (2 : Int32)) = (0 : Int32)
          · -- hc240: True
            have pre241 : Go p.tables e below (s₁.setTop (entryFrame m #[(.int u0), (.int u1), (.int u2), (.int u3), (.int u4)] maxLocals)) T235 (mkF m 227 #[.val (.int u0), .val (.int u1), .val (.int u2), .val (.int u3), .val (.int u4), .val (.ref b2), .val (.ref b15), .val (.int (1 : Int32)), .val (.int (0 : Int32)), .val (.int (1 : Int32)), .val (.int (0 : Int32))] [(.ref b15)]) := fun t k => pre239 t (by
                refine XS.ifYes X235.here hx rfl (pc0 := 188) (pc' := 200) rfl (hb hby at_188) rfl ((if0 _ _).trans (teq hc240).1) (by decide) (by decide) ?_
                refine XS.iload X235.here hx rfl (hb hby at_200) rfl ?_
                refine XS.ifYes X235.here hx rfl (pc0 := 202) (pc' := 220) rfl (hb hby at_202) rfl ((if0 _ _).trans (teq (by decide)).1) (by decide) (by decide) ?_
                refine XS.iload X235.here hx rfl (hb hby at_220) rfl ?_
                refine XS.ifNo X235.here hx rfl (hb hby at_222) rfl ((if0 _ _).trans (feq (by decide)).1) ?_
                refine XS.aload X235.here hx rfl (hb hby at_225) rfl rfl ?_
                exact k)
            obtain ⟨cq242, kq242, q242a, q242b, q242c⟩ := isOf hZ rfl fo235_0
            obtain ⟨_, _, ⟨T242, L242, k242, n242⟩, -, X242, ⟨Lc242, hQ242, l242, y242, z242⟩, st242⟩ := X235.virtualBack hx (y := (⟨"com/example/octopoll/octopoll/PageHeap", "isEmpty", "()Z"⟩ : MethodName)) (z := (⟨"com/example/octopoll/octopoll/PageHeap", "isEmpty", "()Z"⟩ : MethodName)) hown (mvT hZ (hw _ (List.mem_of_getElem? (i := 21) rfl))) (mvT hZ (hw _ (List.mem_of_getElem? (i := 22) rfl))) (notFace_of_selects (args := #[]) (mvT hZ (hw _ (List.mem_of_getElem? (i := 24) rfl)))) (mvT hZ (hw _ (List.mem_of_getElem? (i := 24) rfl))) (mvT hZ (hw _ (List.mem_of_getElem? (i := 23) rfl))) (by decide) (backOf (W := 0) (rm_ise l Z av0 hw [] b15 (1 : Int32) T235.heap n0  fo235_4) hZ (hw _ (List.mem_of_getElem? (i := 25) rfl)) (hw _ (List.mem_of_getElem? (i := 3) rfl)) (by decide) (by decide)) q242a q242c (g := (mkF m 227 #[.val (.int u0), .val (.int u1), .val (.int u2), .val (.int u3), .val (.int u4), .val (.ref b2), .val (.ref b15), .val (.int (1 : Int32)), .val (.int (0 : Int32)), .val (.int (1 : Int32)), .val (.int (0 : Int32))] [(.ref b15)])) rfl (by rw [hml]; rfl) (Steps.refl _) (argsL := []) (rest := []) (lenOf pd_5 rfl) rfl (by show 2 * 0 + _ ≤ _; exact Nat.le_of_eq rfl) (hb hby at_227) (fun _ _ => ⟨rfl, rfl, (by decide : 4 + 0 ≤ _), (by decide : 13 + 0 ≤ _)⟩)
            dsimp only [Pt.U, Pt.locs, Pt.cells, Pt.slots] at X242 l242 y242 z242 st242 hQ242
            subst l242 y242 z242
            obtain ⟨hv242, N242q, e242⟩ := hQ242
            rw [show own_e (1 : Int32) = (0 : Int32) from rfl] at hv242
            subst hv242
            have N242 := Fr.app N235 N242q
            have pre242 : Go p.tables e below (s₁.setTop (entryFrame m #[(.int u0), (.int u1), (.int u2), (.int u3), (.int u4)] maxLocals)) T242 (mkF m 230 #[.val (.int u0), .val (.int u1), .val (.int u2), .val (.int u3), .val (.int u4), .val (.ref b2), .val (.ref b15), .val (.int (1 : Int32)), .val (.int (0 : Int32)), .val (.int (1 : Int32)), .val (.int (0 : Int32))] [(.int (0 : Int32))]) := fun t k => pre241 t (st242.trans k)
            have pre243 : Go p.tables e below (s₁.setTop (entryFrame m #[(.int u0), (.int u1), (.int u2), (.int u3), (.int u4)] maxLocals)) T242 (mkF m 262 #[.val (.int u0), .val (.int u1), .val (.int u2), .val (.int u3), .val (.int u4), .val (.ref b2), .val (.ref b15), .val (.int (1 : Int32)), .val (.int (0 : Int32)), .val (.int (1 : Int32)), .val (.int (0 : Int32))] [(.int (1 : Int32))]) := fun t k => pre242 t (by
                refine XS.iload X242.here hx rfl (hb hby at_230) rfl ?_
                refine XS.ifNo X242.here hx rfl (hb hby at_232) rfl ((if0 _ _).trans (teq (by decide)).2) ?_
                refine XS.iload X242.here hx rfl (hb hby at_235) rfl ?_
                refine XS.ifYes X242.here hx rfl (pc0 := 237) (pc' := 249) rfl (hb hby at_237) rfl ((if0 _ _).trans (feq (by decide)).2) (by decide) (by decide) ?_
                refine XS.iconst X242.here hx rfl (hb hby at_249) ?_
                refine XS.icmpNo X242.here hx rfl (hb hby at_250) rfl (teq (by decide)).2 ?_
                refine XS.iconst X242.here hx rfl (hb hby at_253) ?_
                refine XS.goto X242.here hx rfl (pc0 := 254) (pc' := 258) rfl (hb hby at_254) (by decide) (by decide) ?_
                show Steps p.tables e below (T242.setTop (mkF m 258 #[.val (.int u0), .val (.int u1), .val (.int u2), .val (.int u3), .val (.int u4), .val (.ref b2), .val (.ref b15), .val (.int (1 : Int32)), .val (.int (0 : Int32)), .val (.int (1 : Int32)), .val (.int (0 : Int32))] [(.int (1 : Int32))])) _
                refine XS.istore X242.here hx rfl (hb hby at_258) rfl (l' := #[.val (.int u0), .val (.int u1), .val (.int u2), .val (.int u3), .val (.int u4), .val (.ref b2), .val (.ref b15), .val (.int (1 : Int32)), .val (.int (0 : Int32)), .val (.int (1 : Int32)), .val (.int (0 : Int32))]) rfl ?_
                show Steps p.tables e below (T242.setTop (mkF m 260 #[.val (.int u0), .val (.int u1), .val (.int u2), .val (.int u3), .val (.int u4), .val (.ref b2), .val (.ref b15), .val (.int (1 : Int32)), .val (.int (0 : Int32)), .val (.int (1 : Int32)), .val (.int (0 : Int32))] [])) _
                refine XS.iload X242.here hx rfl (hb hby at_260) rfl ?_
                exact k)
            obtain ⟨fs, hr, hrun, hended, hW, hsame⟩ := X242.leave (v := some (.int (1 : Int32))) (fun h => by rw [Bd.returns] at h; cases h) (BodyLoose.notSynchronized Bd)
            refine ⟨_, _, pre243 _ ?_, hrun, hended, _, _, rfl, ?_, ⟨_, rfl⟩, hW, hsame.mono (Nat.le_of_ble_eq_true rfl) (Nat.le_of_ble_eq_true rfl)⟩
            · exact retN X242 hx (t := .boolean) Bd.returns (by simp) (hb hby at_262) hr
            · show Q_law Z u0 u1 u2 u3 u4 h0 n0 _ T242.heap _
              rw [e242]
              exact ⟨rfl, N242⟩
          · -- hc240: False
            have pre244 : Go p.tables e below (s₁.setTop (entryFrame m #[(.int u0), (.int u1), (.int u2), (.int u3), (.int u4)] maxLocals)) T235 (mkF m 194 #[.val (.int u0), .val (.int u1), .val (.int u2), .val (.int u3), .val (.int u4), .val (.ref b2), .val (.ref b15), .val (.int (1 : Int32)), .val (.int (0 : Int32)), .val (.int (1 : Int32)), .val (.int (0 : Int32))] [(.int (1 : Int32)), (.ref b15)]) := fun t k => pre239 t (by
                refine XS.ifNo X235.here hx rfl (hb hby at_188) rfl ((if0 _ _).trans (feq hc240).1) ?_
                refine XS.aload X235.here hx rfl (hb hby at_191) rfl rfl ?_
                refine XS.iconst X235.here hx rfl (hb hby at_193) ?_
                exact k)
            obtain ⟨cq245, kq245, q245a, q245b, q245c⟩ := isOf hZ rfl fo235_0
            obtain ⟨_, _, ⟨T245, L245, k245, n245⟩, -, X245, ⟨Lc245, hQ245, l245, y245, z245⟩, st245⟩ := X235.virtualBack hx (y := (⟨"com/example/octopoll/octopoll/PageHeap", "remove", "(I)V"⟩ : MethodName)) (z := (⟨"com/example/octopoll/octopoll/PageHeap", "remove", "(I)V"⟩ : MethodName)) hown (mvT hZ (hw _ (List.mem_of_getElem? (i := 45) rfl))) (mvT hZ (hw _ (List.mem_of_getElem? (i := 46) rfl))) (notFace_of_selects (args := #[]) (mvT hZ (hw _ (List.mem_of_getElem? (i := 48) rfl)))) (mvT hZ (hw _ (List.mem_of_getElem? (i := 48) rfl))) (mvT hZ (hw _ (List.mem_of_getElem? (i := 47) rfl))) (by decide) (backOf (W := 0) (rm_rem1 l Z av0 hw [] b15 b2 ha25 pa25 k2 kh25 kp25 (FP.i2d (u2 &&& (3 : Int32))) (FP.i2d (u3 &&& (3 : Int32))) (FP.i2d (u4 &&& (3 : Int32))) z0235 z1235 z2235 z3235 z4235 z5235 false false T235.heap n0 f236 fo235_0 fo235_1 fo235_2 fo235_3 fo235_4 f237 fo235_5 fo235_6 g17 gha25 gpa25 ne27 ne30 po25_0 ne16.symm ne26 ne29 po235_0) hZ (hw _ (List.mem_of_getElem? (i := 49) rfl)) (hw _ (List.mem_of_getElem? (i := 3) rfl)) (by decide) (by decide)) q245a q245c (g := (mkF m 194 #[.val (.int u0), .val (.int u1), .val (.int u2), .val (.int u3), .val (.int u4), .val (.ref b2), .val (.ref b15), .val (.int (1 : Int32)), .val (.int (0 : Int32)), .val (.int (1 : Int32)), .val (.int (0 : Int32))] [(.int (1 : Int32)), (.ref b15)])) rfl (by rw [hml]; rfl) (Steps.refl _) (argsL := [(.int (1 : Int32))]) (rest := []) (lenOf pd_2 rfl) rfl (by show 2 * 0 + _ ≤ _; exact Nat.le_of_eq rfl) (hb hby at_194) (fun _ _ => ⟨rfl, rfl, (by decide : 4 + 0 ≤ _), (by decide : 13 + 0 ≤ _)⟩)
            dsimp only [Pt.U, Pt.locs, Pt.cells, Pt.slots] at X245 l245 y245 z245 st245 hQ245
            subst l245 y245 z245
            obtain ⟨z0245, z1245, z2245, z3245, z4245, z5245, hv245, N245q, K245, fo245_0, fo245_1, fo245_2, fo245_3, fo245_4, fo245_5, fo245_6, po245_0⟩ := hQ245
            have f246 := Nat.le_trans f236 K245.1
            have f247 := f237.keep K245 (ninS ne16 (ninS ne26 (ninS ne29 nin0)))
            have f248 := fo235_0.keep K245
            subst hv245
            have N245 := Fr.app N235 N245q
            have pre245 : Go p.tables e below (s₁.setTop (entryFrame m #[(.int u0), (.int u1), (.int u2), (.int u3), (.int u4)] maxLocals)) T245 (mkF m 197 #[.val (.int u0), .val (.int u1), .val (.int u2), .val (.int u3), .val (.int u4), .val (.ref b2), .val (.ref b15), .val (.int (1 : Int32)), .val (.int (0 : Int32)), .val (.int (1 : Int32)), .val (.int (0 : Int32))] []) := fun t k => pre244 t (st245.trans k)
            have pre249 : Go p.tables e below (s₁.setTop (entryFrame m #[(.int u0), (.int u1), (.int u2), (.int u3), (.int u4)] maxLocals)) T245 (mkF m 227 #[.val (.int u0), .val (.int u1), .val (.int u2), .val (.int u3), .val (.int u4), .val (.ref b2), .val (.ref b15), .val (.int (1 : Int32)), .val (.int (0 : Int32)), .val (.int (0 : Int32)), .val (.int (0 : Int32))] [(.ref b15)]) := fun t k => pre245 t (by
                refine XS.iconst X245.here hx rfl (hb hby at_197) ?_
                refine XS.istore X245.here hx rfl (hb hby at_198) rfl (l' := #[.val (.int u0), .val (.int u1), .val (.int u2), .val (.int u3), .val (.int u4), .val (.ref b2), .val (.ref b15), .val (.int (1 : Int32)), .val (.int (0 : Int32)), .val (.int (0 : Int32)), .val (.int (0 : Int32))]) rfl ?_
                show Steps p.tables e below (T245.setTop (mkF m 200 #[.val (.int u0), .val (.int u1), .val (.int u2), .val (.int u3), .val (.int u4), .val (.ref b2), .val (.ref b15), .val (.int (1 : Int32)), .val (.int (0 : Int32)), .val (.int (0 : Int32)), .val (.int (0 : Int32))] [])) _
                refine XS.iload X245.here hx rfl (hb hby at_200) rfl ?_
                refine XS.ifYes X245.here hx rfl (pc0 := 202) (pc' := 220) rfl (hb hby at_202) rfl ((if0 _ _).trans (teq (by decide)).1) (by decide) (by decide) ?_
                refine XS.iload X245.here hx rfl (hb hby at_220) rfl ?_
                refine XS.ifNo X245.here hx rfl (hb hby at_222) rfl ((if0 _ _).trans (feq (by decide)).1) ?_
                refine XS.aload X245.here hx rfl (hb hby at_225) rfl rfl ?_
                exact k)
            obtain ⟨cq250, kq250, q250a, q250b, q250c⟩ := isOf hZ rfl fo245_0
            obtain ⟨_, _, ⟨T250, L250, k250, n250⟩, -, X250, ⟨Lc250, hQ250, l250, y250, z250⟩, st250⟩ := X245.virtualBack hx (y := (⟨"com/example/octopoll/octopoll/PageHeap", "isEmpty", "()Z"⟩ : MethodName)) (z := (⟨"com/example/octopoll/octopoll/PageHeap", "isEmpty", "()Z"⟩ : MethodName)) hown (mvT hZ (hw _ (List.mem_of_getElem? (i := 21) rfl))) (mvT hZ (hw _ (List.mem_of_getElem? (i := 22) rfl))) (notFace_of_selects (args := #[]) (mvT hZ (hw _ (List.mem_of_getElem? (i := 24) rfl)))) (mvT hZ (hw _ (List.mem_of_getElem? (i := 24) rfl))) (mvT hZ (hw _ (List.mem_of_getElem? (i := 23) rfl))) (by decide) (backOf (W := 0) (rm_ise l Z av0 hw [] b15 (0 : Int32) T245.heap n0  fo245_4) hZ (hw _ (List.mem_of_getElem? (i := 25) rfl)) (hw _ (List.mem_of_getElem? (i := 3) rfl)) (by decide) (by decide)) q250a q250c (g := (mkF m 227 #[.val (.int u0), .val (.int u1), .val (.int u2), .val (.int u3), .val (.int u4), .val (.ref b2), .val (.ref b15), .val (.int (1 : Int32)), .val (.int (0 : Int32)), .val (.int (0 : Int32)), .val (.int (0 : Int32))] [(.ref b15)])) rfl (by rw [hml]; rfl) (Steps.refl _) (argsL := []) (rest := []) (lenOf pd_5 rfl) rfl (by show 2 * 0 + _ ≤ _; exact Nat.le_of_eq rfl) (hb hby at_227) (fun _ _ => ⟨rfl, rfl, (by decide : 4 + 0 ≤ _), (by decide : 13 + 0 ≤ _)⟩)
            dsimp only [Pt.U, Pt.locs, Pt.cells, Pt.slots] at X250 l250 y250 z250 st250 hQ250
            subst l250 y250 z250
            obtain ⟨hv250, N250q, e250⟩ := hQ250
            rw [show own_e (0 : Int32) = (1 : Int32) from rfl] at hv250
            subst hv250
            have N250 := Fr.app N245 N250q
            have pre250 : Go p.tables e below (s₁.setTop (entryFrame m #[(.int u0), (.int u1), (.int u2), (.int u3), (.int u4)] maxLocals)) T250 (mkF m 230 #[.val (.int u0), .val (.int u1), .val (.int u2), .val (.int u3), .val (.int u4), .val (.ref b2), .val (.ref b15), .val (.int (1 : Int32)), .val (.int (0 : Int32)), .val (.int (0 : Int32)), .val (.int (0 : Int32))] [(.int (1 : Int32))]) := fun t k => pre249 t (st250.trans k)
            have pre251 : Go p.tables e below (s₁.setTop (entryFrame m #[(.int u0), (.int u1), (.int u2), (.int u3), (.int u4)] maxLocals)) T250 (mkF m 262 #[.val (.int u0), .val (.int u1), .val (.int u2), .val (.int u3), .val (.int u4), .val (.ref b2), .val (.ref b15), .val (.int (1 : Int32)), .val (.int (0 : Int32)), .val (.int (0 : Int32)), .val (.int (0 : Int32))] [(.int (1 : Int32))]) := fun t k => pre250 t (by
                refine XS.iload X250.here hx rfl (hb hby at_230) rfl ?_
                refine XS.ifNo X250.here hx rfl (hb hby at_232) rfl ((if0 _ _).trans (teq (by decide)).2) ?_
                refine XS.iload X250.here hx rfl (hb hby at_235) rfl ?_
                refine XS.ifNo X250.here hx rfl (hb hby at_237) rfl ((if0 _ _).trans (teq (by decide)).2) ?_
                refine XS.iload X250.here hx rfl (hb hby at_240) rfl ?_
                refine XS.ifNo X250.here hx rfl (hb hby at_242) rfl ((if0 _ _).trans (teq (by decide)).2) ?_
                refine XS.iconst X250.here hx rfl (hb hby at_245) ?_
                refine XS.goto X250.here hx rfl (pc0 := 246) (pc' := 250) rfl (hb hby at_246) (by decide) (by decide) ?_
                show Steps p.tables e below (T250.setTop (mkF m 250 #[.val (.int u0), .val (.int u1), .val (.int u2), .val (.int u3), .val (.int u4), .val (.ref b2), .val (.ref b15), .val (.int (1 : Int32)), .val (.int (0 : Int32)), .val (.int (0 : Int32)), .val (.int (0 : Int32))] [(.int (1 : Int32)), (.int (1 : Int32))])) _
                refine XS.icmpNo X250.here hx rfl (hb hby at_250) rfl (teq (by decide)).2 ?_
                refine XS.iconst X250.here hx rfl (hb hby at_253) ?_
                refine XS.goto X250.here hx rfl (pc0 := 254) (pc' := 258) rfl (hb hby at_254) (by decide) (by decide) ?_
                show Steps p.tables e below (T250.setTop (mkF m 258 #[.val (.int u0), .val (.int u1), .val (.int u2), .val (.int u3), .val (.int u4), .val (.ref b2), .val (.ref b15), .val (.int (1 : Int32)), .val (.int (0 : Int32)), .val (.int (0 : Int32)), .val (.int (0 : Int32))] [(.int (1 : Int32))])) _
                refine XS.istore X250.here hx rfl (hb hby at_258) rfl (l' := #[.val (.int u0), .val (.int u1), .val (.int u2), .val (.int u3), .val (.int u4), .val (.ref b2), .val (.ref b15), .val (.int (1 : Int32)), .val (.int (0 : Int32)), .val (.int (0 : Int32)), .val (.int (0 : Int32))]) rfl ?_
                show Steps p.tables e below (T250.setTop (mkF m 260 #[.val (.int u0), .val (.int u1), .val (.int u2), .val (.int u3), .val (.int u4), .val (.ref b2), .val (.ref b15), .val (.int (1 : Int32)), .val (.int (0 : Int32)), .val (.int (0 : Int32)), .val (.int (0 : Int32))] [])) _
                refine XS.iload X250.here hx rfl (hb hby at_260) rfl ?_
                exact k)
            obtain ⟨fs, hr, hrun, hended, hW, hsame⟩ := X250.leave (v := some (.int (1 : Int32))) (fun h => by rw [Bd.returns] at h; cases h) (BodyLoose.notSynchronized Bd)
            refine ⟨_, _, pre251 _ ?_, hrun, hended, _, _, rfl, ?_, ⟨_, rfl⟩, hW, hsame.mono (Nat.le_of_ble_eq_true rfl) (Nat.le_of_ble_eq_true rfl)⟩
            · exact retN X250 hx (t := .boolean) Bd.returns (by simp) (hb hby at_262) hr
            · show Q_law Z u0 u1 u2 u3 u4 h0 n0 _ T250.heap _
              rw [e250]
              exact ⟨rfl, N250⟩
      · -- hc206: False
        have pre252 : Go p.tables e below (s₁.setTop (entryFrame m #[(.int u0), (.int u1), (.int u2), (.int u3), (.int u4)] maxLocals)) T37 (mkF m 95 #[.val (.int u0), .val (.int u1), .val (.int u2), .val (.int u3), .val (.int u4), .val (.ref b2), .val (.ref b15), .val (.int (1 : Int32)), .val (.int (1 : Int32)), .val (.int (1 : Int32)), .val (.int (1 : Int32))] [(.int (0 : Int32)), (.ref b15)]) := fun t k => pre205 t (by
            refine XS.ifNo X37.here hx rfl (hb hby at_77) rfl ((if0 _ _).trans (feq hc206).1) ?_
            refine XS.iconst X37.here hx rfl (hb hby at_80) ?_
            refine XS.goto X37.here hx rfl (pc0 := 81) (pc' := 85) rfl (hb hby at_81) (by decide) (by decide) ?_
            show Steps p.tables e below (T37.setTop (mkF m 85 #[.val (.int u0), .val (.int u1), .val (.int u2), .val (.int u3), .val (.int u4), .val (.ref b2), .val (.ref b15), .val (.int (1 : Int32)), .val (.int (1 : Int32)), .val (.int (1 : Int32)), .unset] [(.int (1 : Int32))])) _
            refine XS.istore X37.here hx rfl (hb hby at_85) rfl (l' := #[.val (.int u0), .val (.int u1), .val (.int u2), .val (.int u3), .val (.int u4), .val (.ref b2), .val (.ref b15), .val (.int (1 : Int32)), .val (.int (1 : Int32)), .val (.int (1 : Int32)), .val (.int (1 : Int32))]) rfl ?_
            show Steps p.tables e below (T37.setTop (mkF m 87 #[.val (.int u0), .val (.int u1), .val (.int u2), .val (.int u3), .val (.int u4), .val (.ref b2), .val (.ref b15), .val (.int (1 : Int32)), .val (.int (1 : Int32)), .val (.int (1 : Int32)), .val (.int (1 : Int32))] [])) _
            refine XS.iload X37.here hx rfl (hb hby at_87) rfl ?_
            refine XS.ifNo X37.here hx rfl (hb hby at_89) rfl ((if0 _ _).trans (feq (by decide)).1) ?_
            refine XS.aload X37.here hx rfl (hb hby at_92) rfl rfl ?_
            refine XS.iconst X37.here hx rfl (hb hby at_94) ?_
            exact k)
        obtain ⟨cq253, kq253, q253a, q253b, q253c⟩ := isOf hZ e37 fo25_0
        obtain ⟨_, _, ⟨T253, L253, k253, n253⟩, -, X253, ⟨Lc253, hQ253, l253, y253, z253⟩, st253⟩ := X37.virtualBack hx (y := (⟨"com/example/octopoll/octopoll/PageHeap", "add", "(I)V"⟩ : MethodName)) (z := (⟨"com/example/octopoll/octopoll/PageHeap", "add", "(I)V"⟩ : MethodName)) hown (mvT hZ (hw _ (List.mem_of_getElem? (i := 28) rfl))) (mvT hZ (hw _ (List.mem_of_getElem? (i := 29) rfl))) (notFace_of_selects (args := #[]) (mvT hZ (hw _ (List.mem_of_getElem? (i := 31) rfl)))) (mvT hZ (hw _ (List.mem_of_getElem? (i := 31) rfl))) (mvT hZ (hw _ (List.mem_of_getElem? (i := 30) rfl))) (by decide) (backOf (W := 0) (rm_add0 l Z av0 hw [] b15 b2 ha25 pa25 k2 kh25 kp25 (FP.i2d (u2 &&& (3 : Int32))) (FP.i2d (u3 &&& (3 : Int32))) (FP.i2d (u4 &&& (3 : Int32))) (0 : Int32) (0 : Int32) (0 : Int32) (-1 : Int32) (-1 : Int32) (-1 : Int32) false false T25.heap n0 f32 fo25_0 fo25_1 fo25_2 fo25_3 fo25_4 f33 fo25_5 fo25_6 g17 gha25 gpa25 ne27 ne30 po25_0 ne16.symm ne26 ne29 hS0) hZ (hw _ (List.mem_of_getElem? (i := 32) rfl)) (hw _ (List.mem_of_getElem? (i := 3) rfl)) (by decide) (by decide)) q253a q253c (g := (mkF m 95 #[.val (.int u0), .val (.int u1), .val (.int u2), .val (.int u3), .val (.int u4), .val (.ref b2), .val (.ref b15), .val (.int (1 : Int32)), .val (.int (1 : Int32)), .val (.int (1 : Int32)), .val (.int (1 : Int32))] [(.int (0 : Int32)), (.ref b15)])) rfl (by rw [hml]; rfl) (Steps.refl _) (argsL := [(.int (0 : Int32))]) (rest := []) (lenOf pd_2 rfl) rfl (by show 2 * 0 + _ ≤ _; exact Nat.le_of_eq rfl) (hb hby at_95) (fun _ _ => ⟨rfl, e37, (by decide : 4 + 0 ≤ _), (by decide : 13 + 0 ≤ _)⟩)
        dsimp only [Pt.U, Pt.locs, Pt.cells, Pt.slots] at X253 l253 y253 z253 st253 hQ253
        subst l253 y253 z253
        obtain ⟨z0253, z1253, z2253, z3253, z4253, z5253, hv253, N253q, K253, fo253_0, fo253_1, fo253_2, fo253_3, fo253_4, fo253_5, fo253_6, po253_0⟩ := hQ253
        have f254 := Nat.le_trans f32 K253.1
        have f255 := f33.keep K253 (ninS ne16 (ninS ne26 (ninS ne29 nin0)))
        have f256 := fo25_0.keep K253
        subst hv253
        have N253 := Fr.app N37 N253q
        have pre253 : Go p.tables e below (s₁.setTop (entryFrame m #[(.int u0), (.int u1), (.int u2), (.int u3), (.int u4)] maxLocals)) T253 (mkF m 98 #[.val (.int u0), .val (.int u1), .val (.int u2), .val (.int u3), .val (.int u4), .val (.ref b2), .val (.ref b15), .val (.int (1 : Int32)), .val (.int (1 : Int32)), .val (.int (1 : Int32)), .val (.int (1 : Int32))] []) := fun t k => pre252 t (st253.trans k)
        have pre257 : Go p.tables e below (s₁.setTop (entryFrame m #[(.int u0), (.int u1), (.int u2), (.int u3), (.int u4)] maxLocals)) T253 (mkF m 106 #[.val (.int u0), .val (.int u1), .val (.int u2), .val (.int u3), .val (.int u4), .val (.ref b2), .val (.ref b15), .val (.int (1 : Int32)), .val (.int (1 : Int32)), .val (.int (1 : Int32)), .val (.int (1 : Int32))] [(.int (1 : Int32)), (.ref b15)]) := fun t k => pre253 t (by
            refine XS.iload X253.here hx rfl (hb hby at_98) rfl ?_
            refine XS.ifNo X253.here hx rfl (hb hby at_100) rfl ((if0 _ _).trans (feq (by decide)).1) ?_
            refine XS.aload X253.here hx rfl (hb hby at_103) rfl rfl ?_
            refine XS.iconst X253.here hx rfl (hb hby at_105) ?_
            exact k)
        obtain ⟨cq258, kq258, q258a, q258b, q258c⟩ := isOf hZ rfl fo253_0
        obtain ⟨_, _, ⟨T258, L258, k258, n258⟩, -, X258, ⟨Lc258, hQ258, l258, y258, z258⟩, st258⟩ := X253.virtualBack hx (y := (⟨"com/example/octopoll/octopoll/PageHeap", "add", "(I)V"⟩ : MethodName)) (z := (⟨"com/example/octopoll/octopoll/PageHeap", "add", "(I)V"⟩ : MethodName)) hown (mvT hZ (hw _ (List.mem_of_getElem? (i := 28) rfl))) (mvT hZ (hw _ (List.mem_of_getElem? (i := 29) rfl))) (notFace_of_selects (args := #[]) (mvT hZ (hw _ (List.mem_of_getElem? (i := 31) rfl)))) (mvT hZ (hw _ (List.mem_of_getElem? (i := 31) rfl))) (mvT hZ (hw _ (List.mem_of_getElem? (i := 30) rfl))) (by decide) (backOf (W := 0) (rm_add1 l Z av0 hw [] b15 b2 ha25 pa25 k2 kh25 kp25 (FP.i2d (u2 &&& (3 : Int32))) (FP.i2d (u3 &&& (3 : Int32))) (FP.i2d (u4 &&& (3 : Int32))) z0253 z1253 z2253 z3253 z4253 z5253 true false T253.heap n0 f254 fo253_0 fo253_1 fo253_2 fo253_3 fo253_4 f255 fo253_5 fo253_6 g17 gha25 gpa25 ne27 ne30 po25_0 ne16.symm ne26 ne29 po253_0) hZ (hw _ (List.mem_of_getElem? (i := 32) rfl)) (hw _ (List.mem_of_getElem? (i := 3) rfl)) (by decide) (by decide)) q258a q258c (g := (mkF m 106 #[.val (.int u0), .val (.int u1), .val (.int u2), .val (.int u3), .val (.int u4), .val (.ref b2), .val (.ref b15), .val (.int (1 : Int32)), .val (.int (1 : Int32)), .val (.int (1 : Int32)), .val (.int (1 : Int32))] [(.int (1 : Int32)), (.ref b15)])) rfl (by rw [hml]; rfl) (Steps.refl _) (argsL := [(.int (1 : Int32))]) (rest := []) (lenOf pd_2 rfl) rfl (by show 2 * 0 + _ ≤ _; exact Nat.le_of_eq rfl) (hb hby at_106) (fun _ _ => ⟨rfl, rfl, (by decide : 4 + 0 ≤ _), (by decide : 13 + 0 ≤ _)⟩)
        dsimp only [Pt.U, Pt.locs, Pt.cells, Pt.slots] at X258 l258 y258 z258 st258 hQ258
        subst l258 y258 z258
        obtain ⟨z0258, z1258, z2258, z3258, z4258, z5258, hv258, N258q, K258, fo258_0, fo258_1, fo258_2, fo258_3, fo258_4, fo258_5, fo258_6, po258_0⟩ := hQ258
        have f259 := Nat.le_trans f254 K258.1
        have f260 := f255.keep K258 (ninS ne16 (ninS ne26 (ninS ne29 nin0)))
        have f261 := fo253_0.keep K258
        subst hv258
        have N258 := Fr.app N253 N258q
        have pre258 : Go p.tables e below (s₁.setTop (entryFrame m #[(.int u0), (.int u1), (.int u2), (.int u3), (.int u4)] maxLocals)) T258 (mkF m 109 #[.val (.int u0), .val (.int u1), .val (.int u2), .val (.int u3), .val (.int u4), .val (.ref b2), .val (.ref b15), .val (.int (1 : Int32)), .val (.int (1 : Int32)), .val (.int (1 : Int32)), .val (.int (1 : Int32))] []) := fun t k => pre257 t (st258.trans k)
        have pre262 : Go p.tables e below (s₁.setTop (entryFrame m #[(.int u0), (.int u1), (.int u2), (.int u3), (.int u4)] maxLocals)) T258 (mkF m 117 #[.val (.int u0), .val (.int u1), .val (.int u2), .val (.int u3), .val (.int u4), .val (.ref b2), .val (.ref b15), .val (.int (1 : Int32)), .val (.int (1 : Int32)), .val (.int (1 : Int32)), .val (.int (1 : Int32))] [(.int (2 : Int32)), (.ref b15)]) := fun t k => pre258 t (by
            refine XS.iload X258.here hx rfl (hb hby at_109) rfl ?_
            refine XS.ifNo X258.here hx rfl (hb hby at_111) rfl ((if0 _ _).trans (feq (by decide)).1) ?_
            refine XS.aload X258.here hx rfl (hb hby at_114) rfl rfl ?_
            refine XS.iconst X258.here hx rfl (hb hby at_116) ?_
            exact k)
        obtain ⟨cq263, kq263, q263a, q263b, q263c⟩ := isOf hZ rfl fo258_0
        obtain ⟨_, _, ⟨T263, L263, k263, n263⟩, -, X263, ⟨Lc263, hQ263, l263, y263, z263⟩, st263⟩ := X258.virtualBack hx (y := (⟨"com/example/octopoll/octopoll/PageHeap", "add", "(I)V"⟩ : MethodName)) (z := (⟨"com/example/octopoll/octopoll/PageHeap", "add", "(I)V"⟩ : MethodName)) hown (mvT hZ (hw _ (List.mem_of_getElem? (i := 28) rfl))) (mvT hZ (hw _ (List.mem_of_getElem? (i := 29) rfl))) (notFace_of_selects (args := #[]) (mvT hZ (hw _ (List.mem_of_getElem? (i := 31) rfl)))) (mvT hZ (hw _ (List.mem_of_getElem? (i := 31) rfl))) (mvT hZ (hw _ (List.mem_of_getElem? (i := 30) rfl))) (by decide) (backOf (W := 0) (rm_add2 l Z av0 hw [] b15 b2 ha25 pa25 k2 kh25 kp25 (FP.i2d (u2 &&& (3 : Int32))) (FP.i2d (u3 &&& (3 : Int32))) (FP.i2d (u4 &&& (3 : Int32))) z0258 z1258 z2258 z3258 z4258 z5258 true true T258.heap n0 f259 fo258_0 fo258_1 fo258_2 fo258_3 fo258_4 f260 fo258_5 fo258_6 g17 gha25 gpa25 ne27 ne30 po25_0 ne16.symm ne26 ne29 po258_0) hZ (hw _ (List.mem_of_getElem? (i := 32) rfl)) (hw _ (List.mem_of_getElem? (i := 3) rfl)) (by decide) (by decide)) q263a q263c (g := (mkF m 117 #[.val (.int u0), .val (.int u1), .val (.int u2), .val (.int u3), .val (.int u4), .val (.ref b2), .val (.ref b15), .val (.int (1 : Int32)), .val (.int (1 : Int32)), .val (.int (1 : Int32)), .val (.int (1 : Int32))] [(.int (2 : Int32)), (.ref b15)])) rfl (by rw [hml]; rfl) (Steps.refl _) (argsL := [(.int (2 : Int32))]) (rest := []) (lenOf pd_2 rfl) rfl (by show 2 * 0 + _ ≤ _; exact Nat.le_of_eq rfl) (hb hby at_117) (fun _ _ => ⟨rfl, rfl, (by decide : 4 + 0 ≤ _), (by decide : 13 + 0 ≤ _)⟩)
        dsimp only [Pt.U, Pt.locs, Pt.cells, Pt.slots] at X263 l263 y263 z263 st263 hQ263
        subst l263 y263 z263
        obtain ⟨z0263, z1263, z2263, z3263, z4263, z5263, hv263, N263q, K263, fo263_0, fo263_1, fo263_2, fo263_3, fo263_4, fo263_5, fo263_6, po263_0⟩ := hQ263
        have f264 := Nat.le_trans f259 K263.1
        have f265 := f260.keep K263 (ninS ne16 (ninS ne26 (ninS ne29 nin0)))
        have f266 := fo258_0.keep K263
        subst hv263
        have N263 := Fr.app N258 N263q
        have pre263 : Go p.tables e below (s₁.setTop (entryFrame m #[(.int u0), (.int u1), (.int u2), (.int u3), (.int u4)] maxLocals)) T263 (mkF m 120 #[.val (.int u0), .val (.int u1), .val (.int u2), .val (.int u3), .val (.int u4), .val (.ref b2), .val (.ref b15), .val (.int (1 : Int32)), .val (.int (1 : Int32)), .val (.int (1 : Int32)), .val (.int (1 : Int32))] []) := fun t k => pre262 t (st263.trans k)
        have pre267 : Go p.tables e below (s₁.setTop (entryFrame m #[(.int u0), (.int u1), (.int u2), (.int u3), (.int u4)] maxLocals)) T263 (mkF m 127 #[.val (.int u0), .val (.int u1), .val (.int u2), .val (.int u3), .val (.int u4), .val (.ref b2), .val (.ref b15), .val (.int (1 : Int32)), .val (.int (1 : Int32)), .val (.int (1 : Int32)), .val (.int (1 : Int32))] [(.ref b15)]) := fun t k => pre263 t (by
            refine XS.iload X263.here hx rfl (hb hby at_120) rfl ?_
            refine XS.ifNo X263.here hx rfl (hb hby at_122) rfl ((if0 _ _).trans (feq (by decide)).1) ?_
            refine XS.aload X263.here hx rfl (hb hby at_125) rfl rfl ?_
            exact k)
        obtain ⟨cq268, kq268, q268a, q268b, q268c⟩ := isOf hZ rfl fo263_0
        obtain ⟨_, _, ⟨T268, L268, k268, n268⟩, -, X268, ⟨Lc268, hQ268, l268, y268, z268⟩, st268⟩ := X263.virtualBack hx (y := (⟨"com/example/octopoll/octopoll/PageHeap", "isEmpty", "()Z"⟩ : MethodName)) (z := (⟨"com/example/octopoll/octopoll/PageHeap", "isEmpty", "()Z"⟩ : MethodName)) hown (mvT hZ (hw _ (List.mem_of_getElem? (i := 21) rfl))) (mvT hZ (hw _ (List.mem_of_getElem? (i := 22) rfl))) (notFace_of_selects (args := #[]) (mvT hZ (hw _ (List.mem_of_getElem? (i := 24) rfl)))) (mvT hZ (hw _ (List.mem_of_getElem? (i := 24) rfl))) (mvT hZ (hw _ (List.mem_of_getElem? (i := 23) rfl))) (by decide) (backOf (W := 0) (rm_ise l Z av0 hw [] b15 (3 : Int32) T263.heap n0  fo263_4) hZ (hw _ (List.mem_of_getElem? (i := 25) rfl)) (hw _ (List.mem_of_getElem? (i := 3) rfl)) (by decide) (by decide)) q268a q268c (g := (mkF m 127 #[.val (.int u0), .val (.int u1), .val (.int u2), .val (.int u3), .val (.int u4), .val (.ref b2), .val (.ref b15), .val (.int (1 : Int32)), .val (.int (1 : Int32)), .val (.int (1 : Int32)), .val (.int (1 : Int32))] [(.ref b15)])) rfl (by rw [hml]; rfl) (Steps.refl _) (argsL := []) (rest := []) (lenOf pd_5 rfl) rfl (by show 2 * 0 + _ ≤ _; exact Nat.le_of_eq rfl) (hb hby at_127) (fun _ _ => ⟨rfl, rfl, (by decide : 4 + 0 ≤ _), (by decide : 13 + 0 ≤ _)⟩)
        dsimp only [Pt.U, Pt.locs, Pt.cells, Pt.slots] at X268 l268 y268 z268 st268 hQ268
        subst l268 y268 z268
        obtain ⟨hv268, N268q, e268⟩ := hQ268
        rw [show own_e (3 : Int32) = (0 : Int32) from rfl] at hv268
        subst hv268
        have N268 := Fr.app N263 N268q
        have pre268 : Go p.tables e below (s₁.setTop (entryFrame m #[(.int u0), (.int u1), (.int u2), (.int u3), (.int u4)] maxLocals)) T268 (mkF m 130 #[.val (.int u0), .val (.int u1), .val (.int u2), .val (.int u3), .val (.int u4), .val (.ref b2), .val (.ref b15), .val (.int (1 : Int32)), .val (.int (1 : Int32)), .val (.int (1 : Int32)), .val (.int (1 : Int32))] [(.int (0 : Int32))]) := fun t k => pre267 t (st268.trans k)
        have pre269 : Go p.tables e below (s₁.setTop (entryFrame m #[(.int u0), (.int u1), (.int u2), (.int u3), (.int u4)] maxLocals)) T268 (mkF m 168 #[.val (.int u0), .val (.int u1), .val (.int u2), .val (.int u3), .val (.int u4), .val (.ref b2), .val (.ref b15), .val (.int (1 : Int32)), .val (.int (1 : Int32)), .val (.int (1 : Int32)), .val (.int (1 : Int32))] [(.int (u1 &&& (1 : Int32)))]) := fun t k => pre268 t (by
            refine XS.iload X268.here hx rfl (hb hby at_130) rfl ?_
            refine XS.ifYes X268.here hx rfl (pc0 := 132) (pc' := 149) rfl (hb hby at_132) rfl ((if0 _ _).trans (feq (by decide)).2) (by decide) (by decide) ?_
            refine XS.iconst X268.here hx rfl (hb hby at_149) ?_
            refine XS.icmpNo X268.here hx rfl (hb hby at_150) rfl (teq (by decide)).2 ?_
            refine XS.iconst X268.here hx rfl (hb hby at_153) ?_
            refine XS.goto X268.here hx rfl (pc0 := 154) (pc' := 158) rfl (hb hby at_154) (by decide) (by decide) ?_
            show Steps p.tables e below (T268.setTop (mkF m 158 #[.val (.int u0), .val (.int u1), .val (.int u2), .val (.int u3), .val (.int u4), .val (.ref b2), .val (.ref b15), .val (.int (1 : Int32)), .val (.int (1 : Int32)), .val (.int (1 : Int32)), .val (.int (1 : Int32))] [(.int (1 : Int32))])) _
            refine XS.istore X268.here hx rfl (hb hby at_158) rfl (l' := #[.val (.int u0), .val (.int u1), .val (.int u2), .val (.int u3), .val (.int u4), .val (.ref b2), .val (.ref b15), .val (.int (1 : Int32)), .val (.int (1 : Int32)), .val (.int (1 : Int32)), .val (.int (1 : Int32))]) rfl ?_
            show Steps p.tables e below (T268.setTop (mkF m 160 #[.val (.int u0), .val (.int u1), .val (.int u2), .val (.int u3), .val (.int u4), .val (.ref b2), .val (.ref b15), .val (.int (1 : Int32)), .val (.int (1 : Int32)), .val (.int (1 : Int32)), .val (.int (1 : Int32))] [])) _
            refine XS.iload X268.here hx rfl (hb hby at_160) rfl ?_
            refine XS.ifNo X268.here hx rfl (hb hby at_162) rfl ((if0 _ _).trans (feq (by decide)).1) ?_
            refine XS.iloadN X268.here hx rfl (hb hby at_165) rfl ?_
            refine XS.iconst X268.here hx rfl (hb hby at_166) ?_
            refine XS.iand X268.here hx rfl (hb hby at_167) rfl ?_
            exact k)
        by_cases hc270 : (u1 &&& (1 : Int32)) = (0 : Int32)
        · -- hc270: True
          have pre271 : Go p.tables e below (s₁.setTop (entryFrame m #[(.int u0), (.int u1), (.int u2), (.int u3), (.int u4)] maxLocals)) T268 (mkF m 188 #[.val (.int u0), .val (.int u1), .val (.int u2), .val (.int u3), .val (.int u4), .val (.ref b2), .val (.ref b15), .val (.int (1 : Int32)), .val (.int (1 : Int32)), .val (.int (1 : Int32)), .val (.int (1 : Int32))] [(.int (u1 &&& (2 : Int32)))]) := fun t k => pre269 t (by
              refine XS.ifYes X268.here hx rfl (pc0 := 168) (pc' := 180) rfl (hb hby at_168) rfl ((if0 _ _).trans (teq hc270).1) (by decide) (by decide) ?_
              refine XS.iload X268.here hx rfl (hb hby at_180) rfl ?_
              refine XS.ifNo X268.here hx rfl (hb hby at_182) rfl ((if0 _ _).trans (feq (by decide)).1) ?_
              refine XS.iloadN X268.here hx rfl (hb hby at_185) rfl ?_
              refine XS.iconst X268.here hx rfl (hb hby at_186) ?_
              refine XS.iand X268.here hx rfl (hb hby at_187) rfl ?_
              exact k)
          by_cases hc272 : (u1 &&& (2 : Int32)) = (0 : Int32)
          · -- hc272: True
            have pre273 : Go p.tables e below (s₁.setTop (entryFrame m #[(.int u0), (.int u1), (.int u2), (.int u3), (.int u4)] maxLocals)) T268 (mkF m 208 #[.val (.int u0), .val (.int u1), .val (.int u2), .val (.int u3), .val (.int u4), .val (.ref b2), .val (.ref b15), .val (.int (1 : Int32)), .val (.int (1 : Int32)), .val (.int (1 : Int32)), .val (.int (1 : Int32))] [(.int (u1 &&& (4 : Int32)))]) := fun t k => pre271 t (by
                refine XS.ifYes X268.here hx rfl (pc0 := 188) (pc' := 200) rfl (hb hby at_188) rfl ((if0 _ _).trans (teq hc272).1) (by decide) (by decide) ?_
                refine XS.iload X268.here hx rfl (hb hby at_200) rfl ?_
                refine XS.ifNo X268.here hx rfl (hb hby at_202) rfl ((if0 _ _).trans (feq (by decide)).1) ?_
                refine XS.iloadN X268.here hx rfl (hb hby at_205) rfl ?_
                refine XS.iconst X268.here hx rfl (hb hby at_206) ?_
                refine XS.iand X268.here hx rfl (hb hby at_207) rfl ?_
                exact k)
            by_cases hc274 : (u1 &&& (4 : Int32)) = (0 : Int32)
            · -- hc274: True
              have pre275 : Go p.tables e below (s₁.setTop (entryFrame m #[(.int u0), (.int u1), (.int u2), (.int u3), (.int u4)] maxLocals)) T268 (mkF m 227 #[.val (.int u0), .val (.int u1), .val (.int u2), .val (.int u3), .val (.int u4), .val (.ref b2), .val (.ref b15), .val (.int (1 : Int32)), .val (.int (1 : Int32)), .val (.int (1 : Int32)), .val (.int (1 : Int32))] [(.ref b15)]) := fun t k => pre273 t (by
                  refine XS.ifYes X268.here hx rfl (pc0 := 208) (pc' := 220) rfl (hb hby at_208) rfl ((if0 _ _).trans (teq hc274).1) (by decide) (by decide) ?_
                  refine XS.iload X268.here hx rfl (hb hby at_220) rfl ?_
                  refine XS.ifNo X268.here hx rfl (hb hby at_222) rfl ((if0 _ _).trans (feq (by decide)).1) ?_
                  refine XS.aload X268.here hx rfl (hb hby at_225) rfl rfl ?_
                  exact k)
              obtain ⟨cq276, kq276, q276a, q276b, q276c⟩ := isOf hZ e268 fo263_0
              obtain ⟨_, _, ⟨T276, L276, k276, n276⟩, -, X276, ⟨Lc276, hQ276, l276, y276, z276⟩, st276⟩ := X268.virtualBack hx (y := (⟨"com/example/octopoll/octopoll/PageHeap", "isEmpty", "()Z"⟩ : MethodName)) (z := (⟨"com/example/octopoll/octopoll/PageHeap", "isEmpty", "()Z"⟩ : MethodName)) hown (mvT hZ (hw _ (List.mem_of_getElem? (i := 21) rfl))) (mvT hZ (hw _ (List.mem_of_getElem? (i := 22) rfl))) (notFace_of_selects (args := #[]) (mvT hZ (hw _ (List.mem_of_getElem? (i := 24) rfl)))) (mvT hZ (hw _ (List.mem_of_getElem? (i := 24) rfl))) (mvT hZ (hw _ (List.mem_of_getElem? (i := 23) rfl))) (by decide) (backOf (W := 0) (rm_ise l Z av0 hw [] b15 (3 : Int32) T263.heap n0  fo263_4) hZ (hw _ (List.mem_of_getElem? (i := 25) rfl)) (hw _ (List.mem_of_getElem? (i := 3) rfl)) (by decide) (by decide)) q276a q276c (g := (mkF m 227 #[.val (.int u0), .val (.int u1), .val (.int u2), .val (.int u3), .val (.int u4), .val (.ref b2), .val (.ref b15), .val (.int (1 : Int32)), .val (.int (1 : Int32)), .val (.int (1 : Int32)), .val (.int (1 : Int32))] [(.ref b15)])) rfl (by rw [hml]; rfl) (Steps.refl _) (argsL := []) (rest := []) (lenOf pd_5 rfl) rfl (by show 2 * 0 + _ ≤ _; exact Nat.le_of_eq rfl) (hb hby at_227) (fun _ _ => ⟨rfl, e268, (by decide : 4 + 0 ≤ _), (by decide : 13 + 0 ≤ _)⟩)
              dsimp only [Pt.U, Pt.locs, Pt.cells, Pt.slots] at X276 l276 y276 z276 st276 hQ276
              subst l276 y276 z276
              obtain ⟨hv276, N276q, e276⟩ := hQ276
              rw [show own_e (3 : Int32) = (0 : Int32) from rfl] at hv276
              subst hv276
              have N276 := Fr.app N268 N276q
              have pre276 : Go p.tables e below (s₁.setTop (entryFrame m #[(.int u0), (.int u1), (.int u2), (.int u3), (.int u4)] maxLocals)) T276 (mkF m 230 #[.val (.int u0), .val (.int u1), .val (.int u2), .val (.int u3), .val (.int u4), .val (.ref b2), .val (.ref b15), .val (.int (1 : Int32)), .val (.int (1 : Int32)), .val (.int (1 : Int32)), .val (.int (1 : Int32))] [(.int (0 : Int32))]) := fun t k => pre275 t (st276.trans k)
              have pre277 : Go p.tables e below (s₁.setTop (entryFrame m #[(.int u0), (.int u1), (.int u2), (.int u3), (.int u4)] maxLocals)) T276 (mkF m 262 #[.val (.int u0), .val (.int u1), .val (.int u2), .val (.int u3), .val (.int u4), .val (.ref b2), .val (.ref b15), .val (.int (1 : Int32)), .val (.int (1 : Int32)), .val (.int (1 : Int32)), .val (.int (1 : Int32))] [(.int (1 : Int32))]) := fun t k => pre276 t (by
                  refine XS.iload X276.here hx rfl (hb hby at_230) rfl ?_
                  refine XS.ifYes X276.here hx rfl (pc0 := 232) (pc' := 249) rfl (hb hby at_232) rfl ((if0 _ _).trans (feq (by decide)).2) (by decide) (by decide) ?_
                  refine XS.iconst X276.here hx rfl (hb hby at_249) ?_
                  refine XS.icmpNo X276.here hx rfl (hb hby at_250) rfl (teq (by decide)).2 ?_
                  refine XS.iconst X276.here hx rfl (hb hby at_253) ?_
                  refine XS.goto X276.here hx rfl (pc0 := 254) (pc' := 258) rfl (hb hby at_254) (by decide) (by decide) ?_
                  show Steps p.tables e below (T276.setTop (mkF m 258 #[.val (.int u0), .val (.int u1), .val (.int u2), .val (.int u3), .val (.int u4), .val (.ref b2), .val (.ref b15), .val (.int (1 : Int32)), .val (.int (1 : Int32)), .val (.int (1 : Int32)), .val (.int (1 : Int32))] [(.int (1 : Int32))])) _
                  refine XS.istore X276.here hx rfl (hb hby at_258) rfl (l' := #[.val (.int u0), .val (.int u1), .val (.int u2), .val (.int u3), .val (.int u4), .val (.ref b2), .val (.ref b15), .val (.int (1 : Int32)), .val (.int (1 : Int32)), .val (.int (1 : Int32)), .val (.int (1 : Int32))]) rfl ?_
                  show Steps p.tables e below (T276.setTop (mkF m 260 #[.val (.int u0), .val (.int u1), .val (.int u2), .val (.int u3), .val (.int u4), .val (.ref b2), .val (.ref b15), .val (.int (1 : Int32)), .val (.int (1 : Int32)), .val (.int (1 : Int32)), .val (.int (1 : Int32))] [])) _
                  refine XS.iload X276.here hx rfl (hb hby at_260) rfl ?_
                  exact k)
              obtain ⟨fs, hr, hrun, hended, hW, hsame⟩ := X276.leave (v := some (.int (1 : Int32))) (fun h => by rw [Bd.returns] at h; cases h) (BodyLoose.notSynchronized Bd)
              refine ⟨_, _, pre277 _ ?_, hrun, hended, _, _, rfl, ?_, ⟨_, rfl⟩, hW, hsame.mono (Nat.le_of_ble_eq_true rfl) (Nat.le_of_ble_eq_true rfl)⟩
              · exact retN X276 hx (t := .boolean) Bd.returns (by simp) (hb hby at_262) hr
              · show Q_law Z u0 u1 u2 u3 u4 h0 n0 _ T276.heap _
                rw [e276]
                exact ⟨rfl, N276⟩
            · -- hc274: False
              have pre278 : Go p.tables e below (s₁.setTop (entryFrame m #[(.int u0), (.int u1), (.int u2), (.int u3), (.int u4)] maxLocals)) T268 (mkF m 214 #[.val (.int u0), .val (.int u1), .val (.int u2), .val (.int u3), .val (.int u4), .val (.ref b2), .val (.ref b15), .val (.int (1 : Int32)), .val (.int (1 : Int32)), .val (.int (1 : Int32)), .val (.int (1 : Int32))] [(.int (2 : Int32)), (.ref b15)]) := fun t k => pre273 t (by
                  refine XS.ifNo X268.here hx rfl (hb hby at_208) rfl ((if0 _ _).trans (feq hc274).1) ?_
                  refine XS.aload X268.here hx rfl (hb hby at_211) rfl rfl ?_
                  refine XS.iconst X268.here hx rfl (hb hby at_213) ?_
                  exact k)
              obtain ⟨cq279, kq279, q279a, q279b, q279c⟩ := isOf hZ e268 fo263_0
              obtain ⟨_, _, ⟨T279, L279, k279, n279⟩, -, X279, ⟨Lc279, hQ279, l279, y279, z279⟩, st279⟩ := X268.virtualBack hx (y := (⟨"com/example/octopoll/octopoll/PageHeap", "remove", "(I)V"⟩ : MethodName)) (z := (⟨"com/example/octopoll/octopoll/PageHeap", "remove", "(I)V"⟩ : MethodName)) hown (mvT hZ (hw _ (List.mem_of_getElem? (i := 45) rfl))) (mvT hZ (hw _ (List.mem_of_getElem? (i := 46) rfl))) (notFace_of_selects (args := #[]) (mvT hZ (hw _ (List.mem_of_getElem? (i := 48) rfl)))) (mvT hZ (hw _ (List.mem_of_getElem? (i := 48) rfl))) (mvT hZ (hw _ (List.mem_of_getElem? (i := 47) rfl))) (by decide) (backOf (W := 0) (rm_rem2 l Z av0 hw [] b15 b2 ha25 pa25 k2 kh25 kp25 (FP.i2d (u2 &&& (3 : Int32))) (FP.i2d (u3 &&& (3 : Int32))) (FP.i2d (u4 &&& (3 : Int32))) z0263 z1263 z2263 z3263 z4263 z5263 true true T263.heap n0 f264 fo263_0 fo263_1 fo263_2 fo263_3 fo263_4 f265 fo263_5 fo263_6 g17 gha25 gpa25 ne27 ne30 po25_0 ne16.symm ne26 ne29 po263_0) hZ (hw _ (List.mem_of_getElem? (i := 49) rfl)) (hw _ (List.mem_of_getElem? (i := 3) rfl)) (by decide) (by decide)) q279a q279c (g := (mkF m 214 #[.val (.int u0), .val (.int u1), .val (.int u2), .val (.int u3), .val (.int u4), .val (.ref b2), .val (.ref b15), .val (.int (1 : Int32)), .val (.int (1 : Int32)), .val (.int (1 : Int32)), .val (.int (1 : Int32))] [(.int (2 : Int32)), (.ref b15)])) rfl (by rw [hml]; rfl) (Steps.refl _) (argsL := [(.int (2 : Int32))]) (rest := []) (lenOf pd_2 rfl) rfl (by show 2 * 0 + _ ≤ _; exact Nat.le_of_eq rfl) (hb hby at_214) (fun _ _ => ⟨rfl, e268, (by decide : 4 + 0 ≤ _), (by decide : 13 + 0 ≤ _)⟩)
              dsimp only [Pt.U, Pt.locs, Pt.cells, Pt.slots] at X279 l279 y279 z279 st279 hQ279
              subst l279 y279 z279
              obtain ⟨z0279, z1279, z2279, z3279, z4279, z5279, hv279, N279q, K279, fo279_0, fo279_1, fo279_2, fo279_3, fo279_4, fo279_5, fo279_6, po279_0⟩ := hQ279
              have f280 := Nat.le_trans f264 K279.1
              have f281 := f265.keep K279 (ninS ne16 (ninS ne26 (ninS ne29 nin0)))
              have f282 := fo263_0.keep K279
              subst hv279
              have N279 := Fr.app N268 N279q
              have pre279 : Go p.tables e below (s₁.setTop (entryFrame m #[(.int u0), (.int u1), (.int u2), (.int u3), (.int u4)] maxLocals)) T279 (mkF m 217 #[.val (.int u0), .val (.int u1), .val (.int u2), .val (.int u3), .val (.int u4), .val (.ref b2), .val (.ref b15), .val (.int (1 : Int32)), .val (.int (1 : Int32)), .val (.int (1 : Int32)), .val (.int (1 : Int32))] []) := fun t k => pre278 t (st279.trans k)
              have pre283 : Go p.tables e below (s₁.setTop (entryFrame m #[(.int u0), (.int u1), (.int u2), (.int u3), (.int u4)] maxLocals)) T279 (mkF m 227 #[.val (.int u0), .val (.int u1), .val (.int u2), .val (.int u3), .val (.int u4), .val (.ref b2), .val (.ref b15), .val (.int (1 : Int32)), .val (.int (1 : Int32)), .val (.int (1 : Int32)), .val (.int (0 : Int32))] [(.ref b15)]) := fun t k => pre279 t (by
                  refine XS.iconst X279.here hx rfl (hb hby at_217) ?_
                  refine XS.istore X279.here hx rfl (hb hby at_218) rfl (l' := #[.val (.int u0), .val (.int u1), .val (.int u2), .val (.int u3), .val (.int u4), .val (.ref b2), .val (.ref b15), .val (.int (1 : Int32)), .val (.int (1 : Int32)), .val (.int (1 : Int32)), .val (.int (0 : Int32))]) rfl ?_
                  show Steps p.tables e below (T279.setTop (mkF m 220 #[.val (.int u0), .val (.int u1), .val (.int u2), .val (.int u3), .val (.int u4), .val (.ref b2), .val (.ref b15), .val (.int (1 : Int32)), .val (.int (1 : Int32)), .val (.int (1 : Int32)), .val (.int (0 : Int32))] [])) _
                  refine XS.iload X279.here hx rfl (hb hby at_220) rfl ?_
                  refine XS.ifNo X279.here hx rfl (hb hby at_222) rfl ((if0 _ _).trans (feq (by decide)).1) ?_
                  refine XS.aload X279.here hx rfl (hb hby at_225) rfl rfl ?_
                  exact k)
              obtain ⟨cq284, kq284, q284a, q284b, q284c⟩ := isOf hZ rfl fo279_0
              obtain ⟨_, _, ⟨T284, L284, k284, n284⟩, -, X284, ⟨Lc284, hQ284, l284, y284, z284⟩, st284⟩ := X279.virtualBack hx (y := (⟨"com/example/octopoll/octopoll/PageHeap", "isEmpty", "()Z"⟩ : MethodName)) (z := (⟨"com/example/octopoll/octopoll/PageHeap", "isEmpty", "()Z"⟩ : MethodName)) hown (mvT hZ (hw _ (List.mem_of_getElem? (i := 21) rfl))) (mvT hZ (hw _ (List.mem_of_getElem? (i := 22) rfl))) (notFace_of_selects (args := #[]) (mvT hZ (hw _ (List.mem_of_getElem? (i := 24) rfl)))) (mvT hZ (hw _ (List.mem_of_getElem? (i := 24) rfl))) (mvT hZ (hw _ (List.mem_of_getElem? (i := 23) rfl))) (by decide) (backOf (W := 0) (rm_ise l Z av0 hw [] b15 (2 : Int32) T279.heap n0  fo279_4) hZ (hw _ (List.mem_of_getElem? (i := 25) rfl)) (hw _ (List.mem_of_getElem? (i := 3) rfl)) (by decide) (by decide)) q284a q284c (g := (mkF m 227 #[.val (.int u0), .val (.int u1), .val (.int u2), .val (.int u3), .val (.int u4), .val (.ref b2), .val (.ref b15), .val (.int (1 : Int32)), .val (.int (1 : Int32)), .val (.int (1 : Int32)), .val (.int (0 : Int32))] [(.ref b15)])) rfl (by rw [hml]; rfl) (Steps.refl _) (argsL := []) (rest := []) (lenOf pd_5 rfl) rfl (by show 2 * 0 + _ ≤ _; exact Nat.le_of_eq rfl) (hb hby at_227) (fun _ _ => ⟨rfl, rfl, (by decide : 4 + 0 ≤ _), (by decide : 13 + 0 ≤ _)⟩)
              dsimp only [Pt.U, Pt.locs, Pt.cells, Pt.slots] at X284 l284 y284 z284 st284 hQ284
              subst l284 y284 z284
              obtain ⟨hv284, N284q, e284⟩ := hQ284
              rw [show own_e (2 : Int32) = (0 : Int32) from rfl] at hv284
              subst hv284
              have N284 := Fr.app N279 N284q
              have pre284 : Go p.tables e below (s₁.setTop (entryFrame m #[(.int u0), (.int u1), (.int u2), (.int u3), (.int u4)] maxLocals)) T284 (mkF m 230 #[.val (.int u0), .val (.int u1), .val (.int u2), .val (.int u3), .val (.int u4), .val (.ref b2), .val (.ref b15), .val (.int (1 : Int32)), .val (.int (1 : Int32)), .val (.int (1 : Int32)), .val (.int (0 : Int32))] [(.int (0 : Int32))]) := fun t k => pre283 t (st284.trans k)
              have pre285 : Go p.tables e below (s₁.setTop (entryFrame m #[(.int u0), (.int u1), (.int u2), (.int u3), (.int u4)] maxLocals)) T284 (mkF m 262 #[.val (.int u0), .val (.int u1), .val (.int u2), .val (.int u3), .val (.int u4), .val (.ref b2), .val (.ref b15), .val (.int (1 : Int32)), .val (.int (1 : Int32)), .val (.int (1 : Int32)), .val (.int (0 : Int32))] [(.int (1 : Int32))]) := fun t k => pre284 t (by
                  refine XS.iload X284.here hx rfl (hb hby at_230) rfl ?_
                  refine XS.ifYes X284.here hx rfl (pc0 := 232) (pc' := 249) rfl (hb hby at_232) rfl ((if0 _ _).trans (feq (by decide)).2) (by decide) (by decide) ?_
                  refine XS.iconst X284.here hx rfl (hb hby at_249) ?_
                  refine XS.icmpNo X284.here hx rfl (hb hby at_250) rfl (teq (by decide)).2 ?_
                  refine XS.iconst X284.here hx rfl (hb hby at_253) ?_
                  refine XS.goto X284.here hx rfl (pc0 := 254) (pc' := 258) rfl (hb hby at_254) (by decide) (by decide) ?_
                  show Steps p.tables e below (T284.setTop (mkF m 258 #[.val (.int u0), .val (.int u1), .val (.int u2), .val (.int u3), .val (.int u4), .val (.ref b2), .val (.ref b15), .val (.int (1 : Int32)), .val (.int (1 : Int32)), .val (.int (1 : Int32)), .val (.int (0 : Int32))] [(.int (1 : Int32))])) _
                  refine XS.istore X284.here hx rfl (hb hby at_258) rfl (l' := #[.val (.int u0), .val (.int u1), .val (.int u2), .val (.int u3), .val (.int u4), .val (.ref b2), .val (.ref b15), .val (.int (1 : Int32)), .val (.int (1 : Int32)), .val (.int (1 : Int32)), .val (.int (0 : Int32))]) rfl ?_
                  show Steps p.tables e below (T284.setTop (mkF m 260 #[.val (.int u0), .val (.int u1), .val (.int u2), .val (.int u3), .val (.int u4), .val (.ref b2), .val (.ref b15), .val (.int (1 : Int32)), .val (.int (1 : Int32)), .val (.int (1 : Int32)), .val (.int (0 : Int32))] [])) _
                  refine XS.iload X284.here hx rfl (hb hby at_260) rfl ?_
                  exact k)
              obtain ⟨fs, hr, hrun, hended, hW, hsame⟩ := X284.leave (v := some (.int (1 : Int32))) (fun h => by rw [Bd.returns] at h; cases h) (BodyLoose.notSynchronized Bd)
              refine ⟨_, _, pre285 _ ?_, hrun, hended, _, _, rfl, ?_, ⟨_, rfl⟩, hW, hsame.mono (Nat.le_of_ble_eq_true rfl) (Nat.le_of_ble_eq_true rfl)⟩
              · exact retN X284 hx (t := .boolean) Bd.returns (by simp) (hb hby at_262) hr
              · show Q_law Z u0 u1 u2 u3 u4 h0 n0 _ T284.heap _
                rw [e284]
                exact ⟨rfl, N284⟩
          · -- hc272: False
            have pre286 : Go p.tables e below (s₁.setTop (entryFrame m #[(.int u0), (.int u1), (.int u2), (.int u3), (.int u4)] maxLocals)) T268 (mkF m 194 #[.val (.int u0), .val (.int u1), .val (.int u2), .val (.int u3), .val (.int u4), .val (.ref b2), .val (.ref b15), .val (.int (1 : Int32)), .val (.int (1 : Int32)), .val (.int (1 : Int32)), .val (.int (1 : Int32))] [(.int (1 : Int32)), (.ref b15)]) := fun t k => pre271 t (by
                refine XS.ifNo X268.here hx rfl (hb hby at_188) rfl ((if0 _ _).trans (feq hc272).1) ?_
                refine XS.aload X268.here hx rfl (hb hby at_191) rfl rfl ?_
                refine XS.iconst X268.here hx rfl (hb hby at_193) ?_
                exact k)
            obtain ⟨cq287, kq287, q287a, q287b, q287c⟩ := isOf hZ e268 fo263_0
            obtain ⟨_, _, ⟨T287, L287, k287, n287⟩, -, X287, ⟨Lc287, hQ287, l287, y287, z287⟩, st287⟩ := X268.virtualBack hx (y := (⟨"com/example/octopoll/octopoll/PageHeap", "remove", "(I)V"⟩ : MethodName)) (z := (⟨"com/example/octopoll/octopoll/PageHeap", "remove", "(I)V"⟩ : MethodName)) hown (mvT hZ (hw _ (List.mem_of_getElem? (i := 45) rfl))) (mvT hZ (hw _ (List.mem_of_getElem? (i := 46) rfl))) (notFace_of_selects (args := #[]) (mvT hZ (hw _ (List.mem_of_getElem? (i := 48) rfl)))) (mvT hZ (hw _ (List.mem_of_getElem? (i := 48) rfl))) (mvT hZ (hw _ (List.mem_of_getElem? (i := 47) rfl))) (by decide) (backOf (W := 0) (rm_rem1 l Z av0 hw [] b15 b2 ha25 pa25 k2 kh25 kp25 (FP.i2d (u2 &&& (3 : Int32))) (FP.i2d (u3 &&& (3 : Int32))) (FP.i2d (u4 &&& (3 : Int32))) z0263 z1263 z2263 z3263 z4263 z5263 true true T263.heap n0 f264 fo263_0 fo263_1 fo263_2 fo263_3 fo263_4 f265 fo263_5 fo263_6 g17 gha25 gpa25 ne27 ne30 po25_0 ne16.symm ne26 ne29 po263_0) hZ (hw _ (List.mem_of_getElem? (i := 49) rfl)) (hw _ (List.mem_of_getElem? (i := 3) rfl)) (by decide) (by decide)) q287a q287c (g := (mkF m 194 #[.val (.int u0), .val (.int u1), .val (.int u2), .val (.int u3), .val (.int u4), .val (.ref b2), .val (.ref b15), .val (.int (1 : Int32)), .val (.int (1 : Int32)), .val (.int (1 : Int32)), .val (.int (1 : Int32))] [(.int (1 : Int32)), (.ref b15)])) rfl (by rw [hml]; rfl) (Steps.refl _) (argsL := [(.int (1 : Int32))]) (rest := []) (lenOf pd_2 rfl) rfl (by show 2 * 0 + _ ≤ _; exact Nat.le_of_eq rfl) (hb hby at_194) (fun _ _ => ⟨rfl, e268, (by decide : 4 + 0 ≤ _), (by decide : 13 + 0 ≤ _)⟩)
            dsimp only [Pt.U, Pt.locs, Pt.cells, Pt.slots] at X287 l287 y287 z287 st287 hQ287
            subst l287 y287 z287
            obtain ⟨z0287, z1287, z2287, z3287, z4287, z5287, hv287, N287q, K287, fo287_0, fo287_1, fo287_2, fo287_3, fo287_4, fo287_5, fo287_6, po287_0⟩ := hQ287
            have f288 := Nat.le_trans f264 K287.1
            have f289 := f265.keep K287 (ninS ne16 (ninS ne26 (ninS ne29 nin0)))
            have f290 := fo263_0.keep K287
            subst hv287
            have N287 := Fr.app N268 N287q
            have pre287 : Go p.tables e below (s₁.setTop (entryFrame m #[(.int u0), (.int u1), (.int u2), (.int u3), (.int u4)] maxLocals)) T287 (mkF m 197 #[.val (.int u0), .val (.int u1), .val (.int u2), .val (.int u3), .val (.int u4), .val (.ref b2), .val (.ref b15), .val (.int (1 : Int32)), .val (.int (1 : Int32)), .val (.int (1 : Int32)), .val (.int (1 : Int32))] []) := fun t k => pre286 t (st287.trans k)
            have pre291 : Go p.tables e below (s₁.setTop (entryFrame m #[(.int u0), (.int u1), (.int u2), (.int u3), (.int u4)] maxLocals)) T287 (mkF m 208 #[.val (.int u0), .val (.int u1), .val (.int u2), .val (.int u3), .val (.int u4), .val (.ref b2), .val (.ref b15), .val (.int (1 : Int32)), .val (.int (1 : Int32)), .val (.int (0 : Int32)), .val (.int (1 : Int32))] [(.int (u1 &&& (4 : Int32)))]) := fun t k => pre287 t (by
                refine XS.iconst X287.here hx rfl (hb hby at_197) ?_
                refine XS.istore X287.here hx rfl (hb hby at_198) rfl (l' := #[.val (.int u0), .val (.int u1), .val (.int u2), .val (.int u3), .val (.int u4), .val (.ref b2), .val (.ref b15), .val (.int (1 : Int32)), .val (.int (1 : Int32)), .val (.int (0 : Int32)), .val (.int (1 : Int32))]) rfl ?_
                show Steps p.tables e below (T287.setTop (mkF m 200 #[.val (.int u0), .val (.int u1), .val (.int u2), .val (.int u3), .val (.int u4), .val (.ref b2), .val (.ref b15), .val (.int (1 : Int32)), .val (.int (1 : Int32)), .val (.int (0 : Int32)), .val (.int (1 : Int32))] [])) _
                refine XS.iload X287.here hx rfl (hb hby at_200) rfl ?_
                refine XS.ifNo X287.here hx rfl (hb hby at_202) rfl ((if0 _ _).trans (feq (by decide)).1) ?_
                refine XS.iloadN X287.here hx rfl (hb hby at_205) rfl ?_
                refine XS.iconst X287.here hx rfl (hb hby at_206) ?_
                refine XS.iand X287.here hx rfl (hb hby at_207) rfl ?_
                exact k)
            by_cases hc292 : (u1 &&& (4 : Int32)) = (0 : Int32)
            · -- hc292: True
              have pre293 : Go p.tables e below (s₁.setTop (entryFrame m #[(.int u0), (.int u1), (.int u2), (.int u3), (.int u4)] maxLocals)) T287 (mkF m 227 #[.val (.int u0), .val (.int u1), .val (.int u2), .val (.int u3), .val (.int u4), .val (.ref b2), .val (.ref b15), .val (.int (1 : Int32)), .val (.int (1 : Int32)), .val (.int (0 : Int32)), .val (.int (1 : Int32))] [(.ref b15)]) := fun t k => pre291 t (by
                  refine XS.ifYes X287.here hx rfl (pc0 := 208) (pc' := 220) rfl (hb hby at_208) rfl ((if0 _ _).trans (teq hc292).1) (by decide) (by decide) ?_
                  refine XS.iload X287.here hx rfl (hb hby at_220) rfl ?_
                  refine XS.ifNo X287.here hx rfl (hb hby at_222) rfl ((if0 _ _).trans (feq (by decide)).1) ?_
                  refine XS.aload X287.here hx rfl (hb hby at_225) rfl rfl ?_
                  exact k)
              obtain ⟨cq294, kq294, q294a, q294b, q294c⟩ := isOf hZ rfl fo287_0
              obtain ⟨_, _, ⟨T294, L294, k294, n294⟩, -, X294, ⟨Lc294, hQ294, l294, y294, z294⟩, st294⟩ := X287.virtualBack hx (y := (⟨"com/example/octopoll/octopoll/PageHeap", "isEmpty", "()Z"⟩ : MethodName)) (z := (⟨"com/example/octopoll/octopoll/PageHeap", "isEmpty", "()Z"⟩ : MethodName)) hown (mvT hZ (hw _ (List.mem_of_getElem? (i := 21) rfl))) (mvT hZ (hw _ (List.mem_of_getElem? (i := 22) rfl))) (notFace_of_selects (args := #[]) (mvT hZ (hw _ (List.mem_of_getElem? (i := 24) rfl)))) (mvT hZ (hw _ (List.mem_of_getElem? (i := 24) rfl))) (mvT hZ (hw _ (List.mem_of_getElem? (i := 23) rfl))) (by decide) (backOf (W := 0) (rm_ise l Z av0 hw [] b15 (2 : Int32) T287.heap n0  fo287_4) hZ (hw _ (List.mem_of_getElem? (i := 25) rfl)) (hw _ (List.mem_of_getElem? (i := 3) rfl)) (by decide) (by decide)) q294a q294c (g := (mkF m 227 #[.val (.int u0), .val (.int u1), .val (.int u2), .val (.int u3), .val (.int u4), .val (.ref b2), .val (.ref b15), .val (.int (1 : Int32)), .val (.int (1 : Int32)), .val (.int (0 : Int32)), .val (.int (1 : Int32))] [(.ref b15)])) rfl (by rw [hml]; rfl) (Steps.refl _) (argsL := []) (rest := []) (lenOf pd_5 rfl) rfl (by show 2 * 0 + _ ≤ _; exact Nat.le_of_eq rfl) (hb hby at_227) (fun _ _ => ⟨rfl, rfl, (by decide : 4 + 0 ≤ _), (by decide : 13 + 0 ≤ _)⟩)
              dsimp only [Pt.U, Pt.locs, Pt.cells, Pt.slots] at X294 l294 y294 z294 st294 hQ294
              subst l294 y294 z294
              obtain ⟨hv294, N294q, e294⟩ := hQ294
              rw [show own_e (2 : Int32) = (0 : Int32) from rfl] at hv294
              subst hv294
              have N294 := Fr.app N287 N294q
              have pre294 : Go p.tables e below (s₁.setTop (entryFrame m #[(.int u0), (.int u1), (.int u2), (.int u3), (.int u4)] maxLocals)) T294 (mkF m 230 #[.val (.int u0), .val (.int u1), .val (.int u2), .val (.int u3), .val (.int u4), .val (.ref b2), .val (.ref b15), .val (.int (1 : Int32)), .val (.int (1 : Int32)), .val (.int (0 : Int32)), .val (.int (1 : Int32))] [(.int (0 : Int32))]) := fun t k => pre293 t (st294.trans k)
              have pre295 : Go p.tables e below (s₁.setTop (entryFrame m #[(.int u0), (.int u1), (.int u2), (.int u3), (.int u4)] maxLocals)) T294 (mkF m 262 #[.val (.int u0), .val (.int u1), .val (.int u2), .val (.int u3), .val (.int u4), .val (.ref b2), .val (.ref b15), .val (.int (1 : Int32)), .val (.int (1 : Int32)), .val (.int (0 : Int32)), .val (.int (1 : Int32))] [(.int (1 : Int32))]) := fun t k => pre294 t (by
                  refine XS.iload X294.here hx rfl (hb hby at_230) rfl ?_
                  refine XS.ifYes X294.here hx rfl (pc0 := 232) (pc' := 249) rfl (hb hby at_232) rfl ((if0 _ _).trans (feq (by decide)).2) (by decide) (by decide) ?_
                  refine XS.iconst X294.here hx rfl (hb hby at_249) ?_
                  refine XS.icmpNo X294.here hx rfl (hb hby at_250) rfl (teq (by decide)).2 ?_
                  refine XS.iconst X294.here hx rfl (hb hby at_253) ?_
                  refine XS.goto X294.here hx rfl (pc0 := 254) (pc' := 258) rfl (hb hby at_254) (by decide) (by decide) ?_
                  show Steps p.tables e below (T294.setTop (mkF m 258 #[.val (.int u0), .val (.int u1), .val (.int u2), .val (.int u3), .val (.int u4), .val (.ref b2), .val (.ref b15), .val (.int (1 : Int32)), .val (.int (1 : Int32)), .val (.int (0 : Int32)), .val (.int (1 : Int32))] [(.int (1 : Int32))])) _
                  refine XS.istore X294.here hx rfl (hb hby at_258) rfl (l' := #[.val (.int u0), .val (.int u1), .val (.int u2), .val (.int u3), .val (.int u4), .val (.ref b2), .val (.ref b15), .val (.int (1 : Int32)), .val (.int (1 : Int32)), .val (.int (0 : Int32)), .val (.int (1 : Int32))]) rfl ?_
                  show Steps p.tables e below (T294.setTop (mkF m 260 #[.val (.int u0), .val (.int u1), .val (.int u2), .val (.int u3), .val (.int u4), .val (.ref b2), .val (.ref b15), .val (.int (1 : Int32)), .val (.int (1 : Int32)), .val (.int (0 : Int32)), .val (.int (1 : Int32))] [])) _
                  refine XS.iload X294.here hx rfl (hb hby at_260) rfl ?_
                  exact k)
              obtain ⟨fs, hr, hrun, hended, hW, hsame⟩ := X294.leave (v := some (.int (1 : Int32))) (fun h => by rw [Bd.returns] at h; cases h) (BodyLoose.notSynchronized Bd)
              refine ⟨_, _, pre295 _ ?_, hrun, hended, _, _, rfl, ?_, ⟨_, rfl⟩, hW, hsame.mono (Nat.le_of_ble_eq_true rfl) (Nat.le_of_ble_eq_true rfl)⟩
              · exact retN X294 hx (t := .boolean) Bd.returns (by simp) (hb hby at_262) hr
              · show Q_law Z u0 u1 u2 u3 u4 h0 n0 _ T294.heap _
                rw [e294]
                exact ⟨rfl, N294⟩
            · -- hc292: False
              have pre296 : Go p.tables e below (s₁.setTop (entryFrame m #[(.int u0), (.int u1), (.int u2), (.int u3), (.int u4)] maxLocals)) T287 (mkF m 214 #[.val (.int u0), .val (.int u1), .val (.int u2), .val (.int u3), .val (.int u4), .val (.ref b2), .val (.ref b15), .val (.int (1 : Int32)), .val (.int (1 : Int32)), .val (.int (0 : Int32)), .val (.int (1 : Int32))] [(.int (2 : Int32)), (.ref b15)]) := fun t k => pre291 t (by
                  refine XS.ifNo X287.here hx rfl (hb hby at_208) rfl ((if0 _ _).trans (feq hc292).1) ?_
                  refine XS.aload X287.here hx rfl (hb hby at_211) rfl rfl ?_
                  refine XS.iconst X287.here hx rfl (hb hby at_213) ?_
                  exact k)
              obtain ⟨cq297, kq297, q297a, q297b, q297c⟩ := isOf hZ rfl fo287_0
              obtain ⟨_, _, ⟨T297, L297, k297, n297⟩, -, X297, ⟨Lc297, hQ297, l297, y297, z297⟩, st297⟩ := X287.virtualBack hx (y := (⟨"com/example/octopoll/octopoll/PageHeap", "remove", "(I)V"⟩ : MethodName)) (z := (⟨"com/example/octopoll/octopoll/PageHeap", "remove", "(I)V"⟩ : MethodName)) hown (mvT hZ (hw _ (List.mem_of_getElem? (i := 45) rfl))) (mvT hZ (hw _ (List.mem_of_getElem? (i := 46) rfl))) (notFace_of_selects (args := #[]) (mvT hZ (hw _ (List.mem_of_getElem? (i := 48) rfl)))) (mvT hZ (hw _ (List.mem_of_getElem? (i := 48) rfl))) (mvT hZ (hw _ (List.mem_of_getElem? (i := 47) rfl))) (by decide) (backOf (W := 0) (rm_rem2 l Z av0 hw [] b15 b2 ha25 pa25 k2 kh25 kp25 (FP.i2d (u2 &&& (3 : Int32))) (FP.i2d (u3 &&& (3 : Int32))) (FP.i2d (u4 &&& (3 : Int32))) z0287 z1287 z2287 z3287 z4287 z5287 true false T287.heap n0 f288 fo287_0 fo287_1 fo287_2 fo287_3 fo287_4 f289 fo287_5 fo287_6 g17 gha25 gpa25 ne27 ne30 po25_0 ne16.symm ne26 ne29 po287_0) hZ (hw _ (List.mem_of_getElem? (i := 49) rfl)) (hw _ (List.mem_of_getElem? (i := 3) rfl)) (by decide) (by decide)) q297a q297c (g := (mkF m 214 #[.val (.int u0), .val (.int u1), .val (.int u2), .val (.int u3), .val (.int u4), .val (.ref b2), .val (.ref b15), .val (.int (1 : Int32)), .val (.int (1 : Int32)), .val (.int (0 : Int32)), .val (.int (1 : Int32))] [(.int (2 : Int32)), (.ref b15)])) rfl (by rw [hml]; rfl) (Steps.refl _) (argsL := [(.int (2 : Int32))]) (rest := []) (lenOf pd_2 rfl) rfl (by show 2 * 0 + _ ≤ _; exact Nat.le_of_eq rfl) (hb hby at_214) (fun _ _ => ⟨rfl, rfl, (by decide : 4 + 0 ≤ _), (by decide : 13 + 0 ≤ _)⟩)
              dsimp only [Pt.U, Pt.locs, Pt.cells, Pt.slots] at X297 l297 y297 z297 st297 hQ297
              subst l297 y297 z297
              obtain ⟨z0297, z1297, z2297, z3297, z4297, z5297, hv297, N297q, K297, fo297_0, fo297_1, fo297_2, fo297_3, fo297_4, fo297_5, fo297_6, po297_0⟩ := hQ297
              have f298 := Nat.le_trans f288 K297.1
              have f299 := f289.keep K297 (ninS ne16 (ninS ne26 (ninS ne29 nin0)))
              have f300 := fo287_0.keep K297
              subst hv297
              have N297 := Fr.app N287 N297q
              have pre297 : Go p.tables e below (s₁.setTop (entryFrame m #[(.int u0), (.int u1), (.int u2), (.int u3), (.int u4)] maxLocals)) T297 (mkF m 217 #[.val (.int u0), .val (.int u1), .val (.int u2), .val (.int u3), .val (.int u4), .val (.ref b2), .val (.ref b15), .val (.int (1 : Int32)), .val (.int (1 : Int32)), .val (.int (0 : Int32)), .val (.int (1 : Int32))] []) := fun t k => pre296 t (st297.trans k)
              have pre301 : Go p.tables e below (s₁.setTop (entryFrame m #[(.int u0), (.int u1), (.int u2), (.int u3), (.int u4)] maxLocals)) T297 (mkF m 227 #[.val (.int u0), .val (.int u1), .val (.int u2), .val (.int u3), .val (.int u4), .val (.ref b2), .val (.ref b15), .val (.int (1 : Int32)), .val (.int (1 : Int32)), .val (.int (0 : Int32)), .val (.int (0 : Int32))] [(.ref b15)]) := fun t k => pre297 t (by
                  refine XS.iconst X297.here hx rfl (hb hby at_217) ?_
                  refine XS.istore X297.here hx rfl (hb hby at_218) rfl (l' := #[.val (.int u0), .val (.int u1), .val (.int u2), .val (.int u3), .val (.int u4), .val (.ref b2), .val (.ref b15), .val (.int (1 : Int32)), .val (.int (1 : Int32)), .val (.int (0 : Int32)), .val (.int (0 : Int32))]) rfl ?_
                  show Steps p.tables e below (T297.setTop (mkF m 220 #[.val (.int u0), .val (.int u1), .val (.int u2), .val (.int u3), .val (.int u4), .val (.ref b2), .val (.ref b15), .val (.int (1 : Int32)), .val (.int (1 : Int32)), .val (.int (0 : Int32)), .val (.int (0 : Int32))] [])) _
                  refine XS.iload X297.here hx rfl (hb hby at_220) rfl ?_
                  refine XS.ifNo X297.here hx rfl (hb hby at_222) rfl ((if0 _ _).trans (feq (by decide)).1) ?_
                  refine XS.aload X297.here hx rfl (hb hby at_225) rfl rfl ?_
                  exact k)
              obtain ⟨cq302, kq302, q302a, q302b, q302c⟩ := isOf hZ rfl fo297_0
              obtain ⟨_, _, ⟨T302, L302, k302, n302⟩, -, X302, ⟨Lc302, hQ302, l302, y302, z302⟩, st302⟩ := X297.virtualBack hx (y := (⟨"com/example/octopoll/octopoll/PageHeap", "isEmpty", "()Z"⟩ : MethodName)) (z := (⟨"com/example/octopoll/octopoll/PageHeap", "isEmpty", "()Z"⟩ : MethodName)) hown (mvT hZ (hw _ (List.mem_of_getElem? (i := 21) rfl))) (mvT hZ (hw _ (List.mem_of_getElem? (i := 22) rfl))) (notFace_of_selects (args := #[]) (mvT hZ (hw _ (List.mem_of_getElem? (i := 24) rfl)))) (mvT hZ (hw _ (List.mem_of_getElem? (i := 24) rfl))) (mvT hZ (hw _ (List.mem_of_getElem? (i := 23) rfl))) (by decide) (backOf (W := 0) (rm_ise l Z av0 hw [] b15 (1 : Int32) T297.heap n0  fo297_4) hZ (hw _ (List.mem_of_getElem? (i := 25) rfl)) (hw _ (List.mem_of_getElem? (i := 3) rfl)) (by decide) (by decide)) q302a q302c (g := (mkF m 227 #[.val (.int u0), .val (.int u1), .val (.int u2), .val (.int u3), .val (.int u4), .val (.ref b2), .val (.ref b15), .val (.int (1 : Int32)), .val (.int (1 : Int32)), .val (.int (0 : Int32)), .val (.int (0 : Int32))] [(.ref b15)])) rfl (by rw [hml]; rfl) (Steps.refl _) (argsL := []) (rest := []) (lenOf pd_5 rfl) rfl (by show 2 * 0 + _ ≤ _; exact Nat.le_of_eq rfl) (hb hby at_227) (fun _ _ => ⟨rfl, rfl, (by decide : 4 + 0 ≤ _), (by decide : 13 + 0 ≤ _)⟩)
              dsimp only [Pt.U, Pt.locs, Pt.cells, Pt.slots] at X302 l302 y302 z302 st302 hQ302
              subst l302 y302 z302
              obtain ⟨hv302, N302q, e302⟩ := hQ302
              rw [show own_e (1 : Int32) = (0 : Int32) from rfl] at hv302
              subst hv302
              have N302 := Fr.app N297 N302q
              have pre302 : Go p.tables e below (s₁.setTop (entryFrame m #[(.int u0), (.int u1), (.int u2), (.int u3), (.int u4)] maxLocals)) T302 (mkF m 230 #[.val (.int u0), .val (.int u1), .val (.int u2), .val (.int u3), .val (.int u4), .val (.ref b2), .val (.ref b15), .val (.int (1 : Int32)), .val (.int (1 : Int32)), .val (.int (0 : Int32)), .val (.int (0 : Int32))] [(.int (0 : Int32))]) := fun t k => pre301 t (st302.trans k)
              have pre303 : Go p.tables e below (s₁.setTop (entryFrame m #[(.int u0), (.int u1), (.int u2), (.int u3), (.int u4)] maxLocals)) T302 (mkF m 262 #[.val (.int u0), .val (.int u1), .val (.int u2), .val (.int u3), .val (.int u4), .val (.ref b2), .val (.ref b15), .val (.int (1 : Int32)), .val (.int (1 : Int32)), .val (.int (0 : Int32)), .val (.int (0 : Int32))] [(.int (1 : Int32))]) := fun t k => pre302 t (by
                  refine XS.iload X302.here hx rfl (hb hby at_230) rfl ?_
                  refine XS.ifYes X302.here hx rfl (pc0 := 232) (pc' := 249) rfl (hb hby at_232) rfl ((if0 _ _).trans (feq (by decide)).2) (by decide) (by decide) ?_
                  refine XS.iconst X302.here hx rfl (hb hby at_249) ?_
                  refine XS.icmpNo X302.here hx rfl (hb hby at_250) rfl (teq (by decide)).2 ?_
                  refine XS.iconst X302.here hx rfl (hb hby at_253) ?_
                  refine XS.goto X302.here hx rfl (pc0 := 254) (pc' := 258) rfl (hb hby at_254) (by decide) (by decide) ?_
                  show Steps p.tables e below (T302.setTop (mkF m 258 #[.val (.int u0), .val (.int u1), .val (.int u2), .val (.int u3), .val (.int u4), .val (.ref b2), .val (.ref b15), .val (.int (1 : Int32)), .val (.int (1 : Int32)), .val (.int (0 : Int32)), .val (.int (0 : Int32))] [(.int (1 : Int32))])) _
                  refine XS.istore X302.here hx rfl (hb hby at_258) rfl (l' := #[.val (.int u0), .val (.int u1), .val (.int u2), .val (.int u3), .val (.int u4), .val (.ref b2), .val (.ref b15), .val (.int (1 : Int32)), .val (.int (1 : Int32)), .val (.int (0 : Int32)), .val (.int (0 : Int32))]) rfl ?_
                  show Steps p.tables e below (T302.setTop (mkF m 260 #[.val (.int u0), .val (.int u1), .val (.int u2), .val (.int u3), .val (.int u4), .val (.ref b2), .val (.ref b15), .val (.int (1 : Int32)), .val (.int (1 : Int32)), .val (.int (0 : Int32)), .val (.int (0 : Int32))] [])) _
                  refine XS.iload X302.here hx rfl (hb hby at_260) rfl ?_
                  exact k)
              obtain ⟨fs, hr, hrun, hended, hW, hsame⟩ := X302.leave (v := some (.int (1 : Int32))) (fun h => by rw [Bd.returns] at h; cases h) (BodyLoose.notSynchronized Bd)
              refine ⟨_, _, pre303 _ ?_, hrun, hended, _, _, rfl, ?_, ⟨_, rfl⟩, hW, hsame.mono (Nat.le_of_ble_eq_true rfl) (Nat.le_of_ble_eq_true rfl)⟩
              · exact retN X302 hx (t := .boolean) Bd.returns (by simp) (hb hby at_262) hr
              · show Q_law Z u0 u1 u2 u3 u4 h0 n0 _ T302.heap _
                rw [e302]
                exact ⟨rfl, N302⟩
        · -- hc270: False
          have pre304 : Go p.tables e below (s₁.setTop (entryFrame m #[(.int u0), (.int u1), (.int u2), (.int u3), (.int u4)] maxLocals)) T268 (mkF m 174 #[.val (.int u0), .val (.int u1), .val (.int u2), .val (.int u3), .val (.int u4), .val (.ref b2), .val (.ref b15), .val (.int (1 : Int32)), .val (.int (1 : Int32)), .val (.int (1 : Int32)), .val (.int (1 : Int32))] [(.int (0 : Int32)), (.ref b15)]) := fun t k => pre269 t (by
              refine XS.ifNo X268.here hx rfl (hb hby at_168) rfl ((if0 _ _).trans (feq hc270).1) ?_
              refine XS.aload X268.here hx rfl (hb hby at_171) rfl rfl ?_
              refine XS.iconst X268.here hx rfl (hb hby at_173) ?_
              exact k)
          obtain ⟨cq305, kq305, q305a, q305b, q305c⟩ := isOf hZ e268 fo263_0
          obtain ⟨_, _, ⟨T305, L305, k305, n305⟩, -, X305, ⟨Lc305, hQ305, l305, y305, z305⟩, st305⟩ := X268.virtualBack hx (y := (⟨"com/example/octopoll/octopoll/PageHeap", "remove", "(I)V"⟩ : MethodName)) (z := (⟨"com/example/octopoll/octopoll/PageHeap", "remove", "(I)V"⟩ : MethodName)) hown (mvT hZ (hw _ (List.mem_of_getElem? (i := 45) rfl))) (mvT hZ (hw _ (List.mem_of_getElem? (i := 46) rfl))) (notFace_of_selects (args := #[]) (mvT hZ (hw _ (List.mem_of_getElem? (i := 48) rfl)))) (mvT hZ (hw _ (List.mem_of_getElem? (i := 48) rfl))) (mvT hZ (hw _ (List.mem_of_getElem? (i := 47) rfl))) (by decide) (backOf (W := 0) (rm_rem0 l Z av0 hw [] b15 b2 ha25 pa25 k2 kh25 kp25 (FP.i2d (u2 &&& (3 : Int32))) (FP.i2d (u3 &&& (3 : Int32))) (FP.i2d (u4 &&& (3 : Int32))) z0263 z1263 z2263 z3263 z4263 z5263 true true T263.heap n0 f264 fo263_0 fo263_1 fo263_2 fo263_3 fo263_4 f265 fo263_5 fo263_6 g17 gha25 gpa25 ne27 ne30 po25_0 ne16.symm ne26 ne29 po263_0) hZ (hw _ (List.mem_of_getElem? (i := 49) rfl)) (hw _ (List.mem_of_getElem? (i := 3) rfl)) (by decide) (by decide)) q305a q305c (g := (mkF m 174 #[.val (.int u0), .val (.int u1), .val (.int u2), .val (.int u3), .val (.int u4), .val (.ref b2), .val (.ref b15), .val (.int (1 : Int32)), .val (.int (1 : Int32)), .val (.int (1 : Int32)), .val (.int (1 : Int32))] [(.int (0 : Int32)), (.ref b15)])) rfl (by rw [hml]; rfl) (Steps.refl _) (argsL := [(.int (0 : Int32))]) (rest := []) (lenOf pd_2 rfl) rfl (by show 2 * 0 + _ ≤ _; exact Nat.le_of_eq rfl) (hb hby at_174) (fun _ _ => ⟨rfl, e268, (by decide : 4 + 0 ≤ _), (by decide : 13 + 0 ≤ _)⟩)
          dsimp only [Pt.U, Pt.locs, Pt.cells, Pt.slots] at X305 l305 y305 z305 st305 hQ305
          subst l305 y305 z305
          obtain ⟨z0305, z1305, z2305, z3305, z4305, z5305, hv305, N305q, K305, fo305_0, fo305_1, fo305_2, fo305_3, fo305_4, fo305_5, fo305_6, po305_0⟩ := hQ305
          have f306 := Nat.le_trans f264 K305.1
          have f307 := f265.keep K305 (ninS ne16 (ninS ne26 (ninS ne29 nin0)))
          have f308 := fo263_0.keep K305
          subst hv305
          have N305 := Fr.app N268 N305q
          have pre305 : Go p.tables e below (s₁.setTop (entryFrame m #[(.int u0), (.int u1), (.int u2), (.int u3), (.int u4)] maxLocals)) T305 (mkF m 177 #[.val (.int u0), .val (.int u1), .val (.int u2), .val (.int u3), .val (.int u4), .val (.ref b2), .val (.ref b15), .val (.int (1 : Int32)), .val (.int (1 : Int32)), .val (.int (1 : Int32)), .val (.int (1 : Int32))] []) := fun t k => pre304 t (st305.trans k)
          have pre309 : Go p.tables e below (s₁.setTop (entryFrame m #[(.int u0), (.int u1), (.int u2), (.int u3), (.int u4)] maxLocals)) T305 (mkF m 188 #[.val (.int u0), .val (.int u1), .val (.int u2), .val (.int u3), .val (.int u4), .val (.ref b2), .val (.ref b15), .val (.int (1 : Int32)), .val (.int (0 : Int32)), .val (.int (1 : Int32)), .val (.int (1 : Int32))] [(.int (u1 &&& (2 : Int32)))]) := fun t k => pre305 t (by
              refine XS.iconst X305.here hx rfl (hb hby at_177) ?_
              refine XS.istore X305.here hx rfl (hb hby at_178) rfl (l' := #[.val (.int u0), .val (.int u1), .val (.int u2), .val (.int u3), .val (.int u4), .val (.ref b2), .val (.ref b15), .val (.int (1 : Int32)), .val (.int (0 : Int32)), .val (.int (1 : Int32)), .val (.int (1 : Int32))]) rfl ?_
              show Steps p.tables e below (T305.setTop (mkF m 180 #[.val (.int u0), .val (.int u1), .val (.int u2), .val (.int u3), .val (.int u4), .val (.ref b2), .val (.ref b15), .val (.int (1 : Int32)), .val (.int (0 : Int32)), .val (.int (1 : Int32)), .val (.int (1 : Int32))] [])) _
              refine XS.iload X305.here hx rfl (hb hby at_180) rfl ?_
              refine XS.ifNo X305.here hx rfl (hb hby at_182) rfl ((if0 _ _).trans (feq (by decide)).1) ?_
              refine XS.iloadN X305.here hx rfl (hb hby at_185) rfl ?_
              refine XS.iconst X305.here hx rfl (hb hby at_186) ?_
              refine XS.iand X305.here hx rfl (hb hby at_187) rfl ?_
              exact k)
          by_cases hc310 : (u1 &&& (2 : Int32)) = (0 : Int32)
          · -- hc310: True
            have pre311 : Go p.tables e below (s₁.setTop (entryFrame m #[(.int u0), (.int u1), (.int u2), (.int u3), (.int u4)] maxLocals)) T305 (mkF m 208 #[.val (.int u0), .val (.int u1), .val (.int u2), .val (.int u3), .val (.int u4), .val (.ref b2), .val (.ref b15), .val (.int (1 : Int32)), .val (.int (0 : Int32)), .val (.int (1 : Int32)), .val (.int (1 : Int32))] [(.int (u1 &&& (4 : Int32)))]) := fun t k => pre309 t (by
                refine XS.ifYes X305.here hx rfl (pc0 := 188) (pc' := 200) rfl (hb hby at_188) rfl ((if0 _ _).trans (teq hc310).1) (by decide) (by decide) ?_
                refine XS.iload X305.here hx rfl (hb hby at_200) rfl ?_
                refine XS.ifNo X305.here hx rfl (hb hby at_202) rfl ((if0 _ _).trans (feq (by decide)).1) ?_
                refine XS.iloadN X305.here hx rfl (hb hby at_205) rfl ?_
                refine XS.iconst X305.here hx rfl (hb hby at_206) ?_
                refine XS.iand X305.here hx rfl (hb hby at_207) rfl ?_
                exact k)
            by_cases hc312 : (u1 &&& (4 : Int32)) = (0 : Int32)
            · -- hc312: True
              have pre313 : Go p.tables e below (s₁.setTop (entryFrame m #[(.int u0), (.int u1), (.int u2), (.int u3), (.int u4)] maxLocals)) T305 (mkF m 227 #[.val (.int u0), .val (.int u1), .val (.int u2), .val (.int u3), .val (.int u4), .val (.ref b2), .val (.ref b15), .val (.int (1 : Int32)), .val (.int (0 : Int32)), .val (.int (1 : Int32)), .val (.int (1 : Int32))] [(.ref b15)]) := fun t k => pre311 t (by
                  refine XS.ifYes X305.here hx rfl (pc0 := 208) (pc' := 220) rfl (hb hby at_208) rfl ((if0 _ _).trans (teq hc312).1) (by decide) (by decide) ?_
                  refine XS.iload X305.here hx rfl (hb hby at_220) rfl ?_
                  refine XS.ifNo X305.here hx rfl (hb hby at_222) rfl ((if0 _ _).trans (feq (by decide)).1) ?_
                  refine XS.aload X305.here hx rfl (hb hby at_225) rfl rfl ?_
                  exact k)
              obtain ⟨cq314, kq314, q314a, q314b, q314c⟩ := isOf hZ rfl fo305_0
              obtain ⟨_, _, ⟨T314, L314, k314, n314⟩, -, X314, ⟨Lc314, hQ314, l314, y314, z314⟩, st314⟩ := X305.virtualBack hx (y := (⟨"com/example/octopoll/octopoll/PageHeap", "isEmpty", "()Z"⟩ : MethodName)) (z := (⟨"com/example/octopoll/octopoll/PageHeap", "isEmpty", "()Z"⟩ : MethodName)) hown (mvT hZ (hw _ (List.mem_of_getElem? (i := 21) rfl))) (mvT hZ (hw _ (List.mem_of_getElem? (i := 22) rfl))) (notFace_of_selects (args := #[]) (mvT hZ (hw _ (List.mem_of_getElem? (i := 24) rfl)))) (mvT hZ (hw _ (List.mem_of_getElem? (i := 24) rfl))) (mvT hZ (hw _ (List.mem_of_getElem? (i := 23) rfl))) (by decide) (backOf (W := 0) (rm_ise l Z av0 hw [] b15 (2 : Int32) T305.heap n0  fo305_4) hZ (hw _ (List.mem_of_getElem? (i := 25) rfl)) (hw _ (List.mem_of_getElem? (i := 3) rfl)) (by decide) (by decide)) q314a q314c (g := (mkF m 227 #[.val (.int u0), .val (.int u1), .val (.int u2), .val (.int u3), .val (.int u4), .val (.ref b2), .val (.ref b15), .val (.int (1 : Int32)), .val (.int (0 : Int32)), .val (.int (1 : Int32)), .val (.int (1 : Int32))] [(.ref b15)])) rfl (by rw [hml]; rfl) (Steps.refl _) (argsL := []) (rest := []) (lenOf pd_5 rfl) rfl (by show 2 * 0 + _ ≤ _; exact Nat.le_of_eq rfl) (hb hby at_227) (fun _ _ => ⟨rfl, rfl, (by decide : 4 + 0 ≤ _), (by decide : 13 + 0 ≤ _)⟩)
              dsimp only [Pt.U, Pt.locs, Pt.cells, Pt.slots] at X314 l314 y314 z314 st314 hQ314
              subst l314 y314 z314
              obtain ⟨hv314, N314q, e314⟩ := hQ314
              rw [show own_e (2 : Int32) = (0 : Int32) from rfl] at hv314
              subst hv314
              have N314 := Fr.app N305 N314q
              have pre314 : Go p.tables e below (s₁.setTop (entryFrame m #[(.int u0), (.int u1), (.int u2), (.int u3), (.int u4)] maxLocals)) T314 (mkF m 230 #[.val (.int u0), .val (.int u1), .val (.int u2), .val (.int u3), .val (.int u4), .val (.ref b2), .val (.ref b15), .val (.int (1 : Int32)), .val (.int (0 : Int32)), .val (.int (1 : Int32)), .val (.int (1 : Int32))] [(.int (0 : Int32))]) := fun t k => pre313 t (st314.trans k)
              have pre315 : Go p.tables e below (s₁.setTop (entryFrame m #[(.int u0), (.int u1), (.int u2), (.int u3), (.int u4)] maxLocals)) T314 (mkF m 262 #[.val (.int u0), .val (.int u1), .val (.int u2), .val (.int u3), .val (.int u4), .val (.ref b2), .val (.ref b15), .val (.int (1 : Int32)), .val (.int (0 : Int32)), .val (.int (1 : Int32)), .val (.int (1 : Int32))] [(.int (1 : Int32))]) := fun t k => pre314 t (by
                  refine XS.iload X314.here hx rfl (hb hby at_230) rfl ?_
                  refine XS.ifNo X314.here hx rfl (hb hby at_232) rfl ((if0 _ _).trans (teq (by decide)).2) ?_
                  refine XS.iload X314.here hx rfl (hb hby at_235) rfl ?_
                  refine XS.ifYes X314.here hx rfl (pc0 := 237) (pc' := 249) rfl (hb hby at_237) rfl ((if0 _ _).trans (feq (by decide)).2) (by decide) (by decide) ?_
                  refine XS.iconst X314.here hx rfl (hb hby at_249) ?_
                  refine XS.icmpNo X314.here hx rfl (hb hby at_250) rfl (teq (by decide)).2 ?_
                  refine XS.iconst X314.here hx rfl (hb hby at_253) ?_
                  refine XS.goto X314.here hx rfl (pc0 := 254) (pc' := 258) rfl (hb hby at_254) (by decide) (by decide) ?_
                  show Steps p.tables e below (T314.setTop (mkF m 258 #[.val (.int u0), .val (.int u1), .val (.int u2), .val (.int u3), .val (.int u4), .val (.ref b2), .val (.ref b15), .val (.int (1 : Int32)), .val (.int (0 : Int32)), .val (.int (1 : Int32)), .val (.int (1 : Int32))] [(.int (1 : Int32))])) _
                  refine XS.istore X314.here hx rfl (hb hby at_258) rfl (l' := #[.val (.int u0), .val (.int u1), .val (.int u2), .val (.int u3), .val (.int u4), .val (.ref b2), .val (.ref b15), .val (.int (1 : Int32)), .val (.int (0 : Int32)), .val (.int (1 : Int32)), .val (.int (1 : Int32))]) rfl ?_
                  show Steps p.tables e below (T314.setTop (mkF m 260 #[.val (.int u0), .val (.int u1), .val (.int u2), .val (.int u3), .val (.int u4), .val (.ref b2), .val (.ref b15), .val (.int (1 : Int32)), .val (.int (0 : Int32)), .val (.int (1 : Int32)), .val (.int (1 : Int32))] [])) _
                  refine XS.iload X314.here hx rfl (hb hby at_260) rfl ?_
                  exact k)
              obtain ⟨fs, hr, hrun, hended, hW, hsame⟩ := X314.leave (v := some (.int (1 : Int32))) (fun h => by rw [Bd.returns] at h; cases h) (BodyLoose.notSynchronized Bd)
              refine ⟨_, _, pre315 _ ?_, hrun, hended, _, _, rfl, ?_, ⟨_, rfl⟩, hW, hsame.mono (Nat.le_of_ble_eq_true rfl) (Nat.le_of_ble_eq_true rfl)⟩
              · exact retN X314 hx (t := .boolean) Bd.returns (by simp) (hb hby at_262) hr
              · show Q_law Z u0 u1 u2 u3 u4 h0 n0 _ T314.heap _
                rw [e314]
                exact ⟨rfl, N314⟩
            · -- hc312: False
              have pre316 : Go p.tables e below (s₁.setTop (entryFrame m #[(.int u0), (.int u1), (.int u2), (.int u3), (.int u4)] maxLocals)) T305 (mkF m 214 #[.val (.int u0), .val (.int u1), .val (.int u2), .val (.int u3), .val (.int u4), .val (.ref b2), .val (.ref b15), .val (.int (1 : Int32)), .val (.int (0 : Int32)), .val (.int (1 : Int32)), .val (.int (1 : Int32))] [(.int (2 : Int32)), (.ref b15)]) := fun t k => pre311 t (by
                  refine XS.ifNo X305.here hx rfl (hb hby at_208) rfl ((if0 _ _).trans (feq hc312).1) ?_
                  refine XS.aload X305.here hx rfl (hb hby at_211) rfl rfl ?_
                  refine XS.iconst X305.here hx rfl (hb hby at_213) ?_
                  exact k)
              obtain ⟨cq317, kq317, q317a, q317b, q317c⟩ := isOf hZ rfl fo305_0
              obtain ⟨_, _, ⟨T317, L317, k317, n317⟩, -, X317, ⟨Lc317, hQ317, l317, y317, z317⟩, st317⟩ := X305.virtualBack hx (y := (⟨"com/example/octopoll/octopoll/PageHeap", "remove", "(I)V"⟩ : MethodName)) (z := (⟨"com/example/octopoll/octopoll/PageHeap", "remove", "(I)V"⟩ : MethodName)) hown (mvT hZ (hw _ (List.mem_of_getElem? (i := 45) rfl))) (mvT hZ (hw _ (List.mem_of_getElem? (i := 46) rfl))) (notFace_of_selects (args := #[]) (mvT hZ (hw _ (List.mem_of_getElem? (i := 48) rfl)))) (mvT hZ (hw _ (List.mem_of_getElem? (i := 48) rfl))) (mvT hZ (hw _ (List.mem_of_getElem? (i := 47) rfl))) (by decide) (backOf (W := 0) (rm_rem2 l Z av0 hw [] b15 b2 ha25 pa25 k2 kh25 kp25 (FP.i2d (u2 &&& (3 : Int32))) (FP.i2d (u3 &&& (3 : Int32))) (FP.i2d (u4 &&& (3 : Int32))) z0305 z1305 z2305 z3305 z4305 z5305 false true T305.heap n0 f306 fo305_0 fo305_1 fo305_2 fo305_3 fo305_4 f307 fo305_5 fo305_6 g17 gha25 gpa25 ne27 ne30 po25_0 ne16.symm ne26 ne29 po305_0) hZ (hw _ (List.mem_of_getElem? (i := 49) rfl)) (hw _ (List.mem_of_getElem? (i := 3) rfl)) (by decide) (by decide)) q317a q317c (g := (mkF m 214 #[.val (.int u0), .val (.int u1), .val (.int u2), .val (.int u3), .val (.int u4), .val (.ref b2), .val (.ref b15), .val (.int (1 : Int32)), .val (.int (0 : Int32)), .val (.int (1 : Int32)), .val (.int (1 : Int32))] [(.int (2 : Int32)), (.ref b15)])) rfl (by rw [hml]; rfl) (Steps.refl _) (argsL := [(.int (2 : Int32))]) (rest := []) (lenOf pd_2 rfl) rfl (by show 2 * 0 + _ ≤ _; exact Nat.le_of_eq rfl) (hb hby at_214) (fun _ _ => ⟨rfl, rfl, (by decide : 4 + 0 ≤ _), (by decide : 13 + 0 ≤ _)⟩)
              dsimp only [Pt.U, Pt.locs, Pt.cells, Pt.slots] at X317 l317 y317 z317 st317 hQ317
              subst l317 y317 z317
              obtain ⟨z0317, z1317, z2317, z3317, z4317, z5317, hv317, N317q, K317, fo317_0, fo317_1, fo317_2, fo317_3, fo317_4, fo317_5, fo317_6, po317_0⟩ := hQ317
              have f318 := Nat.le_trans f306 K317.1
              have f319 := f307.keep K317 (ninS ne16 (ninS ne26 (ninS ne29 nin0)))
              have f320 := fo305_0.keep K317
              subst hv317
              have N317 := Fr.app N305 N317q
              have pre317 : Go p.tables e below (s₁.setTop (entryFrame m #[(.int u0), (.int u1), (.int u2), (.int u3), (.int u4)] maxLocals)) T317 (mkF m 217 #[.val (.int u0), .val (.int u1), .val (.int u2), .val (.int u3), .val (.int u4), .val (.ref b2), .val (.ref b15), .val (.int (1 : Int32)), .val (.int (0 : Int32)), .val (.int (1 : Int32)), .val (.int (1 : Int32))] []) := fun t k => pre316 t (st317.trans k)
              have pre321 : Go p.tables e below (s₁.setTop (entryFrame m #[(.int u0), (.int u1), (.int u2), (.int u3), (.int u4)] maxLocals)) T317 (mkF m 227 #[.val (.int u0), .val (.int u1), .val (.int u2), .val (.int u3), .val (.int u4), .val (.ref b2), .val (.ref b15), .val (.int (1 : Int32)), .val (.int (0 : Int32)), .val (.int (1 : Int32)), .val (.int (0 : Int32))] [(.ref b15)]) := fun t k => pre317 t (by
                  refine XS.iconst X317.here hx rfl (hb hby at_217) ?_
                  refine XS.istore X317.here hx rfl (hb hby at_218) rfl (l' := #[.val (.int u0), .val (.int u1), .val (.int u2), .val (.int u3), .val (.int u4), .val (.ref b2), .val (.ref b15), .val (.int (1 : Int32)), .val (.int (0 : Int32)), .val (.int (1 : Int32)), .val (.int (0 : Int32))]) rfl ?_
                  show Steps p.tables e below (T317.setTop (mkF m 220 #[.val (.int u0), .val (.int u1), .val (.int u2), .val (.int u3), .val (.int u4), .val (.ref b2), .val (.ref b15), .val (.int (1 : Int32)), .val (.int (0 : Int32)), .val (.int (1 : Int32)), .val (.int (0 : Int32))] [])) _
                  refine XS.iload X317.here hx rfl (hb hby at_220) rfl ?_
                  refine XS.ifNo X317.here hx rfl (hb hby at_222) rfl ((if0 _ _).trans (feq (by decide)).1) ?_
                  refine XS.aload X317.here hx rfl (hb hby at_225) rfl rfl ?_
                  exact k)
              obtain ⟨cq322, kq322, q322a, q322b, q322c⟩ := isOf hZ rfl fo317_0
              obtain ⟨_, _, ⟨T322, L322, k322, n322⟩, -, X322, ⟨Lc322, hQ322, l322, y322, z322⟩, st322⟩ := X317.virtualBack hx (y := (⟨"com/example/octopoll/octopoll/PageHeap", "isEmpty", "()Z"⟩ : MethodName)) (z := (⟨"com/example/octopoll/octopoll/PageHeap", "isEmpty", "()Z"⟩ : MethodName)) hown (mvT hZ (hw _ (List.mem_of_getElem? (i := 21) rfl))) (mvT hZ (hw _ (List.mem_of_getElem? (i := 22) rfl))) (notFace_of_selects (args := #[]) (mvT hZ (hw _ (List.mem_of_getElem? (i := 24) rfl)))) (mvT hZ (hw _ (List.mem_of_getElem? (i := 24) rfl))) (mvT hZ (hw _ (List.mem_of_getElem? (i := 23) rfl))) (by decide) (backOf (W := 0) (rm_ise l Z av0 hw [] b15 (1 : Int32) T317.heap n0  fo317_4) hZ (hw _ (List.mem_of_getElem? (i := 25) rfl)) (hw _ (List.mem_of_getElem? (i := 3) rfl)) (by decide) (by decide)) q322a q322c (g := (mkF m 227 #[.val (.int u0), .val (.int u1), .val (.int u2), .val (.int u3), .val (.int u4), .val (.ref b2), .val (.ref b15), .val (.int (1 : Int32)), .val (.int (0 : Int32)), .val (.int (1 : Int32)), .val (.int (0 : Int32))] [(.ref b15)])) rfl (by rw [hml]; rfl) (Steps.refl _) (argsL := []) (rest := []) (lenOf pd_5 rfl) rfl (by show 2 * 0 + _ ≤ _; exact Nat.le_of_eq rfl) (hb hby at_227) (fun _ _ => ⟨rfl, rfl, (by decide : 4 + 0 ≤ _), (by decide : 13 + 0 ≤ _)⟩)
              dsimp only [Pt.U, Pt.locs, Pt.cells, Pt.slots] at X322 l322 y322 z322 st322 hQ322
              subst l322 y322 z322
              obtain ⟨hv322, N322q, e322⟩ := hQ322
              rw [show own_e (1 : Int32) = (0 : Int32) from rfl] at hv322
              subst hv322
              have N322 := Fr.app N317 N322q
              have pre322 : Go p.tables e below (s₁.setTop (entryFrame m #[(.int u0), (.int u1), (.int u2), (.int u3), (.int u4)] maxLocals)) T322 (mkF m 230 #[.val (.int u0), .val (.int u1), .val (.int u2), .val (.int u3), .val (.int u4), .val (.ref b2), .val (.ref b15), .val (.int (1 : Int32)), .val (.int (0 : Int32)), .val (.int (1 : Int32)), .val (.int (0 : Int32))] [(.int (0 : Int32))]) := fun t k => pre321 t (st322.trans k)
              have pre323 : Go p.tables e below (s₁.setTop (entryFrame m #[(.int u0), (.int u1), (.int u2), (.int u3), (.int u4)] maxLocals)) T322 (mkF m 262 #[.val (.int u0), .val (.int u1), .val (.int u2), .val (.int u3), .val (.int u4), .val (.ref b2), .val (.ref b15), .val (.int (1 : Int32)), .val (.int (0 : Int32)), .val (.int (1 : Int32)), .val (.int (0 : Int32))] [(.int (1 : Int32))]) := fun t k => pre322 t (by
                  refine XS.iload X322.here hx rfl (hb hby at_230) rfl ?_
                  refine XS.ifNo X322.here hx rfl (hb hby at_232) rfl ((if0 _ _).trans (teq (by decide)).2) ?_
                  refine XS.iload X322.here hx rfl (hb hby at_235) rfl ?_
                  refine XS.ifYes X322.here hx rfl (pc0 := 237) (pc' := 249) rfl (hb hby at_237) rfl ((if0 _ _).trans (feq (by decide)).2) (by decide) (by decide) ?_
                  refine XS.iconst X322.here hx rfl (hb hby at_249) ?_
                  refine XS.icmpNo X322.here hx rfl (hb hby at_250) rfl (teq (by decide)).2 ?_
                  refine XS.iconst X322.here hx rfl (hb hby at_253) ?_
                  refine XS.goto X322.here hx rfl (pc0 := 254) (pc' := 258) rfl (hb hby at_254) (by decide) (by decide) ?_
                  show Steps p.tables e below (T322.setTop (mkF m 258 #[.val (.int u0), .val (.int u1), .val (.int u2), .val (.int u3), .val (.int u4), .val (.ref b2), .val (.ref b15), .val (.int (1 : Int32)), .val (.int (0 : Int32)), .val (.int (1 : Int32)), .val (.int (0 : Int32))] [(.int (1 : Int32))])) _
                  refine XS.istore X322.here hx rfl (hb hby at_258) rfl (l' := #[.val (.int u0), .val (.int u1), .val (.int u2), .val (.int u3), .val (.int u4), .val (.ref b2), .val (.ref b15), .val (.int (1 : Int32)), .val (.int (0 : Int32)), .val (.int (1 : Int32)), .val (.int (0 : Int32))]) rfl ?_
                  show Steps p.tables e below (T322.setTop (mkF m 260 #[.val (.int u0), .val (.int u1), .val (.int u2), .val (.int u3), .val (.int u4), .val (.ref b2), .val (.ref b15), .val (.int (1 : Int32)), .val (.int (0 : Int32)), .val (.int (1 : Int32)), .val (.int (0 : Int32))] [])) _
                  refine XS.iload X322.here hx rfl (hb hby at_260) rfl ?_
                  exact k)
              obtain ⟨fs, hr, hrun, hended, hW, hsame⟩ := X322.leave (v := some (.int (1 : Int32))) (fun h => by rw [Bd.returns] at h; cases h) (BodyLoose.notSynchronized Bd)
              refine ⟨_, _, pre323 _ ?_, hrun, hended, _, _, rfl, ?_, ⟨_, rfl⟩, hW, hsame.mono (Nat.le_of_ble_eq_true rfl) (Nat.le_of_ble_eq_true rfl)⟩
              · exact retN X322 hx (t := .boolean) Bd.returns (by simp) (hb hby at_262) hr
              · show Q_law Z u0 u1 u2 u3 u4 h0 n0 _ T322.heap _
                rw [e322]
                exact ⟨rfl, N322⟩
          · -- hc310: False
            have pre324 : Go p.tables e below (s₁.setTop (entryFrame m #[(.int u0), (.int u1), (.int u2), (.int u3), (.int u4)] maxLocals)) T305 (mkF m 194 #[.val (.int u0), .val (.int u1), .val (.int u2), .val (.int u3), .val (.int u4), .val (.ref b2), .val (.ref b15), .val (.int (1 : Int32)), .val (.int (0 : Int32)), .val (.int (1 : Int32)), .val (.int (1 : Int32))] [(.int (1 : Int32)), (.ref b15)]) := fun t k => pre309 t (by
                refine XS.ifNo X305.here hx rfl (hb hby at_188) rfl ((if0 _ _).trans (feq hc310).1) ?_
                refine XS.aload X305.here hx rfl (hb hby at_191) rfl rfl ?_
                refine XS.iconst X305.here hx rfl (hb hby at_193) ?_
                exact k)
            obtain ⟨cq325, kq325, q325a, q325b, q325c⟩ := isOf hZ rfl fo305_0
            obtain ⟨_, _, ⟨T325, L325, k325, n325⟩, -, X325, ⟨Lc325, hQ325, l325, y325, z325⟩, st325⟩ := X305.virtualBack hx (y := (⟨"com/example/octopoll/octopoll/PageHeap", "remove", "(I)V"⟩ : MethodName)) (z := (⟨"com/example/octopoll/octopoll/PageHeap", "remove", "(I)V"⟩ : MethodName)) hown (mvT hZ (hw _ (List.mem_of_getElem? (i := 45) rfl))) (mvT hZ (hw _ (List.mem_of_getElem? (i := 46) rfl))) (notFace_of_selects (args := #[]) (mvT hZ (hw _ (List.mem_of_getElem? (i := 48) rfl)))) (mvT hZ (hw _ (List.mem_of_getElem? (i := 48) rfl))) (mvT hZ (hw _ (List.mem_of_getElem? (i := 47) rfl))) (by decide) (backOf (W := 0) (rm_rem1 l Z av0 hw [] b15 b2 ha25 pa25 k2 kh25 kp25 (FP.i2d (u2 &&& (3 : Int32))) (FP.i2d (u3 &&& (3 : Int32))) (FP.i2d (u4 &&& (3 : Int32))) z0305 z1305 z2305 z3305 z4305 z5305 false true T305.heap n0 f306 fo305_0 fo305_1 fo305_2 fo305_3 fo305_4 f307 fo305_5 fo305_6 g17 gha25 gpa25 ne27 ne30 po25_0 ne16.symm ne26 ne29 po305_0) hZ (hw _ (List.mem_of_getElem? (i := 49) rfl)) (hw _ (List.mem_of_getElem? (i := 3) rfl)) (by decide) (by decide)) q325a q325c (g := (mkF m 194 #[.val (.int u0), .val (.int u1), .val (.int u2), .val (.int u3), .val (.int u4), .val (.ref b2), .val (.ref b15), .val (.int (1 : Int32)), .val (.int (0 : Int32)), .val (.int (1 : Int32)), .val (.int (1 : Int32))] [(.int (1 : Int32)), (.ref b15)])) rfl (by rw [hml]; rfl) (Steps.refl _) (argsL := [(.int (1 : Int32))]) (rest := []) (lenOf pd_2 rfl) rfl (by show 2 * 0 + _ ≤ _; exact Nat.le_of_eq rfl) (hb hby at_194) (fun _ _ => ⟨rfl, rfl, (by decide : 4 + 0 ≤ _), (by decide : 13 + 0 ≤ _)⟩)
            dsimp only [Pt.U, Pt.locs, Pt.cells, Pt.slots] at X325 l325 y325 z325 st325 hQ325
            subst l325 y325 z325
            obtain ⟨z0325, z1325, z2325, z3325, z4325, z5325, hv325, N325q, K325, fo325_0, fo325_1, fo325_2, fo325_3, fo325_4, fo325_5, fo325_6, po325_0⟩ := hQ325
            have f326 := Nat.le_trans f306 K325.1
            have f327 := f307.keep K325 (ninS ne16 (ninS ne26 (ninS ne29 nin0)))
            have f328 := fo305_0.keep K325
            subst hv325
            have N325 := Fr.app N305 N325q
            have pre325 : Go p.tables e below (s₁.setTop (entryFrame m #[(.int u0), (.int u1), (.int u2), (.int u3), (.int u4)] maxLocals)) T325 (mkF m 197 #[.val (.int u0), .val (.int u1), .val (.int u2), .val (.int u3), .val (.int u4), .val (.ref b2), .val (.ref b15), .val (.int (1 : Int32)), .val (.int (0 : Int32)), .val (.int (1 : Int32)), .val (.int (1 : Int32))] []) := fun t k => pre324 t (st325.trans k)
            have pre329 : Go p.tables e below (s₁.setTop (entryFrame m #[(.int u0), (.int u1), (.int u2), (.int u3), (.int u4)] maxLocals)) T325 (mkF m 208 #[.val (.int u0), .val (.int u1), .val (.int u2), .val (.int u3), .val (.int u4), .val (.ref b2), .val (.ref b15), .val (.int (1 : Int32)), .val (.int (0 : Int32)), .val (.int (0 : Int32)), .val (.int (1 : Int32))] [(.int (u1 &&& (4 : Int32)))]) := fun t k => pre325 t (by
                refine XS.iconst X325.here hx rfl (hb hby at_197) ?_
                refine XS.istore X325.here hx rfl (hb hby at_198) rfl (l' := #[.val (.int u0), .val (.int u1), .val (.int u2), .val (.int u3), .val (.int u4), .val (.ref b2), .val (.ref b15), .val (.int (1 : Int32)), .val (.int (0 : Int32)), .val (.int (0 : Int32)), .val (.int (1 : Int32))]) rfl ?_
                show Steps p.tables e below (T325.setTop (mkF m 200 #[.val (.int u0), .val (.int u1), .val (.int u2), .val (.int u3), .val (.int u4), .val (.ref b2), .val (.ref b15), .val (.int (1 : Int32)), .val (.int (0 : Int32)), .val (.int (0 : Int32)), .val (.int (1 : Int32))] [])) _
                refine XS.iload X325.here hx rfl (hb hby at_200) rfl ?_
                refine XS.ifNo X325.here hx rfl (hb hby at_202) rfl ((if0 _ _).trans (feq (by decide)).1) ?_
                refine XS.iloadN X325.here hx rfl (hb hby at_205) rfl ?_
                refine XS.iconst X325.here hx rfl (hb hby at_206) ?_
                refine XS.iand X325.here hx rfl (hb hby at_207) rfl ?_
                exact k)
            by_cases hc330 : (u1 &&& (4 : Int32)) = (0 : Int32)
            · -- hc330: True
              have pre331 : Go p.tables e below (s₁.setTop (entryFrame m #[(.int u0), (.int u1), (.int u2), (.int u3), (.int u4)] maxLocals)) T325 (mkF m 227 #[.val (.int u0), .val (.int u1), .val (.int u2), .val (.int u3), .val (.int u4), .val (.ref b2), .val (.ref b15), .val (.int (1 : Int32)), .val (.int (0 : Int32)), .val (.int (0 : Int32)), .val (.int (1 : Int32))] [(.ref b15)]) := fun t k => pre329 t (by
                  refine XS.ifYes X325.here hx rfl (pc0 := 208) (pc' := 220) rfl (hb hby at_208) rfl ((if0 _ _).trans (teq hc330).1) (by decide) (by decide) ?_
                  refine XS.iload X325.here hx rfl (hb hby at_220) rfl ?_
                  refine XS.ifNo X325.here hx rfl (hb hby at_222) rfl ((if0 _ _).trans (feq (by decide)).1) ?_
                  refine XS.aload X325.here hx rfl (hb hby at_225) rfl rfl ?_
                  exact k)
              obtain ⟨cq332, kq332, q332a, q332b, q332c⟩ := isOf hZ rfl fo325_0
              obtain ⟨_, _, ⟨T332, L332, k332, n332⟩, -, X332, ⟨Lc332, hQ332, l332, y332, z332⟩, st332⟩ := X325.virtualBack hx (y := (⟨"com/example/octopoll/octopoll/PageHeap", "isEmpty", "()Z"⟩ : MethodName)) (z := (⟨"com/example/octopoll/octopoll/PageHeap", "isEmpty", "()Z"⟩ : MethodName)) hown (mvT hZ (hw _ (List.mem_of_getElem? (i := 21) rfl))) (mvT hZ (hw _ (List.mem_of_getElem? (i := 22) rfl))) (notFace_of_selects (args := #[]) (mvT hZ (hw _ (List.mem_of_getElem? (i := 24) rfl)))) (mvT hZ (hw _ (List.mem_of_getElem? (i := 24) rfl))) (mvT hZ (hw _ (List.mem_of_getElem? (i := 23) rfl))) (by decide) (backOf (W := 0) (rm_ise l Z av0 hw [] b15 (1 : Int32) T325.heap n0  fo325_4) hZ (hw _ (List.mem_of_getElem? (i := 25) rfl)) (hw _ (List.mem_of_getElem? (i := 3) rfl)) (by decide) (by decide)) q332a q332c (g := (mkF m 227 #[.val (.int u0), .val (.int u1), .val (.int u2), .val (.int u3), .val (.int u4), .val (.ref b2), .val (.ref b15), .val (.int (1 : Int32)), .val (.int (0 : Int32)), .val (.int (0 : Int32)), .val (.int (1 : Int32))] [(.ref b15)])) rfl (by rw [hml]; rfl) (Steps.refl _) (argsL := []) (rest := []) (lenOf pd_5 rfl) rfl (by show 2 * 0 + _ ≤ _; exact Nat.le_of_eq rfl) (hb hby at_227) (fun _ _ => ⟨rfl, rfl, (by decide : 4 + 0 ≤ _), (by decide : 13 + 0 ≤ _)⟩)
              dsimp only [Pt.U, Pt.locs, Pt.cells, Pt.slots] at X332 l332 y332 z332 st332 hQ332
              subst l332 y332 z332
              obtain ⟨hv332, N332q, e332⟩ := hQ332
              rw [show own_e (1 : Int32) = (0 : Int32) from rfl] at hv332
              subst hv332
              have N332 := Fr.app N325 N332q
              have pre332 : Go p.tables e below (s₁.setTop (entryFrame m #[(.int u0), (.int u1), (.int u2), (.int u3), (.int u4)] maxLocals)) T332 (mkF m 230 #[.val (.int u0), .val (.int u1), .val (.int u2), .val (.int u3), .val (.int u4), .val (.ref b2), .val (.ref b15), .val (.int (1 : Int32)), .val (.int (0 : Int32)), .val (.int (0 : Int32)), .val (.int (1 : Int32))] [(.int (0 : Int32))]) := fun t k => pre331 t (st332.trans k)
              have pre333 : Go p.tables e below (s₁.setTop (entryFrame m #[(.int u0), (.int u1), (.int u2), (.int u3), (.int u4)] maxLocals)) T332 (mkF m 262 #[.val (.int u0), .val (.int u1), .val (.int u2), .val (.int u3), .val (.int u4), .val (.ref b2), .val (.ref b15), .val (.int (1 : Int32)), .val (.int (0 : Int32)), .val (.int (0 : Int32)), .val (.int (1 : Int32))] [(.int (1 : Int32))]) := fun t k => pre332 t (by
                  refine XS.iload X332.here hx rfl (hb hby at_230) rfl ?_
                  refine XS.ifNo X332.here hx rfl (hb hby at_232) rfl ((if0 _ _).trans (teq (by decide)).2) ?_
                  refine XS.iload X332.here hx rfl (hb hby at_235) rfl ?_
                  refine XS.ifNo X332.here hx rfl (hb hby at_237) rfl ((if0 _ _).trans (teq (by decide)).2) ?_
                  refine XS.iload X332.here hx rfl (hb hby at_240) rfl ?_
                  refine XS.ifYes X332.here hx rfl (pc0 := 242) (pc' := 249) rfl (hb hby at_242) rfl ((if0 _ _).trans (feq (by decide)).2) (by decide) (by decide) ?_
                  refine XS.iconst X332.here hx rfl (hb hby at_249) ?_
                  refine XS.icmpNo X332.here hx rfl (hb hby at_250) rfl (teq (by decide)).2 ?_
                  refine XS.iconst X332.here hx rfl (hb hby at_253) ?_
                  refine XS.goto X332.here hx rfl (pc0 := 254) (pc' := 258) rfl (hb hby at_254) (by decide) (by decide) ?_
                  show Steps p.tables e below (T332.setTop (mkF m 258 #[.val (.int u0), .val (.int u1), .val (.int u2), .val (.int u3), .val (.int u4), .val (.ref b2), .val (.ref b15), .val (.int (1 : Int32)), .val (.int (0 : Int32)), .val (.int (0 : Int32)), .val (.int (1 : Int32))] [(.int (1 : Int32))])) _
                  refine XS.istore X332.here hx rfl (hb hby at_258) rfl (l' := #[.val (.int u0), .val (.int u1), .val (.int u2), .val (.int u3), .val (.int u4), .val (.ref b2), .val (.ref b15), .val (.int (1 : Int32)), .val (.int (0 : Int32)), .val (.int (0 : Int32)), .val (.int (1 : Int32))]) rfl ?_
                  show Steps p.tables e below (T332.setTop (mkF m 260 #[.val (.int u0), .val (.int u1), .val (.int u2), .val (.int u3), .val (.int u4), .val (.ref b2), .val (.ref b15), .val (.int (1 : Int32)), .val (.int (0 : Int32)), .val (.int (0 : Int32)), .val (.int (1 : Int32))] [])) _
                  refine XS.iload X332.here hx rfl (hb hby at_260) rfl ?_
                  exact k)
              obtain ⟨fs, hr, hrun, hended, hW, hsame⟩ := X332.leave (v := some (.int (1 : Int32))) (fun h => by rw [Bd.returns] at h; cases h) (BodyLoose.notSynchronized Bd)
              refine ⟨_, _, pre333 _ ?_, hrun, hended, _, _, rfl, ?_, ⟨_, rfl⟩, hW, hsame.mono (Nat.le_of_ble_eq_true rfl) (Nat.le_of_ble_eq_true rfl)⟩
              · exact retN X332 hx (t := .boolean) Bd.returns (by simp) (hb hby at_262) hr
              · show Q_law Z u0 u1 u2 u3 u4 h0 n0 _ T332.heap _
                rw [e332]
                exact ⟨rfl, N332⟩
            · -- hc330: False
              have pre334 : Go p.tables e below (s₁.setTop (entryFrame m #[(.int u0), (.int u1), (.int u2), (.int u3), (.int u4)] maxLocals)) T325 (mkF m 214 #[.val (.int u0), .val (.int u1), .val (.int u2), .val (.int u3), .val (.int u4), .val (.ref b2), .val (.ref b15), .val (.int (1 : Int32)), .val (.int (0 : Int32)), .val (.int (0 : Int32)), .val (.int (1 : Int32))] [(.int (2 : Int32)), (.ref b15)]) := fun t k => pre329 t (by
                  refine XS.ifNo X325.here hx rfl (hb hby at_208) rfl ((if0 _ _).trans (feq hc330).1) ?_
                  refine XS.aload X325.here hx rfl (hb hby at_211) rfl rfl ?_
                  refine XS.iconst X325.here hx rfl (hb hby at_213) ?_
                  exact k)
              obtain ⟨cq335, kq335, q335a, q335b, q335c⟩ := isOf hZ rfl fo325_0
              obtain ⟨_, _, ⟨T335, L335, k335, n335⟩, -, X335, ⟨Lc335, hQ335, l335, y335, z335⟩, st335⟩ := X325.virtualBack hx (y := (⟨"com/example/octopoll/octopoll/PageHeap", "remove", "(I)V"⟩ : MethodName)) (z := (⟨"com/example/octopoll/octopoll/PageHeap", "remove", "(I)V"⟩ : MethodName)) hown (mvT hZ (hw _ (List.mem_of_getElem? (i := 45) rfl))) (mvT hZ (hw _ (List.mem_of_getElem? (i := 46) rfl))) (notFace_of_selects (args := #[]) (mvT hZ (hw _ (List.mem_of_getElem? (i := 48) rfl)))) (mvT hZ (hw _ (List.mem_of_getElem? (i := 48) rfl))) (mvT hZ (hw _ (List.mem_of_getElem? (i := 47) rfl))) (by decide) (backOf (W := 0) (rm_rem2 l Z av0 hw [] b15 b2 ha25 pa25 k2 kh25 kp25 (FP.i2d (u2 &&& (3 : Int32))) (FP.i2d (u3 &&& (3 : Int32))) (FP.i2d (u4 &&& (3 : Int32))) z0325 z1325 z2325 z3325 z4325 z5325 false false T325.heap n0 f326 fo325_0 fo325_1 fo325_2 fo325_3 fo325_4 f327 fo325_5 fo325_6 g17 gha25 gpa25 ne27 ne30 po25_0 ne16.symm ne26 ne29 po325_0) hZ (hw _ (List.mem_of_getElem? (i := 49) rfl)) (hw _ (List.mem_of_getElem? (i := 3) rfl)) (by decide) (by decide)) q335a q335c (g := (mkF m 214 #[.val (.int u0), .val (.int u1), .val (.int u2), .val (.int u3), .val (.int u4), .val (.ref b2), .val (.ref b15), .val (.int (1 : Int32)), .val (.int (0 : Int32)), .val (.int (0 : Int32)), .val (.int (1 : Int32))] [(.int (2 : Int32)), (.ref b15)])) rfl (by rw [hml]; rfl) (Steps.refl _) (argsL := [(.int (2 : Int32))]) (rest := []) (lenOf pd_2 rfl) rfl (by show 2 * 0 + _ ≤ _; exact Nat.le_of_eq rfl) (hb hby at_214) (fun _ _ => ⟨rfl, rfl, (by decide : 4 + 0 ≤ _), (by decide : 13 + 0 ≤ _)⟩)
              dsimp only [Pt.U, Pt.locs, Pt.cells, Pt.slots] at X335 l335 y335 z335 st335 hQ335
              subst l335 y335 z335
              obtain ⟨z0335, z1335, z2335, z3335, z4335, z5335, hv335, N335q, K335, fo335_0, fo335_1, fo335_2, fo335_3, fo335_4, fo335_5, fo335_6, po335_0⟩ := hQ335
              have f336 := Nat.le_trans f326 K335.1
              have f337 := f327.keep K335 (ninS ne16 (ninS ne26 (ninS ne29 nin0)))
              have f338 := fo325_0.keep K335
              subst hv335
              have N335 := Fr.app N325 N335q
              have pre335 : Go p.tables e below (s₁.setTop (entryFrame m #[(.int u0), (.int u1), (.int u2), (.int u3), (.int u4)] maxLocals)) T335 (mkF m 217 #[.val (.int u0), .val (.int u1), .val (.int u2), .val (.int u3), .val (.int u4), .val (.ref b2), .val (.ref b15), .val (.int (1 : Int32)), .val (.int (0 : Int32)), .val (.int (0 : Int32)), .val (.int (1 : Int32))] []) := fun t k => pre334 t (st335.trans k)
              have pre339 : Go p.tables e below (s₁.setTop (entryFrame m #[(.int u0), (.int u1), (.int u2), (.int u3), (.int u4)] maxLocals)) T335 (mkF m 227 #[.val (.int u0), .val (.int u1), .val (.int u2), .val (.int u3), .val (.int u4), .val (.ref b2), .val (.ref b15), .val (.int (1 : Int32)), .val (.int (0 : Int32)), .val (.int (0 : Int32)), .val (.int (0 : Int32))] [(.ref b15)]) := fun t k => pre335 t (by
                  refine XS.iconst X335.here hx rfl (hb hby at_217) ?_
                  refine XS.istore X335.here hx rfl (hb hby at_218) rfl (l' := #[.val (.int u0), .val (.int u1), .val (.int u2), .val (.int u3), .val (.int u4), .val (.ref b2), .val (.ref b15), .val (.int (1 : Int32)), .val (.int (0 : Int32)), .val (.int (0 : Int32)), .val (.int (0 : Int32))]) rfl ?_
                  show Steps p.tables e below (T335.setTop (mkF m 220 #[.val (.int u0), .val (.int u1), .val (.int u2), .val (.int u3), .val (.int u4), .val (.ref b2), .val (.ref b15), .val (.int (1 : Int32)), .val (.int (0 : Int32)), .val (.int (0 : Int32)), .val (.int (0 : Int32))] [])) _
                  refine XS.iload X335.here hx rfl (hb hby at_220) rfl ?_
                  refine XS.ifNo X335.here hx rfl (hb hby at_222) rfl ((if0 _ _).trans (feq (by decide)).1) ?_
                  refine XS.aload X335.here hx rfl (hb hby at_225) rfl rfl ?_
                  exact k)
              obtain ⟨cq340, kq340, q340a, q340b, q340c⟩ := isOf hZ rfl fo335_0
              obtain ⟨_, _, ⟨T340, L340, k340, n340⟩, -, X340, ⟨Lc340, hQ340, l340, y340, z340⟩, st340⟩ := X335.virtualBack hx (y := (⟨"com/example/octopoll/octopoll/PageHeap", "isEmpty", "()Z"⟩ : MethodName)) (z := (⟨"com/example/octopoll/octopoll/PageHeap", "isEmpty", "()Z"⟩ : MethodName)) hown (mvT hZ (hw _ (List.mem_of_getElem? (i := 21) rfl))) (mvT hZ (hw _ (List.mem_of_getElem? (i := 22) rfl))) (notFace_of_selects (args := #[]) (mvT hZ (hw _ (List.mem_of_getElem? (i := 24) rfl)))) (mvT hZ (hw _ (List.mem_of_getElem? (i := 24) rfl))) (mvT hZ (hw _ (List.mem_of_getElem? (i := 23) rfl))) (by decide) (backOf (W := 0) (rm_ise l Z av0 hw [] b15 (0 : Int32) T335.heap n0  fo335_4) hZ (hw _ (List.mem_of_getElem? (i := 25) rfl)) (hw _ (List.mem_of_getElem? (i := 3) rfl)) (by decide) (by decide)) q340a q340c (g := (mkF m 227 #[.val (.int u0), .val (.int u1), .val (.int u2), .val (.int u3), .val (.int u4), .val (.ref b2), .val (.ref b15), .val (.int (1 : Int32)), .val (.int (0 : Int32)), .val (.int (0 : Int32)), .val (.int (0 : Int32))] [(.ref b15)])) rfl (by rw [hml]; rfl) (Steps.refl _) (argsL := []) (rest := []) (lenOf pd_5 rfl) rfl (by show 2 * 0 + _ ≤ _; exact Nat.le_of_eq rfl) (hb hby at_227) (fun _ _ => ⟨rfl, rfl, (by decide : 4 + 0 ≤ _), (by decide : 13 + 0 ≤ _)⟩)
              dsimp only [Pt.U, Pt.locs, Pt.cells, Pt.slots] at X340 l340 y340 z340 st340 hQ340
              subst l340 y340 z340
              obtain ⟨hv340, N340q, e340⟩ := hQ340
              rw [show own_e (0 : Int32) = (1 : Int32) from rfl] at hv340
              subst hv340
              have N340 := Fr.app N335 N340q
              have pre340 : Go p.tables e below (s₁.setTop (entryFrame m #[(.int u0), (.int u1), (.int u2), (.int u3), (.int u4)] maxLocals)) T340 (mkF m 230 #[.val (.int u0), .val (.int u1), .val (.int u2), .val (.int u3), .val (.int u4), .val (.ref b2), .val (.ref b15), .val (.int (1 : Int32)), .val (.int (0 : Int32)), .val (.int (0 : Int32)), .val (.int (0 : Int32))] [(.int (1 : Int32))]) := fun t k => pre339 t (st340.trans k)
              have pre341 : Go p.tables e below (s₁.setTop (entryFrame m #[(.int u0), (.int u1), (.int u2), (.int u3), (.int u4)] maxLocals)) T340 (mkF m 262 #[.val (.int u0), .val (.int u1), .val (.int u2), .val (.int u3), .val (.int u4), .val (.ref b2), .val (.ref b15), .val (.int (1 : Int32)), .val (.int (0 : Int32)), .val (.int (0 : Int32)), .val (.int (0 : Int32))] [(.int (1 : Int32))]) := fun t k => pre340 t (by
                  refine XS.iload X340.here hx rfl (hb hby at_230) rfl ?_
                  refine XS.ifNo X340.here hx rfl (hb hby at_232) rfl ((if0 _ _).trans (teq (by decide)).2) ?_
                  refine XS.iload X340.here hx rfl (hb hby at_235) rfl ?_
                  refine XS.ifNo X340.here hx rfl (hb hby at_237) rfl ((if0 _ _).trans (teq (by decide)).2) ?_
                  refine XS.iload X340.here hx rfl (hb hby at_240) rfl ?_
                  refine XS.ifNo X340.here hx rfl (hb hby at_242) rfl ((if0 _ _).trans (teq (by decide)).2) ?_
                  refine XS.iconst X340.here hx rfl (hb hby at_245) ?_
                  refine XS.goto X340.here hx rfl (pc0 := 246) (pc' := 250) rfl (hb hby at_246) (by decide) (by decide) ?_
                  show Steps p.tables e below (T340.setTop (mkF m 250 #[.val (.int u0), .val (.int u1), .val (.int u2), .val (.int u3), .val (.int u4), .val (.ref b2), .val (.ref b15), .val (.int (1 : Int32)), .val (.int (0 : Int32)), .val (.int (0 : Int32)), .val (.int (0 : Int32))] [(.int (1 : Int32)), (.int (1 : Int32))])) _
                  refine XS.icmpNo X340.here hx rfl (hb hby at_250) rfl (teq (by decide)).2 ?_
                  refine XS.iconst X340.here hx rfl (hb hby at_253) ?_
                  refine XS.goto X340.here hx rfl (pc0 := 254) (pc' := 258) rfl (hb hby at_254) (by decide) (by decide) ?_
                  show Steps p.tables e below (T340.setTop (mkF m 258 #[.val (.int u0), .val (.int u1), .val (.int u2), .val (.int u3), .val (.int u4), .val (.ref b2), .val (.ref b15), .val (.int (1 : Int32)), .val (.int (0 : Int32)), .val (.int (0 : Int32)), .val (.int (0 : Int32))] [(.int (1 : Int32))])) _
                  refine XS.istore X340.here hx rfl (hb hby at_258) rfl (l' := #[.val (.int u0), .val (.int u1), .val (.int u2), .val (.int u3), .val (.int u4), .val (.ref b2), .val (.ref b15), .val (.int (1 : Int32)), .val (.int (0 : Int32)), .val (.int (0 : Int32)), .val (.int (0 : Int32))]) rfl ?_
                  show Steps p.tables e below (T340.setTop (mkF m 260 #[.val (.int u0), .val (.int u1), .val (.int u2), .val (.int u3), .val (.int u4), .val (.ref b2), .val (.ref b15), .val (.int (1 : Int32)), .val (.int (0 : Int32)), .val (.int (0 : Int32)), .val (.int (0 : Int32))] [])) _
                  refine XS.iload X340.here hx rfl (hb hby at_260) rfl ?_
                  exact k)
              obtain ⟨fs, hr, hrun, hended, hW, hsame⟩ := X340.leave (v := some (.int (1 : Int32))) (fun h => by rw [Bd.returns] at h; cases h) (BodyLoose.notSynchronized Bd)
              refine ⟨_, _, pre341 _ ?_, hrun, hended, _, _, rfl, ?_, ⟨_, rfl⟩, hW, hsame.mono (Nat.le_of_ble_eq_true rfl) (Nat.le_of_ble_eq_true rfl)⟩
              · exact retN X340 hx (t := .boolean) Bd.returns (by simp) (hb hby at_262) hr
              · show Q_law Z u0 u1 u2 u3 u4 h0 n0 _ T340.heap _
                rw [e340]
                exact ⟨rfl, N340⟩
set_option maxRecDepth 65536 in
set_option maxHeartbeats 40000000 in
theorem comes_1 {Post : Tables → Env → Array Value → State → Outcome → State → Prop} (hpost : ∀ tb e args s v u, (limb_1_1.after args s (.returned v) u = true ∧ limb_1_2.after args s (.returned v) u = true ∧ True) → FrameEnd s (.returned v) u (Jvm.fieldLocs frame_1_writes args s ++ Jvm.arrayLocs frame_1_arrays args s ++ Jvm.staticLocs frame_1_statics s) 16 128 → Post tb e args s (.returned v) u) :
    ArmFor flags0 classFile x code maxLocals ret World_1 tables_1 room_1 Calls_1 rest_1 Pre_1 Post := by
  intro l hfl _ _ p e ha hc hk s m args below hf hA hF happ hP
  obtain ⟨hcalls, hrest, hpre⟩ := hP
  obtain ⟨-, -, -, hnamed, -, -, -, hat⟩ := (Spec.applies_iff hf).mp happ
  obtain ⟨hg, hn⟩ := and_e (Cond.before_iff.mp (show (Jvm.Cond.and given_1 narrow_1).before args s = true from hpre))
  obtain ⟨gc, gt0⟩ := and_e hg
  obtain ⟨ga0, gt1⟩ := and_e gt0
  obtain ⟨ga1, gt2⟩ := and_e gt1
  obtain ⟨ga2, gt3⟩ := and_e gt2
  obtain ⟨ga3, gt4⟩ := and_e gt3
  obtain ⟨w0, w1, w2, w3, w4, rfl⟩ : ∃ w0 w1 w2 w3 w4 : Value, args = #[w0, w1, w2, w3, w4] := by
    have hs : args.size = 5 := by simpa [Cond.value, given_1] using gc
    obtain ⟨L⟩ := args
    match L, hs with
    | [w0, w1, w2, w3, w4], _ => exact ⟨w0, w1, w2, w3, w4, rfl⟩
  have hw := fun d (hd : d ∈ tables_1) => atoms_spec (ws := Jvm.Cond.code x code maxLocals ret :: tables_1) hat d (List.mem_cons_of_mem _ hd)
  have hfit : Fit s := fun {y c} hc i hi => by
    obtain ⟨ha, rfl⟩ := Array.getElem?_eq_some_iff.mp hc
    have q := List.all_eq_true.mp ((Array.all_eq_true_iff_forall_mem.mp hF) _ (Array.getElem_mem ha)) i (List.mem_range.mpr hi)
    simpa [Array.getElem?_eq_getElem hi] using q
  obtain ⟨i0, ei0⟩ := is_v ga0
  obtain rfl : w0 = (.int i0) := Option.some.inj ei0
  obtain ⟨i1, ei1⟩ := is_v ga1
  obtain rfl : w1 = (.int i1) := Option.some.inj ei1
  obtain ⟨i2, ei2⟩ := is_v ga2
  obtain rfl : w2 = (.int i2) := Option.some.inj ei2
  obtain ⟨i3, ei3⟩ := is_v ga3
  obtain rfl : w3 = (.int i3) := Option.some.inj ei3
  obtain ⟨i4, ei4⟩ := is_v gt4
  obtain rfl : w4 = (.int i4) := Option.some.inj ei4
  obtain ⟨n, o, h1, h2, h3, _, L, rfl, ⟨rfl, N⟩, hq⟩ := rm_law l s _ hw tables_1 i0 i1 i2 i3 i4  s.heap s.heap.size (Nat.le_refl _)  p e ha hc hk s m _ below hf ((Spec.applies_iff_loose hf).mp happ).1 ⟨rfl, State.Warmed39.refl s, rfl⟩ trivial
  refine ⟨n, _, h1, h2, h3, hpost _ _ _ _ _ _ ⟨Cond.after_iff.mpr rfl, Cond.after_iff.mpr (eq_i res_at (Term.int_eval (1)) rfl), trivial⟩ ⟨hq.1, hq.2.1, (hq.2.2.sift fun y hy => Or.inr (N y hy)).mono (by decide) (by decide)⟩⟩
theorem main_1_1 : Claimed_1_1 := comes_1 fun _ _ _ _ _ _ h hF => ⟨h.1, hF⟩
theorem main_1_2 : Claimed_1_2 := comes_1 fun _ _ _ _ _ _ h hF => ⟨h.2.1, hF⟩
end Jvm.Pilot.@@N@@
namespace Jvm.Pilot.@@N@@
open Jvm Jvm.ClassFile Sem Op Lib Jvm.Free Jvm.Stand Jvm.Pilot.@@N@@.Jvm.D
/-! MADE BY PROGRAM (witnessworld.py) out of the Statement's table words and the real class files: 10 classes; the members and pool entries that the words name. The judged class is class 1, her method 1. -/
namespace start1
open Jvm.ClassFile
def u (s : String) : CpInfo := .utf8 (stringToUtf16 s)
/-- a pool by its gaps: so many unusable entries, then the entry; so many at the end -/
def gap : Nat → List CpInfo → List CpInfo
  | 0, r => r
  | n + 1, r => .unusable :: gap n r
def poolList (es : List (Nat × CpInfo)) (last : Nat) : List CpInfo := es.foldr (fun e r => gap e.1 (e.2 :: r)) (gap last [])
def pool (es : List (Nat × CpInfo)) (last : Nat) : Array CpInfo := ⟨poolList es last⟩
def fileOf (pool : Array CpInfo) (this : Nat) (attrs : Array Attribute := #[]) (ms : Array MethodInfo := #[]) (fl : Nat := 33) (sup : Nat := 0) (ifs : Array Nat := #[]) (fds : Array FieldInfo := #[]) : ClassFile where
  minorVersion := 0
  majorVersion := 65
  constantPool := pool
  accessFlags := fl
  thisClass := this
  superClass := sup
  interfaces := ifs
  fields := fds
  methods := ms
  attributes := attrs
def plain (name : String) (sup : Option ClassId) : Class where
  name := name
  kind := .ordinary
  loader := none
  accessFlags := 33
  super := sup
  interfaces := #[]
  cf := none
  fields := #[]
  methods := #[]
  instanceTypes := #[]
  staticTypes := #[]
  resolved := #[]
  callSites := []
  init := .initialized
  statics := none
  mirror := none

def pool0 : Array CpInfo := pool [(5, u "<init>"), (0, u "()V"), (1, .class_ 10), (1, u "java/lang/Object")] 113

def k0c0 : Code := { maxStack := 0, maxLocals := 1, code := object_method_1_code, exceptionTable := #[], attributes := #[] }
def k0m0 : Method := { name := "<init>", desc := "()V", sig := { parameters := [], returnType := none }, accessFlags := 1, code := some k0c0 }
/-- java/lang/Object -/
def k0 : Class := { plain "java/lang/Object" none with
  accessFlags := 33
  interfaces := #[]
  cf := some (fileOf pool0 8 #[] #[{ accessFlags := 1, nameIndex := 5, descriptorIndex := 6, attributes := #[] }] 33 0 #[] #[])
  fields := #[]
  methods := #[k0m0]
  instanceTypes := #[]
  staticTypes := #[]
  resolved := Array.replicate 124 none
  statics := none }

def pool1 : Array CpInfo := pool [(2, .class_ 4), (1, u "java/lang/Object"), (0, u "<init>"), (0, u "()V"), (0, .class_ 8), (0, u "com/example/octopoll/octopoll/PageHeap"), (0, .methodref 7 10), (0, .nameAndType 5 11), (0, u "([D)V"), (0, .methodref 7 13), (0, .nameAndType 14 15), (0, u "isEmpty"), (0, u "()Z"), (0, .methodref 7 17), (0, .nameAndType 18 19), (0, u "add"), (0, u "(I)V"), (0, .methodref 7 21), (0, .nameAndType 22 19), (0, u "remove"), (0, .class_ 24), (0, u "com/example/octopoll/octopoll/PageHeapIsEmptyPinLaw"), (2, u "law"), (0, u "(IIIII)Z")] 5

def k1m0 : Method := { name := "<init>", desc := "()V", sig := { parameters := [], returnType := none }, accessFlags := 1, code := none }
def k1c1 : Code := { maxStack := 4, maxLocals := 11, code := code, exceptionTable := #[], attributes := #[] }
def k1m1 : Method := { name := "law", desc := "(IIIII)Z", sig := { parameters := [.int, .int, .int, .int, .int], returnType := some .boolean }, accessFlags := 9, code := some k1c1 }
/-- com/example/octopoll/octopoll/PageHeapIsEmptyPinLaw -/
def k1 : Class := { plain "com/example/octopoll/octopoll/PageHeapIsEmptyPinLaw" (some 0) with
  accessFlags := 49
  interfaces := #[]
  cf := some (fileOf pool1 23 #[] #[{ accessFlags := 1, nameIndex := 5, descriptorIndex := 6, attributes := #[] }, { accessFlags := 9, nameIndex := 27, descriptorIndex := 28, attributes := #[] }] 49 2 #[] #[])
  fields := #[]
  methods := #[k1m0, k1m1]
  instanceTypes := #[]
  staticTypes := #[]
  resolved := Array.replicate 34 none
  statics := none }

def pool2 : Array CpInfo := pool [(1, .methodref 2 3), (0, .class_ 4), (0, .nameAndType 5 6), (0, u "java/lang/Object"), (0, u "<init>"), (0, u "()V"), (0, .fieldref 8 9), (0, .class_ 10), (0, .nameAndType 11 12), (0, u "com/example/octopoll/octopoll/PageHeap"), (0, u "key"), (0, u "[D"), (0, .fieldref 8 14), (0, .nameAndType 15 16), (0, u "heap"), (0, u "[I"), (0, .fieldref 8 18), (0, .nameAndType 19 16), (0, u "position"), (0, .methodref 21 22), (0, .class_ 23), (0, .nameAndType 24 25), (0, u "java/util/Arrays"), (0, u "fill"), (0, u "([II)V"), (0, .fieldref 8 27), (0, .nameAndType 28 29), (0, u "size"), (0, u "I"), (0, .methodref 8 31), (0, .nameAndType 32 33), (0, u "place"), (0, u "(II)V"), (0, .methodref 8 35), (0, .nameAndType 36 37), (0, u "siftUp"), (0, u "(I)V"), (2, u "remove"), (0, .methodref 8 42), (0, .nameAndType 43 37), (0, u "siftDown"), (0, .methodref 8 45), (0, .nameAndType 46 47), (0, u "less"), (0, u "(II)Z"), (0, u "([D)V"), (2, u "isEmpty"), (0, u "()Z"), (5, u "add")] 3

def k2c0 : Code := { maxStack := 2, maxLocals := 2, code := prog_17_method_1_code, exceptionTable := #[], attributes := #[] }
def k2m0 : Method := { name := "<init>", desc := "([D)V", sig := { parameters := [(.array .double)], returnType := none }, accessFlags := 0, code := some k2c0 }
def k2c1 : Code := { maxStack := 1, maxLocals := 1, code := prog_17_method_2_code, exceptionTable := #[], attributes := #[] }
def k2m1 : Method := { name := "isEmpty", desc := "()Z", sig := { parameters := [], returnType := some .boolean }, accessFlags := 0, code := some k2c1 }
def k2c2 : Code := { maxStack := 6, maxLocals := 2, code := prog_17_method_5_code, exceptionTable := #[], attributes := #[] }
def k2m2 : Method := { name := "add", desc := "(I)V", sig := { parameters := [.int], returnType := none }, accessFlags := 0, code := some k2c2 }
def k2c3 : Code := { maxStack := 4, maxLocals := 4, code := prog_17_method_7_code, exceptionTable := #[], attributes := #[] }
def k2m3 : Method := { name := "remove", desc := "(I)V", sig := { parameters := [.int], returnType := none }, accessFlags := 0, code := some k2c3 }
def k2c4 : Code := { maxStack := 4, maxLocals := 3, code := prog_17_method_8_code, exceptionTable := #[], attributes := #[] }
def k2m4 : Method := { name := "less", desc := "(II)Z", sig := { parameters := [.int, .int], returnType := some .boolean }, accessFlags := 2, code := some k2c4 }
def k2c5 : Code := { maxStack := 5, maxLocals := 3, code := prog_17_method_9_code, exceptionTable := #[], attributes := #[] }
def k2m5 : Method := { name := "siftUp", desc := "(I)V", sig := { parameters := [.int], returnType := none }, accessFlags := 2, code := some k2c5 }
def k2c6 : Code := { maxStack := 4, maxLocals := 4, code := prog_17_method_10_code, exceptionTable := #[], attributes := #[] }
def k2m6 : Method := { name := "siftDown", desc := "(I)V", sig := { parameters := [.int], returnType := none }, accessFlags := 2, code := some k2c6 }
def k2c7 : Code := { maxStack := 3, maxLocals := 3, code := prog_17_method_11_code, exceptionTable := #[], attributes := #[] }
def k2m7 : Method := { name := "place", desc := "(II)V", sig := { parameters := [.int, .int], returnType := none }, accessFlags := 2, code := some k2c7 }
/-- com/example/octopoll/octopoll/PageHeap -/
def k2 : Class := { plain "com/example/octopoll/octopoll/PageHeap" (some 0) with
  accessFlags := 48
  interfaces := #[]
  cf := some (fileOf pool2 8 #[] #[{ accessFlags := 0, nameIndex := 5, descriptorIndex := 48, attributes := #[] }, { accessFlags := 0, nameIndex := 51, descriptorIndex := 52, attributes := #[] }, { accessFlags := 0, nameIndex := 58, descriptorIndex := 37, attributes := #[] }, { accessFlags := 0, nameIndex := 40, descriptorIndex := 37, attributes := #[] }, { accessFlags := 2, nameIndex := 46, descriptorIndex := 47, attributes := #[] }, { accessFlags := 2, nameIndex := 36, descriptorIndex := 37, attributes := #[] }, { accessFlags := 2, nameIndex := 43, descriptorIndex := 37, attributes := #[] }, { accessFlags := 2, nameIndex := 32, descriptorIndex := 33, attributes := #[] }] 48 2 #[] #[{ accessFlags := 18, nameIndex := 11, descriptorIndex := 12, attributes := #[] }, { accessFlags := 18, nameIndex := 15, descriptorIndex := 16, attributes := #[] }, { accessFlags := 18, nameIndex := 19, descriptorIndex := 16, attributes := #[] }, { accessFlags := 2, nameIndex := 28, descriptorIndex := 29, attributes := #[] }])
  fields := #[{ name := "key", type := (.array .double), accessFlags := 18, slot := 0, constantValue := 0 }, { name := "heap", type := (.array .int), accessFlags := 18, slot := 1, constantValue := 0 }, { name := "position", type := (.array .int), accessFlags := 18, slot := 2, constantValue := 0 }, { name := "size", type := .int, accessFlags := 2, slot := 3, constantValue := 0 }]
  methods := #[k2m0, k2m1, k2m2, k2m3, k2m4, k2m5, k2m6, k2m7]
  instanceTypes := #[(.array .double), (.array .int), (.array .int), .int]
  staticTypes := #[]
  resolved := Array.replicate 62 none
  statics := none }

def pool3 : Array CpInfo := pool [(2, .class_ 4), (1, u "java/lang/Object"), (0, u "<init>"), (0, u "()V"), (7, .class_ 16), (1, u "java/util/Arrays"), (57, .class_ 76), (1, u "java/util/Arrays$NaturalOrder"), (36, .class_ 115), (1, u "java/util/Arrays$LegacyMergeSort"), (1, u "Z"), (257, .class_ 376), (0, u "java/util/Arrays$ArrayList"), (68, u "$assertionsDisabled"), (269, u "MIN_ARRAY_SORT_GRAN"), (0, u "I"), (2, u "INSERTIONSORT_THRESHOLD"), (120, u "fill"), (4, u "([II)V"), (129, .class_ 976), (0, u "java/util/Arrays$ArrayItr")] 52

def k3m0 : Method := { name := "<init>", desc := "()V", sig := { parameters := [], returnType := none }, accessFlags := 2, code := none }
def k3c1 : Code := { maxStack := 3, maxLocals := 4, code := jdk_65_method_103_code, exceptionTable := #[], attributes := #[] }
def k3m1 : Method := { name := "fill", desc := "([II)V", sig := { parameters := [(.array .int), .int], returnType := none }, accessFlags := 9, code := some k3c1 }
/-- java/util/Arrays -/
def k3 : Class := { plain "java/util/Arrays" (some 0) with
  accessFlags := 49
  interfaces := #[]
  cf := some (fileOf pool3 14 #[.nestMembers #[975, 375, 113, 74]] #[{ accessFlags := 2, nameIndex := 5, descriptorIndex := 6, attributes := #[] }, { accessFlags := 9, nameIndex := 840, descriptorIndex := 845, attributes := #[] }] 49 2 #[] #[{ accessFlags := 26, nameIndex := 715, descriptorIndex := 716, attributes := #[] }, { accessFlags := 26, nameIndex := 719, descriptorIndex := 716, attributes := #[] }, { accessFlags := 4120, nameIndex := 445, descriptorIndex := 117, attributes := #[] }])
  fields := #[{ name := "MIN_ARRAY_SORT_GRAN", type := .int, accessFlags := 26, slot := 0, constantValue := 0 }, { name := "INSERTIONSORT_THRESHOLD", type := .int, accessFlags := 26, slot := 1, constantValue := 0 }, { name := "$assertionsDisabled", type := .boolean, accessFlags := 4120, slot := 2, constantValue := 0 }]
  methods := #[k3m0, k3m1]
  instanceTypes := #[]
  staticTypes := #[.int, .int, .boolean]
  resolved := Array.replicate 1029 none
  statics := none }

def pool4 : Array CpInfo := pool [(1, u "java/lang/Cloneable"), (0, .class_ 1), (0, u "java/lang/Object"), (0, .class_ 3)] 3

/-- java/lang/Cloneable -/
def k4 : Class := { plain "java/lang/Cloneable" (some 0) with
  accessFlags := 1537
  interfaces := #[]
  cf := some (fileOf pool4 2 #[] #[] 1537 4 #[] #[])
  fields := #[]
  methods := #[]
  instanceTypes := #[]
  staticTypes := #[]
  resolved := Array.replicate 8 none
  statics := none }

def pool5 : Array CpInfo := pool [(1, u "java/io/Serializable"), (0, .class_ 1), (0, u "java/lang/Object"), (0, .class_ 3)] 3

/-- java/io/Serializable -/
def k5 : Class := { plain "java/io/Serializable" (some 0) with
  accessFlags := 1537
  interfaces := #[]
  cf := some (fileOf pool5 2 #[] #[] 1537 4 #[] #[])
  fields := #[]
  methods := #[]
  instanceTypes := #[]
  staticTypes := #[]
  resolved := Array.replicate 8 none
  statics := none }

/-- the primitive byte -/
def k6 : Class := { plain "byte" none with kind := .primitive 'B', accessFlags := 0x411 }
/-- [B -/
def k7 : Class := { plain "[B" (some 0) with kind := .array 6 .byte, interfaces := #[4, 5], accessFlags := 1041 }

/-- the primitive int -/
def k8 : Class := { plain "int" none with kind := .primitive 'I', accessFlags := 0x411 }
/-- [I -/
def k9 : Class := { plain "[I" (some 0) with kind := .array 8 .int, interfaces := #[4, 5], accessFlags := 1041 }

/-- the primitive double -/
def k10 : Class := { plain "double" none with kind := .primitive 'D', accessFlags := 0x411 }
/-- [D -/
def k11 : Class := { plain "[D" (some 0) with kind := .array 10 .double, interfaces := #[4, 5], accessFlags := 1041 }
def heap : Heap := #[]
def classes : Array Class := #[k0, k1, k2, k3, k4, k5, k6, k7, k8, k9, k10, k11]
def interned : List (Array UInt16 × Addr) := []
def slotsUsed : Nat := 0
def theMethod : MethodId := ⟨1, 1⟩
def args0 : Array Value := #[.int 1, .int 2, .int 3, .int 4, .int 5]
def aboutOver (below : List Frame) : State where
  vm := { classes := classes, interned := interned.toArray }
  heap := heap
  slotsUsed := slotsUsed
  threads := #[{ frames := .invoking theMethod args0 :: below }]
def below0 : List Frame := [.native { method := ⟨0, 0⟩, args := #[] }]
def about1 : State := aboutOver below0
def p0 : Program := .bare "" "" ""
def e0 : Env := launch0.env 0 0 0
theorem w_frames : about1.frames = Frame.invoking theMethod args0 :: below0 := rfl
set_option maxRecDepth 65536 in
theorem w_args : argsFit about1.vm theMethod args0 = true := by decide +kernel
set_option maxRecDepth 65536 in
theorem w_heap : heapFits about1 = true := by decide +kernel
set_option maxRecDepth 65536 in
theorem w_runnable : about1.curStatus? = some .runnable := by decide +kernel
set_option maxRecDepth 65536 in
theorem w_alone : about1.alone = true := by decide +kernel
set_option maxRecDepth 65536 in
theorem w_named : about1.methodNamed? x = some theMethod := by decide +kernel
set_option maxRecDepth 65536 in
theorem w_hears : about1.hears theMethod below0 = true := by decide +kernel
set_option maxRecDepth 65536 in
theorem w_ripe : about1.ripe theMethod args0 below0 = true := by decide +kernel
theorem w_running : about1.status = .running := rfl
set_option maxRecDepth 65536 in
theorem w_room : about1.hasRoom e0.platform room_1 = true :=
  launch0.hasRoom_least _ room_1 (by decide +kernel) (by decide +kernel) (by decide +kernel) (by decide +kernel) (by decide +kernel) (by decide +kernel)
theorem allAtoms_all (ts : List Jvm.Cond) (a : Array Jvm.Value) (st : Jvm.State) : (allAtoms ts).before a st = ts.all (fun c => c.before a st) := by
  induction ts with
  | nil => rfl
  | cons c t ih =>
    show (Jvm.Cond.and c (allAtoms t)).before a st = _
    rw [Jvm.Cond.before_and, ih, List.all_cons]
def words1 : List Jvm.Cond := Jvm.Cond.code x code maxLocals ret :: tables_1
/-- a 'code' word, met by the world's own term for the bytes: nothing is compared byte by byte -/
theorem code_word {y : MethodName} {bytes : ByteArray} {mx : Nat} {rt : Option FieldType} {a : Array Value} {s : State} {m : MethodId} {meth : Method} {c : Code} (h1 : s.methodNamed? y = some m) (h2 : s.vm.method? m = some meth) (h3 : meth.code = some c) (h4 : c.code = bytes)
    (h5 : (c.maxLocals == mx && c.exceptionTable.isEmpty && decide (c.maxStack ≤ mostOperands) && decide (meth.sig.returnType = rt) && !meth.locks && decide (parseMethodDescriptor y.desc = some meth.sig)) = true) : (Jvm.Cond.code y bytes mx rt).before a s = true := by
  simp only [Bool.and_eq_true, beq_iff_eq, Bool.not_eq_true', decide_eq_true_eq] at h5
  obtain ⟨⟨⟨⟨⟨g1, g2⟩, g3⟩, g4⟩, g5⟩, g6⟩ := h5
  simp [Cond.before, Cond.holds, Cond.value, h1, h2, h3, h4, g1, g2, g3, g4, g5, g6]
def isCode : Jvm.Cond → Bool
  | .code _ _ _ _ => true
  | _ => false
theorem all_split {L : List Jvm.Cond} {P : Jvm.Cond → Bool} (h1 : L.all (fun c => isCode c || P c) = true) (h2 : ∀ c ∈ L.filter isCode, P c = true) : L.all P = true := by
  refine List.all_eq_true.mpr fun c hc => ?_
  have h := List.all_eq_true.mp h1 c hc
  rcases Bool.eq_false_or_eq_true (isCode c) with hi | hi
  · exact h2 c (List.mem_filter.mpr ⟨hc, hi⟩)
  · simpa [hi] using h
set_option maxRecDepth 65536 in
theorem w_c0 : (Jvm.Cond.code x code maxLocals ret).before args0 about1 = true := code_word (m := ⟨1, 1⟩) (meth := k1m1) (c := k1c1) (by decide +kernel) rfl rfl rfl (by decide +kernel)
set_option maxRecDepth 65536 in
theorem w_c1 : (Jvm.Cond.code ({ cls := "com/example/octopoll/octopoll/PageHeap", name := "<init>", desc := "([D)V" } : Jvm.MethodName) prog_17_method_1_code (2 : Nat) (Option.none : Option Jvm.ClassFile.FieldType)).before args0 about1 = true := code_word (m := ⟨2, 0⟩) (meth := k2m0) (c := k2c0) (by decide +kernel) rfl rfl rfl (by decide +kernel)
set_option maxRecDepth 65536 in
theorem w_c2 : (Jvm.Cond.code ({ cls := "java/lang/Object", name := "<init>", desc := "()V" } : Jvm.MethodName) object_method_1_code (1 : Nat) (Option.none : Option Jvm.ClassFile.FieldType)).before args0 about1 = true := code_word (m := ⟨0, 0⟩) (meth := k0m0) (c := k0c0) (by decide +kernel) rfl rfl rfl (by decide +kernel)
set_option maxRecDepth 65536 in
theorem w_c3 : (Jvm.Cond.code ({ cls := "java/util/Arrays", name := "fill", desc := "([II)V" } : Jvm.MethodName) jdk_65_method_103_code (4 : Nat) (Option.none : Option Jvm.ClassFile.FieldType)).before args0 about1 = true := code_word (m := ⟨3, 1⟩) (meth := k3m1) (c := k3c1) (by decide +kernel) rfl rfl rfl (by decide +kernel)
set_option maxRecDepth 65536 in
theorem w_c4 : (Jvm.Cond.code ({ cls := "com/example/octopoll/octopoll/PageHeap", name := "isEmpty", desc := "()Z" } : Jvm.MethodName) prog_17_method_2_code (1 : Nat) (Option.some Jvm.ClassFile.FieldType.boolean)).before args0 about1 = true := code_word (m := ⟨2, 1⟩) (meth := k2m1) (c := k2c1) (by decide +kernel) rfl rfl rfl (by decide +kernel)
set_option maxRecDepth 65536 in
theorem w_c5 : (Jvm.Cond.code ({ cls := "com/example/octopoll/octopoll/PageHeap", name := "add", desc := "(I)V" } : Jvm.MethodName) prog_17_method_5_code (2 : Nat) (Option.none : Option Jvm.ClassFile.FieldType)).before args0 about1 = true := code_word (m := ⟨2, 2⟩) (meth := k2m2) (c := k2c2) (by decide +kernel) rfl rfl rfl (by decide +kernel)
set_option maxRecDepth 65536 in
theorem w_c6 : (Jvm.Cond.code ({ cls := "com/example/octopoll/octopoll/PageHeap", name := "place", desc := "(II)V" } : Jvm.MethodName) prog_17_method_11_code (3 : Nat) (Option.none : Option Jvm.ClassFile.FieldType)).before args0 about1 = true := code_word (m := ⟨2, 7⟩) (meth := k2m7) (c := k2c7) (by decide +kernel) rfl rfl rfl (by decide +kernel)
set_option maxRecDepth 65536 in
theorem w_c7 : (Jvm.Cond.code ({ cls := "com/example/octopoll/octopoll/PageHeap", name := "siftUp", desc := "(I)V" } : Jvm.MethodName) prog_17_method_9_code (3 : Nat) (Option.none : Option Jvm.ClassFile.FieldType)).before args0 about1 = true := code_word (m := ⟨2, 5⟩) (meth := k2m5) (c := k2c5) (by decide +kernel) rfl rfl rfl (by decide +kernel)
set_option maxRecDepth 65536 in
theorem w_c8 : (Jvm.Cond.code ({ cls := "com/example/octopoll/octopoll/PageHeap", name := "less", desc := "(II)Z" } : Jvm.MethodName) prog_17_method_8_code (3 : Nat) (Option.some Jvm.ClassFile.FieldType.boolean)).before args0 about1 = true := code_word (m := ⟨2, 4⟩) (meth := k2m4) (c := k2c4) (by decide +kernel) rfl rfl rfl (by decide +kernel)
set_option maxRecDepth 65536 in
theorem w_c9 : (Jvm.Cond.code ({ cls := "com/example/octopoll/octopoll/PageHeap", name := "remove", desc := "(I)V" } : Jvm.MethodName) prog_17_method_7_code (4 : Nat) (Option.none : Option Jvm.ClassFile.FieldType)).before args0 about1 = true := code_word (m := ⟨2, 3⟩) (meth := k2m3) (c := k2c3) (by decide +kernel) rfl rfl rfl (by decide +kernel)
set_option maxRecDepth 65536 in
theorem w_c10 : (Jvm.Cond.code ({ cls := "com/example/octopoll/octopoll/PageHeap", name := "siftDown", desc := "(I)V" } : Jvm.MethodName) prog_17_method_10_code (4 : Nat) (Option.none : Option Jvm.ClassFile.FieldType)).before args0 about1 = true := code_word (m := ⟨2, 6⟩) (meth := k2m6) (c := k2c6) (by decide +kernel) rfl rfl rfl (by decide +kernel)
def codes1 : List Jvm.Cond := [Jvm.Cond.code x code maxLocals ret, Jvm.Cond.code ({ cls := "com/example/octopoll/octopoll/PageHeap", name := "<init>", desc := "([D)V" } : Jvm.MethodName) prog_17_method_1_code (2 : Nat) (Option.none : Option Jvm.ClassFile.FieldType), Jvm.Cond.code ({ cls := "java/lang/Object", name := "<init>", desc := "()V" } : Jvm.MethodName) object_method_1_code (1 : Nat) (Option.none : Option Jvm.ClassFile.FieldType), Jvm.Cond.code ({ cls := "java/util/Arrays", name := "fill", desc := "([II)V" } : Jvm.MethodName) jdk_65_method_103_code (4 : Nat) (Option.none : Option Jvm.ClassFile.FieldType), Jvm.Cond.code ({ cls := "com/example/octopoll/octopoll/PageHeap", name := "isEmpty", desc := "()Z" } : Jvm.MethodName) prog_17_method_2_code (1 : Nat) (Option.some Jvm.ClassFile.FieldType.boolean), Jvm.Cond.code ({ cls := "com/example/octopoll/octopoll/PageHeap", name := "add", desc := "(I)V" } : Jvm.MethodName) prog_17_method_5_code (2 : Nat) (Option.none : Option Jvm.ClassFile.FieldType), Jvm.Cond.code ({ cls := "com/example/octopoll/octopoll/PageHeap", name := "place", desc := "(II)V" } : Jvm.MethodName) prog_17_method_11_code (3 : Nat) (Option.none : Option Jvm.ClassFile.FieldType), Jvm.Cond.code ({ cls := "com/example/octopoll/octopoll/PageHeap", name := "siftUp", desc := "(I)V" } : Jvm.MethodName) prog_17_method_9_code (3 : Nat) (Option.none : Option Jvm.ClassFile.FieldType), Jvm.Cond.code ({ cls := "com/example/octopoll/octopoll/PageHeap", name := "less", desc := "(II)Z" } : Jvm.MethodName) prog_17_method_8_code (3 : Nat) (Option.some Jvm.ClassFile.FieldType.boolean), Jvm.Cond.code ({ cls := "com/example/octopoll/octopoll/PageHeap", name := "remove", desc := "(I)V" } : Jvm.MethodName) prog_17_method_7_code (4 : Nat) (Option.none : Option Jvm.ClassFile.FieldType), Jvm.Cond.code ({ cls := "com/example/octopoll/octopoll/PageHeap", name := "siftDown", desc := "(I)V" } : Jvm.MethodName) prog_17_method_10_code (4 : Nat) (Option.none : Option Jvm.ClassFile.FieldType)]
set_option maxRecDepth 65536 in
theorem codes_eq : words1.filter isCode = codes1 := rfl
theorem w_codes : ∀ c ∈ words1.filter isCode, c.before args0 about1 = true := by
  rw [codes_eq]
  intro c hc
  simp only [codes1, List.mem_cons, List.not_mem_nil, or_false] at hc
  rcases hc with rfl | rfl | rfl | rfl | rfl | rfl | rfl | rfl | rfl | rfl | rfl
  · exact w_c0
  · exact w_c1
  · exact w_c2
  · exact w_c3
  · exact w_c4
  · exact w_c5
  · exact w_c6
  · exact w_c7
  · exact w_c8
  · exact w_c9
  · exact w_c10
set_option maxRecDepth 65536 in
theorem w_t1 : (words1.take 24).all (fun c => isCode c || c.before args0 about1) = true := by decide +kernel
set_option maxRecDepth 65536 in
theorem w_t2 : ((words1.drop 24).take 24).all (fun c => isCode c || c.before args0 about1) = true := by decide +kernel
set_option maxRecDepth 65536 in
theorem w_t3 : ((words1.drop 24).drop 24).all (fun c => isCode c || c.before args0 about1) = true := by decide +kernel
theorem w_tables : (allAtoms (Jvm.Cond.code x code maxLocals ret :: tables_1)).before args0 about1 = true := by
  rw [allAtoms_all]
  show words1.all (fun c => c.before args0 about1) = true
  refine all_split ?_ w_codes
  rw [← List.take_append_drop 24 words1, List.all_append, w_t1, ← List.take_append_drop 24 (words1.drop 24), List.all_append, w_t2, w_t3]
  rfl
set_option maxRecDepth 65536 in
theorem w_case : (Jvm.Cond.and given_1 narrow_1).before args0 about1 = true := by decide +kernel
theorem w_applies : (headSpec (Jvm.Cond.code x code maxLocals ret :: tables_1) room_1).applies x e0.platform about1 = true :=
  (Spec.applies_iff w_frames).mpr ⟨w_running, w_runnable, w_alone, w_named, w_hears, w_ripe, w_room, w_tables⟩
theorem atStart : AtStart classFile x code maxLocals ret World_1 tables_1 room_1 Calls_1 rest_1 Pre_1 launch0 p0 e0 about1 theMethod args0 below0 :=
  ⟨lists_1, trivial, launch0.admits_env _ _ _, launch0.least_env, fairChoices_fair.cas, fairChoices_fair.clock, w_frames, w_args, w_heap, w_applies, trivial, trivial, w_case⟩
end start1
theorem witness_1 : WitnessClaimed_1 := ⟨start1.p0, start1.e0, start1.about1, start1.theMethod, start1.args0, start1.below0, start1.atStart⟩
end Jvm.Pilot.@@N@@
