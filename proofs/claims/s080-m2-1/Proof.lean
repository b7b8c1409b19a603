import JvmDerived
import JvmDerived.Pilot.@@N@@Statement
import JvmDerived.Pilot.@@N@@Code
set_option linter.unusedVariables false
set_option linter.unusedSimpArgs false
namespace Jvm.RoadKit
open Sem ClassFile Op Lib Jvm.Stand Jvm.Free Jvm.LawKit
section New
variable {p : Program} {l : Launch} {e : Env} {R : Room} {s : State} {m : MethodId} {args : Array Value} {below : List Frame} {meth : Method} {c : Code} {T : State} {locs : List Loc} {cells slots : Nat}
theorem retI (X : Stand p l e R s m args below meth c T locs cells slots) (hx : p.tables.exec = Jvm.exec) {pc : Nat} {Ls : Array Slot} {z : Int32} {rest : List Value} (hret : meth.sig.returnType = some .int) (hd : decode c.code pc = .ok (.ireturn, 1)) {fs : List Frame}
    (hl : ∀ (f : JFrame) (acts : List Action), f.method = m → f.locked = none → f.entered = [] → (doReturn e (T.setTop f) acts (some (.int z))).1 = T.setFrames fs) : Steps p.tables e below (T.setTop (mkF m pc Ls (.int z :: rest))) (T.setFrames fs) := by
  have hm' : T.vm.method? m = some meth := X.method'
  have hn : narrow .int (.int z) = .int z := rfl
  show Steps p.tables e below (T.setTop { method := m, pc := pc, locals := Ls, stack := _ :: rest, locked := none }) _
  jvm_step X.here [X.here.top, hx, hd, hm', hret, hn]
  first | (intro acts; rw [hl _ acts rfl rfl rfl]) | rw [hl _ _ rfl rfl rfl]
  exact Steps.refl _
end New
end Jvm.RoadKit
namespace Jvm.Pilot.@@N@@
open Jvm Jvm.ClassFile Sem Op Lib Jvm.Free Jvm.Stand Jvm.LawKit Jvm.RoadKit Bundle Jvm.Pilot.@@N@@.Jvm.D
/-- from the state A the run comes to the frame f over T -/
abbrev Go (tb : Tables) (e : Env) (below : List Frame) (A T : State) (f : JFrame) : Prop := ∀ t, Steps tb e below (T.setTop f) t → Steps tb e below A t

theorem own_root {Z : State} {a0 : Array Value} {O K : String} {n : Nat} (w : (Jvm.Cond.noSuperclass O).before a0 Z = true) (wk : (Jvm.Cond.instantiable K n).before a0 Z = true) (hn : O ≠ K) : NS Z O K := by
  obtain ⟨c, k, h1, h2, h3, -, -⟩ := Cond.noSuperclass_spec w
  obtain ⟨t, kt, g1, -⟩ := Cond.instantiable_spec wk
  have ne := ids_ne h1 g1 hn
  refine ⟨c, t, h1, g1, fun fuel => ?_⟩
  cases fuel with
  | zero => rfl
  | succ f => simp [Vm.isSubclassAux, ne, h2, h3]
theorem own_no {Z : State} {a0 : Array Value} {C S K : String} {n : Nat} (w : (Jvm.Cond.superclass C S).before a0 Z = true) (wk : (Jvm.Cond.instantiable K n).before a0 Z = true) (N : NS Z C K) (hn : C ≠ K) : ∃ c t, Z.vm.findClass C = some c ∧ Z.vm.findClass K = some t ∧ Z.vm.assignable c t = false := by
  obtain ⟨c, t, h0, g0, n3⟩ := N
  obtain ⟨p, k, kp, h1, h2, h3, h4, h5, -, h7⟩ := Cond.superclass_spec h0 w
  obtain ⟨t', k', g1, g2, g3, g4, -⟩ := Cond.instantiable_spec wk
  cases g0.symm.trans g1
  have g5 : k'.isInterface = false := by simp only [Bool.or_eq_false_iff] at g4; exact g4.1
  have ne := ids_ne h0 g0 hn
  refine ⟨c, t, h0, g0, ?_⟩
  show Z.vm.assignableAux (255 + 1) c t = false
  simp [Vm.assignableAux, ne, h2, g2, h5, g3, g5, Vm.isSubclass, n3]

theorem own_box (p : Int32) (h1 : ¬ p < (-128 : Int32)) (h2 : ¬ (127 : Int32) < p) : ¬ (p + (128 : Int32)) < 0 ∧ (p + (128 : Int32)) < 256 := by
  have a := c_iadd p 128; have r := rng32 p; have r2 := rng32 (p + 128)
  rw [Int32.lt_iff_toInt_lt, show (-128 : Int32).toInt = -128 from rfl] at h1
  rw [Int32.lt_iff_toInt_lt, show (127 : Int32).toInt = 127 from rfl] at h2
  rw [Int32.lt_iff_toInt_lt, Int32.lt_iff_toInt_lt, show (0 : Int32).toInt = 0 from rfl, show (256 : Int32).toInt = 256 from rfl]
  rw [show (128 : Int32).toInt = 128 from rfl] at a
  omega

theorem own_len {args : Array Value} {s : State} {t : Term} {a : Addr} {c : Cell} {ty : FieldType} {z : Int32} (et : t.eval args s none [] s = some (.ref a)) (A : Arr s s.heap a c ty) (h : (Term.length t).eval args s none [] s = some (.int z)) : c.slots.size < 2 ^ 31 ∧ c.slots.size.toInt32 = z := by
  have ha := A.fin (Vm.Alike.refl _)
  by_cases q : c.slots.size < 2 ^ 31
  · have e := len_f et ha q
    exact ⟨q, Value.int.inj (Option.some.inj (e.symm.trans h))⟩
  · simp [Term.eval, et, ha, q] at h
theorem own_sub {args : Array Value} {s : State} {j : Int32} (nn : ¬ j < 0) : (Term.sub (Term.index (0 : Nat)) (Term.int (128 : Int32))).eval args s none [j.toNatClampNeg] s = some (.int (j - (128 : Int32))) := by
  have e := idx_at (args := args) (s := s) (first := s) (o := none) nn
  simp [Term.eval] at e ⊢
  simp [e]

def own_eq (x y : Int32) : Int32 := if y = x then 1 else 0
theorem pd_0 : parseMethodDescriptor "()V" = some ⟨[], none⟩ := by decide +kernel
theorem pd_1 : parseMethodDescriptor "(I)V" = some ⟨[.int], none⟩ := by decide +kernel
theorem pd_2 : parseMethodDescriptor "(I)Ljava/lang/Integer;" = some ⟨[.int], some (.object "java/lang/Integer")⟩ := by decide +kernel
theorem pd_3 : parseMethodDescriptor "(Ljava/lang/Object;)Z" = some ⟨[(.object "java/lang/Object")], some .boolean⟩ := by decide +kernel
theorem d1_0 : decode prog_26_method_1_code 0 = .ok (.aload_n 0, 1) := by decide +kernel
theorem d1_1 : decode prog_26_method_1_code 1 = .ok (.invokespecial 1, 3) := by decide +kernel
theorem d1_4 : decode prog_26_method_1_code 4 = .ok (.aload_n 0, 1) := by decide +kernel
theorem d1_5 : decode prog_26_method_1_code 5 = .ok (.iload_n 1, 1) := by decide +kernel
theorem d1_6 : decode prog_26_method_1_code 6 = .ok (.putfield 7, 3) := by decide +kernel
theorem d1_9 : decode prog_26_method_1_code 9 = .ok (.return_, 1) := by decide +kernel
theorem pn_ini : plainName "com/example/backrank/backrank/Move" = true := by first | (simp [plainName, overriddenIn]; done) | decide +kernel
theorem ef_ini (m : MethodId) (a0 : Addr) (p1 : Int32) : entryFrame m #[(.ref a0), (.int p1)] 2 = mkF m 0 #[.val (.ref a0), .val (.int p1)] [] := by first | (simp [entryFrame, mkF, argsToLocals, Value.category]; done) | rfl
def Q_ini (Z : State) (a0 : Addr) (p1 : Int32) (h0 : Heap) (n0 : Nat) (v : Option Value) (h : Heap) (L : List Loc) : Prop := v = none ∧ Fr n0 L ∧ Keep h0 h [a0] ∧ Exa Z h a0 "com/example/backrank/backrank/Move" ∧ Fld Z h a0 "com/example/backrank/backrank/Move" "code" "I" (.int p1)
set_option maxRecDepth 65536 in
set_option maxHeartbeats 40000000 in
theorem rm_ini (l : Launch) (Z : State) (av0 : Array Value) (hw : ∀ d ∈ tables_1, d.before av0 Z = true) (ws : List Jvm.Cond) (a0 : Addr) (p1 : Int32) (h0 : Heap) (n0 : Nat) (Z0 : n0 ≤ h0.size) (F0 : Fld Z h0 a0 "com/example/backrank/backrank/Move" "code" "I" (.int (0 : Int32))) (E0 : Exa Z h0 a0 "com/example/backrank/backrank/Move") (g0 : n0 ≤ a0) :
    MetFree l (⟨"com/example/backrank/backrank/Move", "<init>", "(I)V"⟩ : MethodName) (head1 (Jvm.Cond.code (⟨"com/example/backrank/backrank/Move", "<init>", "(I)V"⟩ : MethodName) prog_26_method_1_code 2 none :: ws) ({ frames := 1, cells := 0, slots := 0, locals := 12 } : Room)) (fun a U => a = #[(.ref a0), (.int p1)] ∧ Z.Warmed39 U.vm ∧ U.heap = h0) (fun _ _ _ _ _ => True) (fun _ U o U' => ∃ v L, o = .returned v ∧ Q_ini Z a0 p1 h0 n0 v U'.heap L ∧ FrameEnd U o U' L ({ frames := 1, cells := 0, slots := 0, locals := 12 } : Room).cells ({ frames := 1, cells := 0, slots := 0, locals := 12 } : Room).slots) := by
  refine MetFree.of_bodySF (plainFor_of_name pn_ini) hisR ?_
  intro p e s m args below meth c s₁ Bd hml0 hP hK
  obtain ⟨rfl, hZ, hh⟩ := hP
  have hx := Bd.exec
  have hby := Bd.bytes
  have hml : c.maxLocals = 2 := hml0
  have hown : s.vm.findClass "com/example/backrank/backrank/Move" = some m.cls := findClass_of_methodNamed Bd.named
  have hnm := (name_of_methodNamed Bd.named Bd.method).1
  have X0 : Stand p l e ({ frames := 1, cells := 0, slots := 0, locals := 12 } : Room) s m #[(.ref a0), (.int p1)] below meth c s₁ [] 0 0 := Stand.of_body Bd
  have e0 : s₁.heap = h0 := by rw [← hh, Bd.state]; rfl
  have N0 := Fr.nil n0
  have pre0 : Go p.tables e below (s₁.setTop (entryFrame m #[(.ref a0), (.int p1)] 2)) s₁ (mkF m 0 #[.val (.ref a0), .val (.int p1)] []) := fun t k => castTop (ef_ini m a0 p1) k
  have K0 : Keep h0 h0 [a0] := Keep.refl _ _
  have pre1 : Go p.tables e below (s₁.setTop (entryFrame m #[(.ref a0), (.int p1)] 2)) s₁ (mkF m 1 #[.val (.ref a0), .val (.int p1)] [(.ref a0)]) := fun t k => pre0 t (by
      refine XS.aloadN X0.here hx rfl (hb hby d1_0) rfl rfl ?_
      exact k)
  obtain ⟨T2, X2, e2, st2⟩ := initO X0 hx hZ hown (hw _ (List.mem_of_getElem? (i := 6) rfl)) (hw _ (List.mem_of_getElem? (i := 7) rfl)) (hw _ (List.mem_of_getElem? (i := 8) rfl)) e0 (g := (mkF m 1 #[.val (.ref a0), .val (.int p1)] [(.ref a0)])) rfl (by rw [hml]; rfl) rfl (hb hby d1_1) (by decide) (W := 0) (by show 2 * 0 + _ ≤ _; exact Nat.le_of_eq rfl) (by decide)
  have pre2 : Go p.tables e below (s₁.setTop (entryFrame m #[(.ref a0), (.int p1)] 2)) T2 (mkF m 4 #[.val (.ref a0), .val (.int p1)] []) := fun t k => pre1 t (st2 _ k)
  have pre3 : Go p.tables e below (s₁.setTop (entryFrame m #[(.ref a0), (.int p1)] 2)) T2 (mkF m 6 #[.val (.ref a0), .val (.int p1)] [(.int p1), (.ref a0)]) := fun t k => pre2 t (by
      refine XS.aloadN X2.here hx rfl (hb hby d1_4) rfl rfl ?_
      show Steps p.tables e below (T2.setTop (mkF m 5 #[.val (.ref a0), .val (.int p1)] [(.ref a0)])) _
      refine XS.iloadN X2.here hx rfl (hb hby d1_5) rfl ?_
      exact k)
  obtain ⟨T4, h4, X4, e4, W4, st4⟩ := putF X2 hx hZ hown (host := "") (Or.inl (hw _ (List.mem_of_getElem? (i := 9) rfl))) Via.refl e2 F0 E0 (Or.inr ⟨(hw _ (List.mem_of_getElem? (i := 10) rfl)), rfl, hnm⟩) (hw _ (List.mem_of_getElem? (i := 1) rfl)) (ty := .int) (by decide) rfl rfl (g := (mkF m 6 #[.val (.ref a0), .val (.int p1)] [(.int p1), (.ref a0)])) rfl rfl (hb hby d1_6)
  have N4 := Fr.snoc X4 N0 g0
  have f5 : n0 ≤ h4.size := Nat.le_trans Z0 (Keep.of_wr W4).1
  have f6 : Exa Z h4 a0 "com/example/backrank/backrank/Move" := E0.wr W4
  have f7 : Fld Z h4 a0 "com/example/backrank/backrank/Move" "code" "I" (.int p1) := F0.same W4
  have f8 : Keep h0 h4 [a0] := K0.wr W4 (Or.inl (List.mem_of_getElem? (i := 0) rfl))
  have pre4 : Go p.tables e below (s₁.setTop (entryFrame m #[(.ref a0), (.int p1)] 2)) T4 (mkF m 9 #[.val (.ref a0), .val (.int p1)] []) := fun t k => pre3 t (st4 _ k)
  obtain ⟨fs, hr, hrun, hended, hW, hsame⟩ := X4.leave (v := none) (fun _ => rfl) (BodyLoose.notSynchronized Bd)
  refine ⟨_, _, pre4 _ ?_, hrun, hended, _, _, rfl, ?_, ⟨_, rfl⟩, hW, hsame.mono (Nat.le_of_ble_eq_true rfl) (Nat.le_of_ble_eq_true rfl)⟩
  · exact X4.returnOut hx Bd.returns (hb hby d1_9) hr
  · show Q_ini Z a0 p1 h0 n0 _ T4.heap _
    rw [e4]
    exact ⟨rfl, N4, f8, f6, f7⟩
theorem d6_0 : decode jdk_18_method_1_code 0 = .ok (.aload_n 0, 1) := by decide +kernel
theorem d6_1 : decode jdk_18_method_1_code 1 = .ok (.invokespecial 1, 3) := by decide +kernel
theorem d6_4 : decode jdk_18_method_1_code 4 = .ok (.return_, 1) := by decide +kernel
theorem pn_num : plainName "java/lang/Number" = true := by first | (simp [plainName, overriddenIn]; done) | decide +kernel
theorem ef_num (m : MethodId) (a0 : Addr) : entryFrame m #[(.ref a0)] 1 = mkF m 0 #[.val (.ref a0)] [] := by first | (simp [entryFrame, mkF, argsToLocals, Value.category]; done) | rfl
def Q_num (Z : State) (a0 : Addr) (h0 : Heap) (n0 : Nat) (v : Option Value) (h : Heap) (L : List Loc) : Prop := v = none ∧ Fr n0 L ∧ h = h0
set_option maxRecDepth 65536 in
set_option maxHeartbeats 40000000 in
theorem rm_num (l : Launch) (Z : State) (av0 : Array Value) (hw : ∀ d ∈ tables_1, d.before av0 Z = true) (ws : List Jvm.Cond) (a0 : Addr) (h0 : Heap) (n0 : Nat) :
    MetFree l (⟨"java/lang/Number", "<init>", "()V"⟩ : MethodName) (head1 (Jvm.Cond.code (⟨"java/lang/Number", "<init>", "()V"⟩ : MethodName) jdk_18_method_1_code 1 none :: ws) ({ frames := 1, cells := 0, slots := 0, locals := 12 } : Room)) (fun a U => a = #[(.ref a0)] ∧ Z.Warmed39 U.vm ∧ U.heap = h0) (fun _ _ _ _ _ => True) (fun _ U o U' => ∃ v L, o = .returned v ∧ Q_num Z a0 h0 n0 v U'.heap L ∧ FrameEnd U o U' L ({ frames := 1, cells := 0, slots := 0, locals := 12 } : Room).cells ({ frames := 1, cells := 0, slots := 0, locals := 12 } : Room).slots) := by
  refine MetFree.of_bodySF (plainFor_of_name pn_num) hisR ?_
  intro p e s m args below meth c s₁ Bd hml0 hP hK
  obtain ⟨rfl, hZ, hh⟩ := hP
  have hx := Bd.exec
  have hby := Bd.bytes
  have hml : c.maxLocals = 1 := hml0
  have hown : s.vm.findClass "java/lang/Number" = some m.cls := findClass_of_methodNamed Bd.named
  have hnm := (name_of_methodNamed Bd.named Bd.method).1
  have X0 : Stand p l e ({ frames := 1, cells := 0, slots := 0, locals := 12 } : Room) s m #[(.ref a0)] below meth c s₁ [] 0 0 := Stand.of_body Bd
  have e0 : s₁.heap = h0 := by rw [← hh, Bd.state]; rfl
  have N0 := Fr.nil n0
  have pre0 : Go p.tables e below (s₁.setTop (entryFrame m #[(.ref a0)] 1)) s₁ (mkF m 0 #[.val (.ref a0)] []) := fun t k => castTop (ef_num m a0) k
  have pre1 : Go p.tables e below (s₁.setTop (entryFrame m #[(.ref a0)] 1)) s₁ (mkF m 1 #[.val (.ref a0)] [(.ref a0)]) := fun t k => pre0 t (by
      refine XS.aloadN X0.here hx rfl (hb hby d6_0) rfl rfl ?_
      exact k)
  obtain ⟨T2, X2, e2, st2⟩ := initO X0 hx hZ hown (hw _ (List.mem_of_getElem? (i := 40) rfl)) (hw _ (List.mem_of_getElem? (i := 7) rfl)) (hw _ (List.mem_of_getElem? (i := 8) rfl)) e0 (g := (mkF m 1 #[.val (.ref a0)] [(.ref a0)])) rfl (by rw [hml]; rfl) rfl (hb hby d6_1) (by decide) (W := 0) (by show 2 * 0 + _ ≤ _; exact Nat.le_of_eq rfl) (by decide)
  have pre2 : Go p.tables e below (s₁.setTop (entryFrame m #[(.ref a0)] 1)) T2 (mkF m 4 #[.val (.ref a0)] []) := fun t k => pre1 t (st2 _ k)
  obtain ⟨fs, hr, hrun, hended, hW, hsame⟩ := X2.leave (v := none) (fun _ => rfl) (BodyLoose.notSynchronized Bd)
  refine ⟨_, _, pre2 _ ?_, hrun, hended, _, _, rfl, ?_, ⟨_, rfl⟩, hW, hsame.mono (Nat.le_of_ble_eq_true rfl) (Nat.le_of_ble_eq_true rfl)⟩
  · exact X2.returnOut hx Bd.returns (hb hby d6_4) hr
  · show Q_num Z a0 h0 n0 _ T2.heap _
    rw [e2]
    exact ⟨rfl, N0, rfl⟩
theorem d5_0 : decode jdk_33_method_23_code 0 = .ok (.aload_n 0, 1) := by decide +kernel
theorem d5_1 : decode jdk_33_method_23_code 1 = .ok (.invokespecial 202, 3) := by decide +kernel
theorem d5_4 : decode jdk_33_method_23_code 4 = .ok (.aload_n 0, 1) := by decide +kernel
theorem d5_5 : decode jdk_33_method_23_code 5 = .ok (.iload_n 1, 1) := by decide +kernel
theorem d5_6 : decode jdk_33_method_23_code 6 = .ok (.putfield 205, 3) := by decide +kernel
theorem d5_9 : decode jdk_33_method_23_code 9 = .ok (.return_, 1) := by decide +kernel
theorem pn_ini_int : plainName "java/lang/Integer" = true := by first | (simp [plainName, overriddenIn]; done) | decide +kernel
theorem ef_ini_int (m : MethodId) (a0 : Addr) (p1 : Int32) : entryFrame m #[(.ref a0), (.int p1)] 2 = mkF m 0 #[.val (.ref a0), .val (.int p1)] [] := by first | (simp [entryFrame, mkF, argsToLocals, Value.category]; done) | rfl
def Q_ini_int (Z : State) (a0 : Addr) (p1 : Int32) (h0 : Heap) (n0 : Nat) (v : Option Value) (h : Heap) (L : List Loc) : Prop := v = none ∧ Fr n0 L ∧ Keep h0 h [a0] ∧ Exa Z h a0 "java/lang/Integer" ∧ Fld Z h a0 "java/lang/Integer" "value" "I" (.int p1)
set_option maxRecDepth 65536 in
set_option maxHeartbeats 40000000 in
theorem rm_ini_int (l : Launch) (Z : State) (av0 : Array Value) (hw : ∀ d ∈ tables_1, d.before av0 Z = true) (ws : List Jvm.Cond) (a0 : Addr) (p1 : Int32) (h0 : Heap) (n0 : Nat) (Z0 : n0 ≤ h0.size) (F0 : Fld Z h0 a0 "java/lang/Integer" "value" "I" (.int (0 : Int32))) (E0 : Exa Z h0 a0 "java/lang/Integer") (g0 : n0 ≤ a0) :
    MetFree l (⟨"java/lang/Integer", "<init>", "(I)V"⟩ : MethodName) (head1 (Jvm.Cond.code (⟨"java/lang/Integer", "<init>", "(I)V"⟩ : MethodName) jdk_33_method_23_code 2 none :: ws) ({ frames := 2, cells := 0, slots := 0, locals := 24 } : Room)) (fun a U => a = #[(.ref a0), (.int p1)] ∧ Z.Warmed39 U.vm ∧ U.heap = h0) (fun _ _ _ _ _ => True) (fun _ U o U' => ∃ v L, o = .returned v ∧ Q_ini_int Z a0 p1 h0 n0 v U'.heap L ∧ FrameEnd U o U' L ({ frames := 2, cells := 0, slots := 0, locals := 24 } : Room).cells ({ frames := 2, cells := 0, slots := 0, locals := 24 } : Room).slots) := by
  refine MetFree.of_bodySF (plainFor_of_name pn_ini_int) hisR ?_
  intro p e s m args below meth c s₁ Bd hml0 hP hK
  obtain ⟨rfl, hZ, hh⟩ := hP
  have hx := Bd.exec
  have hby := Bd.bytes
  have hml : c.maxLocals = 2 := hml0
  have hown : s.vm.findClass "java/lang/Integer" = some m.cls := findClass_of_methodNamed Bd.named
  have hnm := (name_of_methodNamed Bd.named Bd.method).1
  have X0 : Stand p l e ({ frames := 2, cells := 0, slots := 0, locals := 24 } : Room) s m #[(.ref a0), (.int p1)] below meth c s₁ [] 0 0 := Stand.of_body Bd
  have e0 : s₁.heap = h0 := by rw [← hh, Bd.state]; rfl
  have N0 := Fr.nil n0
  have pre0 : Go p.tables e below (s₁.setTop (entryFrame m #[(.ref a0), (.int p1)] 2)) s₁ (mkF m 0 #[.val (.ref a0), .val (.int p1)] []) := fun t k => castTop (ef_ini_int m a0 p1) k
  have K0 : Keep h0 h0 [a0] := Keep.refl _ _
  have pre1 : Go p.tables e below (s₁.setTop (entryFrame m #[(.ref a0), (.int p1)] 2)) s₁ (mkF m 1 #[.val (.ref a0), .val (.int p1)] [(.ref a0)]) := fun t k => pre0 t (by
      refine XS.aloadN X0.here hx rfl (hb hby d5_0) rfl rfl ?_
      exact k)
  obtain ⟨_, _, ⟨T2, L2, k2, n2⟩, -, X2, ⟨Lc2, hQ2, l2, y2, z2⟩, st2⟩ := X0.specialBack hx (y := (⟨"java/lang/Number", "<init>", "()V"⟩ : MethodName)) rfl hown (mvT hZ (hw _ (List.mem_of_getElem? (i := 34) rfl))) (mvT hZ (hw _ (List.mem_of_getElem? (i := 35) rfl))) (mvT hZ (hw _ (List.mem_of_getElem? (i := 39) rfl))) (by decide) (backOf (W := 0) (rm_num l Z av0 hw [] a0 h0 n0) hZ (hw _ (List.mem_of_getElem? (i := 39) rfl)) (hw _ (List.mem_of_getElem? (i := 38) rfl)) (by decide) (by decide)) (g := (mkF m 1 #[.val (.ref a0), .val (.int p1)] [(.ref a0)])) rfl (by rw [hml]; rfl) (Steps.refl _) (a := a0) (argsL := []) (rest := []) (lenOf pd_0 rfl) rfl (by show 2 * 0 + _ ≤ _; exact Nat.le_of_eq rfl) (hb hby d5_1) (fun _ _ => ⟨rfl, e0, (by decide : 0 + 0 ≤ _), (by decide : 0 + 0 ≤ _)⟩)
  dsimp only [Pt.U, Pt.locs, Pt.cells, Pt.slots] at X2 l2 y2 z2 st2 hQ2
  subst l2 y2 z2
  obtain ⟨rfl, N2q, e2⟩ := hQ2
  have N2 := Fr.app N0 N2q
  have pre2 : Go p.tables e below (s₁.setTop (entryFrame m #[(.ref a0), (.int p1)] 2)) T2 (mkF m 4 #[.val (.ref a0), .val (.int p1)] []) := fun t k => pre1 t (st2.trans k)
  have pre3 : Go p.tables e below (s₁.setTop (entryFrame m #[(.ref a0), (.int p1)] 2)) T2 (mkF m 6 #[.val (.ref a0), .val (.int p1)] [(.int p1), (.ref a0)]) := fun t k => pre2 t (by
      refine XS.aloadN X2.here hx rfl (hb hby d5_4) rfl rfl ?_
      show Steps p.tables e below (T2.setTop (mkF m 5 #[.val (.ref a0), .val (.int p1)] [(.ref a0)])) _
      refine XS.iloadN X2.here hx rfl (hb hby d5_5) rfl ?_
      exact k)
  obtain ⟨T4, h4, X4, e4, W4, st4⟩ := putF X2 hx hZ hown (host := "") (Or.inl (hw _ (List.mem_of_getElem? (i := 41) rfl))) Via.refl e2 F0 E0 (Or.inr ⟨(hw _ (List.mem_of_getElem? (i := 42) rfl)), rfl, hnm⟩) (hw _ (List.mem_of_getElem? (i := 29) rfl)) (ty := .int) (by decide) rfl rfl (g := (mkF m 6 #[.val (.ref a0), .val (.int p1)] [(.int p1), (.ref a0)])) rfl rfl (hb hby d5_6)
  have N4 := Fr.snoc X4 N2 g0
  have f5 : n0 ≤ h4.size := Nat.le_trans Z0 (Keep.of_wr W4).1
  have f6 : Exa Z h4 a0 "java/lang/Integer" := E0.wr W4
  have f7 : Fld Z h4 a0 "java/lang/Integer" "value" "I" (.int p1) := F0.same W4
  have f8 : Keep h0 h4 [a0] := K0.wr W4 (Or.inl (List.mem_of_getElem? (i := 0) rfl))
  have pre4 : Go p.tables e below (s₁.setTop (entryFrame m #[(.ref a0), (.int p1)] 2)) T4 (mkF m 9 #[.val (.ref a0), .val (.int p1)] []) := fun t k => pre3 t (st4 _ k)
  obtain ⟨fs, hr, hrun, hended, hW, hsame⟩ := X4.leave (v := none) (fun _ => rfl) (BodyLoose.notSynchronized Bd)
  refine ⟨_, _, pre4 _ ?_, hrun, hended, _, _, rfl, ?_, ⟨_, rfl⟩, hW, hsame.mono (Nat.le_of_ble_eq_true rfl) (Nat.le_of_ble_eq_true rfl)⟩
  · exact X4.returnOut hx Bd.returns (hb hby d5_9) hr
  · show Q_ini_int Z a0 p1 h0 n0 _ T4.heap _
    rw [e4]
    exact ⟨rfl, N4, f8, f6, f7⟩
theorem d3_0 : decode jdk_33_method_22_code 0 = .ok (.iload_n 0, 1) := by decide +kernel
theorem d3_1 : decode jdk_33_method_22_code 1 = .ok (.bipush (-128), 2) := by decide +kernel
theorem d3_3 : decode jdk_33_method_22_code 3 = .ok (.if_icmp .lt 20, 3) := by decide +kernel
theorem d3_6 : decode jdk_33_method_22_code 6 = .ok (.iload_n 0, 1) := by decide +kernel
theorem d3_7 : decode jdk_33_method_22_code 7 = .ok (.getstatic 191, 3) := by decide +kernel
theorem d3_10 : decode jdk_33_method_22_code 10 = .ok (.if_icmp .gt 13, 3) := by decide +kernel
theorem d3_13 : decode jdk_33_method_22_code 13 = .ok (.getstatic 195, 3) := by decide +kernel
theorem d3_16 : decode jdk_33_method_22_code 16 = .ok (.iload_n 0, 1) := by decide +kernel
theorem d3_17 : decode jdk_33_method_22_code 17 = .ok (.sipush 128, 3) := by decide +kernel
theorem d3_20 : decode jdk_33_method_22_code 20 = .ok (.iadd, 1) := by decide +kernel
theorem d3_21 : decode jdk_33_method_22_code 21 = .ok (.aaload, 1) := by decide +kernel
theorem d3_22 : decode jdk_33_method_22_code 22 = .ok (.areturn, 1) := by decide +kernel
theorem d3_23 : decode jdk_33_method_22_code 23 = .ok (.new 1, 3) := by decide +kernel
theorem d3_26 : decode jdk_33_method_22_code 26 = .ok (.dup, 1) := by decide +kernel
theorem d3_27 : decode jdk_33_method_22_code 27 = .ok (.iload_n 0, 1) := by decide +kernel
theorem d3_28 : decode jdk_33_method_22_code 28 = .ok (.invokespecial 199, 3) := by decide +kernel
theorem d3_31 : decode jdk_33_method_22_code 31 = .ok (.areturn, 1) := by decide +kernel
theorem pn_box : plainName "java/lang/Integer" = true := by first | (simp [plainName, overriddenIn]; done) | decide +kernel
theorem ef_box (m : MethodId) (p0 : Int32) : entryFrame m #[(.int p0)] 1 = mkF m 0 #[.val (.int p0)] [] := by first | (simp [entryFrame, mkF, argsToLocals, Value.category]; done) | rfl
def Q_box (Z : State) (p0 : Int32) (ab : Addr) (cb : Cell) (vb : Int32 → Value) (h0 : Heap) (n0 : Nat) (v : Option Value) (h : Heap) (L : List Loc) : Prop := ∃ b, v = some (.ref b) ∧ Fr n0 L ∧ Keep h0 h [] ∧ Exa Z h b "java/lang/Integer"
set_option maxRecDepth 65536 in
set_option maxHeartbeats 40000000 in
theorem rm_box (l : Launch) (Z : State) (av0 : Array Value) (hw : ∀ d ∈ tables_1, d.before av0 Z = true) (ws : List Jvm.Cond) (p0 : Int32) (ab : Addr) (cb : Cell) (vb : Int32 → Value) (h0 : Heap) (n0 : Nat) (Z0 : n0 ≤ h0.size) (O0 : Old Z n0 h0) (S_high : Sta Z Z.heap "java/lang/Integer$IntegerCache" "high" "I" (.int (127 : Int32))) (S_cache : Sta Z Z.heap "java/lang/Integer$IntegerCache" "cache" "[Ljava/lang/Integer;" (.ref ab)) (Bx : Bxs Z ab cb "java/lang/Integer" "I" (256 : Int32) vb) :
    MetFree l (⟨"java/lang/Integer", "valueOf", "(I)Ljava/lang/Integer;"⟩ : MethodName) (head1 (Jvm.Cond.code (⟨"java/lang/Integer", "valueOf", "(I)Ljava/lang/Integer;"⟩ : MethodName) jdk_33_method_22_code 1 (some (.object "java/lang/Integer")) :: ws) ({ frames := 3, cells := 1, slots := 1, locals := 38 } : Room)) (fun a U => a = #[(.int p0)] ∧ Z.Warmed39 U.vm ∧ U.heap = h0) (fun _ _ _ _ _ => True) (fun _ U o U' => ∃ v L, o = .returned v ∧ Q_box Z p0 ab cb vb h0 n0 v U'.heap L ∧ FrameEnd U o U' L ({ frames := 3, cells := 1, slots := 1, locals := 38 } : Room).cells ({ frames := 3, cells := 1, slots := 1, locals := 38 } : Room).slots) := by
  refine MetFree.of_bodySF (plainFor_of_name pn_box) hisR ?_
  intro p e s m args below meth c s₁ Bd hml0 hP hK
  obtain ⟨rfl, hZ, hh⟩ := hP
  have hx := Bd.exec
  have hby := Bd.bytes
  have hml : c.maxLocals = 1 := hml0
  have hown : s.vm.findClass "java/lang/Integer" = some m.cls := findClass_of_methodNamed Bd.named
  have hnm := (name_of_methodNamed Bd.named Bd.method).1
  have X0 : Stand p l e ({ frames := 3, cells := 1, slots := 1, locals := 38 } : Room) s m #[(.int p0)] below meth c s₁ [] 0 0 := Stand.of_body Bd
  have e0 : s₁.heap = h0 := by rw [← hh, Bd.state]; rfl
  have N0 := Fr.nil n0
  have pre0 : Go p.tables e below (s₁.setTop (entryFrame m #[(.int p0)] 1)) s₁ (mkF m 0 #[.val (.int p0)] []) := fun t k => castTop (ef_box m p0) k
  have K0 : Keep h0 h0 [] := Keep.refl _ _
  have pre1 : Go p.tables e below (s₁.setTop (entryFrame m #[(.int p0)] 1)) s₁ (mkF m 3 #[.val (.int p0)] [(.int (-128 : Int32)), (.int p0)]) := fun t k => pre0 t (by
      refine XS.iloadN X0.here hx rfl (hb hby d3_0) rfl ?_
      show Steps p.tables e below (s₁.setTop (mkF m 1 #[.val (.int p0)] [(.int p0)])) _
      refine XS.bipush X0.here hx rfl (hb hby d3_1) ?_
      exact k)
  by_cases hc2 : p0 < (-128 : Int32)
  · -- hc2: True
    have pre3 : Go p.tables e below (s₁.setTop (entryFrame m #[(.int p0)] 1)) s₁ (mkF m 23 #[.val (.int p0)] []) := fun t k => pre1 t (by
        refine XS.icmpYes X0.here hx rfl (pc0 := 3) (pc' := 23) rfl (hb hby d3_3) rfl (tlt hc2).1 (by decide) (by decide) ?_
        exact k)
    obtain ⟨T4, h4, X4, e4, E4, A4, D4, -, st4⟩ := newO X0 hx hZ hown (hw _ (List.mem_of_getElem? (i := 28) rfl)) (hw _ (List.mem_of_getElem? (i := 29) rfl)) (hw _ (List.mem_of_getElem? (i := 13) rfl)) e0 (g := (mkF m 23 #[.val (.int p0)] [])) rfl (hb hby d3_23) (by decide) (by decide)
    obtain ⟨b4, ga4⟩ : ∃ z, z = h0.size := ⟨_, rfl⟩
    rw [← ga4] at A4 D4 st4
    have g5 : n0 ≤ b4 := Nat.le_trans Z0 (Nat.le_of_eq ga4.symm)
    have sz6 : h0.size ≤ b4 := Nat.le_trans K0.1 (Nat.le_of_eq ga4.symm)
    have f7 : n0 ≤ h4.size := Nat.le_trans Z0 E4.1
    have f8 : Old Z n0 h4 := O0.ext E4
    have f9 : Keep h0 h4 [] := K0.ext E4
    have f10 : Fld Z h4 b4 "java/lang/Integer" "value" "I" (.int (0 : Int32)) := D4 (Or.inr (hw _ (List.mem_of_getElem? (i := 42) rfl))) (ty := .int) (by decide)
    have pre4 : Go p.tables e below (s₁.setTop (entryFrame m #[(.int p0)] 1)) T4 (mkF m 26 #[.val (.int p0)] [(.ref b4)]) := fun t k => pre3 t (st4 _ k)
    have pre11 : Go p.tables e below (s₁.setTop (entryFrame m #[(.int p0)] 1)) T4 (mkF m 28 #[.val (.int p0)] [(.int p0), (.ref b4), (.ref b4)]) := fun t k => pre4 t (by
        refine XS.dup X4.here hx rfl (hb hby d3_26) rfl rfl ?_
        show Steps p.tables e below (T4.setTop (mkF m 27 #[.val (.int p0)] [(.ref b4), (.ref b4)])) _
        refine XS.iloadN X4.here hx rfl (hb hby d3_27) rfl ?_
        exact k)
    obtain ⟨_, _, ⟨T12, L12, k12, n12⟩, -, X12, ⟨Lc12, hQ12, l12, y12, z12⟩, st12⟩ := X4.specialBack hx (y := (⟨"java/lang/Integer", "<init>", "(I)V"⟩ : MethodName)) rfl hown (mvT hZ (hw _ (List.mem_of_getElem? (i := 30) rfl))) (mvT hZ (hw _ (List.mem_of_getElem? (i := 31) rfl))) (mvT hZ (hw _ (List.mem_of_getElem? (i := 33) rfl))) (by decide) (backOf (W := 1) (rm_ini_int l Z av0 hw [] b4 p0 h4 n0 f7 f10 A4 g5) hZ (hw _ (List.mem_of_getElem? (i := 33) rfl)) (hw _ (List.mem_of_getElem? (i := 13) rfl)) (by decide) (by decide)) (g := (mkF m 28 #[.val (.int p0)] [(.int p0), (.ref b4), (.ref b4)])) rfl (by rw [hml]; rfl) (Steps.refl _) (a := b4) (argsL := [(.int p0)]) (rest := [(.ref b4)]) (lenOf pd_1 rfl) rfl (by show 2 * 0 + _ ≤ _; exact Nat.le_of_eq rfl) (hb hby d3_28) (fun _ _ => ⟨rfl, e4, (by decide : 1 + 0 ≤ _), (by decide : 1 + 0 ≤ _)⟩)
    dsimp only [Pt.U, Pt.locs, Pt.cells, Pt.slots] at X12 l12 y12 z12 st12 hQ12
    subst l12 y12 z12
    obtain ⟨rfl, N12q, K12, Eq12, Fq12_0⟩ := hQ12
    have f13 : n0 ≤ T12.heap.size := Nat.le_trans f7 K12.1
    have f14 : Old Z n0 T12.heap := f8.keep K12 (allS g5 all0)
    have f15 : Keep h0 T12.heap [] := f9.trans K12 (allS (Or.inr sz6) all0)
    have f16 : Exa Z T12.heap b4 "java/lang/Integer" := A4.keep K12
    have N12 := Fr.app N0 N12q
    have pre12 : Go p.tables e below (s₁.setTop (entryFrame m #[(.int p0)] 1)) T12 (mkF m 31 #[.val (.int p0)] [(.ref b4)]) := fun t k => pre11 t (st12.trans k)
    obtain ⟨fs, hr, hrun, hended, hW, hsame⟩ := X12.leave (v := some (.ref b4)) (fun h => by rw [Bd.returns] at h; cases h) (BodyLoose.notSynchronized Bd)
    refine ⟨_, _, pre12 _ ?_, hrun, hended, _, _, rfl, ?_, ⟨_, rfl⟩, hW, hsame.mono (Nat.le_of_ble_eq_true rfl) (Nat.le_of_ble_eq_true rfl)⟩
    · exact retOut X12 hx Bd.returns rfl (Or.inr (Or.inr (Or.inr (Or.inr ⟨rfl, rfl, rfl⟩)))) (hb hby d3_31) hr
    · show Q_box Z p0 ab cb vb h0 n0 _ T12.heap _
      exact ⟨b4, rfl, N12, f15, f16⟩
  · -- hc2: False
    have pre17 : Go p.tables e below (s₁.setTop (entryFrame m #[(.int p0)] 1)) s₁ (mkF m 7 #[.val (.int p0)] [(.int p0)]) := fun t k => pre1 t (by
        refine XS.icmpNo X0.here hx rfl (hb hby d3_3) rfl (flt hc2).1 ?_
        show Steps p.tables e below (s₁.setTop (mkF m 6 #[.val (.int p0)] [])) _
        refine XS.iloadN X0.here hx rfl (hb hby d3_6) rfl ?_
        exact k)
    obtain ⟨T18, X18, e18, st18⟩ := getS2 X0 hx hZ hown (host := "") (Or.inl (hw _ (List.mem_of_getElem? (i := 15) rfl))) Via.refl e0 (S_high.ext O0.2) (g := (mkF m 7 #[.val (.int p0)] [(.int p0)])) rfl (hb hby d3_7)
    have pre18 : Go p.tables e below (s₁.setTop (entryFrame m #[(.int p0)] 1)) T18 (mkF m 10 #[.val (.int p0)] [(.int (127 : Int32)), (.int p0)]) := fun t k => pre17 t (st18 _ k)
    by_cases hc19 : (127 : Int32) < p0
    · -- hc19: True
      have pre20 : Go p.tables e below (s₁.setTop (entryFrame m #[(.int p0)] 1)) T18 (mkF m 23 #[.val (.int p0)] []) := fun t k => pre18 t (by
          refine XS.icmpYes X18.here hx rfl (pc0 := 10) (pc' := 23) rfl (hb hby d3_10) rfl (tlt hc19).2.2.1 (by decide) (by decide) ?_
          exact k)
      obtain ⟨T21, h21, X21, e21, E21, A21, D21, -, st21⟩ := newO X18 hx hZ hown (hw _ (List.mem_of_getElem? (i := 28) rfl)) (hw _ (List.mem_of_getElem? (i := 29) rfl)) (hw _ (List.mem_of_getElem? (i := 13) rfl)) e18 (g := (mkF m 23 #[.val (.int p0)] [])) rfl (hb hby d3_23) (by decide) (by decide)
      obtain ⟨b21, ga21⟩ : ∃ z, z = h0.size := ⟨_, rfl⟩
      rw [← ga21] at A21 D21 st21
      have g22 : n0 ≤ b21 := Nat.le_trans Z0 (Nat.le_of_eq ga21.symm)
      have sz23 : h0.size ≤ b21 := Nat.le_trans K0.1 (Nat.le_of_eq ga21.symm)
      have f24 : n0 ≤ h21.size := Nat.le_trans Z0 E21.1
      have f25 : Old Z n0 h21 := O0.ext E21
      have f26 : Keep h0 h21 [] := K0.ext E21
      have f27 : Fld Z h21 b21 "java/lang/Integer" "value" "I" (.int (0 : Int32)) := D21 (Or.inr (hw _ (List.mem_of_getElem? (i := 42) rfl))) (ty := .int) (by decide)
      have pre21 : Go p.tables e below (s₁.setTop (entryFrame m #[(.int p0)] 1)) T21 (mkF m 26 #[.val (.int p0)] [(.ref b21)]) := fun t k => pre20 t (st21 _ k)
      have pre28 : Go p.tables e below (s₁.setTop (entryFrame m #[(.int p0)] 1)) T21 (mkF m 28 #[.val (.int p0)] [(.int p0), (.ref b21), (.ref b21)]) := fun t k => pre21 t (by
          refine XS.dup X21.here hx rfl (hb hby d3_26) rfl rfl ?_
          show Steps p.tables e below (T21.setTop (mkF m 27 #[.val (.int p0)] [(.ref b21), (.ref b21)])) _
          refine XS.iloadN X21.here hx rfl (hb hby d3_27) rfl ?_
          exact k)
      obtain ⟨_, _, ⟨T29, L29, k29, n29⟩, -, X29, ⟨Lc29, hQ29, l29, y29, z29⟩, st29⟩ := X21.specialBack hx (y := (⟨"java/lang/Integer", "<init>", "(I)V"⟩ : MethodName)) rfl hown (mvT hZ (hw _ (List.mem_of_getElem? (i := 30) rfl))) (mvT hZ (hw _ (List.mem_of_getElem? (i := 31) rfl))) (mvT hZ (hw _ (List.mem_of_getElem? (i := 33) rfl))) (by decide) (backOf (W := 1) (rm_ini_int l Z av0 hw [] b21 p0 h21 n0 f24 f27 A21 g22) hZ (hw _ (List.mem_of_getElem? (i := 33) rfl)) (hw _ (List.mem_of_getElem? (i := 13) rfl)) (by decide) (by decide)) (g := (mkF m 28 #[.val (.int p0)] [(.int p0), (.ref b21), (.ref b21)])) rfl (by rw [hml]; rfl) (Steps.refl _) (a := b21) (argsL := [(.int p0)]) (rest := [(.ref b21)]) (lenOf pd_1 rfl) rfl (by show 2 * 0 + _ ≤ _; exact Nat.le_of_eq rfl) (hb hby d3_28) (fun _ _ => ⟨rfl, e21, (by decide : 1 + 0 ≤ _), (by decide : 1 + 0 ≤ _)⟩)
      dsimp only [Pt.U, Pt.locs, Pt.cells, Pt.slots] at X29 l29 y29 z29 st29 hQ29
      subst l29 y29 z29
      obtain ⟨rfl, N29q, K29, Eq29, Fq29_0⟩ := hQ29
      have f30 : n0 ≤ T29.heap.size := Nat.le_trans f24 K29.1
      have f31 : Old Z n0 T29.heap := f25.keep K29 (allS g22 all0)
      have f32 : Keep h0 T29.heap [] := f26.trans K29 (allS (Or.inr sz23) all0)
      have f33 : Exa Z T29.heap b21 "java/lang/Integer" := A21.keep K29
      have N29 := Fr.app N0 N29q
      have pre29 : Go p.tables e below (s₁.setTop (entryFrame m #[(.int p0)] 1)) T29 (mkF m 31 #[.val (.int p0)] [(.ref b21)]) := fun t k => pre28 t (st29.trans k)
      obtain ⟨fs, hr, hrun, hended, hW, hsame⟩ := X29.leave (v := some (.ref b21)) (fun h => by rw [Bd.returns] at h; cases h) (BodyLoose.notSynchronized Bd)
      refine ⟨_, _, pre29 _ ?_, hrun, hended, _, _, rfl, ?_, ⟨_, rfl⟩, hW, hsame.mono (Nat.le_of_ble_eq_true rfl) (Nat.le_of_ble_eq_true rfl)⟩
      · exact retOut X29 hx Bd.returns rfl (Or.inr (Or.inr (Or.inr (Or.inr ⟨rfl, rfl, rfl⟩)))) (hb hby d3_31) hr
      · show Q_box Z p0 ab cb vb h0 n0 _ T29.heap _
        exact ⟨b21, rfl, N29, f32, f33⟩
    · -- hc19: False
      have pre34 : Go p.tables e below (s₁.setTop (entryFrame m #[(.int p0)] 1)) T18 (mkF m 13 #[.val (.int p0)] []) := fun t k => pre18 t (by
          refine XS.icmpNo X18.here hx rfl (hb hby d3_10) rfl (flt hc19).2.2.1 ?_
          exact k)
      obtain ⟨T35, X35, e35, st35⟩ := getS2 X18 hx hZ hown (host := "") (Or.inl (hw _ (List.mem_of_getElem? (i := 17) rfl))) Via.refl e18 (S_cache.ext O0.2) (g := (mkF m 13 #[.val (.int p0)] [])) rfl (hb hby d3_13)
      have pre35 : Go p.tables e below (s₁.setTop (entryFrame m #[(.int p0)] 1)) T35 (mkF m 16 #[.val (.int p0)] [(.ref ab)]) := fun t k => pre34 t (st35 _ k)
      have pre36 : Go p.tables e below (s₁.setTop (entryFrame m #[(.int p0)] 1)) T35 (mkF m 21 #[.val (.int p0)] [(.int (p0 + (128 : Int32))), (.ref ab)]) := fun t k => pre35 t (by
          refine XS.iloadN X35.here hx rfl (hb hby d3_16) rfl ?_
          show Steps p.tables e below (T35.setTop (mkF m 17 #[.val (.int p0)] [(.int p0), (.ref ab)])) _
          refine XS.sipush X35.here hx rfl (hb hby d3_17) ?_
          show Steps p.tables e below (T35.setTop (mkF m 20 #[.val (.int p0)] [(.int (128 : Int32)), (.int p0), (.ref ab)])) _
          refine XS.iadd X35.here hx rfl (hb hby d3_20) rfl ?_
          exact k)
      obtain ⟨Ba, Bs, Bn, Be⟩ := (id Bx)
      have hin : ¬ ((p0 + (128 : Int32)) < 0 ∨ cb.slots.size ≤ ((p0 + (128 : Int32))).toNatClampNeg) := inb_of Bs (own_box p0 hc2 hc19)
      obtain ⟨bx, hbx, Ebx, -⟩ := Be _ hin
      have pre37 : Go p.tables e below (s₁.setTop (entryFrame m #[(.int p0)] 1)) T35 (mkF m 22 #[.val (.int p0)] [(.ref bx)]) := fun t k => pre36 t (X35.aaload hx (j := (p0 + (128 : Int32))) (v := (.ref bx)) (by rw [e35]; exact (Ba.ext O0.2).1) (State.isArrayOf_alike hZ.alike Ba.2.1) rfl Ba.2.2 hin hbx (g := (mkF m 21 #[.val (.int p0)] [(.int (p0 + (128 : Int32))), (.ref ab)])) rfl rfl (hb hby d3_21) _ k)
      obtain ⟨fs, hr, hrun, hended, hW, hsame⟩ := X35.leave (v := some (.ref bx)) (fun h => by rw [Bd.returns] at h; cases h) (BodyLoose.notSynchronized Bd)
      refine ⟨_, _, pre37 _ ?_, hrun, hended, _, _, rfl, ?_, ⟨_, rfl⟩, hW, hsame.mono (Nat.le_of_ble_eq_true rfl) (Nat.le_of_ble_eq_true rfl)⟩
      · exact retOut X35 hx Bd.returns rfl (Or.inr (Or.inr (Or.inr (Or.inr ⟨rfl, rfl, rfl⟩)))) (hb hby d3_22) hr
      · show Q_box Z p0 ab cb vb h0 n0 _ T35.heap _
        rw [e35]
        exact ⟨bx, rfl, N0, K0, (Ebx.ext O0.2)⟩
theorem d4_0 : decode prog_26_method_3_code 0 = .ok (.aload_n 1, 1) := by decide +kernel
theorem d4_1 : decode prog_26_method_3_code 1 = .ok (.instanceof 8, 3) := by decide +kernel
theorem d4_4 : decode prog_26_method_3_code 4 = .ok (.ifCond .eq 21, 3) := by decide +kernel
theorem d4_7 : decode prog_26_method_3_code 7 = .ok (.aload_n 1, 1) := by decide +kernel
theorem d4_8 : decode prog_26_method_3_code 8 = .ok (.checkcast 8, 3) := by decide +kernel
theorem d4_11 : decode prog_26_method_3_code 11 = .ok (.getfield 7, 3) := by decide +kernel
theorem d4_14 : decode prog_26_method_3_code 14 = .ok (.aload_n 0, 1) := by decide +kernel
theorem d4_15 : decode prog_26_method_3_code 15 = .ok (.getfield 7, 3) := by decide +kernel
theorem d4_18 : decode prog_26_method_3_code 18 = .ok (.if_icmp .ne 7, 3) := by decide +kernel
theorem d4_21 : decode prog_26_method_3_code 21 = .ok (.iconst 1, 1) := by decide +kernel
theorem d4_22 : decode prog_26_method_3_code 22 = .ok (.goto 4, 3) := by decide +kernel
theorem d4_25 : decode prog_26_method_3_code 25 = .ok (.iconst 0, 1) := by decide +kernel
theorem d4_26 : decode prog_26_method_3_code 26 = .ok (.ireturn, 1) := by decide +kernel
theorem pn_eq1 : plainName "com/example/backrank/backrank/Move" = true := by first | (simp [plainName, overriddenIn]; done) | decide +kernel
theorem ef_eq1 (m : MethodId) (a0 : Addr) (a1 : Addr) : entryFrame m #[(.ref a0), (.ref a1)] 2 = mkF m 0 #[.val (.ref a0), .val (.ref a1)] [] := by first | (simp [entryFrame, mkF, argsToLocals, Value.category]; done) | rfl
def Q_eq1 (Z : State) (a0 : Addr) (a1 : Addr) (x0 : Int32) (y0 : Int32) (h0 : Heap) (n0 : Nat) (v : Option Value) (h : Heap) (L : List Loc) : Prop := v = some (.int (own_eq x0 y0)) ∧ Fr n0 L ∧ h = h0
set_option maxRecDepth 65536 in
set_option maxHeartbeats 40000000 in
theorem rm_eq1 (l : Launch) (Z : State) (av0 : Array Value) (hw : ∀ d ∈ tables_1, d.before av0 Z = true) (ws : List Jvm.Cond) (a0 : Addr) (a1 : Addr) (x0 : Int32) (y0 : Int32) (h0 : Heap) (n0 : Nat) (E1 : Exa Z h0 a1 "com/example/backrank/backrank/Move") (Fx0 : Fld Z h0 a0 "com/example/backrank/backrank/Move" "code" "I" (.int x0)) (Fy0 : Fld Z h0 a1 "com/example/backrank/backrank/Move" "code" "I" (.int y0)) :
    MetFree l (⟨"com/example/backrank/backrank/Move", "equals", "(Ljava/lang/Object;)Z"⟩ : MethodName) (head1 (Jvm.Cond.code (⟨"com/example/backrank/backrank/Move", "equals", "(Ljava/lang/Object;)Z"⟩ : MethodName) prog_26_method_3_code 2 (some .boolean) :: ws) ({ frames := 0, cells := 0, slots := 0, locals := 0 } : Room)) (fun a U => a = #[(.ref a0), (.ref a1)] ∧ Z.Warmed39 U.vm ∧ U.heap = h0) (fun _ _ _ _ _ => True) (fun _ U o U' => ∃ v L, o = .returned v ∧ Q_eq1 Z a0 a1 x0 y0 h0 n0 v U'.heap L ∧ FrameEnd U o U' L ({ frames := 0, cells := 0, slots := 0, locals := 0 } : Room).cells ({ frames := 0, cells := 0, slots := 0, locals := 0 } : Room).slots) := by
  refine MetFree.of_bodySF (plainFor_of_name pn_eq1) hisR ?_
  intro p e s m args below meth c s₁ Bd hml0 hP hK
  obtain ⟨rfl, hZ, hh⟩ := hP
  have hx := Bd.exec
  have hby := Bd.bytes
  have hml : c.maxLocals = 2 := hml0
  have hown : s.vm.findClass "com/example/backrank/backrank/Move" = some m.cls := findClass_of_methodNamed Bd.named
  have hnm := (name_of_methodNamed Bd.named Bd.method).1
  have X0 : Stand p l e ({ frames := 0, cells := 0, slots := 0, locals := 0 } : Room) s m #[(.ref a0), (.ref a1)] below meth c s₁ [] 0 0 := Stand.of_body Bd
  have e0 : s₁.heap = h0 := by rw [← hh, Bd.state]; rfl
  have N0 := Fr.nil n0
  have pre0 : Go p.tables e below (s₁.setTop (entryFrame m #[(.ref a0), (.ref a1)] 2)) s₁ (mkF m 0 #[.val (.ref a0), .val (.ref a1)] []) := fun t k => castTop (ef_eq1 m a0 a1) k
  have pre1 : Go p.tables e below (s₁.setTop (entryFrame m #[(.ref a0), (.ref a1)] 2)) s₁ (mkF m 1 #[.val (.ref a0), .val (.ref a1)] [(.ref a1)]) := fun t k => pre0 t (by
      refine XS.aloadN X0.here hx rfl (hb hby d4_0) rfl rfl ?_
      exact k)
  obtain ⟨T2, X2, e2, st2⟩ := instY X0 hx hZ hown (hw _ (List.mem_of_getElem? (i := 23) rfl)) e0 (Ins.self E1) (g := (mkF m 1 #[.val (.ref a0), .val (.ref a1)] [(.ref a1)])) rfl rfl (hb hby d4_1)
  have pre2 : Go p.tables e below (s₁.setTop (entryFrame m #[(.ref a0), (.ref a1)] 2)) T2 (mkF m 4 #[.val (.ref a0), .val (.ref a1)] [(.int (1 : Int32))]) := fun t k => pre1 t (st2 _ k)
  have pre3 : Go p.tables e below (s₁.setTop (entryFrame m #[(.ref a0), (.ref a1)] 2)) T2 (mkF m 8 #[.val (.ref a0), .val (.ref a1)] [(.ref a1)]) := fun t k => pre2 t (by
      refine XS.ifNo X2.here hx rfl (hb hby d4_4) rfl ((if0 _ _).trans (feq (by decide)).1) ?_
      show Steps p.tables e below (T2.setTop (mkF m 7 #[.val (.ref a0), .val (.ref a1)] [])) _
      refine XS.aloadN X2.here hx rfl (hb hby d4_7) rfl rfl ?_
      exact k)
  obtain ⟨T4, X4, e4, st4⟩ := castY X2 hx hZ hown (hw _ (List.mem_of_getElem? (i := 23) rfl)) e2 (Ins.self E1) (g := (mkF m 8 #[.val (.ref a0), .val (.ref a1)] [(.ref a1)])) rfl rfl (hb hby d4_8)
  have pre4 : Go p.tables e below (s₁.setTop (entryFrame m #[(.ref a0), (.ref a1)] 2)) T4 (mkF m 11 #[.val (.ref a0), .val (.ref a1)] [(.ref a1)]) := fun t k => pre3 t (st4 _ k)
  obtain ⟨T5, X5, e5, st5⟩ := getF X4 hx hZ hown (host := "") (Or.inl (hw _ (List.mem_of_getElem? (i := 9) rfl))) Via.refl e4 Fy0 (g := (mkF m 11 #[.val (.ref a0), .val (.ref a1)] [(.ref a1)])) rfl rfl (hb hby d4_11)
  have pre5 : Go p.tables e below (s₁.setTop (entryFrame m #[(.ref a0), (.ref a1)] 2)) T5 (mkF m 14 #[.val (.ref a0), .val (.ref a1)] [(.int y0)]) := fun t k => pre4 t (st5 _ k)
  have pre6 : Go p.tables e below (s₁.setTop (entryFrame m #[(.ref a0), (.ref a1)] 2)) T5 (mkF m 15 #[.val (.ref a0), .val (.ref a1)] [(.ref a0), (.int y0)]) := fun t k => pre5 t (by
      refine XS.aloadN X5.here hx rfl (hb hby d4_14) rfl rfl ?_
      exact k)
  obtain ⟨T7, X7, e7, st7⟩ := getF X5 hx hZ hown (host := "") (Or.inl (hw _ (List.mem_of_getElem? (i := 9) rfl))) Via.refl e5 Fx0 (g := (mkF m 15 #[.val (.ref a0), .val (.ref a1)] [(.ref a0), (.int y0)])) rfl rfl (hb hby d4_15)
  have pre7 : Go p.tables e below (s₁.setTop (entryFrame m #[(.ref a0), (.ref a1)] 2)) T7 (mkF m 18 #[.val (.ref a0), .val (.ref a1)] [(.int x0), (.int y0)]) := fun t k => pre6 t (st7 _ k)
  by_cases hc8 : y0 = x0
  · -- hc8: True
    have pre9 : Go p.tables e below (s₁.setTop (entryFrame m #[(.ref a0), (.ref a1)] 2)) T7 (mkF m 26 #[.val (.ref a0), .val (.ref a1)] [(.int (1 : Int32))]) := fun t k => pre7 t (by
        refine XS.icmpNo X7.here hx rfl (hb hby d4_18) rfl (teq hc8).2 ?_
        show Steps p.tables e below (T7.setTop (mkF m 21 #[.val (.ref a0), .val (.ref a1)] [])) _
        refine XS.iconst X7.here hx rfl (hb hby d4_21) ?_
        show Steps p.tables e below (T7.setTop (mkF m 22 #[.val (.ref a0), .val (.ref a1)] [(.int (1 : Int32))])) _
        refine XS.goto X7.here hx rfl (pc0 := 22) (pc' := 26) rfl (hb hby d4_22) (by decide) (by decide) ?_
        exact k)
    obtain ⟨fs, hr, hrun, hended, hW, hsame⟩ := X7.leave (v := some (.int (1 : Int32))) (fun h => by rw [Bd.returns] at h; cases h) (BodyLoose.notSynchronized Bd)
    refine ⟨_, _, pre9 _ ?_, hrun, hended, _, _, rfl, ?_, ⟨_, rfl⟩, hW, hsame.mono (Nat.le_of_ble_eq_true rfl) (Nat.le_of_ble_eq_true rfl)⟩
    · exact retN X7 hx (t := .boolean) Bd.returns (by simp) (hb hby d4_26) hr
    · show Q_eq1 Z a0 a1 x0 y0 h0 n0 _ T7.heap _
      rw [e7]
      exact ⟨by simp [own_eq, hc8], N0, rfl⟩
  · -- hc8: False
    have pre10 : Go p.tables e below (s₁.setTop (entryFrame m #[(.ref a0), (.ref a1)] 2)) T7 (mkF m 26 #[.val (.ref a0), .val (.ref a1)] [(.int (0 : Int32))]) := fun t k => pre7 t (by
        refine XS.icmpYes X7.here hx rfl (pc0 := 18) (pc' := 25) rfl (hb hby d4_18) rfl (feq hc8).2 (by decide) (by decide) ?_
        show Steps p.tables e below (T7.setTop (mkF m 25 #[.val (.ref a0), .val (.ref a1)] [])) _
        refine XS.iconst X7.here hx rfl (hb hby d4_25) ?_
        exact k)
    obtain ⟨fs, hr, hrun, hended, hW, hsame⟩ := X7.leave (v := some (.int (0 : Int32))) (fun h => by rw [Bd.returns] at h; cases h) (BodyLoose.notSynchronized Bd)
    refine ⟨_, _, pre10 _ ?_, hrun, hended, _, _, rfl, ?_, ⟨_, rfl⟩, hW, hsame.mono (Nat.le_of_ble_eq_true rfl) (Nat.le_of_ble_eq_true rfl)⟩
    · exact retN X7 hx (t := .boolean) Bd.returns (by simp) (hb hby d4_26) hr
    · show Q_eq1 Z a0 a1 x0 y0 h0 n0 _ T7.heap _
      rw [e7]
      exact ⟨by simp [own_eq, hc8], N0, rfl⟩
theorem pn_eq2 : plainName "com/example/backrank/backrank/Move" = true := by first | (simp [plainName, overriddenIn]; done) | decide +kernel
theorem ef_eq2 (m : MethodId) (a0 : Addr) : entryFrame m #[(.ref a0), .null] 2 = mkF m 0 #[.val (.ref a0), .val .null] [] := by first | (simp [entryFrame, mkF, argsToLocals, Value.category]; done) | rfl
def Q_eq2 (Z : State) (a0 : Addr) (h0 : Heap) (n0 : Nat) (v : Option Value) (h : Heap) (L : List Loc) : Prop := v = some (.int 0) ∧ Fr n0 L ∧ h = h0
set_option maxRecDepth 65536 in
set_option maxHeartbeats 40000000 in
theorem rm_eq2 (l : Launch) (Z : State) (av0 : Array Value) (hw : ∀ d ∈ tables_1, d.before av0 Z = true) (ws : List Jvm.Cond) (a0 : Addr) (h0 : Heap) (n0 : Nat) :
    MetFree l (⟨"com/example/backrank/backrank/Move", "equals", "(Ljava/lang/Object;)Z"⟩ : MethodName) (head1 (Jvm.Cond.code (⟨"com/example/backrank/backrank/Move", "equals", "(Ljava/lang/Object;)Z"⟩ : MethodName) prog_26_method_3_code 2 (some .boolean) :: ws) ({ frames := 0, cells := 0, slots := 0, locals := 0 } : Room)) (fun a U => a = #[(.ref a0), .null] ∧ Z.Warmed39 U.vm ∧ U.heap = h0) (fun _ _ _ _ _ => True) (fun _ U o U' => ∃ v L, o = .returned v ∧ Q_eq2 Z a0 h0 n0 v U'.heap L ∧ FrameEnd U o U' L ({ frames := 0, cells := 0, slots := 0, locals := 0 } : Room).cells ({ frames := 0, cells := 0, slots := 0, locals := 0 } : Room).slots) := by
  refine MetFree.of_bodySF (plainFor_of_name pn_eq2) hisR ?_
  intro p e s m args below meth c s₁ Bd hml0 hP hK
  obtain ⟨rfl, hZ, hh⟩ := hP
  have hx := Bd.exec
  have hby := Bd.bytes
  have hml : c.maxLocals = 2 := hml0
  have hown : s.vm.findClass "com/example/backrank/backrank/Move" = some m.cls := findClass_of_methodNamed Bd.named
  have hnm := (name_of_methodNamed Bd.named Bd.method).1
  have X0 : Stand p l e ({ frames := 0, cells := 0, slots := 0, locals := 0 } : Room) s m #[(.ref a0), .null] below meth c s₁ [] 0 0 := Stand.of_body Bd
  have e0 : s₁.heap = h0 := by rw [← hh, Bd.state]; rfl
  have N0 := Fr.nil n0
  have pre0 : Go p.tables e below (s₁.setTop (entryFrame m #[(.ref a0), .null] 2)) s₁ (mkF m 0 #[.val (.ref a0), .val .null] []) := fun t k => castTop (ef_eq2 m a0) k
  have pre1 : Go p.tables e below (s₁.setTop (entryFrame m #[(.ref a0), .null] 2)) s₁ (mkF m 26 #[.val (.ref a0), .val .null] [(.int (0 : Int32))]) := fun t k => pre0 t (by
      refine XS.aloadN X0.here hx rfl (hb hby d4_0) rfl rfl ?_
      show Steps p.tables e below (s₁.setTop (mkF m 1 #[.val (.ref a0), .val .null] [.null])) _
      refine X0.instanceofNull hx (g := (mkF m 1 #[.val (.ref a0), .val .null] [.null])) rfl rfl (hb hby d4_1) _ ?_
      show Steps p.tables e below (s₁.setTop (mkF m 4 #[.val (.ref a0), .val .null] [(.int (0 : Int32))])) _
      refine XS.ifYes X0.here hx rfl (pc0 := 4) (pc' := 25) rfl (hb hby d4_4) rfl ((if0 _ _).trans (teq (by decide)).1) (by decide) (by decide) ?_
      show Steps p.tables e below (s₁.setTop (mkF m 25 #[.val (.ref a0), .val .null] [])) _
      refine XS.iconst X0.here hx rfl (hb hby d4_25) ?_
      exact k)
  obtain ⟨fs, hr, hrun, hended, hW, hsame⟩ := X0.leave (v := some (.int (0 : Int32))) (fun h => by rw [Bd.returns] at h; cases h) (BodyLoose.notSynchronized Bd)
  refine ⟨_, _, pre1 _ ?_, hrun, hended, _, _, rfl, ?_, ⟨_, rfl⟩, hW, hsame.mono (Nat.le_of_ble_eq_true rfl) (Nat.le_of_ble_eq_true rfl)⟩
  · exact retN X0 hx (t := .boolean) Bd.returns (by simp) (hb hby d4_26) hr
  · show Q_eq2 Z a0 h0 n0 _ s₁.heap _
    rw [e0]
    exact ⟨rfl, N0, rfl⟩
theorem pn_eq3 : plainName "com/example/backrank/backrank/Move" = true := by first | (simp [plainName, overriddenIn]; done) | decide +kernel
theorem ef_eq3 (m : MethodId) (a0 : Addr) (a1 : Addr) : entryFrame m #[(.ref a0), (.ref a1)] 2 = mkF m 0 #[.val (.ref a0), .val (.ref a1)] [] := by first | (simp [entryFrame, mkF, argsToLocals, Value.category]; done) | rfl
def Q_eq3 (Z : State) (a0 : Addr) (a1 : Addr) (h0 : Heap) (n0 : Nat) (v : Option Value) (h : Heap) (L : List Loc) : Prop := v = some (.int 0) ∧ Fr n0 L ∧ h = h0
set_option maxRecDepth 65536 in
set_option maxHeartbeats 40000000 in
theorem rm_eq3 (l : Launch) (Z : State) (av0 : Array Value) (hw : ∀ d ∈ tables_1, d.before av0 Z = true) (ws : List Jvm.Cond) (a0 : Addr) (a1 : Addr) (h0 : Heap) (n0 : Nat) (E1 : Exa Z h0 a1 "java/lang/Integer") :
    MetFree l (⟨"com/example/backrank/backrank/Move", "equals", "(Ljava/lang/Object;)Z"⟩ : MethodName) (head1 (Jvm.Cond.code (⟨"com/example/backrank/backrank/Move", "equals", "(Ljava/lang/Object;)Z"⟩ : MethodName) prog_26_method_3_code 2 (some .boolean) :: ws) ({ frames := 0, cells := 0, slots := 0, locals := 0 } : Room)) (fun a U => a = #[(.ref a0), (.ref a1)] ∧ Z.Warmed39 U.vm ∧ U.heap = h0) (fun _ _ _ _ _ => True) (fun _ U o U' => ∃ v L, o = .returned v ∧ Q_eq3 Z a0 a1 h0 n0 v U'.heap L ∧ FrameEnd U o U' L ({ frames := 0, cells := 0, slots := 0, locals := 0 } : Room).cells ({ frames := 0, cells := 0, slots := 0, locals := 0 } : Room).slots) := by
  refine MetFree.of_bodySF (plainFor_of_name pn_eq3) hisR ?_
  intro p e s m args below meth c s₁ Bd hml0 hP hK
  obtain ⟨rfl, hZ, hh⟩ := hP
  have hx := Bd.exec
  have hby := Bd.bytes
  have hml : c.maxLocals = 2 := hml0
  have hown : s.vm.findClass "com/example/backrank/backrank/Move" = some m.cls := findClass_of_methodNamed Bd.named
  have hnm := (name_of_methodNamed Bd.named Bd.method).1
  have X0 : Stand p l e ({ frames := 0, cells := 0, slots := 0, locals := 0 } : Room) s m #[(.ref a0), (.ref a1)] below meth c s₁ [] 0 0 := Stand.of_body Bd
  have e0 : s₁.heap = h0 := by rw [← hh, Bd.state]; rfl
  have N0 := Fr.nil n0
  have pre0 : Go p.tables e below (s₁.setTop (entryFrame m #[(.ref a0), (.ref a1)] 2)) s₁ (mkF m 0 #[.val (.ref a0), .val (.ref a1)] []) := fun t k => castTop (ef_eq3 m a0 a1) k
  have pre1 : Go p.tables e below (s₁.setTop (entryFrame m #[(.ref a0), (.ref a1)] 2)) s₁ (mkF m 1 #[.val (.ref a0), .val (.ref a1)] [(.ref a1)]) := fun t k => pre0 t (by
      refine XS.aloadN X0.here hx rfl (hb hby d4_0) rfl rfl ?_
      exact k)
  obtain ⟨T2, X2, e2, st2⟩ := instNo X0 hx hZ hown (hw _ (List.mem_of_getElem? (i := 23) rfl)) e0 E1 (own_no (hw _ (List.mem_of_getElem? (i := 25) rfl)) (hw _ (List.mem_of_getElem? (i := 1) rfl)) (NS.step (hw _ (List.mem_of_getElem? (i := 25) rfl)) (NS.step (hw _ (List.mem_of_getElem? (i := 26) rfl)) (own_root (hw _ (List.mem_of_getElem? (i := 27) rfl)) (hw _ (List.mem_of_getElem? (i := 1) rfl)) (by decide)) (by decide)) (by decide)) (by decide)) (g := (mkF m 1 #[.val (.ref a0), .val (.ref a1)] [(.ref a1)])) rfl rfl (hb hby d4_1)
  have pre2 : Go p.tables e below (s₁.setTop (entryFrame m #[(.ref a0), (.ref a1)] 2)) T2 (mkF m 4 #[.val (.ref a0), .val (.ref a1)] [(.int (0 : Int32))]) := fun t k => pre1 t (st2 _ k)
  have pre3 : Go p.tables e below (s₁.setTop (entryFrame m #[(.ref a0), (.ref a1)] 2)) T2 (mkF m 26 #[.val (.ref a0), .val (.ref a1)] [(.int (0 : Int32))]) := fun t k => pre2 t (by
      refine XS.ifYes X2.here hx rfl (pc0 := 4) (pc' := 25) rfl (hb hby d4_4) rfl ((if0 _ _).trans (teq (by decide)).1) (by decide) (by decide) ?_
      show Steps p.tables e below (T2.setTop (mkF m 25 #[.val (.ref a0), .val (.ref a1)] [])) _
      refine XS.iconst X2.here hx rfl (hb hby d4_25) ?_
      exact k)
  obtain ⟨fs, hr, hrun, hended, hW, hsame⟩ := X2.leave (v := some (.int (0 : Int32))) (fun h => by rw [Bd.returns] at h; cases h) (BodyLoose.notSynchronized Bd)
  refine ⟨_, _, pre3 _ ?_, hrun, hended, _, _, rfl, ?_, ⟨_, rfl⟩, hW, hsame.mono (Nat.le_of_ble_eq_true rfl) (Nat.le_of_ble_eq_true rfl)⟩
  · exact retN X2 hx (t := .boolean) Bd.returns (by simp) (hb hby d4_26) hr
  · show Q_eq3 Z a0 a1 h0 n0 _ T2.heap _
    rw [e2]
    exact ⟨rfl, N0, rfl⟩
theorem pn_law : plainName "com/example/backrank/backrank/MoveEqualsPinLaw" = true := by first | (simp [plainName, overriddenIn]; done) | decide +kernel
theorem ef_law (m : MethodId) (v0 : Int32) (v1 : Int32) (v2 : Int32) : entryFrame m #[(.int v0), (.int v1), (.int v2)] maxLocals = mkF m 0 #[.val (.int v0), .val (.int v1), .val (.int v2), .unset, .unset, .unset, .unset, .unset, .unset] [] := by first | (simp [entryFrame, mkF, argsToLocals, Value.category, maxLocals]; done) | rfl
def Q_law (Z : State) (v0 : Int32) (v1 : Int32) (v2 : Int32) (ab : Addr) (cb : Cell) (vb : Int32 → Value) (h0 : Heap) (n0 : Nat) (v : Option Value) (h : Heap) (L : List Loc) : Prop := v = some (.int 1) ∧ Fr n0 L
set_option maxRecDepth 65536 in
set_option maxHeartbeats 40000000 in
theorem rm_law (l : Launch) (Z : State) (av0 : Array Value) (hw : ∀ d ∈ tables_1, d.before av0 Z = true) (ws : List Jvm.Cond) (v0 : Int32) (v1 : Int32) (v2 : Int32) (ab : Addr) (cb : Cell) (vb : Int32 → Value) (h0 : Heap) (n0 : Nat) (Z0 : n0 ≤ h0.size) (O0 : Old Z n0 h0) (S_high : Sta Z Z.heap "java/lang/Integer$IntegerCache" "high" "I" (.int (127 : Int32))) (S_cache : Sta Z Z.heap "java/lang/Integer$IntegerCache" "cache" "[Ljava/lang/Integer;" (.ref ab)) (Bx : Bxs Z ab cb "java/lang/Integer" "I" (256 : Int32) vb) :
    MetFree l x (head1 (Jvm.Cond.code x code maxLocals ret :: ws) room_1) (fun a U => a = #[(.int v0), (.int v1), (.int v2)] ∧ Z.Warmed39 U.vm ∧ U.heap = h0) (fun _ _ _ _ _ => True) (fun _ U o U' => ∃ v L, o = .returned v ∧ Q_law Z v0 v1 v2 ab cb vb h0 n0 v U'.heap L ∧ FrameEnd U o U' L room_1.cells room_1.slots) := by
  refine MetFree.of_bodySF (plainFor_of_name pn_law) hisR ?_
  intro p e s m args below meth c s₁ Bd hml0 hP hK
  obtain ⟨rfl, hZ, hh⟩ := hP
  have hx := Bd.exec
  have hby := Bd.bytes
  have hml : c.maxLocals = 9 := hml0
  have hown : s.vm.findClass "com/example/backrank/backrank/MoveEqualsPinLaw" = some m.cls := findClass_of_methodNamed Bd.named
  have hnm := (name_of_methodNamed Bd.named Bd.method).1
  have X0 : Stand p l e room_1 s m #[(.int v0), (.int v1), (.int v2)] below meth c s₁ [] 0 0 := Stand.of_body Bd
  have e0 : s₁.heap = h0 := by rw [← hh, Bd.state]; rfl
  have N0 := Fr.nil n0
  have pre0 : Go p.tables e below (s₁.setTop (entryFrame m #[(.int v0), (.int v1), (.int v2)] maxLocals)) s₁ (mkF m 0 #[.val (.int v0), .val (.int v1), .val (.int v2), .unset, .unset, .unset, .unset, .unset, .unset] []) := fun t k => castTop (ef_law m v0 v1 v2) k
  have pre1 : Go p.tables e below (s₁.setTop (entryFrame m #[(.int v0), (.int v1), (.int v2)] maxLocals)) s₁ (mkF m 3 #[.val (.int v0), .val (.int v1), .val (.int v2), .unset, .unset, .unset, .unset, .unset, .unset] [(.int (v2 &&& (1 : Int32)))]) := fun t k => pre0 t (by
      refine XS.iloadN X0.here hx rfl (hb hby at_0) rfl ?_
      show Steps p.tables e below (s₁.setTop (mkF m 1 #[.val (.int v0), .val (.int v1), .val (.int v2), .unset, .unset, .unset, .unset, .unset, .unset] [(.int v2)])) _
      refine XS.iconst X0.here hx rfl (hb hby at_1) ?_
      show Steps p.tables e below (s₁.setTop (mkF m 2 #[.val (.int v0), .val (.int v1), .val (.int v2), .unset, .unset, .unset, .unset, .unset, .unset] [(.int (1 : Int32)), (.int v2)])) _
      refine XS.iand X0.here hx rfl (hb hby at_2) rfl ?_
      exact k)
  obtain ⟨T2, L2, w3, X2, e2, N2, hw3, pre2⟩ : ∃ (T2 : State) (L2 : List Loc) (w3 : Int32), Stand p l e room_1 s m #[(.int v0), (.int v1), (.int v2)] below meth c T2 L2 0 0 ∧ T2.heap = h0 ∧ Fr n0 L2 ∧ w3 = (if (v2 &&& (1 : Int32)) = (0 : Int32) then v1 else v0) ∧ Go p.tables e below (s₁.setTop (entryFrame m #[(.int v0), (.int v1), (.int v2)] maxLocals)) T2 (mkF m 11 #[.val (.int v0), .val (.int v1), .val (.int v2), .unset, .unset, .unset, .unset, .unset, .unset] [(.int w3)]) := by
    by_cases hc4 : (v2 &&& (1 : Int32)) = (0 : Int32)
    · -- hc4: True
      have pre5 : Go p.tables e below (s₁.setTop (entryFrame m #[(.int v0), (.int v1), (.int v2)] maxLocals)) s₁ (mkF m 11 #[.val (.int v0), .val (.int v1), .val (.int v2), .unset, .unset, .unset, .unset, .unset, .unset] [(.int v1)]) := fun t k => pre1 t (by
          refine XS.ifYes X0.here hx rfl (pc0 := 3) (pc' := 10) rfl (hb hby at_3) rfl ((if0 _ _).trans (teq hc4).1) (by decide) (by decide) ?_
          show Steps p.tables e below (s₁.setTop (mkF m 10 #[.val (.int v0), .val (.int v1), .val (.int v2), .unset, .unset, .unset, .unset, .unset, .unset] [])) _
          refine XS.iloadN X0.here hx rfl (hb hby at_10) rfl ?_
          exact k)
      refine ⟨_, _, _, X0, e0, N0, ?_, pre5⟩
      · exact (if_pos hc4).symm
    · -- hc4: False
      have pre6 : Go p.tables e below (s₁.setTop (entryFrame m #[(.int v0), (.int v1), (.int v2)] maxLocals)) s₁ (mkF m 11 #[.val (.int v0), .val (.int v1), .val (.int v2), .unset, .unset, .unset, .unset, .unset, .unset] [(.int v0)]) := fun t k => pre1 t (by
          refine XS.ifNo X0.here hx rfl (hb hby at_3) rfl ((if0 _ _).trans (feq hc4).1) ?_
          show Steps p.tables e below (s₁.setTop (mkF m 6 #[.val (.int v0), .val (.int v1), .val (.int v2), .unset, .unset, .unset, .unset, .unset, .unset] [])) _
          refine XS.iloadN X0.here hx rfl (hb hby at_6) rfl ?_
          show Steps p.tables e below (s₁.setTop (mkF m 7 #[.val (.int v0), .val (.int v1), .val (.int v2), .unset, .unset, .unset, .unset, .unset, .unset] [(.int v0)])) _
          refine XS.goto X0.here hx rfl (pc0 := 7) (pc' := 11) rfl (hb hby at_7) (by decide) (by decide) ?_
          exact k)
      refine ⟨_, _, _, X0, e0, N0, ?_, pre6⟩
      · exact (if_neg hc4).symm
  have pre7 : Go p.tables e below (s₁.setTop (entryFrame m #[(.int v0), (.int v1), (.int v2)] maxLocals)) T2 (mkF m 12 #[.val (.int v0), .val (.int v1), .val (.int v2), .val (.int w3), .unset, .unset, .unset, .unset, .unset] []) := fun t k => pre2 t (by
      refine XS.istoreN X2.here hx rfl (hb hby at_11) rfl (l' := #[.val (.int v0), .val (.int v1), .val (.int v2), .val (.int w3), .unset, .unset, .unset, .unset, .unset]) rfl ?_
      exact k)
  obtain ⟨T8, h8, X8, e8, E8, A8, D8, -, st8⟩ := newO X2 hx hZ hown (hw _ (List.mem_of_getElem? (i := 0) rfl)) (hw _ (List.mem_of_getElem? (i := 1) rfl)) (hw _ (List.mem_of_getElem? (i := 2) rfl)) e2 (g := (mkF m 12 #[.val (.int v0), .val (.int v1), .val (.int v2), .val (.int w3), .unset, .unset, .unset, .unset, .unset] [])) rfl (hb hby at_12) (by decide) (by decide)
  obtain ⟨b8, ga8⟩ : ∃ z, z = h0.size := ⟨_, rfl⟩
  rw [← ga8] at A8 D8 st8
  have g9 : n0 ≤ b8 := Nat.le_trans Z0 (Nat.le_of_eq ga8.symm)
  have f10 : n0 ≤ h8.size := Nat.le_trans Z0 E8.1
  have f11 : Old Z n0 h8 := O0.ext E8
  have f12 : Fld Z h8 b8 "com/example/backrank/backrank/Move" "code" "I" (.int (0 : Int32)) := D8 (Or.inr (hw _ (List.mem_of_getElem? (i := 10) rfl))) (ty := .int) (by decide)
  have pre8 : Go p.tables e below (s₁.setTop (entryFrame m #[(.int v0), (.int v1), (.int v2)] maxLocals)) T8 (mkF m 15 #[.val (.int v0), .val (.int v1), .val (.int v2), .val (.int w3), .unset, .unset, .unset, .unset, .unset] [(.ref b8)]) := fun t k => pre7 t (st8 _ k)
  have pre13 : Go p.tables e below (s₁.setTop (entryFrame m #[(.int v0), (.int v1), (.int v2)] maxLocals)) T8 (mkF m 17 #[.val (.int v0), .val (.int v1), .val (.int v2), .val (.int w3), .unset, .unset, .unset, .unset, .unset] [(.int v0), (.ref b8), (.ref b8)]) := fun t k => pre8 t (by
      refine XS.dup X8.here hx rfl (hb hby at_15) rfl rfl ?_
      show Steps p.tables e below (T8.setTop (mkF m 16 #[.val (.int v0), .val (.int v1), .val (.int v2), .val (.int w3), .unset, .unset, .unset, .unset, .unset] [(.ref b8), (.ref b8)])) _
      refine XS.iloadN X8.here hx rfl (hb hby at_16) rfl ?_
      exact k)
  obtain ⟨_, _, ⟨T14, L14, k14, n14⟩, -, X14, ⟨Lc14, hQ14, l14, y14, z14⟩, st14⟩ := X8.specialBack hx (y := (⟨"com/example/backrank/backrank/Move", "<init>", "(I)V"⟩ : MethodName)) rfl hown (mvT hZ (hw _ (List.mem_of_getElem? (i := 3) rfl))) (mvT hZ (hw _ (List.mem_of_getElem? (i := 4) rfl))) (mvT hZ (hw _ (List.mem_of_getElem? (i := 5) rfl))) (by decide) (backOf (W := 1) (rm_ini l Z av0 hw [] b8 v0 h8 n0 f10 f12 A8 g9) hZ (hw _ (List.mem_of_getElem? (i := 5) rfl)) (hw _ (List.mem_of_getElem? (i := 2) rfl)) (by decide) (by decide)) (g := (mkF m 17 #[.val (.int v0), .val (.int v1), .val (.int v2), .val (.int w3), .unset, .unset, .unset, .unset, .unset] [(.int v0), (.ref b8), (.ref b8)])) rfl (by rw [hml]; rfl) (Steps.refl _) (a := b8) (argsL := [(.int v0)]) (rest := [(.ref b8)]) (lenOf pd_1 rfl) rfl (by show 2 * 0 + _ ≤ _; exact Nat.le_of_eq rfl) (hb hby at_17) (fun _ _ => ⟨rfl, e8, (by decide : 1 + 0 ≤ _), (by decide : 1 + 0 ≤ _)⟩)
  dsimp only [Pt.U, Pt.locs, Pt.cells, Pt.slots] at X14 l14 y14 z14 st14 hQ14
  subst l14 y14 z14
  obtain ⟨rfl, N14q, K14, Eq14, Fq14_0⟩ := hQ14
  have f15 : n0 ≤ T14.heap.size := Nat.le_trans f10 K14.1
  have f16 : Old Z n0 T14.heap := f11.keep K14 (allS g9 all0)
  have f17 : Exa Z T14.heap b8 "com/example/backrank/backrank/Move" := A8.keep K14
  have N14 := Fr.app N2 N14q
  have pre14 : Go p.tables e below (s₁.setTop (entryFrame m #[(.int v0), (.int v1), (.int v2)] maxLocals)) T14 (mkF m 20 #[.val (.int v0), .val (.int v1), .val (.int v2), .val (.int w3), .unset, .unset, .unset, .unset, .unset] [(.ref b8)]) := fun t k => pre13 t (st14.trans k)
  have pre18 : Go p.tables e below (s₁.setTop (entryFrame m #[(.int v0), (.int v1), (.int v2)] maxLocals)) T14 (mkF m 22 #[.val (.int v0), .val (.int v1), .val (.int v2), .val (.int w3), .val (.ref b8), .unset, .unset, .unset, .unset] []) := fun t k => pre14 t (by
      refine XS.astore X14.here hx rfl (hb hby at_20) rfl rfl (l' := #[.val (.int v0), .val (.int v1), .val (.int v2), .val (.int w3), .val (.ref b8), .unset, .unset, .unset, .unset]) rfl ?_
      exact k)
  obtain ⟨T19, h19, X19, e19, E19, A19, D19, -, st19⟩ := newO X14 hx hZ hown (hw _ (List.mem_of_getElem? (i := 0) rfl)) (hw _ (List.mem_of_getElem? (i := 1) rfl)) (hw _ (List.mem_of_getElem? (i := 2) rfl)) rfl (g := (mkF m 22 #[.val (.int v0), .val (.int v1), .val (.int v2), .val (.int w3), .val (.ref b8), .unset, .unset, .unset, .unset] [])) rfl (hb hby at_22) (by decide) (by decide)
  obtain ⟨b19, ga19⟩ : ∃ z, z = T14.heap.size := ⟨_, rfl⟩
  rw [← ga19] at A19 D19 st19
  have ne20 : b8 ≠ b19 := Nat.ne_of_lt (Nat.lt_of_lt_of_le f17.lt (Nat.le_of_eq ga19.symm))
  have g21 : n0 ≤ b19 := Nat.le_trans f15 (Nat.le_of_eq ga19.symm)
  have f22 : n0 ≤ h19.size := Nat.le_trans f15 E19.1
  have f23 : Old Z n0 h19 := f16.ext E19
  have f24 : Exa Z h19 b8 "com/example/backrank/backrank/Move" := f17.ext E19
  have f25 : Fld Z h19 b8 "com/example/backrank/backrank/Move" "code" "I" (.int v0) := Fq14_0.ext E19
  have f26 : Fld Z h19 b19 "com/example/backrank/backrank/Move" "code" "I" (.int (0 : Int32)) := D19 (Or.inr (hw _ (List.mem_of_getElem? (i := 10) rfl))) (ty := .int) (by decide)
  have pre19 : Go p.tables e below (s₁.setTop (entryFrame m #[(.int v0), (.int v1), (.int v2)] maxLocals)) T19 (mkF m 25 #[.val (.int v0), .val (.int v1), .val (.int v2), .val (.int w3), .val (.ref b8), .unset, .unset, .unset, .unset] [(.ref b19)]) := fun t k => pre18 t (st19 _ k)
  have pre27 : Go p.tables e below (s₁.setTop (entryFrame m #[(.int v0), (.int v1), (.int v2)] maxLocals)) T19 (mkF m 27 #[.val (.int v0), .val (.int v1), .val (.int v2), .val (.int w3), .val (.ref b8), .unset, .unset, .unset, .unset] [(.int w3), (.ref b19), (.ref b19)]) := fun t k => pre19 t (by
      refine XS.dup X19.here hx rfl (hb hby at_25) rfl rfl ?_
      show Steps p.tables e below (T19.setTop (mkF m 26 #[.val (.int v0), .val (.int v1), .val (.int v2), .val (.int w3), .val (.ref b8), .unset, .unset, .unset, .unset] [(.ref b19), (.ref b19)])) _
      refine XS.iloadN X19.here hx rfl (hb hby at_26) rfl ?_
      exact k)
  obtain ⟨_, _, ⟨T28, L28, k28, n28⟩, -, X28, ⟨Lc28, hQ28, l28, y28, z28⟩, st28⟩ := X19.specialBack hx (y := (⟨"com/example/backrank/backrank/Move", "<init>", "(I)V"⟩ : MethodName)) rfl hown (mvT hZ (hw _ (List.mem_of_getElem? (i := 3) rfl))) (mvT hZ (hw _ (List.mem_of_getElem? (i := 4) rfl))) (mvT hZ (hw _ (List.mem_of_getElem? (i := 5) rfl))) (by decide) (backOf (W := 1) (rm_ini l Z av0 hw [] b19 w3 h19 n0 f22 f26 A19 g21) hZ (hw _ (List.mem_of_getElem? (i := 5) rfl)) (hw _ (List.mem_of_getElem? (i := 2) rfl)) (by decide) (by decide)) (g := (mkF m 27 #[.val (.int v0), .val (.int v1), .val (.int v2), .val (.int w3), .val (.ref b8), .unset, .unset, .unset, .unset] [(.int w3), (.ref b19), (.ref b19)])) rfl (by rw [hml]; rfl) (Steps.refl _) (a := b19) (argsL := [(.int w3)]) (rest := [(.ref b19)]) (lenOf pd_1 rfl) rfl (by show 2 * 0 + _ ≤ _; exact Nat.le_of_eq rfl) (hb hby at_27) (fun _ _ => ⟨rfl, e19, (by decide : 2 + 0 ≤ _), (by decide : 2 + 0 ≤ _)⟩)
  dsimp only [Pt.U, Pt.locs, Pt.cells, Pt.slots] at X28 l28 y28 z28 st28 hQ28
  subst l28 y28 z28
  obtain ⟨rfl, N28q, K28, Eq28, Fq28_0⟩ := hQ28
  have f29 : n0 ≤ T28.heap.size := Nat.le_trans f22 K28.1
  have f30 : Old Z n0 T28.heap := f23.keep K28 (allS g21 all0)
  have f31 : Exa Z T28.heap b8 "com/example/backrank/backrank/Move" := f24.keep K28
  have f32 : Fld Z T28.heap b8 "com/example/backrank/backrank/Move" "code" "I" (.int v0) := f25.keep K28 (ninS ne20 nin0)
  have f33 : Exa Z T28.heap b19 "com/example/backrank/backrank/Move" := A19.keep K28
  have N28 := Fr.app N14 N28q
  have pre28 : Go p.tables e below (s₁.setTop (entryFrame m #[(.int v0), (.int v1), (.int v2)] maxLocals)) T28 (mkF m 30 #[.val (.int v0), .val (.int v1), .val (.int v2), .val (.int w3), .val (.ref b8), .unset, .unset, .unset, .unset] [(.ref b19)]) := fun t k => pre27 t (st28.trans k)
  have pre34 : Go p.tables e below (s₁.setTop (entryFrame m #[(.int v0), (.int v1), (.int v2)] maxLocals)) T28 (mkF m 32 #[.val (.int v0), .val (.int v1), .val (.int v2), .val (.int w3), .val (.ref b8), .val (.ref b19), .unset, .unset, .unset] []) := fun t k => pre28 t (by
      refine XS.astore X28.here hx rfl (hb hby at_30) rfl rfl (l' := #[.val (.int v0), .val (.int v1), .val (.int v2), .val (.int w3), .val (.ref b8), .val (.ref b19), .unset, .unset, .unset]) rfl ?_
      exact k)
  obtain ⟨T35, h35, X35, e35, E35, A35, D35, -, st35⟩ := newO X28 hx hZ hown (hw _ (List.mem_of_getElem? (i := 0) rfl)) (hw _ (List.mem_of_getElem? (i := 1) rfl)) (hw _ (List.mem_of_getElem? (i := 2) rfl)) rfl (g := (mkF m 32 #[.val (.int v0), .val (.int v1), .val (.int v2), .val (.int w3), .val (.ref b8), .val (.ref b19), .unset, .unset, .unset] [])) rfl (hb hby at_32) (by decide) (by decide)
  obtain ⟨b35, ga35⟩ : ∃ z, z = T28.heap.size := ⟨_, rfl⟩
  rw [← ga35] at A35 D35 st35
  have ne36 : b8 ≠ b35 := Nat.ne_of_lt (Nat.lt_of_lt_of_le f31.lt (Nat.le_of_eq ga35.symm))
  have ne37 : b19 ≠ b35 := Nat.ne_of_lt (Nat.lt_of_lt_of_le f33.lt (Nat.le_of_eq ga35.symm))
  have g38 : n0 ≤ b35 := Nat.le_trans f29 (Nat.le_of_eq ga35.symm)
  have f39 : n0 ≤ h35.size := Nat.le_trans f29 E35.1
  have f40 : Old Z n0 h35 := f30.ext E35
  have f41 : Exa Z h35 b8 "com/example/backrank/backrank/Move" := f31.ext E35
  have f42 : Fld Z h35 b8 "com/example/backrank/backrank/Move" "code" "I" (.int v0) := f32.ext E35
  have f43 : Exa Z h35 b19 "com/example/backrank/backrank/Move" := f33.ext E35
  have f44 : Fld Z h35 b19 "com/example/backrank/backrank/Move" "code" "I" (.int w3) := Fq28_0.ext E35
  have f45 : Fld Z h35 b35 "com/example/backrank/backrank/Move" "code" "I" (.int (0 : Int32)) := D35 (Or.inr (hw _ (List.mem_of_getElem? (i := 10) rfl))) (ty := .int) (by decide)
  have pre35 : Go p.tables e below (s₁.setTop (entryFrame m #[(.int v0), (.int v1), (.int v2)] maxLocals)) T35 (mkF m 35 #[.val (.int v0), .val (.int v1), .val (.int v2), .val (.int w3), .val (.ref b8), .val (.ref b19), .unset, .unset, .unset] [(.ref b35)]) := fun t k => pre34 t (st35 _ k)
  have pre46 : Go p.tables e below (s₁.setTop (entryFrame m #[(.int v0), (.int v1), (.int v2)] maxLocals)) T35 (mkF m 37 #[.val (.int v0), .val (.int v1), .val (.int v2), .val (.int w3), .val (.ref b8), .val (.ref b19), .unset, .unset, .unset] [(.int v0), (.ref b35), (.ref b35)]) := fun t k => pre35 t (by
      refine XS.dup X35.here hx rfl (hb hby at_35) rfl rfl ?_
      show Steps p.tables e below (T35.setTop (mkF m 36 #[.val (.int v0), .val (.int v1), .val (.int v2), .val (.int w3), .val (.ref b8), .val (.ref b19), .unset, .unset, .unset] [(.ref b35), (.ref b35)])) _
      refine XS.iloadN X35.here hx rfl (hb hby at_36) rfl ?_
      exact k)
  obtain ⟨_, _, ⟨T47, L47, k47, n47⟩, -, X47, ⟨Lc47, hQ47, l47, y47, z47⟩, st47⟩ := X35.specialBack hx (y := (⟨"com/example/backrank/backrank/Move", "<init>", "(I)V"⟩ : MethodName)) rfl hown (mvT hZ (hw _ (List.mem_of_getElem? (i := 3) rfl))) (mvT hZ (hw _ (List.mem_of_getElem? (i := 4) rfl))) (mvT hZ (hw _ (List.mem_of_getElem? (i := 5) rfl))) (by decide) (backOf (W := 1) (rm_ini l Z av0 hw [] b35 v0 h35 n0 f39 f45 A35 g38) hZ (hw _ (List.mem_of_getElem? (i := 5) rfl)) (hw _ (List.mem_of_getElem? (i := 2) rfl)) (by decide) (by decide)) (g := (mkF m 37 #[.val (.int v0), .val (.int v1), .val (.int v2), .val (.int w3), .val (.ref b8), .val (.ref b19), .unset, .unset, .unset] [(.int v0), (.ref b35), (.ref b35)])) rfl (by rw [hml]; rfl) (Steps.refl _) (a := b35) (argsL := [(.int v0)]) (rest := [(.ref b35)]) (lenOf pd_1 rfl) rfl (by show 2 * 0 + _ ≤ _; exact Nat.le_of_eq rfl) (hb hby at_37) (fun _ _ => ⟨rfl, e35, (by decide : 3 + 0 ≤ _), (by decide : 3 + 0 ≤ _)⟩)
  dsimp only [Pt.U, Pt.locs, Pt.cells, Pt.slots] at X47 l47 y47 z47 st47 hQ47
  subst l47 y47 z47
  obtain ⟨rfl, N47q, K47, Eq47, Fq47_0⟩ := hQ47
  have f48 : n0 ≤ T47.heap.size := Nat.le_trans f39 K47.1
  have f49 : Old Z n0 T47.heap := f40.keep K47 (allS g38 all0)
  have f50 : Exa Z T47.heap b8 "com/example/backrank/backrank/Move" := f41.keep K47
  have f51 : Fld Z T47.heap b8 "com/example/backrank/backrank/Move" "code" "I" (.int v0) := f42.keep K47 (ninS ne36 nin0)
  have f52 : Exa Z T47.heap b19 "com/example/backrank/backrank/Move" := f43.keep K47
  have f53 : Fld Z T47.heap b19 "com/example/backrank/backrank/Move" "code" "I" (.int w3) := f44.keep K47 (ninS ne37 nin0)
  have f54 : Exa Z T47.heap b35 "com/example/backrank/backrank/Move" := A35.keep K47
  have N47 := Fr.app N28 N47q
  have pre47 : Go p.tables e below (s₁.setTop (entryFrame m #[(.int v0), (.int v1), (.int v2)] maxLocals)) T47 (mkF m 40 #[.val (.int v0), .val (.int v1), .val (.int v2), .val (.int w3), .val (.ref b8), .val (.ref b19), .unset, .unset, .unset] [(.ref b35)]) := fun t k => pre46 t (st47.trans k)
  have pre55 : Go p.tables e below (s₁.setTop (entryFrame m #[(.int v0), (.int v1), (.int v2)] maxLocals)) T47 (mkF m 43 #[.val (.int v0), .val (.int v1), .val (.int v2), .val (.int w3), .val (.ref b8), .val (.ref b19), .val (.ref b35), .unset, .unset] [(.int v0)]) := fun t k => pre47 t (by
      refine XS.astore X47.here hx rfl (hb hby at_40) rfl rfl (l' := #[.val (.int v0), .val (.int v1), .val (.int v2), .val (.int w3), .val (.ref b8), .val (.ref b19), .val (.ref b35), .unset, .unset]) rfl ?_
      show Steps p.tables e below (T47.setTop (mkF m 42 #[.val (.int v0), .val (.int v1), .val (.int v2), .val (.int w3), .val (.ref b8), .val (.ref b19), .val (.ref b35), .unset, .unset] [])) _
      refine XS.iloadN X47.here hx rfl (hb hby at_42) rfl ?_
      exact k)
  obtain ⟨_, _, ⟨T56, L56, k56, n56⟩, -, X56, ⟨Lc56, hQ56, l56, y56, z56⟩, st56⟩ := Jvm.LawKit.callS X47 hx (y := (⟨"java/lang/Integer", "valueOf", "(I)Ljava/lang/Integer;"⟩ : MethodName)) hown (mvT hZ (hw _ (List.mem_of_getElem? (i := 11) rfl))) (mvT hZ (hw _ (List.mem_of_getElem? (i := 12) rfl))) (mvT hZ (hw _ (List.mem_of_getElem? (i := 13) rfl))) (mvT hZ (hw _ (List.mem_of_getElem? (i := 14) rfl))) (by decide) (backOf (W := 0) (rm_box l Z av0 hw [] v0 ab cb vb T47.heap n0 f48 f49 S_high S_cache Bx) hZ (hw _ (List.mem_of_getElem? (i := 14) rfl)) (hw _ (List.mem_of_getElem? (i := 13) rfl)) (by decide) (by decide)) (g := (mkF m 43 #[.val (.int v0), .val (.int v1), .val (.int v2), .val (.int w3), .val (.ref b8), .val (.ref b19), .val (.ref b35), .unset, .unset] [(.int v0)])) rfl (by rw [hml]; rfl) (argsL := [(.int v0)]) (rest := []) (lenOf pd_2 rfl) rfl (by show 2 * 0 + _ ≤ _; exact Nat.le_of_eq rfl) (hb hby at_43) (fun _ _ => ⟨rfl, rfl, (by decide : 3 + 1 ≤ _), (by decide : 3 + 1 ≤ _)⟩)
  dsimp only [Pt.U, Pt.locs, Pt.cells, Pt.slots] at X56 l56 y56 z56 st56 hQ56
  subst l56 y56 z56
  obtain ⟨bo56, rfl, N56q, K56, Eb56⟩ := hQ56
  have f57 : n0 ≤ T56.heap.size := Nat.le_trans f48 K56.1
  have f58 : Old Z n0 T56.heap := f49.keep K56 all0
  have f59 : Exa Z T56.heap b8 "com/example/backrank/backrank/Move" := f50.keep K56
  have f60 : Fld Z T56.heap b8 "com/example/backrank/backrank/Move" "code" "I" (.int v0) := f51.keep K56 nin0
  have f61 : Exa Z T56.heap b19 "com/example/backrank/backrank/Move" := f52.keep K56
  have f62 : Fld Z T56.heap b19 "com/example/backrank/backrank/Move" "code" "I" (.int w3) := f53.keep K56 nin0
  have f63 : Exa Z T56.heap b35 "com/example/backrank/backrank/Move" := f54.keep K56
  have f64 : Fld Z T56.heap b35 "com/example/backrank/backrank/Move" "code" "I" (.int v0) := Fq47_0.keep K56 nin0
  have N56 := Fr.app N47 N56q
  have pre56 : Go p.tables e below (s₁.setTop (entryFrame m #[(.int v0), (.int v1), (.int v2)] maxLocals)) T56 (mkF m 46 #[.val (.int v0), .val (.int v1), .val (.int v2), .val (.int w3), .val (.ref b8), .val (.ref b19), .val (.ref b35), .unset, .unset] [(.ref bo56)]) := fun t k => pre55 t (st56 _ k)
  have pre65 : Go p.tables e below (s₁.setTop (entryFrame m #[(.int v0), (.int v1), (.int v2)] maxLocals)) T56 (mkF m 50 #[.val (.int v0), .val (.int v1), .val (.int v2), .val (.int w3), .val (.ref b8), .val (.ref b19), .val (.ref b35), .val (.ref bo56), .unset] [(.int w3), (.int v0)]) := fun t k => pre56 t (by
      refine XS.astore X56.here hx rfl (hb hby at_46) rfl rfl (l' := #[.val (.int v0), .val (.int v1), .val (.int v2), .val (.int w3), .val (.ref b8), .val (.ref b19), .val (.ref b35), .val (.ref bo56), .unset]) rfl ?_
      show Steps p.tables e below (T56.setTop (mkF m 48 #[.val (.int v0), .val (.int v1), .val (.int v2), .val (.int w3), .val (.ref b8), .val (.ref b19), .val (.ref b35), .val (.ref bo56), .unset] [])) _
      refine XS.iloadN X56.here hx rfl (hb hby at_48) rfl ?_
      show Steps p.tables e below (T56.setTop (mkF m 49 #[.val (.int v0), .val (.int v1), .val (.int v2), .val (.int w3), .val (.ref b8), .val (.ref b19), .val (.ref b35), .val (.ref bo56), .unset] [(.int v0)])) _
      refine XS.iloadN X56.here hx rfl (hb hby at_49) rfl ?_
      exact k)
  obtain ⟨T66, L66, w67, X66, e66, N66, hw67, pre66⟩ : ∃ (T66 : State) (L66 : List Loc) (w67 : Int32), Stand p l e room_1 s m #[(.int v0), (.int v1), (.int v2)] below meth c T66 L66 4 4 ∧ T66.heap = T56.heap ∧ Fr n0 L66 ∧ w67 = (if v0 = w3 then (1 : Int32) else (0 : Int32)) ∧ Go p.tables e below (s₁.setTop (entryFrame m #[(.int v0), (.int v1), (.int v2)] maxLocals)) T66 (mkF m 58 #[.val (.int v0), .val (.int v1), .val (.int v2), .val (.int w3), .val (.ref b8), .val (.ref b19), .val (.ref b35), .val (.ref bo56), .unset] [(.int w67)]) := by
    by_cases hc68 : v0 = w3
    · -- hc68: True
      have pre69 : Go p.tables e below (s₁.setTop (entryFrame m #[(.int v0), (.int v1), (.int v2)] maxLocals)) T56 (mkF m 58 #[.val (.int v0), .val (.int v1), .val (.int v2), .val (.int w3), .val (.ref b8), .val (.ref b19), .val (.ref b35), .val (.ref bo56), .unset] [(.int (1 : Int32))]) := fun t k => pre65 t (by
          refine XS.icmpNo X56.here hx rfl (hb hby at_50) rfl (teq hc68).2 ?_
          show Steps p.tables e below (T56.setTop (mkF m 53 #[.val (.int v0), .val (.int v1), .val (.int v2), .val (.int w3), .val (.ref b8), .val (.ref b19), .val (.ref b35), .val (.ref bo56), .unset] [])) _
          refine XS.iconst X56.here hx rfl (hb hby at_53) ?_
          show Steps p.tables e below (T56.setTop (mkF m 54 #[.val (.int v0), .val (.int v1), .val (.int v2), .val (.int w3), .val (.ref b8), .val (.ref b19), .val (.ref b35), .val (.ref bo56), .unset] [(.int (1 : Int32))])) _
          refine XS.goto X56.here hx rfl (pc0 := 54) (pc' := 58) rfl (hb hby at_54) (by decide) (by decide) ?_
          exact k)
      refine ⟨_, _, _, X56, rfl, N56, ?_, pre69⟩
      · exact (if_pos hc68).symm
    · -- hc68: False
      have pre70 : Go p.tables e below (s₁.setTop (entryFrame m #[(.int v0), (.int v1), (.int v2)] maxLocals)) T56 (mkF m 58 #[.val (.int v0), .val (.int v1), .val (.int v2), .val (.int w3), .val (.ref b8), .val (.ref b19), .val (.ref b35), .val (.ref bo56), .unset] [(.int (0 : Int32))]) := fun t k => pre65 t (by
          refine XS.icmpYes X56.here hx rfl (pc0 := 50) (pc' := 57) rfl (hb hby at_50) rfl (feq hc68).2 (by decide) (by decide) ?_
          show Steps p.tables e below (T56.setTop (mkF m 57 #[.val (.int v0), .val (.int v1), .val (.int v2), .val (.int w3), .val (.ref b8), .val (.ref b19), .val (.ref b35), .val (.ref bo56), .unset] [])) _
          refine XS.iconst X56.here hx rfl (hb hby at_57) ?_
          exact k)
      refine ⟨_, _, _, X56, rfl, N56, ?_, pre70⟩
      · exact (if_neg hc68).symm
  have pre71 : Go p.tables e below (s₁.setTop (entryFrame m #[(.int v0), (.int v1), (.int v2)] maxLocals)) T66 (mkF m 64 #[.val (.int v0), .val (.int v1), .val (.int v2), .val (.int w3), .val (.ref b8), .val (.ref b19), .val (.ref b35), .val (.ref bo56), .val (.int w67)] [(.ref b19), (.ref b8)]) := fun t k => pre66 t (by
      refine XS.istore X66.here hx rfl (hb hby at_58) rfl (l' := #[.val (.int v0), .val (.int v1), .val (.int v2), .val (.int w3), .val (.ref b8), .val (.ref b19), .val (.ref b35), .val (.ref bo56), .val (.int w67)]) rfl ?_
      show Steps p.tables e below (T66.setTop (mkF m 60 #[.val (.int v0), .val (.int v1), .val (.int v2), .val (.int w3), .val (.ref b8), .val (.ref b19), .val (.ref b35), .val (.ref bo56), .val (.int w67)] [])) _
      refine XS.aload X66.here hx rfl (hb hby at_60) rfl rfl ?_
      show Steps p.tables e below (T66.setTop (mkF m 62 #[.val (.int v0), .val (.int v1), .val (.int v2), .val (.int w3), .val (.ref b8), .val (.ref b19), .val (.ref b35), .val (.ref bo56), .val (.int w67)] [(.ref b8)])) _
      refine XS.aload X66.here hx rfl (hb hby at_62) rfl rfl ?_
      exact k)
  obtain ⟨cq72, kq72, q72a, q72b, q72c⟩ := isOf hZ e66 f59
  obtain ⟨_, _, ⟨T72, L72, k72, n72⟩, -, X72, ⟨Lc72, hQ72, l72, y72, z72⟩, st72⟩ := X66.virtualBack hx (y := (⟨"com/example/backrank/backrank/Move", "equals", "(Ljava/lang/Object;)Z"⟩ : MethodName)) (z := (⟨"com/example/backrank/backrank/Move", "equals", "(Ljava/lang/Object;)Z"⟩ : MethodName)) hown (mvT hZ (hw _ (List.mem_of_getElem? (i := 18) rfl))) (mvT hZ (hw _ (List.mem_of_getElem? (i := 19) rfl))) (notFace_of_selects (args := #[]) (mvT hZ (hw _ (List.mem_of_getElem? (i := 21) rfl)))) (mvT hZ (hw _ (List.mem_of_getElem? (i := 21) rfl))) (mvT hZ (hw _ (List.mem_of_getElem? (i := 20) rfl))) (by decide) (backOf (W := 0) (rm_eq1 l Z av0 hw [] b8 b19 v0 w3 T56.heap n0 f61 f60 f62) hZ (hw _ (List.mem_of_getElem? (i := 22) rfl)) (hw _ (List.mem_of_getElem? (i := 2) rfl)) (by decide) (by decide)) q72a q72c (g := (mkF m 64 #[.val (.int v0), .val (.int v1), .val (.int v2), .val (.int w3), .val (.ref b8), .val (.ref b19), .val (.ref b35), .val (.ref bo56), .val (.int w67)] [(.ref b19), (.ref b8)])) rfl (by rw [hml]; rfl) (Steps.refl _) (argsL := [(.ref b19)]) (rest := []) (lenOf pd_3 rfl) rfl (by show 2 * 0 + _ ≤ _; exact Nat.le_of_eq rfl) (hb hby at_64) (fun _ _ => ⟨rfl, e66, (by decide : 4 + 0 ≤ _), (by decide : 4 + 0 ≤ _)⟩)
  dsimp only [Pt.U, Pt.locs, Pt.cells, Pt.slots] at X72 l72 y72 z72 st72 hQ72
  subst l72 y72 z72
  obtain ⟨rfl, N72q, e72⟩ := hQ72
  have N72 := Fr.app N66 N72q
  have pre72 : Go p.tables e below (s₁.setTop (entryFrame m #[(.int v0), (.int v1), (.int v2)] maxLocals)) T72 (mkF m 67 #[.val (.int v0), .val (.int v1), .val (.int v2), .val (.int w3), .val (.ref b8), .val (.ref b19), .val (.ref b35), .val (.ref bo56), .val (.int w67)] [(.int (own_eq v0 w3))]) := fun t k => pre71 t (st72.trans k)
  have pre73 : Go p.tables e below (s₁.setTop (entryFrame m #[(.int v0), (.int v1), (.int v2)] maxLocals)) T72 (mkF m 69 #[.val (.int v0), .val (.int v1), .val (.int v2), .val (.int w3), .val (.ref b8), .val (.ref b19), .val (.ref b35), .val (.ref bo56), .val (.int w67)] [(.int w67), (.int (own_eq v0 w3))]) := fun t k => pre72 t (by
      refine XS.iload X72.here hx rfl (hb hby at_67) rfl ?_
      exact k)
  by_cases hc74 : (own_eq v0 w3) = w67
  · -- hc74: True
    have pre75 : Go p.tables e below (s₁.setTop (entryFrame m #[(.int v0), (.int v1), (.int v2)] maxLocals)) T72 (mkF m 76 #[.val (.int v0), .val (.int v1), .val (.int v2), .val (.int w3), .val (.ref b8), .val (.ref b19), .val (.ref b35), .val (.ref bo56), .val (.int w67)] [(.ref b8), (.ref b19)]) := fun t k => pre73 t (by
        refine XS.icmpNo X72.here hx rfl (hb hby at_69) rfl (teq hc74).2 ?_
        show Steps p.tables e below (T72.setTop (mkF m 72 #[.val (.int v0), .val (.int v1), .val (.int v2), .val (.int w3), .val (.ref b8), .val (.ref b19), .val (.ref b35), .val (.ref bo56), .val (.int w67)] [])) _
        refine XS.aload X72.here hx rfl (hb hby at_72) rfl rfl ?_
        show Steps p.tables e below (T72.setTop (mkF m 74 #[.val (.int v0), .val (.int v1), .val (.int v2), .val (.int w3), .val (.ref b8), .val (.ref b19), .val (.ref b35), .val (.ref bo56), .val (.int w67)] [(.ref b19)])) _
        refine XS.aload X72.here hx rfl (hb hby at_74) rfl rfl ?_
        exact k)
    obtain ⟨cq76, kq76, q76a, q76b, q76c⟩ := isOf hZ e72 f61
    obtain ⟨_, _, ⟨T76, L76, k76, n76⟩, -, X76, ⟨Lc76, hQ76, l76, y76, z76⟩, st76⟩ := X72.virtualBack hx (y := (⟨"com/example/backrank/backrank/Move", "equals", "(Ljava/lang/Object;)Z"⟩ : MethodName)) (z := (⟨"com/example/backrank/backrank/Move", "equals", "(Ljava/lang/Object;)Z"⟩ : MethodName)) hown (mvT hZ (hw _ (List.mem_of_getElem? (i := 18) rfl))) (mvT hZ (hw _ (List.mem_of_getElem? (i := 19) rfl))) (notFace_of_selects (args := #[]) (mvT hZ (hw _ (List.mem_of_getElem? (i := 21) rfl)))) (mvT hZ (hw _ (List.mem_of_getElem? (i := 21) rfl))) (mvT hZ (hw _ (List.mem_of_getElem? (i := 20) rfl))) (by decide) (backOf (W := 0) (rm_eq1 l Z av0 hw [] b19 b8 w3 v0 T56.heap n0 f59 f62 f60) hZ (hw _ (List.mem_of_getElem? (i := 22) rfl)) (hw _ (List.mem_of_getElem? (i := 2) rfl)) (by decide) (by decide)) q76a q76c (g := (mkF m 76 #[.val (.int v0), .val (.int v1), .val (.int v2), .val (.int w3), .val (.ref b8), .val (.ref b19), .val (.ref b35), .val (.ref bo56), .val (.int w67)] [(.ref b8), (.ref b19)])) rfl (by rw [hml]; rfl) (Steps.refl _) (argsL := [(.ref b8)]) (rest := []) (lenOf pd_3 rfl) rfl (by show 2 * 0 + _ ≤ _; exact Nat.le_of_eq rfl) (hb hby at_76) (fun _ _ => ⟨rfl, e72, (by decide : 4 + 0 ≤ _), (by decide : 4 + 0 ≤ _)⟩)
    dsimp only [Pt.U, Pt.locs, Pt.cells, Pt.slots] at X76 l76 y76 z76 st76 hQ76
    subst l76 y76 z76
    obtain ⟨rfl, N76q, e76⟩ := hQ76
    have N76 := Fr.app N72 N76q
    have pre76 : Go p.tables e below (s₁.setTop (entryFrame m #[(.int v0), (.int v1), (.int v2)] maxLocals)) T76 (mkF m 79 #[.val (.int v0), .val (.int v1), .val (.int v2), .val (.int w3), .val (.ref b8), .val (.ref b19), .val (.ref b35), .val (.ref bo56), .val (.int w67)] [(.int (own_eq w3 v0))]) := fun t k => pre75 t (st76.trans k)
    have pre77 : Go p.tables e below (s₁.setTop (entryFrame m #[(.int v0), (.int v1), (.int v2)] maxLocals)) T76 (mkF m 81 #[.val (.int v0), .val (.int v1), .val (.int v2), .val (.int w3), .val (.ref b8), .val (.ref b19), .val (.ref b35), .val (.ref bo56), .val (.int w67)] [(.int w67), (.int (own_eq w3 v0))]) := fun t k => pre76 t (by
        refine XS.iload X76.here hx rfl (hb hby at_79) rfl ?_
        exact k)
    by_cases hc78 : (own_eq w3 v0) = w67
    · -- hc78: True
      have pre79 : Go p.tables e below (s₁.setTop (entryFrame m #[(.int v0), (.int v1), (.int v2)] maxLocals)) T76 (mkF m 88 #[.val (.int v0), .val (.int v1), .val (.int v2), .val (.int w3), .val (.ref b8), .val (.ref b19), .val (.ref b35), .val (.ref bo56), .val (.int w67)] [(.ref b35), (.ref b8)]) := fun t k => pre77 t (by
          refine XS.icmpNo X76.here hx rfl (hb hby at_81) rfl (teq hc78).2 ?_
          show Steps p.tables e below (T76.setTop (mkF m 84 #[.val (.int v0), .val (.int v1), .val (.int v2), .val (.int w3), .val (.ref b8), .val (.ref b19), .val (.ref b35), .val (.ref bo56), .val (.int w67)] [])) _
          refine XS.aload X76.here hx rfl (hb hby at_84) rfl rfl ?_
          show Steps p.tables e below (T76.setTop (mkF m 86 #[.val (.int v0), .val (.int v1), .val (.int v2), .val (.int w3), .val (.ref b8), .val (.ref b19), .val (.ref b35), .val (.ref bo56), .val (.int w67)] [(.ref b8)])) _
          refine XS.aload X76.here hx rfl (hb hby at_86) rfl rfl ?_
          exact k)
      obtain ⟨cq80, kq80, q80a, q80b, q80c⟩ := isOf hZ e76 f59
      obtain ⟨_, _, ⟨T80, L80, k80, n80⟩, -, X80, ⟨Lc80, hQ80, l80, y80, z80⟩, st80⟩ := X76.virtualBack hx (y := (⟨"com/example/backrank/backrank/Move", "equals", "(Ljava/lang/Object;)Z"⟩ : MethodName)) (z := (⟨"com/example/backrank/backrank/Move", "equals", "(Ljava/lang/Object;)Z"⟩ : MethodName)) hown (mvT hZ (hw _ (List.mem_of_getElem? (i := 18) rfl))) (mvT hZ (hw _ (List.mem_of_getElem? (i := 19) rfl))) (notFace_of_selects (args := #[]) (mvT hZ (hw _ (List.mem_of_getElem? (i := 21) rfl)))) (mvT hZ (hw _ (List.mem_of_getElem? (i := 21) rfl))) (mvT hZ (hw _ (List.mem_of_getElem? (i := 20) rfl))) (by decide) (backOf (W := 0) (rm_eq1 l Z av0 hw [] b8 b35 v0 v0 T56.heap n0 f63 f60 f64) hZ (hw _ (List.mem_of_getElem? (i := 22) rfl)) (hw _ (List.mem_of_getElem? (i := 2) rfl)) (by decide) (by decide)) q80a q80c (g := (mkF m 88 #[.val (.int v0), .val (.int v1), .val (.int v2), .val (.int w3), .val (.ref b8), .val (.ref b19), .val (.ref b35), .val (.ref bo56), .val (.int w67)] [(.ref b35), (.ref b8)])) rfl (by rw [hml]; rfl) (Steps.refl _) (argsL := [(.ref b35)]) (rest := []) (lenOf pd_3 rfl) rfl (by show 2 * 0 + _ ≤ _; exact Nat.le_of_eq rfl) (hb hby at_88) (fun _ _ => ⟨rfl, e76, (by decide : 4 + 0 ≤ _), (by decide : 4 + 0 ≤ _)⟩)
      dsimp only [Pt.U, Pt.locs, Pt.cells, Pt.slots] at X80 l80 y80 z80 st80 hQ80
      subst l80 y80 z80
      obtain ⟨rfl, N80q, e80⟩ := hQ80
      have N80 := Fr.app N76 N80q
      have pre80 : Go p.tables e below (s₁.setTop (entryFrame m #[(.int v0), (.int v1), (.int v2)] maxLocals)) T80 (mkF m 91 #[.val (.int v0), .val (.int v1), .val (.int v2), .val (.int w3), .val (.ref b8), .val (.ref b19), .val (.ref b35), .val (.ref bo56), .val (.int w67)] [(.int (own_eq v0 v0))]) := fun t k => pre79 t (st80.trans k)
      by_cases hc81 : (own_eq v0 v0) = (0 : Int32)
      · -- hc81: True
        have pre82 : Go p.tables e below (s₁.setTop (entryFrame m #[(.int v0), (.int v1), (.int v2)] maxLocals)) T80 (mkF m 128 #[.val (.int v0), .val (.int v1), .val (.int v2), .val (.int w3), .val (.ref b8), .val (.ref b19), .val (.ref b35), .val (.ref bo56), .val (.int w67)] [(.int (0 : Int32))]) := fun t k => pre80 t (by
            refine XS.ifYes X80.here hx rfl (pc0 := 91) (pc' := 127) rfl (hb hby at_91) rfl ((if0 _ _).trans (teq hc81).1) (by decide) (by decide) ?_
            show Steps p.tables e below (T80.setTop (mkF m 127 #[.val (.int v0), .val (.int v1), .val (.int v2), .val (.int w3), .val (.ref b8), .val (.ref b19), .val (.ref b35), .val (.ref bo56), .val (.int w67)] [])) _
            refine XS.iconst X80.here hx rfl (hb hby at_127) ?_
            exact k)
        obtain ⟨fs, hr, hrun, hended, hW, hsame⟩ := X80.leave (v := some (.int (0 : Int32))) (fun h => by rw [Bd.returns] at h; cases h) (BodyLoose.notSynchronized Bd)
        refine ⟨_, _, pre82 _ ?_, hrun, hended, _, _, rfl, ?_, ⟨_, rfl⟩, hW, hsame.mono (Nat.le_of_ble_eq_true rfl) (Nat.le_of_ble_eq_true rfl)⟩
        · exact retN X80 hx (t := .boolean) Bd.returns (by simp) (hb hby at_128) hr
        · show Q_law Z v0 v1 v2 ab cb vb h0 n0 _ T80.heap _
          rw [e80]
          exfalso
          subst hw67 hw3
          revert hc81
          simp [own_eq, eq_comm]
      · -- hc81: False
        have pre83 : Go p.tables e below (s₁.setTop (entryFrame m #[(.int v0), (.int v1), (.int v2)] maxLocals)) T80 (mkF m 98 #[.val (.int v0), .val (.int v1), .val (.int v2), .val (.int w3), .val (.ref b8), .val (.ref b19), .val (.ref b35), .val (.ref bo56), .val (.int w67)] [(.ref b8), (.ref b8)]) := fun t k => pre80 t (by
            refine XS.ifNo X80.here hx rfl (hb hby at_91) rfl ((if0 _ _).trans (feq hc81).1) ?_
            show Steps p.tables e below (T80.setTop (mkF m 94 #[.val (.int v0), .val (.int v1), .val (.int v2), .val (.int w3), .val (.ref b8), .val (.ref b19), .val (.ref b35), .val (.ref bo56), .val (.int w67)] [])) _
            refine XS.aload X80.here hx rfl (hb hby at_94) rfl rfl ?_
            show Steps p.tables e below (T80.setTop (mkF m 96 #[.val (.int v0), .val (.int v1), .val (.int v2), .val (.int w3), .val (.ref b8), .val (.ref b19), .val (.ref b35), .val (.ref bo56), .val (.int w67)] [(.ref b8)])) _
            refine XS.aload X80.here hx rfl (hb hby at_96) rfl rfl ?_
            exact k)
        obtain ⟨cq84, kq84, q84a, q84b, q84c⟩ := isOf hZ e80 f59
        obtain ⟨_, _, ⟨T84, L84, k84, n84⟩, -, X84, ⟨Lc84, hQ84, l84, y84, z84⟩, st84⟩ := X80.virtualBack hx (y := (⟨"com/example/backrank/backrank/Move", "equals", "(Ljava/lang/Object;)Z"⟩ : MethodName)) (z := (⟨"com/example/backrank/backrank/Move", "equals", "(Ljava/lang/Object;)Z"⟩ : MethodName)) hown (mvT hZ (hw _ (List.mem_of_getElem? (i := 18) rfl))) (mvT hZ (hw _ (List.mem_of_getElem? (i := 19) rfl))) (notFace_of_selects (args := #[]) (mvT hZ (hw _ (List.mem_of_getElem? (i := 21) rfl)))) (mvT hZ (hw _ (List.mem_of_getElem? (i := 21) rfl))) (mvT hZ (hw _ (List.mem_of_getElem? (i := 20) rfl))) (by decide) (backOf (W := 0) (rm_eq1 l Z av0 hw [] b8 b8 v0 v0 T56.heap n0 f59 f60 f60) hZ (hw _ (List.mem_of_getElem? (i := 22) rfl)) (hw _ (List.mem_of_getElem? (i := 2) rfl)) (by decide) (by decide)) q84a q84c (g := (mkF m 98 #[.val (.int v0), .val (.int v1), .val (.int v2), .val (.int w3), .val (.ref b8), .val (.ref b19), .val (.ref b35), .val (.ref bo56), .val (.int w67)] [(.ref b8), (.ref b8)])) rfl (by rw [hml]; rfl) (Steps.refl _) (argsL := [(.ref b8)]) (rest := []) (lenOf pd_3 rfl) rfl (by show 2 * 0 + _ ≤ _; exact Nat.le_of_eq rfl) (hb hby at_98) (fun _ _ => ⟨rfl, e80, (by decide : 4 + 0 ≤ _), (by decide : 4 + 0 ≤ _)⟩)
        dsimp only [Pt.U, Pt.locs, Pt.cells, Pt.slots] at X84 l84 y84 z84 st84 hQ84
        subst l84 y84 z84
        obtain ⟨rfl, N84q, e84⟩ := hQ84
        have N84 := Fr.app N80 N84q
        have pre84 : Go p.tables e below (s₁.setTop (entryFrame m #[(.int v0), (.int v1), (.int v2)] maxLocals)) T84 (mkF m 101 #[.val (.int v0), .val (.int v1), .val (.int v2), .val (.int w3), .val (.ref b8), .val (.ref b19), .val (.ref b35), .val (.ref bo56), .val (.int w67)] [(.int (own_eq v0 v0))]) := fun t k => pre83 t (st84.trans k)
        have pre85 : Go p.tables e below (s₁.setTop (entryFrame m #[(.int v0), (.int v1), (.int v2)] maxLocals)) T84 (mkF m 107 #[.val (.int v0), .val (.int v1), .val (.int v2), .val (.int w3), .val (.ref b8), .val (.ref b19), .val (.ref b35), .val (.ref bo56), .val (.int w67)] [.null, (.ref b8)]) := fun t k => pre84 t (by
            refine XS.ifNo X84.here hx rfl (hb hby at_101) rfl ((if0 _ _).trans (feq hc81).1) ?_
            show Steps p.tables e below (T84.setTop (mkF m 104 #[.val (.int v0), .val (.int v1), .val (.int v2), .val (.int w3), .val (.ref b8), .val (.ref b19), .val (.ref b35), .val (.ref bo56), .val (.int w67)] [])) _
            refine XS.aload X84.here hx rfl (hb hby at_104) rfl rfl ?_
            show Steps p.tables e below (T84.setTop (mkF m 106 #[.val (.int v0), .val (.int v1), .val (.int v2), .val (.int w3), .val (.ref b8), .val (.ref b19), .val (.ref b35), .val (.ref bo56), .val (.int w67)] [(.ref b8)])) _
            refine XS.aconstNull X84.here hx rfl (hb hby at_106) ?_
            exact k)
        obtain ⟨cq86, kq86, q86a, q86b, q86c⟩ := isOf hZ e84 f59
        obtain ⟨_, _, ⟨T86, L86, k86, n86⟩, -, X86, ⟨Lc86, hQ86, l86, y86, z86⟩, st86⟩ := X84.virtualBack hx (y := (⟨"com/example/backrank/backrank/Move", "equals", "(Ljava/lang/Object;)Z"⟩ : MethodName)) (z := (⟨"com/example/backrank/backrank/Move", "equals", "(Ljava/lang/Object;)Z"⟩ : MethodName)) hown (mvT hZ (hw _ (List.mem_of_getElem? (i := 18) rfl))) (mvT hZ (hw _ (List.mem_of_getElem? (i := 19) rfl))) (notFace_of_selects (args := #[]) (mvT hZ (hw _ (List.mem_of_getElem? (i := 21) rfl)))) (mvT hZ (hw _ (List.mem_of_getElem? (i := 21) rfl))) (mvT hZ (hw _ (List.mem_of_getElem? (i := 20) rfl))) (by decide) (backOf (W := 0) (rm_eq2 l Z av0 hw [] b8 T56.heap n0) hZ (hw _ (List.mem_of_getElem? (i := 22) rfl)) (hw _ (List.mem_of_getElem? (i := 2) rfl)) (by decide) (by decide)) q86a q86c (g := (mkF m 107 #[.val (.int v0), .val (.int v1), .val (.int v2), .val (.int w3), .val (.ref b8), .val (.ref b19), .val (.ref b35), .val (.ref bo56), .val (.int w67)] [.null, (.ref b8)])) rfl (by rw [hml]; rfl) (Steps.refl _) (argsL := [.null]) (rest := []) (lenOf pd_3 rfl) rfl (by show 2 * 0 + _ ≤ _; exact Nat.le_of_eq rfl) (hb hby at_107) (fun _ _ => ⟨rfl, e84, (by decide : 4 + 0 ≤ _), (by decide : 4 + 0 ≤ _)⟩)
        dsimp only [Pt.U, Pt.locs, Pt.cells, Pt.slots] at X86 l86 y86 z86 st86 hQ86
        subst l86 y86 z86
        obtain ⟨rfl, N86q, e86⟩ := hQ86
        have N86 := Fr.app N84 N86q
        have pre86 : Go p.tables e below (s₁.setTop (entryFrame m #[(.int v0), (.int v1), (.int v2)] maxLocals)) T86 (mkF m 110 #[.val (.int v0), .val (.int v1), .val (.int v2), .val (.int w3), .val (.ref b8), .val (.ref b19), .val (.ref b35), .val (.ref bo56), .val (.int w67)] [(.int (0 : Int32))]) := fun t k => pre85 t (st86.trans k)
        have pre87 : Go p.tables e below (s₁.setTop (entryFrame m #[(.int v0), (.int v1), (.int v2)] maxLocals)) T86 (mkF m 117 #[.val (.int v0), .val (.int v1), .val (.int v2), .val (.int w3), .val (.ref b8), .val (.ref b19), .val (.ref b35), .val (.ref bo56), .val (.int w67)] [(.ref bo56), (.ref b8)]) := fun t k => pre86 t (by
            refine XS.ifNo X86.here hx rfl (hb hby at_110) rfl ((if0 _ _).trans (teq (by decide)).2) ?_
            show Steps p.tables e below (T86.setTop (mkF m 113 #[.val (.int v0), .val (.int v1), .val (.int v2), .val (.int w3), .val (.ref b8), .val (.ref b19), .val (.ref b35), .val (.ref bo56), .val (.int w67)] [])) _
            refine XS.aload X86.here hx rfl (hb hby at_113) rfl rfl ?_
            show Steps p.tables e below (T86.setTop (mkF m 115 #[.val (.int v0), .val (.int v1), .val (.int v2), .val (.int w3), .val (.ref b8), .val (.ref b19), .val (.ref b35), .val (.ref bo56), .val (.int w67)] [(.ref b8)])) _
            refine XS.aload X86.here hx rfl (hb hby at_115) rfl rfl ?_
            exact k)
        obtain ⟨cq88, kq88, q88a, q88b, q88c⟩ := isOf hZ e86 f59
        obtain ⟨_, _, ⟨T88, L88, k88, n88⟩, -, X88, ⟨Lc88, hQ88, l88, y88, z88⟩, st88⟩ := X86.virtualBack hx (y := (⟨"com/example/backrank/backrank/Move", "equals", "(Ljava/lang/Object;)Z"⟩ : MethodName)) (z := (⟨"com/example/backrank/backrank/Move", "equals", "(Ljava/lang/Object;)Z"⟩ : MethodName)) hown (mvT hZ (hw _ (List.mem_of_getElem? (i := 18) rfl))) (mvT hZ (hw _ (List.mem_of_getElem? (i := 19) rfl))) (notFace_of_selects (args := #[]) (mvT hZ (hw _ (List.mem_of_getElem? (i := 21) rfl)))) (mvT hZ (hw _ (List.mem_of_getElem? (i := 21) rfl))) (mvT hZ (hw _ (List.mem_of_getElem? (i := 20) rfl))) (by decide) (backOf (W := 0) (rm_eq3 l Z av0 hw [] b8 bo56 T56.heap n0 Eb56) hZ (hw _ (List.mem_of_getElem? (i := 22) rfl)) (hw _ (List.mem_of_getElem? (i := 2) rfl)) (by decide) (by decide)) q88a q88c (g := (mkF m 117 #[.val (.int v0), .val (.int v1), .val (.int v2), .val (.int w3), .val (.ref b8), .val (.ref b19), .val (.ref b35), .val (.ref bo56), .val (.int w67)] [(.ref bo56), (.ref b8)])) rfl (by rw [hml]; rfl) (Steps.refl _) (argsL := [(.ref bo56)]) (rest := []) (lenOf pd_3 rfl) rfl (by show 2 * 0 + _ ≤ _; exact Nat.le_of_eq rfl) (hb hby at_117) (fun _ _ => ⟨rfl, e86, (by decide : 4 + 0 ≤ _), (by decide : 4 + 0 ≤ _)⟩)
        dsimp only [Pt.U, Pt.locs, Pt.cells, Pt.slots] at X88 l88 y88 z88 st88 hQ88
        subst l88 y88 z88
        obtain ⟨rfl, N88q, e88⟩ := hQ88
        have N88 := Fr.app N86 N88q
        have pre88 : Go p.tables e below (s₁.setTop (entryFrame m #[(.int v0), (.int v1), (.int v2)] maxLocals)) T88 (mkF m 120 #[.val (.int v0), .val (.int v1), .val (.int v2), .val (.int w3), .val (.ref b8), .val (.ref b19), .val (.ref b35), .val (.ref bo56), .val (.int w67)] [(.int (0 : Int32))]) := fun t k => pre87 t (st88.trans k)
        have pre89 : Go p.tables e below (s₁.setTop (entryFrame m #[(.int v0), (.int v1), (.int v2)] maxLocals)) T88 (mkF m 128 #[.val (.int v0), .val (.int v1), .val (.int v2), .val (.int w3), .val (.ref b8), .val (.ref b19), .val (.ref b35), .val (.ref bo56), .val (.int w67)] [(.int (1 : Int32))]) := fun t k => pre88 t (by
            refine XS.ifNo X88.here hx rfl (hb hby at_120) rfl ((if0 _ _).trans (teq (by decide)).2) ?_
            show Steps p.tables e below (T88.setTop (mkF m 123 #[.val (.int v0), .val (.int v1), .val (.int v2), .val (.int w3), .val (.ref b8), .val (.ref b19), .val (.ref b35), .val (.ref bo56), .val (.int w67)] [])) _
            refine XS.iconst X88.here hx rfl (hb hby at_123) ?_
            show Steps p.tables e below (T88.setTop (mkF m 124 #[.val (.int v0), .val (.int v1), .val (.int v2), .val (.int w3), .val (.ref b8), .val (.ref b19), .val (.ref b35), .val (.ref bo56), .val (.int w67)] [(.int (1 : Int32))])) _
            refine XS.goto X88.here hx rfl (pc0 := 124) (pc' := 128) rfl (hb hby at_124) (by decide) (by decide) ?_
            exact k)
        obtain ⟨fs, hr, hrun, hended, hW, hsame⟩ := X88.leave (v := some (.int (1 : Int32))) (fun h => by rw [Bd.returns] at h; cases h) (BodyLoose.notSynchronized Bd)
        refine ⟨_, _, pre89 _ ?_, hrun, hended, _, _, rfl, ?_, ⟨_, rfl⟩, hW, hsame.mono (Nat.le_of_ble_eq_true rfl) (Nat.le_of_ble_eq_true rfl)⟩
        · exact retN X88 hx (t := .boolean) Bd.returns (by simp) (hb hby at_128) hr
        · show Q_law Z v0 v1 v2 ab cb vb h0 n0 _ T88.heap _
          rw [e88]
          exact ⟨rfl, N88⟩
    · -- hc78: False
      have pre90 : Go p.tables e below (s₁.setTop (entryFrame m #[(.int v0), (.int v1), (.int v2)] maxLocals)) T76 (mkF m 128 #[.val (.int v0), .val (.int v1), .val (.int v2), .val (.int w3), .val (.ref b8), .val (.ref b19), .val (.ref b35), .val (.ref bo56), .val (.int w67)] [(.int (0 : Int32))]) := fun t k => pre77 t (by
          refine XS.icmpYes X76.here hx rfl (pc0 := 81) (pc' := 127) rfl (hb hby at_81) rfl (feq hc78).2 (by decide) (by decide) ?_
          show Steps p.tables e below (T76.setTop (mkF m 127 #[.val (.int v0), .val (.int v1), .val (.int v2), .val (.int w3), .val (.ref b8), .val (.ref b19), .val (.ref b35), .val (.ref bo56), .val (.int w67)] [])) _
          refine XS.iconst X76.here hx rfl (hb hby at_127) ?_
          exact k)
      obtain ⟨fs, hr, hrun, hended, hW, hsame⟩ := X76.leave (v := some (.int (0 : Int32))) (fun h => by rw [Bd.returns] at h; cases h) (BodyLoose.notSynchronized Bd)
      refine ⟨_, _, pre90 _ ?_, hrun, hended, _, _, rfl, ?_, ⟨_, rfl⟩, hW, hsame.mono (Nat.le_of_ble_eq_true rfl) (Nat.le_of_ble_eq_true rfl)⟩
      · exact retN X76 hx (t := .boolean) Bd.returns (by simp) (hb hby at_128) hr
      · show Q_law Z v0 v1 v2 ab cb vb h0 n0 _ T76.heap _
        rw [e76]
        exfalso
        subst hw67 hw3
        revert hc78
        simp [own_eq, eq_comm]
  · -- hc74: False
    have pre91 : Go p.tables e below (s₁.setTop (entryFrame m #[(.int v0), (.int v1), (.int v2)] maxLocals)) T72 (mkF m 128 #[.val (.int v0), .val (.int v1), .val (.int v2), .val (.int w3), .val (.ref b8), .val (.ref b19), .val (.ref b35), .val (.ref bo56), .val (.int w67)] [(.int (0 : Int32))]) := fun t k => pre73 t (by
        refine XS.icmpYes X72.here hx rfl (pc0 := 69) (pc' := 127) rfl (hb hby at_69) rfl (feq hc74).2 (by decide) (by decide) ?_
        show Steps p.tables e below (T72.setTop (mkF m 127 #[.val (.int v0), .val (.int v1), .val (.int v2), .val (.int w3), .val (.ref b8), .val (.ref b19), .val (.ref b35), .val (.ref bo56), .val (.int w67)] [])) _
        refine XS.iconst X72.here hx rfl (hb hby at_127) ?_
        exact k)
    obtain ⟨fs, hr, hrun, hended, hW, hsame⟩ := X72.leave (v := some (.int (0 : Int32))) (fun h => by rw [Bd.returns] at h; cases h) (BodyLoose.notSynchronized Bd)
    refine ⟨_, _, pre91 _ ?_, hrun, hended, _, _, rfl, ?_, ⟨_, rfl⟩, hW, hsame.mono (Nat.le_of_ble_eq_true rfl) (Nat.le_of_ble_eq_true rfl)⟩
    · exact retN X72 hx (t := .boolean) Bd.returns (by simp) (hb hby at_128) hr
    · show Q_law Z v0 v1 v2 ab cb vb h0 n0 _ T72.heap _
      rw [e72]
      exfalso
      subst hw67 hw3
      revert hc74
      simp [own_eq, eq_comm]
set_option maxRecDepth 65536 in
set_option maxHeartbeats 40000000 in
theorem comes_1 {Post : Tables → Env → Array Value → State → Outcome → State → Prop} (hpost : ∀ tb e args s v u, (limb_1_1.after args s (.returned v) u = true ∧ limb_1_2.after args s (.returned v) u = true ∧ True) → FrameEnd s (.returned v) u (Jvm.fieldLocs frame_1_writes args s ++ Jvm.arrayLocs frame_1_arrays args s ++ Jvm.staticLocs frame_1_statics s) 16 128 → Post tb e args s (.returned v) u) :
    ArmFor flags0 classFile x code maxLocals ret World_1 tables_1 room_1 Calls_1 rest_1 Pre_1 Post := by
  intro l hfl _ _ p e ha hc hk s m args below hf hA hF happ hP
  obtain ⟨hcalls, hrest, hpre⟩ := hP
  obtain ⟨-, -, -, hnamed, -, -, -, hat⟩ := (Spec.applies_iff hf).mp happ
  obtain ⟨hg, hn⟩ := and_e (Cond.before_iff.mp (show (Jvm.Cond.and given_1 narrow_1).before args s = true from hpre))
  obtain ⟨gc, gt0⟩ := and_e hg
  obtain ⟨ga0, gt1⟩ := and_e gt0
  obtain ⟨ga1, gt2⟩ := and_e gt1
  obtain ⟨w0, w1, w2, rfl⟩ : ∃ w0 w1 w2 : Value, args = #[w0, w1, w2] := by
    have hs : args.size = 3 := by simpa [Cond.value, given_1] using gc
    obtain ⟨L⟩ := args
    match L, hs with
    | [w0, w1, w2], _ => exact ⟨w0, w1, w2, rfl⟩
  have hw := fun d (hd : d ∈ tables_1) => atoms_spec (ws := Jvm.Cond.code x code maxLocals ret :: tables_1) hat d (List.mem_cons_of_mem _ hd)
  have hfit : Fit s := fun {y c} hc i hi => by
    obtain ⟨ha, rfl⟩ := Array.getElem?_eq_some_iff.mp hc
    have q := List.all_eq_true.mp ((Array.all_eq_true_iff_forall_mem.mp hF) _ (Array.getElem_mem ha)) i (List.mem_range.mpr hi)
    simpa [Array.getElem?_eq_getElem hi] using q
  obtain ⟨i0, ei0⟩ := is_v ga0
  obtain rfl : w0 = (.int i0) := Option.some.inj ei0
  obtain ⟨i1, ei1⟩ := is_v ga1
  obtain rfl : w1 = (.int i1) := Option.some.inj ei1
  obtain ⟨i2, ei2⟩ := is_v gt2
  obtain rfl : w2 = (.int i2) := Option.some.inj ei2
  obtain ⟨hsets, hown0⟩ := atoms_of _ (rest_1_c_eq ▸ (show rest_1_c.before _ s = true from hrest))
  have eh := eqv_i (Term.int_eval (127)) (Cond.before_iff.mp (hsets _ (List.mem_of_getElem? (i := 3) rfl)))
  have S_high := Sta.start eh (Or.inl (hsets _ (List.mem_of_getElem? (i := 1) rfl)))
  obtain ⟨ab, ec⟩ := arr_v (Cond.before_iff.mp (hsets _ (List.mem_of_getElem? (i := 4) rfl)))
  have S_cache := Sta.start ec (Or.inr ⟨(hw _ (List.mem_of_getElem? (i := 16) rfl)), (hsets _ (List.mem_of_getElem? (i := 2) rfl))⟩)
  obtain ⟨cb, Ab⟩ := Arr.start ec (Cond.before_iff.mp (hsets _ (List.mem_of_getElem? (i := 4) rfl)))
  have el := eqv_i (Term.int_eval (256)) (Cond.before_iff.mp (hsets _ (List.mem_of_getElem? (i := 6) rfl)))
  obtain ⟨lq, le⟩ := own_len ec Ab el
  have Bx : Bxs s ab cb "java/lang/Integer" "I" (256 : Int32) (fun j => .int (j - (128 : Int32))) := Bxs.start (fun idx => ec) Ab lq le (by decide) (Cond.before_iff.mp (hsets _ (List.mem_of_getElem? (i := 7) rfl))) (fun X j nn hX => eqv_i (own_sub nn) hX)
  obtain ⟨n, o, h1, h2, h3, _, L, rfl, ⟨rfl, N⟩, hq⟩ := rm_law l s _ hw tables_1 i0 i1 i2 ab cb _ s.heap s.heap.size (Nat.le_refl _) (Old.start s) S_high S_cache Bx p e ha hc hk s m _ below hf ((Spec.applies_iff_loose hf).mp happ).1 ⟨rfl, State.Warmed39.refl s, rfl⟩ trivial
  refine ⟨n, _, h1, h2, h3, hpost _ _ _ _ _ _ ⟨Cond.after_iff.mpr rfl, Cond.after_iff.mpr (eq_i res_at (Term.int_eval (1)) rfl), trivial⟩ ⟨hq.1, hq.2.1, (hq.2.2.sift fun y hy => Or.inr (N y hy)).mono (by decide) (by decide)⟩⟩
theorem main_1_1 : Claimed_1_1 := comes_1 fun _ _ _ _ _ _ h hF => ⟨h.1, hF⟩
theorem main_1_2 : Claimed_1_2 := comes_1 fun _ _ _ _ _ _ h hF => ⟨h.2.1, hF⟩
end Jvm.Pilot.@@N@@
namespace Jvm.Pilot.@@N@@
open Jvm Jvm.ClassFile Sem Op Lib Jvm.Free Jvm.Stand Jvm.Pilot.@@N@@.Jvm.D
/-! MADE BY PROGRAM (witnessworld.py) out of the Statement's table words and the real class files: 16 classes; the members and pool entries that the words name. The judged class is class 1, her method 1. -/
namespace start1
open Jvm.ClassFile
def u (s : String) : CpInfo := .utf8 (stringToUtf16 s)
/-- a pool by its gaps: so many unusable entries, then the entry; so many at the end -/
def gap : Nat → List CpInfo → List CpInfo
  | 0, r => r
  | n + 1, r => .unusable :: gap n r
def poolList (es : List (Nat × CpInfo)) (last : Nat) : List CpInfo := es.foldr (fun e r => gap e.1 (e.2 :: r)) (gap last [])
def pool (es : List (Nat × CpInfo)) (last : Nat) : Array CpInfo := ⟨poolList es last⟩
def fileOf (pool : Array CpInfo) (this : Nat) (attrs : Array Attribute := #[]) (ms : Array MethodInfo := #[]) (fl : Nat := 33) (sup : Nat := 0) (ifs : Array Nat := #[]) (fds : Array FieldInfo := #[]) : ClassFile where
  minorVersion := 0
  majorVersion := 65
  constantPool := pool
  accessFlags := fl
  thisClass := this
  superClass := sup
  interfaces := ifs
  fields := fds
  methods := ms
  attributes := attrs
def plain (name : String) (sup : Option ClassId) : Class where
  name := name
  kind := .ordinary
  loader := none
  accessFlags := 33
  super := sup
  interfaces := #[]
  cf := none
  fields := #[]
  methods := #[]
  instanceTypes := #[]
  staticTypes := #[]
  resolved := #[]
  callSites := []
  init := .initialized
  statics := none
  mirror := none

def pool0 : Array CpInfo := pool [(5, u "<init>"), (0, u "()V"), (1, .class_ 10), (1, u "java/lang/Object")] 113

def k0c0 : Code := { maxStack := 0, maxLocals := 1, code := object_method_1_code, exceptionTable := #[], attributes := #[] }
def k0m0 : Method := { name := "<init>", desc := "()V", sig := { parameters := [], returnType := none }, accessFlags := 1, code := some k0c0 }
/-- java/lang/Object -/
def k0 : Class := { plain "java/lang/Object" none with
  accessFlags := 33
  interfaces := #[]
  cf := some (fileOf pool0 8 #[] #[{ accessFlags := 1, nameIndex := 5, descriptorIndex := 6, attributes := #[] }] 33 0 #[] #[])
  fields := #[]
  methods := #[k0m0]
  instanceTypes := #[]
  staticTypes := #[]
  resolved := Array.replicate 124 none
  statics := none }

def pool1 : Array CpInfo := pool [(2, .class_ 4), (1, u "java/lang/Object"), (0, u "<init>"), (0, u "()V"), (0, .class_ 8), (0, u "com/example/backrank/backrank/Move"), (0, .methodref 7 10), (0, .nameAndType 5 11), (0, u "(I)V"), (0, .methodref 13 14), (0, .class_ 15), (0, .nameAndType 16 17), (0, u "java/lang/Integer"), (0, u "valueOf"), (0, u "(I)Ljava/lang/Integer;"), (0, .methodref 7 19), (0, .nameAndType 20 21), (0, u "equals"), (0, u "(Ljava/lang/Object;)Z"), (0, .class_ 23), (0, u "com/example/backrank/backrank/MoveEqualsPinLaw"), (2, u "law"), (0, u "(III)Z")] 3

def k1m0 : Method := { name := "<init>", desc := "()V", sig := { parameters := [], returnType := none }, accessFlags := 1, code := none }
def k1c1 : Code := { maxStack := 3, maxLocals := 9, code := code, exceptionTable := #[], attributes := #[] }
def k1m1 : Method := { name := "law", desc := "(III)Z", sig := { parameters := [.int, .int, .int], returnType := some .boolean }, accessFlags := 9, code := some k1c1 }
/-- com/example/backrank/backrank/MoveEqualsPinLaw -/
def k1 : Class := { plain "com/example/backrank/backrank/MoveEqualsPinLaw" (some 0) with
  accessFlags := 49
  interfaces := #[]
  cf := some (fileOf pool1 22 #[] #[{ accessFlags := 1, nameIndex := 5, descriptorIndex := 6, attributes := #[] }, { accessFlags := 9, nameIndex := 26, descriptorIndex := 27, attributes := #[] }] 49 2 #[] #[])
  fields := #[]
  methods := #[k1m0, k1m1]
  instanceTypes := #[]
  staticTypes := #[]
  resolved := Array.replicate 31 none
  statics := none }

def pool2 : Array CpInfo := pool [(1, .methodref 2 3), (0, .class_ 4), (0, .nameAndType 5 6), (0, u "java/lang/Object"), (0, u "<init>"), (0, u "()V"), (0, .fieldref 8 9), (0, .class_ 10), (0, .nameAndType 11 12), (0, u "com/example/backrank/backrank/Move"), (0, u "code"), (0, u "I"), (41, u "(I)V"), (3, u "equals"), (0, u "(Ljava/lang/Object;)Z")] 23

def k2c0 : Code := { maxStack := 2, maxLocals := 2, code := prog_26_method_1_code, exceptionTable := #[], attributes := #[] }
def k2m0 : Method := { name := "<init>", desc := "(I)V", sig := { parameters := [.int], returnType := none }, accessFlags := 0, code := some k2c0 }
def k2c1 : Code := { maxStack := 2, maxLocals := 2, code := prog_26_method_3_code, exceptionTable := #[], attributes := #[] }
def k2m1 : Method := { name := "equals", desc := "(Ljava/lang/Object;)Z", sig := { parameters := [(.object "java/lang/Object")], returnType := some .boolean }, accessFlags := 1, code := some k2c1 }
/-- com/example/backrank/backrank/Move -/
def k2 : Class := { plain "com/example/backrank/backrank/Move" (some 0) with
  accessFlags := 49
  interfaces := #[]
  cf := some (fileOf pool2 8 #[] #[{ accessFlags := 0, nameIndex := 5, descriptorIndex := 54, attributes := #[] }, { accessFlags := 1, nameIndex := 58, descriptorIndex := 59, attributes := #[] }] 49 2 #[] #[{ accessFlags := 18, nameIndex := 11, descriptorIndex := 12, attributes := #[] }])
  fields := #[{ name := "code", type := .int, accessFlags := 18, slot := 0, constantValue := 0 }]
  methods := #[k2m0, k2m1]
  instanceTypes := #[.int]
  staticTypes := #[]
  resolved := Array.replicate 83 none
  statics := none }

def pool3 : Array CpInfo := pool [(1, .class_ 2), (0, u "java/io/Serializable"), (0, .class_ 4), (0, u "java/lang/Object")] 2

/-- java/io/Serializable -/
def k3 : Class := { plain "java/io/Serializable" (some 0) with
  accessFlags := 1537
  interfaces := #[]
  cf := some (fileOf pool3 1 #[] #[] 1537 3 #[] #[])
  fields := #[]
  methods := #[]
  instanceTypes := #[]
  staticTypes := #[]
  resolved := Array.replicate 7 none
  statics := none }

def pool4 : Array CpInfo := pool [(1, .methodref 2 3), (0, .class_ 4), (0, .nameAndType 5 6), (0, u "java/lang/Object"), (0, u "<init>"), (0, u "()V"), (1, .class_ 10), (1, u "java/lang/Number"), (2, .class_ 14), (0, u "java/io/Serializable"), (0, u "serialVersionUID"), (0, u "J")] 20

def k4c0 : Code := { maxStack := 1, maxLocals := 1, code := jdk_18_method_1_code, exceptionTable := #[], attributes := #[] }
def k4m0 : Method := { name := "<init>", desc := "()V", sig := { parameters := [], returnType := none }, accessFlags := 1, code := some k4c0 }
/-- java/lang/Number -/
def k4 : Class := { plain "java/lang/Number" (some 0) with
  accessFlags := 1057
  interfaces := #[3]
  cf := some (fileOf pool4 8 #[] #[{ accessFlags := 1, nameIndex := 5, descriptorIndex := 6, attributes := #[] }] 1057 2 #[13] #[{ accessFlags := 26, nameIndex := 15, descriptorIndex := 16, attributes := #[] }])
  fields := #[{ name := "serialVersionUID", type := .long, accessFlags := 26, slot := 0, constantValue := 0 }]
  methods := #[k4m0]
  instanceTypes := #[]
  staticTypes := #[.long]
  resolved := Array.replicate 37 none
  statics := none }

def pool5 : Array CpInfo := pool [(1, .class_ 2), (0, u "java/lang/Comparable"), (0, .class_ 4), (0, u "java/lang/Object")] 7

/-- java/lang/Comparable -/
def k5 : Class := { plain "java/lang/Comparable" (some 0) with
  accessFlags := 1537
  interfaces := #[]
  cf := some (fileOf pool5 1 #[] #[] 1537 3 #[] #[])
  fields := #[]
  methods := #[]
  instanceTypes := #[]
  staticTypes := #[]
  resolved := Array.replicate 12 none
  statics := none }

def pool6 : Array CpInfo := pool [(1, .class_ 2), (0, u "java/lang/constant/Constable"), (0, .class_ 4), (0, u "java/lang/Object")] 6

/-- java/lang/constant/Constable -/
def k6 : Class := { plain "java/lang/constant/Constable" (some 0) with
  accessFlags := 1537
  interfaces := #[]
  cf := some (fileOf pool6 1 #[] #[] 1537 3 #[] #[])
  fields := #[]
  methods := #[]
  instanceTypes := #[]
  staticTypes := #[]
  resolved := Array.replicate 11 none
  statics := none }

def pool7 : Array CpInfo := pool [(1, .class_ 2), (0, u "java/lang/constant/ConstantDesc"), (0, .class_ 4), (0, u "java/lang/Object")] 32

/-- java/lang/constant/ConstantDesc -/
def k7 : Class := { plain "java/lang/constant/ConstantDesc" (some 0) with
  accessFlags := 1537
  interfaces := #[]
  cf := some (fileOf pool7 1 #[] #[] 1537 3 #[] #[])
  fields := #[]
  methods := #[]
  instanceTypes := #[]
  staticTypes := #[]
  resolved := Array.replicate 37 none
  statics := none }

def pool8 : Array CpInfo := pool [(1, .class_ 2), (0, u "java/lang/Integer"), (16, u "digits"), (0, u "[C"), (46, u "<init>"), (17, u "DigitOnes"), (0, u "[B"), (2, u "DigitTens"), (10, .nameAndType 67 101), (0, u "()V"), (85, u "valueOf"), (0, u "(I)Ljava/lang/Integer;"), (0, .class_ 190), (0, u "java/lang/Integer$IntegerCache"), (0, .fieldref 189 192), (0, .nameAndType 193 194), (0, u "high"), (0, u "I"), (0, .fieldref 189 196), (0, .nameAndType 197 198), (0, u "cache"), (0, u "[Ljava/lang/Integer;"), (0, .methodref 1 200), (0, .nameAndType 67 201), (0, u "(I)V"), (0, .methodref 203 100), (0, .class_ 204), (0, u "java/lang/Number"), (0, .fieldref 1 206), (0, .nameAndType 207 194), (0, u "value"), (94, u "TYPE"), (0, u "Ljava/lang/Class;"), (0, .class_ 305), (0, u "java/lang/Comparable"), (0, .class_ 307), (0, u "java/lang/constant/Constable"), (0, .class_ 309), (0, u "java/lang/constant/ConstantDesc"), (0, u "MIN_VALUE"), (1, u "MAX_VALUE"), (3, u "SIZE"), (1, u "BYTES"), (1, u "serialVersionUID"), (0, u "J")] 131

def k8c0 : Code := { maxStack := 3, maxLocals := 1, code := jdk_33_method_22_code, exceptionTable := #[], attributes := #[] }
def k8m0 : Method := { name := "valueOf", desc := "(I)Ljava/lang/Integer;", sig := { parameters := [.int], returnType := some (.object "java/lang/Integer") }, accessFlags := 9, code := some k8c0 }
def k8c1 : Code := { maxStack := 2, maxLocals := 2, code := jdk_33_method_23_code, exceptionTable := #[], attributes := #[] }
def k8m1 : Method := { name := "<init>", desc := "(I)V", sig := { parameters := [.int], returnType := none }, accessFlags := 1, code := some k8c1 }
/-- java/lang/Integer -/
def k8 : Class := { plain "java/lang/Integer" (some 4) with
  accessFlags := 49
  interfaces := #[5, 6, 7]
  cf := some (fileOf pool8 1 #[.nestMembers #[189]] #[{ accessFlags := 9, nameIndex := 187, descriptorIndex := 188, attributes := #[] }, { accessFlags := 1, nameIndex := 67, descriptorIndex := 201, attributes := #[] }] 49 203 #[304, 306, 308] #[{ accessFlags := 25, nameIndex := 310, descriptorIndex := 194, attributes := #[] }, { accessFlags := 25, nameIndex := 312, descriptorIndex := 194, attributes := #[] }, { accessFlags := 25, nameIndex := 302, descriptorIndex := 303, attributes := #[] }, { accessFlags := 24, nameIndex := 19, descriptorIndex := 20, attributes := #[] }, { accessFlags := 24, nameIndex := 89, descriptorIndex := 86, attributes := #[] }, { accessFlags := 24, nameIndex := 85, descriptorIndex := 86, attributes := #[] }, { accessFlags := 18, nameIndex := 207, descriptorIndex := 194, attributes := #[] }, { accessFlags := 25, nameIndex := 316, descriptorIndex := 194, attributes := #[] }, { accessFlags := 25, nameIndex := 318, descriptorIndex := 194, attributes := #[] }, { accessFlags := 26, nameIndex := 320, descriptorIndex := 321, attributes := #[] }])
  fields := #[{ name := "MIN_VALUE", type := .int, accessFlags := 25, slot := 0, constantValue := 0 }, { name := "MAX_VALUE", type := .int, accessFlags := 25, slot := 1, constantValue := 0 }, { name := "TYPE", type := (.object "java/lang/Class"), accessFlags := 25, slot := 2, constantValue := 0 }, { name := "digits", type := (.array .char), accessFlags := 24, slot := 3, constantValue := 0 }, { name := "DigitTens", type := (.array .byte), accessFlags := 24, slot := 4, constantValue := 0 }, { name := "DigitOnes", type := (.array .byte), accessFlags := 24, slot := 5, constantValue := 0 }, { name := "value", type := .int, accessFlags := 18, slot := 0, constantValue := 0 }, { name := "SIZE", type := .int, accessFlags := 25, slot := 6, constantValue := 0 }, { name := "BYTES", type := .int, accessFlags := 25, slot := 7, constantValue := 0 }, { name := "serialVersionUID", type := .long, accessFlags := 26, slot := 8, constantValue := 0 }]
  methods := #[k8m0, k8m1]
  instanceTypes := #[.int]
  staticTypes := #[.int, .int, (.object "java/lang/Class"), (.array .char), (.array .byte), (.array .byte), .int, .int, .long]
  resolved := Array.replicate 453 none
  statics := none }

def pool9 : Array CpInfo := pool [(2, .class_ 4), (1, u "java/lang/Object"), (0, u "<init>"), (0, u "()V"), (0, .class_ 8), (0, u "java/lang/Integer"), (7, .class_ 18), (1, u "java/lang/Integer$IntegerCache"), (0, u "$assertionsDisabled"), (0, u "Z"), (26, u "high"), (0, u "I"), (8, u "archivedCache"), (0, u "[Ljava/lang/Integer;"), (12, u "cache"), (0, u "low")] 27

def k9m0 : Method := { name := "<init>", desc := "()V", sig := { parameters := [], returnType := none }, accessFlags := 2, code := none }
/-- java/lang/Integer$IntegerCache -/
def k9 : Class := { plain "java/lang/Integer$IntegerCache" (some 0) with
  accessFlags := 48
  interfaces := #[]
  cf := some (fileOf pool9 16 #[.nestHost 7] #[{ accessFlags := 2, nameIndex := 5, descriptorIndex := 6, attributes := #[] }] 48 2 #[] #[{ accessFlags := 24, nameIndex := 72, descriptorIndex := 48, attributes := #[] }, { accessFlags := 24, nameIndex := 47, descriptorIndex := 48, attributes := #[] }, { accessFlags := 24, nameIndex := 71, descriptorIndex := 58, attributes := #[] }, { accessFlags := 8, nameIndex := 57, descriptorIndex := 58, attributes := #[] }, { accessFlags := 4120, nameIndex := 19, descriptorIndex := 20, attributes := #[] }])
  fields := #[{ name := "low", type := .int, accessFlags := 24, slot := 0, constantValue := 0 }, { name := "high", type := .int, accessFlags := 24, slot := 1, constantValue := 0 }, { name := "cache", type := (.array (.object "java/lang/Integer")), accessFlags := 24, slot := 2, constantValue := 0 }, { name := "archivedCache", type := (.array (.object "java/lang/Integer")), accessFlags := 8, slot := 3, constantValue := 0 }, { name := "$assertionsDisabled", type := .boolean, accessFlags := 4120, slot := 4, constantValue := 0 }]
  methods := #[k9m0]
  instanceTypes := #[]
  staticTypes := #[.int, .int, (.array (.object "java/lang/Integer")), (.array (.object "java/lang/Integer")), .boolean]
  resolved := Array.replicate 100 none
  statics := some 0 }

def pool10 : Array CpInfo := pool [(1, u "java/lang/Cloneable"), (0, .class_ 1), (0, u "java/lang/Object"), (0, .class_ 3)] 3

/-- java/lang/Cloneable -/
def k10 : Class := { plain "java/lang/Cloneable" (some 0) with
  accessFlags := 1537
  interfaces := #[]
  cf := some (fileOf pool10 2 #[] #[] 1537 4 #[] #[])
  fields := #[]
  methods := #[]
  instanceTypes := #[]
  staticTypes := #[]
  resolved := Array.replicate 8 none
  statics := none }

/-- the primitive byte -/
def k11 : Class := { plain "byte" none with kind := .primitive 'B', accessFlags := 0x411 }
/-- [B -/
def k12 : Class := { plain "[B" (some 0) with kind := .array 11 .byte, interfaces := #[10, 3], accessFlags := 1041 }

/-- the primitive int -/
def k13 : Class := { plain "int" none with kind := .primitive 'I', accessFlags := 0x411 }
/-- [I -/
def k14 : Class := { plain "[I" (some 0) with kind := .array 13 .int, interfaces := #[10, 3], accessFlags := 1041 }

/-- [Ljava/lang/Integer; -/
def k15 : Class := { plain "[Ljava/lang/Integer;" (some 0) with kind := .array 8 (.object "java/lang/Integer"), interfaces := #[10, 3], accessFlags := 1041 }

def heap : Heap := #[{ cls := 9, slots := #[.int 0, .int 127, .ref 1, .null, .int 0], vm := .statics 9 },
  { cls := 15, slots := #[.ref 2, .ref 3, .ref 4, .ref 5, .ref 6, .ref 7, .ref 8, .ref 9, .ref 10, .ref 11, .ref 12, .ref 13, .ref 14, .ref 15, .ref 16, .ref 17, .ref 18, .ref 19, .ref 20, .ref 21, .ref 22, .ref 23, .ref 24, .ref 25, .ref 26, .ref 27, .ref 28, .ref 29, .ref 30, .ref 31, .ref 32, .ref 33, .ref 34, .ref 35, .ref 36, .ref 37, .ref 38, .ref 39, .ref 40, .ref 41, .ref 42, .ref 43, .ref 44, .ref 45, .ref 46, .ref 47, .ref 48, .ref 49, .ref 50, .ref 51, .ref 52, .ref 53, .ref 54, .ref 55, .ref 56, .ref 57, .ref 58, .ref 59, .ref 60, .ref 61, .ref 62, .ref 63, .ref 64, .ref 65, .ref 66, .ref 67, .ref 68, .ref 69, .ref 70, .ref 71, .ref 72, .ref 73, .ref 74, .ref 75, .ref 76, .ref 77, .ref 78, .ref 79, .ref 80, .ref 81, .ref 82, .ref 83, .ref 84, .ref 85, .ref 86, .ref 87, .ref 88, .ref 89, .ref 90, .ref 91, .ref 92, .ref 93, .ref 94, .ref 95, .ref 96, .ref 97, .ref 98, .ref 99, .ref 100, .ref 101, .ref 102, .ref 103, .ref 104, .ref 105, .ref 106, .ref 107, .ref 108, .ref 109, .ref 110, .ref 111, .ref 112, .ref 113, .ref 114, .ref 115, .ref 116, .ref 117, .ref 118, .ref 119, .ref 120, .ref 121, .ref 122, .ref 123, .ref 124, .ref 125, .ref 126, .ref 127, .ref 128, .ref 129, .ref 130, .ref 131, .ref 132, .ref 133, .ref 134, .ref 135, .ref 136, .ref 137, .ref 138, .ref 139, .ref 140, .ref 141, .ref 142, .ref 143, .ref 144, .ref 145, .ref 146, .ref 147, .ref 148, .ref 149, .ref 150, .ref 151, .ref 152, .ref 153, .ref 154, .ref 155, .ref 156, .ref 157, .ref 158, .ref 159, .ref 160, .ref 161, .ref 162, .ref 163, .ref 164, .ref 165, .ref 166, .ref 167, .ref 168, .ref 169, .ref 170, .ref 171, .ref 172, .ref 173, .ref 174, .ref 175, .ref 176, .ref 177, .ref 178, .ref 179, .ref 180, .ref 181, .ref 182, .ref 183, .ref 184, .ref 185, .ref 186, .ref 187, .ref 188, .ref 189, .ref 190, .ref 191, .ref 192, .ref 193, .ref 194, .ref 195, .ref 196, .ref 197, .ref 198, .ref 199, .ref 200, .ref 201, .ref 202, .ref 203, .ref 204, .ref 205, .ref 206, .ref 207, .ref 208, .ref 209, .ref 210, .ref 211, .ref 212, .ref 213, .ref 214, .ref 215, .ref 216, .ref 217, .ref 218, .ref 219, .ref 220, .ref 221, .ref 222, .ref 223, .ref 224, .ref 225, .ref 226, .ref 227, .ref 228, .ref 229, .ref 230, .ref 231, .ref 232, .ref 233, .ref 234, .ref 235, .ref 236, .ref 237, .ref 238, .ref 239, .ref 240, .ref 241, .ref 242, .ref 243, .ref 244, .ref 245, .ref 246, .ref 247, .ref 248, .ref 249, .ref 250, .ref 251, .ref 252, .ref 253, .ref 254, .ref 255, .ref 256, .ref 257], vm := .none },
  { cls := 8, slots := #[.int (-128)], vm := .none },
  { cls := 8, slots := #[.int (-127)], vm := .none },
  { cls := 8, slots := #[.int (-126)], vm := .none },
  { cls := 8, slots := #[.int (-125)], vm := .none },
  { cls := 8, slots := #[.int (-124)], vm := .none },
  { cls := 8, slots := #[.int (-123)], vm := .none },
  { cls := 8, slots := #[.int (-122)], vm := .none },
  { cls := 8, slots := #[.int (-121)], vm := .none },
  { cls := 8, slots := #[.int (-120)], vm := .none },
  { cls := 8, slots := #[.int (-119)], vm := .none },
  { cls := 8, slots := #[.int (-118)], vm := .none },
  { cls := 8, slots := #[.int (-117)], vm := .none },
  { cls := 8, slots := #[.int (-116)], vm := .none },
  { cls := 8, slots := #[.int (-115)], vm := .none },
  { cls := 8, slots := #[.int (-114)], vm := .none },
  { cls := 8, slots := #[.int (-113)], vm := .none },
  { cls := 8, slots := #[.int (-112)], vm := .none },
  { cls := 8, slots := #[.int (-111)], vm := .none },
  { cls := 8, slots := #[.int (-110)], vm := .none },
  { cls := 8, slots := #[.int (-109)], vm := .none },
  { cls := 8, slots := #[.int (-108)], vm := .none },
  { cls := 8, slots := #[.int (-107)], vm := .none },
  { cls := 8, slots := #[.int (-106)], vm := .none },
  { cls := 8, slots := #[.int (-105)], vm := .none },
  { cls := 8, slots := #[.int (-104)], vm := .none },
  { cls := 8, slots := #[.int (-103)], vm := .none },
  { cls := 8, slots := #[.int (-102)], vm := .none },
  { cls := 8, slots := #[.int (-101)], vm := .none },
  { cls := 8, slots := #[.int (-100)], vm := .none },
  { cls := 8, slots := #[.int (-99)], vm := .none },
  { cls := 8, slots := #[.int (-98)], vm := .none },
  { cls := 8, slots := #[.int (-97)], vm := .none },
  { cls := 8, slots := #[.int (-96)], vm := .none },
  { cls := 8, slots := #[.int (-95)], vm := .none },
  { cls := 8, slots := #[.int (-94)], vm := .none },
  { cls := 8, slots := #[.int (-93)], vm := .none },
  { cls := 8, slots := #[.int (-92)], vm := .none },
  { cls := 8, slots := #[.int (-91)], vm := .none },
  { cls := 8, slots := #[.int (-90)], vm := .none },
  { cls := 8, slots := #[.int (-89)], vm := .none },
  { cls := 8, slots := #[.int (-88)], vm := .none },
  { cls := 8, slots := #[.int (-87)], vm := .none },
  { cls := 8, slots := #[.int (-86)], vm := .none },
  { cls := 8, slots := #[.int (-85)], vm := .none },
  { cls := 8, slots := #[.int (-84)], vm := .none },
  { cls := 8, slots := #[.int (-83)], vm := .none },
  { cls := 8, slots := #[.int (-82)], vm := .none },
  { cls := 8, slots := #[.int (-81)], vm := .none },
  { cls := 8, slots := #[.int (-80)], vm := .none },
  { cls := 8, slots := #[.int (-79)], vm := .none },
  { cls := 8, slots := #[.int (-78)], vm := .none },
  { cls := 8, slots := #[.int (-77)], vm := .none },
  { cls := 8, slots := #[.int (-76)], vm := .none },
  { cls := 8, slots := #[.int (-75)], vm := .none },
  { cls := 8, slots := #[.int (-74)], vm := .none },
  { cls := 8, slots := #[.int (-73)], vm := .none },
  { cls := 8, slots := #[.int (-72)], vm := .none },
  { cls := 8, slots := #[.int (-71)], vm := .none },
  { cls := 8, slots := #[.int (-70)], vm := .none },
  { cls := 8, slots := #[.int (-69)], vm := .none },
  { cls := 8, slots := #[.int (-68)], vm := .none },
  { cls := 8, slots := #[.int (-67)], vm := .none },
  { cls := 8, slots := #[.int (-66)], vm := .none },
  { cls := 8, slots := #[.int (-65)], vm := .none },
  { cls := 8, slots := #[.int (-64)], vm := .none },
  { cls := 8, slots := #[.int (-63)], vm := .none },
  { cls := 8, slots := #[.int (-62)], vm := .none },
  { cls := 8, slots := #[.int (-61)], vm := .none },
  { cls := 8, slots := #[.int (-60)], vm := .none },
  { cls := 8, slots := #[.int (-59)], vm := .none },
  { cls := 8, slots := #[.int (-58)], vm := .none },
  { cls := 8, slots := #[.int (-57)], vm := .none },
  { cls := 8, slots := #[.int (-56)], vm := .none },
  { cls := 8, slots := #[.int (-55)], vm := .none },
  { cls := 8, slots := #[.int (-54)], vm := .none },
  { cls := 8, slots := #[.int (-53)], vm := .none },
  { cls := 8, slots := #[.int (-52)], vm := .none },
  { cls := 8, slots := #[.int (-51)], vm := .none },
  { cls := 8, slots := #[.int (-50)], vm := .none },
  { cls := 8, slots := #[.int (-49)], vm := .none },
  { cls := 8, slots := #[.int (-48)], vm := .none },
  { cls := 8, slots := #[.int (-47)], vm := .none },
  { cls := 8, slots := #[.int (-46)], vm := .none },
  { cls := 8, slots := #[.int (-45)], vm := .none },
  { cls := 8, slots := #[.int (-44)], vm := .none },
  { cls := 8, slots := #[.int (-43)], vm := .none },
  { cls := 8, slots := #[.int (-42)], vm := .none },
  { cls := 8, slots := #[.int (-41)], vm := .none },
  { cls := 8, slots := #[.int (-40)], vm := .none },
  { cls := 8, slots := #[.int (-39)], vm := .none },
  { cls := 8, slots := #[.int (-38)], vm := .none },
  { cls := 8, slots := #[.int (-37)], vm := .none },
  { cls := 8, slots := #[.int (-36)], vm := .none },
  { cls := 8, slots := #[.int (-35)], vm := .none },
  { cls := 8, slots := #[.int (-34)], vm := .none },
  { cls := 8, slots := #[.int (-33)], vm := .none },
  { cls := 8, slots := #[.int (-32)], vm := .none },
  { cls := 8, slots := #[.int (-31)], vm := .none },
  { cls := 8, slots := #[.int (-30)], vm := .none },
  { cls := 8, slots := #[.int (-29)], vm := .none },
  { cls := 8, slots := #[.int (-28)], vm := .none },
  { cls := 8, slots := #[.int (-27)], vm := .none },
  { cls := 8, slots := #[.int (-26)], vm := .none },
  { cls := 8, slots := #[.int (-25)], vm := .none },
  { cls := 8, slots := #[.int (-24)], vm := .none },
  { cls := 8, slots := #[.int (-23)], vm := .none },
  { cls := 8, slots := #[.int (-22)], vm := .none },
  { cls := 8, slots := #[.int (-21)], vm := .none },
  { cls := 8, slots := #[.int (-20)], vm := .none },
  { cls := 8, slots := #[.int (-19)], vm := .none },
  { cls := 8, slots := #[.int (-18)], vm := .none },
  { cls := 8, slots := #[.int (-17)], vm := .none },
  { cls := 8, slots := #[.int (-16)], vm := .none },
  { cls := 8, slots := #[.int (-15)], vm := .none },
  { cls := 8, slots := #[.int (-14)], vm := .none },
  { cls := 8, slots := #[.int (-13)], vm := .none },
  { cls := 8, slots := #[.int (-12)], vm := .none },
  { cls := 8, slots := #[.int (-11)], vm := .none },
  { cls := 8, slots := #[.int (-10)], vm := .none },
  { cls := 8, slots := #[.int (-9)], vm := .none },
  { cls := 8, slots := #[.int (-8)], vm := .none },
  { cls := 8, slots := #[.int (-7)], vm := .none },
  { cls := 8, slots := #[.int (-6)], vm := .none },
  { cls := 8, slots := #[.int (-5)], vm := .none },
  { cls := 8, slots := #[.int (-4)], vm := .none },
  { cls := 8, slots := #[.int (-3)], vm := .none },
  { cls := 8, slots := #[.int (-2)], vm := .none },
  { cls := 8, slots := #[.int (-1)], vm := .none },
  { cls := 8, slots := #[.int (0)], vm := .none },
  { cls := 8, slots := #[.int (1)], vm := .none },
  { cls := 8, slots := #[.int (2)], vm := .none },
  { cls := 8, slots := #[.int (3)], vm := .none },
  { cls := 8, slots := #[.int (4)], vm := .none },
  { cls := 8, slots := #[.int (5)], vm := .none },
  { cls := 8, slots := #[.int (6)], vm := .none },
  { cls := 8, slots := #[.int (7)], vm := .none },
  { cls := 8, slots := #[.int (8)], vm := .none },
  { cls := 8, slots := #[.int (9)], vm := .none },
  { cls := 8, slots := #[.int (10)], vm := .none },
  { cls := 8, slots := #[.int (11)], vm := .none },
  { cls := 8, slots := #[.int (12)], vm := .none },
  { cls := 8, slots := #[.int (13)], vm := .none },
  { cls := 8, slots := #[.int (14)], vm := .none },
  { cls := 8, slots := #[.int (15)], vm := .none },
  { cls := 8, slots := #[.int (16)], vm := .none },
  { cls := 8, slots := #[.int (17)], vm := .none },
  { cls := 8, slots := #[.int (18)], vm := .none },
  { cls := 8, slots := #[.int (19)], vm := .none },
  { cls := 8, slots := #[.int (20)], vm := .none },
  { cls := 8, slots := #[.int (21)], vm := .none },
  { cls := 8, slots := #[.int (22)], vm := .none },
  { cls := 8, slots := #[.int (23)], vm := .none },
  { cls := 8, slots := #[.int (24)], vm := .none },
  { cls := 8, slots := #[.int (25)], vm := .none },
  { cls := 8, slots := #[.int (26)], vm := .none },
  { cls := 8, slots := #[.int (27)], vm := .none },
  { cls := 8, slots := #[.int (28)], vm := .none },
  { cls := 8, slots := #[.int (29)], vm := .none },
  { cls := 8, slots := #[.int (30)], vm := .none },
  { cls := 8, slots := #[.int (31)], vm := .none },
  { cls := 8, slots := #[.int (32)], vm := .none },
  { cls := 8, slots := #[.int (33)], vm := .none },
  { cls := 8, slots := #[.int (34)], vm := .none },
  { cls := 8, slots := #[.int (35)], vm := .none },
  { cls := 8, slots := #[.int (36)], vm := .none },
  { cls := 8, slots := #[.int (37)], vm := .none },
  { cls := 8, slots := #[.int (38)], vm := .none },
  { cls := 8, slots := #[.int (39)], vm := .none },
  { cls := 8, slots := #[.int (40)], vm := .none },
  { cls := 8, slots := #[.int (41)], vm := .none },
  { cls := 8, slots := #[.int (42)], vm := .none },
  { cls := 8, slots := #[.int (43)], vm := .none },
  { cls := 8, slots := #[.int (44)], vm := .none },
  { cls := 8, slots := #[.int (45)], vm := .none },
  { cls := 8, slots := #[.int (46)], vm := .none },
  { cls := 8, slots := #[.int (47)], vm := .none },
  { cls := 8, slots := #[.int (48)], vm := .none },
  { cls := 8, slots := #[.int (49)], vm := .none },
  { cls := 8, slots := #[.int (50)], vm := .none },
  { cls := 8, slots := #[.int (51)], vm := .none },
  { cls := 8, slots := #[.int (52)], vm := .none },
  { cls := 8, slots := #[.int (53)], vm := .none },
  { cls := 8, slots := #[.int (54)], vm := .none },
  { cls := 8, slots := #[.int (55)], vm := .none },
  { cls := 8, slots := #[.int (56)], vm := .none },
  { cls := 8, slots := #[.int (57)], vm := .none },
  { cls := 8, slots := #[.int (58)], vm := .none },
  { cls := 8, slots := #[.int (59)], vm := .none },
  { cls := 8, slots := #[.int (60)], vm := .none },
  { cls := 8, slots := #[.int (61)], vm := .none },
  { cls := 8, slots := #[.int (62)], vm := .none },
  { cls := 8, slots := #[.int (63)], vm := .none },
  { cls := 8, slots := #[.int (64)], vm := .none },
  { cls := 8, slots := #[.int (65)], vm := .none },
  { cls := 8, slots := #[.int (66)], vm := .none },
  { cls := 8, slots := #[.int (67)], vm := .none },
  { cls := 8, slots := #[.int (68)], vm := .none },
  { cls := 8, slots := #[.int (69)], vm := .none },
  { cls := 8, slots := #[.int (70)], vm := .none },
  { cls := 8, slots := #[.int (71)], vm := .none },
  { cls := 8, slots := #[.int (72)], vm := .none },
  { cls := 8, slots := #[.int (73)], vm := .none },
  { cls := 8, slots := #[.int (74)], vm := .none },
  { cls := 8, slots := #[.int (75)], vm := .none },
  { cls := 8, slots := #[.int (76)], vm := .none },
  { cls := 8, slots := #[.int (77)], vm := .none },
  { cls := 8, slots := #[.int (78)], vm := .none },
  { cls := 8, slots := #[.int (79)], vm := .none },
  { cls := 8, slots := #[.int (80)], vm := .none },
  { cls := 8, slots := #[.int (81)], vm := .none },
  { cls := 8, slots := #[.int (82)], vm := .none },
  { cls := 8, slots := #[.int (83)], vm := .none },
  { cls := 8, slots := #[.int (84)], vm := .none },
  { cls := 8, slots := #[.int (85)], vm := .none },
  { cls := 8, slots := #[.int (86)], vm := .none },
  { cls := 8, slots := #[.int (87)], vm := .none },
  { cls := 8, slots := #[.int (88)], vm := .none },
  { cls := 8, slots := #[.int (89)], vm := .none },
  { cls := 8, slots := #[.int (90)], vm := .none },
  { cls := 8, slots := #[.int (91)], vm := .none },
  { cls := 8, slots := #[.int (92)], vm := .none },
  { cls := 8, slots := #[.int (93)], vm := .none },
  { cls := 8, slots := #[.int (94)], vm := .none },
  { cls := 8, slots := #[.int (95)], vm := .none },
  { cls := 8, slots := #[.int (96)], vm := .none },
  { cls := 8, slots := #[.int (97)], vm := .none },
  { cls := 8, slots := #[.int (98)], vm := .none },
  { cls := 8, slots := #[.int (99)], vm := .none },
  { cls := 8, slots := #[.int (100)], vm := .none },
  { cls := 8, slots := #[.int (101)], vm := .none },
  { cls := 8, slots := #[.int (102)], vm := .none },
  { cls := 8, slots := #[.int (103)], vm := .none },
  { cls := 8, slots := #[.int (104)], vm := .none },
  { cls := 8, slots := #[.int (105)], vm := .none },
  { cls := 8, slots := #[.int (106)], vm := .none },
  { cls := 8, slots := #[.int (107)], vm := .none },
  { cls := 8, slots := #[.int (108)], vm := .none },
  { cls := 8, slots := #[.int (109)], vm := .none },
  { cls := 8, slots := #[.int (110)], vm := .none },
  { cls := 8, slots := #[.int (111)], vm := .none },
  { cls := 8, slots := #[.int (112)], vm := .none },
  { cls := 8, slots := #[.int (113)], vm := .none },
  { cls := 8, slots := #[.int (114)], vm := .none },
  { cls := 8, slots := #[.int (115)], vm := .none },
  { cls := 8, slots := #[.int (116)], vm := .none },
  { cls := 8, slots := #[.int (117)], vm := .none },
  { cls := 8, slots := #[.int (118)], vm := .none },
  { cls := 8, slots := #[.int (119)], vm := .none },
  { cls := 8, slots := #[.int (120)], vm := .none },
  { cls := 8, slots := #[.int (121)], vm := .none },
  { cls := 8, slots := #[.int (122)], vm := .none },
  { cls := 8, slots := #[.int (123)], vm := .none },
  { cls := 8, slots := #[.int (124)], vm := .none },
  { cls := 8, slots := #[.int (125)], vm := .none },
  { cls := 8, slots := #[.int (126)], vm := .none },
  { cls := 8, slots := #[.int (127)], vm := .none }]
def classes : Array Class := #[k0, k1, k2, k3, k4, k5, k6, k7, k8, k9, k10, k11, k12, k13, k14, k15]
def interned : List (Array UInt16 × Addr) := []
def slotsUsed : Nat := 517
def theMethod : MethodId := ⟨1, 1⟩
def args0 : Array Value := #[.int 5, .int 6, .int 7]
def aboutOver (below : List Frame) : State where
  vm := { classes := classes, interned := interned.toArray }
  heap := heap
  slotsUsed := slotsUsed
  threads := #[{ frames := .invoking theMethod args0 :: below }]
def below0 : List Frame := [.native { method := ⟨0, 0⟩, args := #[] }]
def about1 : State := aboutOver below0
def p0 : Program := .bare "" "" ""
def e0 : Env := launch0.env 0 0 0
theorem w_frames : about1.frames = Frame.invoking theMethod args0 :: below0 := rfl
set_option maxRecDepth 65536 in
theorem w_args : argsFit about1.vm theMethod args0 = true := by decide +kernel
set_option maxRecDepth 65536 in
theorem w_heap : heapFits about1 = true := by decide +kernel
set_option maxRecDepth 65536 in
theorem w_runnable : about1.curStatus? = some .runnable := by decide +kernel
set_option maxRecDepth 65536 in
theorem w_alone : about1.alone = true := by decide +kernel
set_option maxRecDepth 65536 in
theorem w_named : about1.methodNamed? x = some theMethod := by decide +kernel
set_option maxRecDepth 65536 in
theorem w_hears : about1.hears theMethod below0 = true := by decide +kernel
set_option maxRecDepth 65536 in
theorem w_ripe : about1.ripe theMethod args0 below0 = true := by decide +kernel
theorem w_running : about1.status = .running := rfl
set_option maxRecDepth 65536 in
theorem w_room : about1.hasRoom e0.platform room_1 = true :=
  launch0.hasRoom_least _ room_1 (by decide +kernel) (by decide +kernel) (by decide +kernel) (by decide +kernel) (by decide +kernel) (by decide +kernel)
theorem allAtoms_all (ts : List Jvm.Cond) (a : Array Jvm.Value) (st : Jvm.State) : (allAtoms ts).before a st = ts.all (fun c => c.before a st) := by
  induction ts with
  | nil => rfl
  | cons c t ih =>
    show (Jvm.Cond.and c (allAtoms t)).before a st = _
    rw [Jvm.Cond.before_and, ih, List.all_cons]
def words1 : List Jvm.Cond := Jvm.Cond.code x code maxLocals ret :: tables_1
/-- a 'code' word, met by the world's own term for the bytes: nothing is compared byte by byte -/
theorem code_word {y : MethodName} {bytes : ByteArray} {mx : Nat} {rt : Option FieldType} {a : Array Value} {s : State} {m : MethodId} {meth : Method} {c : Code} (h1 : s.methodNamed? y = some m) (h2 : s.vm.method? m = some meth) (h3 : meth.code = some c) (h4 : c.code = bytes)
    (h5 : (c.maxLocals == mx && c.exceptionTable.isEmpty && decide (c.maxStack ≤ mostOperands) && decide (meth.sig.returnType = rt) && !meth.locks && decide (parseMethodDescriptor y.desc = some meth.sig)) = true) : (Jvm.Cond.code y bytes mx rt).before a s = true := by
  simp only [Bool.and_eq_true, beq_iff_eq, Bool.not_eq_true', decide_eq_true_eq] at h5
  obtain ⟨⟨⟨⟨⟨g1, g2⟩, g3⟩, g4⟩, g5⟩, g6⟩ := h5
  simp [Cond.before, Cond.holds, Cond.value, h1, h2, h3, h4, g1, g2, g3, g4, g5, g6]
def isCode : Jvm.Cond → Bool
  | .code _ _ _ _ => true
  | _ => false
theorem all_split {L : List Jvm.Cond} {P : Jvm.Cond → Bool} (h1 : L.all (fun c => isCode c || P c) = true) (h2 : ∀ c ∈ L.filter isCode, P c = true) : L.all P = true := by
  refine List.all_eq_true.mpr fun c hc => ?_
  have h := List.all_eq_true.mp h1 c hc
  rcases Bool.eq_false_or_eq_true (isCode c) with hi | hi
  · exact h2 c (List.mem_filter.mpr ⟨hc, hi⟩)
  · simpa [hi] using h
set_option maxRecDepth 65536 in
theorem w_c0 : (Jvm.Cond.code x code maxLocals ret).before args0 about1 = true := code_word (m := ⟨1, 1⟩) (meth := k1m1) (c := k1c1) (by decide +kernel) rfl rfl rfl (by decide +kernel)
set_option maxRecDepth 65536 in
theorem w_c1 : (Jvm.Cond.code ({ cls := "com/example/backrank/backrank/Move", name := "<init>", desc := "(I)V" } : Jvm.MethodName) prog_26_method_1_code (2 : Nat) (Option.none : Option Jvm.ClassFile.FieldType)).before args0 about1 = true := code_word (m := ⟨2, 0⟩) (meth := k2m0) (c := k2c0) (by decide +kernel) rfl rfl rfl (by decide +kernel)
set_option maxRecDepth 65536 in
theorem w_c2 : (Jvm.Cond.code ({ cls := "java/lang/Object", name := "<init>", desc := "()V" } : Jvm.MethodName) object_method_1_code (1 : Nat) (Option.none : Option Jvm.ClassFile.FieldType)).before args0 about1 = true := code_word (m := ⟨0, 0⟩) (meth := k0m0) (c := k0c0) (by decide +kernel) rfl rfl rfl (by decide +kernel)
set_option maxRecDepth 65536 in
theorem w_c3 : (Jvm.Cond.code ({ cls := "java/lang/Integer", name := "valueOf", desc := "(I)Ljava/lang/Integer;" } : Jvm.MethodName) jdk_33_method_22_code (1 : Nat) (Option.some (Jvm.ClassFile.FieldType.object "java/lang/Integer"))).before args0 about1 = true := code_word (m := ⟨8, 0⟩) (meth := k8m0) (c := k8c0) (by decide +kernel) rfl rfl rfl (by decide +kernel)
set_option maxRecDepth 65536 in
theorem w_c4 : (Jvm.Cond.code ({ cls := "com/example/backrank/backrank/Move", name := "equals", desc := "(Ljava/lang/Object;)Z" } : Jvm.MethodName) prog_26_method_3_code (2 : Nat) (Option.some Jvm.ClassFile.FieldType.boolean)).before args0 about1 = true := code_word (m := ⟨2, 1⟩) (meth := k2m1) (c := k2c1) (by decide +kernel) rfl rfl rfl (by decide +kernel)
set_option maxRecDepth 65536 in
theorem w_c5 : (Jvm.Cond.code ({ cls := "java/lang/Integer", name := "<init>", desc := "(I)V" } : Jvm.MethodName) jdk_33_method_23_code (2 : Nat) (Option.none : Option Jvm.ClassFile.FieldType)).before args0 about1 = true := code_word (m := ⟨8, 1⟩) (meth := k8m1) (c := k8c1) (by decide +kernel) rfl rfl rfl (by decide +kernel)
set_option maxRecDepth 65536 in
theorem w_c6 : (Jvm.Cond.code ({ cls := "java/lang/Number", name := "<init>", desc := "()V" } : Jvm.MethodName) jdk_18_method_1_code (1 : Nat) (Option.none : Option Jvm.ClassFile.FieldType)).before args0 about1 = true := code_word (m := ⟨4, 0⟩) (meth := k4m0) (c := k4c0) (by decide +kernel) rfl rfl rfl (by decide +kernel)
def codes1 : List Jvm.Cond := [Jvm.Cond.code x code maxLocals ret, Jvm.Cond.code ({ cls := "com/example/backrank/backrank/Move", name := "<init>", desc := "(I)V" } : Jvm.MethodName) prog_26_method_1_code (2 : Nat) (Option.none : Option Jvm.ClassFile.FieldType), Jvm.Cond.code ({ cls := "java/lang/Object", name := "<init>", desc := "()V" } : Jvm.MethodName) object_method_1_code (1 : Nat) (Option.none : Option Jvm.ClassFile.FieldType), Jvm.Cond.code ({ cls := "java/lang/Integer", name := "valueOf", desc := "(I)Ljava/lang/Integer;" } : Jvm.MethodName) jdk_33_method_22_code (1 : Nat) (Option.some (Jvm.ClassFile.FieldType.object "java/lang/Integer")), Jvm.Cond.code ({ cls := "com/example/backrank/backrank/Move", name := "equals", desc := "(Ljava/lang/Object;)Z" } : Jvm.MethodName) prog_26_method_3_code (2 : Nat) (Option.some Jvm.ClassFile.FieldType.boolean), Jvm.Cond.code ({ cls := "java/lang/Integer", name := "<init>", desc := "(I)V" } : Jvm.MethodName) jdk_33_method_23_code (2 : Nat) (Option.none : Option Jvm.ClassFile.FieldType), Jvm.Cond.code ({ cls := "java/lang/Number", name := "<init>", desc := "()V" } : Jvm.MethodName) jdk_18_method_1_code (1 : Nat) (Option.none : Option Jvm.ClassFile.FieldType)]
set_option maxRecDepth 65536 in
theorem codes_eq : words1.filter isCode = codes1 := rfl
theorem w_codes : ∀ c ∈ words1.filter isCode, c.before args0 about1 = true := by
  rw [codes_eq]
  intro c hc
  simp only [codes1, List.mem_cons, List.not_mem_nil, or_false] at hc
  rcases hc with rfl | rfl | rfl | rfl | rfl | rfl | rfl
  · exact w_c0
  · exact w_c1
  · exact w_c2
  · exact w_c3
  · exact w_c4
  · exact w_c5
  · exact w_c6
set_option maxRecDepth 65536 in
theorem w_t1 : (words1.take 24).all (fun c => isCode c || c.before args0 about1) = true := by decide +kernel
set_option maxRecDepth 65536 in
theorem w_t2 : (words1.drop 24).all (fun c => isCode c || c.before args0 about1) = true := by decide +kernel
theorem w_tables : (allAtoms (Jvm.Cond.code x code maxLocals ret :: tables_1)).before args0 about1 = true := by
  rw [allAtoms_all]
  show words1.all (fun c => c.before args0 about1) = true
  refine all_split ?_ w_codes
  rw [← List.take_append_drop 24 words1, List.all_append, w_t1, w_t2]
  rfl
set_option maxRecDepth 65536 in
theorem w_rest : rest_1_c.before args0 about1 = true := by decide +kernel
set_option maxRecDepth 65536 in
theorem w_case : (Jvm.Cond.and given_1 narrow_1).before args0 about1 = true := by decide +kernel
theorem w_applies : (headSpec (Jvm.Cond.code x code maxLocals ret :: tables_1) room_1).applies x e0.platform about1 = true :=
  (Spec.applies_iff w_frames).mpr ⟨w_running, w_runnable, w_alone, w_named, w_hears, w_ripe, w_room, w_tables⟩
theorem atStart : AtStart classFile x code maxLocals ret World_1 tables_1 room_1 Calls_1 rest_1 Pre_1 launch0 p0 e0 about1 theMethod args0 below0 :=
  ⟨lists_1, trivial, launch0.admits_env _ _ _, launch0.least_env, fairChoices_fair.cas, fairChoices_fair.clock, w_frames, w_args, w_heap, w_applies, trivial, w_rest, w_case⟩
end start1
theorem witness_1 : WitnessClaimed_1 := ⟨start1.p0, start1.e0, start1.about1, start1.theMethod, start1.args0, start1.below0, start1.atStart⟩
end Jvm.Pilot.@@N@@
