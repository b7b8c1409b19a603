import JvmDerived
import JvmDerived.Pilot.@@N@@Statement
import JvmDerived.Pilot.@@N@@Code
set_option linter.unusedVariables false
set_option linter.unusedSimpArgs false
namespace Jvm.RoadKit
open Sem ClassFile Op Lib Jvm.Stand Jvm.Free Jvm.LawKit
section New
variable {p : Program} {l : Launch} {e : Env} {R : Room} {s : State} {m : MethodId} {args : Array Value} {below : List Frame} {meth : Method} {c : Code} {T : State} {locs : List Loc} {cells slots : Nat}
theorem retI (X : Stand p l e R s m args below meth c T locs cells slots) (hx : p.tables.exec = Jvm.exec) {pc : Nat} {Ls : Array Slot} {z : Int32} {rest : List Value} (hret : meth.sig.returnType = some .int) (hd : decode c.code pc = .ok (.ireturn, 1)) {fs : List Frame}
    (hl : ∀ (f : JFrame) (acts : List Action), f.method = m → f.locked = none → f.entered = [] → (doReturn e (T.setTop f) acts (some (.int z))).1 = T.setFrames fs) : Steps p.tables e below (T.setTop (mkF m pc Ls (.int z :: rest))) (T.setFrames fs) := by
  have hm' : T.vm.method? m = some meth := X.method'
  have hn : narrow .int (.int z) = .int z := rfl
  show Steps p.tables e below (T.setTop { method := m, pc := pc, locals := Ls, stack := _ :: rest, locked := none }) _
  jvm_step X.here [X.here.top, hx, hd, hm', hret, hn]
  first | (intro acts; rw [hl _ acts rfl rfl rfl]) | rw [hl _ _ rfl rfl rfl]
  exact Steps.refl _
end New
end Jvm.RoadKit
namespace Jvm.Pilot.@@N@@
open Jvm Jvm.ClassFile Sem Op Lib Jvm.Free Jvm.Stand Jvm.LawKit Jvm.RoadKit Bundle Jvm.Pilot.@@N@@.Jvm.D
/-- from the state A the run comes to the frame f over T -/
abbrev Go (tb : Tables) (e : Env) (below : List Frame) (A T : State) (f : JFrame) : Prop := ∀ t, Steps tb e below (T.setTop f) t → Steps tb e below A t

theorem own_root {Z : State} {a0 : Array Value} {O K : String} {n : Nat} (w : (Jvm.Cond.noSuperclass O).before a0 Z = true) (wk : (Jvm.Cond.instantiable K n).before a0 Z = true) (hn : O ≠ K) : NS Z O K := by
  obtain ⟨c, k, h1, h2, h3, -, -⟩ := Cond.noSuperclass_spec w
  obtain ⟨t, kt, g1, -⟩ := Cond.instantiable_spec wk
  have ne := ids_ne h1 g1 hn
  refine ⟨c, t, h1, g1, fun fuel => ?_⟩
  cases fuel with
  | zero => rfl
  | succ f => simp [Vm.isSubclassAux, ne, h2, h3]
theorem own_no {Z : State} {a0 : Array Value} {C S K : String} {n : Nat} (w : (Jvm.Cond.superclass C S).before a0 Z = true) (wk : (Jvm.Cond.instantiable K n).before a0 Z = true) (N : NS Z C K) (hn : C ≠ K) : ∃ c t, Z.vm.findClass C = some c ∧ Z.vm.findClass K = some t ∧ Z.vm.assignable c t = false := by
  obtain ⟨c, t, h0, g0, n3⟩ := N
  obtain ⟨p, k, kp, h1, h2, h3, h4, h5, -, h7⟩ := Cond.superclass_spec h0 w
  obtain ⟨t', k', g1, g2, g3, g4, -⟩ := Cond.instantiable_spec wk
  cases g0.symm.trans g1
  have g5 : k'.isInterface = false := by simp only [Bool.or_eq_false_iff] at g4; exact g4.1
  have ne := ids_ne h0 g0 hn
  refine ⟨c, t, h0, g0, ?_⟩
  show Z.vm.assignableAux (255 + 1) c t = false
  simp [Vm.assignableAux, ne, h2, g2, h5, g3, g5, Vm.isSubclass, n3]

theorem own_box (p : Int32) (h1 : ¬ p < (-128 : Int32)) (h2 : ¬ (127 : Int32) < p) : ¬ (p + (128 : Int32)) < 0 ∧ (p + (128 : Int32)) < 256 := by
  have a := c_iadd p 128; have r := rng32 p; have r2 := rng32 (p + 128)
  rw [Int32.lt_iff_toInt_lt, show (-128 : Int32).toInt = -128 from rfl] at h1
  rw [Int32.lt_iff_toInt_lt, show (127 : Int32).toInt = 127 from rfl] at h2
  rw [Int32.lt_iff_toInt_lt, Int32.lt_iff_toInt_lt, show (0 : Int32).toInt = 0 from rfl, show (256 : Int32).toInt = 256 from rfl]
  rw [show (128 : Int32).toInt = 128 from rfl] at a
  omega

theorem own_len {args : Array Value} {s : State} {t : Term} {a : Addr} {c : Cell} {ty : FieldType} {z : Int32} (et : t.eval args s none [] s = some (.ref a)) (A : Arr s s.heap a c ty) (h : (Term.length t).eval args s none [] s = some (.int z)) : c.slots.size < 2 ^ 31 ∧ c.slots.size.toInt32 = z := by
  have ha := A.fin (Vm.Alike.refl _)
  by_cases q : c.slots.size < 2 ^ 31
  · have e := len_f et ha q
    exact ⟨q, Value.int.inj (Option.some.inj (e.symm.trans h))⟩
  · simp [Term.eval, et, ha, q] at h
theorem own_sub {args : Array Value} {s : State} {j : Int32} (nn : ¬ j < 0) : (Term.sub (Term.index (0 : Nat)) (Term.int (128 : Int32))).eval args s none [j.toNatClampNeg] s = some (.int (j - (128 : Int32))) := by
  have e := idx_at (args := args) (s := s) (first := s) (o := none) nn
  simp [Term.eval] at e ⊢
  simp [e]

def own_eq (x0 x1 y0 y1 : Int32) : Int32 := if x0 = y0 then (if x1 = y1 then 1 else 0) else 0
theorem pd_0 : parseMethodDescriptor "()V" = some ⟨[], none⟩ := by decide +kernel
theorem pd_1 : parseMethodDescriptor "(I)V" = some ⟨[.int], none⟩ := by decide +kernel
theorem pd_2 : parseMethodDescriptor "(II)V" = some ⟨[.int, .int], none⟩ := by decide +kernel
theorem pd_3 : parseMethodDescriptor "(I)Ljava/lang/Integer;" = some ⟨[.int], some (.object "java/lang/Integer")⟩ := by decide +kernel
theorem pd_4 : parseMethodDescriptor "(Ljava/lang/Object;)Z" = some ⟨[(.object "java/lang/Object")], some .boolean⟩ := by decide +kernel
theorem d2_0 : decode jdk_30_method_1_code 0 = .ok (.aload_n 0, 1) := by decide +kernel
theorem d2_1 : decode jdk_30_method_1_code 1 = .ok (.invokespecial 1, 3) := by decide +kernel
theorem d2_4 : decode jdk_30_method_1_code 4 = .ok (.return_, 1) := by decide +kernel
theorem pn_sup : plainName "java/lang/Record" = true := by first | (simp [plainName, overriddenIn]; done) | decide +kernel
theorem ef_sup (m : MethodId) (a0 : Addr) : entryFrame m #[(.ref a0)] 1 = mkF m 0 #[.val (.ref a0)] [] := by first | (simp [entryFrame, mkF, argsToLocals, Value.category]; done) | rfl
def Q_sup (Z : State) (a0 : Addr) (h0 : Heap) (n0 : Nat) (v : Option Value) (h : Heap) (L : List Loc) : Prop := v = none ∧ Fr n0 L ∧ h = h0
set_option maxRecDepth 65536 in
set_option maxHeartbeats 40000000 in
theorem rm_sup (l : Launch) (Z : State) (av0 : Array Value) (hw : ∀ d ∈ tables_1, d.before av0 Z = true) (ws : List Jvm.Cond) (a0 : Addr) (h0 : Heap) (n0 : Nat) :
    MetFree l (⟨"java/lang/Record", "<init>", "()V"⟩ : MethodName) (head1 (Jvm.Cond.code (⟨"java/lang/Record", "<init>", "()V"⟩ : MethodName) jdk_30_method_1_code 1 none :: ws) ({ frames := 1, cells := 0, slots := 0, locals := 12 } : Room)) (fun a U => a = #[(.ref a0)] ∧ Z.Warmed39 U.vm ∧ U.heap = h0) (fun _ _ _ _ _ => True) (fun _ U o U' => ∃ v L, o = .returned v ∧ Q_sup Z a0 h0 n0 v U'.heap L ∧ FrameEnd U o U' L ({ frames := 1, cells := 0, slots := 0, locals := 12 } : Room).cells ({ frames := 1, cells := 0, slots := 0, locals := 12 } : Room).slots) := by
  refine MetFree.of_bodySF (plainFor_of_name pn_sup) hisR ?_
  intro p e s m args below meth c s₁ Bd hml0 hP hK
  obtain ⟨rfl, hZ, hh⟩ := hP
  have hx := Bd.exec
  have hby := Bd.bytes
  have hml : c.maxLocals = 1 := hml0
  have hown : s.vm.findClass "java/lang/Record" = some m.cls := findClass_of_methodNamed Bd.named
  have hnm := (name_of_methodNamed Bd.named Bd.method).1
  have X0 : Stand p l e ({ frames := 1, cells := 0, slots := 0, locals := 12 } : Room) s m #[(.ref a0)] below meth c s₁ [] 0 0 := Stand.of_body Bd
  have e0 : s₁.heap = h0 := by rw [← hh, Bd.state]; rfl
  have N0 := Fr.nil n0
  have pre0 : Go p.tables e below (s₁.setTop (entryFrame m #[(.ref a0)] 1)) s₁ (mkF m 0 #[.val (.ref a0)] []) := fun t k => castTop (ef_sup m a0) k
  have pre1 : Go p.tables e below (s₁.setTop (entryFrame m #[(.ref a0)] 1)) s₁ (mkF m 1 #[.val (.ref a0)] [(.ref a0)]) := fun t k => pre0 t (by
      refine XS.aloadN X0.here hx rfl (hb hby d2_0) rfl rfl ?_
      exact k)
  obtain ⟨T2, X2, e2, st2⟩ := initO X0 hx hZ hown (hw _ (List.mem_of_getElem? (i := 11) rfl)) (hw _ (List.mem_of_getElem? (i := 12) rfl)) (hw _ (List.mem_of_getElem? (i := 13) rfl)) e0 (g := (mkF m 1 #[.val (.ref a0)] [(.ref a0)])) rfl (by rw [hml]; rfl) rfl (hb hby d2_1) (by decide) (W := 0) (by show 2 * 0 + _ ≤ _; exact Nat.le_of_eq rfl) (by decide)
  have pre2 : Go p.tables e below (s₁.setTop (entryFrame m #[(.ref a0)] 1)) T2 (mkF m 4 #[.val (.ref a0)] []) := fun t k => pre1 t (st2 _ k)
  obtain ⟨fs, hr, hrun, hended, hW, hsame⟩ := X2.leave (v := none) (fun _ => rfl) (BodyLoose.notSynchronized Bd)
  refine ⟨_, _, pre2 _ ?_, hrun, hended, _, _, rfl, ?_, ⟨_, rfl⟩, hW, hsame.mono (Nat.le_of_ble_eq_true rfl) (Nat.le_of_ble_eq_true rfl)⟩
  · exact X2.returnOut hx Bd.returns (hb hby d2_4) hr
  · show Q_sup Z a0 h0 n0 _ T2.heap _
    rw [e2]
    exact ⟨rfl, N0, rfl⟩
theorem d1_0 : decode prog_65_method_1_code 0 = .ok (.aload_n 0, 1) := by decide +kernel
theorem d1_1 : decode prog_65_method_1_code 1 = .ok (.invokespecial 1, 3) := by decide +kernel
theorem d1_4 : decode prog_65_method_1_code 4 = .ok (.aload_n 0, 1) := by decide +kernel
theorem d1_5 : decode prog_65_method_1_code 5 = .ok (.iload_n 1, 1) := by decide +kernel
theorem d1_6 : decode prog_65_method_1_code 6 = .ok (.putfield 7, 3) := by decide +kernel
theorem d1_9 : decode prog_65_method_1_code 9 = .ok (.aload_n 0, 1) := by decide +kernel
theorem d1_10 : decode prog_65_method_1_code 10 = .ok (.iload_n 2, 1) := by decide +kernel
theorem d1_11 : decode prog_65_method_1_code 11 = .ok (.putfield 13, 3) := by decide +kernel
theorem d1_14 : decode prog_65_method_1_code 14 = .ok (.return_, 1) := by decide +kernel
theorem pn_ini : plainName "com/example/bracketeer/bracketeer/construction/Pair" = true := by first | (simp [plainName, overriddenIn]; done) | decide +kernel
theorem ef_ini (m : MethodId) (a0 : Addr) (p1 : Int32) (p2 : Int32) : entryFrame m #[(.ref a0), (.int p1), (.int p2)] 3 = mkF m 0 #[.val (.ref a0), .val (.int p1), .val (.int p2)] [] := by first | (simp [entryFrame, mkF, argsToLocals, Value.category]; done) | rfl
def Q_ini (Z : State) (a0 : Addr) (p1 : Int32) (p2 : Int32) (h0 : Heap) (n0 : Nat) (v : Option Value) (h : Heap) (L : List Loc) : Prop := v = none ∧ Fr n0 L ∧ Keep h0 h [a0] ∧ Exa Z h a0 "com/example/bracketeer/bracketeer/construction/Pair" ∧ Fld Z h a0 "com/example/bracketeer/bracketeer/construction/Pair" "first" "I" (.int p1) ∧ Fld Z h a0 "com/example/bracketeer/bracketeer/construction/Pair" "second" "I" (.int p2)
set_option maxRecDepth 65536 in
set_option maxHeartbeats 40000000 in
theorem rm_ini (l : Launch) (Z : State) (av0 : Array Value) (hw : ∀ d ∈ tables_1, d.before av0 Z = true) (ws : List Jvm.Cond) (a0 : Addr) (p1 : Int32) (p2 : Int32) (h0 : Heap) (n0 : Nat) (Z0 : n0 ≤ h0.size) (F0 : Fld Z h0 a0 "com/example/bracketeer/bracketeer/construction/Pair" "first" "I" (.int (0 : Int32))) (F1 : Fld Z h0 a0 "com/example/bracketeer/bracketeer/construction/Pair" "second" "I" (.int (0 : Int32))) (E0 : Exa Z h0 a0 "com/example/bracketeer/bracketeer/construction/Pair") (g0 : n0 ≤ a0) :
    MetFree l (⟨"com/example/bracketeer/bracketeer/construction/Pair", "<init>", "(II)V"⟩ : MethodName) (head1 (Jvm.Cond.code (⟨"com/example/bracketeer/bracketeer/construction/Pair", "<init>", "(II)V"⟩ : MethodName) prog_65_method_1_code 3 none :: ws) ({ frames := 2, cells := 0, slots := 0, locals := 24 } : Room)) (fun a U => a = #[(.ref a0), (.int p1), (.int p2)] ∧ Z.Warmed39 U.vm ∧ U.heap = h0) (fun _ _ _ _ _ => True) (fun _ U o U' => ∃ v L, o = .returned v ∧ Q_ini Z a0 p1 p2 h0 n0 v U'.heap L ∧ FrameEnd U o U' L ({ frames := 2, cells := 0, slots := 0, locals := 24 } : Room).cells ({ frames := 2, cells := 0, slots := 0, locals := 24 } : Room).slots) := by
  refine MetFree.of_bodySF (plainFor_of_name pn_ini) hisR ?_
  intro p e s m args below meth c s₁ Bd hml0 hP hK
  obtain ⟨rfl, hZ, hh⟩ := hP
  have hx := Bd.exec
  have hby := Bd.bytes
  have hml : c.maxLocals = 3 := hml0
  have hown : s.vm.findClass "com/example/bracketeer/bracketeer/construction/Pair" = some m.cls := findClass_of_methodNamed Bd.named
  have hnm := (name_of_methodNamed Bd.named Bd.method).1
  have X0 : Stand p l e ({ frames := 2, cells := 0, slots := 0, locals := 24 } : Room) s m #[(.ref a0), (.int p1), (.int p2)] below meth c s₁ [] 0 0 := Stand.of_body Bd
  have e0 : s₁.heap = h0 := by rw [← hh, Bd.state]; rfl
  have N0 := Fr.nil n0
  have pre0 : Go p.tables e below (s₁.setTop (entryFrame m #[(.ref a0), (.int p1), (.int p2)] 3)) s₁ (mkF m 0 #[.val (.ref a0), .val (.int p1), .val (.int p2)] []) := fun t k => castTop (ef_ini m a0 p1 p2) k
  have K0 : Keep h0 h0 [a0] := Keep.refl _ _
  have pre1 : Go p.tables e below (s₁.setTop (entryFrame m #[(.ref a0), (.int p1), (.int p2)] 3)) s₁ (mkF m 1 #[.val (.ref a0), .val (.int p1), .val (.int p2)] [(.ref a0)]) := fun t k => pre0 t (by
      refine XS.aloadN X0.here hx rfl (hb hby d1_0) rfl rfl ?_
      exact k)
  obtain ⟨_, _, ⟨T2, L2, k2, n2⟩, -, X2, ⟨Lc2, hQ2, l2, y2, z2⟩, st2⟩ := X0.specialBack hx (y := (⟨"java/lang/Record", "<init>", "()V"⟩ : MethodName)) rfl hown (mvT hZ (hw _ (List.mem_of_getElem? (i := 6) rfl))) (mvT hZ (hw _ (List.mem_of_getElem? (i := 7) rfl))) (mvT hZ (hw _ (List.mem_of_getElem? (i := 10) rfl))) (by decide) (backOf (W := 0) (rm_sup l Z av0 hw [] a0 h0 n0) hZ (hw _ (List.mem_of_getElem? (i := 10) rfl)) (hw _ (List.mem_of_getElem? (i := 9) rfl)) (by decide) (by decide)) (g := (mkF m 1 #[.val (.ref a0), .val (.int p1), .val (.int p2)] [(.ref a0)])) rfl (by rw [hml]; rfl) (Steps.refl _) (a := a0) (argsL := []) (rest := []) (lenOf pd_0 rfl) rfl (by show 2 * 0 + _ ≤ _; exact Nat.le_of_eq rfl) (hb hby d1_1) (fun _ _ => ⟨rfl, e0, (by decide : 0 + 0 ≤ _), (by decide : 0 + 0 ≤ _)⟩)
  dsimp only [Pt.U, Pt.locs, Pt.cells, Pt.slots] at X2 l2 y2 z2 st2 hQ2
  subst l2 y2 z2
  obtain ⟨rfl, N2q, e2⟩ := hQ2
  have N2 := Fr.app N0 N2q
  have pre2 : Go p.tables e below (s₁.setTop (entryFrame m #[(.ref a0), (.int p1), (.int p2)] 3)) T2 (mkF m 4 #[.val (.ref a0), .val (.int p1), .val (.int p2)] []) := fun t k => pre1 t (st2.trans k)
  have pre3 : Go p.tables e below (s₁.setTop (entryFrame m #[(.ref a0), (.int p1), (.int p2)] 3)) T2 (mkF m 6 #[.val (.ref a0), .val (.int p1), .val (.int p2)] [(.int p1), (.ref a0)]) := fun t k => pre2 t (by
      refine XS.aloadN X2.here hx rfl (hb hby d1_4) rfl rfl ?_
      show Steps p.tables e below (T2.setTop (mkF m 5 #[.val (.ref a0), .val (.int p1), .val (.int p2)] [(.ref a0)])) _
      refine XS.iloadN X2.here hx rfl (hb hby d1_5) rfl ?_
      exact k)
  obtain ⟨T4, h4, X4, e4, W4, st4⟩ := putF X2 hx hZ hown (host := "") (Or.inl (hw _ (List.mem_of_getElem? (i := 14) rfl))) Via.refl e2 F0 E0 (Or.inr ⟨(hw _ (List.mem_of_getElem? (i := 15) rfl)), rfl, hnm⟩) (hw _ (List.mem_of_getElem? (i := 1) rfl)) (ty := .int) (by decide) rfl rfl (g := (mkF m 6 #[.val (.ref a0), .val (.int p1), .val (.int p2)] [(.int p1), (.ref a0)])) rfl rfl (hb hby d1_6)
  have N4 := Fr.snoc X4 N2 g0
  have f5 : n0 ≤ h4.size := Nat.le_trans Z0 (Keep.of_wr W4).1
  have f6 : Exa Z h4 a0 "com/example/bracketeer/bracketeer/construction/Pair" := E0.wr W4
  have f7 : Fld Z h4 a0 "com/example/bracketeer/bracketeer/construction/Pair" "first" "I" (.int p1) := F0.same W4
  have f8 : Fld Z h4 a0 "com/example/bracketeer/bracketeer/construction/Pair" "second" "I" (.int (0 : Int32)) := F1.other W4 (Or.inr (slot_ne (Or.inr (hw _ (List.mem_of_getElem? (i := 17) rfl))) (Or.inr (hw _ (List.mem_of_getElem? (i := 15) rfl))) (by decide) (t := .int) (t' := .int) (by decide) (by decide)))
  have f9 : Keep h0 h4 [a0] := K0.wr W4 (Or.inl (List.mem_of_getElem? (i := 0) rfl))
  have pre4 : Go p.tables e below (s₁.setTop (entryFrame m #[(.ref a0), (.int p1), (.int p2)] 3)) T4 (mkF m 9 #[.val (.ref a0), .val (.int p1), .val (.int p2)] []) := fun t k => pre3 t (st4 _ k)
  have pre10 : Go p.tables e below (s₁.setTop (entryFrame m #[(.ref a0), (.int p1), (.int p2)] 3)) T4 (mkF m 11 #[.val (.ref a0), .val (.int p1), .val (.int p2)] [(.int p2), (.ref a0)]) := fun t k => pre4 t (by
      refine XS.aloadN X4.here hx rfl (hb hby d1_9) rfl rfl ?_
      show Steps p.tables e below (T4.setTop (mkF m 10 #[.val (.ref a0), .val (.int p1), .val (.int p2)] [(.ref a0)])) _
      refine XS.iloadN X4.here hx rfl (hb hby d1_10) rfl ?_
      exact k)
  obtain ⟨T11, h11, X11, e11, W11, st11⟩ := putF X4 hx hZ hown (host := "") (Or.inl (hw _ (List.mem_of_getElem? (i := 16) rfl))) Via.refl e4 f8 f6 (Or.inr ⟨(hw _ (List.mem_of_getElem? (i := 17) rfl)), rfl, hnm⟩) (hw _ (List.mem_of_getElem? (i := 1) rfl)) (ty := .int) (by decide) rfl rfl (g := (mkF m 11 #[.val (.ref a0), .val (.int p1), .val (.int p2)] [(.int p2), (.ref a0)])) rfl rfl (hb hby d1_11)
  have N11 := Fr.snoc X11 N4 g0
  have f12 : n0 ≤ h11.size := Nat.le_trans f5 (Keep.of_wr W11).1
  have f13 : Exa Z h11 a0 "com/example/bracketeer/bracketeer/construction/Pair" := f6.wr W11
  have f14 : Fld Z h11 a0 "com/example/bracketeer/bracketeer/construction/Pair" "first" "I" (.int p1) := f7.other W11 (Or.inr (slot_ne (Or.inr (hw _ (List.mem_of_getElem? (i := 15) rfl))) (Or.inr (hw _ (List.mem_of_getElem? (i := 17) rfl))) (by decide) (t := .int) (t' := .int) (by decide) (by decide)))
  have f15 : Fld Z h11 a0 "com/example/bracketeer/bracketeer/construction/Pair" "second" "I" (.int p2) := f8.same W11
  have f16 : Keep h0 h11 [a0] := f9.wr W11 (Or.inl (List.mem_of_getElem? (i := 0) rfl))
  have pre11 : Go p.tables e below (s₁.setTop (entryFrame m #[(.ref a0), (.int p1), (.int p2)] 3)) T11 (mkF m 14 #[.val (.ref a0), .val (.int p1), .val (.int p2)] []) := fun t k => pre10 t (st11 _ k)
  obtain ⟨fs, hr, hrun, hended, hW, hsame⟩ := X11.leave (v := none) (fun _ => rfl) (BodyLoose.notSynchronized Bd)
  refine ⟨_, _, pre11 _ ?_, hrun, hended, _, _, rfl, ?_, ⟨_, rfl⟩, hW, hsame.mono (Nat.le_of_ble_eq_true rfl) (Nat.le_of_ble_eq_true rfl)⟩
  · exact X11.returnOut hx Bd.returns (hb hby d1_14) hr
  · show Q_ini Z a0 p1 p2 h0 n0 _ T11.heap _
    rw [e11]
    exact ⟨rfl, N11, f16, f13, f14, f15⟩
theorem d7_0 : decode jdk_18_method_1_code 0 = .ok (.aload_n 0, 1) := by decide +kernel
theorem d7_1 : decode jdk_18_method_1_code 1 = .ok (.invokespecial 1, 3) := by decide +kernel
theorem d7_4 : decode jdk_18_method_1_code 4 = .ok (.return_, 1) := by decide +kernel
theorem pn_num : plainName "java/lang/Number" = true := by first | (simp [plainName, overriddenIn]; done) | decide +kernel
theorem ef_num (m : MethodId) (a0 : Addr) : entryFrame m #[(.ref a0)] 1 = mkF m 0 #[.val (.ref a0)] [] := by first | (simp [entryFrame, mkF, argsToLocals, Value.category]; done) | rfl
def Q_num (Z : State) (a0 : Addr) (h0 : Heap) (n0 : Nat) (v : Option Value) (h : Heap) (L : List Loc) : Prop := v = none ∧ Fr n0 L ∧ h = h0
set_option maxRecDepth 65536 in
set_option maxHeartbeats 40000000 in
theorem rm_num (l : Launch) (Z : State) (av0 : Array Value) (hw : ∀ d ∈ tables_1, d.before av0 Z = true) (ws : List Jvm.Cond) (a0 : Addr) (h0 : Heap) (n0 : Nat) :
    MetFree l (⟨"java/lang/Number", "<init>", "()V"⟩ : MethodName) (head1 (Jvm.Cond.code (⟨"java/lang/Number", "<init>", "()V"⟩ : MethodName) jdk_18_method_1_code 1 none :: ws) ({ frames := 1, cells := 0, slots := 0, locals := 12 } : Room)) (fun a U => a = #[(.ref a0)] ∧ Z.Warmed39 U.vm ∧ U.heap = h0) (fun _ _ _ _ _ => True) (fun _ U o U' => ∃ v L, o = .returned v ∧ Q_num Z a0 h0 n0 v U'.heap L ∧ FrameEnd U o U' L ({ frames := 1, cells := 0, slots := 0, locals := 12 } : Room).cells ({ frames := 1, cells := 0, slots := 0, locals := 12 } : Room).slots) := by
  refine MetFree.of_bodySF (plainFor_of_name pn_num) hisR ?_
  intro p e s m args below meth c s₁ Bd hml0 hP hK
  obtain ⟨rfl, hZ, hh⟩ := hP
  have hx := Bd.exec
  have hby := Bd.bytes
  have hml : c.maxLocals = 1 := hml0
  have hown : s.vm.findClass "java/lang/Number" = some m.cls := findClass_of_methodNamed Bd.named
  have hnm := (name_of_methodNamed Bd.named Bd.method).1
  have X0 : Stand p l e ({ frames := 1, cells := 0, slots := 0, locals := 12 } : Room) s m #[(.ref a0)] below meth c s₁ [] 0 0 := Stand.of_body Bd
  have e0 : s₁.heap = h0 := by rw [← hh, Bd.state]; rfl
  have N0 := Fr.nil n0
  have pre0 : Go p.tables e below (s₁.setTop (entryFrame m #[(.ref a0)] 1)) s₁ (mkF m 0 #[.val (.ref a0)] []) := fun t k => castTop (ef_num m a0) k
  have pre1 : Go p.tables e below (s₁.setTop (entryFrame m #[(.ref a0)] 1)) s₁ (mkF m 1 #[.val (.ref a0)] [(.ref a0)]) := fun t k => pre0 t (by
      refine XS.aloadN X0.here hx rfl (hb hby d7_0) rfl rfl ?_
      exact k)
  obtain ⟨T2, X2, e2, st2⟩ := initO X0 hx hZ hown (hw _ (List.mem_of_getElem? (i := 47) rfl)) (hw _ (List.mem_of_getElem? (i := 12) rfl)) (hw _ (List.mem_of_getElem? (i := 13) rfl)) e0 (g := (mkF m 1 #[.val (.ref a0)] [(.ref a0)])) rfl (by rw [hml]; rfl) rfl (hb hby d7_1) (by decide) (W := 0) (by show 2 * 0 + _ ≤ _; exact Nat.le_of_eq rfl) (by decide)
  have pre2 : Go p.tables e below (s₁.setTop (entryFrame m #[(.ref a0)] 1)) T2 (mkF m 4 #[.val (.ref a0)] []) := fun t k => pre1 t (st2 _ k)
  obtain ⟨fs, hr, hrun, hended, hW, hsame⟩ := X2.leave (v := none) (fun _ => rfl) (BodyLoose.notSynchronized Bd)
  refine ⟨_, _, pre2 _ ?_, hrun, hended, _, _, rfl, ?_, ⟨_, rfl⟩, hW, hsame.mono (Nat.le_of_ble_eq_true rfl) (Nat.le_of_ble_eq_true rfl)⟩
  · exact X2.returnOut hx Bd.returns (hb hby d7_4) hr
  · show Q_num Z a0 h0 n0 _ T2.heap _
    rw [e2]
    exact ⟨rfl, N0, rfl⟩
theorem d6_0 : decode jdk_33_method_23_code 0 = .ok (.aload_n 0, 1) := by decide +kernel
theorem d6_1 : decode jdk_33_method_23_code 1 = .ok (.invokespecial 202, 3) := by decide +kernel
theorem d6_4 : decode jdk_33_method_23_code 4 = .ok (.aload_n 0, 1) := by decide +kernel
theorem d6_5 : decode jdk_33_method_23_code 5 = .ok (.iload_n 1, 1) := by decide +kernel
theorem d6_6 : decode jdk_33_method_23_code 6 = .ok (.putfield 205, 3) := by decide +kernel
theorem d6_9 : decode jdk_33_method_23_code 9 = .ok (.return_, 1) := by decide +kernel
theorem pn_ini_int : plainName "java/lang/Integer" = true := by first | (simp [plainName, overriddenIn]; done) | decide +kernel
theorem ef_ini_int (m : MethodId) (a0 : Addr) (p1 : Int32) : entryFrame m #[(.ref a0), (.int p1)] 2 = mkF m 0 #[.val (.ref a0), .val (.int p1)] [] := by first | (simp [entryFrame, mkF, argsToLocals, Value.category]; done) | rfl
def Q_ini_int (Z : State) (a0 : Addr) (p1 : Int32) (h0 : Heap) (n0 : Nat) (v : Option Value) (h : Heap) (L : List Loc) : Prop := v = none ∧ Fr n0 L ∧ Keep h0 h [a0] ∧ Exa Z h a0 "java/lang/Integer" ∧ Fld Z h a0 "java/lang/Integer" "value" "I" (.int p1)
set_option maxRecDepth 65536 in
set_option maxHeartbeats 40000000 in
theorem rm_ini_int (l : Launch) (Z : State) (av0 : Array Value) (hw : ∀ d ∈ tables_1, d.before av0 Z = true) (ws : List Jvm.Cond) (a0 : Addr) (p1 : Int32) (h0 : Heap) (n0 : Nat) (Z0 : n0 ≤ h0.size) (F0 : Fld Z h0 a0 "java/lang/Integer" "value" "I" (.int (0 : Int32))) (E0 : Exa Z h0 a0 "java/lang/Integer") (g0 : n0 ≤ a0) :
    MetFree l (⟨"java/lang/Integer", "<init>", "(I)V"⟩ : MethodName) (head1 (Jvm.Cond.code (⟨"java/lang/Integer", "<init>", "(I)V"⟩ : MethodName) jdk_33_method_23_code 2 none :: ws) ({ frames := 2, cells := 0, slots := 0, locals := 24 } : Room)) (fun a U => a = #[(.ref a0), (.int p1)] ∧ Z.Warmed39 U.vm ∧ U.heap = h0) (fun _ _ _ _ _ => True) (fun _ U o U' => ∃ v L, o = .returned v ∧ Q_ini_int Z a0 p1 h0 n0 v U'.heap L ∧ FrameEnd U o U' L ({ frames := 2, cells := 0, slots := 0, locals := 24 } : Room).cells ({ frames := 2, cells := 0, slots := 0, locals := 24 } : Room).slots) := by
  refine MetFree.of_bodySF (plainFor_of_name pn_ini_int) hisR ?_
  intro p e s m args below meth c s₁ Bd hml0 hP hK
  obtain ⟨rfl, hZ, hh⟩ := hP
  have hx := Bd.exec
  have hby := Bd.bytes
  have hml : c.maxLocals = 2 := hml0
  have hown : s.vm.findClass "java/lang/Integer" = some m.cls := findClass_of_methodNamed Bd.named
  have hnm := (name_of_methodNamed Bd.named Bd.method).1
  have X0 : Stand p l e ({ frames := 2, cells := 0, slots := 0, locals := 24 } : Room) s m #[(.ref a0), (.int p1)] below meth c s₁ [] 0 0 := Stand.of_body Bd
  have e0 : s₁.heap = h0 := by rw [← hh, Bd.state]; rfl
  have N0 := Fr.nil n0
  have pre0 : Go p.tables e below (s₁.setTop (entryFrame m #[(.ref a0), (.int p1)] 2)) s₁ (mkF m 0 #[.val (.ref a0), .val (.int p1)] []) := fun t k => castTop (ef_ini_int m a0 p1) k
  have K0 : Keep h0 h0 [a0] := Keep.refl _ _
  have pre1 : Go p.tables e below (s₁.setTop (entryFrame m #[(.ref a0), (.int p1)] 2)) s₁ (mkF m 1 #[.val (.ref a0), .val (.int p1)] [(.ref a0)]) := fun t k => pre0 t (by
      refine XS.aloadN X0.here hx rfl (hb hby d6_0) rfl rfl ?_
      exact k)
  obtain ⟨_, _, ⟨T2, L2, k2, n2⟩, -, X2, ⟨Lc2, hQ2, l2, y2, z2⟩, st2⟩ := X0.specialBack hx (y := (⟨"java/lang/Number", "<init>", "()V"⟩ : MethodName)) rfl hown (mvT hZ (hw _ (List.mem_of_getElem? (i := 41) rfl))) (mvT hZ (hw _ (List.mem_of_getElem? (i := 42) rfl))) (mvT hZ (hw _ (List.mem_of_getElem? (i := 46) rfl))) (by decide) (backOf (W := 0) (rm_num l Z av0 hw [] a0 h0 n0) hZ (hw _ (List.mem_of_getElem? (i := 46) rfl)) (hw _ (List.mem_of_getElem? (i := 45) rfl)) (by decide) (by decide)) (g := (mkF m 1 #[.val (.ref a0), .val (.int p1)] [(.ref a0)])) rfl (by rw [hml]; rfl) (Steps.refl _) (a := a0) (argsL := []) (rest := []) (lenOf pd_0 rfl) rfl (by show 2 * 0 + _ ≤ _; exact Nat.le_of_eq rfl) (hb hby d6_1) (fun _ _ => ⟨rfl, e0, (by decide : 0 + 0 ≤ _), (by decide : 0 + 0 ≤ _)⟩)
  dsimp only [Pt.U, Pt.locs, Pt.cells, Pt.slots] at X2 l2 y2 z2 st2 hQ2
  subst l2 y2 z2
  obtain ⟨rfl, N2q, e2⟩ := hQ2
  have N2 := Fr.app N0 N2q
  have pre2 : Go p.tables e below (s₁.setTop (entryFrame m #[(.ref a0), (.int p1)] 2)) T2 (mkF m 4 #[.val (.ref a0), .val (.int p1)] []) := fun t k => pre1 t (st2.trans k)
  have pre3 : Go p.tables e below (s₁.setTop (entryFrame m #[(.ref a0), (.int p1)] 2)) T2 (mkF m 6 #[.val (.ref a0), .val (.int p1)] [(.int p1), (.ref a0)]) := fun t k => pre2 t (by
      refine XS.aloadN X2.here hx rfl (hb hby d6_4) rfl rfl ?_
      show Steps p.tables e below (T2.setTop (mkF m 5 #[.val (.ref a0), .val (.int p1)] [(.ref a0)])) _
      refine XS.iloadN X2.here hx rfl (hb hby d6_5) rfl ?_
      exact k)
  obtain ⟨T4, h4, X4, e4, W4, st4⟩ := putF X2 hx hZ hown (host := "") (Or.inl (hw _ (List.mem_of_getElem? (i := 48) rfl))) Via.refl e2 F0 E0 (Or.inr ⟨(hw _ (List.mem_of_getElem? (i := 49) rfl)), rfl, hnm⟩) (hw _ (List.mem_of_getElem? (i := 36) rfl)) (ty := .int) (by decide) rfl rfl (g := (mkF m 6 #[.val (.ref a0), .val (.int p1)] [(.int p1), (.ref a0)])) rfl rfl (hb hby d6_6)
  have N4 := Fr.snoc X4 N2 g0
  have f5 : n0 ≤ h4.size := Nat.le_trans Z0 (Keep.of_wr W4).1
  have f6 : Exa Z h4 a0 "java/lang/Integer" := E0.wr W4
  have f7 : Fld Z h4 a0 "java/lang/Integer" "value" "I" (.int p1) := F0.same W4
  have f8 : Keep h0 h4 [a0] := K0.wr W4 (Or.inl (List.mem_of_getElem? (i := 0) rfl))
  have pre4 : Go p.tables e below (s₁.setTop (entryFrame m #[(.ref a0), (.int p1)] 2)) T4 (mkF m 9 #[.val (.ref a0), .val (.int p1)] []) := fun t k => pre3 t (st4 _ k)
  obtain ⟨fs, hr, hrun, hended, hW, hsame⟩ := X4.leave (v := none) (fun _ => rfl) (BodyLoose.notSynchronized Bd)
  refine ⟨_, _, pre4 _ ?_, hrun, hended, _, _, rfl, ?_, ⟨_, rfl⟩, hW, hsame.mono (Nat.le_of_ble_eq_true rfl) (Nat.le_of_ble_eq_true rfl)⟩
  · exact X4.returnOut hx Bd.returns (hb hby d6_9) hr
  · show Q_ini_int Z a0 p1 h0 n0 _ T4.heap _
    rw [e4]
    exact ⟨rfl, N4, f8, f6, f7⟩
theorem d4_0 : decode jdk_33_method_22_code 0 = .ok (.iload_n 0, 1) := by decide +kernel
theorem d4_1 : decode jdk_33_method_22_code 1 = .ok (.bipush (-128), 2) := by decide +kernel
theorem d4_3 : decode jdk_33_method_22_code 3 = .ok (.if_icmp .lt 20, 3) := by decide +kernel
theorem d4_6 : decode jdk_33_method_22_code 6 = .ok (.iload_n 0, 1) := by decide +kernel
theorem d4_7 : decode jdk_33_method_22_code 7 = .ok (.getstatic 191, 3) := by decide +kernel
theorem d4_10 : decode jdk_33_method_22_code 10 = .ok (.if_icmp .gt 13, 3) := by decide +kernel
theorem d4_13 : decode jdk_33_method_22_code 13 = .ok (.getstatic 195, 3) := by decide +kernel
theorem d4_16 : decode jdk_33_method_22_code 16 = .ok (.iload_n 0, 1) := by decide +kernel
theorem d4_17 : decode jdk_33_method_22_code 17 = .ok (.sipush 128, 3) := by decide +kernel
theorem d4_20 : decode jdk_33_method_22_code 20 = .ok (.iadd, 1) := by decide +kernel
theorem d4_21 : decode jdk_33_method_22_code 21 = .ok (.aaload, 1) := by decide +kernel
theorem d4_22 : decode jdk_33_method_22_code 22 = .ok (.areturn, 1) := by decide +kernel
theorem d4_23 : decode jdk_33_method_22_code 23 = .ok (.new 1, 3) := by decide +kernel
theorem d4_26 : decode jdk_33_method_22_code 26 = .ok (.dup, 1) := by decide +kernel
theorem d4_27 : decode jdk_33_method_22_code 27 = .ok (.iload_n 0, 1) := by decide +kernel
theorem d4_28 : decode jdk_33_method_22_code 28 = .ok (.invokespecial 199, 3) := by decide +kernel
theorem d4_31 : decode jdk_33_method_22_code 31 = .ok (.areturn, 1) := by decide +kernel
theorem pn_box : plainName "java/lang/Integer" = true := by first | (simp [plainName, overriddenIn]; done) | decide +kernel
theorem ef_box (m : MethodId) (p0 : Int32) : entryFrame m #[(.int p0)] 1 = mkF m 0 #[.val (.int p0)] [] := by first | (simp [entryFrame, mkF, argsToLocals, Value.category]; done) | rfl
def Q_box (Z : State) (p0 : Int32) (ab : Addr) (cb : Cell) (vb : Int32 → Value) (h0 : Heap) (n0 : Nat) (v : Option Value) (h : Heap) (L : List Loc) : Prop := ∃ b, v = some (.ref b) ∧ Fr n0 L ∧ Keep h0 h [] ∧ Exa Z h b "java/lang/Integer"
set_option maxRecDepth 65536 in
set_option maxHeartbeats 40000000 in
theorem rm_box (l : Launch) (Z : State) (av0 : Array Value) (hw : ∀ d ∈ tables_1, d.before av0 Z = true) (ws : List Jvm.Cond) (p0 : Int32) (ab : Addr) (cb : Cell) (vb : Int32 → Value) (h0 : Heap) (n0 : Nat) (Z0 : n0 ≤ h0.size) (O0 : Old Z n0 h0) (S_high : Sta Z Z.heap "java/lang/Integer$IntegerCache" "high" "I" (.int (127 : Int32))) (S_cache : Sta Z Z.heap "java/lang/Integer$IntegerCache" "cache" "[Ljava/lang/Integer;" (.ref ab)) (Bx : Bxs Z ab cb "java/lang/Integer" "I" (256 : Int32) vb) :
    MetFree l (⟨"java/lang/Integer", "valueOf", "(I)Ljava/lang/Integer;"⟩ : MethodName) (head1 (Jvm.Cond.code (⟨"java/lang/Integer", "valueOf", "(I)Ljava/lang/Integer;"⟩ : MethodName) jdk_33_method_22_code 1 (some (.object "java/lang/Integer")) :: ws) ({ frames := 3, cells := 1, slots := 1, locals := 38 } : Room)) (fun a U => a = #[(.int p0)] ∧ Z.Warmed39 U.vm ∧ U.heap = h0) (fun _ _ _ _ _ => True) (fun _ U o U' => ∃ v L, o = .returned v ∧ Q_box Z p0 ab cb vb h0 n0 v U'.heap L ∧ FrameEnd U o U' L ({ frames := 3, cells := 1, slots := 1, locals := 38 } : Room).cells ({ frames := 3, cells := 1, slots := 1, locals := 38 } : Room).slots) := by
  refine MetFree.of_bodySF (plainFor_of_name pn_box) hisR ?_
  intro p e s m args below meth c s₁ Bd hml0 hP hK
  obtain ⟨rfl, hZ, hh⟩ := hP
  have hx := Bd.exec
  have hby := Bd.bytes
  have hml : c.maxLocals = 1 := hml0
  have hown : s.vm.findClass "java/lang/Integer" = some m.cls := findClass_of_methodNamed Bd.named
  have hnm := (name_of_methodNamed Bd.named Bd.method).1
  have X0 : Stand p l e ({ frames := 3, cells := 1, slots := 1, locals := 38 } : Room) s m #[(.int p0)] below meth c s₁ [] 0 0 := Stand.of_body Bd
  have e0 : s₁.heap = h0 := by rw [← hh, Bd.state]; rfl
  have N0 := Fr.nil n0
  have pre0 : Go p.tables e below (s₁.setTop (entryFrame m #[(.int p0)] 1)) s₁ (mkF m 0 #[.val (.int p0)] []) := fun t k => castTop (ef_box m p0) k
  have K0 : Keep h0 h0 [] := Keep.refl _ _
  have pre1 : Go p.tables e below (s₁.setTop (entryFrame m #[(.int p0)] 1)) s₁ (mkF m 3 #[.val (.int p0)] [(.int (-128 : Int32)), (.int p0)]) := fun t k => pre0 t (by
      refine XS.iloadN X0.here hx rfl (hb hby d4_0) rfl ?_
      show Steps p.tables e below (s₁.setTop (mkF m 1 #[.val (.int p0)] [(.int p0)])) _
      refine XS.bipush X0.here hx rfl (hb hby d4_1) ?_
      exact k)
  by_cases hc2 : p0 < (-128 : Int32)
  · -- hc2: True
    have pre3 : Go p.tables e below (s₁.setTop (entryFrame m #[(.int p0)] 1)) s₁ (mkF m 23 #[.val (.int p0)] []) := fun t k => pre1 t (by
        refine XS.icmpYes X0.here hx rfl (pc0 := 3) (pc' := 23) rfl (hb hby d4_3) rfl (tlt hc2).1 (by decide) (by decide) ?_
        exact k)
    obtain ⟨T4, h4, X4, e4, E4, A4, D4, -, st4⟩ := newO X0 hx hZ hown (hw _ (List.mem_of_getElem? (i := 35) rfl)) (hw _ (List.mem_of_getElem? (i := 36) rfl)) (hw _ (List.mem_of_getElem? (i := 20) rfl)) e0 (g := (mkF m 23 #[.val (.int p0)] [])) rfl (hb hby d4_23) (by decide) (by decide)
    obtain ⟨b4, ga4⟩ : ∃ z, z = h0.size := ⟨_, rfl⟩
    rw [← ga4] at A4 D4 st4
    have g5 : n0 ≤ b4 := Nat.le_trans Z0 (Nat.le_of_eq ga4.symm)
    have sz6 : h0.size ≤ b4 := Nat.le_trans K0.1 (Nat.le_of_eq ga4.symm)
    have f7 : n0 ≤ h4.size := Nat.le_trans Z0 E4.1
    have f8 : Old Z n0 h4 := O0.ext E4
    have f9 : Keep h0 h4 [] := K0.ext E4
    have f10 : Fld Z h4 b4 "java/lang/Integer" "value" "I" (.int (0 : Int32)) := D4 (Or.inr (hw _ (List.mem_of_getElem? (i := 49) rfl))) (ty := .int) (by decide)
    have pre4 : Go p.tables e below (s₁.setTop (entryFrame m #[(.int p0)] 1)) T4 (mkF m 26 #[.val (.int p0)] [(.ref b4)]) := fun t k => pre3 t (st4 _ k)
    have pre11 : Go p.tables e below (s₁.setTop (entryFrame m #[(.int p0)] 1)) T4 (mkF m 28 #[.val (.int p0)] [(.int p0), (.ref b4), (.ref b4)]) := fun t k => pre4 t (by
        refine XS.dup X4.here hx rfl (hb hby d4_26) rfl rfl ?_
        show Steps p.tables e below (T4.setTop (mkF m 27 #[.val (.int p0)] [(.ref b4), (.ref b4)])) _
        refine XS.iloadN X4.here hx rfl (hb hby d4_27) rfl ?_
        exact k)
    obtain ⟨_, _, ⟨T12, L12, k12, n12⟩, -, X12, ⟨Lc12, hQ12, l12, y12, z12⟩, st12⟩ := X4.specialBack hx (y := (⟨"java/lang/Integer", "<init>", "(I)V"⟩ : MethodName)) rfl hown (mvT hZ (hw _ (List.mem_of_getElem? (i := 37) rfl))) (mvT hZ (hw _ (List.mem_of_getElem? (i := 38) rfl))) (mvT hZ (hw _ (List.mem_of_getElem? (i := 40) rfl))) (by decide) (backOf (W := 1) (rm_ini_int l Z av0 hw [] b4 p0 h4 n0 f7 f10 A4 g5) hZ (hw _ (List.mem_of_getElem? (i := 40) rfl)) (hw _ (List.mem_of_getElem? (i := 20) rfl)) (by decide) (by decide)) (g := (mkF m 28 #[.val (.int p0)] [(.int p0), (.ref b4), (.ref b4)])) rfl (by rw [hml]; rfl) (Steps.refl _) (a := b4) (argsL := [(.int p0)]) (rest := [(.ref b4)]) (lenOf pd_1 rfl) rfl (by show 2 * 0 + _ ≤ _; exact Nat.le_of_eq rfl) (hb hby d4_28) (fun _ _ => ⟨rfl, e4, (by decide : 1 + 0 ≤ _), (by decide : 1 + 0 ≤ _)⟩)
    dsimp only [Pt.U, Pt.locs, Pt.cells, Pt.slots] at X12 l12 y12 z12 st12 hQ12
    subst l12 y12 z12
    obtain ⟨rfl, N12q, K12, Eq12, Fq12_0⟩ := hQ12
    have f13 : n0 ≤ T12.heap.size := Nat.le_trans f7 K12.1
    have f14 : Old Z n0 T12.heap := f8.keep K12 (allS g5 all0)
    have f15 : Keep h0 T12.heap [] := f9.trans K12 (allS (Or.inr sz6) all0)
    have f16 : Exa Z T12.heap b4 "java/lang/Integer" := A4.keep K12
    have N12 := Fr.app N0 N12q
    have pre12 : Go p.tables e below (s₁.setTop (entryFrame m #[(.int p0)] 1)) T12 (mkF m 31 #[.val (.int p0)] [(.ref b4)]) := fun t k => pre11 t (st12.trans k)
    obtain ⟨fs, hr, hrun, hended, hW, hsame⟩ := X12.leave (v := some (.ref b4)) (fun h => by rw [Bd.returns] at h; cases h) (BodyLoose.notSynchronized Bd)
    refine ⟨_, _, pre12 _ ?_, hrun, hended, _, _, rfl, ?_, ⟨_, rfl⟩, hW, hsame.mono (Nat.le_of_ble_eq_true rfl) (Nat.le_of_ble_eq_true rfl)⟩
    · exact retOut X12 hx Bd.returns rfl (Or.inr (Or.inr (Or.inr (Or.inr ⟨rfl, rfl, rfl⟩)))) (hb hby d4_31) hr
    · show Q_box Z p0 ab cb vb h0 n0 _ T12.heap _
      exact ⟨b4, rfl, N12, f15, f16⟩
  · -- hc2: False
    have pre17 : Go p.tables e below (s₁.setTop (entryFrame m #[(.int p0)] 1)) s₁ (mkF m 7 #[.val (.int p0)] [(.int p0)]) := fun t k => pre1 t (by
        refine XS.icmpNo X0.here hx rfl (hb hby d4_3) rfl (flt hc2).1 ?_
        show Steps p.tables e below (s₁.setTop (mkF m 6 #[.val (.int p0)] [])) _
        refine XS.iloadN X0.here hx rfl (hb hby d4_6) rfl ?_
        exact k)
    obtain ⟨T18, X18, e18, st18⟩ := getS2 X0 hx hZ hown (host := "") (Or.inl (hw _ (List.mem_of_getElem? (i := 22) rfl))) Via.refl e0 (S_high.ext O0.2) (g := (mkF m 7 #[.val (.int p0)] [(.int p0)])) rfl (hb hby d4_7)
    have pre18 : Go p.tables e below (s₁.setTop (entryFrame m #[(.int p0)] 1)) T18 (mkF m 10 #[.val (.int p0)] [(.int (127 : Int32)), (.int p0)]) := fun t k => pre17 t (st18 _ k)
    by_cases hc19 : (127 : Int32) < p0
    · -- hc19: True
      have pre20 : Go p.tables e below (s₁.setTop (entryFrame m #[(.int p0)] 1)) T18 (mkF m 23 #[.val (.int p0)] []) := fun t k => pre18 t (by
          refine XS.icmpYes X18.here hx rfl (pc0 := 10) (pc' := 23) rfl (hb hby d4_10) rfl (tlt hc19).2.2.1 (by decide) (by decide) ?_
          exact k)
      obtain ⟨T21, h21, X21, e21, E21, A21, D21, -, st21⟩ := newO X18 hx hZ hown (hw _ (List.mem_of_getElem? (i := 35) rfl)) (hw _ (List.mem_of_getElem? (i := 36) rfl)) (hw _ (List.mem_of_getElem? (i := 20) rfl)) e18 (g := (mkF m 23 #[.val (.int p0)] [])) rfl (hb hby d4_23) (by decide) (by decide)
      obtain ⟨b21, ga21⟩ : ∃ z, z = h0.size := ⟨_, rfl⟩
      rw [← ga21] at A21 D21 st21
      have g22 : n0 ≤ b21 := Nat.le_trans Z0 (Nat.le_of_eq ga21.symm)
      have sz23 : h0.size ≤ b21 := Nat.le_trans K0.1 (Nat.le_of_eq ga21.symm)
      have f24 : n0 ≤ h21.size := Nat.le_trans Z0 E21.1
      have f25 : Old Z n0 h21 := O0.ext E21
      have f26 : Keep h0 h21 [] := K0.ext E21
      have f27 : Fld Z h21 b21 "java/lang/Integer" "value" "I" (.int (0 : Int32)) := D21 (Or.inr (hw _ (List.mem_of_getElem? (i := 49) rfl))) (ty := .int) (by decide)
      have pre21 : Go p.tables e below (s₁.setTop (entryFrame m #[(.int p0)] 1)) T21 (mkF m 26 #[.val (.int p0)] [(.ref b21)]) := fun t k => pre20 t (st21 _ k)
      have pre28 : Go p.tables e below (s₁.setTop (entryFrame m #[(.int p0)] 1)) T21 (mkF m 28 #[.val (.int p0)] [(.int p0), (.ref b21), (.ref b21)]) := fun t k => pre21 t (by
          refine XS.dup X21.here hx rfl (hb hby d4_26) rfl rfl ?_
          show Steps p.tables e below (T21.setTop (mkF m 27 #[.val (.int p0)] [(.ref b21), (.ref b21)])) _
          refine XS.iloadN X21.here hx rfl (hb hby d4_27) rfl ?_
          exact k)
      obtain ⟨_, _, ⟨T29, L29, k29, n29⟩, -, X29, ⟨Lc29, hQ29, l29, y29, z29⟩, st29⟩ := X21.specialBack hx (y := (⟨"java/lang/Integer", "<init>", "(I)V"⟩ : MethodName)) rfl hown (mvT hZ (hw _ (List.mem_of_getElem? (i := 37) rfl))) (mvT hZ (hw _ (List.mem_of_getElem? (i := 38) rfl))) (mvT hZ (hw _ (List.mem_of_getElem? (i := 40) rfl))) (by decide) (backOf (W := 1) (rm_ini_int l Z av0 hw [] b21 p0 h21 n0 f24 f27 A21 g22) hZ (hw _ (List.mem_of_getElem? (i := 40) rfl)) (hw _ (List.mem_of_getElem? (i := 20) rfl)) (by decide) (by decide)) (g := (mkF m 28 #[.val (.int p0)] [(.int p0), (.ref b21), (.ref b21)])) rfl (by rw [hml]; rfl) (Steps.refl _) (a := b21) (argsL := [(.int p0)]) (rest := [(.ref b21)]) (lenOf pd_1 rfl) rfl (by show 2 * 0 + _ ≤ _; exact Nat.le_of_eq rfl) (hb hby d4_28) (fun _ _ => ⟨rfl, e21, (by decide : 1 + 0 ≤ _), (by decide : 1 + 0 ≤ _)⟩)
      dsimp only [Pt.U, Pt.locs, Pt.cells, Pt.slots] at X29 l29 y29 z29 st29 hQ29
      subst l29 y29 z29
      obtain ⟨rfl, N29q, K29, Eq29, Fq29_0⟩ := hQ29
      have f30 : n0 ≤ T29.heap.size := Nat.le_trans f24 K29.1
      have f31 : Old Z n0 T29.heap := f25.keep K29 (allS g22 all0)
      have f32 : Keep h0 T29.heap [] := f26.trans K29 (allS (Or.inr sz23) all0)
      have f33 : Exa Z T29.heap b21 "java/lang/Integer" := A21.keep K29
      have N29 := Fr.app N0 N29q
      have pre29 : Go p.tables e below (s₁.setTop (entryFrame m #[(.int p0)] 1)) T29 (mkF m 31 #[.val (.int p0)] [(.ref b21)]) := fun t k => pre28 t (st29.trans k)
      obtain ⟨fs, hr, hrun, hended, hW, hsame⟩ := X29.leave (v := some (.ref b21)) (fun h => by rw [Bd.returns] at h; cases h) (BodyLoose.notSynchronized Bd)
      refine ⟨_, _, pre29 _ ?_, hrun, hended, _, _, rfl, ?_, ⟨_, rfl⟩, hW, hsame.mono (Nat.le_of_ble_eq_true rfl) (Nat.le_of_ble_eq_true rfl)⟩
      · exact retOut X29 hx Bd.returns rfl (Or.inr (Or.inr (Or.inr (Or.inr ⟨rfl, rfl, rfl⟩)))) (hb hby d4_31) hr
      · show Q_box Z p0 ab cb vb h0 n0 _ T29.heap _
        exact ⟨b21, rfl, N29, f32, f33⟩
    · -- hc19: False
      have pre34 : Go p.tables e below (s₁.setTop (entryFrame m #[(.int p0)] 1)) T18 (mkF m 13 #[.val (.int p0)] []) := fun t k => pre18 t (by
          refine XS.icmpNo X18.here hx rfl (hb hby d4_10) rfl (flt hc19).2.2.1 ?_
          exact k)
      obtain ⟨T35, X35, e35, st35⟩ := getS2 X18 hx hZ hown (host := "") (Or.inl (hw _ (List.mem_of_getElem? (i := 24) rfl))) Via.refl e18 (S_cache.ext O0.2) (g := (mkF m 13 #[.val (.int p0)] [])) rfl (hb hby d4_13)
      have pre35 : Go p.tables e below (s₁.setTop (entryFrame m #[(.int p0)] 1)) T35 (mkF m 16 #[.val (.int p0)] [(.ref ab)]) := fun t k => pre34 t (st35 _ k)
      have pre36 : Go p.tables e below (s₁.setTop (entryFrame m #[(.int p0)] 1)) T35 (mkF m 21 #[.val (.int p0)] [(.int (p0 + (128 : Int32))), (.ref ab)]) := fun t k => pre35 t (by
          refine XS.iloadN X35.here hx rfl (hb hby d4_16) rfl ?_
          show Steps p.tables e below (T35.setTop (mkF m 17 #[.val (.int p0)] [(.int p0), (.ref ab)])) _
          refine XS.sipush X35.here hx rfl (hb hby d4_17) ?_
          show Steps p.tables e below (T35.setTop (mkF m 20 #[.val (.int p0)] [(.int (128 : Int32)), (.int p0), (.ref ab)])) _
          refine XS.iadd X35.here hx rfl (hb hby d4_20) rfl ?_
          exact k)
      obtain ⟨Ba, Bs, Bn, Be⟩ := (id Bx)
      have hin : ¬ ((p0 + (128 : Int32)) < 0 ∨ cb.slots.size ≤ ((p0 + (128 : Int32))).toNatClampNeg) := inb_of Bs (own_box p0 hc2 hc19)
      obtain ⟨bx, hbx, Ebx, -⟩ := Be _ hin
      have pre37 : Go p.tables e below (s₁.setTop (entryFrame m #[(.int p0)] 1)) T35 (mkF m 22 #[.val (.int p0)] [(.ref bx)]) := fun t k => pre36 t (X35.aaload hx (j := (p0 + (128 : Int32))) (v := (.ref bx)) (by rw [e35]; exact (Ba.ext O0.2).1) (State.isArrayOf_alike hZ.alike Ba.2.1) rfl Ba.2.2 hin hbx (g := (mkF m 21 #[.val (.int p0)] [(.int (p0 + (128 : Int32))), (.ref ab)])) rfl rfl (hb hby d4_21) _ k)
      obtain ⟨fs, hr, hrun, hended, hW, hsame⟩ := X35.leave (v := some (.ref bx)) (fun h => by rw [Bd.returns] at h; cases h) (BodyLoose.notSynchronized Bd)
      refine ⟨_, _, pre37 _ ?_, hrun, hended, _, _, rfl, ?_, ⟨_, rfl⟩, hW, hsame.mono (Nat.le_of_ble_eq_true rfl) (Nat.le_of_ble_eq_true rfl)⟩
      · exact retOut X35 hx Bd.returns rfl (Or.inr (Or.inr (Or.inr (Or.inr ⟨rfl, rfl, rfl⟩)))) (hb hby d4_22) hr
      · show Q_box Z p0 ab cb vb h0 n0 _ T35.heap _
        rw [e35]
        exact ⟨bx, rfl, N0, K0, (Ebx.ext O0.2)⟩
theorem d5_0 : decode prog_65_method_5_code 0 = .ok (.aload_n 1, 1) := by decide +kernel
theorem d5_1 : decode prog_65_method_5_code 1 = .ok (.instanceof 8, 3) := by decide +kernel
theorem d5_4 : decode prog_65_method_5_code 4 = .ok (.ifCond .eq 34, 3) := by decide +kernel
theorem d5_7 : decode prog_65_method_5_code 7 = .ok (.aload_n 1, 1) := by decide +kernel
theorem d5_8 : decode prog_65_method_5_code 8 = .ok (.checkcast 8, 3) := by decide +kernel
theorem d5_11 : decode prog_65_method_5_code 11 = .ok (.astore_n 2, 1) := by decide +kernel
theorem d5_12 : decode prog_65_method_5_code 12 = .ok (.aload_n 0, 1) := by decide +kernel
theorem d5_13 : decode prog_65_method_5_code 13 = .ok (.getfield 7, 3) := by decide +kernel
theorem d5_16 : decode prog_65_method_5_code 16 = .ok (.aload_n 2, 1) := by decide +kernel
theorem d5_17 : decode prog_65_method_5_code 17 = .ok (.getfield 7, 3) := by decide +kernel
theorem d5_20 : decode prog_65_method_5_code 20 = .ok (.if_icmp .ne 18, 3) := by decide +kernel
theorem d5_23 : decode prog_65_method_5_code 23 = .ok (.aload_n 0, 1) := by decide +kernel
theorem d5_24 : decode prog_65_method_5_code 24 = .ok (.getfield 13, 3) := by decide +kernel
theorem d5_27 : decode prog_65_method_5_code 27 = .ok (.aload_n 2, 1) := by decide +kernel
theorem d5_28 : decode prog_65_method_5_code 28 = .ok (.getfield 13, 3) := by decide +kernel
theorem d5_31 : decode prog_65_method_5_code 31 = .ok (.if_icmp .ne 7, 3) := by decide +kernel
theorem d5_34 : decode prog_65_method_5_code 34 = .ok (.iconst 1, 1) := by decide +kernel
theorem d5_35 : decode prog_65_method_5_code 35 = .ok (.goto 4, 3) := by decide +kernel
theorem d5_38 : decode prog_65_method_5_code 38 = .ok (.iconst 0, 1) := by decide +kernel
theorem d5_39 : decode prog_65_method_5_code 39 = .ok (.ireturn, 1) := by decide +kernel
theorem pn_eq1 : plainName "com/example/bracketeer/bracketeer/construction/Pair" = true := by first | (simp [plainName, overriddenIn]; done) | decide +kernel
theorem ef_eq1 (m : MethodId) (a0 : Addr) (a1 : Addr) : entryFrame m #[(.ref a0), (.ref a1)] 3 = mkF m 0 #[.val (.ref a0), .val (.ref a1), .unset] [] := by first | (simp [entryFrame, mkF, argsToLocals, Value.category]; done) | rfl
def Q_eq1 (Z : State) (a0 : Addr) (a1 : Addr) (x0 : Int32) (x1 : Int32) (y0 : Int32) (y1 : Int32) (h0 : Heap) (n0 : Nat) (v : Option Value) (h : Heap) (L : List Loc) : Prop := v = some (.int (own_eq x0 x1 y0 y1)) ∧ Fr n0 L ∧ h = h0
set_option maxRecDepth 65536 in
set_option maxHeartbeats 40000000 in
theorem rm_eq1 (l : Launch) (Z : State) (av0 : Array Value) (hw : ∀ d ∈ tables_1, d.before av0 Z = true) (ws : List Jvm.Cond) (a0 : Addr) (a1 : Addr) (x0 : Int32) (x1 : Int32) (y0 : Int32) (y1 : Int32) (h0 : Heap) (n0 : Nat) (E1 : Exa Z h0 a1 "com/example/bracketeer/bracketeer/construction/Pair") (Fx0 : Fld Z h0 a0 "com/example/bracketeer/bracketeer/construction/Pair" "first" "I" (.int x0)) (Fx1 : Fld Z h0 a0 "com/example/bracketeer/bracketeer/construction/Pair" "second" "I" (.int x1)) (Fy0 : Fld Z h0 a1 "com/example/bracketeer/bracketeer/construction/Pair" "first" "I" (.int y0)) (Fy1 : Fld Z h0 a1 "com/example/bracketeer/bracketeer/construction/Pair" "second" "I" (.int y1)) :
    MetFree l (⟨"com/example/bracketeer/bracketeer/construction/Pair", "equals", "(Ljava/lang/Object;)Z"⟩ : MethodName) (head1 (Jvm.Cond.code (⟨"com/example/bracketeer/bracketeer/construction/Pair", "equals", "(Ljava/lang/Object;)Z"⟩ : MethodName) prog_65_method_5_code 3 (some .boolean) :: ws) ({ frames := 0, cells := 0, slots := 0, locals := 0 } : Room)) (fun a U => a = #[(.ref a0), (.ref a1)] ∧ Z.Warmed39 U.vm ∧ U.heap = h0) (fun _ _ _ _ _ => True) (fun _ U o U' => ∃ v L, o = .returned v ∧ Q_eq1 Z a0 a1 x0 x1 y0 y1 h0 n0 v U'.heap L ∧ FrameEnd U o U' L ({ frames := 0, cells := 0, slots := 0, locals := 0 } : Room).cells ({ frames := 0, cells := 0, slots := 0, locals := 0 } : Room).slots) := by
  refine MetFree.of_bodySF (plainFor_of_name pn_eq1) hisR ?_
  intro p e s m args below meth c s₁ Bd hml0 hP hK
  obtain ⟨rfl, hZ, hh⟩ := hP
  have hx := Bd.exec
  have hby := Bd.bytes
  have hml : c.maxLocals = 3 := hml0
  have hown : s.vm.findClass "com/example/bracketeer/bracketeer/construction/Pair" = some m.cls := findClass_of_methodNamed Bd.named
  have hnm := (name_of_methodNamed Bd.named Bd.method).1
  have X0 : Stand p l e ({ frames := 0, cells := 0, slots := 0, locals := 0 } : Room) s m #[(.ref a0), (.ref a1)] below meth c s₁ [] 0 0 := Stand.of_body Bd
  have e0 : s₁.heap = h0 := by rw [← hh, Bd.state]; rfl
  have N0 := Fr.nil n0
  have pre0 : Go p.tables e below (s₁.setTop (entryFrame m #[(.ref a0), (.ref a1)] 3)) s₁ (mkF m 0 #[.val (.ref a0), .val (.ref a1), .unset] []) := fun t k => castTop (ef_eq1 m a0 a1) k
  have pre1 : Go p.tables e below (s₁.setTop (entryFrame m #[(.ref a0), (.ref a1)] 3)) s₁ (mkF m 1 #[.val (.ref a0), .val (.ref a1), .unset] [(.ref a1)]) := fun t k => pre0 t (by
      refine XS.aloadN X0.here hx rfl (hb hby d5_0) rfl rfl ?_
      exact k)
  obtain ⟨T2, X2, e2, st2⟩ := instY X0 hx hZ hown (hw _ (List.mem_of_getElem? (i := 30) rfl)) e0 (Ins.self E1) (g := (mkF m 1 #[.val (.ref a0), .val (.ref a1), .unset] [(.ref a1)])) rfl rfl (hb hby d5_1)
  have pre2 : Go p.tables e below (s₁.setTop (entryFrame m #[(.ref a0), (.ref a1)] 3)) T2 (mkF m 4 #[.val (.ref a0), .val (.ref a1), .unset] [(.int (1 : Int32))]) := fun t k => pre1 t (st2 _ k)
  have pre3 : Go p.tables e below (s₁.setTop (entryFrame m #[(.ref a0), (.ref a1)] 3)) T2 (mkF m 8 #[.val (.ref a0), .val (.ref a1), .unset] [(.ref a1)]) := fun t k => pre2 t (by
      refine XS.ifNo X2.here hx rfl (hb hby d5_4) rfl ((if0 _ _).trans (feq (by decide)).1) ?_
      show Steps p.tables e below (T2.setTop (mkF m 7 #[.val (.ref a0), .val (.ref a1), .unset] [])) _
      refine XS.aloadN X2.here hx rfl (hb hby d5_7) rfl rfl ?_
      exact k)
  obtain ⟨T4, X4, e4, st4⟩ := castY X2 hx hZ hown (hw _ (List.mem_of_getElem? (i := 30) rfl)) e2 (Ins.self E1) (g := (mkF m 8 #[.val (.ref a0), .val (.ref a1), .unset] [(.ref a1)])) rfl rfl (hb hby d5_8)
  have pre4 : Go p.tables e below (s₁.setTop (entryFrame m #[(.ref a0), (.ref a1)] 3)) T4 (mkF m 11 #[.val (.ref a0), .val (.ref a1), .unset] [(.ref a1)]) := fun t k => pre3 t (st4 _ k)
  have pre5 : Go p.tables e below (s₁.setTop (entryFrame m #[(.ref a0), (.ref a1)] 3)) T4 (mkF m 13 #[.val (.ref a0), .val (.ref a1), .val (.ref a1)] [(.ref a0)]) := fun t k => pre4 t (by
      refine XS.astoreN X4.here hx rfl (hb hby d5_11) rfl rfl (l' := #[.val (.ref a0), .val (.ref a1), .val (.ref a1)]) rfl ?_
      show Steps p.tables e below (T4.setTop (mkF m 12 #[.val (.ref a0), .val (.ref a1), .val (.ref a1)] [])) _
      refine XS.aloadN X4.here hx rfl (hb hby d5_12) rfl rfl ?_
      exact k)
  obtain ⟨T6, X6, e6, st6⟩ := getF X4 hx hZ hown (host := "") (Or.inl (hw _ (List.mem_of_getElem? (i := 14) rfl))) Via.refl e4 Fx0 (g := (mkF m 13 #[.val (.ref a0), .val (.ref a1), .val (.ref a1)] [(.ref a0)])) rfl rfl (hb hby d5_13)
  have pre6 : Go p.tables e below (s₁.setTop (entryFrame m #[(.ref a0), (.ref a1)] 3)) T6 (mkF m 16 #[.val (.ref a0), .val (.ref a1), .val (.ref a1)] [(.int x0)]) := fun t k => pre5 t (st6 _ k)
  have pre7 : Go p.tables e below (s₁.setTop (entryFrame m #[(.ref a0), (.ref a1)] 3)) T6 (mkF m 17 #[.val (.ref a0), .val (.ref a1), .val (.ref a1)] [(.ref a1), (.int x0)]) := fun t k => pre6 t (by
      refine XS.aloadN X6.here hx rfl (hb hby d5_16) rfl rfl ?_
      exact k)
  obtain ⟨T8, X8, e8, st8⟩ := getF X6 hx hZ hown (host := "") (Or.inl (hw _ (List.mem_of_getElem? (i := 14) rfl))) Via.refl e6 Fy0 (g := (mkF m 17 #[.val (.ref a0), .val (.ref a1), .val (.ref a1)] [(.ref a1), (.int x0)])) rfl rfl (hb hby d5_17)
  have pre8 : Go p.tables e below (s₁.setTop (entryFrame m #[(.ref a0), (.ref a1)] 3)) T8 (mkF m 20 #[.val (.ref a0), .val (.ref a1), .val (.ref a1)] [(.int y0), (.int x0)]) := fun t k => pre7 t (st8 _ k)
  by_cases hc9 : x0 = y0
  · -- hc9: True
    have pre10 : Go p.tables e below (s₁.setTop (entryFrame m #[(.ref a0), (.ref a1)] 3)) T8 (mkF m 24 #[.val (.ref a0), .val (.ref a1), .val (.ref a1)] [(.ref a0)]) := fun t k => pre8 t (by
        refine XS.icmpNo X8.here hx rfl (hb hby d5_20) rfl (teq hc9).2 ?_
        show Steps p.tables e below (T8.setTop (mkF m 23 #[.val (.ref a0), .val (.ref a1), .val (.ref a1)] [])) _
        refine XS.aloadN X8.here hx rfl (hb hby d5_23) rfl rfl ?_
        exact k)
    obtain ⟨T11, X11, e11, st11⟩ := getF X8 hx hZ hown (host := "") (Or.inl (hw _ (List.mem_of_getElem? (i := 16) rfl))) Via.refl e8 Fx1 (g := (mkF m 24 #[.val (.ref a0), .val (.ref a1), .val (.ref a1)] [(.ref a0)])) rfl rfl (hb hby d5_24)
    have pre11 : Go p.tables e below (s₁.setTop (entryFrame m #[(.ref a0), (.ref a1)] 3)) T11 (mkF m 27 #[.val (.ref a0), .val (.ref a1), .val (.ref a1)] [(.int x1)]) := fun t k => pre10 t (st11 _ k)
    have pre12 : Go p.tables e below (s₁.setTop (entryFrame m #[(.ref a0), (.ref a1)] 3)) T11 (mkF m 28 #[.val (.ref a0), .val (.ref a1), .val (.ref a1)] [(.ref a1), (.int x1)]) := fun t k => pre11 t (by
        refine XS.aloadN X11.here hx rfl (hb hby d5_27) rfl rfl ?_
        exact k)
    obtain ⟨T13, X13, e13, st13⟩ := getF X11 hx hZ hown (host := "") (Or.inl (hw _ (List.mem_of_getElem? (i := 16) rfl))) Via.refl e11 Fy1 (g := (mkF m 28 #[.val (.ref a0), .val (.ref a1), .val (.ref a1)] [(.ref a1), (.int x1)])) rfl rfl (hb hby d5_28)
    have pre13 : Go p.tables e below (s₁.setTop (entryFrame m #[(.ref a0), (.ref a1)] 3)) T13 (mkF m 31 #[.val (.ref a0), .val (.ref a1), .val (.ref a1)] [(.int y1), (.int x1)]) := fun t k => pre12 t (st13 _ k)
    by_cases hc14 : x1 = y1
    · -- hc14: True
      have pre15 : Go p.tables e below (s₁.setTop (entryFrame m #[(.ref a0), (.ref a1)] 3)) T13 (mkF m 39 #[.val (.ref a0), .val (.ref a1), .val (.ref a1)] [(.int (1 : Int32))]) := fun t k => pre13 t (by
          refine XS.icmpNo X13.here hx rfl (hb hby d5_31) rfl (teq hc14).2 ?_
          show Steps p.tables e below (T13.setTop (mkF m 34 #[.val (.ref a0), .val (.ref a1), .val (.ref a1)] [])) _
          refine XS.iconst X13.here hx rfl (hb hby d5_34) ?_
          show Steps p.tables e below (T13.setTop (mkF m 35 #[.val (.ref a0), .val (.ref a1), .val (.ref a1)] [(.int (1 : Int32))])) _
          refine XS.goto X13.here hx rfl (pc0 := 35) (pc' := 39) rfl (hb hby d5_35) (by decide) (by decide) ?_
          exact k)
      obtain ⟨fs, hr, hrun, hended, hW, hsame⟩ := X13.leave (v := some (.int (1 : Int32))) (fun h => by rw [Bd.returns] at h; cases h) (BodyLoose.notSynchronized Bd)
      refine ⟨_, _, pre15 _ ?_, hrun, hended, _, _, rfl, ?_, ⟨_, rfl⟩, hW, hsame.mono (Nat.le_of_ble_eq_true rfl) (Nat.le_of_ble_eq_true rfl)⟩
      · exact retN X13 hx (t := .boolean) Bd.returns (by simp) (hb hby d5_39) hr
      · show Q_eq1 Z a0 a1 x0 x1 y0 y1 h0 n0 _ T13.heap _
        rw [e13]
        exact ⟨by simp [own_eq, hc9, hc14], N0, rfl⟩
    · -- hc14: False
      have pre16 : Go p.tables e below (s₁.setTop (entryFrame m #[(.ref a0), (.ref a1)] 3)) T13 (mkF m 39 #[.val (.ref a0), .val (.ref a1), .val (.ref a1)] [(.int (0 : Int32))]) := fun t k => pre13 t (by
          refine XS.icmpYes X13.here hx rfl (pc0 := 31) (pc' := 38) rfl (hb hby d5_31) rfl (feq hc14).2 (by decide) (by decide) ?_
          show Steps p.tables e below (T13.setTop (mkF m 38 #[.val (.ref a0), .val (.ref a1), .val (.ref a1)] [])) _
          refine XS.iconst X13.here hx rfl (hb hby d5_38) ?_
          exact k)
      obtain ⟨fs, hr, hrun, hended, hW, hsame⟩ := X13.leave (v := some (.int (0 : Int32))) (fun h => by rw [Bd.returns] at h; cases h) (BodyLoose.notSynchronized Bd)
      refine ⟨_, _, pre16 _ ?_, hrun, hended, _, _, rfl, ?_, ⟨_, rfl⟩, hW, hsame.mono (Nat.le_of_ble_eq_true rfl) (Nat.le_of_ble_eq_true rfl)⟩
      · exact retN X13 hx (t := .boolean) Bd.returns (by simp) (hb hby d5_39) hr
      · show Q_eq1 Z a0 a1 x0 x1 y0 y1 h0 n0 _ T13.heap _
        rw [e13]
        exact ⟨by simp [own_eq, hc9, hc14], N0, rfl⟩
  · -- hc9: False
    have pre17 : Go p.tables e below (s₁.setTop (entryFrame m #[(.ref a0), (.ref a1)] 3)) T8 (mkF m 39 #[.val (.ref a0), .val (.ref a1), .val (.ref a1)] [(.int (0 : Int32))]) := fun t k => pre8 t (by
        refine XS.icmpYes X8.here hx rfl (pc0 := 20) (pc' := 38) rfl (hb hby d5_20) rfl (feq hc9).2 (by decide) (by decide) ?_
        show Steps p.tables e below (T8.setTop (mkF m 38 #[.val (.ref a0), .val (.ref a1), .val (.ref a1)] [])) _
        refine XS.iconst X8.here hx rfl (hb hby d5_38) ?_
        exact k)
    obtain ⟨fs, hr, hrun, hended, hW, hsame⟩ := X8.leave (v := some (.int (0 : Int32))) (fun h => by rw [Bd.returns] at h; cases h) (BodyLoose.notSynchronized Bd)
    refine ⟨_, _, pre17 _ ?_, hrun, hended, _, _, rfl, ?_, ⟨_, rfl⟩, hW, hsame.mono (Nat.le_of_ble_eq_true rfl) (Nat.le_of_ble_eq_true rfl)⟩
    · exact retN X8 hx (t := .boolean) Bd.returns (by simp) (hb hby d5_39) hr
    · show Q_eq1 Z a0 a1 x0 x1 y0 y1 h0 n0 _ T8.heap _
      rw [e8]
      exact ⟨by simp [own_eq, hc9], N0, rfl⟩
theorem pn_eq2 : plainName "com/example/bracketeer/bracketeer/construction/Pair" = true := by first | (simp [plainName, overriddenIn]; done) | decide +kernel
theorem ef_eq2 (m : MethodId) (a0 : Addr) : entryFrame m #[(.ref a0), .null] 3 = mkF m 0 #[.val (.ref a0), .val .null, .unset] [] := by first | (simp [entryFrame, mkF, argsToLocals, Value.category]; done) | rfl
def Q_eq2 (Z : State) (a0 : Addr) (h0 : Heap) (n0 : Nat) (v : Option Value) (h : Heap) (L : List Loc) : Prop := v = some (.int 0) ∧ Fr n0 L ∧ h = h0
set_option maxRecDepth 65536 in
set_option maxHeartbeats 40000000 in
theorem rm_eq2 (l : Launch) (Z : State) (av0 : Array Value) (hw : ∀ d ∈ tables_1, d.before av0 Z = true) (ws : List Jvm.Cond) (a0 : Addr) (h0 : Heap) (n0 : Nat) :
    MetFree l (⟨"com/example/bracketeer/bracketeer/construction/Pair", "equals", "(Ljava/lang/Object;)Z"⟩ : MethodName) (head1 (Jvm.Cond.code (⟨"com/example/bracketeer/bracketeer/construction/Pair", "equals", "(Ljava/lang/Object;)Z"⟩ : MethodName) prog_65_method_5_code 3 (some .boolean) :: ws) ({ frames := 0, cells := 0, slots := 0, locals := 0 } : Room)) (fun a U => a = #[(.ref a0), .null] ∧ Z.Warmed39 U.vm ∧ U.heap = h0) (fun _ _ _ _ _ => True) (fun _ U o U' => ∃ v L, o = .returned v ∧ Q_eq2 Z a0 h0 n0 v U'.heap L ∧ FrameEnd U o U' L ({ frames := 0, cells := 0, slots := 0, locals := 0 } : Room).cells ({ frames := 0, cells := 0, slots := 0, locals := 0 } : Room).slots) := by
  refine MetFree.of_bodySF (plainFor_of_name pn_eq2) hisR ?_
  intro p e s m args below meth c s₁ Bd hml0 hP hK
  obtain ⟨rfl, hZ, hh⟩ := hP
  have hx := Bd.exec
  have hby := Bd.bytes
  have hml : c.maxLocals = 3 := hml0
  have hown : s.vm.findClass "com/example/bracketeer/bracketeer/construction/Pair" = some m.cls := findClass_of_methodNamed Bd.named
  have hnm := (name_of_methodNamed Bd.named Bd.method).1
  have X0 : Stand p l e ({ frames := 0, cells := 0, slots := 0, locals := 0 } : Room) s m #[(.ref a0), .null] below meth c s₁ [] 0 0 := Stand.of_body Bd
  have e0 : s₁.heap = h0 := by rw [← hh, Bd.state]; rfl
  have N0 := Fr.nil n0
  have pre0 : Go p.tables e below (s₁.setTop (entryFrame m #[(.ref a0), .null] 3)) s₁ (mkF m 0 #[.val (.ref a0), .val .null, .unset] []) := fun t k => castTop (ef_eq2 m a0) k
  have pre1 : Go p.tables e below (s₁.setTop (entryFrame m #[(.ref a0), .null] 3)) s₁ (mkF m 39 #[.val (.ref a0), .val .null, .unset] [(.int (0 : Int32))]) := fun t k => pre0 t (by
      refine XS.aloadN X0.here hx rfl (hb hby d5_0) rfl rfl ?_
      show Steps p.tables e below (s₁.setTop (mkF m 1 #[.val (.ref a0), .val .null, .unset] [.null])) _
      refine X0.instanceofNull hx (g := (mkF m 1 #[.val (.ref a0), .val .null, .unset] [.null])) rfl rfl (hb hby d5_1) _ ?_
      show Steps p.tables e below (s₁.setTop (mkF m 4 #[.val (.ref a0), .val .null, .unset] [(.int (0 : Int32))])) _
      refine XS.ifYes X0.here hx rfl (pc0 := 4) (pc' := 38) rfl (hb hby d5_4) rfl ((if0 _ _).trans (teq (by decide)).1) (by decide) (by decide) ?_
      show Steps p.tables e below (s₁.setTop (mkF m 38 #[.val (.ref a0), .val .null, .unset] [])) _
      refine XS.iconst X0.here hx rfl (hb hby d5_38) ?_
      exact k)
  obtain ⟨fs, hr, hrun, hended, hW, hsame⟩ := X0.leave (v := some (.int (0 : Int32))) (fun h => by rw [Bd.returns] at h; cases h) (BodyLoose.notSynchronized Bd)
  refine ⟨_, _, pre1 _ ?_, hrun, hended, _, _, rfl, ?_, ⟨_, rfl⟩, hW, hsame.mono (Nat.le_of_ble_eq_true rfl) (Nat.le_of_ble_eq_true rfl)⟩
  · exact retN X0 hx (t := .boolean) Bd.returns (by simp) (hb hby d5_39) hr
  · show Q_eq2 Z a0 h0 n0 _ s₁.heap _
    rw [e0]
    exact ⟨rfl, N0, rfl⟩
theorem pn_eq3 : plainName "com/example/bracketeer/bracketeer/construction/Pair" = true := by first | (simp [plainName, overriddenIn]; done) | decide +kernel
theorem ef_eq3 (m : MethodId) (a0 : Addr) (a1 : Addr) : entryFrame m #[(.ref a0), (.ref a1)] 3 = mkF m 0 #[.val (.ref a0), .val (.ref a1), .unset] [] := by first | (simp [entryFrame, mkF, argsToLocals, Value.category]; done) | rfl
def Q_eq3 (Z : State) (a0 : Addr) (a1 : Addr) (h0 : Heap) (n0 : Nat) (v : Option Value) (h : Heap) (L : List Loc) : Prop := v = some (.int 0) ∧ Fr n0 L ∧ h = h0
set_option maxRecDepth 65536 in
set_option maxHeartbeats 40000000 in
theorem rm_eq3 (l : Launch) (Z : State) (av0 : Array Value) (hw : ∀ d ∈ tables_1, d.before av0 Z = true) (ws : List Jvm.Cond) (a0 : Addr) (a1 : Addr) (h0 : Heap) (n0 : Nat) (E1 : Exa Z h0 a1 "java/lang/Integer") :
    MetFree l (⟨"com/example/bracketeer/bracketeer/construction/Pair", "equals", "(Ljava/lang/Object;)Z"⟩ : MethodName) (head1 (Jvm.Cond.code (⟨"com/example/bracketeer/bracketeer/construction/Pair", "equals", "(Ljava/lang/Object;)Z"⟩ : MethodName) prog_65_method_5_code 3 (some .boolean) :: ws) ({ frames := 0, cells := 0, slots := 0, locals := 0 } : Room)) (fun a U => a = #[(.ref a0), (.ref a1)] ∧ Z.Warmed39 U.vm ∧ U.heap = h0) (fun _ _ _ _ _ => True) (fun _ U o U' => ∃ v L, o = .returned v ∧ Q_eq3 Z a0 a1 h0 n0 v U'.heap L ∧ FrameEnd U o U' L ({ frames := 0, cells := 0, slots := 0, locals := 0 } : Room).cells ({ frames := 0, cells := 0, slots := 0, locals := 0 } : Room).slots) := by
  refine MetFree.of_bodySF (plainFor_of_name pn_eq3) hisR ?_
  intro p e s m args below meth c s₁ Bd hml0 hP hK
  obtain ⟨rfl, hZ, hh⟩ := hP
  have hx := Bd.exec
  have hby := Bd.bytes
  have hml : c.maxLocals = 3 := hml0
  have hown : s.vm.findClass "com/example/bracketeer/bracketeer/construction/Pair" = some m.cls := findClass_of_methodNamed Bd.named
  have hnm := (name_of_methodNamed Bd.named Bd.method).1
  have X0 : Stand p l e ({ frames := 0, cells := 0, slots := 0, locals := 0 } : Room) s m #[(.ref a0), (.ref a1)] below meth c s₁ [] 0 0 := Stand.of_body Bd
  have e0 : s₁.heap = h0 := by rw [← hh, Bd.state]; rfl
  have N0 := Fr.nil n0
  have pre0 : Go p.tables e below (s₁.setTop (entryFrame m #[(.ref a0), (.ref a1)] 3)) s₁ (mkF m 0 #[.val (.ref a0), .val (.ref a1), .unset] []) := fun t k => castTop (ef_eq3 m a0 a1) k
  have pre1 : Go p.tables e below (s₁.setTop (entryFrame m #[(.ref a0), (.ref a1)] 3)) s₁ (mkF m 1 #[.val (.ref a0), .val (.ref a1), .unset] [(.ref a1)]) := fun t k => pre0 t (by
      refine XS.aloadN X0.here hx rfl (hb hby d5_0) rfl rfl ?_
      exact k)
  obtain ⟨T2, X2, e2, st2⟩ := instNo X0 hx hZ hown (hw _ (List.mem_of_getElem? (i := 30) rfl)) e0 E1 (own_no (hw _ (List.mem_of_getElem? (i := 32) rfl)) (hw _ (List.mem_of_getElem? (i := 1) rfl)) (NS.step (hw _ (List.mem_of_getElem? (i := 32) rfl)) (NS.step (hw _ (List.mem_of_getElem? (i := 33) rfl)) (own_root (hw _ (List.mem_of_getElem? (i := 34) rfl)) (hw _ (List.mem_of_getElem? (i := 1) rfl)) (by decide)) (by decide)) (by decide)) (by decide)) (g := (mkF m 1 #[.val (.ref a0), .val (.ref a1), .unset] [(.ref a1)])) rfl rfl (hb hby d5_1)
  have pre2 : Go p.tables e below (s₁.setTop (entryFrame m #[(.ref a0), (.ref a1)] 3)) T2 (mkF m 4 #[.val (.ref a0), .val (.ref a1), .unset] [(.int (0 : Int32))]) := fun t k => pre1 t (st2 _ k)
  have pre3 : Go p.tables e below (s₁.setTop (entryFrame m #[(.ref a0), (.ref a1)] 3)) T2 (mkF m 39 #[.val (.ref a0), .val (.ref a1), .unset] [(.int (0 : Int32))]) := fun t k => pre2 t (by
      refine XS.ifYes X2.here hx rfl (pc0 := 4) (pc' := 38) rfl (hb hby d5_4) rfl ((if0 _ _).trans (teq (by decide)).1) (by decide) (by decide) ?_
      show Steps p.tables e below (T2.setTop (mkF m 38 #[.val (.ref a0), .val (.ref a1), .unset] [])) _
      refine XS.iconst X2.here hx rfl (hb hby d5_38) ?_
      exact k)
  obtain ⟨fs, hr, hrun, hended, hW, hsame⟩ := X2.leave (v := some (.int (0 : Int32))) (fun h => by rw [Bd.returns] at h; cases h) (BodyLoose.notSynchronized Bd)
  refine ⟨_, _, pre3 _ ?_, hrun, hended, _, _, rfl, ?_, ⟨_, rfl⟩, hW, hsame.mono (Nat.le_of_ble_eq_true rfl) (Nat.le_of_ble_eq_true rfl)⟩
  · exact retN X2 hx (t := .boolean) Bd.returns (by simp) (hb hby d5_39) hr
  · show Q_eq3 Z a0 a1 h0 n0 _ T2.heap _
    rw [e2]
    exact ⟨rfl, N0, rfl⟩
theorem pn_law : plainName "com/example/bracketeer/bracketeer/construction/PairEqualsPinLaw" = true := by first | (simp [plainName, overriddenIn]; done) | decide +kernel
theorem ef_law (m : MethodId) (v0 : Int32) (v1 : Int32) (v2 : Int32) (v3 : Int32) (v4 : Int32) : entryFrame m #[(.int v0), (.int v1), (.int v2), (.int v3), (.int v4)] maxLocals = mkF m 0 #[.val (.int v0), .val (.int v1), .val (.int v2), .val (.int v3), .val (.int v4), .unset, .unset, .unset, .unset, .unset, .unset, .unset, .unset] [] := by first | (simp [entryFrame, mkF, argsToLocals, Value.category, maxLocals]; done) | rfl
def Q_law (Z : State) (v0 : Int32) (v1 : Int32) (v2 : Int32) (v3 : Int32) (v4 : Int32) (ab : Addr) (cb : Cell) (vb : Int32 → Value) (h0 : Heap) (n0 : Nat) (v : Option Value) (h : Heap) (L : List Loc) : Prop := v = some (.int 1) ∧ Fr n0 L
set_option maxRecDepth 65536 in
set_option maxHeartbeats 40000000 in
theorem rm_law (l : Launch) (Z : State) (av0 : Array Value) (hw : ∀ d ∈ tables_1, d.before av0 Z = true) (ws : List Jvm.Cond) (v0 : Int32) (v1 : Int32) (v2 : Int32) (v3 : Int32) (v4 : Int32) (ab : Addr) (cb : Cell) (vb : Int32 → Value) (h0 : Heap) (n0 : Nat) (Z0 : n0 ≤ h0.size) (O0 : Old Z n0 h0) (S_high : Sta Z Z.heap "java/lang/Integer$IntegerCache" "high" "I" (.int (127 : Int32))) (S_cache : Sta Z Z.heap "java/lang/Integer$IntegerCache" "cache" "[Ljava/lang/Integer;" (.ref ab)) (Bx : Bxs Z ab cb "java/lang/Integer" "I" (256 : Int32) vb) :
    MetFree l x (head1 (Jvm.Cond.code x code maxLocals ret :: ws) room_1) (fun a U => a = #[(.int v0), (.int v1), (.int v2), (.int v3), (.int v4)] ∧ Z.Warmed39 U.vm ∧ U.heap = h0) (fun _ _ _ _ _ => True) (fun _ U o U' => ∃ v L, o = .returned v ∧ Q_law Z v0 v1 v2 v3 v4 ab cb vb h0 n0 v U'.heap L ∧ FrameEnd U o U' L room_1.cells room_1.slots) := by
  refine MetFree.of_bodySF (plainFor_of_name pn_law) hisR ?_
  intro p e s m args below meth c s₁ Bd hml0 hP hK
  obtain ⟨rfl, hZ, hh⟩ := hP
  have hx := Bd.exec
  have hby := Bd.bytes
  have hml : c.maxLocals = 13 := hml0
  have hown : s.vm.findClass "com/example/bracketeer/bracketeer/construction/PairEqualsPinLaw" = some m.cls := findClass_of_methodNamed Bd.named
  have hnm := (name_of_methodNamed Bd.named Bd.method).1
  have X0 : Stand p l e room_1 s m #[(.int v0), (.int v1), (.int v2), (.int v3), (.int v4)] below meth c s₁ [] 0 0 := Stand.of_body Bd
  have e0 : s₁.heap = h0 := by rw [← hh, Bd.state]; rfl
  have N0 := Fr.nil n0
  have pre0 : Go p.tables e below (s₁.setTop (entryFrame m #[(.int v0), (.int v1), (.int v2), (.int v3), (.int v4)] maxLocals)) s₁ (mkF m 0 #[.val (.int v0), .val (.int v1), .val (.int v2), .val (.int v3), .val (.int v4), .unset, .unset, .unset, .unset, .unset, .unset, .unset, .unset] []) := fun t k => castTop (ef_law m v0 v1 v2 v3 v4) k
  have pre1 : Go p.tables e below (s₁.setTop (entryFrame m #[(.int v0), (.int v1), (.int v2), (.int v3), (.int v4)] maxLocals)) s₁ (mkF m 4 #[.val (.int v0), .val (.int v1), .val (.int v2), .val (.int v3), .val (.int v4), .unset, .unset, .unset, .unset, .unset, .unset, .unset, .unset] [(.int (v4 &&& (1 : Int32)))]) := fun t k => pre0 t (by
      refine XS.iload X0.here hx rfl (hb hby at_0) rfl ?_
      show Steps p.tables e below (s₁.setTop (mkF m 2 #[.val (.int v0), .val (.int v1), .val (.int v2), .val (.int v3), .val (.int v4), .unset, .unset, .unset, .unset, .unset, .unset, .unset, .unset] [(.int v4)])) _
      refine XS.iconst X0.here hx rfl (hb hby at_2) ?_
      show Steps p.tables e below (s₁.setTop (mkF m 3 #[.val (.int v0), .val (.int v1), .val (.int v2), .val (.int v3), .val (.int v4), .unset, .unset, .unset, .unset, .unset, .unset, .unset, .unset] [(.int (1 : Int32)), (.int v4)])) _
      refine XS.iand X0.here hx rfl (hb hby at_3) rfl ?_
      exact k)
  obtain ⟨T2, L2, w3, X2, e2, N2, hw3, pre2⟩ : ∃ (T2 : State) (L2 : List Loc) (w3 : Int32), Stand p l e room_1 s m #[(.int v0), (.int v1), (.int v2), (.int v3), (.int v4)] below meth c T2 L2 0 0 ∧ T2.heap = h0 ∧ Fr n0 L2 ∧ w3 = (if (v4 &&& (1 : Int32)) = (0 : Int32) then v2 else v0) ∧ Go p.tables e below (s₁.setTop (entryFrame m #[(.int v0), (.int v1), (.int v2), (.int v3), (.int v4)] maxLocals)) T2 (mkF m 12 #[.val (.int v0), .val (.int v1), .val (.int v2), .val (.int v3), .val (.int v4), .unset, .unset, .unset, .unset, .unset, .unset, .unset, .unset] [(.int w3)]) := by
    by_cases hc4 : (v4 &&& (1 : Int32)) = (0 : Int32)
    · -- hc4: True
      have pre5 : Go p.tables e below (s₁.setTop (entryFrame m #[(.int v0), (.int v1), (.int v2), (.int v3), (.int v4)] maxLocals)) s₁ (mkF m 12 #[.val (.int v0), .val (.int v1), .val (.int v2), .val (.int v3), .val (.int v4), .unset, .unset, .unset, .unset, .unset, .unset, .unset, .unset] [(.int v2)]) := fun t k => pre1 t (by
          refine XS.ifYes X0.here hx rfl (pc0 := 4) (pc' := 11) rfl (hb hby at_4) rfl ((if0 _ _).trans (teq hc4).1) (by decide) (by decide) ?_
          show Steps p.tables e below (s₁.setTop (mkF m 11 #[.val (.int v0), .val (.int v1), .val (.int v2), .val (.int v3), .val (.int v4), .unset, .unset, .unset, .unset, .unset, .unset, .unset, .unset] [])) _
          refine XS.iloadN X0.here hx rfl (hb hby at_11) rfl ?_
          exact k)
      refine ⟨_, _, _, X0, e0, N0, ?_, pre5⟩
      · exact (if_pos hc4).symm
    · -- hc4: False
      have pre6 : Go p.tables e below (s₁.setTop (entryFrame m #[(.int v0), (.int v1), (.int v2), (.int v3), (.int v4)] maxLocals)) s₁ (mkF m 12 #[.val (.int v0), .val (.int v1), .val (.int v2), .val (.int v3), .val (.int v4), .unset, .unset, .unset, .unset, .unset, .unset, .unset, .unset] [(.int v0)]) := fun t k => pre1 t (by
          refine XS.ifNo X0.here hx rfl (hb hby at_4) rfl ((if0 _ _).trans (feq hc4).1) ?_
          show Steps p.tables e below (s₁.setTop (mkF m 7 #[.val (.int v0), .val (.int v1), .val (.int v2), .val (.int v3), .val (.int v4), .unset, .unset, .unset, .unset, .unset, .unset, .unset, .unset] [])) _
          refine XS.iloadN X0.here hx rfl (hb hby at_7) rfl ?_
          show Steps p.tables e below (s₁.setTop (mkF m 8 #[.val (.int v0), .val (.int v1), .val (.int v2), .val (.int v3), .val (.int v4), .unset, .unset, .unset, .unset, .unset, .unset, .unset, .unset] [(.int v0)])) _
          refine XS.goto X0.here hx rfl (pc0 := 8) (pc' := 12) rfl (hb hby at_8) (by decide) (by decide) ?_
          exact k)
      refine ⟨_, _, _, X0, e0, N0, ?_, pre6⟩
      · exact (if_neg hc4).symm
  have pre7 : Go p.tables e below (s₁.setTop (entryFrame m #[(.int v0), (.int v1), (.int v2), (.int v3), (.int v4)] maxLocals)) T2 (mkF m 18 #[.val (.int v0), .val (.int v1), .val (.int v2), .val (.int v3), .val (.int v4), .val (.int w3), .unset, .unset, .unset, .unset, .unset, .unset, .unset] [(.int (v4 &&& (2 : Int32)))]) := fun t k => pre2 t (by
      refine XS.istore X2.here hx rfl (hb hby at_12) rfl (l' := #[.val (.int v0), .val (.int v1), .val (.int v2), .val (.int v3), .val (.int v4), .val (.int w3), .unset, .unset, .unset, .unset, .unset, .unset, .unset]) rfl ?_
      show Steps p.tables e below (T2.setTop (mkF m 14 #[.val (.int v0), .val (.int v1), .val (.int v2), .val (.int v3), .val (.int v4), .val (.int w3), .unset, .unset, .unset, .unset, .unset, .unset, .unset] [])) _
      refine XS.iload X2.here hx rfl (hb hby at_14) rfl ?_
      show Steps p.tables e below (T2.setTop (mkF m 16 #[.val (.int v0), .val (.int v1), .val (.int v2), .val (.int v3), .val (.int v4), .val (.int w3), .unset, .unset, .unset, .unset, .unset, .unset, .unset] [(.int v4)])) _
      refine XS.iconst X2.here hx rfl (hb hby at_16) ?_
      show Steps p.tables e below (T2.setTop (mkF m 17 #[.val (.int v0), .val (.int v1), .val (.int v2), .val (.int v3), .val (.int v4), .val (.int w3), .unset, .unset, .unset, .unset, .unset, .unset, .unset] [(.int (2 : Int32)), (.int v4)])) _
      refine XS.iand X2.here hx rfl (hb hby at_17) rfl ?_
      exact k)
  obtain ⟨T8, L8, w9, X8, e8, N8, hw9, pre8⟩ : ∃ (T8 : State) (L8 : List Loc) (w9 : Int32), Stand p l e room_1 s m #[(.int v0), (.int v1), (.int v2), (.int v3), (.int v4)] below meth c T8 L8 0 0 ∧ T8.heap = h0 ∧ Fr n0 L8 ∧ w9 = (if (v4 &&& (2 : Int32)) = (0 : Int32) then v3 else v1) ∧ Go p.tables e below (s₁.setTop (entryFrame m #[(.int v0), (.int v1), (.int v2), (.int v3), (.int v4)] maxLocals)) T8 (mkF m 26 #[.val (.int v0), .val (.int v1), .val (.int v2), .val (.int v3), .val (.int v4), .val (.int w3), .unset, .unset, .unset, .unset, .unset, .unset, .unset] [(.int w9)]) := by
    by_cases hc10 : (v4 &&& (2 : Int32)) = (0 : Int32)
    · -- hc10: True
      have pre11 : Go p.tables e below (s₁.setTop (entryFrame m #[(.int v0), (.int v1), (.int v2), (.int v3), (.int v4)] maxLocals)) T2 (mkF m 26 #[.val (.int v0), .val (.int v1), .val (.int v2), .val (.int v3), .val (.int v4), .val (.int w3), .unset, .unset, .unset, .unset, .unset, .unset, .unset] [(.int v3)]) := fun t k => pre7 t (by
          refine XS.ifYes X2.here hx rfl (pc0 := 18) (pc' := 25) rfl (hb hby at_18) rfl ((if0 _ _).trans (teq hc10).1) (by decide) (by decide) ?_
          show Steps p.tables e below (T2.setTop (mkF m 25 #[.val (.int v0), .val (.int v1), .val (.int v2), .val (.int v3), .val (.int v4), .val (.int w3), .unset, .unset, .unset, .unset, .unset, .unset, .unset] [])) _
          refine XS.iloadN X2.here hx rfl (hb hby at_25) rfl ?_
          exact k)
      refine ⟨_, _, _, X2, e2, N2, ?_, pre11⟩
      · exact (if_pos hc10).symm
    · -- hc10: False
      have pre12 : Go p.tables e below (s₁.setTop (entryFrame m #[(.int v0), (.int v1), (.int v2), (.int v3), (.int v4)] maxLocals)) T2 (mkF m 26 #[.val (.int v0), .val (.int v1), .val (.int v2), .val (.int v3), .val (.int v4), .val (.int w3), .unset, .unset, .unset, .unset, .unset, .unset, .unset] [(.int v1)]) := fun t k => pre7 t (by
          refine XS.ifNo X2.here hx rfl (hb hby at_18) rfl ((if0 _ _).trans (feq hc10).1) ?_
          show Steps p.tables e below (T2.setTop (mkF m 21 #[.val (.int v0), .val (.int v1), .val (.int v2), .val (.int v3), .val (.int v4), .val (.int w3), .unset, .unset, .unset, .unset, .unset, .unset, .unset] [])) _
          refine XS.iloadN X2.here hx rfl (hb hby at_21) rfl ?_
          show Steps p.tables e below (T2.setTop (mkF m 22 #[.val (.int v0), .val (.int v1), .val (.int v2), .val (.int v3), .val (.int v4), .val (.int w3), .unset, .unset, .unset, .unset, .unset, .unset, .unset] [(.int v1)])) _
          refine XS.goto X2.here hx rfl (pc0 := 22) (pc' := 26) rfl (hb hby at_22) (by decide) (by decide) ?_
          exact k)
      refine ⟨_, _, _, X2, e2, N2, ?_, pre12⟩
      · exact (if_neg hc10).symm
  have pre13 : Go p.tables e below (s₁.setTop (entryFrame m #[(.int v0), (.int v1), (.int v2), (.int v3), (.int v4)] maxLocals)) T8 (mkF m 28 #[.val (.int v0), .val (.int v1), .val (.int v2), .val (.int v3), .val (.int v4), .val (.int w3), .val (.int w9), .unset, .unset, .unset, .unset, .unset, .unset] []) := fun t k => pre8 t (by
      refine XS.istore X8.here hx rfl (hb hby at_26) rfl (l' := #[.val (.int v0), .val (.int v1), .val (.int v2), .val (.int v3), .val (.int v4), .val (.int w3), .val (.int w9), .unset, .unset, .unset, .unset, .unset, .unset]) rfl ?_
      exact k)
  obtain ⟨T14, h14, X14, e14, E14, A14, D14, -, st14⟩ := newO X8 hx hZ hown (hw _ (List.mem_of_getElem? (i := 0) rfl)) (hw _ (List.mem_of_getElem? (i := 1) rfl)) (hw _ (List.mem_of_getElem? (i := 2) rfl)) e8 (g := (mkF m 28 #[.val (.int v0), .val (.int v1), .val (.int v2), .val (.int v3), .val (.int v4), .val (.int w3), .val (.int w9), .unset, .unset, .unset, .unset, .unset, .unset] [])) rfl (hb hby at_28) (by decide) (by decide)
  obtain ⟨b14, ga14⟩ : ∃ z, z = h0.size := ⟨_, rfl⟩
  rw [← ga14] at A14 D14 st14
  have g15 : n0 ≤ b14 := Nat.le_trans Z0 (Nat.le_of_eq ga14.symm)
  have f16 : n0 ≤ h14.size := Nat.le_trans Z0 E14.1
  have f17 : Old Z n0 h14 := O0.ext E14
  have f18 : Fld Z h14 b14 "com/example/bracketeer/bracketeer/construction/Pair" "first" "I" (.int (0 : Int32)) := D14 (Or.inr (hw _ (List.mem_of_getElem? (i := 15) rfl))) (ty := .int) (by decide)
  have f19 : Fld Z h14 b14 "com/example/bracketeer/bracketeer/construction/Pair" "second" "I" (.int (0 : Int32)) := D14 (Or.inr (hw _ (List.mem_of_getElem? (i := 17) rfl))) (ty := .int) (by decide)
  have pre14 : Go p.tables e below (s₁.setTop (entryFrame m #[(.int v0), (.int v1), (.int v2), (.int v3), (.int v4)] maxLocals)) T14 (mkF m 31 #[.val (.int v0), .val (.int v1), .val (.int v2), .val (.int v3), .val (.int v4), .val (.int w3), .val (.int w9), .unset, .unset, .unset, .unset, .unset, .unset] [(.ref b14)]) := fun t k => pre13 t (st14 _ k)
  have pre20 : Go p.tables e below (s₁.setTop (entryFrame m #[(.int v0), (.int v1), (.int v2), (.int v3), (.int v4)] maxLocals)) T14 (mkF m 34 #[.val (.int v0), .val (.int v1), .val (.int v2), .val (.int v3), .val (.int v4), .val (.int w3), .val (.int w9), .unset, .unset, .unset, .unset, .unset, .unset] [(.int v1), (.int v0), (.ref b14), (.ref b14)]) := fun t k => pre14 t (by
      refine XS.dup X14.here hx rfl (hb hby at_31) rfl rfl ?_
      show Steps p.tables e below (T14.setTop (mkF m 32 #[.val (.int v0), .val (.int v1), .val (.int v2), .val (.int v3), .val (.int v4), .val (.int w3), .val (.int w9), .unset, .unset, .unset, .unset, .unset, .unset] [(.ref b14), (.ref b14)])) _
      refine XS.iloadN X14.here hx rfl (hb hby at_32) rfl ?_
      show Steps p.tables e below (T14.setTop (mkF m 33 #[.val (.int v0), .val (.int v1), .val (.int v2), .val (.int v3), .val (.int v4), .val (.int w3), .val (.int w9), .unset, .unset, .unset, .unset, .unset, .unset] [(.int v0), (.ref b14), (.ref b14)])) _
      refine XS.iloadN X14.here hx rfl (hb hby at_33) rfl ?_
      exact k)
  obtain ⟨_, _, ⟨T21, L21, k21, n21⟩, -, X21, ⟨Lc21, hQ21, l21, y21, z21⟩, st21⟩ := X14.specialBack hx (y := (⟨"com/example/bracketeer/bracketeer/construction/Pair", "<init>", "(II)V"⟩ : MethodName)) rfl hown (mvT hZ (hw _ (List.mem_of_getElem? (i := 3) rfl))) (mvT hZ (hw _ (List.mem_of_getElem? (i := 4) rfl))) (mvT hZ (hw _ (List.mem_of_getElem? (i := 5) rfl))) (by decide) (backOf (W := 1) (rm_ini l Z av0 hw [] b14 v0 v1 h14 n0 f16 f18 f19 A14 g15) hZ (hw _ (List.mem_of_getElem? (i := 5) rfl)) (hw _ (List.mem_of_getElem? (i := 2) rfl)) (by decide) (by decide)) (g := (mkF m 34 #[.val (.int v0), .val (.int v1), .val (.int v2), .val (.int v3), .val (.int v4), .val (.int w3), .val (.int w9), .unset, .unset, .unset, .unset, .unset, .unset] [(.int v1), (.int v0), (.ref b14), (.ref b14)])) rfl (by rw [hml]; rfl) (Steps.refl _) (a := b14) (argsL := [(.int v0), (.int v1)]) (rest := [(.ref b14)]) (lenOf pd_2 rfl) rfl (by show 2 * 0 + _ ≤ _; exact Nat.le_of_eq rfl) (hb hby at_34) (fun _ _ => ⟨rfl, e14, (by decide : 1 + 0 ≤ _), (by decide : 2 + 0 ≤ _)⟩)
  dsimp only [Pt.U, Pt.locs, Pt.cells, Pt.slots] at X21 l21 y21 z21 st21 hQ21
  subst l21 y21 z21
  obtain ⟨rfl, N21q, K21, Eq21, Fq21_0, Fq21_1⟩ := hQ21
  have f22 : n0 ≤ T21.heap.size := Nat.le_trans f16 K21.1
  have f23 : Old Z n0 T21.heap := f17.keep K21 (allS g15 all0)
  have f24 : Exa Z T21.heap b14 "com/example/bracketeer/bracketeer/construction/Pair" := A14.keep K21
  have N21 := Fr.app N8 N21q
  have pre21 : Go p.tables e below (s₁.setTop (entryFrame m #[(.int v0), (.int v1), (.int v2), (.int v3), (.int v4)] maxLocals)) T21 (mkF m 37 #[.val (.int v0), .val (.int v1), .val (.int v2), .val (.int v3), .val (.int v4), .val (.int w3), .val (.int w9), .unset, .unset, .unset, .unset, .unset, .unset] [(.ref b14)]) := fun t k => pre20 t (st21.trans k)
  have pre25 : Go p.tables e below (s₁.setTop (entryFrame m #[(.int v0), (.int v1), (.int v2), (.int v3), (.int v4)] maxLocals)) T21 (mkF m 39 #[.val (.int v0), .val (.int v1), .val (.int v2), .val (.int v3), .val (.int v4), .val (.int w3), .val (.int w9), .val (.ref b14), .unset, .unset, .unset, .unset, .unset] []) := fun t k => pre21 t (by
      refine XS.astore X21.here hx rfl (hb hby at_37) rfl rfl (l' := #[.val (.int v0), .val (.int v1), .val (.int v2), .val (.int v3), .val (.int v4), .val (.int w3), .val (.int w9), .val (.ref b14), .unset, .unset, .unset, .unset, .unset]) rfl ?_
      exact k)
  obtain ⟨T26, h26, X26, e26, E26, A26, D26, -, st26⟩ := newO X21 hx hZ hown (hw _ (List.mem_of_getElem? (i := 0) rfl)) (hw _ (List.mem_of_getElem? (i := 1) rfl)) (hw _ (List.mem_of_getElem? (i := 2) rfl)) rfl (g := (mkF m 39 #[.val (.int v0), .val (.int v1), .val (.int v2), .val (.int v3), .val (.int v4), .val (.int w3), .val (.int w9), .val (.ref b14), .unset, .unset, .unset, .unset, .unset] [])) rfl (hb hby at_39) (by decide) (by decide)
  obtain ⟨b26, ga26⟩ : ∃ z, z = T21.heap.size := ⟨_, rfl⟩
  rw [← ga26] at A26 D26 st26
  have ne27 : b14 ≠ b26 := Nat.ne_of_lt (Nat.lt_of_lt_of_le f24.lt (Nat.le_of_eq ga26.symm))
  have g28 : n0 ≤ b26 := Nat.le_trans f22 (Nat.le_of_eq ga26.symm)
  have f29 : n0 ≤ h26.size := Nat.le_trans f22 E26.1
  have f30 : Old Z n0 h26 := f23.ext E26
  have f31 : Exa Z h26 b14 "com/example/bracketeer/bracketeer/construction/Pair" := f24.ext E26
  have f32 : Fld Z h26 b14 "com/example/bracketeer/bracketeer/construction/Pair" "first" "I" (.int v0) := Fq21_0.ext E26
  have f33 : Fld Z h26 b14 "com/example/bracketeer/bracketeer/construction/Pair" "second" "I" (.int v1) := Fq21_1.ext E26
  have f34 : Fld Z h26 b26 "com/example/bracketeer/bracketeer/construction/Pair" "first" "I" (.int (0 : Int32)) := D26 (Or.inr (hw _ (List.mem_of_getElem? (i := 15) rfl))) (ty := .int) (by decide)
  have f35 : Fld Z h26 b26 "com/example/bracketeer/bracketeer/construction/Pair" "second" "I" (.int (0 : Int32)) := D26 (Or.inr (hw _ (List.mem_of_getElem? (i := 17) rfl))) (ty := .int) (by decide)
  have pre26 : Go p.tables e below (s₁.setTop (entryFrame m #[(.int v0), (.int v1), (.int v2), (.int v3), (.int v4)] maxLocals)) T26 (mkF m 42 #[.val (.int v0), .val (.int v1), .val (.int v2), .val (.int v3), .val (.int v4), .val (.int w3), .val (.int w9), .val (.ref b14), .unset, .unset, .unset, .unset, .unset] [(.ref b26)]) := fun t k => pre25 t (st26 _ k)
  have pre36 : Go p.tables e below (s₁.setTop (entryFrame m #[(.int v0), (.int v1), (.int v2), (.int v3), (.int v4)] maxLocals)) T26 (mkF m 47 #[.val (.int v0), .val (.int v1), .val (.int v2), .val (.int v3), .val (.int v4), .val (.int w3), .val (.int w9), .val (.ref b14), .unset, .unset, .unset, .unset, .unset] [(.int w9), (.int w3), (.ref b26), (.ref b26)]) := fun t k => pre26 t (by
      refine XS.dup X26.here hx rfl (hb hby at_42) rfl rfl ?_
      show Steps p.tables e below (T26.setTop (mkF m 43 #[.val (.int v0), .val (.int v1), .val (.int v2), .val (.int v3), .val (.int v4), .val (.int w3), .val (.int w9), .val (.ref b14), .unset, .unset, .unset, .unset, .unset] [(.ref b26), (.ref b26)])) _
      refine XS.iload X26.here hx rfl (hb hby at_43) rfl ?_
      show Steps p.tables e below (T26.setTop (mkF m 45 #[.val (.int v0), .val (.int v1), .val (.int v2), .val (.int v3), .val (.int v4), .val (.int w3), .val (.int w9), .val (.ref b14), .unset, .unset, .unset, .unset, .unset] [(.int w3), (.ref b26), (.ref b26)])) _
      refine XS.iload X26.here hx rfl (hb hby at_45) rfl ?_
      exact k)
  obtain ⟨_, _, ⟨T37, L37, k37, n37⟩, -, X37, ⟨Lc37, hQ37, l37, y37, z37⟩, st37⟩ := X26.specialBack hx (y := (⟨"com/example/bracketeer/bracketeer/construction/Pair", "<init>", "(II)V"⟩ : MethodName)) rfl hown (mvT hZ (hw _ (List.mem_of_getElem? (i := 3) rfl))) (mvT hZ (hw _ (List.mem_of_getElem? (i := 4) rfl))) (mvT hZ (hw _ (List.mem_of_getElem? (i := 5) rfl))) (by decide) (backOf (W := 1) (rm_ini l Z av0 hw [] b26 w3 w9 h26 n0 f29 f34 f35 A26 g28) hZ (hw _ (List.mem_of_getElem? (i := 5) rfl)) (hw _ (List.mem_of_getElem? (i := 2) rfl)) (by decide) (by decide)) (g := (mkF m 47 #[.val (.int v0), .val (.int v1), .val (.int v2), .val (.int v3), .val (.int v4), .val (.int w3), .val (.int w9), .val (.ref b14), .unset, .unset, .unset, .unset, .unset] [(.int w9), (.int w3), (.ref b26), (.ref b26)])) rfl (by rw [hml]; rfl) (Steps.refl _) (a := b26) (argsL := [(.int w3), (.int w9)]) (rest := [(.ref b26)]) (lenOf pd_2 rfl) rfl (by show 2 * 0 + _ ≤ _; exact Nat.le_of_eq rfl) (hb hby at_47) (fun _ _ => ⟨rfl, e26, (by decide : 2 + 0 ≤ _), (by decide : 4 + 0 ≤ _)⟩)
  dsimp only [Pt.U, Pt.locs, Pt.cells, Pt.slots] at X37 l37 y37 z37 st37 hQ37
  subst l37 y37 z37
  obtain ⟨rfl, N37q, K37, Eq37, Fq37_0, Fq37_1⟩ := hQ37
  have f38 : n0 ≤ T37.heap.size := Nat.le_trans f29 K37.1
  have f39 : Old Z n0 T37.heap := f30.keep K37 (allS g28 all0)
  have f40 : Exa Z T37.heap b14 "com/example/bracketeer/bracketeer/construction/Pair" := f31.keep K37
  have f41 : Fld Z T37.heap b14 "com/example/bracketeer/bracketeer/construction/Pair" "first" "I" (.int v0) := f32.keep K37 (ninS ne27 nin0)
  have f42 : Fld Z T37.heap b14 "com/example/bracketeer/bracketeer/construction/Pair" "second" "I" (.int v1) := f33.keep K37 (ninS ne27 nin0)
  have f43 : Exa Z T37.heap b26 "com/example/bracketeer/bracketeer/construction/Pair" := A26.keep K37
  have N37 := Fr.app N21 N37q
  have pre37 : Go p.tables e below (s₁.setTop (entryFrame m #[(.int v0), (.int v1), (.int v2), (.int v3), (.int v4)] maxLocals)) T37 (mkF m 50 #[.val (.int v0), .val (.int v1), .val (.int v2), .val (.int v3), .val (.int v4), .val (.int w3), .val (.int w9), .val (.ref b14), .unset, .unset, .unset, .unset, .unset] [(.ref b26)]) := fun t k => pre36 t (st37.trans k)
  have pre44 : Go p.tables e below (s₁.setTop (entryFrame m #[(.int v0), (.int v1), (.int v2), (.int v3), (.int v4)] maxLocals)) T37 (mkF m 55 #[.val (.int v0), .val (.int v1), .val (.int v2), .val (.int v3), .val (.int v4), .val (.int w3), .val (.int w9), .val (.ref b14), .val (.ref b26), .unset, .unset, .unset, .unset] [(.int v0), (.int w3)]) := fun t k => pre37 t (by
      refine XS.astore X37.here hx rfl (hb hby at_50) rfl rfl (l' := #[.val (.int v0), .val (.int v1), .val (.int v2), .val (.int v3), .val (.int v4), .val (.int w3), .val (.int w9), .val (.ref b14), .val (.ref b26), .unset, .unset, .unset, .unset]) rfl ?_
      show Steps p.tables e below (T37.setTop (mkF m 52 #[.val (.int v0), .val (.int v1), .val (.int v2), .val (.int v3), .val (.int v4), .val (.int w3), .val (.int w9), .val (.ref b14), .val (.ref b26), .unset, .unset, .unset, .unset] [])) _
      refine XS.iload X37.here hx rfl (hb hby at_52) rfl ?_
      show Steps p.tables e below (T37.setTop (mkF m 54 #[.val (.int v0), .val (.int v1), .val (.int v2), .val (.int v3), .val (.int v4), .val (.int w3), .val (.int w9), .val (.ref b14), .val (.ref b26), .unset, .unset, .unset, .unset] [(.int w3)])) _
      refine XS.iloadN X37.here hx rfl (hb hby at_54) rfl ?_
      exact k)
  obtain ⟨T45, L45, w46, X45, e45, N45, hw46, pre45⟩ : ∃ (T45 : State) (L45 : List Loc) (w46 : Int32), Stand p l e room_1 s m #[(.int v0), (.int v1), (.int v2), (.int v3), (.int v4)] below meth c T45 L45 2 4 ∧ T45.heap = T37.heap ∧ Fr n0 L45 ∧ w46 = (if w3 = v0 then (if w9 = v1 then (1 : Int32) else (0 : Int32)) else (0 : Int32)) ∧ Go p.tables e below (s₁.setTop (entryFrame m #[(.int v0), (.int v1), (.int v2), (.int v3), (.int v4)] maxLocals)) T45 (mkF m 69 #[.val (.int v0), .val (.int v1), .val (.int v2), .val (.int v3), .val (.int v4), .val (.int w3), .val (.int w9), .val (.ref b14), .val (.ref b26), .unset, .unset, .unset, .unset] [(.int w46)]) := by
    by_cases hc47 : w3 = v0
    · -- hc47: True
      have pre48 : Go p.tables e below (s₁.setTop (entryFrame m #[(.int v0), (.int v1), (.int v2), (.int v3), (.int v4)] maxLocals)) T37 (mkF m 61 #[.val (.int v0), .val (.int v1), .val (.int v2), .val (.int v3), .val (.int v4), .val (.int w3), .val (.int w9), .val (.ref b14), .val (.ref b26), .unset, .unset, .unset, .unset] [(.int v1), (.int w9)]) := fun t k => pre44 t (by
          refine XS.icmpNo X37.here hx rfl (hb hby at_55) rfl (teq hc47).2 ?_
          show Steps p.tables e below (T37.setTop (mkF m 58 #[.val (.int v0), .val (.int v1), .val (.int v2), .val (.int v3), .val (.int v4), .val (.int w3), .val (.int w9), .val (.ref b14), .val (.ref b26), .unset, .unset, .unset, .unset] [])) _
          refine XS.iload X37.here hx rfl (hb hby at_58) rfl ?_
          show Steps p.tables e below (T37.setTop (mkF m 60 #[.val (.int v0), .val (.int v1), .val (.int v2), .val (.int v3), .val (.int v4), .val (.int w3), .val (.int w9), .val (.ref b14), .val (.ref b26), .unset, .unset, .unset, .unset] [(.int w9)])) _
          refine XS.iloadN X37.here hx rfl (hb hby at_60) rfl ?_
          exact k)
      by_cases hc49 : w9 = v1
      · -- hc49: True
        have pre50 : Go p.tables e below (s₁.setTop (entryFrame m #[(.int v0), (.int v1), (.int v2), (.int v3), (.int v4)] maxLocals)) T37 (mkF m 69 #[.val (.int v0), .val (.int v1), .val (.int v2), .val (.int v3), .val (.int v4), .val (.int w3), .val (.int w9), .val (.ref b14), .val (.ref b26), .unset, .unset, .unset, .unset] [(.int (1 : Int32))]) := fun t k => pre48 t (by
            refine XS.icmpNo X37.here hx rfl (hb hby at_61) rfl (teq hc49).2 ?_
            show Steps p.tables e below (T37.setTop (mkF m 64 #[.val (.int v0), .val (.int v1), .val (.int v2), .val (.int v3), .val (.int v4), .val (.int w3), .val (.int w9), .val (.ref b14), .val (.ref b26), .unset, .unset, .unset, .unset] [])) _
            refine XS.iconst X37.here hx rfl (hb hby at_64) ?_
            show Steps p.tables e below (T37.setTop (mkF m 65 #[.val (.int v0), .val (.int v1), .val (.int v2), .val (.int v3), .val (.int v4), .val (.int w3), .val (.int w9), .val (.ref b14), .val (.ref b26), .unset, .unset, .unset, .unset] [(.int (1 : Int32))])) _
            refine XS.goto X37.here hx rfl (pc0 := 65) (pc' := 69) rfl (hb hby at_65) (by decide) (by decide) ?_
            exact k)
        refine ⟨_, _, _, X37, rfl, N37, ?_, pre50⟩
        · exact ((if_pos hc47).trans (if_pos hc49)).symm
      · -- hc49: False
        have pre51 : Go p.tables e below (s₁.setTop (entryFrame m #[(.int v0), (.int v1), (.int v2), (.int v3), (.int v4)] maxLocals)) T37 (mkF m 69 #[.val (.int v0), .val (.int v1), .val (.int v2), .val (.int v3), .val (.int v4), .val (.int w3), .val (.int w9), .val (.ref b14), .val (.ref b26), .unset, .unset, .unset, .unset] [(.int (0 : Int32))]) := fun t k => pre48 t (by
            refine XS.icmpYes X37.here hx rfl (pc0 := 61) (pc' := 68) rfl (hb hby at_61) rfl (feq hc49).2 (by decide) (by decide) ?_
            show Steps p.tables e below (T37.setTop (mkF m 68 #[.val (.int v0), .val (.int v1), .val (.int v2), .val (.int v3), .val (.int v4), .val (.int w3), .val (.int w9), .val (.ref b14), .val (.ref b26), .unset, .unset, .unset, .unset] [])) _
            refine XS.iconst X37.here hx rfl (hb hby at_68) ?_
            exact k)
        refine ⟨_, _, _, X37, rfl, N37, ?_, pre51⟩
        · exact ((if_pos hc47).trans (if_neg hc49)).symm
    · -- hc47: False
      have pre52 : Go p.tables e below (s₁.setTop (entryFrame m #[(.int v0), (.int v1), (.int v2), (.int v3), (.int v4)] maxLocals)) T37 (mkF m 69 #[.val (.int v0), .val (.int v1), .val (.int v2), .val (.int v3), .val (.int v4), .val (.int w3), .val (.int w9), .val (.ref b14), .val (.ref b26), .unset, .unset, .unset, .unset] [(.int (0 : Int32))]) := fun t k => pre44 t (by
          refine XS.icmpYes X37.here hx rfl (pc0 := 55) (pc' := 68) rfl (hb hby at_55) rfl (feq hc47).2 (by decide) (by decide) ?_
          show Steps p.tables e below (T37.setTop (mkF m 68 #[.val (.int v0), .val (.int v1), .val (.int v2), .val (.int v3), .val (.int v4), .val (.int w3), .val (.int w9), .val (.ref b14), .val (.ref b26), .unset, .unset, .unset, .unset] [])) _
          refine XS.iconst X37.here hx rfl (hb hby at_68) ?_
          exact k)
      refine ⟨_, _, _, X37, rfl, N37, ?_, pre52⟩
      · exact (if_neg hc47).symm
  have pre53 : Go p.tables e below (s₁.setTop (entryFrame m #[(.int v0), (.int v1), (.int v2), (.int v3), (.int v4)] maxLocals)) T45 (mkF m 75 #[.val (.int v0), .val (.int v1), .val (.int v2), .val (.int v3), .val (.int v4), .val (.int w3), .val (.int w9), .val (.ref b14), .val (.ref b26), .val (.int w46), .val .null, .unset, .unset] [(.int v0)]) := fun t k => pre45 t (by
      refine XS.istore X45.here hx rfl (hb hby at_69) rfl (l' := #[.val (.int v0), .val (.int v1), .val (.int v2), .val (.int v3), .val (.int v4), .val (.int w3), .val (.int w9), .val (.ref b14), .val (.ref b26), .val (.int w46), .unset, .unset, .unset]) rfl ?_
      show Steps p.tables e below (T45.setTop (mkF m 71 #[.val (.int v0), .val (.int v1), .val (.int v2), .val (.int v3), .val (.int v4), .val (.int w3), .val (.int w9), .val (.ref b14), .val (.ref b26), .val (.int w46), .unset, .unset, .unset] [])) _
      refine XS.aconstNull X45.here hx rfl (hb hby at_71) ?_
      show Steps p.tables e below (T45.setTop (mkF m 72 #[.val (.int v0), .val (.int v1), .val (.int v2), .val (.int v3), .val (.int v4), .val (.int w3), .val (.int w9), .val (.ref b14), .val (.ref b26), .val (.int w46), .unset, .unset, .unset] [.null])) _
      refine XS.astore X45.here hx rfl (hb hby at_72) rfl rfl (l' := #[.val (.int v0), .val (.int v1), .val (.int v2), .val (.int v3), .val (.int v4), .val (.int w3), .val (.int w9), .val (.ref b14), .val (.ref b26), .val (.int w46), .val .null, .unset, .unset]) rfl ?_
      show Steps p.tables e below (T45.setTop (mkF m 74 #[.val (.int v0), .val (.int v1), .val (.int v2), .val (.int v3), .val (.int v4), .val (.int w3), .val (.int w9), .val (.ref b14), .val (.ref b26), .val (.int w46), .val .null, .unset, .unset] [])) _
      refine XS.iloadN X45.here hx rfl (hb hby at_74) rfl ?_
      exact k)
  obtain ⟨_, _, ⟨T54, L54, k54, n54⟩, -, X54, ⟨Lc54, hQ54, l54, y54, z54⟩, st54⟩ := Jvm.LawKit.callS X45 hx (y := (⟨"java/lang/Integer", "valueOf", "(I)Ljava/lang/Integer;"⟩ : MethodName)) hown (mvT hZ (hw _ (List.mem_of_getElem? (i := 18) rfl))) (mvT hZ (hw _ (List.mem_of_getElem? (i := 19) rfl))) (mvT hZ (hw _ (List.mem_of_getElem? (i := 20) rfl))) (mvT hZ (hw _ (List.mem_of_getElem? (i := 21) rfl))) (by decide) (backOf (W := 0) (rm_box l Z av0 hw [] v0 ab cb vb T37.heap n0 f38 f39 S_high S_cache Bx) hZ (hw _ (List.mem_of_getElem? (i := 21) rfl)) (hw _ (List.mem_of_getElem? (i := 20) rfl)) (by decide) (by decide)) (g := (mkF m 75 #[.val (.int v0), .val (.int v1), .val (.int v2), .val (.int v3), .val (.int v4), .val (.int w3), .val (.int w9), .val (.ref b14), .val (.ref b26), .val (.int w46), .val .null, .unset, .unset] [(.int v0)])) rfl (by rw [hml]; rfl) (argsL := [(.int v0)]) (rest := []) (lenOf pd_3 rfl) rfl (by show 2 * 0 + _ ≤ _; exact Nat.le_of_eq rfl) (hb hby at_75) (fun _ _ => ⟨rfl, e45, (by decide : 2 + 1 ≤ _), (by decide : 4 + 1 ≤ _)⟩)
  dsimp only [Pt.U, Pt.locs, Pt.cells, Pt.slots] at X54 l54 y54 z54 st54 hQ54
  subst l54 y54 z54
  obtain ⟨bo54, rfl, N54q, K54, Eb54⟩ := hQ54
  have f55 : n0 ≤ T54.heap.size := Nat.le_trans f38 K54.1
  have f56 : Old Z n0 T54.heap := f39.keep K54 all0
  have f57 : Exa Z T54.heap b14 "com/example/bracketeer/bracketeer/construction/Pair" := f40.keep K54
  have f58 : Fld Z T54.heap b14 "com/example/bracketeer/bracketeer/construction/Pair" "first" "I" (.int v0) := f41.keep K54 nin0
  have f59 : Fld Z T54.heap b14 "com/example/bracketeer/bracketeer/construction/Pair" "second" "I" (.int v1) := f42.keep K54 nin0
  have f60 : Exa Z T54.heap b26 "com/example/bracketeer/bracketeer/construction/Pair" := f43.keep K54
  have f61 : Fld Z T54.heap b26 "com/example/bracketeer/bracketeer/construction/Pair" "first" "I" (.int w3) := Fq37_0.keep K54 nin0
  have f62 : Fld Z T54.heap b26 "com/example/bracketeer/bracketeer/construction/Pair" "second" "I" (.int w9) := Fq37_1.keep K54 nin0
  have N54 := Fr.app N45 N54q
  have pre54 : Go p.tables e below (s₁.setTop (entryFrame m #[(.int v0), (.int v1), (.int v2), (.int v3), (.int v4)] maxLocals)) T54 (mkF m 78 #[.val (.int v0), .val (.int v1), .val (.int v2), .val (.int v3), .val (.int v4), .val (.int w3), .val (.int w9), .val (.ref b14), .val (.ref b26), .val (.int w46), .val .null, .unset, .unset] [(.ref bo54)]) := fun t k => pre53 t (st54 _ k)
  have pre63 : Go p.tables e below (s₁.setTop (entryFrame m #[(.int v0), (.int v1), (.int v2), (.int v3), (.int v4)] maxLocals)) T54 (mkF m 84 #[.val (.int v0), .val (.int v1), .val (.int v2), .val (.int v3), .val (.int v4), .val (.int w3), .val (.int w9), .val (.ref b14), .val (.ref b26), .val (.int w46), .val .null, .val (.ref bo54), .unset] [(.ref b26), (.ref b14)]) := fun t k => pre54 t (by
      refine XS.astore X54.here hx rfl (hb hby at_78) rfl rfl (l' := #[.val (.int v0), .val (.int v1), .val (.int v2), .val (.int v3), .val (.int v4), .val (.int w3), .val (.int w9), .val (.ref b14), .val (.ref b26), .val (.int w46), .val .null, .val (.ref bo54), .unset]) rfl ?_
      show Steps p.tables e below (T54.setTop (mkF m 80 #[.val (.int v0), .val (.int v1), .val (.int v2), .val (.int v3), .val (.int v4), .val (.int w3), .val (.int w9), .val (.ref b14), .val (.ref b26), .val (.int w46), .val .null, .val (.ref bo54), .unset] [])) _
      refine XS.aload X54.here hx rfl (hb hby at_80) rfl rfl ?_
      show Steps p.tables e below (T54.setTop (mkF m 82 #[.val (.int v0), .val (.int v1), .val (.int v2), .val (.int v3), .val (.int v4), .val (.int w3), .val (.int w9), .val (.ref b14), .val (.ref b26), .val (.int w46), .val .null, .val (.ref bo54), .unset] [(.ref b14)])) _
      refine XS.aload X54.here hx rfl (hb hby at_82) rfl rfl ?_
      exact k)
  obtain ⟨cq64, kq64, q64a, q64b, q64c⟩ := isOf hZ rfl f57
  obtain ⟨_, _, ⟨T64, L64, k64, n64⟩, -, X64, ⟨Lc64, hQ64, l64, y64, z64⟩, st64⟩ := X54.virtualBack hx (y := (⟨"com/example/bracketeer/bracketeer/construction/Pair", "equals", "(Ljava/lang/Object;)Z"⟩ : MethodName)) (z := (⟨"com/example/bracketeer/bracketeer/construction/Pair", "equals", "(Ljava/lang/Object;)Z"⟩ : MethodName)) hown (mvT hZ (hw _ (List.mem_of_getElem? (i := 25) rfl))) (mvT hZ (hw _ (List.mem_of_getElem? (i := 26) rfl))) (notFace_of_selects (args := #[]) (mvT hZ (hw _ (List.mem_of_getElem? (i := 28) rfl)))) (mvT hZ (hw _ (List.mem_of_getElem? (i := 28) rfl))) (mvT hZ (hw _ (List.mem_of_getElem? (i := 27) rfl))) (by decide) (backOf (W := 0) (rm_eq1 l Z av0 hw [] b14 b26 v0 v1 w3 w9 T54.heap n0 f60 f58 f59 f61 f62) hZ (hw _ (List.mem_of_getElem? (i := 29) rfl)) (hw _ (List.mem_of_getElem? (i := 2) rfl)) (by decide) (by decide)) q64a q64c (g := (mkF m 84 #[.val (.int v0), .val (.int v1), .val (.int v2), .val (.int v3), .val (.int v4), .val (.int w3), .val (.int w9), .val (.ref b14), .val (.ref b26), .val (.int w46), .val .null, .val (.ref bo54), .unset] [(.ref b26), (.ref b14)])) rfl (by rw [hml]; rfl) (Steps.refl _) (argsL := [(.ref b26)]) (rest := []) (lenOf pd_4 rfl) rfl (by show 2 * 0 + _ ≤ _; exact Nat.le_of_eq rfl) (hb hby at_84) (fun _ _ => ⟨rfl, rfl, (by decide : 3 + 0 ≤ _), (by decide : 5 + 0 ≤ _)⟩)
  dsimp only [Pt.U, Pt.locs, Pt.cells, Pt.slots] at X64 l64 y64 z64 st64 hQ64
  subst l64 y64 z64
  obtain ⟨rfl, N64q, e64⟩ := hQ64
  have N64 := Fr.app N54 N64q
  have pre64 : Go p.tables e below (s₁.setTop (entryFrame m #[(.int v0), (.int v1), (.int v2), (.int v3), (.int v4)] maxLocals)) T64 (mkF m 87 #[.val (.int v0), .val (.int v1), .val (.int v2), .val (.int v3), .val (.int v4), .val (.int w3), .val (.int w9), .val (.ref b14), .val (.ref b26), .val (.int w46), .val .null, .val (.ref bo54), .unset] [(.int (own_eq v0 v1 w3 w9))]) := fun t k => pre63 t (st64.trans k)
  have pre65 : Go p.tables e below (s₁.setTop (entryFrame m #[(.int v0), (.int v1), (.int v2), (.int v3), (.int v4)] maxLocals)) T64 (mkF m 89 #[.val (.int v0), .val (.int v1), .val (.int v2), .val (.int v3), .val (.int v4), .val (.int w3), .val (.int w9), .val (.ref b14), .val (.ref b26), .val (.int w46), .val .null, .val (.ref bo54), .unset] [(.int w46), (.int (own_eq v0 v1 w3 w9))]) := fun t k => pre64 t (by
      refine XS.iload X64.here hx rfl (hb hby at_87) rfl ?_
      exact k)
  by_cases hc66 : (own_eq v0 v1 w3 w9) = w46
  · -- hc66: True
    have pre67 : Go p.tables e below (s₁.setTop (entryFrame m #[(.int v0), (.int v1), (.int v2), (.int v3), (.int v4)] maxLocals)) T64 (mkF m 108 #[.val (.int v0), .val (.int v1), .val (.int v2), .val (.int v3), .val (.int v4), .val (.int w3), .val (.int w9), .val (.ref b14), .val (.ref b26), .val (.int w46), .val .null, .val (.ref bo54), .val (.int (1 : Int32))] [(.ref b14), (.ref b26)]) := fun t k => pre65 t (by
        refine XS.icmpNo X64.here hx rfl (hb hby at_89) rfl (teq hc66).2 ?_
        show Steps p.tables e below (T64.setTop (mkF m 92 #[.val (.int v0), .val (.int v1), .val (.int v2), .val (.int v3), .val (.int v4), .val (.int w3), .val (.int w9), .val (.ref b14), .val (.ref b26), .val (.int w46), .val .null, .val (.ref bo54), .unset] [])) _
        refine XS.iconst X64.here hx rfl (hb hby at_92) ?_
        show Steps p.tables e below (T64.setTop (mkF m 93 #[.val (.int v0), .val (.int v1), .val (.int v2), .val (.int v3), .val (.int v4), .val (.int w3), .val (.int w9), .val (.ref b14), .val (.ref b26), .val (.int w46), .val .null, .val (.ref bo54), .unset] [(.int (1 : Int32))])) _
        refine XS.goto X64.here hx rfl (pc0 := 93) (pc' := 97) rfl (hb hby at_93) (by decide) (by decide) ?_
        show Steps p.tables e below (T64.setTop (mkF m 97 #[.val (.int v0), .val (.int v1), .val (.int v2), .val (.int v3), .val (.int v4), .val (.int w3), .val (.int w9), .val (.ref b14), .val (.ref b26), .val (.int w46), .val .null, .val (.ref bo54), .unset] [(.int (1 : Int32))])) _
        refine XS.istore X64.here hx rfl (hb hby at_97) rfl (l' := #[.val (.int v0), .val (.int v1), .val (.int v2), .val (.int v3), .val (.int v4), .val (.int w3), .val (.int w9), .val (.ref b14), .val (.ref b26), .val (.int w46), .val .null, .val (.ref bo54), .val (.int (1 : Int32))]) rfl ?_
        show Steps p.tables e below (T64.setTop (mkF m 99 #[.val (.int v0), .val (.int v1), .val (.int v2), .val (.int v3), .val (.int v4), .val (.int w3), .val (.int w9), .val (.ref b14), .val (.ref b26), .val (.int w46), .val .null, .val (.ref bo54), .val (.int (1 : Int32))] [])) _
        refine XS.iload X64.here hx rfl (hb hby at_99) rfl ?_
        show Steps p.tables e below (T64.setTop (mkF m 101 #[.val (.int v0), .val (.int v1), .val (.int v2), .val (.int v3), .val (.int v4), .val (.int w3), .val (.int w9), .val (.ref b14), .val (.ref b26), .val (.int w46), .val .null, .val (.ref bo54), .val (.int (1 : Int32))] [(.int (1 : Int32))])) _
        refine XS.ifNo X64.here hx rfl (hb hby at_101) rfl ((if0 _ _).trans (feq (by decide)).1) ?_
        show Steps p.tables e below (T64.setTop (mkF m 104 #[.val (.int v0), .val (.int v1), .val (.int v2), .val (.int v3), .val (.int v4), .val (.int w3), .val (.int w9), .val (.ref b14), .val (.ref b26), .val (.int w46), .val .null, .val (.ref bo54), .val (.int (1 : Int32))] [])) _
        refine XS.aload X64.here hx rfl (hb hby at_104) rfl rfl ?_
        show Steps p.tables e below (T64.setTop (mkF m 106 #[.val (.int v0), .val (.int v1), .val (.int v2), .val (.int v3), .val (.int v4), .val (.int w3), .val (.int w9), .val (.ref b14), .val (.ref b26), .val (.int w46), .val .null, .val (.ref bo54), .val (.int (1 : Int32))] [(.ref b26)])) _
        refine XS.aload X64.here hx rfl (hb hby at_106) rfl rfl ?_
        exact k)
    obtain ⟨cq68, kq68, q68a, q68b, q68c⟩ := isOf hZ e64 f60
    obtain ⟨_, _, ⟨T68, L68, k68, n68⟩, -, X68, ⟨Lc68, hQ68, l68, y68, z68⟩, st68⟩ := X64.virtualBack hx (y := (⟨"com/example/bracketeer/bracketeer/construction/Pair", "equals", "(Ljava/lang/Object;)Z"⟩ : MethodName)) (z := (⟨"com/example/bracketeer/bracketeer/construction/Pair", "equals", "(Ljava/lang/Object;)Z"⟩ : MethodName)) hown (mvT hZ (hw _ (List.mem_of_getElem? (i := 25) rfl))) (mvT hZ (hw _ (List.mem_of_getElem? (i := 26) rfl))) (notFace_of_selects (args := #[]) (mvT hZ (hw _ (List.mem_of_getElem? (i := 28) rfl)))) (mvT hZ (hw _ (List.mem_of_getElem? (i := 28) rfl))) (mvT hZ (hw _ (List.mem_of_getElem? (i := 27) rfl))) (by decide) (backOf (W := 0) (rm_eq1 l Z av0 hw [] b26 b14 w3 w9 v0 v1 T54.heap n0 f57 f61 f62 f58 f59) hZ (hw _ (List.mem_of_getElem? (i := 29) rfl)) (hw _ (List.mem_of_getElem? (i := 2) rfl)) (by decide) (by decide)) q68a q68c (g := (mkF m 108 #[.val (.int v0), .val (.int v1), .val (.int v2), .val (.int v3), .val (.int v4), .val (.int w3), .val (.int w9), .val (.ref b14), .val (.ref b26), .val (.int w46), .val .null, .val (.ref bo54), .val (.int (1 : Int32))] [(.ref b14), (.ref b26)])) rfl (by rw [hml]; rfl) (Steps.refl _) (argsL := [(.ref b14)]) (rest := []) (lenOf pd_4 rfl) rfl (by show 2 * 0 + _ ≤ _; exact Nat.le_of_eq rfl) (hb hby at_108) (fun _ _ => ⟨rfl, e64, (by decide : 3 + 0 ≤ _), (by decide : 5 + 0 ≤ _)⟩)
    dsimp only [Pt.U, Pt.locs, Pt.cells, Pt.slots] at X68 l68 y68 z68 st68 hQ68
    subst l68 y68 z68
    obtain ⟨rfl, N68q, e68⟩ := hQ68
    have N68 := Fr.app N64 N68q
    have pre68 : Go p.tables e below (s₁.setTop (entryFrame m #[(.int v0), (.int v1), (.int v2), (.int v3), (.int v4)] maxLocals)) T68 (mkF m 111 #[.val (.int v0), .val (.int v1), .val (.int v2), .val (.int v3), .val (.int v4), .val (.int w3), .val (.int w9), .val (.ref b14), .val (.ref b26), .val (.int w46), .val .null, .val (.ref bo54), .val (.int (1 : Int32))] [(.int (own_eq w3 w9 v0 v1))]) := fun t k => pre67 t (st68.trans k)
    have pre69 : Go p.tables e below (s₁.setTop (entryFrame m #[(.int v0), (.int v1), (.int v2), (.int v3), (.int v4)] maxLocals)) T68 (mkF m 113 #[.val (.int v0), .val (.int v1), .val (.int v2), .val (.int v3), .val (.int v4), .val (.int w3), .val (.int w9), .val (.ref b14), .val (.ref b26), .val (.int w46), .val .null, .val (.ref bo54), .val (.int (1 : Int32))] [(.int w46), (.int (own_eq w3 w9 v0 v1))]) := fun t k => pre68 t (by
        refine XS.iload X68.here hx rfl (hb hby at_111) rfl ?_
        exact k)
    by_cases hc70 : (own_eq w3 w9 v0 v1) = w46
    · -- hc70: True
      have pre71 : Go p.tables e below (s₁.setTop (entryFrame m #[(.int v0), (.int v1), (.int v2), (.int v3), (.int v4)] maxLocals)) T68 (mkF m 132 #[.val (.int v0), .val (.int v1), .val (.int v2), .val (.int v3), .val (.int v4), .val (.int w3), .val (.int w9), .val (.ref b14), .val (.ref b26), .val (.int w46), .val .null, .val (.ref bo54), .val (.int (1 : Int32))] [(.ref b14), (.ref b14)]) := fun t k => pre69 t (by
          refine XS.icmpNo X68.here hx rfl (hb hby at_113) rfl (teq hc70).2 ?_
          show Steps p.tables e below (T68.setTop (mkF m 116 #[.val (.int v0), .val (.int v1), .val (.int v2), .val (.int v3), .val (.int v4), .val (.int w3), .val (.int w9), .val (.ref b14), .val (.ref b26), .val (.int w46), .val .null, .val (.ref bo54), .val (.int (1 : Int32))] [])) _
          refine XS.iconst X68.here hx rfl (hb hby at_116) ?_
          show Steps p.tables e below (T68.setTop (mkF m 117 #[.val (.int v0), .val (.int v1), .val (.int v2), .val (.int v3), .val (.int v4), .val (.int w3), .val (.int w9), .val (.ref b14), .val (.ref b26), .val (.int w46), .val .null, .val (.ref bo54), .val (.int (1 : Int32))] [(.int (1 : Int32))])) _
          refine XS.goto X68.here hx rfl (pc0 := 117) (pc' := 121) rfl (hb hby at_117) (by decide) (by decide) ?_
          show Steps p.tables e below (T68.setTop (mkF m 121 #[.val (.int v0), .val (.int v1), .val (.int v2), .val (.int v3), .val (.int v4), .val (.int w3), .val (.int w9), .val (.ref b14), .val (.ref b26), .val (.int w46), .val .null, .val (.ref bo54), .val (.int (1 : Int32))] [(.int (1 : Int32))])) _
          refine XS.istore X68.here hx rfl (hb hby at_121) rfl (l' := #[.val (.int v0), .val (.int v1), .val (.int v2), .val (.int v3), .val (.int v4), .val (.int w3), .val (.int w9), .val (.ref b14), .val (.ref b26), .val (.int w46), .val .null, .val (.ref bo54), .val (.int (1 : Int32))]) rfl ?_
          show Steps p.tables e below (T68.setTop (mkF m 123 #[.val (.int v0), .val (.int v1), .val (.int v2), .val (.int v3), .val (.int v4), .val (.int w3), .val (.int w9), .val (.ref b14), .val (.ref b26), .val (.int w46), .val .null, .val (.ref bo54), .val (.int (1 : Int32))] [])) _
          refine XS.iload X68.here hx rfl (hb hby at_123) rfl ?_
          show Steps p.tables e below (T68.setTop (mkF m 125 #[.val (.int v0), .val (.int v1), .val (.int v2), .val (.int v3), .val (.int v4), .val (.int w3), .val (.int w9), .val (.ref b14), .val (.ref b26), .val (.int w46), .val .null, .val (.ref bo54), .val (.int (1 : Int32))] [(.int (1 : Int32))])) _
          refine XS.ifNo X68.here hx rfl (hb hby at_125) rfl ((if0 _ _).trans (feq (by decide)).1) ?_
          show Steps p.tables e below (T68.setTop (mkF m 128 #[.val (.int v0), .val (.int v1), .val (.int v2), .val (.int v3), .val (.int v4), .val (.int w3), .val (.int w9), .val (.ref b14), .val (.ref b26), .val (.int w46), .val .null, .val (.ref bo54), .val (.int (1 : Int32))] [])) _
          refine XS.aload X68.here hx rfl (hb hby at_128) rfl rfl ?_
          show Steps p.tables e below (T68.setTop (mkF m 130 #[.val (.int v0), .val (.int v1), .val (.int v2), .val (.int v3), .val (.int v4), .val (.int w3), .val (.int w9), .val (.ref b14), .val (.ref b26), .val (.int w46), .val .null, .val (.ref bo54), .val (.int (1 : Int32))] [(.ref b14)])) _
          refine XS.aload X68.here hx rfl (hb hby at_130) rfl rfl ?_
          exact k)
      obtain ⟨cq72, kq72, q72a, q72b, q72c⟩ := isOf hZ e68 f57
      obtain ⟨_, _, ⟨T72, L72, k72, n72⟩, -, X72, ⟨Lc72, hQ72, l72, y72, z72⟩, st72⟩ := X68.virtualBack hx (y := (⟨"com/example/bracketeer/bracketeer/construction/Pair", "equals", "(Ljava/lang/Object;)Z"⟩ : MethodName)) (z := (⟨"com/example/bracketeer/bracketeer/construction/Pair", "equals", "(Ljava/lang/Object;)Z"⟩ : MethodName)) hown (mvT hZ (hw _ (List.mem_of_getElem? (i := 25) rfl))) (mvT hZ (hw _ (List.mem_of_getElem? (i := 26) rfl))) (notFace_of_selects (args := #[]) (mvT hZ (hw _ (List.mem_of_getElem? (i := 28) rfl)))) (mvT hZ (hw _ (List.mem_of_getElem? (i := 28) rfl))) (mvT hZ (hw _ (List.mem_of_getElem? (i := 27) rfl))) (by decide) (backOf (W := 0) (rm_eq1 l Z av0 hw [] b14 b14 v0 v1 v0 v1 T54.heap n0 f57 f58 f59 f58 f59) hZ (hw _ (List.mem_of_getElem? (i := 29) rfl)) (hw _ (List.mem_of_getElem? (i := 2) rfl)) (by decide) (by decide)) q72a q72c (g := (mkF m 132 #[.val (.int v0), .val (.int v1), .val (.int v2), .val (.int v3), .val (.int v4), .val (.int w3), .val (.int w9), .val (.ref b14), .val (.ref b26), .val (.int w46), .val .null, .val (.ref bo54), .val (.int (1 : Int32))] [(.ref b14), (.ref b14)])) rfl (by rw [hml]; rfl) (Steps.refl _) (argsL := [(.ref b14)]) (rest := []) (lenOf pd_4 rfl) rfl (by show 2 * 0 + _ ≤ _; exact Nat.le_of_eq rfl) (hb hby at_132) (fun _ _ => ⟨rfl, e68, (by decide : 3 + 0 ≤ _), (by decide : 5 + 0 ≤ _)⟩)
      dsimp only [Pt.U, Pt.locs, Pt.cells, Pt.slots] at X72 l72 y72 z72 st72 hQ72
      subst l72 y72 z72
      obtain ⟨rfl, N72q, e72⟩ := hQ72
      have N72 := Fr.app N68 N72q
      have pre72 : Go p.tables e below (s₁.setTop (entryFrame m #[(.int v0), (.int v1), (.int v2), (.int v3), (.int v4)] maxLocals)) T72 (mkF m 135 #[.val (.int v0), .val (.int v1), .val (.int v2), .val (.int v3), .val (.int v4), .val (.int w3), .val (.int w9), .val (.ref b14), .val (.ref b26), .val (.int w46), .val .null, .val (.ref bo54), .val (.int (1 : Int32))] [(.int (own_eq v0 v1 v0 v1))]) := fun t k => pre71 t (st72.trans k)
      by_cases hc73 : (own_eq v0 v1 v0 v1) = (0 : Int32)
      · -- hc73: True
        have pre74 : Go p.tables e below (s₁.setTop (entryFrame m #[(.int v0), (.int v1), (.int v2), (.int v3), (.int v4)] maxLocals)) T72 (mkF m 191 #[.val (.int v0), .val (.int v1), .val (.int v2), .val (.int v3), .val (.int v4), .val (.int w3), .val (.int w9), .val (.ref b14), .val (.ref b26), .val (.int w46), .val .null, .val (.ref bo54), .val (.int (0 : Int32))] [(.int (0 : Int32))]) := fun t k => pre72 t (by
            refine XS.ifYes X72.here hx rfl (pc0 := 135) (pc' := 142) rfl (hb hby at_135) rfl ((if0 _ _).trans (teq hc73).1) (by decide) (by decide) ?_
            show Steps p.tables e below (T72.setTop (mkF m 142 #[.val (.int v0), .val (.int v1), .val (.int v2), .val (.int v3), .val (.int v4), .val (.int w3), .val (.int w9), .val (.ref b14), .val (.ref b26), .val (.int w46), .val .null, .val (.ref bo54), .val (.int (1 : Int32))] [])) _
            refine XS.iconst X72.here hx rfl (hb hby at_142) ?_
            show Steps p.tables e below (T72.setTop (mkF m 143 #[.val (.int v0), .val (.int v1), .val (.int v2), .val (.int v3), .val (.int v4), .val (.int w3), .val (.int w9), .val (.ref b14), .val (.ref b26), .val (.int w46), .val .null, .val (.ref bo54), .val (.int (1 : Int32))] [(.int (0 : Int32))])) _
            refine XS.istore X72.here hx rfl (hb hby at_143) rfl (l' := #[.val (.int v0), .val (.int v1), .val (.int v2), .val (.int v3), .val (.int v4), .val (.int w3), .val (.int w9), .val (.ref b14), .val (.ref b26), .val (.int w46), .val .null, .val (.ref bo54), .val (.int (0 : Int32))]) rfl ?_
            show Steps p.tables e below (T72.setTop (mkF m 145 #[.val (.int v0), .val (.int v1), .val (.int v2), .val (.int v3), .val (.int v4), .val (.int w3), .val (.int w9), .val (.ref b14), .val (.ref b26), .val (.int w46), .val .null, .val (.ref bo54), .val (.int (0 : Int32))] [])) _
            refine XS.iload X72.here hx rfl (hb hby at_145) rfl ?_
            show Steps p.tables e below (T72.setTop (mkF m 147 #[.val (.int v0), .val (.int v1), .val (.int v2), .val (.int v3), .val (.int v4), .val (.int w3), .val (.int w9), .val (.ref b14), .val (.ref b26), .val (.int w46), .val .null, .val (.ref bo54), .val (.int (0 : Int32))] [(.int (0 : Int32))])) _
            refine XS.ifYes X72.here hx rfl (pc0 := 147) (pc' := 164) rfl (hb hby at_147) rfl ((if0 _ _).trans (teq (by decide)).1) (by decide) (by decide) ?_
            show Steps p.tables e below (T72.setTop (mkF m 164 #[.val (.int v0), .val (.int v1), .val (.int v2), .val (.int v3), .val (.int v4), .val (.int w3), .val (.int w9), .val (.ref b14), .val (.ref b26), .val (.int w46), .val .null, .val (.ref bo54), .val (.int (0 : Int32))] [])) _
            refine XS.iconst X72.here hx rfl (hb hby at_164) ?_
            show Steps p.tables e below (T72.setTop (mkF m 165 #[.val (.int v0), .val (.int v1), .val (.int v2), .val (.int v3), .val (.int v4), .val (.int w3), .val (.int w9), .val (.ref b14), .val (.ref b26), .val (.int w46), .val .null, .val (.ref bo54), .val (.int (0 : Int32))] [(.int (0 : Int32))])) _
            refine XS.istore X72.here hx rfl (hb hby at_165) rfl (l' := #[.val (.int v0), .val (.int v1), .val (.int v2), .val (.int v3), .val (.int v4), .val (.int w3), .val (.int w9), .val (.ref b14), .val (.ref b26), .val (.int w46), .val .null, .val (.ref bo54), .val (.int (0 : Int32))]) rfl ?_
            show Steps p.tables e below (T72.setTop (mkF m 167 #[.val (.int v0), .val (.int v1), .val (.int v2), .val (.int v3), .val (.int v4), .val (.int w3), .val (.int w9), .val (.ref b14), .val (.ref b26), .val (.int w46), .val .null, .val (.ref bo54), .val (.int (0 : Int32))] [])) _
            refine XS.iload X72.here hx rfl (hb hby at_167) rfl ?_
            show Steps p.tables e below (T72.setTop (mkF m 169 #[.val (.int v0), .val (.int v1), .val (.int v2), .val (.int v3), .val (.int v4), .val (.int w3), .val (.int w9), .val (.ref b14), .val (.ref b26), .val (.int w46), .val .null, .val (.ref bo54), .val (.int (0 : Int32))] [(.int (0 : Int32))])) _
            refine XS.ifYes X72.here hx rfl (pc0 := 169) (pc' := 186) rfl (hb hby at_169) rfl ((if0 _ _).trans (teq (by decide)).1) (by decide) (by decide) ?_
            show Steps p.tables e below (T72.setTop (mkF m 186 #[.val (.int v0), .val (.int v1), .val (.int v2), .val (.int v3), .val (.int v4), .val (.int w3), .val (.int w9), .val (.ref b14), .val (.ref b26), .val (.int w46), .val .null, .val (.ref bo54), .val (.int (0 : Int32))] [])) _
            refine XS.iconst X72.here hx rfl (hb hby at_186) ?_
            show Steps p.tables e below (T72.setTop (mkF m 187 #[.val (.int v0), .val (.int v1), .val (.int v2), .val (.int v3), .val (.int v4), .val (.int w3), .val (.int w9), .val (.ref b14), .val (.ref b26), .val (.int w46), .val .null, .val (.ref bo54), .val (.int (0 : Int32))] [(.int (0 : Int32))])) _
            refine XS.istore X72.here hx rfl (hb hby at_187) rfl (l' := #[.val (.int v0), .val (.int v1), .val (.int v2), .val (.int v3), .val (.int v4), .val (.int w3), .val (.int w9), .val (.ref b14), .val (.ref b26), .val (.int w46), .val .null, .val (.ref bo54), .val (.int (0 : Int32))]) rfl ?_
            show Steps p.tables e below (T72.setTop (mkF m 189 #[.val (.int v0), .val (.int v1), .val (.int v2), .val (.int v3), .val (.int v4), .val (.int w3), .val (.int w9), .val (.ref b14), .val (.ref b26), .val (.int w46), .val .null, .val (.ref bo54), .val (.int (0 : Int32))] [])) _
            refine XS.iload X72.here hx rfl (hb hby at_189) rfl ?_
            exact k)
        obtain ⟨fs, hr, hrun, hended, hW, hsame⟩ := X72.leave (v := some (.int (0 : Int32))) (fun h => by rw [Bd.returns] at h; cases h) (BodyLoose.notSynchronized Bd)
        refine ⟨_, _, pre74 _ ?_, hrun, hended, _, _, rfl, ?_, ⟨_, rfl⟩, hW, hsame.mono (Nat.le_of_ble_eq_true rfl) (Nat.le_of_ble_eq_true rfl)⟩
        · exact retN X72 hx (t := .boolean) Bd.returns (by simp) (hb hby at_191) hr
        · show Q_law Z v0 v1 v2 v3 v4 ab cb vb h0 n0 _ T72.heap _
          rw [e72]
          exfalso
          subst hw46 hw9 hw3
          revert hc73
          simp [own_eq, eq_comm]
      · -- hc73: False
        have pre75 : Go p.tables e below (s₁.setTop (entryFrame m #[(.int v0), (.int v1), (.int v2), (.int v3), (.int v4)] maxLocals)) T72 (mkF m 154 #[.val (.int v0), .val (.int v1), .val (.int v2), .val (.int v3), .val (.int v4), .val (.int w3), .val (.int w9), .val (.ref b14), .val (.ref b26), .val (.int w46), .val .null, .val (.ref bo54), .val (.int (1 : Int32))] [.null, (.ref b14)]) := fun t k => pre72 t (by
            refine XS.ifNo X72.here hx rfl (hb hby at_135) rfl ((if0 _ _).trans (feq hc73).1) ?_
            show Steps p.tables e below (T72.setTop (mkF m 138 #[.val (.int v0), .val (.int v1), .val (.int v2), .val (.int v3), .val (.int v4), .val (.int w3), .val (.int w9), .val (.ref b14), .val (.ref b26), .val (.int w46), .val .null, .val (.ref bo54), .val (.int (1 : Int32))] [])) _
            refine XS.iconst X72.here hx rfl (hb hby at_138) ?_
            show Steps p.tables e below (T72.setTop (mkF m 139 #[.val (.int v0), .val (.int v1), .val (.int v2), .val (.int v3), .val (.int v4), .val (.int w3), .val (.int w9), .val (.ref b14), .val (.ref b26), .val (.int w46), .val .null, .val (.ref bo54), .val (.int (1 : Int32))] [(.int (1 : Int32))])) _
            refine XS.goto X72.here hx rfl (pc0 := 139) (pc' := 143) rfl (hb hby at_139) (by decide) (by decide) ?_
            show Steps p.tables e below (T72.setTop (mkF m 143 #[.val (.int v0), .val (.int v1), .val (.int v2), .val (.int v3), .val (.int v4), .val (.int w3), .val (.int w9), .val (.ref b14), .val (.ref b26), .val (.int w46), .val .null, .val (.ref bo54), .val (.int (1 : Int32))] [(.int (1 : Int32))])) _
            refine XS.istore X72.here hx rfl (hb hby at_143) rfl (l' := #[.val (.int v0), .val (.int v1), .val (.int v2), .val (.int v3), .val (.int v4), .val (.int w3), .val (.int w9), .val (.ref b14), .val (.ref b26), .val (.int w46), .val .null, .val (.ref bo54), .val (.int (1 : Int32))]) rfl ?_
            show Steps p.tables e below (T72.setTop (mkF m 145 #[.val (.int v0), .val (.int v1), .val (.int v2), .val (.int v3), .val (.int v4), .val (.int w3), .val (.int w9), .val (.ref b14), .val (.ref b26), .val (.int w46), .val .null, .val (.ref bo54), .val (.int (1 : Int32))] [])) _
            refine XS.iload X72.here hx rfl (hb hby at_145) rfl ?_
            show Steps p.tables e below (T72.setTop (mkF m 147 #[.val (.int v0), .val (.int v1), .val (.int v2), .val (.int v3), .val (.int v4), .val (.int w3), .val (.int w9), .val (.ref b14), .val (.ref b26), .val (.int w46), .val .null, .val (.ref bo54), .val (.int (1 : Int32))] [(.int (1 : Int32))])) _
            refine XS.ifNo X72.here hx rfl (hb hby at_147) rfl ((if0 _ _).trans (feq (by decide)).1) ?_
            show Steps p.tables e below (T72.setTop (mkF m 150 #[.val (.int v0), .val (.int v1), .val (.int v2), .val (.int v3), .val (.int v4), .val (.int w3), .val (.int w9), .val (.ref b14), .val (.ref b26), .val (.int w46), .val .null, .val (.ref bo54), .val (.int (1 : Int32))] [])) _
            refine XS.aload X72.here hx rfl (hb hby at_150) rfl rfl ?_
            show Steps p.tables e below (T72.setTop (mkF m 152 #[.val (.int v0), .val (.int v1), .val (.int v2), .val (.int v3), .val (.int v4), .val (.int w3), .val (.int w9), .val (.ref b14), .val (.ref b26), .val (.int w46), .val .null, .val (.ref bo54), .val (.int (1 : Int32))] [(.ref b14)])) _
            refine XS.aload X72.here hx rfl (hb hby at_152) rfl rfl ?_
            exact k)
        obtain ⟨cq76, kq76, q76a, q76b, q76c⟩ := isOf hZ e72 f57
        obtain ⟨_, _, ⟨T76, L76, k76, n76⟩, -, X76, ⟨Lc76, hQ76, l76, y76, z76⟩, st76⟩ := X72.virtualBack hx (y := (⟨"com/example/bracketeer/bracketeer/construction/Pair", "equals", "(Ljava/lang/Object;)Z"⟩ : MethodName)) (z := (⟨"com/example/bracketeer/bracketeer/construction/Pair", "equals", "(Ljava/lang/Object;)Z"⟩ : MethodName)) hown (mvT hZ (hw _ (List.mem_of_getElem? (i := 25) rfl))) (mvT hZ (hw _ (List.mem_of_getElem? (i := 26) rfl))) (notFace_of_selects (args := #[]) (mvT hZ (hw _ (List.mem_of_getElem? (i := 28) rfl)))) (mvT hZ (hw _ (List.mem_of_getElem? (i := 28) rfl))) (mvT hZ (hw _ (List.mem_of_getElem? (i := 27) rfl))) (by decide) (backOf (W := 0) (rm_eq2 l Z av0 hw [] b14 T54.heap n0) hZ (hw _ (List.mem_of_getElem? (i := 29) rfl)) (hw _ (List.mem_of_getElem? (i := 2) rfl)) (by decide) (by decide)) q76a q76c (g := (mkF m 154 #[.val (.int v0), .val (.int v1), .val (.int v2), .val (.int v3), .val (.int v4), .val (.int w3), .val (.int w9), .val (.ref b14), .val (.ref b26), .val (.int w46), .val .null, .val (.ref bo54), .val (.int (1 : Int32))] [.null, (.ref b14)])) rfl (by rw [hml]; rfl) (Steps.refl _) (argsL := [.null]) (rest := []) (lenOf pd_4 rfl) rfl (by show 2 * 0 + _ ≤ _; exact Nat.le_of_eq rfl) (hb hby at_154) (fun _ _ => ⟨rfl, e72, (by decide : 3 + 0 ≤ _), (by decide : 5 + 0 ≤ _)⟩)
        dsimp only [Pt.U, Pt.locs, Pt.cells, Pt.slots] at X76 l76 y76 z76 st76 hQ76
        subst l76 y76 z76
        obtain ⟨rfl, N76q, e76⟩ := hQ76
        have N76 := Fr.app N72 N76q
        have pre76 : Go p.tables e below (s₁.setTop (entryFrame m #[(.int v0), (.int v1), (.int v2), (.int v3), (.int v4)] maxLocals)) T76 (mkF m 157 #[.val (.int v0), .val (.int v1), .val (.int v2), .val (.int v3), .val (.int v4), .val (.int w3), .val (.int w9), .val (.ref b14), .val (.ref b26), .val (.int w46), .val .null, .val (.ref bo54), .val (.int (1 : Int32))] [(.int (0 : Int32))]) := fun t k => pre75 t (st76.trans k)
        have pre77 : Go p.tables e below (s₁.setTop (entryFrame m #[(.int v0), (.int v1), (.int v2), (.int v3), (.int v4)] maxLocals)) T76 (mkF m 176 #[.val (.int v0), .val (.int v1), .val (.int v2), .val (.int v3), .val (.int v4), .val (.int w3), .val (.int w9), .val (.ref b14), .val (.ref b26), .val (.int w46), .val .null, .val (.ref bo54), .val (.int (1 : Int32))] [(.ref bo54), (.ref b14)]) := fun t k => pre76 t (by
            refine XS.ifNo X76.here hx rfl (hb hby at_157) rfl ((if0 _ _).trans (teq (by decide)).2) ?_
            show Steps p.tables e below (T76.setTop (mkF m 160 #[.val (.int v0), .val (.int v1), .val (.int v2), .val (.int v3), .val (.int v4), .val (.int w3), .val (.int w9), .val (.ref b14), .val (.ref b26), .val (.int w46), .val .null, .val (.ref bo54), .val (.int (1 : Int32))] [])) _
            refine XS.iconst X76.here hx rfl (hb hby at_160) ?_
            show Steps p.tables e below (T76.setTop (mkF m 161 #[.val (.int v0), .val (.int v1), .val (.int v2), .val (.int v3), .val (.int v4), .val (.int w3), .val (.int w9), .val (.ref b14), .val (.ref b26), .val (.int w46), .val .null, .val (.ref bo54), .val (.int (1 : Int32))] [(.int (1 : Int32))])) _
            refine XS.goto X76.here hx rfl (pc0 := 161) (pc' := 165) rfl (hb hby at_161) (by decide) (by decide) ?_
            show Steps p.tables e below (T76.setTop (mkF m 165 #[.val (.int v0), .val (.int v1), .val (.int v2), .val (.int v3), .val (.int v4), .val (.int w3), .val (.int w9), .val (.ref b14), .val (.ref b26), .val (.int w46), .val .null, .val (.ref bo54), .val (.int (1 : Int32))] [(.int (1 : Int32))])) _
            refine XS.istore X76.here hx rfl (hb hby at_165) rfl (l' := #[.val (.int v0), .val (.int v1), .val (.int v2), .val (.int v3), .val (.int v4), .val (.int w3), .val (.int w9), .val (.ref b14), .val (.ref b26), .val (.int w46), .val .null, .val (.ref bo54), .val (.int (1 : Int32))]) rfl ?_
            show Steps p.tables e below (T76.setTop (mkF m 167 #[.val (.int v0), .val (.int v1), .val (.int v2), .val (.int v3), .val (.int v4), .val (.int w3), .val (.int w9), .val (.ref b14), .val (.ref b26), .val (.int w46), .val .null, .val (.ref bo54), .val (.int (1 : Int32))] [])) _
            refine XS.iload X76.here hx rfl (hb hby at_167) rfl ?_
            show Steps p.tables e below (T76.setTop (mkF m 169 #[.val (.int v0), .val (.int v1), .val (.int v2), .val (.int v3), .val (.int v4), .val (.int w3), .val (.int w9), .val (.ref b14), .val (.ref b26), .val (.int w46), .val .null, .val (.ref bo54), .val (.int (1 : Int32))] [(.int (1 : Int32))])) _
            refine XS.ifNo X76.here hx rfl (hb hby at_169) rfl ((if0 _ _).trans (feq (by decide)).1) ?_
            show Steps p.tables e below (T76.setTop (mkF m 172 #[.val (.int v0), .val (.int v1), .val (.int v2), .val (.int v3), .val (.int v4), .val (.int w3), .val (.int w9), .val (.ref b14), .val (.ref b26), .val (.int w46), .val .null, .val (.ref bo54), .val (.int (1 : Int32))] [])) _
            refine XS.aload X76.here hx rfl (hb hby at_172) rfl rfl ?_
            show Steps p.tables e below (T76.setTop (mkF m 174 #[.val (.int v0), .val (.int v1), .val (.int v2), .val (.int v3), .val (.int v4), .val (.int w3), .val (.int w9), .val (.ref b14), .val (.ref b26), .val (.int w46), .val .null, .val (.ref bo54), .val (.int (1 : Int32))] [(.ref b14)])) _
            refine XS.aload X76.here hx rfl (hb hby at_174) rfl rfl ?_
            exact k)
        obtain ⟨cq78, kq78, q78a, q78b, q78c⟩ := isOf hZ e76 f57
        obtain ⟨_, _, ⟨T78, L78, k78, n78⟩, -, X78, ⟨Lc78, hQ78, l78, y78, z78⟩, st78⟩ := X76.virtualBack hx (y := (⟨"com/example/bracketeer/bracketeer/construction/Pair", "equals", "(Ljava/lang/Object;)Z"⟩ : MethodName)) (z := (⟨"com/example/bracketeer/bracketeer/construction/Pair", "equals", "(Ljava/lang/Object;)Z"⟩ : MethodName)) hown (mvT hZ (hw _ (List.mem_of_getElem? (i := 25) rfl))) (mvT hZ (hw _ (List.mem_of_getElem? (i := 26) rfl))) (notFace_of_selects (args := #[]) (mvT hZ (hw _ (List.mem_of_getElem? (i := 28) rfl)))) (mvT hZ (hw _ (List.mem_of_getElem? (i := 28) rfl))) (mvT hZ (hw _ (List.mem_of_getElem? (i := 27) rfl))) (by decide) (backOf (W := 0) (rm_eq3 l Z av0 hw [] b14 bo54 T54.heap n0 Eb54) hZ (hw _ (List.mem_of_getElem? (i := 29) rfl)) (hw _ (List.mem_of_getElem? (i := 2) rfl)) (by decide) (by decide)) q78a q78c (g := (mkF m 176 #[.val (.int v0), .val (.int v1), .val (.int v2), .val (.int v3), .val (.int v4), .val (.int w3), .val (.int w9), .val (.ref b14), .val (.ref b26), .val (.int w46), .val .null, .val (.ref bo54), .val (.int (1 : Int32))] [(.ref bo54), (.ref b14)])) rfl (by rw [hml]; rfl) (Steps.refl _) (argsL := [(.ref bo54)]) (rest := []) (lenOf pd_4 rfl) rfl (by show 2 * 0 + _ ≤ _; exact Nat.le_of_eq rfl) (hb hby at_176) (fun _ _ => ⟨rfl, e76, (by decide : 3 + 0 ≤ _), (by decide : 5 + 0 ≤ _)⟩)
        dsimp only [Pt.U, Pt.locs, Pt.cells, Pt.slots] at X78 l78 y78 z78 st78 hQ78
        subst l78 y78 z78
        obtain ⟨rfl, N78q, e78⟩ := hQ78
        have N78 := Fr.app N76 N78q
        have pre78 : Go p.tables e below (s₁.setTop (entryFrame m #[(.int v0), (.int v1), (.int v2), (.int v3), (.int v4)] maxLocals)) T78 (mkF m 179 #[.val (.int v0), .val (.int v1), .val (.int v2), .val (.int v3), .val (.int v4), .val (.int w3), .val (.int w9), .val (.ref b14), .val (.ref b26), .val (.int w46), .val .null, .val (.ref bo54), .val (.int (1 : Int32))] [(.int (0 : Int32))]) := fun t k => pre77 t (st78.trans k)
        have pre79 : Go p.tables e below (s₁.setTop (entryFrame m #[(.int v0), (.int v1), (.int v2), (.int v3), (.int v4)] maxLocals)) T78 (mkF m 191 #[.val (.int v0), .val (.int v1), .val (.int v2), .val (.int v3), .val (.int v4), .val (.int w3), .val (.int w9), .val (.ref b14), .val (.ref b26), .val (.int w46), .val .null, .val (.ref bo54), .val (.int (1 : Int32))] [(.int (1 : Int32))]) := fun t k => pre78 t (by
            refine XS.ifNo X78.here hx rfl (hb hby at_179) rfl ((if0 _ _).trans (teq (by decide)).2) ?_
            show Steps p.tables e below (T78.setTop (mkF m 182 #[.val (.int v0), .val (.int v1), .val (.int v2), .val (.int v3), .val (.int v4), .val (.int w3), .val (.int w9), .val (.ref b14), .val (.ref b26), .val (.int w46), .val .null, .val (.ref bo54), .val (.int (1 : Int32))] [])) _
            refine XS.iconst X78.here hx rfl (hb hby at_182) ?_
            show Steps p.tables e below (T78.setTop (mkF m 183 #[.val (.int v0), .val (.int v1), .val (.int v2), .val (.int v3), .val (.int v4), .val (.int w3), .val (.int w9), .val (.ref b14), .val (.ref b26), .val (.int w46), .val .null, .val (.ref bo54), .val (.int (1 : Int32))] [(.int (1 : Int32))])) _
            refine XS.goto X78.here hx rfl (pc0 := 183) (pc' := 187) rfl (hb hby at_183) (by decide) (by decide) ?_
            show Steps p.tables e below (T78.setTop (mkF m 187 #[.val (.int v0), .val (.int v1), .val (.int v2), .val (.int v3), .val (.int v4), .val (.int w3), .val (.int w9), .val (.ref b14), .val (.ref b26), .val (.int w46), .val .null, .val (.ref bo54), .val (.int (1 : Int32))] [(.int (1 : Int32))])) _
            refine XS.istore X78.here hx rfl (hb hby at_187) rfl (l' := #[.val (.int v0), .val (.int v1), .val (.int v2), .val (.int v3), .val (.int v4), .val (.int w3), .val (.int w9), .val (.ref b14), .val (.ref b26), .val (.int w46), .val .null, .val (.ref bo54), .val (.int (1 : Int32))]) rfl ?_
            show Steps p.tables e below (T78.setTop (mkF m 189 #[.val (.int v0), .val (.int v1), .val (.int v2), .val (.int v3), .val (.int v4), .val (.int w3), .val (.int w9), .val (.ref b14), .val (.ref b26), .val (.int w46), .val .null, .val (.ref bo54), .val (.int (1 : Int32))] [])) _
            refine XS.iload X78.here hx rfl (hb hby at_189) rfl ?_
            exact k)
        obtain ⟨fs, hr, hrun, hended, hW, hsame⟩ := X78.leave (v := some (.int (1 : Int32))) (fun h => by rw [Bd.returns] at h; cases h) (BodyLoose.notSynchronized Bd)
        refine ⟨_, _, pre79 _ ?_, hrun, hended, _, _, rfl, ?_, ⟨_, rfl⟩, hW, hsame.mono (Nat.le_of_ble_eq_true rfl) (Nat.le_of_ble_eq_true rfl)⟩
        · exact retN X78 hx (t := .boolean) Bd.returns (by simp) (hb hby at_191) hr
        · show Q_law Z v0 v1 v2 v3 v4 ab cb vb h0 n0 _ T78.heap _
          rw [e78]
          exact ⟨rfl, N78⟩
    · -- hc70: False
      have pre80 : Go p.tables e below (s₁.setTop (entryFrame m #[(.int v0), (.int v1), (.int v2), (.int v3), (.int v4)] maxLocals)) T68 (mkF m 191 #[.val (.int v0), .val (.int v1), .val (.int v2), .val (.int v3), .val (.int v4), .val (.int w3), .val (.int w9), .val (.ref b14), .val (.ref b26), .val (.int w46), .val .null, .val (.ref bo54), .val (.int (0 : Int32))] [(.int (0 : Int32))]) := fun t k => pre69 t (by
          refine XS.icmpYes X68.here hx rfl (pc0 := 113) (pc' := 120) rfl (hb hby at_113) rfl (feq hc70).2 (by decide) (by decide) ?_
          show Steps p.tables e below (T68.setTop (mkF m 120 #[.val (.int v0), .val (.int v1), .val (.int v2), .val (.int v3), .val (.int v4), .val (.int w3), .val (.int w9), .val (.ref b14), .val (.ref b26), .val (.int w46), .val .null, .val (.ref bo54), .val (.int (1 : Int32))] [])) _
          refine XS.iconst X68.here hx rfl (hb hby at_120) ?_
          show Steps p.tables e below (T68.setTop (mkF m 121 #[.val (.int v0), .val (.int v1), .val (.int v2), .val (.int v3), .val (.int v4), .val (.int w3), .val (.int w9), .val (.ref b14), .val (.ref b26), .val (.int w46), .val .null, .val (.ref bo54), .val (.int (1 : Int32))] [(.int (0 : Int32))])) _
          refine XS.istore X68.here hx rfl (hb hby at_121) rfl (l' := #[.val (.int v0), .val (.int v1), .val (.int v2), .val (.int v3), .val (.int v4), .val (.int w3), .val (.int w9), .val (.ref b14), .val (.ref b26), .val (.int w46), .val .null, .val (.ref bo54), .val (.int (0 : Int32))]) rfl ?_
          show Steps p.tables e below (T68.setTop (mkF m 123 #[.val (.int v0), .val (.int v1), .val (.int v2), .val (.int v3), .val (.int v4), .val (.int w3), .val (.int w9), .val (.ref b14), .val (.ref b26), .val (.int w46), .val .null, .val (.ref bo54), .val (.int (0 : Int32))] [])) _
          refine XS.iload X68.here hx rfl (hb hby at_123) rfl ?_
          show Steps p.tables e below (T68.setTop (mkF m 125 #[.val (.int v0), .val (.int v1), .val (.int v2), .val (.int v3), .val (.int v4), .val (.int w3), .val (.int w9), .val (.ref b14), .val (.ref b26), .val (.int w46), .val .null, .val (.ref bo54), .val (.int (0 : Int32))] [(.int (0 : Int32))])) _
          refine XS.ifYes X68.here hx rfl (pc0 := 125) (pc' := 142) rfl (hb hby at_125) rfl ((if0 _ _).trans (teq (by decide)).1) (by decide) (by decide) ?_
          show Steps p.tables e below (T68.setTop (mkF m 142 #[.val (.int v0), .val (.int v1), .val (.int v2), .val (.int v3), .val (.int v4), .val (.int w3), .val (.int w9), .val (.ref b14), .val (.ref b26), .val (.int w46), .val .null, .val (.ref bo54), .val (.int (0 : Int32))] [])) _
          refine XS.iconst X68.here hx rfl (hb hby at_142) ?_
          show Steps p.tables e below (T68.setTop (mkF m 143 #[.val (.int v0), .val (.int v1), .val (.int v2), .val (.int v3), .val (.int v4), .val (.int w3), .val (.int w9), .val (.ref b14), .val (.ref b26), .val (.int w46), .val .null, .val (.ref bo54), .val (.int (0 : Int32))] [(.int (0 : Int32))])) _
          refine XS.istore X68.here hx rfl (hb hby at_143) rfl (l' := #[.val (.int v0), .val (.int v1), .val (.int v2), .val (.int v3), .val (.int v4), .val (.int w3), .val (.int w9), .val (.ref b14), .val (.ref b26), .val (.int w46), .val .null, .val (.ref bo54), .val (.int (0 : Int32))]) rfl ?_
          show Steps p.tables e below (T68.setTop (mkF m 145 #[.val (.int v0), .val (.int v1), .val (.int v2), .val (.int v3), .val (.int v4), .val (.int w3), .val (.int w9), .val (.ref b14), .val (.ref b26), .val (.int w46), .val .null, .val (.ref bo54), .val (.int (0 : Int32))] [])) _
          refine XS.iload X68.here hx rfl (hb hby at_145) rfl ?_
          show Steps p.tables e below (T68.setTop (mkF m 147 #[.val (.int v0), .val (.int v1), .val (.int v2), .val (.int v3), .val (.int v4), .val (.int w3), .val (.int w9), .val (.ref b14), .val (.ref b26), .val (.int w46), .val .null, .val (.ref bo54), .val (.int (0 : Int32))] [(.int (0 : Int32))])) _
          refine XS.ifYes X68.here hx rfl (pc0 := 147) (pc' := 164) rfl (hb hby at_147) rfl ((if0 _ _).trans (teq (by decide)).1) (by decide) (by decide) ?_
          show Steps p.tables e below (T68.setTop (mkF m 164 #[.val (.int v0), .val (.int v1), .val (.int v2), .val (.int v3), .val (.int v4), .val (.int w3), .val (.int w9), .val (.ref b14), .val (.ref b26), .val (.int w46), .val .null, .val (.ref bo54), .val (.int (0 : Int32))] [])) _
          refine XS.iconst X68.here hx rfl (hb hby at_164) ?_
          show Steps p.tables e below (T68.setTop (mkF m 165 #[.val (.int v0), .val (.int v1), .val (.int v2), .val (.int v3), .val (.int v4), .val (.int w3), .val (.int w9), .val (.ref b14), .val (.ref b26), .val (.int w46), .val .null, .val (.ref bo54), .val (.int (0 : Int32))] [(.int (0 : Int32))])) _
          refine XS.istore X68.here hx rfl (hb hby at_165) rfl (l' := #[.val (.int v0), .val (.int v1), .val (.int v2), .val (.int v3), .val (.int v4), .val (.int w3), .val (.int w9), .val (.ref b14), .val (.ref b26), .val (.int w46), .val .null, .val (.ref bo54), .val (.int (0 : Int32))]) rfl ?_
          show Steps p.tables e below (T68.setTop (mkF m 167 #[.val (.int v0), .val (.int v1), .val (.int v2), .val (.int v3), .val (.int v4), .val (.int w3), .val (.int w9), .val (.ref b14), .val (.ref b26), .val (.int w46), .val .null, .val (.ref bo54), .val (.int (0 : Int32))] [])) _
          refine XS.iload X68.here hx rfl (hb hby at_167) rfl ?_
          show Steps p.tables e below (T68.setTop (mkF m 169 #[.val (.int v0), .val (.int v1), .val (.int v2), .val (.int v3), .val (.int v4), .val (.int w3), .val (.int w9), .val (.ref b14), .val (.ref b26), .val (.int w46), .val .null, .val (.ref bo54), .val (.int (0 : Int32))] [(.int (0 : Int32))])) _
          refine XS.ifYes X68.here hx rfl (pc0 := 169) (pc' := 186) rfl (hb hby at_169) rfl ((if0 _ _).trans (teq (by decide)).1) (by decide) (by decide) ?_
          show Steps p.tables e below (T68.setTop (mkF m 186 #[.val (.int v0), .val (.int v1), .val (.int v2), .val (.int v3), .val (.int v4), .val (.int w3), .val (.int w9), .val (.ref b14), .val (.ref b26), .val (.int w46), .val .null, .val (.ref bo54), .val (.int (0 : Int32))] [])) _
          refine XS.iconst X68.here hx rfl (hb hby at_186) ?_
          show Steps p.tables e below (T68.setTop (mkF m 187 #[.val (.int v0), .val (.int v1), .val (.int v2), .val (.int v3), .val (.int v4), .val (.int w3), .val (.int w9), .val (.ref b14), .val (.ref b26), .val (.int w46), .val .null, .val (.ref bo54), .val (.int (0 : Int32))] [(.int (0 : Int32))])) _
          refine XS.istore X68.here hx rfl (hb hby at_187) rfl (l' := #[.val (.int v0), .val (.int v1), .val (.int v2), .val (.int v3), .val (.int v4), .val (.int w3), .val (.int w9), .val (.ref b14), .val (.ref b26), .val (.int w46), .val .null, .val (.ref bo54), .val (.int (0 : Int32))]) rfl ?_
          show Steps p.tables e below (T68.setTop (mkF m 189 #[.val (.int v0), .val (.int v1), .val (.int v2), .val (.int v3), .val (.int v4), .val (.int w3), .val (.int w9), .val (.ref b14), .val (.ref b26), .val (.int w46), .val .null, .val (.ref bo54), .val (.int (0 : Int32))] [])) _
          refine XS.iload X68.here hx rfl (hb hby at_189) rfl ?_
          exact k)
      obtain ⟨fs, hr, hrun, hended, hW, hsame⟩ := X68.leave (v := some (.int (0 : Int32))) (fun h => by rw [Bd.returns] at h; cases h) (BodyLoose.notSynchronized Bd)
      refine ⟨_, _, pre80 _ ?_, hrun, hended, _, _, rfl, ?_, ⟨_, rfl⟩, hW, hsame.mono (Nat.le_of_ble_eq_true rfl) (Nat.le_of_ble_eq_true rfl)⟩
      · exact retN X68 hx (t := .boolean) Bd.returns (by simp) (hb hby at_191) hr
      · show Q_law Z v0 v1 v2 v3 v4 ab cb vb h0 n0 _ T68.heap _
        rw [e68]
        exfalso
        subst hw46 hw9 hw3
        revert hc70
        simp [own_eq, eq_comm]
  · -- hc66: False
    have pre81 : Go p.tables e below (s₁.setTop (entryFrame m #[(.int v0), (.int v1), (.int v2), (.int v3), (.int v4)] maxLocals)) T64 (mkF m 191 #[.val (.int v0), .val (.int v1), .val (.int v2), .val (.int v3), .val (.int v4), .val (.int w3), .val (.int w9), .val (.ref b14), .val (.ref b26), .val (.int w46), .val .null, .val (.ref bo54), .val (.int (0 : Int32))] [(.int (0 : Int32))]) := fun t k => pre65 t (by
        refine XS.icmpYes X64.here hx rfl (pc0 := 89) (pc' := 96) rfl (hb hby at_89) rfl (feq hc66).2 (by decide) (by decide) ?_
        show Steps p.tables e below (T64.setTop (mkF m 96 #[.val (.int v0), .val (.int v1), .val (.int v2), .val (.int v3), .val (.int v4), .val (.int w3), .val (.int w9), .val (.ref b14), .val (.ref b26), .val (.int w46), .val .null, .val (.ref bo54), .unset] [])) _
        refine XS.iconst X64.here hx rfl (hb hby at_96) ?_
        show Steps p.tables e below (T64.setTop (mkF m 97 #[.val (.int v0), .val (.int v1), .val (.int v2), .val (.int v3), .val (.int v4), .val (.int w3), .val (.int w9), .val (.ref b14), .val (.ref b26), .val (.int w46), .val .null, .val (.ref bo54), .unset] [(.int (0 : Int32))])) _
        refine XS.istore X64.here hx rfl (hb hby at_97) rfl (l' := #[.val (.int v0), .val (.int v1), .val (.int v2), .val (.int v3), .val (.int v4), .val (.int w3), .val (.int w9), .val (.ref b14), .val (.ref b26), .val (.int w46), .val .null, .val (.ref bo54), .val (.int (0 : Int32))]) rfl ?_
        show Steps p.tables e below (T64.setTop (mkF m 99 #[.val (.int v0), .val (.int v1), .val (.int v2), .val (.int v3), .val (.int v4), .val (.int w3), .val (.int w9), .val (.ref b14), .val (.ref b26), .val (.int w46), .val .null, .val (.ref bo54), .val (.int (0 : Int32))] [])) _
        refine XS.iload X64.here hx rfl (hb hby at_99) rfl ?_
        show Steps p.tables e below (T64.setTop (mkF m 101 #[.val (.int v0), .val (.int v1), .val (.int v2), .val (.int v3), .val (.int v4), .val (.int w3), .val (.int w9), .val (.ref b14), .val (.ref b26), .val (.int w46), .val .null, .val (.ref bo54), .val (.int (0 : Int32))] [(.int (0 : Int32))])) _
        refine XS.ifYes X64.here hx rfl (pc0 := 101) (pc' := 120) rfl (hb hby at_101) rfl ((if0 _ _).trans (teq (by decide)).1) (by decide) (by decide) ?_
        show Steps p.tables e below (T64.setTop (mkF m 120 #[.val (.int v0), .val (.int v1), .val (.int v2), .val (.int v3), .val (.int v4), .val (.int w3), .val (.int w9), .val (.ref b14), .val (.ref b26), .val (.int w46), .val .null, .val (.ref bo54), .val (.int (0 : Int32))] [])) _
        refine XS.iconst X64.here hx rfl (hb hby at_120) ?_
        show Steps p.tables e below (T64.setTop (mkF m 121 #[.val (.int v0), .val (.int v1), .val (.int v2), .val (.int v3), .val (.int v4), .val (.int w3), .val (.int w9), .val (.ref b14), .val (.ref b26), .val (.int w46), .val .null, .val (.ref bo54), .val (.int (0 : Int32))] [(.int (0 : Int32))])) _
        refine XS.istore X64.here hx rfl (hb hby at_121) rfl (l' := #[.val (.int v0), .val (.int v1), .val (.int v2), .val (.int v3), .val (.int v4), .val (.int w3), .val (.int w9), .val (.ref b14), .val (.ref b26), .val (.int w46), .val .null, .val (.ref bo54), .val (.int (0 : Int32))]) rfl ?_
        show Steps p.tables e below (T64.setTop (mkF m 123 #[.val (.int v0), .val (.int v1), .val (.int v2), .val (.int v3), .val (.int v4), .val (.int w3), .val (.int w9), .val (.ref b14), .val (.ref b26), .val (.int w46), .val .null, .val (.ref bo54), .val (.int (0 : Int32))] [])) _
        refine XS.iload X64.here hx rfl (hb hby at_123) rfl ?_
        show Steps p.tables e below (T64.setTop (mkF m 125 #[.val (.int v0), .val (.int v1), .val (.int v2), .val (.int v3), .val (.int v4), .val (.int w3), .val (.int w9), .val (.ref b14), .val (.ref b26), .val (.int w46), .val .null, .val (.ref bo54), .val (.int (0 : Int32))] [(.int (0 : Int32))])) _
        refine XS.ifYes X64.here hx rfl (pc0 := 125) (pc' := 142) rfl (hb hby at_125) rfl ((if0 _ _).trans (teq (by decide)).1) (by decide) (by decide) ?_
        show Steps p.tables e below (T64.setTop (mkF m 142 #[.val (.int v0), .val (.int v1), .val (.int v2), .val (.int v3), .val (.int v4), .val (.int w3), .val (.int w9), .val (.ref b14), .val (.ref b26), .val (.int w46), .val .null, .val (.ref bo54), .val (.int (0 : Int32))] [])) _
        refine XS.iconst X64.here hx rfl (hb hby at_142) ?_
        show Steps p.tables e below (T64.setTop (mkF m 143 #[.val (.int v0), .val (.int v1), .val (.int v2), .val (.int v3), .val (.int v4), .val (.int w3), .val (.int w9), .val (.ref b14), .val (.ref b26), .val (.int w46), .val .null, .val (.ref bo54), .val (.int (0 : Int32))] [(.int (0 : Int32))])) _
        refine XS.istore X64.here hx rfl (hb hby at_143) rfl (l' := #[.val (.int v0), .val (.int v1), .val (.int v2), .val (.int v3), .val (.int v4), .val (.int w3), .val (.int w9), .val (.ref b14), .val (.ref b26), .val (.int w46), .val .null, .val (.ref bo54), .val (.int (0 : Int32))]) rfl ?_
        show Steps p.tables e below (T64.setTop (mkF m 145 #[.val (.int v0), .val (.int v1), .val (.int v2), .val (.int v3), .val (.int v4), .val (.int w3), .val (.int w9), .val (.ref b14), .val (.ref b26), .val (.int w46), .val .null, .val (.ref bo54), .val (.int (0 : Int32))] [])) _
        refine XS.iload X64.here hx rfl (hb hby at_145) rfl ?_
        show Steps p.tables e below (T64.setTop (mkF m 147 #[.val (.int v0), .val (.int v1), .val (.int v2), .val (.int v3), .val (.int v4), .val (.int w3), .val (.int w9), .val (.ref b14), .val (.ref b26), .val (.int w46), .val .null, .val (.ref bo54), .val (.int (0 : Int32))] [(.int (0 : Int32))])) _
        refine XS.ifYes X64.here hx rfl (pc0 := 147) (pc' := 164) rfl (hb hby at_147) rfl ((if0 _ _).trans (teq (by decide)).1) (by decide) (by decide) ?_
        show Steps p.tables e below (T64.setTop (mkF m 164 #[.val (.int v0), .val (.int v1), .val (.int v2), .val (.int v3), .val (.int v4), .val (.int w3), .val (.int w9), .val (.ref b14), .val (.ref b26), .val (.int w46), .val .null, .val (.ref bo54), .val (.int (0 : Int32))] [])) _
        refine XS.iconst X64.here hx rfl (hb hby at_164) ?_
        show Steps p.tables e below (T64.setTop (mkF m 165 #[.val (.int v0), .val (.int v1), .val (.int v2), .val (.int v3), .val (.int v4), .val (.int w3), .val (.int w9), .val (.ref b14), .val (.ref b26), .val (.int w46), .val .null, .val (.ref bo54), .val (.int (0 : Int32))] [(.int (0 : Int32))])) _
        refine XS.istore X64.here hx rfl (hb hby at_165) rfl (l' := #[.val (.int v0), .val (.int v1), .val (.int v2), .val (.int v3), .val (.int v4), .val (.int w3), .val (.int w9), .val (.ref b14), .val (.ref b26), .val (.int w46), .val .null, .val (.ref bo54), .val (.int (0 : Int32))]) rfl ?_
        show Steps p.tables e below (T64.setTop (mkF m 167 #[.val (.int v0), .val (.int v1), .val (.int v2), .val (.int v3), .val (.int v4), .val (.int w3), .val (.int w9), .val (.ref b14), .val (.ref b26), .val (.int w46), .val .null, .val (.ref bo54), .val (.int (0 : Int32))] [])) _
        refine XS.iload X64.here hx rfl (hb hby at_167) rfl ?_
        show Steps p.tables e below (T64.setTop (mkF m 169 #[.val (.int v0), .val (.int v1), .val (.int v2), .val (.int v3), .val (.int v4), .val (.int w3), .val (.int w9), .val (.ref b14), .val (.ref b26), .val (.int w46), .val .null, .val (.ref bo54), .val (.int (0 : Int32))] [(.int (0 : Int32))])) _
        refine XS.ifYes X64.here hx rfl (pc0 := 169) (pc' := 186) rfl (hb hby at_169) rfl ((if0 _ _).trans (teq (by decide)).1) (by decide) (by decide) ?_
        show Steps p.tables e below (T64.setTop (mkF m 186 #[.val (.int v0), .val (.int v1), .val (.int v2), .val (.int v3), .val (.int v4), .val (.int w3), .val (.int w9), .val (.ref b14), .val (.ref b26), .val (.int w46), .val .null, .val (.ref bo54), .val (.int (0 : Int32))] [])) _
        refine XS.iconst X64.here hx rfl (hb hby at_186) ?_
        show Steps p.tables e below (T64.setTop (mkF m 187 #[.val (.int v0), .val (.int v1), .val (.int v2), .val (.int v3), .val (.int v4), .val (.int w3), .val (.int w9), .val (.ref b14), .val (.ref b26), .val (.int w46), .val .null, .val (.ref bo54), .val (.int (0 : Int32))] [(.int (0 : Int32))])) _
        refine XS.istore X64.here hx rfl (hb hby at_187) rfl (l' := #[.val (.int v0), .val (.int v1), .val (.int v2), .val (.int v3), .val (.int v4), .val (.int w3), .val (.int w9), .val (.ref b14), .val (.ref b26), .val (.int w46), .val .null, .val (.ref bo54), .val (.int (0 : Int32))]) rfl ?_
        show Steps p.tables e below (T64.setTop (mkF m 189 #[.val (.int v0), .val (.int v1), .val (.int v2), .val (.int v3), .val (.int v4), .val (.int w3), .val (.int w9), .val (.ref b14), .val (.ref b26), .val (.int w46), .val .null, .val (.ref bo54), .val (.int (0 : Int32))] [])) _
        refine XS.iload X64.here hx rfl (hb hby at_189) rfl ?_
        exact k)
    obtain ⟨fs, hr, hrun, hended, hW, hsame⟩ := X64.leave (v := some (.int (0 : Int32))) (fun h => by rw [Bd.returns] at h; cases h) (BodyLoose.notSynchronized Bd)
    refine ⟨_, _, pre81 _ ?_, hrun, hended, _, _, rfl, ?_, ⟨_, rfl⟩, hW, hsame.mono (Nat.le_of_ble_eq_true rfl) (Nat.le_of_ble_eq_true rfl)⟩
    · exact retN X64 hx (t := .boolean) Bd.returns (by simp) (hb hby at_191) hr
    · show Q_law Z v0 v1 v2 v3 v4 ab cb vb h0 n0 _ T64.heap _
      rw [e64]
      exfalso
      subst hw46 hw9 hw3
      revert hc66
      simp [own_eq, eq_comm]
set_option maxRecDepth 65536 in
set_option maxHeartbeats 40000000 in
theorem comes_1 {Post : Tables → Env → Array Value → State → Outcome → State → Prop} (hpost : ∀ tb e args s v u, (limb_1_1.after args s (.returned v) u = true ∧ limb_1_2.after args s (.returned v) u = true ∧ True) → FrameEnd s (.returned v) u (Jvm.fieldLocs frame_1_writes args s ++ Jvm.arrayLocs frame_1_arrays args s ++ Jvm.staticLocs frame_1_statics s) 16 128 → Post tb e args s (.returned v) u) :
    ArmFor flags0 classFile x code maxLocals ret World_1 tables_1 room_1 Calls_1 rest_1 Pre_1 Post := by
  intro l hfl _ _ p e ha hc hk s m args below hf hA hF happ hP
  obtain ⟨hcalls, hrest, hpre⟩ := hP
  obtain ⟨-, -, -, hnamed, -, -, -, hat⟩ := (Spec.applies_iff hf).mp happ
  obtain ⟨hg, hn⟩ := and_e (Cond.before_iff.mp (show (Jvm.Cond.and given_1 narrow_1).before args s = true from hpre))
  obtain ⟨gc, gt0⟩ := and_e hg
  obtain ⟨ga0, gt1⟩ := and_e gt0
  obtain ⟨ga1, gt2⟩ := and_e gt1
  obtain ⟨ga2, gt3⟩ := and_e gt2
  obtain ⟨ga3, gt4⟩ := and_e gt3
  obtain ⟨w0, w1, w2, w3, w4, rfl⟩ : ∃ w0 w1 w2 w3 w4 : Value, args = #[w0, w1, w2, w3, w4] := by
    have hs : args.size = 5 := by simpa [Cond.value, given_1] using gc
    obtain ⟨L⟩ := args
    match L, hs with
    | [w0, w1, w2, w3, w4], _ => exact ⟨w0, w1, w2, w3, w4, rfl⟩
  have hw := fun d (hd : d ∈ tables_1) => atoms_spec (ws := Jvm.Cond.code x code maxLocals ret :: tables_1) hat d (List.mem_cons_of_mem _ hd)
  have hfit : Fit s := fun {y c} hc i hi => by
    obtain ⟨ha, rfl⟩ := Array.getElem?_eq_some_iff.mp hc
    have q := List.all_eq_true.mp ((Array.all_eq_true_iff_forall_mem.mp hF) _ (Array.getElem_mem ha)) i (List.mem_range.mpr hi)
    simpa [Array.getElem?_eq_getElem hi] using q
  obtain ⟨i0, ei0⟩ := is_v ga0
  obtain rfl : w0 = (.int i0) := Option.some.inj ei0
  obtain ⟨i1, ei1⟩ := is_v ga1
  obtain rfl : w1 = (.int i1) := Option.some.inj ei1
  obtain ⟨i2, ei2⟩ := is_v ga2
  obtain rfl : w2 = (.int i2) := Option.some.inj ei2
  obtain ⟨i3, ei3⟩ := is_v ga3
  obtain rfl : w3 = (.int i3) := Option.some.inj ei3
  obtain ⟨i4, ei4⟩ := is_v gt4
  obtain rfl : w4 = (.int i4) := Option.some.inj ei4
  obtain ⟨hsets, hown0⟩ := atoms_of _ (rest_1_c_eq ▸ (show rest_1_c.before _ s = true from hrest))
  have eh := eqv_i (Term.int_eval (127)) (Cond.before_iff.mp (hsets _ (List.mem_of_getElem? (i := 3) rfl)))
  have S_high := Sta.start eh (Or.inl (hsets _ (List.mem_of_getElem? (i := 1) rfl)))
  obtain ⟨ab, ec⟩ := arr_v (Cond.before_iff.mp (hsets _ (List.mem_of_getElem? (i := 4) rfl)))
  have S_cache := Sta.start ec (Or.inr ⟨(hw _ (List.mem_of_getElem? (i := 23) rfl)), (hsets _ (List.mem_of_getElem? (i := 2) rfl))⟩)
  obtain ⟨cb, Ab⟩ := Arr.start ec (Cond.before_iff.mp (hsets _ (List.mem_of_getElem? (i := 4) rfl)))
  have el := eqv_i (Term.int_eval (256)) (Cond.before_iff.mp (hsets _ (List.mem_of_getElem? (i := 6) rfl)))
  obtain ⟨lq, le⟩ := own_len ec Ab el
  have Bx : Bxs s ab cb "java/lang/Integer" "I" (256 : Int32) (fun j => .int (j - (128 : Int32))) := Bxs.start (fun idx => ec) Ab lq le (by decide) (Cond.before_iff.mp (hsets _ (List.mem_of_getElem? (i := 7) rfl))) (fun X j nn hX => eqv_i (own_sub nn) hX)
  obtain ⟨n, o, h1, h2, h3, _, L, rfl, ⟨rfl, N⟩, hq⟩ := rm_law l s _ hw tables_1 i0 i1 i2 i3 i4 ab cb _ s.heap s.heap.size (Nat.le_refl _) (Old.start s) S_high S_cache Bx p e ha hc hk s m _ below hf ((Spec.applies_iff_loose hf).mp happ).1 ⟨rfl, State.Warmed39.refl s, rfl⟩ trivial
  refine ⟨n, _, h1, h2, h3, hpost _ _ _ _ _ _ ⟨Cond.after_iff.mpr rfl, Cond.after_iff.mpr (eq_i res_at (Term.int_eval (1)) rfl), trivial⟩ ⟨hq.1, hq.2.1, (hq.2.2.sift fun y hy => Or.inr (N y hy)).mono (by decide) (by decide)⟩⟩
theorem main_1_1 : Claimed_1_1 := comes_1 fun _ _ _ _ _ _ h hF => ⟨h.1, hF⟩
theorem main_1_2 : Claimed_1_2 := comes_1 fun _ _ _ _ _ _ h hF => ⟨h.2.1, hF⟩
end Jvm.Pilot.@@N@@
namespace Jvm.Pilot.@@N@@
open Jvm Jvm.ClassFile Sem Op Lib Jvm.Free Jvm.Stand Jvm.Pilot.@@N@@.Jvm.D
/-! MADE BY PROGRAM (witnessworld.py) out of the Statement's table words and the real class files: 17 classes; the members and pool entries that the words name. The judged class is class 1, her method 1. -/
namespace start1
open Jvm.ClassFile
def u (s : String) : CpInfo := .utf8 (stringToUtf16 s)
/-- a pool by its gaps: so many unusable entries, then the entry; so many at the end -/
def gap : Nat → List CpInfo → List CpInfo
  | 0, r => r
  | n + 1, r => .unusable :: gap n r
def poolList (es : List (Nat × CpInfo)) (last : Nat) : List CpInfo := es.foldr (fun e r => gap e.1 (e.2 :: r)) (gap last [])
def pool (es : List (Nat × CpInfo)) (last : Nat) : Array CpInfo := ⟨poolList es last⟩
def fileOf (pool : Array CpInfo) (this : Nat) (attrs : Array Attribute := #[]) (ms : Array MethodInfo := #[]) (fl : Nat := 33) (sup : Nat := 0) (ifs : Array Nat := #[]) (fds : Array FieldInfo := #[]) : ClassFile where
  minorVersion := 0
  majorVersion := 65
  constantPool := pool
  accessFlags := fl
  thisClass := this
  superClass := sup
  interfaces := ifs
  fields := fds
  methods := ms
  attributes := attrs
def plain (name : String) (sup : Option ClassId) : Class where
  name := name
  kind := .ordinary
  loader := none
  accessFlags := 33
  super := sup
  interfaces := #[]
  cf := none
  fields := #[]
  methods := #[]
  instanceTypes := #[]
  staticTypes := #[]
  resolved := #[]
  callSites := []
  init := .initialized
  statics := none
  mirror := none

def pool0 : Array CpInfo := pool [(5, u "<init>"), (0, u "()V"), (1, .class_ 10), (1, u "java/lang/Object")] 113

def k0c0 : Code := { maxStack := 0, maxLocals := 1, code := object_method_1_code, exceptionTable := #[], attributes := #[] }
def k0m0 : Method := { name := "<init>", desc := "()V", sig := { parameters := [], returnType := none }, accessFlags := 1, code := some k0c0 }
/-- java/lang/Object -/
def k0 : Class := { plain "java/lang/Object" none with
  accessFlags := 33
  interfaces := #[]
  cf := some (fileOf pool0 8 #[] #[{ accessFlags := 1, nameIndex := 5, descriptorIndex := 6, attributes := #[] }] 33 0 #[] #[])
  fields := #[]
  methods := #[k0m0]
  instanceTypes := #[]
  staticTypes := #[]
  resolved := Array.replicate 124 none
  statics := none }

def pool1 : Array CpInfo := pool [(2, .class_ 4), (1, u "java/lang/Object"), (0, u "<init>"), (0, u "()V"), (0, .class_ 8), (0, u "com/example/bracketeer/bracketeer/construction/Pair"), (0, .methodref 7 10), (0, .nameAndType 5 11), (0, u "(II)V"), (0, .methodref 13 14), (0, .class_ 15), (0, .nameAndType 16 17), (0, u "java/lang/Integer"), (0, u "valueOf"), (0, u "(I)Ljava/lang/Integer;"), (0, .methodref 7 19), (0, .nameAndType 20 21), (0, u "equals"), (0, u "(Ljava/lang/Object;)Z"), (0, .class_ 23), (0, u "com/example/bracketeer/bracketeer/construction/PairEqualsPinLaw"), (2, u "law"), (0, u "(IIIII)Z")] 3

def k1m0 : Method := { name := "<init>", desc := "()V", sig := { parameters := [], returnType := none }, accessFlags := 2, code := none }
def k1c1 : Code := { maxStack := 4, maxLocals := 13, code := code, exceptionTable := #[], attributes := #[] }
def k1m1 : Method := { name := "law", desc := "(IIIII)Z", sig := { parameters := [.int, .int, .int, .int, .int], returnType := some .boolean }, accessFlags := 9, code := some k1c1 }
/-- com/example/bracketeer/bracketeer/construction/PairEqualsPinLaw -/
def k1 : Class := { plain "com/example/bracketeer/bracketeer/construction/PairEqualsPinLaw" (some 0) with
  accessFlags := 49
  interfaces := #[]
  cf := some (fileOf pool1 22 #[] #[{ accessFlags := 2, nameIndex := 5, descriptorIndex := 6, attributes := #[] }, { accessFlags := 9, nameIndex := 26, descriptorIndex := 27, attributes := #[] }] 49 2 #[] #[])
  fields := #[]
  methods := #[k1m0, k1m1]
  instanceTypes := #[]
  staticTypes := #[]
  resolved := Array.replicate 31 none
  statics := none }

def pool2 : Array CpInfo := pool [(1, .methodref 2 3), (0, .class_ 4), (0, .nameAndType 5 6), (0, u "java/lang/Object"), (0, u "<init>"), (0, u "()V"), (0, .class_ 8), (0, u "java/lang/Record")] 13

def k2c0 : Code := { maxStack := 1, maxLocals := 1, code := jdk_30_method_1_code, exceptionTable := #[], attributes := #[] }
def k2m0 : Method := { name := "<init>", desc := "()V", sig := { parameters := [], returnType := none }, accessFlags := 4, code := some k2c0 }
/-- java/lang/Record -/
def k2 : Class := { plain "java/lang/Record" (some 0) with
  accessFlags := 1057
  interfaces := #[]
  cf := some (fileOf pool2 7 #[] #[{ accessFlags := 4, nameIndex := 5, descriptorIndex := 6, attributes := #[] }] 1057 2 #[] #[])
  fields := #[]
  methods := #[k2m0]
  instanceTypes := #[]
  staticTypes := #[]
  resolved := Array.replicate 22 none
  statics := none }

def pool3 : Array CpInfo := pool [(1, .methodref 2 3), (0, .class_ 4), (0, .nameAndType 5 6), (0, u "java/lang/Record"), (0, u "<init>"), (0, u "()V"), (0, .fieldref 8 9), (0, .class_ 10), (0, .nameAndType 11 12), (0, u "com/example/bracketeer/bracketeer/construction/Pair"), (0, u "first"), (0, u "I"), (0, .fieldref 8 14), (0, .nameAndType 15 12), (0, u "second"), (30, u "(II)V"), (5, u "(Ljava/lang/Object;)Z"), (42, u "equals")] 23

def k3c0 : Code := { maxStack := 2, maxLocals := 3, code := prog_65_method_1_code, exceptionTable := #[], attributes := #[] }
def k3m0 : Method := { name := "<init>", desc := "(II)V", sig := { parameters := [.int, .int], returnType := none }, accessFlags := 0, code := some k3c0 }
def k3c1 : Code := { maxStack := 2, maxLocals := 3, code := prog_65_method_5_code, exceptionTable := #[], attributes := #[] }
def k3m1 : Method := { name := "equals", desc := "(Ljava/lang/Object;)Z", sig := { parameters := [(.object "java/lang/Object")], returnType := some .boolean }, accessFlags := 1, code := some k3c1 }
/-- com/example/bracketeer/bracketeer/construction/Pair -/
def k3 : Class := { plain "com/example/bracketeer/bracketeer/construction/Pair" (some 2) with
  accessFlags := 48
  interfaces := #[]
  cf := some (fileOf pool3 8 #[] #[{ accessFlags := 0, nameIndex := 5, descriptorIndex := 46, attributes := #[] }, { accessFlags := 1, nameIndex := 95, descriptorIndex := 52, attributes := #[] }] 48 2 #[] #[{ accessFlags := 18, nameIndex := 11, descriptorIndex := 12, attributes := #[] }, { accessFlags := 18, nameIndex := 15, descriptorIndex := 12, attributes := #[] }])
  fields := #[{ name := "first", type := .int, accessFlags := 18, slot := 0, constantValue := 0 }, { name := "second", type := .int, accessFlags := 18, slot := 1, constantValue := 0 }]
  methods := #[k3m0, k3m1]
  instanceTypes := #[.int, .int]
  staticTypes := #[]
  resolved := Array.replicate 119 none
  statics := none }

def pool4 : Array CpInfo := pool [(1, .class_ 2), (0, u "java/io/Serializable"), (0, .class_ 4), (0, u "java/lang/Object")] 2

/-- java/io/Serializable -/
def k4 : Class := { plain "java/io/Serializable" (some 0) with
  accessFlags := 1537
  interfaces := #[]
  cf := some (fileOf pool4 1 #[] #[] 1537 3 #[] #[])
  fields := #[]
  methods := #[]
  instanceTypes := #[]
  staticTypes := #[]
  resolved := Array.replicate 7 none
  statics := none }

def pool5 : Array CpInfo := pool [(1, .methodref 2 3), (0, .class_ 4), (0, .nameAndType 5 6), (0, u "java/lang/Object"), (0, u "<init>"), (0, u "()V"), (1, .class_ 10), (1, u "java/lang/Number"), (2, .class_ 14), (0, u "java/io/Serializable"), (0, u "serialVersionUID"), (0, u "J")] 20

def k5c0 : Code := { maxStack := 1, maxLocals := 1, code := jdk_18_method_1_code, exceptionTable := #[], attributes := #[] }
def k5m0 : Method := { name := "<init>", desc := "()V", sig := { parameters := [], returnType := none }, accessFlags := 1, code := some k5c0 }
/-- java/lang/Number -/
def k5 : Class := { plain "java/lang/Number" (some 0) with
  accessFlags := 1057
  interfaces := #[4]
  cf := some (fileOf pool5 8 #[] #[{ accessFlags := 1, nameIndex := 5, descriptorIndex := 6, attributes := #[] }] 1057 2 #[13] #[{ accessFlags := 26, nameIndex := 15, descriptorIndex := 16, attributes := #[] }])
  fields := #[{ name := "serialVersionUID", type := .long, accessFlags := 26, slot := 0, constantValue := 0 }]
  methods := #[k5m0]
  instanceTypes := #[]
  staticTypes := #[.long]
  resolved := Array.replicate 37 none
  statics := none }

def pool6 : Array CpInfo := pool [(1, .class_ 2), (0, u "java/lang/Comparable"), (0, .class_ 4), (0, u "java/lang/Object")] 7

/-- java/lang/Comparable -/
def k6 : Class := { plain "java/lang/Comparable" (some 0) with
  accessFlags := 1537
  interfaces := #[]
  cf := some (fileOf pool6 1 #[] #[] 1537 3 #[] #[])
  fields := #[]
  methods := #[]
  instanceTypes := #[]
  staticTypes := #[]
  resolved := Array.replicate 12 none
  statics := none }

def pool7 : Array CpInfo := pool [(1, .class_ 2), (0, u "java/lang/constant/Constable"), (0, .class_ 4), (0, u "java/lang/Object")] 6

/-- java/lang/constant/Constable -/
def k7 : Class := { plain "java/lang/constant/Constable" (some 0) with
  accessFlags := 1537
  interfaces := #[]
  cf := some (fileOf pool7 1 #[] #[] 1537 3 #[] #[])
  fields := #[]
  methods := #[]
  instanceTypes := #[]
  staticTypes := #[]
  resolved := Array.replicate 11 none
  statics := none }

def pool8 : Array CpInfo := pool [(1, .class_ 2), (0, u "java/lang/constant/ConstantDesc"), (0, .class_ 4), (0, u "java/lang/Object")] 32

/-- java/lang/constant/ConstantDesc -/
def k8 : Class := { plain "java/lang/constant/ConstantDesc" (some 0) with
  accessFlags := 1537
  interfaces := #[]
  cf := some (fileOf pool8 1 #[] #[] 1537 3 #[] #[])
  fields := #[]
  methods := #[]
  instanceTypes := #[]
  staticTypes := #[]
  resolved := Array.replicate 37 none
  statics := none }

def pool9 : Array CpInfo := pool [(1, .class_ 2), (0, u "java/lang/Integer"), (16, u "digits"), (0, u "[C"), (46, u "<init>"), (17, u "DigitOnes"), (0, u "[B"), (2, u "DigitTens"), (10, .nameAndType 67 101), (0, u "()V"), (85, u "valueOf"), (0, u "(I)Ljava/lang/Integer;"), (0, .class_ 190), (0, u "java/lang/Integer$IntegerCache"), (0, .fieldref 189 192), (0, .nameAndType 193 194), (0, u "high"), (0, u "I"), (0, .fieldref 189 196), (0, .nameAndType 197 198), (0, u "cache"), (0, u "[Ljava/lang/Integer;"), (0, .methodref 1 200), (0, .nameAndType 67 201), (0, u "(I)V"), (0, .methodref 203 100), (0, .class_ 204), (0, u "java/lang/Number"), (0, .fieldref 1 206), (0, .nameAndType 207 194), (0, u "value"), (94, u "TYPE"), (0, u "Ljava/lang/Class;"), (0, .class_ 305), (0, u "java/lang/Comparable"), (0, .class_ 307), (0, u "java/lang/constant/Constable"), (0, .class_ 309), (0, u "java/lang/constant/ConstantDesc"), (0, u "MIN_VALUE"), (1, u "MAX_VALUE"), (3, u "SIZE"), (1, u "BYTES"), (1, u "serialVersionUID"), (0, u "J")] 131

def k9c0 : Code := { maxStack := 3, maxLocals := 1, code := jdk_33_method_22_code, exceptionTable := #[], attributes := #[] }
def k9m0 : Method := { name := "valueOf", desc := "(I)Ljava/lang/Integer;", sig := { parameters := [.int], returnType := some (.object "java/lang/Integer") }, accessFlags := 9, code := some k9c0 }
def k9c1 : Code := { maxStack := 2, maxLocals := 2, code := jdk_33_method_23_code, exceptionTable := #[], attributes := #[] }
def k9m1 : Method := { name := "<init>", desc := "(I)V", sig := { parameters := [.int], returnType := none }, accessFlags := 1, code := some k9c1 }
/-- java/lang/Integer -/
def k9 : Class := { plain "java/lang/Integer" (some 5) with
  accessFlags := 49
  interfaces := #[6, 7, 8]
  cf := some (fileOf pool9 1 #[.nestMembers #[189]] #[{ accessFlags := 9, nameIndex := 187, descriptorIndex := 188, attributes := #[] }, { accessFlags := 1, nameIndex := 67, descriptorIndex := 201, attributes := #[] }] 49 203 #[304, 306, 308] #[{ accessFlags := 25, nameIndex := 310, descriptorIndex := 194, attributes := #[] }, { accessFlags := 25, nameIndex := 312, descriptorIndex := 194, attributes := #[] }, { accessFlags := 25, nameIndex := 302, descriptorIndex := 303, attributes := #[] }, { accessFlags := 24, nameIndex := 19, descriptorIndex := 20, attributes := #[] }, { accessFlags := 24, nameIndex := 89, descriptorIndex := 86, attributes := #[] }, { accessFlags := 24, nameIndex := 85, descriptorIndex := 86, attributes := #[] }, { accessFlags := 18, nameIndex := 207, descriptorIndex := 194, attributes := #[] }, { accessFlags := 25, nameIndex := 316, descriptorIndex := 194, attributes := #[] }, { accessFlags := 25, nameIndex := 318, descriptorIndex := 194, attributes := #[] }, { accessFlags := 26, nameIndex := 320, descriptorIndex := 321, attributes := #[] }])
  fields := #[{ name := "MIN_VALUE", type := .int, accessFlags := 25, slot := 0, constantValue := 0 }, { name := "MAX_VALUE", type := .int, accessFlags := 25, slot := 1, constantValue := 0 }, { name := "TYPE", type := (.object "java/lang/Class"), accessFlags := 25, slot := 2, constantValue := 0 }, { name := "digits", type := (.array .char), accessFlags := 24, slot := 3, constantValue := 0 }, { name := "DigitTens", type := (.array .byte), accessFlags := 24, slot := 4, constantValue := 0 }, { name := "DigitOnes", type := (.array .byte), accessFlags := 24, slot := 5, constantValue := 0 }, { name := "value", type := .int, accessFlags := 18, slot := 0, constantValue := 0 }, { name := "SIZE", type := .int, accessFlags := 25, slot := 6, constantValue := 0 }, { name := "BYTES", type := .int, accessFlags := 25, slot := 7, constantValue := 0 }, { name := "serialVersionUID", type := .long, accessFlags := 26, slot := 8, constantValue := 0 }]
  methods := #[k9m0, k9m1]
  instanceTypes := #[.int]
  staticTypes := #[.int, .int, (.object "java/lang/Class"), (.array .char), (.array .byte), (.array .byte), .int, .int, .long]
  resolved := Array.replicate 453 none
  statics := none }

def pool10 : Array CpInfo := pool [(2, .class_ 4), (1, u "java/lang/Object"), (0, u "<init>"), (0, u "()V"), (0, .class_ 8), (0, u "java/lang/Integer"), (7, .class_ 18), (1, u "java/lang/Integer$IntegerCache"), (0, u "$assertionsDisabled"), (0, u "Z"), (26, u "high"), (0, u "I"), (8, u "archivedCache"), (0, u "[Ljava/lang/Integer;"), (12, u "cache"), (0, u "low")] 27

def k10m0 : Method := { name := "<init>", desc := "()V", sig := { parameters := [], returnType := none }, accessFlags := 2, code := none }
/-- java/lang/Integer$IntegerCache -/
def k10 : Class := { plain "java/lang/Integer$IntegerCache" (some 0) with
  accessFlags := 48
  interfaces := #[]
  cf := some (fileOf pool10 16 #[.nestHost 7] #[{ accessFlags := 2, nameIndex := 5, descriptorIndex := 6, attributes := #[] }] 48 2 #[] #[{ accessFlags := 24, nameIndex := 72, descriptorIndex := 48, attributes := #[] }, { accessFlags := 24, nameIndex := 47, descriptorIndex := 48, attributes := #[] }, { accessFlags := 24, nameIndex := 71, descriptorIndex := 58, attributes := #[] }, { accessFlags := 8, nameIndex := 57, descriptorIndex := 58, attributes := #[] }, { accessFlags := 4120, nameIndex := 19, descriptorIndex := 20, attributes := #[] }])
  fields := #[{ name := "low", type := .int, accessFlags := 24, slot := 0, constantValue := 0 }, { name := "high", type := .int, accessFlags := 24, slot := 1, constantValue := 0 }, { name := "cache", type := (.array (.object "java/lang/Integer")), accessFlags := 24, slot := 2, constantValue := 0 }, { name := "archivedCache", type := (.array (.object "java/lang/Integer")), accessFlags := 8, slot := 3, constantValue := 0 }, { name := "$assertionsDisabled", type := .boolean, accessFlags := 4120, slot := 4, constantValue := 0 }]
  methods := #[k10m0]
  instanceTypes := #[]
  staticTypes := #[.int, .int, (.array (.object "java/lang/Integer")), (.array (.object "java/lang/Integer")), .boolean]
  resolved := Array.replicate 100 none
  statics := some 0 }

def pool11 : Array CpInfo := pool [(1, u "java/lang/Cloneable"), (0, .class_ 1), (0, u "java/lang/Object"), (0, .class_ 3)] 3

/-- java/lang/Cloneable -/
def k11 : Class := { plain "java/lang/Cloneable" (some 0) with
  accessFlags := 1537
  interfaces := #[]
  cf := some (fileOf pool11 2 #[] #[] 1537 4 #[] #[])
  fields := #[]
  methods := #[]
  instanceTypes := #[]
  staticTypes := #[]
  resolved := Array.replicate 8 none
  statics := none }

/-- the primitive byte -/
def k12 : Class := { plain "byte" none with kind := .primitive 'B', accessFlags := 0x411 }
/-- [B -/
def k13 : Class := { plain "[B" (some 0) with kind := .array 12 .byte, interfaces := #[11, 4], accessFlags := 1041 }

/-- the primitive int -/
def k14 : Class := { plain "int" none with kind := .primitive 'I', accessFlags := 0x411 }
/-- [I -/
def k15 : Class := { plain "[I" (some 0) with kind := .array 14 .int, interfaces := #[11, 4], accessFlags := 1041 }

/-- [Ljava/lang/Integer; -/
def k16 : Class := { plain "[Ljava/lang/Integer;" (some 0) with kind := .array 9 (.object "java/lang/Integer"), interfaces := #[11, 4], accessFlags := 1041 }

def heap : Heap := #[{ cls := 10, slots := #[.int 0, .int 127, .ref 1, .null, .int 0], vm := .statics 10 },
  { cls := 16, slots := #[.ref 2, .ref 3, .ref 4, .ref 5, .ref 6, .ref 7, .ref 8, .ref 9, .ref 10, .ref 11, .ref 12, .ref 13, .ref 14, .ref 15, .ref 16, .ref 17, .ref 18, .ref 19, .ref 20, .ref 21, .ref 22, .ref 23, .ref 24, .ref 25, .ref 26, .ref 27, .ref 28, .ref 29, .ref 30, .ref 31, .ref 32, .ref 33, .ref 34, .ref 35, .ref 36, .ref 37, .ref 38, .ref 39, .ref 40, .ref 41, .ref 42, .ref 43, .ref 44, .ref 45, .ref 46, .ref 47, .ref 48, .ref 49, .ref 50, .ref 51, .ref 52, .ref 53, .ref 54, .ref 55, .ref 56, .ref 57, .ref 58, .ref 59, .ref 60, .ref 61, .ref 62, .ref 63, .ref 64, .ref 65, .ref 66, .ref 67, .ref 68, .ref 69, .ref 70, .ref 71, .ref 72, .ref 73, .ref 74, .ref 75, .ref 76, .ref 77, .ref 78, .ref 79, .ref 80, .ref 81, .ref 82, .ref 83, .ref 84, .ref 85, .ref 86, .ref 87, .ref 88, .ref 89, .ref 90, .ref 91, .ref 92, .ref 93, .ref 94, .ref 95, .ref 96, .ref 97, .ref 98, .ref 99, .ref 100, .ref 101, .ref 102, .ref 103, .ref 104, .ref 105, .ref 106, .ref 107, .ref 108, .ref 109, .ref 110, .ref 111, .ref 112, .ref 113, .ref 114, .ref 115, .ref 116, .ref 117, .ref 118, .ref 119, .ref 120, .ref 121, .ref 122, .ref 123, .ref 124, .ref 125, .ref 126, .ref 127, .ref 128, .ref 129, .ref 130, .ref 131, .ref 132, .ref 133, .ref 134, .ref 135, .ref 136, .ref 137, .ref 138, .ref 139, .ref 140, .ref 141, .ref 142, .ref 143, .ref 144, .ref 145, .ref 146, .ref 147, .ref 148, .ref 149, .ref 150, .ref 151, .ref 152, .ref 153, .ref 154, .ref 155, .ref 156, .ref 157, .ref 158, .ref 159, .ref 160, .ref 161, .ref 162, .ref 163, .ref 164, .ref 165, .ref 166, .ref 167, .ref 168, .ref 169, .ref 170, .ref 171, .ref 172, .ref 173, .ref 174, .ref 175, .ref 176, .ref 177, .ref 178, .ref 179, .ref 180, .ref 181, .ref 182, .ref 183, .ref 184, .ref 185, .ref 186, .ref 187, .ref 188, .ref 189, .ref 190, .ref 191, .ref 192, .ref 193, .ref 194, .ref 195, .ref 196, .ref 197, .ref 198, .ref 199, .ref 200, .ref 201, .ref 202, .ref 203, .ref 204, .ref 205, .ref 206, .ref 207, .ref 208, .ref 209, .ref 210, .ref 211, .ref 212, .ref 213, .ref 214, .ref 215, .ref 216, .ref 217, .ref 218, .ref 219, .ref 220, .ref 221, .ref 222, .ref 223, .ref 224, .ref 225, .ref 226, .ref 227, .ref 228, .ref 229, .ref 230, .ref 231, .ref 232, .ref 233, .ref 234, .ref 235, .ref 236, .ref 237, .ref 238, .ref 239, .ref 240, .ref 241, .ref 242, .ref 243, .ref 244, .ref 245, .ref 246, .ref 247, .ref 248, .ref 249, .ref 250, .ref 251, .ref 252, .ref 253, .ref 254, .ref 255, .ref 256, .ref 257], vm := .none },
  { cls := 9, slots := #[.int (-128)], vm := .none },
  { cls := 9, slots := #[.int (-127)], vm := .none },
  { cls := 9, slots := #[.int (-126)], vm := .none },
  { cls := 9, slots := #[.int (-125)], vm := .none },
  { cls := 9, slots := #[.int (-124)], vm := .none },
  { cls := 9, slots := #[.int (-123)], vm := .none },
  { cls := 9, slots := #[.int (-122)], vm := .none },
  { cls := 9, slots := #[.int (-121)], vm := .none },
  { cls := 9, slots := #[.int (-120)], vm := .none },
  { cls := 9, slots := #[.int (-119)], vm := .none },
  { cls := 9, slots := #[.int (-118)], vm := .none },
  { cls := 9, slots := #[.int (-117)], vm := .none },
  { cls := 9, slots := #[.int (-116)], vm := .none },
  { cls := 9, slots := #[.int (-115)], vm := .none },
  { cls := 9, slots := #[.int (-114)], vm := .none },
  { cls := 9, slots := #[.int (-113)], vm := .none },
  { cls := 9, slots := #[.int (-112)], vm := .none },
  { cls := 9, slots := #[.int (-111)], vm := .none },
  { cls := 9, slots := #[.int (-110)], vm := .none },
  { cls := 9, slots := #[.int (-109)], vm := .none },
  { cls := 9, slots := #[.int (-108)], vm := .none },
  { cls := 9, slots := #[.int (-107)], vm := .none },
  { cls := 9, slots := #[.int (-106)], vm := .none },
  { cls := 9, slots := #[.int (-105)], vm := .none },
  { cls := 9, slots := #[.int (-104)], vm := .none },
  { cls := 9, slots := #[.int (-103)], vm := .none },
  { cls := 9, slots := #[.int (-102)], vm := .none },
  { cls := 9, slots := #[.int (-101)], vm := .none },
  { cls := 9, slots := #[.int (-100)], vm := .none },
  { cls := 9, slots := #[.int (-99)], vm := .none },
  { cls := 9, slots := #[.int (-98)], vm := .none },
  { cls := 9, slots := #[.int (-97)], vm := .none },
  { cls := 9, slots := #[.int (-96)], vm := .none },
  { cls := 9, slots := #[.int (-95)], vm := .none },
  { cls := 9, slots := #[.int (-94)], vm := .none },
  { cls := 9, slots := #[.int (-93)], vm := .none },
  { cls := 9, slots := #[.int (-92)], vm := .none },
  { cls := 9, slots := #[.int (-91)], vm := .none },
  { cls := 9, slots := #[.int (-90)], vm := .none },
  { cls := 9, slots := #[.int (-89)], vm := .none },
  { cls := 9, slots := #[.int (-88)], vm := .none },
  { cls := 9, slots := #[.int (-87)], vm := .none },
  { cls := 9, slots := #[.int (-86)], vm := .none },
  { cls := 9, slots := #[.int (-85)], vm := .none },
  { cls := 9, slots := #[.int (-84)], vm := .none },
  { cls := 9, slots := #[.int (-83)], vm := .none },
  { cls := 9, slots := #[.int (-82)], vm := .none },
  { cls := 9, slots := #[.int (-81)], vm := .none },
  { cls := 9, slots := #[.int (-80)], vm := .none },
  { cls := 9, slots := #[.int (-79)], vm := .none },
  { cls := 9, slots := #[.int (-78)], vm := .none },
  { cls := 9, slots := #[.int (-77)], vm := .none },
  { cls := 9, slots := #[.int (-76)], vm := .none },
  { cls := 9, slots := #[.int (-75)], vm := .none },
  { cls := 9, slots := #[.int (-74)], vm := .none },
  { cls := 9, slots := #[.int (-73)], vm := .none },
  { cls := 9, slots := #[.int (-72)], vm := .none },
  { cls := 9, slots := #[.int (-71)], vm := .none },
  { cls := 9, slots := #[.int (-70)], vm := .none },
  { cls := 9, slots := #[.int (-69)], vm := .none },
  { cls := 9, slots := #[.int (-68)], vm := .none },
  { cls := 9, slots := #[.int (-67)], vm := .none },
  { cls := 9, slots := #[.int (-66)], vm := .none },
  { cls := 9, slots := #[.int (-65)], vm := .none },
  { cls := 9, slots := #[.int (-64)], vm := .none },
  { cls := 9, slots := #[.int (-63)], vm := .none },
  { cls := 9, slots := #[.int (-62)], vm := .none },
  { cls := 9, slots := #[.int (-61)], vm := .none },
  { cls := 9, slots := #[.int (-60)], vm := .none },
  { cls := 9, slots := #[.int (-59)], vm := .none },
  { cls := 9, slots := #[.int (-58)], vm := .none },
  { cls := 9, slots := #[.int (-57)], vm := .none },
  { cls := 9, slots := #[.int (-56)], vm := .none },
  { cls := 9, slots := #[.int (-55)], vm := .none },
  { cls := 9, slots := #[.int (-54)], vm := .none },
  { cls := 9, slots := #[.int (-53)], vm := .none },
  { cls := 9, slots := #[.int (-52)], vm := .none },
  { cls := 9, slots := #[.int (-51)], vm := .none },
  { cls := 9, slots := #[.int (-50)], vm := .none },
  { cls := 9, slots := #[.int (-49)], vm := .none },
  { cls := 9, slots := #[.int (-48)], vm := .none },
  { cls := 9, slots := #[.int (-47)], vm := .none },
  { cls := 9, slots := #[.int (-46)], vm := .none },
  { cls := 9, slots := #[.int (-45)], vm := .none },
  { cls := 9, slots := #[.int (-44)], vm := .none },
  { cls := 9, slots := #[.int (-43)], vm := .none },
  { cls := 9, slots := #[.int (-42)], vm := .none },
  { cls := 9, slots := #[.int (-41)], vm := .none },
  { cls := 9, slots := #[.int (-40)], vm := .none },
  { cls := 9, slots := #[.int (-39)], vm := .none },
  { cls := 9, slots := #[.int (-38)], vm := .none },
  { cls := 9, slots := #[.int (-37)], vm := .none },
  { cls := 9, slots := #[.int (-36)], vm := .none },
  { cls := 9, slots := #[.int (-35)], vm := .none },
  { cls := 9, slots := #[.int (-34)], vm := .none },
  { cls := 9, slots := #[.int (-33)], vm := .none },
  { cls := 9, slots := #[.int (-32)], vm := .none },
  { cls := 9, slots := #[.int (-31)], vm := .none },
  { cls := 9, slots := #[.int (-30)], vm := .none },
  { cls := 9, slots := #[.int (-29)], vm := .none },
  { cls := 9, slots := #[.int (-28)], vm := .none },
  { cls := 9, slots := #[.int (-27)], vm := .none },
  { cls := 9, slots := #[.int (-26)], vm := .none },
  { cls := 9, slots := #[.int (-25)], vm := .none },
  { cls := 9, slots := #[.int (-24)], vm := .none },
  { cls := 9, slots := #[.int (-23)], vm := .none },
  { cls := 9, slots := #[.int (-22)], vm := .none },
  { cls := 9, slots := #[.int (-21)], vm := .none },
  { cls := 9, slots := #[.int (-20)], vm := .none },
  { cls := 9, slots := #[.int (-19)], vm := .none },
  { cls := 9, slots := #[.int (-18)], vm := .none },
  { cls := 9, slots := #[.int (-17)], vm := .none },
  { cls := 9, slots := #[.int (-16)], vm := .none },
  { cls := 9, slots := #[.int (-15)], vm := .none },
  { cls := 9, slots := #[.int (-14)], vm := .none },
  { cls := 9, slots := #[.int (-13)], vm := .none },
  { cls := 9, slots := #[.int (-12)], vm := .none },
  { cls := 9, slots := #[.int (-11)], vm := .none },
  { cls := 9, slots := #[.int (-10)], vm := .none },
  { cls := 9, slots := #[.int (-9)], vm := .none },
  { cls := 9, slots := #[.int (-8)], vm := .none },
  { cls := 9, slots := #[.int (-7)], vm := .none },
  { cls := 9, slots := #[.int (-6)], vm := .none },
  { cls := 9, slots := #[.int (-5)], vm := .none },
  { cls := 9, slots := #[.int (-4)], vm := .none },
  { cls := 9, slots := #[.int (-3)], vm := .none },
  { cls := 9, slots := #[.int (-2)], vm := .none },
  { cls := 9, slots := #[.int (-1)], vm := .none },
  { cls := 9, slots := #[.int (0)], vm := .none },
  { cls := 9, slots := #[.int (1)], vm := .none },
  { cls := 9, slots := #[.int (2)], vm := .none },
  { cls := 9, slots := #[.int (3)], vm := .none },
  { cls := 9, slots := #[.int (4)], vm := .none },
  { cls := 9, slots := #[.int (5)], vm := .none },
  { cls := 9, slots := #[.int (6)], vm := .none },
  { cls := 9, slots := #[.int (7)], vm := .none },
  { cls := 9, slots := #[.int (8)], vm := .none },
  { cls := 9, slots := #[.int (9)], vm := .none },
  { cls := 9, slots := #[.int (10)], vm := .none },
  { cls := 9, slots := #[.int (11)], vm := .none },
  { cls := 9, slots := #[.int (12)], vm := .none },
  { cls := 9, slots := #[.int (13)], vm := .none },
  { cls := 9, slots := #[.int (14)], vm := .none },
  { cls := 9, slots := #[.int (15)], vm := .none },
  { cls := 9, slots := #[.int (16)], vm := .none },
  { cls := 9, slots := #[.int (17)], vm := .none },
  { cls := 9, slots := #[.int (18)], vm := .none },
  { cls := 9, slots := #[.int (19)], vm := .none },
  { cls := 9, slots := #[.int (20)], vm := .none },
  { cls := 9, slots := #[.int (21)], vm := .none },
  { cls := 9, slots := #[.int (22)], vm := .none },
  { cls := 9, slots := #[.int (23)], vm := .none },
  { cls := 9, slots := #[.int (24)], vm := .none },
  { cls := 9, slots := #[.int (25)], vm := .none },
  { cls := 9, slots := #[.int (26)], vm := .none },
  { cls := 9, slots := #[.int (27)], vm := .none },
  { cls := 9, slots := #[.int (28)], vm := .none },
  { cls := 9, slots := #[.int (29)], vm := .none },
  { cls := 9, slots := #[.int (30)], vm := .none },
  { cls := 9, slots := #[.int (31)], vm := .none },
  { cls := 9, slots := #[.int (32)], vm := .none },
  { cls := 9, slots := #[.int (33)], vm := .none },
  { cls := 9, slots := #[.int (34)], vm := .none },
  { cls := 9, slots := #[.int (35)], vm := .none },
  { cls := 9, slots := #[.int (36)], vm := .none },
  { cls := 9, slots := #[.int (37)], vm := .none },
  { cls := 9, slots := #[.int (38)], vm := .none },
  { cls := 9, slots := #[.int (39)], vm := .none },
  { cls := 9, slots := #[.int (40)], vm := .none },
  { cls := 9, slots := #[.int (41)], vm := .none },
  { cls := 9, slots := #[.int (42)], vm := .none },
  { cls := 9, slots := #[.int (43)], vm := .none },
  { cls := 9, slots := #[.int (44)], vm := .none },
  { cls := 9, slots := #[.int (45)], vm := .none },
  { cls := 9, slots := #[.int (46)], vm := .none },
  { cls := 9, slots := #[.int (47)], vm := .none },
  { cls := 9, slots := #[.int (48)], vm := .none },
  { cls := 9, slots := #[.int (49)], vm := .none },
  { cls := 9, slots := #[.int (50)], vm := .none },
  { cls := 9, slots := #[.int (51)], vm := .none },
  { cls := 9, slots := #[.int (52)], vm := .none },
  { cls := 9, slots := #[.int (53)], vm := .none },
  { cls := 9, slots := #[.int (54)], vm := .none },
  { cls := 9, slots := #[.int (55)], vm := .none },
  { cls := 9, slots := #[.int (56)], vm := .none },
  { cls := 9, slots := #[.int (57)], vm := .none },
  { cls := 9, slots := #[.int (58)], vm := .none },
  { cls := 9, slots := #[.int (59)], vm := .none },
  { cls := 9, slots := #[.int (60)], vm := .none },
  { cls := 9, slots := #[.int (61)], vm := .none },
  { cls := 9, slots := #[.int (62)], vm := .none },
  { cls := 9, slots := #[.int (63)], vm := .none },
  { cls := 9, slots := #[.int (64)], vm := .none },
  { cls := 9, slots := #[.int (65)], vm := .none },
  { cls := 9, slots := #[.int (66)], vm := .none },
  { cls := 9, slots := #[.int (67)], vm := .none },
  { cls := 9, slots := #[.int (68)], vm := .none },
  { cls := 9, slots := #[.int (69)], vm := .none },
  { cls := 9, slots := #[.int (70)], vm := .none },
  { cls := 9, slots := #[.int (71)], vm := .none },
  { cls := 9, slots := #[.int (72)], vm := .none },
  { cls := 9, slots := #[.int (73)], vm := .none },
  { cls := 9, slots := #[.int (74)], vm := .none },
  { cls := 9, slots := #[.int (75)], vm := .none },
  { cls := 9, slots := #[.int (76)], vm := .none },
  { cls := 9, slots := #[.int (77)], vm := .none },
  { cls := 9, slots := #[.int (78)], vm := .none },
  { cls := 9, slots := #[.int (79)], vm := .none },
  { cls := 9, slots := #[.int (80)], vm := .none },
  { cls := 9, slots := #[.int (81)], vm := .none },
  { cls := 9, slots := #[.int (82)], vm := .none },
  { cls := 9, slots := #[.int (83)], vm := .none },
  { cls := 9, slots := #[.int (84)], vm := .none },
  { cls := 9, slots := #[.int (85)], vm := .none },
  { cls := 9, slots := #[.int (86)], vm := .none },
  { cls := 9, slots := #[.int (87)], vm := .none },
  { cls := 9, slots := #[.int (88)], vm := .none },
  { cls := 9, slots := #[.int (89)], vm := .none },
  { cls := 9, slots := #[.int (90)], vm := .none },
  { cls := 9, slots := #[.int (91)], vm := .none },
  { cls := 9, slots := #[.int (92)], vm := .none },
  { cls := 9, slots := #[.int (93)], vm := .none },
  { cls := 9, slots := #[.int (94)], vm := .none },
  { cls := 9, slots := #[.int (95)], vm := .none },
  { cls := 9, slots := #[.int (96)], vm := .none },
  { cls := 9, slots := #[.int (97)], vm := .none },
  { cls := 9, slots := #[.int (98)], vm := .none },
  { cls := 9, slots := #[.int (99)], vm := .none },
  { cls := 9, slots := #[.int (100)], vm := .none },
  { cls := 9, slots := #[.int (101)], vm := .none },
  { cls := 9, slots := #[.int (102)], vm := .none },
  { cls := 9, slots := #[.int (103)], vm := .none },
  { cls := 9, slots := #[.int (104)], vm := .none },
  { cls := 9, slots := #[.int (105)], vm := .none },
  { cls := 9, slots := #[.int (106)], vm := .none },
  { cls := 9, slots := #[.int (107)], vm := .none },
  { cls := 9, slots := #[.int (108)], vm := .none },
  { cls := 9, slots := #[.int (109)], vm := .none },
  { cls := 9, slots := #[.int (110)], vm := .none },
  { cls := 9, slots := #[.int (111)], vm := .none },
  { cls := 9, slots := #[.int (112)], vm := .none },
  { cls := 9, slots := #[.int (113)], vm := .none },
  { cls := 9, slots := #[.int (114)], vm := .none },
  { cls := 9, slots := #[.int (115)], vm := .none },
  { cls := 9, slots := #[.int (116)], vm := .none },
  { cls := 9, slots := #[.int (117)], vm := .none },
  { cls := 9, slots := #[.int (118)], vm := .none },
  { cls := 9, slots := #[.int (119)], vm := .none },
  { cls := 9, slots := #[.int (120)], vm := .none },
  { cls := 9, slots := #[.int (121)], vm := .none },
  { cls := 9, slots := #[.int (122)], vm := .none },
  { cls := 9, slots := #[.int (123)], vm := .none },
  { cls := 9, slots := #[.int (124)], vm := .none },
  { cls := 9, slots := #[.int (125)], vm := .none },
  { cls := 9, slots := #[.int (126)], vm := .none },
  { cls := 9, slots := #[.int (127)], vm := .none }]
def classes : Array Class := #[k0, k1, k2, k3, k4, k5, k6, k7, k8, k9, k10, k11, k12, k13, k14, k15, k16]
def interned : List (Array UInt16 × Addr) := []
def slotsUsed : Nat := 517
def theMethod : MethodId := ⟨1, 1⟩
def args0 : Array Value := #[.int 5, .int 6, .int 7, .int 8, .int 9]
def aboutOver (below : List Frame) : State where
  vm := { classes := classes, interned := interned.toArray }
  heap := heap
  slotsUsed := slotsUsed
  threads := #[{ frames := .invoking theMethod args0 :: below }]
def below0 : List Frame := [.native { method := ⟨0, 0⟩, args := #[] }]
def about1 : State := aboutOver below0
def p0 : Program := .bare "" "" ""
def e0 : Env := launch0.env 0 0 0
theorem w_frames : about1.frames = Frame.invoking theMethod args0 :: below0 := rfl
set_option maxRecDepth 65536 in
theorem w_args : argsFit about1.vm theMethod args0 = true := by decide +kernel
set_option maxRecDepth 65536 in
theorem w_heap : heapFits about1 = true := by decide +kernel
set_option maxRecDepth 65536 in
theorem w_runnable : about1.curStatus? = some .runnable := by decide +kernel
set_option maxRecDepth 65536 in
theorem w_alone : about1.alone = true := by decide +kernel
set_option maxRecDepth 65536 in
theorem w_named : about1.methodNamed? x = some theMethod := by decide +kernel
set_option maxRecDepth 65536 in
theorem w_hears : about1.hears theMethod below0 = true := by decide +kernel
set_option maxRecDepth 65536 in
theorem w_ripe : about1.ripe theMethod args0 below0 = true := by decide +kernel
theorem w_running : about1.status = .running := rfl
set_option maxRecDepth 65536 in
theorem w_room : about1.hasRoom e0.platform room_1 = true :=
  launch0.hasRoom_least _ room_1 (by decide +kernel) (by decide +kernel) (by decide +kernel) (by decide +kernel) (by decide +kernel) (by decide +kernel)
theorem allAtoms_all (ts : List Jvm.Cond) (a : Array Jvm.Value) (st : Jvm.State) : (allAtoms ts).before a st = ts.all (fun c => c.before a st) := by
  induction ts with
  | nil => rfl
  | cons c t ih =>
    show (Jvm.Cond.and c (allAtoms t)).before a st = _
    rw [Jvm.Cond.before_and, ih, List.all_cons]
def words1 : List Jvm.Cond := Jvm.Cond.code x code maxLocals ret :: tables_1
/-- a 'code' word, met by the world's own term for the bytes: nothing is compared byte by byte -/
theorem code_word {y : MethodName} {bytes : ByteArray} {mx : Nat} {rt : Option FieldType} {a : Array Value} {s : State} {m : MethodId} {meth : Method} {c : Code} (h1 : s.methodNamed? y = some m) (h2 : s.vm.method? m = some meth) (h3 : meth.code = some c) (h4 : c.code = bytes)
    (h5 : (c.maxLocals == mx && c.exceptionTable.isEmpty && decide (c.maxStack ≤ mostOperands) && decide (meth.sig.returnType = rt) && !meth.locks && decide (parseMethodDescriptor y.desc = some meth.sig)) = true) : (Jvm.Cond.code y bytes mx rt).before a s = true := by
  simp only [Bool.and_eq_true, beq_iff_eq, Bool.not_eq_true', decide_eq_true_eq] at h5
  obtain ⟨⟨⟨⟨⟨g1, g2⟩, g3⟩, g4⟩, g5⟩, g6⟩ := h5
  simp [Cond.before, Cond.holds, Cond.value, h1, h2, h3, h4, g1, g2, g3, g4, g5, g6]
def isCode : Jvm.Cond → Bool
  | .code _ _ _ _ => true
  | _ => false
theorem all_split {L : List Jvm.Cond} {P : Jvm.Cond → Bool} (h1 : L.all (fun c => isCode c || P c) = true) (h2 : ∀ c ∈ L.filter isCode, P c = true) : L.all P = true := by
  refine List.all_eq_true.mpr fun c hc => ?_
  have h := List.all_eq_true.mp h1 c hc
  rcases Bool.eq_false_or_eq_true (isCode c) with hi | hi
  · exact h2 c (List.mem_filter.mpr ⟨hc, hi⟩)
  · simpa [hi] using h
set_option maxRecDepth 65536 in
theorem w_c0 : (Jvm.Cond.code x code maxLocals ret).before args0 about1 = true := code_word (m := ⟨1, 1⟩) (meth := k1m1) (c := k1c1) (by decide +kernel) rfl rfl rfl (by decide +kernel)
set_option maxRecDepth 65536 in
theorem w_c1 : (Jvm.Cond.code ({ cls := "com/example/bracketeer/bracketeer/construction/Pair", name := "<init>", desc := "(II)V" } : Jvm.MethodName) prog_65_method_1_code (3 : Nat) (Option.none : Option Jvm.ClassFile.FieldType)).before args0 about1 = true := code_word (m := ⟨3, 0⟩) (meth := k3m0) (c := k3c0) (by decide +kernel) rfl rfl rfl (by decide +kernel)
set_option maxRecDepth 65536 in
theorem w_c2 : (Jvm.Cond.code ({ cls := "java/lang/Record", name := "<init>", desc := "()V" } : Jvm.MethodName) jdk_30_method_1_code (1 : Nat) (Option.none : Option Jvm.ClassFile.FieldType)).before args0 about1 = true := code_word (m := ⟨2, 0⟩) (meth := k2m0) (c := k2c0) (by decide +kernel) rfl rfl rfl (by decide +kernel)
set_option maxRecDepth 65536 in
theorem w_c3 : (Jvm.Cond.code ({ cls := "java/lang/Object", name := "<init>", desc := "()V" } : Jvm.MethodName) object_method_1_code (1 : Nat) (Option.none : Option Jvm.ClassFile.FieldType)).before args0 about1 = true := code_word (m := ⟨0, 0⟩) (meth := k0m0) (c := k0c0) (by decide +kernel) rfl rfl rfl (by decide +kernel)
set_option maxRecDepth 65536 in
theorem w_c4 : (Jvm.Cond.code ({ cls := "java/lang/Integer", name := "valueOf", desc := "(I)Ljava/lang/Integer;" } : Jvm.MethodName) jdk_33_method_22_code (1 : Nat) (Option.some (Jvm.ClassFile.FieldType.object "java/lang/Integer"))).before args0 about1 = true := code_word (m := ⟨9, 0⟩) (meth := k9m0) (c := k9c0) (by decide +kernel) rfl rfl rfl (by decide +kernel)
set_option maxRecDepth 65536 in
theorem w_c5 : (Jvm.Cond.code ({ cls := "com/example/bracketeer/bracketeer/construction/Pair", name := "equals", desc := "(Ljava/lang/Object;)Z" } : Jvm.MethodName) prog_65_method_5_code (3 : Nat) (Option.some Jvm.ClassFile.FieldType.boolean)).before args0 about1 = true := code_word (m := ⟨3, 1⟩) (meth := k3m1) (c := k3c1) (by decide +kernel) rfl rfl rfl (by decide +kernel)
set_option maxRecDepth 65536 in
theorem w_c6 : (Jvm.Cond.code ({ cls := "java/lang/Integer", name := "<init>", desc := "(I)V" } : Jvm.MethodName) jdk_33_method_23_code (2 : Nat) (Option.none : Option Jvm.ClassFile.FieldType)).before args0 about1 = true := code_word (m := ⟨9, 1⟩) (meth := k9m1) (c := k9c1) (by decide +kernel) rfl rfl rfl (by decide +kernel)
set_option maxRecDepth 65536 in
theorem w_c7 : (Jvm.Cond.code ({ cls := "java/lang/Number", name := "<init>", desc := "()V" } : Jvm.MethodName) jdk_18_method_1_code (1 : Nat) (Option.none : Option Jvm.ClassFile.FieldType)).before args0 about1 = true := code_word (m := ⟨5, 0⟩) (meth := k5m0) (c := k5c0) (by decide +kernel) rfl rfl rfl (by decide +kernel)
def codes1 : List Jvm.Cond := [Jvm.Cond.code x code maxLocals ret, Jvm.Cond.code ({ cls := "com/example/bracketeer/bracketeer/construction/Pair", name := "<init>", desc := "(II)V" } : Jvm.MethodName) prog_65_method_1_code (3 : Nat) (Option.none : Option Jvm.ClassFile.FieldType), Jvm.Cond.code ({ cls := "java/lang/Record", name := "<init>", desc := "()V" } : Jvm.MethodName) jdk_30_method_1_code (1 : Nat) (Option.none : Option Jvm.ClassFile.FieldType), Jvm.Cond.code ({ cls := "java/lang/Object", name := "<init>", desc := "()V" } : Jvm.MethodName) object_method_1_code (1 : Nat) (Option.none : Option Jvm.ClassFile.FieldType), Jvm.Cond.code ({ cls := "java/lang/Integer", name := "valueOf", desc := "(I)Ljava/lang/Integer;" } : Jvm.MethodName) jdk_33_method_22_code (1 : Nat) (Option.some (Jvm.ClassFile.FieldType.object "java/lang/Integer")), Jvm.Cond.code ({ cls := "com/example/bracketeer/bracketeer/construction/Pair", name := "equals", desc := "(Ljava/lang/Object;)Z" } : Jvm.MethodName) prog_65_method_5_code (3 : Nat) (Option.some Jvm.ClassFile.FieldType.boolean), Jvm.Cond.code ({ cls := "java/lang/Integer", name := "<init>", desc := "(I)V" } : Jvm.MethodName) jdk_33_method_23_code (2 : Nat) (Option.none : Option Jvm.ClassFile.FieldType), Jvm.Cond.code ({ cls := "java/lang/Number", name := "<init>", desc := "()V" } : Jvm.MethodName) jdk_18_method_1_code (1 : Nat) (Option.none : Option Jvm.ClassFile.FieldType)]
set_option maxRecDepth 65536 in
theorem codes_eq : words1.filter isCode = codes1 := rfl
theorem w_codes : ∀ c ∈ words1.filter isCode, c.before args0 about1 = true := by
  rw [codes_eq]
  intro c hc
  simp only [codes1, List.mem_cons, List.not_mem_nil, or_false] at hc
  rcases hc with rfl | rfl | rfl | rfl | rfl | rfl | rfl | rfl
  · exact w_c0
  · exact w_c1
  · exact w_c2
  · exact w_c3
  · exact w_c4
  · exact w_c5
  · exact w_c6
  · exact w_c7
set_option maxRecDepth 65536 in
theorem w_t1 : (words1.take 24).all (fun c => isCode c || c.before args0 about1) = true := by decide +kernel
set_option maxRecDepth 65536 in
theorem w_t2 : ((words1.drop 24).take 24).all (fun c => isCode c || c.before args0 about1) = true := by decide +kernel
set_option maxRecDepth 65536 in
theorem w_t3 : ((words1.drop 24).drop 24).all (fun c => isCode c || c.before args0 about1) = true := by decide +kernel
theorem w_tables : (allAtoms (Jvm.Cond.code x code maxLocals ret :: tables_1)).before args0 about1 = true := by
  rw [allAtoms_all]
  show words1.all (fun c => c.before args0 about1) = true
  refine all_split ?_ w_codes
  rw [← List.take_append_drop 24 words1, List.all_append, w_t1, ← List.take_append_drop 24 (words1.drop 24), List.all_append, w_t2, w_t3]
  rfl
set_option maxRecDepth 65536 in
theorem w_rest : rest_1_c.before args0 about1 = true := by decide +kernel
set_option maxRecDepth 65536 in
theorem w_case : (Jvm.Cond.and given_1 narrow_1).before args0 about1 = true := by decide +kernel
theorem w_applies : (headSpec (Jvm.Cond.code x code maxLocals ret :: tables_1) room_1).applies x e0.platform about1 = true :=
  (Spec.applies_iff w_frames).mpr ⟨w_running, w_runnable, w_alone, w_named, w_hears, w_ripe, w_room, w_tables⟩
theorem atStart : AtStart classFile x code maxLocals ret World_1 tables_1 room_1 Calls_1 rest_1 Pre_1 launch0 p0 e0 about1 theMethod args0 below0 :=
  ⟨lists_1, trivial, launch0.admits_env _ _ _, launch0.least_env, fairChoices_fair.cas, fairChoices_fair.clock, w_frames, w_args, w_heap, w_applies, trivial, w_rest, w_case⟩
end start1
theorem witness_1 : WitnessClaimed_1 := ⟨start1.p0, start1.e0, start1.about1, start1.theMethod, start1.args0, start1.below0, start1.atStart⟩
end Jvm.Pilot.@@N@@
