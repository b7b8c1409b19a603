import JvmDerived
import JvmDerived.Pilot.@@N@@Statement
import JvmDerived.Pilot.@@N@@Code
set_option linter.unusedVariables false
set_option linter.unusedSimpArgs false
namespace Jvm.RoadKit
open Sem ClassFile Op Lib Jvm.Stand Jvm.Free Jvm.LawKit
section New
variable {p : Program} {l : Launch} {e : Env} {R : Room} {s : State} {m : MethodId} {args : Array Value} {below : List Frame} {meth : Method} {c : Code} {T : State} {locs : List Loc} {cells slots : Nat}
theorem retI (X : Stand p l e R s m args below meth c T locs cells slots) (hx : p.tables.exec = Jvm.exec) {pc : Nat} {Ls : Array Slot} {z : Int32} {rest : List Value} (hret : meth.sig.returnType = some .int) (hd : decode c.code pc = .ok (.ireturn, 1)) {fs : List Frame}
    (hl : ∀ (f : JFrame) (acts : List Action), f.method = m → f.locked = none → f.entered = [] → (doReturn e (T.setTop f) acts (some (.int z))).1 = T.setFrames fs) : Steps p.tables e below (T.setTop (mkF m pc Ls (.int z :: rest))) (T.setFrames fs) := by
  have hm' : T.vm.method? m = some meth := X.method'
  have hn : narrow .int (.int z) = .int z := rfl
  show Steps p.tables e below (T.setTop { method := m, pc := pc, locals := Ls, stack := _ :: rest, locked := none }) _
  jvm_step X.here [X.here.top, hx, hd, hm', hret, hn]
  first | (intro acts; rw [hl _ acts rfl rfl rfl]) | rw [hl _ _ rfl rfl rfl]
  exact Steps.refl _
end New
end Jvm.RoadKit
namespace Jvm.Pilot.@@N@@
open Jvm Jvm.ClassFile Sem Op Lib Jvm.Free Jvm.Stand Jvm.LawKit Jvm.RoadKit Bundle Jvm.Pilot.@@N@@.Jvm.D
/-- from the state A the run comes to the frame f over T -/
abbrev Go (tb : Tables) (e : Env) (below : List Frame) (A T : State) (f : JFrame) : Prop := ∀ t, Steps tb e below (T.setTop f) t → Steps tb e below A t

def own_u (z : Int64) (k : Int32) : Int64 := (z.toUInt64 >>> (k &&& 0x3f).toInt64.toUInt64).toInt64
def own_mix (x : Int64) : Int64 :=
  let a := x + (-7046029254386353131 : Int64)
  let b := (a ^^^ own_u a 30) * (-4658895280553007687 : Int64)
  let c := (b ^^^ own_u b 27) * (-7723592293110705685 : Int64)
  c ^^^ own_u c 31
def own_unmix (z : Int64) : Int64 :=
  let a := ((z ^^^ own_u z 31) ^^^ own_u z 62) * (3573116690164977347 : Int64)
  let b := ((a ^^^ own_u a 27) ^^^ own_u a 54) * (-7575587736534282103 : Int64)
  (b ^^^ own_u b 30) ^^^ own_u b 60
theorem own_xs (x : BitVec 64) (k : Nat) (h : 64 ≤ k + k + k) : (x ^^^ x >>> k) ^^^ (x ^^^ x >>> k) >>> k ^^^ (x ^^^ x >>> k) >>> (k + k) = x := by
  apply BitVec.eq_of_getLsbD_eq
  intro i hi
  simp only [BitVec.getLsbD_xor, BitVec.getLsbD_ushiftRight]
  have h3 : x.getLsbD (k + k + (k + i)) = false := BitVec.getLsbD_of_ge _ _ (by omega)
  have e1 : k + (k + i) = k + k + i := by omega
  have e2 : k + (k + k + i) = k + k + (k + i) := by omega
  rw [e1, e2, h3]
  cases x.getLsbD i <;> cases x.getLsbD (k + i) <;> cases x.getLsbD (k + k + i) <;> rfl
theorem own_u30 (z : Int64) : (own_u z 30).toBitVec = z.toBitVec >>> 30 := by simp [own_u]
theorem own_u60 (z : Int64) : (own_u z 60).toBitVec = z.toBitVec >>> 60 := by simp [own_u]
theorem own_u27 (z : Int64) : (own_u z 27).toBitVec = z.toBitVec >>> 27 := by simp [own_u]
theorem own_u54 (z : Int64) : (own_u z 54).toBitVec = z.toBitVec >>> 54 := by simp [own_u]
theorem own_u31 (z : Int64) : (own_u z 31).toBitVec = z.toBitVec >>> 31 := by simp [own_u]
theorem own_u62 (z : Int64) : (own_u z 62).toBitVec = z.toBitVec >>> 62 := by simp [own_u]
theorem own_s31 (c : Int64) : ((c ^^^ own_u c 31) ^^^ own_u (c ^^^ own_u c 31) 31) ^^^ own_u (c ^^^ own_u c 31) 62 = c := by
  apply Int64.toBitVec_inj.mp
  simp only [Int64.toBitVec_xor, own_u31, own_u62]
  exact own_xs c.toBitVec 31 (by decide)
theorem own_s27 (c : Int64) : ((c ^^^ own_u c 27) ^^^ own_u (c ^^^ own_u c 27) 27) ^^^ own_u (c ^^^ own_u c 27) 54 = c := by
  apply Int64.toBitVec_inj.mp
  simp only [Int64.toBitVec_xor, own_u27, own_u54]
  exact own_xs c.toBitVec 27 (by decide)
theorem own_s30 (c : Int64) : ((c ^^^ own_u c 30) ^^^ own_u (c ^^^ own_u c 30) 30) ^^^ own_u (c ^^^ own_u c 30) 60 = c := by
  apply Int64.toBitVec_inj.mp
  simp only [Int64.toBitVec_xor, own_u30, own_u60]
  exact own_xs c.toBitVec 30 (by decide)
theorem own_inv (x : Int64) : own_unmix (own_mix x) = x + (-7046029254386353131 : Int64) := by
  generalize hx : x + (-7046029254386353131 : Int64) = a
  have m1 : ∀ b : Int64, b * (-7723592293110705685 : Int64) * (3573116690164977347 : Int64) = b := fun b => by
    rw [Int64.mul_assoc, show (-7723592293110705685 : Int64) * (3573116690164977347 : Int64) = 1 from by decide, Int64.mul_one]
  have m2 : ∀ b : Int64, b * (-4658895280553007687 : Int64) * (-7575587736534282103 : Int64) = b := fun b => by
    rw [Int64.mul_assoc, show (-4658895280553007687 : Int64) * (-7575587736534282103 : Int64) = 1 from by decide, Int64.mul_one]
  unfold own_unmix own_mix
  simp only [hx, own_s31, m1, own_s27, m2, own_s30]
theorem pd_0 : parseMethodDescriptor "(J)V" = some ⟨[.long], none⟩ := by decide +kernel
theorem pd_1 : parseMethodDescriptor "()J" = some ⟨[], some .long⟩ := by decide +kernel
theorem pd_2 : parseMethodDescriptor "(J)J" = some ⟨[.long], some .long⟩ := by decide +kernel
theorem d1_0 : decode prog_37_method_1_code 0 = .ok (.aload_n 0, 1) := by decide +kernel
theorem d1_1 : decode prog_37_method_1_code 1 = .ok (.invokespecial 1, 3) := by decide +kernel
theorem d1_4 : decode prog_37_method_1_code 4 = .ok (.aload_n 0, 1) := by decide +kernel
theorem d1_5 : decode prog_37_method_1_code 5 = .ok (.lload_n 1, 1) := by decide +kernel
theorem d1_6 : decode prog_37_method_1_code 6 = .ok (.putfield 7, 3) := by decide +kernel
theorem d1_9 : decode prog_37_method_1_code 9 = .ok (.return_, 1) := by decide +kernel
theorem pn_ini : plainName "com/example/backrank/backrank/SplitMix64" = true := by first | (simp [plainName, overriddenIn]; done) | decide +kernel
theorem ef_ini (m : MethodId) (a0 : Addr) (q1 : Int64) : entryFrame m #[(.ref a0), (.long q1)] 3 = mkF m 0 #[.val (.ref a0), .val (.long q1), .second] [] := by first | (simp [entryFrame, mkF, argsToLocals, Value.category]; done) | rfl
def Q_ini (Z : State) (a0 : Addr) (q1 : Int64) (h0 : Heap) (n0 : Nat) (v : Option Value) (h : Heap) (L : List Loc) : Prop := v = none ∧ Fr n0 L ∧ Keep h0 h [a0] ∧ Exa Z h a0 "com/example/backrank/backrank/SplitMix64" ∧ Fld Z h a0 "com/example/backrank/backrank/SplitMix64" "state" "J" (.long q1)
set_option maxRecDepth 65536 in
set_option maxHeartbeats 40000000 in
theorem rm_ini (l : Launch) (Z : State) (a0 : Array Value) (hw : ∀ d ∈ tables_1, d.before a0 Z = true) (ws : List Jvm.Cond) (a0 : Addr) (q1 : Int64) (h0 : Heap) (n0 : Nat) (Z0 : n0 ≤ h0.size) (F0 : Fld Z h0 a0 "com/example/backrank/backrank/SplitMix64" "state" "J" (.long (0 : Int64))) (E0 : Exa Z h0 a0 "com/example/backrank/backrank/SplitMix64") (g0 : n0 ≤ a0) :
    MetFree l (⟨"com/example/backrank/backrank/SplitMix64", "<init>", "(J)V"⟩ : MethodName) (head1 (Jvm.Cond.code (⟨"com/example/backrank/backrank/SplitMix64", "<init>", "(J)V"⟩ : MethodName) prog_37_method_1_code 3 none :: ws) ({ frames := 1, cells := 0, slots := 0, locals := 12 } : Room)) (fun a U => a = #[(.ref a0), (.long q1)] ∧ Z.Warmed39 U.vm ∧ U.heap = h0) (fun _ _ _ _ _ => True) (fun _ U o U' => ∃ v L, o = .returned v ∧ Q_ini Z a0 q1 h0 n0 v U'.heap L ∧ FrameEnd U o U' L ({ frames := 1, cells := 0, slots := 0, locals := 12 } : Room).cells ({ frames := 1, cells := 0, slots := 0, locals := 12 } : Room).slots) := by
  refine MetFree.of_bodySF (plainFor_of_name pn_ini) hisR ?_
  intro p e s m args below meth c s₁ Bd hml0 hP hK
  obtain ⟨rfl, hZ, hh⟩ := hP
  have hx := Bd.exec
  have hby := Bd.bytes
  have hml : c.maxLocals = 3 := hml0
  have hown : s.vm.findClass "com/example/backrank/backrank/SplitMix64" = some m.cls := findClass_of_methodNamed Bd.named
  have hnm := (name_of_methodNamed Bd.named Bd.method).1
  have X0 : Stand p l e ({ frames := 1, cells := 0, slots := 0, locals := 12 } : Room) s m #[(.ref a0), (.long q1)] below meth c s₁ [] 0 0 := Stand.of_body Bd
  have e0 : s₁.heap = h0 := by rw [← hh, Bd.state]; rfl
  have N0 := Fr.nil n0
  have pre0 : Go p.tables e below (s₁.setTop (entryFrame m #[(.ref a0), (.long q1)] 3)) s₁ (mkF m 0 #[.val (.ref a0), .val (.long q1), .second] []) := fun t k => castTop (ef_ini m a0 q1) k
  have K0 : Keep h0 h0 [a0] := Keep.refl _ _
  have pre1 : Go p.tables e below (s₁.setTop (entryFrame m #[(.ref a0), (.long q1)] 3)) s₁ (mkF m 1 #[.val (.ref a0), .val (.long q1), .second] [(.ref a0)]) := fun t k => pre0 t (by
      refine XS.aloadN X0.here hx rfl (hb hby d1_0) rfl rfl ?_
      exact k)
  obtain ⟨T2, X2, e2, st2⟩ := initO X0 hx hZ hown (hw _ (List.mem_of_getElem? (i := 6) rfl)) (hw _ (List.mem_of_getElem? (i := 7) rfl)) (hw _ (List.mem_of_getElem? (i := 8) rfl)) e0 (g := (mkF m 1 #[.val (.ref a0), .val (.long q1), .second] [(.ref a0)])) rfl (by rw [hml]; rfl) rfl (hb hby d1_1) (by decide) (W := 0) (by show 2 * 0 + _ ≤ _; exact Nat.le_of_eq rfl) (by decide)
  have pre2 : Go p.tables e below (s₁.setTop (entryFrame m #[(.ref a0), (.long q1)] 3)) T2 (mkF m 4 #[.val (.ref a0), .val (.long q1), .second] []) := fun t k => pre1 t (st2 _ k)
  have pre3 : Go p.tables e below (s₁.setTop (entryFrame m #[(.ref a0), (.long q1)] 3)) T2 (mkF m 6 #[.val (.ref a0), .val (.long q1), .second] [(.long q1), (.ref a0)]) := fun t k => pre2 t (by
      refine XS.aloadN X2.here hx rfl (hb hby d1_4) rfl rfl ?_
      show Steps p.tables e below (T2.setTop (mkF m 5 #[.val (.ref a0), .val (.long q1), .second] [(.ref a0)])) _
      refine XS.lloadN X2.here hx rfl (hb hby d1_5) rfl ?_
      exact k)
  obtain ⟨T4, h4, X4, e4, W4, st4⟩ := putF X2 hx hZ hown (host := "") (Or.inl (hw _ (List.mem_of_getElem? (i := 9) rfl))) Via.refl e2 F0 E0 (Or.inl (hw _ (List.mem_of_getElem? (i := 10) rfl))) (hw _ (List.mem_of_getElem? (i := 1) rfl)) (ty := .long) (by decide) rfl rfl (g := (mkF m 6 #[.val (.ref a0), .val (.long q1), .second] [(.long q1), (.ref a0)])) rfl rfl (hb hby d1_6)
  have N4 := Fr.snoc X4 N0 g0
  have f5 : n0 ≤ h4.size := Nat.le_trans Z0 (Keep.of_wr W4).1
  have f6 : Exa Z h4 a0 "com/example/backrank/backrank/SplitMix64" := E0.wr W4
  have f7 : Fld Z h4 a0 "com/example/backrank/backrank/SplitMix64" "state" "J" (.long q1) := F0.same W4
  have f8 : Keep h0 h4 [a0] := K0.wr W4 (Or.inl (List.mem_of_getElem? (i := 0) rfl))
  have pre4 : Go p.tables e below (s₁.setTop (entryFrame m #[(.ref a0), (.long q1)] 3)) T4 (mkF m 9 #[.val (.ref a0), .val (.long q1), .second] []) := fun t k => pre3 t (st4 _ k)
  obtain ⟨fs, hr, hrun, hended, hW, hsame⟩ := X4.leave (v := none) (fun _ => rfl) (BodyLoose.notSynchronized Bd)
  refine ⟨_, _, pre4 _ ?_, hrun, hended, _, _, rfl, ?_, ⟨_, rfl⟩, hW, hsame.mono (Nat.le_of_ble_eq_true rfl) (Nat.le_of_ble_eq_true rfl)⟩
  · exact X4.returnOut hx Bd.returns (hb hby d1_9) hr
  · show Q_ini Z a0 q1 h0 n0 _ T4.heap _
    rw [e4]
    exact ⟨rfl, N4, f8, f6, f7⟩
theorem d3_0 : decode prog_37_method_2_code 0 = .ok (.aload_n 0, 1) := by decide +kernel
theorem d3_1 : decode prog_37_method_2_code 1 = .ok (.dup, 1) := by decide +kernel
theorem d3_2 : decode prog_37_method_2_code 2 = .ok (.getfield 7, 3) := by decide +kernel
theorem d3_5 : decode prog_37_method_2_code 5 = .ok (.ldc2_w 13, 3) := by decide +kernel
theorem d3_8 : decode prog_37_method_2_code 8 = .ok (.ladd, 1) := by decide +kernel
theorem d3_9 : decode prog_37_method_2_code 9 = .ok (.putfield 7, 3) := by decide +kernel
theorem d3_12 : decode prog_37_method_2_code 12 = .ok (.aload_n 0, 1) := by decide +kernel
theorem d3_13 : decode prog_37_method_2_code 13 = .ok (.getfield 7, 3) := by decide +kernel
theorem d3_16 : decode prog_37_method_2_code 16 = .ok (.lstore_n 1, 1) := by decide +kernel
theorem d3_17 : decode prog_37_method_2_code 17 = .ok (.lload_n 1, 1) := by decide +kernel
theorem d3_18 : decode prog_37_method_2_code 18 = .ok (.lload_n 1, 1) := by decide +kernel
theorem d3_19 : decode prog_37_method_2_code 19 = .ok (.bipush 30, 2) := by decide +kernel
theorem d3_21 : decode prog_37_method_2_code 21 = .ok (.lushr, 1) := by decide +kernel
theorem d3_22 : decode prog_37_method_2_code 22 = .ok (.lxor, 1) := by decide +kernel
theorem d3_23 : decode prog_37_method_2_code 23 = .ok (.ldc2_w 15, 3) := by decide +kernel
theorem d3_26 : decode prog_37_method_2_code 26 = .ok (.lmul, 1) := by decide +kernel
theorem d3_27 : decode prog_37_method_2_code 27 = .ok (.lstore_n 1, 1) := by decide +kernel
theorem d3_28 : decode prog_37_method_2_code 28 = .ok (.lload_n 1, 1) := by decide +kernel
theorem d3_29 : decode prog_37_method_2_code 29 = .ok (.lload_n 1, 1) := by decide +kernel
theorem d3_30 : decode prog_37_method_2_code 30 = .ok (.bipush 27, 2) := by decide +kernel
theorem d3_32 : decode prog_37_method_2_code 32 = .ok (.lushr, 1) := by decide +kernel
theorem d3_33 : decode prog_37_method_2_code 33 = .ok (.lxor, 1) := by decide +kernel
theorem d3_34 : decode prog_37_method_2_code 34 = .ok (.ldc2_w 17, 3) := by decide +kernel
theorem d3_37 : decode prog_37_method_2_code 37 = .ok (.lmul, 1) := by decide +kernel
theorem d3_38 : decode prog_37_method_2_code 38 = .ok (.lstore_n 1, 1) := by decide +kernel
theorem d3_39 : decode prog_37_method_2_code 39 = .ok (.lload_n 1, 1) := by decide +kernel
theorem d3_40 : decode prog_37_method_2_code 40 = .ok (.lload_n 1, 1) := by decide +kernel
theorem d3_41 : decode prog_37_method_2_code 41 = .ok (.bipush 31, 2) := by decide +kernel
theorem d3_43 : decode prog_37_method_2_code 43 = .ok (.lushr, 1) := by decide +kernel
theorem d3_44 : decode prog_37_method_2_code 44 = .ok (.lxor, 1) := by decide +kernel
theorem d3_45 : decode prog_37_method_2_code 45 = .ok (.lreturn, 1) := by decide +kernel
theorem pn_nx : plainName "com/example/backrank/backrank/SplitMix64" = true := by first | (simp [plainName, overriddenIn]; done) | decide +kernel
theorem ef_nx (m : MethodId) (a0 : Addr) : entryFrame m #[(.ref a0)] 3 = mkF m 0 #[.val (.ref a0), .unset, .unset] [] := by first | (simp [entryFrame, mkF, argsToLocals, Value.category]; done) | rfl
def Q_nx (Z : State) (a0 : Addr) (x0 : Int64) (h0 : Heap) (n0 : Nat) (v : Option Value) (h : Heap) (L : List Loc) : Prop := v = some (.long (own_mix x0)) ∧ Fr n0 L ∧ Keep h0 h [a0] ∧ Fld Z h a0 "com/example/backrank/backrank/SplitMix64" "state" "J" (.long (x0 + (-7046029254386353131 : Int64)))
set_option maxRecDepth 65536 in
set_option maxHeartbeats 40000000 in
theorem rm_nx (l : Launch) (Z : State) (a0 : Array Value) (hw : ∀ d ∈ tables_1, d.before a0 Z = true) (ws : List Jvm.Cond) (a0 : Addr) (x0 : Int64) (h0 : Heap) (n0 : Nat) (Z0 : n0 ≤ h0.size) (F0 : Fld Z h0 a0 "com/example/backrank/backrank/SplitMix64" "state" "J" (.long x0)) (E0 : Exa Z h0 a0 "com/example/backrank/backrank/SplitMix64") (g0 : n0 ≤ a0) :
    MetFree l (⟨"com/example/backrank/backrank/SplitMix64", "nextLong", "()J"⟩ : MethodName) (head1 (Jvm.Cond.code (⟨"com/example/backrank/backrank/SplitMix64", "nextLong", "()J"⟩ : MethodName) prog_37_method_2_code 3 (some .long) :: ws) ({ frames := 0, cells := 0, slots := 0, locals := 0 } : Room)) (fun a U => a = #[(.ref a0)] ∧ Z.Warmed39 U.vm ∧ U.heap = h0) (fun _ _ _ _ _ => True) (fun _ U o U' => ∃ v L, o = .returned v ∧ Q_nx Z a0 x0 h0 n0 v U'.heap L ∧ FrameEnd U o U' L ({ frames := 0, cells := 0, slots := 0, locals := 0 } : Room).cells ({ frames := 0, cells := 0, slots := 0, locals := 0 } : Room).slots) := by
  refine MetFree.of_bodySF (plainFor_of_name pn_nx) hisR ?_
  intro p e s m args below meth c s₁ Bd hml0 hP hK
  obtain ⟨rfl, hZ, hh⟩ := hP
  have hx := Bd.exec
  have hby := Bd.bytes
  have hml : c.maxLocals = 3 := hml0
  have hown : s.vm.findClass "com/example/backrank/backrank/SplitMix64" = some m.cls := findClass_of_methodNamed Bd.named
  have hnm := (name_of_methodNamed Bd.named Bd.method).1
  have X0 : Stand p l e ({ frames := 0, cells := 0, slots := 0, locals := 0 } : Room) s m #[(.ref a0)] below meth c s₁ [] 0 0 := Stand.of_body Bd
  have e0 : s₁.heap = h0 := by rw [← hh, Bd.state]; rfl
  have N0 := Fr.nil n0
  have pre0 : Go p.tables e below (s₁.setTop (entryFrame m #[(.ref a0)] 3)) s₁ (mkF m 0 #[.val (.ref a0), .unset, .unset] []) := fun t k => castTop (ef_nx m a0) k
  have K0 : Keep h0 h0 [a0] := Keep.refl _ _
  have pre1 : Go p.tables e below (s₁.setTop (entryFrame m #[(.ref a0)] 3)) s₁ (mkF m 2 #[.val (.ref a0), .unset, .unset] [(.ref a0), (.ref a0)]) := fun t k => pre0 t (by
      refine XS.aloadN X0.here hx rfl (hb hby d3_0) rfl rfl ?_
      show Steps p.tables e below (s₁.setTop (mkF m 1 #[.val (.ref a0), .unset, .unset] [(.ref a0)])) _
      refine XS.dup X0.here hx rfl (hb hby d3_1) rfl rfl ?_
      exact k)
  obtain ⟨T2, X2, e2, st2⟩ := getF X0 hx hZ hown (host := "") (Or.inl (hw _ (List.mem_of_getElem? (i := 9) rfl))) Via.refl e0 F0 (g := (mkF m 2 #[.val (.ref a0), .unset, .unset] [(.ref a0), (.ref a0)])) rfl rfl (hb hby d3_2)
  have pre2 : Go p.tables e below (s₁.setTop (entryFrame m #[(.ref a0)] 3)) T2 (mkF m 5 #[.val (.ref a0), .unset, .unset] [(.long x0), (.ref a0)]) := fun t k => pre1 t (st2 _ k)
  have pre3 : Go p.tables e below (s₁.setTop (entryFrame m #[(.ref a0)] 3)) T2 (mkF m 9 #[.val (.ref a0), .unset, .unset] [(.long (x0 + (-7046029254386353131 : Int64))), (.ref a0)]) := fun t k => pre2 t (by
      refine X2.ldc2Long hx hown (mvT hZ (hw _ (List.mem_of_getElem? (i := 16) rfl))) (g := (mkF m 5 #[.val (.ref a0), .unset, .unset] [(.long x0), (.ref a0)])) rfl (hb hby d3_5) _ ?_
      show Steps p.tables e below (T2.setTop (mkF m 8 #[.val (.ref a0), .unset, .unset] [(.long (-7046029254386353131 : Int64)), (.long x0), (.ref a0)])) _
      refine XS.ladd X2.here hx rfl (hb hby d3_8) rfl ?_
      exact k)
  obtain ⟨T4, h4, X4, e4, W4, st4⟩ := putF X2 hx hZ hown (host := "") (Or.inl (hw _ (List.mem_of_getElem? (i := 9) rfl))) Via.refl e2 F0 E0 (Or.inl (hw _ (List.mem_of_getElem? (i := 10) rfl))) (hw _ (List.mem_of_getElem? (i := 1) rfl)) (ty := .long) (by decide) rfl rfl (g := (mkF m 9 #[.val (.ref a0), .unset, .unset] [(.long (x0 + (-7046029254386353131 : Int64))), (.ref a0)])) rfl rfl (hb hby d3_9)
  have N4 := Fr.snoc X4 N0 g0
  have f5 : n0 ≤ h4.size := Nat.le_trans Z0 (Keep.of_wr W4).1
  have f6 : Exa Z h4 a0 "com/example/backrank/backrank/SplitMix64" := E0.wr W4
  have f7 : Fld Z h4 a0 "com/example/backrank/backrank/SplitMix64" "state" "J" (.long (x0 + (-7046029254386353131 : Int64))) := F0.same W4
  have f8 : Keep h0 h4 [a0] := K0.wr W4 (Or.inl (List.mem_of_getElem? (i := 0) rfl))
  have pre4 : Go p.tables e below (s₁.setTop (entryFrame m #[(.ref a0)] 3)) T4 (mkF m 12 #[.val (.ref a0), .unset, .unset] []) := fun t k => pre3 t (st4 _ k)
  have pre9 : Go p.tables e below (s₁.setTop (entryFrame m #[(.ref a0)] 3)) T4 (mkF m 13 #[.val (.ref a0), .unset, .unset] [(.ref a0)]) := fun t k => pre4 t (by
      refine XS.aloadN X4.here hx rfl (hb hby d3_12) rfl rfl ?_
      exact k)
  obtain ⟨T10, X10, e10, st10⟩ := getF X4 hx hZ hown (host := "") (Or.inl (hw _ (List.mem_of_getElem? (i := 9) rfl))) Via.refl e4 f7 (g := (mkF m 13 #[.val (.ref a0), .unset, .unset] [(.ref a0)])) rfl rfl (hb hby d3_13)
  have pre10 : Go p.tables e below (s₁.setTop (entryFrame m #[(.ref a0)] 3)) T10 (mkF m 16 #[.val (.ref a0), .unset, .unset] [(.long (x0 + (-7046029254386353131 : Int64)))]) := fun t k => pre9 t (st10 _ k)
  obtain ⟨w11, hw11⟩ : ∃ z : Int64, z = (x0 + (-7046029254386353131 : Int64)) := ⟨_, rfl⟩
  obtain ⟨w12, hw12⟩ : ∃ z : Int64, z = ((w11 ^^^ ((w11.toUInt64 >>> ((30 : Int32) &&& 0x3f).toInt64.toUInt64).toInt64)) * (-4658895280553007687 : Int64)) := ⟨_, rfl⟩
  obtain ⟨w13, hw13⟩ : ∃ z : Int64, z = ((w12 ^^^ ((w12.toUInt64 >>> ((27 : Int32) &&& 0x3f).toInt64.toUInt64).toInt64)) * (-7723592293110705685 : Int64)) := ⟨_, rfl⟩
  have pre14 : Go p.tables e below (s₁.setTop (entryFrame m #[(.ref a0)] 3)) T10 (mkF m 45 #[.val (.ref a0), .val (.long w13), .second] [(.long (w13 ^^^ ((w13.toUInt64 >>> ((31 : Int32) &&& 0x3f).toInt64.toUInt64).toInt64)))]) := fun t k => pre10 t (by
      refine XS.lstoreN X10.here hx rfl (x := w11) (rest := []) (hb hby d3_16) (by subst hw11; rfl) (l' := #[.val (.ref a0), .val (.long w11), .second]) rfl ?_
      show Steps p.tables e below (T10.setTop (mkF m 17 #[.val (.ref a0), .val (.long w11), .second] [])) _
      refine XS.lloadN X10.here hx rfl (hb hby d3_17) rfl ?_
      show Steps p.tables e below (T10.setTop (mkF m 18 #[.val (.ref a0), .val (.long w11), .second] [(.long w11)])) _
      refine XS.lloadN X10.here hx rfl (hb hby d3_18) rfl ?_
      show Steps p.tables e below (T10.setTop (mkF m 19 #[.val (.ref a0), .val (.long w11), .second] [(.long w11), (.long w11)])) _
      refine XS.bipush X10.here hx rfl (hb hby d3_19) ?_
      show Steps p.tables e below (T10.setTop (mkF m 21 #[.val (.ref a0), .val (.long w11), .second] [(.int (30 : Int32)), (.long w11), (.long w11)])) _
      refine XS.lushr X10.here hx rfl (hb hby d3_21) rfl ?_
      show Steps p.tables e below (T10.setTop (mkF m 22 #[.val (.ref a0), .val (.long w11), .second] [(.long ((w11.toUInt64 >>> ((30 : Int32) &&& 0x3f).toInt64.toUInt64).toInt64)), (.long w11)])) _
      refine XS.lxor X10.here hx rfl (hb hby d3_22) rfl ?_
      show Steps p.tables e below (T10.setTop (mkF m 23 #[.val (.ref a0), .val (.long w11), .second] [(.long (w11 ^^^ ((w11.toUInt64 >>> ((30 : Int32) &&& 0x3f).toInt64.toUInt64).toInt64)))])) _
      refine X10.ldc2Long hx hown (mvT hZ (hw _ (List.mem_of_getElem? (i := 17) rfl))) (g := (mkF m 23 #[.val (.ref a0), .val (.long w11), .second] [(.long (w11 ^^^ ((w11.toUInt64 >>> ((30 : Int32) &&& 0x3f).toInt64.toUInt64).toInt64)))])) rfl (hb hby d3_23) _ ?_
      show Steps p.tables e below (T10.setTop (mkF m 26 #[.val (.ref a0), .val (.long w11), .second] [(.long (-4658895280553007687 : Int64)), (.long (w11 ^^^ ((w11.toUInt64 >>> ((30 : Int32) &&& 0x3f).toInt64.toUInt64).toInt64)))])) _
      refine XS.lmul X10.here hx rfl (hb hby d3_26) rfl ?_
      show Steps p.tables e below (T10.setTop (mkF m 27 #[.val (.ref a0), .val (.long w11), .second] [(.long ((w11 ^^^ ((w11.toUInt64 >>> ((30 : Int32) &&& 0x3f).toInt64.toUInt64).toInt64)) * (-4658895280553007687 : Int64)))])) _
      refine XS.lstoreN X10.here hx rfl (x := w12) (rest := []) (hb hby d3_27) (by subst hw12; rfl) (l' := #[.val (.ref a0), .val (.long w12), .second]) rfl ?_
      show Steps p.tables e below (T10.setTop (mkF m 28 #[.val (.ref a0), .val (.long w12), .second] [])) _
      refine XS.lloadN X10.here hx rfl (hb hby d3_28) rfl ?_
      show Steps p.tables e below (T10.setTop (mkF m 29 #[.val (.ref a0), .val (.long w12), .second] [(.long w12)])) _
      refine XS.lloadN X10.here hx rfl (hb hby d3_29) rfl ?_
      show Steps p.tables e below (T10.setTop (mkF m 30 #[.val (.ref a0), .val (.long w12), .second] [(.long w12), (.long w12)])) _
      refine XS.bipush X10.here hx rfl (hb hby d3_30) ?_
      show Steps p.tables e below (T10.setTop (mkF m 32 #[.val (.ref a0), .val (.long w12), .second] [(.int (27 : Int32)), (.long w12), (.long w12)])) _
      refine XS.lushr X10.here hx rfl (hb hby d3_32) rfl ?_
      show Steps p.tables e below (T10.setTop (mkF m 33 #[.val (.ref a0), .val (.long w12), .second] [(.long ((w12.toUInt64 >>> ((27 : Int32) &&& 0x3f).toInt64.toUInt64).toInt64)), (.long w12)])) _
      refine XS.lxor X10.here hx rfl (hb hby d3_33) rfl ?_
      show Steps p.tables e below (T10.setTop (mkF m 34 #[.val (.ref a0), .val (.long w12), .second] [(.long (w12 ^^^ ((w12.toUInt64 >>> ((27 : Int32) &&& 0x3f).toInt64.toUInt64).toInt64)))])) _
      refine X10.ldc2Long hx hown (mvT hZ (hw _ (List.mem_of_getElem? (i := 18) rfl))) (g := (mkF m 34 #[.val (.ref a0), .val (.long w12), .second] [(.long (w12 ^^^ ((w12.toUInt64 >>> ((27 : Int32) &&& 0x3f).toInt64.toUInt64).toInt64)))])) rfl (hb hby d3_34) _ ?_
      show Steps p.tables e below (T10.setTop (mkF m 37 #[.val (.ref a0), .val (.long w12), .second] [(.long (-7723592293110705685 : Int64)), (.long (w12 ^^^ ((w12.toUInt64 >>> ((27 : Int32) &&& 0x3f).toInt64.toUInt64).toInt64)))])) _
      refine XS.lmul X10.here hx rfl (hb hby d3_37) rfl ?_
      show Steps p.tables e below (T10.setTop (mkF m 38 #[.val (.ref a0), .val (.long w12), .second] [(.long ((w12 ^^^ ((w12.toUInt64 >>> ((27 : Int32) &&& 0x3f).toInt64.toUInt64).toInt64)) * (-7723592293110705685 : Int64)))])) _
      refine XS.lstoreN X10.here hx rfl (x := w13) (rest := []) (hb hby d3_38) (by subst hw13; rfl) (l' := #[.val (.ref a0), .val (.long w13), .second]) rfl ?_
      show Steps p.tables e below (T10.setTop (mkF m 39 #[.val (.ref a0), .val (.long w13), .second] [])) _
      refine XS.lloadN X10.here hx rfl (hb hby d3_39) rfl ?_
      show Steps p.tables e below (T10.setTop (mkF m 40 #[.val (.ref a0), .val (.long w13), .second] [(.long w13)])) _
      refine XS.lloadN X10.here hx rfl (hb hby d3_40) rfl ?_
      show Steps p.tables e below (T10.setTop (mkF m 41 #[.val (.ref a0), .val (.long w13), .second] [(.long w13), (.long w13)])) _
      refine XS.bipush X10.here hx rfl (hb hby d3_41) ?_
      show Steps p.tables e below (T10.setTop (mkF m 43 #[.val (.ref a0), .val (.long w13), .second] [(.int (31 : Int32)), (.long w13), (.long w13)])) _
      refine XS.lushr X10.here hx rfl (hb hby d3_43) rfl ?_
      show Steps p.tables e below (T10.setTop (mkF m 44 #[.val (.ref a0), .val (.long w13), .second] [(.long ((w13.toUInt64 >>> ((31 : Int32) &&& 0x3f).toInt64.toUInt64).toInt64)), (.long w13)])) _
      refine XS.lxor X10.here hx rfl (hb hby d3_44) rfl ?_
      exact k)
  obtain ⟨fs, hr, hrun, hended, hW, hsame⟩ := X10.leave (v := some (.long (w13 ^^^ ((w13.toUInt64 >>> ((31 : Int32) &&& 0x3f).toInt64.toUInt64).toInt64)))) (fun h => by rw [Bd.returns] at h; cases h) (BodyLoose.notSynchronized Bd)
  refine ⟨_, _, pre14 _ ?_, hrun, hended, _, _, rfl, ?_, ⟨_, rfl⟩, hW, hsame.mono (Nat.le_of_ble_eq_true rfl) (Nat.le_of_ble_eq_true rfl)⟩
  · exact retOut X10 hx Bd.returns rfl (Or.inr (Or.inl ⟨rfl, rfl, _, rfl⟩)) (hb hby d3_45) hr
  · show Q_nx Z a0 x0 h0 n0 _ T10.heap _
    rw [e10]
    subst hw13 hw12 hw11
    exact ⟨rfl, N4, f8, f7⟩
theorem d4_0 : decode method_2_code 0 = .ok (.lload_n 0, 1) := by decide +kernel
theorem d4_1 : decode method_2_code 1 = .ok (.lload_n 0, 1) := by decide +kernel
theorem d4_2 : decode method_2_code 2 = .ok (.bipush 31, 2) := by decide +kernel
theorem d4_4 : decode method_2_code 4 = .ok (.lushr, 1) := by decide +kernel
theorem d4_5 : decode method_2_code 5 = .ok (.lxor, 1) := by decide +kernel
theorem d4_6 : decode method_2_code 6 = .ok (.lload_n 0, 1) := by decide +kernel
theorem d4_7 : decode method_2_code 7 = .ok (.bipush 62, 2) := by decide +kernel
theorem d4_9 : decode method_2_code 9 = .ok (.lushr, 1) := by decide +kernel
theorem d4_10 : decode method_2_code 10 = .ok (.lxor, 1) := by decide +kernel
theorem d4_11 : decode method_2_code 11 = .ok (.ldc2_w 7, 3) := by decide +kernel
theorem d4_14 : decode method_2_code 14 = .ok (.lmul, 1) := by decide +kernel
theorem d4_15 : decode method_2_code 15 = .ok (.lstore_n 0, 1) := by decide +kernel
theorem d4_16 : decode method_2_code 16 = .ok (.lload_n 0, 1) := by decide +kernel
theorem d4_17 : decode method_2_code 17 = .ok (.lload_n 0, 1) := by decide +kernel
theorem d4_18 : decode method_2_code 18 = .ok (.bipush 27, 2) := by decide +kernel
theorem d4_20 : decode method_2_code 20 = .ok (.lushr, 1) := by decide +kernel
theorem d4_21 : decode method_2_code 21 = .ok (.lxor, 1) := by decide +kernel
theorem d4_22 : decode method_2_code 22 = .ok (.lload_n 0, 1) := by decide +kernel
theorem d4_23 : decode method_2_code 23 = .ok (.bipush 54, 2) := by decide +kernel
theorem d4_25 : decode method_2_code 25 = .ok (.lushr, 1) := by decide +kernel
theorem d4_26 : decode method_2_code 26 = .ok (.lxor, 1) := by decide +kernel
theorem d4_27 : decode method_2_code 27 = .ok (.ldc2_w 9, 3) := by decide +kernel
theorem d4_30 : decode method_2_code 30 = .ok (.lmul, 1) := by decide +kernel
theorem d4_31 : decode method_2_code 31 = .ok (.lstore_n 0, 1) := by decide +kernel
theorem d4_32 : decode method_2_code 32 = .ok (.lload_n 0, 1) := by decide +kernel
theorem d4_33 : decode method_2_code 33 = .ok (.lload_n 0, 1) := by decide +kernel
theorem d4_34 : decode method_2_code 34 = .ok (.bipush 30, 2) := by decide +kernel
theorem d4_36 : decode method_2_code 36 = .ok (.lushr, 1) := by decide +kernel
theorem d4_37 : decode method_2_code 37 = .ok (.lxor, 1) := by decide +kernel
theorem d4_38 : decode method_2_code 38 = .ok (.lload_n 0, 1) := by decide +kernel
theorem d4_39 : decode method_2_code 39 = .ok (.bipush 60, 2) := by decide +kernel
theorem d4_41 : decode method_2_code 41 = .ok (.lushr, 1) := by decide +kernel
theorem d4_42 : decode method_2_code 42 = .ok (.lxor, 1) := by decide +kernel
theorem d4_43 : decode method_2_code 43 = .ok (.lreturn, 1) := by decide +kernel
theorem pn_un : plainName "com/example/backrank/backrank/SplitMix64NextLongPinLaw" = true := by first | (simp [plainName, overriddenIn]; done) | decide +kernel
theorem ef_un (m : MethodId) (q0 : Int64) : entryFrame m #[(.long q0)] 2 = mkF m 0 #[.val (.long q0), .second] [] := by first | (simp [entryFrame, mkF, argsToLocals, Value.category]; done) | rfl
def Q_un (Z : State) (q0 : Int64) (h0 : Heap) (n0 : Nat) (v : Option Value) (h : Heap) (L : List Loc) : Prop := v = some (.long (own_unmix q0)) ∧ Fr n0 L ∧ h = h0
set_option maxRecDepth 65536 in
set_option maxHeartbeats 40000000 in
theorem rm_un (l : Launch) (Z : State) (a0 : Array Value) (hw : ∀ d ∈ tables_1, d.before a0 Z = true) (ws : List Jvm.Cond) (q0 : Int64) (h0 : Heap) (n0 : Nat) :
    MetFree l (⟨"com/example/backrank/backrank/SplitMix64NextLongPinLaw", "unmix", "(J)J"⟩ : MethodName) (head1 (Jvm.Cond.code (⟨"com/example/backrank/backrank/SplitMix64NextLongPinLaw", "unmix", "(J)J"⟩ : MethodName) method_2_code 2 (some .long) :: ws) ({ frames := 0, cells := 0, slots := 0, locals := 0 } : Room)) (fun a U => a = #[(.long q0)] ∧ Z.Warmed39 U.vm ∧ U.heap = h0) (fun _ _ _ _ _ => True) (fun _ U o U' => ∃ v L, o = .returned v ∧ Q_un Z q0 h0 n0 v U'.heap L ∧ FrameEnd U o U' L ({ frames := 0, cells := 0, slots := 0, locals := 0 } : Room).cells ({ frames := 0, cells := 0, slots := 0, locals := 0 } : Room).slots) := by
  refine MetFree.of_bodySF (plainFor_of_name pn_un) hisR ?_
  intro p e s m args below meth c s₁ Bd hml0 hP hK
  obtain ⟨rfl, hZ, hh⟩ := hP
  have hx := Bd.exec
  have hby := Bd.bytes
  have hml : c.maxLocals = 2 := hml0
  have hown : s.vm.findClass "com/example/backrank/backrank/SplitMix64NextLongPinLaw" = some m.cls := findClass_of_methodNamed Bd.named
  have hnm := (name_of_methodNamed Bd.named Bd.method).1
  have X0 : Stand p l e ({ frames := 0, cells := 0, slots := 0, locals := 0 } : Room) s m #[(.long q0)] below meth c s₁ [] 0 0 := Stand.of_body Bd
  have e0 : s₁.heap = h0 := by rw [← hh, Bd.state]; rfl
  have N0 := Fr.nil n0
  have pre0 : Go p.tables e below (s₁.setTop (entryFrame m #[(.long q0)] 2)) s₁ (mkF m 0 #[.val (.long q0), .second] []) := fun t k => castTop (ef_un m q0) k
  obtain ⟨w1, hw1⟩ : ∃ z : Int64, z = (((q0 ^^^ ((q0.toUInt64 >>> ((31 : Int32) &&& 0x3f).toInt64.toUInt64).toInt64)) ^^^ ((q0.toUInt64 >>> ((62 : Int32) &&& 0x3f).toInt64.toUInt64).toInt64)) * (3573116690164977347 : Int64)) := ⟨_, rfl⟩
  obtain ⟨w2, hw2⟩ : ∃ z : Int64, z = (((w1 ^^^ ((w1.toUInt64 >>> ((27 : Int32) &&& 0x3f).toInt64.toUInt64).toInt64)) ^^^ ((w1.toUInt64 >>> ((54 : Int32) &&& 0x3f).toInt64.toUInt64).toInt64)) * (-7575587736534282103 : Int64)) := ⟨_, rfl⟩
  have pre3 : Go p.tables e below (s₁.setTop (entryFrame m #[(.long q0)] 2)) s₁ (mkF m 43 #[.val (.long w2), .second] [(.long ((w2 ^^^ ((w2.toUInt64 >>> ((30 : Int32) &&& 0x3f).toInt64.toUInt64).toInt64)) ^^^ ((w2.toUInt64 >>> ((60 : Int32) &&& 0x3f).toInt64.toUInt64).toInt64)))]) := fun t k => pre0 t (by
      refine XS.lloadN X0.here hx rfl (hb hby d4_0) rfl ?_
      show Steps p.tables e below (s₁.setTop (mkF m 1 #[.val (.long q0), .second] [(.long q0)])) _
      refine XS.lloadN X0.here hx rfl (hb hby d4_1) rfl ?_
      show Steps p.tables e below (s₁.setTop (mkF m 2 #[.val (.long q0), .second] [(.long q0), (.long q0)])) _
      refine XS.bipush X0.here hx rfl (hb hby d4_2) ?_
      show Steps p.tables e below (s₁.setTop (mkF m 4 #[.val (.long q0), .second] [(.int (31 : Int32)), (.long q0), (.long q0)])) _
      refine XS.lushr X0.here hx rfl (hb hby d4_4) rfl ?_
      show Steps p.tables e below (s₁.setTop (mkF m 5 #[.val (.long q0), .second] [(.long ((q0.toUInt64 >>> ((31 : Int32) &&& 0x3f).toInt64.toUInt64).toInt64)), (.long q0)])) _
      refine XS.lxor X0.here hx rfl (hb hby d4_5) rfl ?_
      show Steps p.tables e below (s₁.setTop (mkF m 6 #[.val (.long q0), .second] [(.long (q0 ^^^ ((q0.toUInt64 >>> ((31 : Int32) &&& 0x3f).toInt64.toUInt64).toInt64)))])) _
      refine XS.lloadN X0.here hx rfl (hb hby d4_6) rfl ?_
      show Steps p.tables e below (s₁.setTop (mkF m 7 #[.val (.long q0), .second] [(.long q0), (.long (q0 ^^^ ((q0.toUInt64 >>> ((31 : Int32) &&& 0x3f).toInt64.toUInt64).toInt64)))])) _
      refine XS.bipush X0.here hx rfl (hb hby d4_7) ?_
      show Steps p.tables e below (s₁.setTop (mkF m 9 #[.val (.long q0), .second] [(.int (62 : Int32)), (.long q0), (.long (q0 ^^^ ((q0.toUInt64 >>> ((31 : Int32) &&& 0x3f).toInt64.toUInt64).toInt64)))])) _
      refine XS.lushr X0.here hx rfl (hb hby d4_9) rfl ?_
      show Steps p.tables e below (s₁.setTop (mkF m 10 #[.val (.long q0), .second] [(.long ((q0.toUInt64 >>> ((62 : Int32) &&& 0x3f).toInt64.toUInt64).toInt64)), (.long (q0 ^^^ ((q0.toUInt64 >>> ((31 : Int32) &&& 0x3f).toInt64.toUInt64).toInt64)))])) _
      refine XS.lxor X0.here hx rfl (hb hby d4_10) rfl ?_
      show Steps p.tables e below (s₁.setTop (mkF m 11 #[.val (.long q0), .second] [(.long ((q0 ^^^ ((q0.toUInt64 >>> ((31 : Int32) &&& 0x3f).toInt64.toUInt64).toInt64)) ^^^ ((q0.toUInt64 >>> ((62 : Int32) &&& 0x3f).toInt64.toUInt64).toInt64)))])) _
      refine X0.ldc2Long hx hown (mvT hZ (hw _ (List.mem_of_getElem? (i := 24) rfl))) (g := (mkF m 11 #[.val (.long q0), .second] [(.long ((q0 ^^^ ((q0.toUInt64 >>> ((31 : Int32) &&& 0x3f).toInt64.toUInt64).toInt64)) ^^^ ((q0.toUInt64 >>> ((62 : Int32) &&& 0x3f).toInt64.toUInt64).toInt64)))])) rfl (hb hby d4_11) _ ?_
      show Steps p.tables e below (s₁.setTop (mkF m 14 #[.val (.long q0), .second] [(.long (3573116690164977347 : Int64)), (.long ((q0 ^^^ ((q0.toUInt64 >>> ((31 : Int32) &&& 0x3f).toInt64.toUInt64).toInt64)) ^^^ ((q0.toUInt64 >>> ((62 : Int32) &&& 0x3f).toInt64.toUInt64).toInt64)))])) _
      refine XS.lmul X0.here hx rfl (hb hby d4_14) rfl ?_
      show Steps p.tables e below (s₁.setTop (mkF m 15 #[.val (.long q0), .second] [(.long (((q0 ^^^ ((q0.toUInt64 >>> ((31 : Int32) &&& 0x3f).toInt64.toUInt64).toInt64)) ^^^ ((q0.toUInt64 >>> ((62 : Int32) &&& 0x3f).toInt64.toUInt64).toInt64)) * (3573116690164977347 : Int64)))])) _
      refine XS.lstoreN X0.here hx rfl (x := w1) (rest := []) (hb hby d4_15) (by subst hw1; rfl) (l' := #[.val (.long w1), .second]) rfl ?_
      show Steps p.tables e below (s₁.setTop (mkF m 16 #[.val (.long w1), .second] [])) _
      refine XS.lloadN X0.here hx rfl (hb hby d4_16) rfl ?_
      show Steps p.tables e below (s₁.setTop (mkF m 17 #[.val (.long w1), .second] [(.long w1)])) _
      refine XS.lloadN X0.here hx rfl (hb hby d4_17) rfl ?_
      show Steps p.tables e below (s₁.setTop (mkF m 18 #[.val (.long w1), .second] [(.long w1), (.long w1)])) _
      refine XS.bipush X0.here hx rfl (hb hby d4_18) ?_
      show Steps p.tables e below (s₁.setTop (mkF m 20 #[.val (.long w1), .second] [(.int (27 : Int32)), (.long w1), (.long w1)])) _
      refine XS.lushr X0.here hx rfl (hb hby d4_20) rfl ?_
      show Steps p.tables e below (s₁.setTop (mkF m 21 #[.val (.long w1), .second] [(.long ((w1.toUInt64 >>> ((27 : Int32) &&& 0x3f).toInt64.toUInt64).toInt64)), (.long w1)])) _
      refine XS.lxor X0.here hx rfl (hb hby d4_21) rfl ?_
      show Steps p.tables e below (s₁.setTop (mkF m 22 #[.val (.long w1), .second] [(.long (w1 ^^^ ((w1.toUInt64 >>> ((27 : Int32) &&& 0x3f).toInt64.toUInt64).toInt64)))])) _
      refine XS.lloadN X0.here hx rfl (hb hby d4_22) rfl ?_
      show Steps p.tables e below (s₁.setTop (mkF m 23 #[.val (.long w1), .second] [(.long w1), (.long (w1 ^^^ ((w1.toUInt64 >>> ((27 : Int32) &&& 0x3f).toInt64.toUInt64).toInt64)))])) _
      refine XS.bipush X0.here hx rfl (hb hby d4_23) ?_
      show Steps p.tables e below (s₁.setTop (mkF m 25 #[.val (.long w1), .second] [(.int (54 : Int32)), (.long w1), (.long (w1 ^^^ ((w1.toUInt64 >>> ((27 : Int32) &&& 0x3f).toInt64.toUInt64).toInt64)))])) _
      refine XS.lushr X0.here hx rfl (hb hby d4_25) rfl ?_
      show Steps p.tables e below (s₁.setTop (mkF m 26 #[.val (.long w1), .second] [(.long ((w1.toUInt64 >>> ((54 : Int32) &&& 0x3f).toInt64.toUInt64).toInt64)), (.long (w1 ^^^ ((w1.toUInt64 >>> ((27 : Int32) &&& 0x3f).toInt64.toUInt64).toInt64)))])) _
      refine XS.lxor X0.here hx rfl (hb hby d4_26) rfl ?_
      show Steps p.tables e below (s₁.setTop (mkF m 27 #[.val (.long w1), .second] [(.long ((w1 ^^^ ((w1.toUInt64 >>> ((27 : Int32) &&& 0x3f).toInt64.toUInt64).toInt64)) ^^^ ((w1.toUInt64 >>> ((54 : Int32) &&& 0x3f).toInt64.toUInt64).toInt64)))])) _
      refine X0.ldc2Long hx hown (mvT hZ (hw _ (List.mem_of_getElem? (i := 25) rfl))) (g := (mkF m 27 #[.val (.long w1), .second] [(.long ((w1 ^^^ ((w1.toUInt64 >>> ((27 : Int32) &&& 0x3f).toInt64.toUInt64).toInt64)) ^^^ ((w1.toUInt64 >>> ((54 : Int32) &&& 0x3f).toInt64.toUInt64).toInt64)))])) rfl (hb hby d4_27) _ ?_
      show Steps p.tables e below (s₁.setTop (mkF m 30 #[.val (.long w1), .second] [(.long (-7575587736534282103 : Int64)), (.long ((w1 ^^^ ((w1.toUInt64 >>> ((27 : Int32) &&& 0x3f).toInt64.toUInt64).toInt64)) ^^^ ((w1.toUInt64 >>> ((54 : Int32) &&& 0x3f).toInt64.toUInt64).toInt64)))])) _
      refine XS.lmul X0.here hx rfl (hb hby d4_30) rfl ?_
      show Steps p.tables e below (s₁.setTop (mkF m 31 #[.val (.long w1), .second] [(.long (((w1 ^^^ ((w1.toUInt64 >>> ((27 : Int32) &&& 0x3f).toInt64.toUInt64).toInt64)) ^^^ ((w1.toUInt64 >>> ((54 : Int32) &&& 0x3f).toInt64.toUInt64).toInt64)) * (-7575587736534282103 : Int64)))])) _
      refine XS.lstoreN X0.here hx rfl (x := w2) (rest := []) (hb hby d4_31) (by subst hw2; rfl) (l' := #[.val (.long w2), .second]) rfl ?_
      show Steps p.tables e below (s₁.setTop (mkF m 32 #[.val (.long w2), .second] [])) _
      refine XS.lloadN X0.here hx rfl (hb hby d4_32) rfl ?_
      show Steps p.tables e below (s₁.setTop (mkF m 33 #[.val (.long w2), .second] [(.long w2)])) _
      refine XS.lloadN X0.here hx rfl (hb hby d4_33) rfl ?_
      show Steps p.tables e below (s₁.setTop (mkF m 34 #[.val (.long w2), .second] [(.long w2), (.long w2)])) _
      refine XS.bipush X0.here hx rfl (hb hby d4_34) ?_
      show Steps p.tables e below (s₁.setTop (mkF m 36 #[.val (.long w2), .second] [(.int (30 : Int32)), (.long w2), (.long w2)])) _
      refine XS.lushr X0.here hx rfl (hb hby d4_36) rfl ?_
      show Steps p.tables e below (s₁.setTop (mkF m 37 #[.val (.long w2), .second] [(.long ((w2.toUInt64 >>> ((30 : Int32) &&& 0x3f).toInt64.toUInt64).toInt64)), (.long w2)])) _
      refine XS.lxor X0.here hx rfl (hb hby d4_37) rfl ?_
      show Steps p.tables e below (s₁.setTop (mkF m 38 #[.val (.long w2), .second] [(.long (w2 ^^^ ((w2.toUInt64 >>> ((30 : Int32) &&& 0x3f).toInt64.toUInt64).toInt64)))])) _
      refine XS.lloadN X0.here hx rfl (hb hby d4_38) rfl ?_
      show Steps p.tables e below (s₁.setTop (mkF m 39 #[.val (.long w2), .second] [(.long w2), (.long (w2 ^^^ ((w2.toUInt64 >>> ((30 : Int32) &&& 0x3f).toInt64.toUInt64).toInt64)))])) _
      refine XS.bipush X0.here hx rfl (hb hby d4_39) ?_
      show Steps p.tables e below (s₁.setTop (mkF m 41 #[.val (.long w2), .second] [(.int (60 : Int32)), (.long w2), (.long (w2 ^^^ ((w2.toUInt64 >>> ((30 : Int32) &&& 0x3f).toInt64.toUInt64).toInt64)))])) _
      refine XS.lushr X0.here hx rfl (hb hby d4_41) rfl ?_
      show Steps p.tables e below (s₁.setTop (mkF m 42 #[.val (.long w2), .second] [(.long ((w2.toUInt64 >>> ((60 : Int32) &&& 0x3f).toInt64.toUInt64).toInt64)), (.long (w2 ^^^ ((w2.toUInt64 >>> ((30 : Int32) &&& 0x3f).toInt64.toUInt64).toInt64)))])) _
      refine XS.lxor X0.here hx rfl (hb hby d4_42) rfl ?_
      exact k)
  obtain ⟨fs, hr, hrun, hended, hW, hsame⟩ := X0.leave (v := some (.long ((w2 ^^^ ((w2.toUInt64 >>> ((30 : Int32) &&& 0x3f).toInt64.toUInt64).toInt64)) ^^^ ((w2.toUInt64 >>> ((60 : Int32) &&& 0x3f).toInt64.toUInt64).toInt64)))) (fun h => by rw [Bd.returns] at h; cases h) (BodyLoose.notSynchronized Bd)
  refine ⟨_, _, pre3 _ ?_, hrun, hended, _, _, rfl, ?_, ⟨_, rfl⟩, hW, hsame.mono (Nat.le_of_ble_eq_true rfl) (Nat.le_of_ble_eq_true rfl)⟩
  · exact retOut X0 hx Bd.returns rfl (Or.inr (Or.inl ⟨rfl, rfl, _, rfl⟩)) (hb hby d4_43) hr
  · show Q_un Z q0 h0 n0 _ s₁.heap _
    rw [e0]
    subst hw2 hw1
    exact ⟨rfl, N0, rfl⟩
theorem pn_law : plainName "com/example/backrank/backrank/SplitMix64NextLongPinLaw" = true := by first | (simp [plainName, overriddenIn]; done) | decide +kernel
theorem ef_law (m : MethodId) (x0 : Int64) : entryFrame m #[(.long x0)] maxLocals = mkF m 0 #[.val (.long x0), .second, .unset, .unset, .unset, .unset, .unset, .unset, .unset, .unset, .unset, .unset, .unset, .unset, .unset, .unset, .unset] [] := by first | (simp [entryFrame, mkF, argsToLocals, Value.category, maxLocals]; done) | rfl
def Q_law (Z : State) (x0 : Int64) (h0 : Heap) (n0 : Nat) (v : Option Value) (h : Heap) (L : List Loc) : Prop := v = some (.int 1) ∧ Fr n0 L
set_option maxRecDepth 65536 in
set_option maxHeartbeats 40000000 in
theorem rm_law (l : Launch) (Z : State) (a0 : Array Value) (hw : ∀ d ∈ tables_1, d.before a0 Z = true) (ws : List Jvm.Cond) (x0 : Int64) (h0 : Heap) (n0 : Nat) (Z0 : n0 ≤ h0.size) :
    MetFree l x (head1 (Jvm.Cond.code x code maxLocals ret :: ws) room_1) (fun a U => a = #[(.long x0)] ∧ Z.Warmed39 U.vm ∧ U.heap = h0) (fun _ _ _ _ _ => True) (fun _ U o U' => ∃ v L, o = .returned v ∧ Q_law Z x0 h0 n0 v U'.heap L ∧ FrameEnd U o U' L room_1.cells room_1.slots) := by
  refine MetFree.of_bodySF (plainFor_of_name pn_law) hisR ?_
  intro p e s m args below meth c s₁ Bd hml0 hP hK
  obtain ⟨rfl, hZ, hh⟩ := hP
  have hx := Bd.exec
  have hby := Bd.bytes
  have hml : c.maxLocals = 17 := hml0
  have hown : s.vm.findClass "com/example/backrank/backrank/SplitMix64NextLongPinLaw" = some m.cls := findClass_of_methodNamed Bd.named
  have hnm := (name_of_methodNamed Bd.named Bd.method).1
  have X0 : Stand p l e room_1 s m #[(.long x0)] below meth c s₁ [] 0 0 := Stand.of_body Bd
  have e0 : s₁.heap = h0 := by rw [← hh, Bd.state]; rfl
  have N0 := Fr.nil n0
  have pre0 : Go p.tables e below (s₁.setTop (entryFrame m #[(.long x0)] maxLocals)) s₁ (mkF m 0 #[.val (.long x0), .second, .unset, .unset, .unset, .unset, .unset, .unset, .unset, .unset, .unset, .unset, .unset, .unset, .unset, .unset, .unset] []) := fun t k => castTop (ef_law m x0) k
  obtain ⟨T1, h1, X1, e1, E1, A1, D1, -, st1⟩ := newO X0 hx hZ hown (hw _ (List.mem_of_getElem? (i := 0) rfl)) (hw _ (List.mem_of_getElem? (i := 1) rfl)) (hw _ (List.mem_of_getElem? (i := 2) rfl)) e0 (g := (mkF m 0 #[.val (.long x0), .second, .unset, .unset, .unset, .unset, .unset, .unset, .unset, .unset, .unset, .unset, .unset, .unset, .unset, .unset, .unset] [])) rfl (hb hby at_0) (by decide) (by decide)
  obtain ⟨b1, ga1⟩ : ∃ z, z = h0.size := ⟨_, rfl⟩
  rw [← ga1] at A1 D1 st1
  have g2 : n0 ≤ b1 := Nat.le_trans Z0 (Nat.le_of_eq ga1.symm)
  have f3 : n0 ≤ h1.size := Nat.le_trans Z0 E1.1
  have f4 : Fld Z h1 b1 "com/example/backrank/backrank/SplitMix64" "state" "J" (.long (0 : Int64)) := D1 (Or.inl (hw _ (List.mem_of_getElem? (i := 10) rfl))) (ty := .long) (by decide)
  have pre1 : Go p.tables e below (s₁.setTop (entryFrame m #[(.long x0)] maxLocals)) T1 (mkF m 3 #[.val (.long x0), .second, .unset, .unset, .unset, .unset, .unset, .unset, .unset, .unset, .unset, .unset, .unset, .unset, .unset, .unset, .unset] [(.ref b1)]) := fun t k => pre0 t (st1 _ k)
  have pre5 : Go p.tables e below (s₁.setTop (entryFrame m #[(.long x0)] maxLocals)) T1 (mkF m 5 #[.val (.long x0), .second, .unset, .unset, .unset, .unset, .unset, .unset, .unset, .unset, .unset, .unset, .unset, .unset, .unset, .unset, .unset] [(.long x0), (.ref b1), (.ref b1)]) := fun t k => pre1 t (by
      refine XS.dup X1.here hx rfl (hb hby at_3) rfl rfl ?_
      show Steps p.tables e below (T1.setTop (mkF m 4 #[.val (.long x0), .second, .unset, .unset, .unset, .unset, .unset, .unset, .unset, .unset, .unset, .unset, .unset, .unset, .unset, .unset, .unset] [(.ref b1), (.ref b1)])) _
      refine XS.lloadN X1.here hx rfl (hb hby at_4) rfl ?_
      exact k)
  obtain ⟨_, _, ⟨T6, L6, k6, n6⟩, -, X6, ⟨Lc6, hQ6, l6, y6, z6⟩, st6⟩ := X1.specialBack hx (y := (⟨"com/example/backrank/backrank/SplitMix64", "<init>", "(J)V"⟩ : MethodName)) rfl hown (mvT hZ (hw _ (List.mem_of_getElem? (i := 3) rfl))) (mvT hZ (hw _ (List.mem_of_getElem? (i := 4) rfl))) (mvT hZ (hw _ (List.mem_of_getElem? (i := 5) rfl))) (by decide) (backOf (W := 1) (rm_ini l Z a0 hw [] b1 x0 h1 n0 f3 f4 A1 g2) hZ (hw _ (List.mem_of_getElem? (i := 5) rfl)) (hw _ (List.mem_of_getElem? (i := 2) rfl)) (by decide) (by decide)) (g := (mkF m 5 #[.val (.long x0), .second, .unset, .unset, .unset, .unset, .unset, .unset, .unset, .unset, .unset, .unset, .unset, .unset, .unset, .unset, .unset] [(.long x0), (.ref b1), (.ref b1)])) rfl (by rw [hml]; rfl) (Steps.refl _) (a := b1) (argsL := [(.long x0)]) (rest := [(.ref b1)]) (lenOf pd_0 rfl) rfl (by show 2 * 0 + _ ≤ _; exact Nat.le_of_eq rfl) (hb hby at_5) (fun _ _ => ⟨rfl, e1, (by decide : 1 + 0 ≤ _), (by decide : 1 + 0 ≤ _)⟩)
  dsimp only [Pt.U, Pt.locs, Pt.cells, Pt.slots] at X6 l6 y6 z6 st6 hQ6
  subst l6 y6 z6
  obtain ⟨rfl, N6q, K6, Eq6, Fq6⟩ := hQ6
  have f7 : n0 ≤ T6.heap.size := Nat.le_trans f3 K6.1
  have f8 : Exa Z T6.heap b1 "com/example/backrank/backrank/SplitMix64" := A1.keep K6
  have N6 := Fr.app N0 N6q
  have pre6 : Go p.tables e below (s₁.setTop (entryFrame m #[(.long x0)] maxLocals)) T6 (mkF m 8 #[.val (.long x0), .second, .unset, .unset, .unset, .unset, .unset, .unset, .unset, .unset, .unset, .unset, .unset, .unset, .unset, .unset, .unset] [(.ref b1)]) := fun t k => pre5 t (st6.trans k)
  have pre9 : Go p.tables e below (s₁.setTop (entryFrame m #[(.long x0)] maxLocals)) T6 (mkF m 10 #[.val (.long x0), .second, .val (.ref b1), .unset, .unset, .unset, .unset, .unset, .unset, .unset, .unset, .unset, .unset, .unset, .unset, .unset, .unset] [(.ref b1)]) := fun t k => pre6 t (by
      refine XS.astoreN X6.here hx rfl (hb hby at_8) rfl rfl (l' := #[.val (.long x0), .second, .val (.ref b1), .unset, .unset, .unset, .unset, .unset, .unset, .unset, .unset, .unset, .unset, .unset, .unset, .unset, .unset]) rfl ?_
      show Steps p.tables e below (T6.setTop (mkF m 9 #[.val (.long x0), .second, .val (.ref b1), .unset, .unset, .unset, .unset, .unset, .unset, .unset, .unset, .unset, .unset, .unset, .unset, .unset, .unset] [])) _
      refine XS.aloadN X6.here hx rfl (hb hby at_9) rfl rfl ?_
      exact k)
  obtain ⟨cq10, kq10, q10a, q10b, q10c⟩ := isOf hZ rfl f8
  obtain ⟨_, _, ⟨T10, L10, k10, n10⟩, -, X10, ⟨Lc10, hQ10, l10, y10, z10⟩, st10⟩ := X6.virtualBack hx (y := (⟨"com/example/backrank/backrank/SplitMix64", "nextLong", "()J"⟩ : MethodName)) (z := (⟨"com/example/backrank/backrank/SplitMix64", "nextLong", "()J"⟩ : MethodName)) hown (mvT hZ (hw _ (List.mem_of_getElem? (i := 11) rfl))) (mvT hZ (hw _ (List.mem_of_getElem? (i := 12) rfl))) (notFace_of_selects (args := #[]) (mvT hZ (hw _ (List.mem_of_getElem? (i := 14) rfl)))) (mvT hZ (hw _ (List.mem_of_getElem? (i := 14) rfl))) (mvT hZ (hw _ (List.mem_of_getElem? (i := 13) rfl))) (by decide) (backOf (W := 0) (rm_nx l Z a0 hw [] b1 x0 T6.heap n0 f7 Fq6 f8 g2) hZ (hw _ (List.mem_of_getElem? (i := 15) rfl)) (hw _ (List.mem_of_getElem? (i := 2) rfl)) (by decide) (by decide)) q10a q10c (g := (mkF m 10 #[.val (.long x0), .second, .val (.ref b1), .unset, .unset, .unset, .unset, .unset, .unset, .unset, .unset, .unset, .unset, .unset, .unset, .unset, .unset] [(.ref b1)])) rfl (by rw [hml]; rfl) (Steps.refl _) (argsL := []) (rest := []) (lenOf pd_1 rfl) rfl (by show 2 * 0 + _ ≤ _; exact Nat.le_of_eq rfl) (hb hby at_10) (fun _ _ => ⟨rfl, rfl, (by decide : 1 + 0 ≤ _), (by decide : 1 + 0 ≤ _)⟩)
  dsimp only [Pt.U, Pt.locs, Pt.cells, Pt.slots] at X10 l10 y10 z10 st10 hQ10
  subst l10 y10 z10
  obtain ⟨rfl, N10q, K10, Fq10⟩ := hQ10
  have f11 : n0 ≤ T10.heap.size := Nat.le_trans f7 K10.1
  have f12 : Exa Z T10.heap b1 "com/example/backrank/backrank/SplitMix64" := f8.keep K10
  have N10 := Fr.app N6 N10q
  have pre10 : Go p.tables e below (s₁.setTop (entryFrame m #[(.long x0)] maxLocals)) T10 (mkF m 13 #[.val (.long x0), .second, .val (.ref b1), .unset, .unset, .unset, .unset, .unset, .unset, .unset, .unset, .unset, .unset, .unset, .unset, .unset, .unset] [(.long (own_mix x0))]) := fun t k => pre9 t (st10.trans k)
  obtain ⟨w13, hw13⟩ : ∃ z : Int64, z = (own_mix x0) := ⟨_, rfl⟩
  have pre14 : Go p.tables e below (s₁.setTop (entryFrame m #[(.long x0)] maxLocals)) T10 (mkF m 15 #[.val (.long x0), .second, .val (.ref b1), .val (.long w13), .second, .unset, .unset, .unset, .unset, .unset, .unset, .unset, .unset, .unset, .unset, .unset, .unset] [(.ref b1)]) := fun t k => pre10 t (by
      refine XS.lstoreN X10.here hx rfl (x := w13) (rest := []) (hb hby at_13) (by subst hw13; rfl) (l' := #[.val (.long x0), .second, .val (.ref b1), .val (.long w13), .second, .unset, .unset, .unset, .unset, .unset, .unset, .unset, .unset, .unset, .unset, .unset, .unset]) rfl ?_
      show Steps p.tables e below (T10.setTop (mkF m 14 #[.val (.long x0), .second, .val (.ref b1), .val (.long w13), .second, .unset, .unset, .unset, .unset, .unset, .unset, .unset, .unset, .unset, .unset, .unset, .unset] [])) _
      refine XS.aloadN X10.here hx rfl (hb hby at_14) rfl rfl ?_
      exact k)
  obtain ⟨cq15, kq15, q15a, q15b, q15c⟩ := isOf hZ rfl f12
  obtain ⟨_, _, ⟨T15, L15, k15, n15⟩, -, X15, ⟨Lc15, hQ15, l15, y15, z15⟩, st15⟩ := X10.virtualBack hx (y := (⟨"com/example/backrank/backrank/SplitMix64", "nextLong", "()J"⟩ : MethodName)) (z := (⟨"com/example/backrank/backrank/SplitMix64", "nextLong", "()J"⟩ : MethodName)) hown (mvT hZ (hw _ (List.mem_of_getElem? (i := 11) rfl))) (mvT hZ (hw _ (List.mem_of_getElem? (i := 12) rfl))) (notFace_of_selects (args := #[]) (mvT hZ (hw _ (List.mem_of_getElem? (i := 14) rfl)))) (mvT hZ (hw _ (List.mem_of_getElem? (i := 14) rfl))) (mvT hZ (hw _ (List.mem_of_getElem? (i := 13) rfl))) (by decide) (backOf (W := 0) (rm_nx l Z a0 hw [] b1 (x0 + (-7046029254386353131 : Int64)) T10.heap n0 f11 Fq10 f12 g2) hZ (hw _ (List.mem_of_getElem? (i := 15) rfl)) (hw _ (List.mem_of_getElem? (i := 2) rfl)) (by decide) (by decide)) q15a q15c (g := (mkF m 15 #[.val (.long x0), .second, .val (.ref b1), .val (.long w13), .second, .unset, .unset, .unset, .unset, .unset, .unset, .unset, .unset, .unset, .unset, .unset, .unset] [(.ref b1)])) rfl (by rw [hml]; rfl) (Steps.refl _) (argsL := []) (rest := []) (lenOf pd_1 rfl) rfl (by show 2 * 0 + _ ≤ _; exact Nat.le_of_eq rfl) (hb hby at_15) (fun _ _ => ⟨rfl, rfl, (by decide : 1 + 0 ≤ _), (by decide : 1 + 0 ≤ _)⟩)
  dsimp only [Pt.U, Pt.locs, Pt.cells, Pt.slots] at X15 l15 y15 z15 st15 hQ15
  subst l15 y15 z15
  obtain ⟨rfl, N15q, K15, Fq15⟩ := hQ15
  have f16 : n0 ≤ T15.heap.size := Nat.le_trans f11 K15.1
  have f17 : Exa Z T15.heap b1 "com/example/backrank/backrank/SplitMix64" := f12.keep K15
  have N15 := Fr.app N10 N15q
  have pre15 : Go p.tables e below (s₁.setTop (entryFrame m #[(.long x0)] maxLocals)) T15 (mkF m 18 #[.val (.long x0), .second, .val (.ref b1), .val (.long w13), .second, .unset, .unset, .unset, .unset, .unset, .unset, .unset, .unset, .unset, .unset, .unset, .unset] [(.long (own_mix (x0 + (-7046029254386353131 : Int64))))]) := fun t k => pre14 t (st15.trans k)
  obtain ⟨w18, hw18⟩ : ∃ z : Int64, z = (own_mix (x0 + (-7046029254386353131 : Int64))) := ⟨_, rfl⟩
  have pre19 : Go p.tables e below (s₁.setTop (entryFrame m #[(.long x0)] maxLocals)) T15 (mkF m 21 #[.val (.long x0), .second, .val (.ref b1), .val (.long w13), .second, .val (.long w18), .second, .unset, .unset, .unset, .unset, .unset, .unset, .unset, .unset, .unset, .unset] [(.ref b1)]) := fun t k => pre15 t (by
      refine XS.lstore X15.here hx rfl (x := w18) (rest := []) (hb hby at_18) (by subst hw18; rfl) (l' := #[.val (.long x0), .second, .val (.ref b1), .val (.long w13), .second, .val (.long w18), .second, .unset, .unset, .unset, .unset, .unset, .unset, .unset, .unset, .unset, .unset]) rfl ?_
      show Steps p.tables e below (T15.setTop (mkF m 20 #[.val (.long x0), .second, .val (.ref b1), .val (.long w13), .second, .val (.long w18), .second, .unset, .unset, .unset, .unset, .unset, .unset, .unset, .unset, .unset, .unset] [])) _
      refine XS.aloadN X15.here hx rfl (hb hby at_20) rfl rfl ?_
      exact k)
  obtain ⟨cq20, kq20, q20a, q20b, q20c⟩ := isOf hZ rfl f17
  obtain ⟨_, _, ⟨T20, L20, k20, n20⟩, -, X20, ⟨Lc20, hQ20, l20, y20, z20⟩, st20⟩ := X15.virtualBack hx (y := (⟨"com/example/backrank/backrank/SplitMix64", "nextLong", "()J"⟩ : MethodName)) (z := (⟨"com/example/backrank/backrank/SplitMix64", "nextLong", "()J"⟩ : MethodName)) hown (mvT hZ (hw _ (List.mem_of_getElem? (i := 11) rfl))) (mvT hZ (hw _ (List.mem_of_getElem? (i := 12) rfl))) (notFace_of_selects (args := #[]) (mvT hZ (hw _ (List.mem_of_getElem? (i := 14) rfl)))) (mvT hZ (hw _ (List.mem_of_getElem? (i := 14) rfl))) (mvT hZ (hw _ (List.mem_of_getElem? (i := 13) rfl))) (by decide) (backOf (W := 0) (rm_nx l Z a0 hw [] b1 ((x0 + (-7046029254386353131 : Int64)) + (-7046029254386353131 : Int64)) T15.heap n0 f16 Fq15 f17 g2) hZ (hw _ (List.mem_of_getElem? (i := 15) rfl)) (hw _ (List.mem_of_getElem? (i := 2) rfl)) (by decide) (by decide)) q20a q20c (g := (mkF m 21 #[.val (.long x0), .second, .val (.ref b1), .val (.long w13), .second, .val (.long w18), .second, .unset, .unset, .unset, .unset, .unset, .unset, .unset, .unset, .unset, .unset] [(.ref b1)])) rfl (by rw [hml]; rfl) (Steps.refl _) (argsL := []) (rest := []) (lenOf pd_1 rfl) rfl (by show 2 * 0 + _ ≤ _; exact Nat.le_of_eq rfl) (hb hby at_21) (fun _ _ => ⟨rfl, rfl, (by decide : 1 + 0 ≤ _), (by decide : 1 + 0 ≤ _)⟩)
  dsimp only [Pt.U, Pt.locs, Pt.cells, Pt.slots] at X20 l20 y20 z20 st20 hQ20
  subst l20 y20 z20
  obtain ⟨rfl, N20q, K20, Fq20⟩ := hQ20
  have f21 : n0 ≤ T20.heap.size := Nat.le_trans f16 K20.1
  have f22 : Exa Z T20.heap b1 "com/example/backrank/backrank/SplitMix64" := f17.keep K20
  have N20 := Fr.app N15 N20q
  have pre20 : Go p.tables e below (s₁.setTop (entryFrame m #[(.long x0)] maxLocals)) T20 (mkF m 24 #[.val (.long x0), .second, .val (.ref b1), .val (.long w13), .second, .val (.long w18), .second, .unset, .unset, .unset, .unset, .unset, .unset, .unset, .unset, .unset, .unset] [(.long (own_mix ((x0 + (-7046029254386353131 : Int64)) + (-7046029254386353131 : Int64))))]) := fun t k => pre19 t (st20.trans k)
  obtain ⟨w23, hw23⟩ : ∃ z : Int64, z = (own_mix ((x0 + (-7046029254386353131 : Int64)) + (-7046029254386353131 : Int64))) := ⟨_, rfl⟩
  obtain ⟨w24, hw24⟩ : ∃ z : Int64, z = (x0 + (-7046029254386353131 : Int64)) := ⟨_, rfl⟩
  obtain ⟨w25, hw25⟩ : ∃ z : Int64, z = (w24 + (-7046029254386353131 : Int64)) := ⟨_, rfl⟩
  obtain ⟨w26, hw26⟩ : ∃ z : Int64, z = (w25 + (-7046029254386353131 : Int64)) := ⟨_, rfl⟩
  have pre27 : Go p.tables e below (s₁.setTop (entryFrame m #[(.long x0)] maxLocals)) T20 (mkF m 52 #[.val (.long x0), .second, .val (.ref b1), .val (.long w13), .second, .val (.long w18), .second, .val (.long w23), .second, .val (.long (-7046029254386353131 : Int64)), .second, .val (.long w24), .second, .val (.long w25), .second, .val (.long w26), .second] [(.long w13)]) := fun t k => pre20 t (by
      refine XS.lstore X20.here hx rfl (x := w23) (rest := []) (hb hby at_24) (by subst hw23; rfl) (l' := #[.val (.long x0), .second, .val (.ref b1), .val (.long w13), .second, .val (.long w18), .second, .val (.long w23), .second, .unset, .unset, .unset, .unset, .unset, .unset, .unset, .unset]) rfl ?_
      show Steps p.tables e below (T20.setTop (mkF m 26 #[.val (.long x0), .second, .val (.ref b1), .val (.long w13), .second, .val (.long w18), .second, .val (.long w23), .second, .unset, .unset, .unset, .unset, .unset, .unset, .unset, .unset] [])) _
      refine X20.ldc2Long hx hown (mvT hZ (hw _ (List.mem_of_getElem? (i := 19) rfl))) (g := (mkF m 26 #[.val (.long x0), .second, .val (.ref b1), .val (.long w13), .second, .val (.long w18), .second, .val (.long w23), .second, .unset, .unset, .unset, .unset, .unset, .unset, .unset, .unset] [])) rfl (hb hby at_26) _ ?_
      show Steps p.tables e below (T20.setTop (mkF m 29 #[.val (.long x0), .second, .val (.ref b1), .val (.long w13), .second, .val (.long w18), .second, .val (.long w23), .second, .unset, .unset, .unset, .unset, .unset, .unset, .unset, .unset] [(.long (-7046029254386353131 : Int64))])) _
      refine XS.lstore X20.here hx rfl (hb hby at_29) rfl (l' := #[.val (.long x0), .second, .val (.ref b1), .val (.long w13), .second, .val (.long w18), .second, .val (.long w23), .second, .val (.long (-7046029254386353131 : Int64)), .second, .unset, .unset, .unset, .unset, .unset, .unset]) rfl ?_
      show Steps p.tables e below (T20.setTop (mkF m 31 #[.val (.long x0), .second, .val (.ref b1), .val (.long w13), .second, .val (.long w18), .second, .val (.long w23), .second, .val (.long (-7046029254386353131 : Int64)), .second, .unset, .unset, .unset, .unset, .unset, .unset] [])) _
      refine XS.lloadN X20.here hx rfl (hb hby at_31) rfl ?_
      show Steps p.tables e below (T20.setTop (mkF m 32 #[.val (.long x0), .second, .val (.ref b1), .val (.long w13), .second, .val (.long w18), .second, .val (.long w23), .second, .val (.long (-7046029254386353131 : Int64)), .second, .unset, .unset, .unset, .unset, .unset, .unset] [(.long x0)])) _
      refine XS.lload X20.here hx rfl (hb hby at_32) rfl ?_
      show Steps p.tables e below (T20.setTop (mkF m 34 #[.val (.long x0), .second, .val (.ref b1), .val (.long w13), .second, .val (.long w18), .second, .val (.long w23), .second, .val (.long (-7046029254386353131 : Int64)), .second, .unset, .unset, .unset, .unset, .unset, .unset] [(.long (-7046029254386353131 : Int64)), (.long x0)])) _
      refine XS.ladd X20.here hx rfl (hb hby at_34) rfl ?_
      show Steps p.tables e below (T20.setTop (mkF m 35 #[.val (.long x0), .second, .val (.ref b1), .val (.long w13), .second, .val (.long w18), .second, .val (.long w23), .second, .val (.long (-7046029254386353131 : Int64)), .second, .unset, .unset, .unset, .unset, .unset, .unset] [(.long (x0 + (-7046029254386353131 : Int64)))])) _
      refine XS.lstore X20.here hx rfl (x := w24) (rest := []) (hb hby at_35) (by subst hw24; rfl) (l' := #[.val (.long x0), .second, .val (.ref b1), .val (.long w13), .second, .val (.long w18), .second, .val (.long w23), .second, .val (.long (-7046029254386353131 : Int64)), .second, .val (.long w24), .second, .unset, .unset, .unset, .unset]) rfl ?_
      show Steps p.tables e below (T20.setTop (mkF m 37 #[.val (.long x0), .second, .val (.ref b1), .val (.long w13), .second, .val (.long w18), .second, .val (.long w23), .second, .val (.long (-7046029254386353131 : Int64)), .second, .val (.long w24), .second, .unset, .unset, .unset, .unset] [])) _
      refine XS.lload X20.here hx rfl (hb hby at_37) rfl ?_
      show Steps p.tables e below (T20.setTop (mkF m 39 #[.val (.long x0), .second, .val (.ref b1), .val (.long w13), .second, .val (.long w18), .second, .val (.long w23), .second, .val (.long (-7046029254386353131 : Int64)), .second, .val (.long w24), .second, .unset, .unset, .unset, .unset] [(.long w24)])) _
      refine XS.lload X20.here hx rfl (hb hby at_39) rfl ?_
      show Steps p.tables e below (T20.setTop (mkF m 41 #[.val (.long x0), .second, .val (.ref b1), .val (.long w13), .second, .val (.long w18), .second, .val (.long w23), .second, .val (.long (-7046029254386353131 : Int64)), .second, .val (.long w24), .second, .unset, .unset, .unset, .unset] [(.long (-7046029254386353131 : Int64)), (.long w24)])) _
      refine XS.ladd X20.here hx rfl (hb hby at_41) rfl ?_
      show Steps p.tables e below (T20.setTop (mkF m 42 #[.val (.long x0), .second, .val (.ref b1), .val (.long w13), .second, .val (.long w18), .second, .val (.long w23), .second, .val (.long (-7046029254386353131 : Int64)), .second, .val (.long w24), .second, .unset, .unset, .unset, .unset] [(.long (w24 + (-7046029254386353131 : Int64)))])) _
      refine XS.lstore X20.here hx rfl (x := w25) (rest := []) (hb hby at_42) (by subst hw25; rfl) (l' := #[.val (.long x0), .second, .val (.ref b1), .val (.long w13), .second, .val (.long w18), .second, .val (.long w23), .second, .val (.long (-7046029254386353131 : Int64)), .second, .val (.long w24), .second, .val (.long w25), .second, .unset, .unset]) rfl ?_
      show Steps p.tables e below (T20.setTop (mkF m 44 #[.val (.long x0), .second, .val (.ref b1), .val (.long w13), .second, .val (.long w18), .second, .val (.long w23), .second, .val (.long (-7046029254386353131 : Int64)), .second, .val (.long w24), .second, .val (.long w25), .second, .unset, .unset] [])) _
      refine XS.lload X20.here hx rfl (hb hby at_44) rfl ?_
      show Steps p.tables e below (T20.setTop (mkF m 46 #[.val (.long x0), .second, .val (.ref b1), .val (.long w13), .second, .val (.long w18), .second, .val (.long w23), .second, .val (.long (-7046029254386353131 : Int64)), .second, .val (.long w24), .second, .val (.long w25), .second, .unset, .unset] [(.long w25)])) _
      refine XS.lload X20.here hx rfl (hb hby at_46) rfl ?_
      show Steps p.tables e below (T20.setTop (mkF m 48 #[.val (.long x0), .second, .val (.ref b1), .val (.long w13), .second, .val (.long w18), .second, .val (.long w23), .second, .val (.long (-7046029254386353131 : Int64)), .second, .val (.long w24), .second, .val (.long w25), .second, .unset, .unset] [(.long (-7046029254386353131 : Int64)), (.long w25)])) _
      refine XS.ladd X20.here hx rfl (hb hby at_48) rfl ?_
      show Steps p.tables e below (T20.setTop (mkF m 49 #[.val (.long x0), .second, .val (.ref b1), .val (.long w13), .second, .val (.long w18), .second, .val (.long w23), .second, .val (.long (-7046029254386353131 : Int64)), .second, .val (.long w24), .second, .val (.long w25), .second, .unset, .unset] [(.long (w25 + (-7046029254386353131 : Int64)))])) _
      refine XS.lstore X20.here hx rfl (x := w26) (rest := []) (hb hby at_49) (by subst hw26; rfl) (l' := #[.val (.long x0), .second, .val (.ref b1), .val (.long w13), .second, .val (.long w18), .second, .val (.long w23), .second, .val (.long (-7046029254386353131 : Int64)), .second, .val (.long w24), .second, .val (.long w25), .second, .val (.long w26), .second]) rfl ?_
      show Steps p.tables e below (T20.setTop (mkF m 51 #[.val (.long x0), .second, .val (.ref b1), .val (.long w13), .second, .val (.long w18), .second, .val (.long w23), .second, .val (.long (-7046029254386353131 : Int64)), .second, .val (.long w24), .second, .val (.long w25), .second, .val (.long w26), .second] [])) _
      refine XS.lloadN X20.here hx rfl (hb hby at_51) rfl ?_
      exact k)
  obtain ⟨_, _, ⟨T28, L28, k28, n28⟩, -, X28, ⟨Lc28, hQ28, l28, y28, z28⟩, st28⟩ := Jvm.LawKit.callS X20 hx (y := (⟨"com/example/backrank/backrank/SplitMix64NextLongPinLaw", "unmix", "(J)J"⟩ : MethodName)) hown (mvT hZ (hw _ (List.mem_of_getElem? (i := 20) rfl))) (mvT hZ (hw _ (List.mem_of_getElem? (i := 21) rfl))) (mvT hZ (hw _ (List.mem_of_getElem? (i := 22) rfl))) (mvT hZ (hw _ (List.mem_of_getElem? (i := 23) rfl))) (by decide) (backOf (W := 0) (rm_un l Z a0 hw [] w13 T20.heap n0) hZ (hw _ (List.mem_of_getElem? (i := 23) rfl)) (hw _ (List.mem_of_getElem? (i := 22) rfl)) (by decide) (by decide)) (g := (mkF m 52 #[.val (.long x0), .second, .val (.ref b1), .val (.long w13), .second, .val (.long w18), .second, .val (.long w23), .second, .val (.long (-7046029254386353131 : Int64)), .second, .val (.long w24), .second, .val (.long w25), .second, .val (.long w26), .second] [(.long w13)])) rfl (by rw [hml]; rfl) (argsL := [(.long w13)]) (rest := []) (lenOf pd_2 rfl) rfl (by show 2 * 0 + _ ≤ _; exact Nat.le_of_eq rfl) (hb hby at_52) (fun _ _ => ⟨rfl, rfl, (by decide : 1 + 0 ≤ _), (by decide : 1 + 0 ≤ _)⟩)
  dsimp only [Pt.U, Pt.locs, Pt.cells, Pt.slots] at X28 l28 y28 z28 st28 hQ28
  subst l28 y28 z28
  obtain ⟨rfl, N28q, e28⟩ := hQ28
  have N28 := Fr.app N20 N28q
  have pre28 : Go p.tables e below (s₁.setTop (entryFrame m #[(.long x0)] maxLocals)) T28 (mkF m 55 #[.val (.long x0), .second, .val (.ref b1), .val (.long w13), .second, .val (.long w18), .second, .val (.long w23), .second, .val (.long (-7046029254386353131 : Int64)), .second, .val (.long w24), .second, .val (.long w25), .second, .val (.long w26), .second] [(.long (own_unmix w13))]) := fun t k => pre27 t (st28 _ k)
  have pre29 : Go p.tables e below (s₁.setTop (entryFrame m #[(.long x0)] maxLocals)) T28 (mkF m 58 #[.val (.long x0), .second, .val (.ref b1), .val (.long w13), .second, .val (.long w18), .second, .val (.long w23), .second, .val (.long (-7046029254386353131 : Int64)), .second, .val (.long w24), .second, .val (.long w25), .second, .val (.long w26), .second] [(.int (lcmpW (own_unmix w13) w24))]) := fun t k => pre28 t (by
      refine XS.lload X28.here hx rfl (hb hby at_55) rfl ?_
      show Steps p.tables e below (T28.setTop (mkF m 57 #[.val (.long x0), .second, .val (.ref b1), .val (.long w13), .second, .val (.long w18), .second, .val (.long w23), .second, .val (.long (-7046029254386353131 : Int64)), .second, .val (.long w24), .second, .val (.long w25), .second, .val (.long w26), .second] [(.long w24), (.long (own_unmix w13))])) _
      refine XS.lcmp X28.here hx rfl (hb hby at_57) rfl ?_
      exact k)
  by_cases hc30 : (own_unmix w13) = w24
  · -- hc30: True
    have pre31 : Go p.tables e below (s₁.setTop (entryFrame m #[(.long x0)] maxLocals)) T28 (mkF m 63 #[.val (.long x0), .second, .val (.ref b1), .val (.long w13), .second, .val (.long w18), .second, .val (.long w23), .second, .val (.long (-7046029254386353131 : Int64)), .second, .val (.long w24), .second, .val (.long w25), .second, .val (.long w26), .second] [(.long w18)]) := fun t k => pre29 t (by
        refine XS.ifNo X28.here hx rfl (hb hby at_58) rfl ((if0 _ _).trans (teq ((lw_eq _ _).mpr hc30)).2) ?_
        show Steps p.tables e below (T28.setTop (mkF m 61 #[.val (.long x0), .second, .val (.ref b1), .val (.long w13), .second, .val (.long w18), .second, .val (.long w23), .second, .val (.long (-7046029254386353131 : Int64)), .second, .val (.long w24), .second, .val (.long w25), .second, .val (.long w26), .second] [])) _
        refine XS.lload X28.here hx rfl (hb hby at_61) rfl ?_
        exact k)
    obtain ⟨_, _, ⟨T32, L32, k32, n32⟩, -, X32, ⟨Lc32, hQ32, l32, y32, z32⟩, st32⟩ := Jvm.LawKit.callS X28 hx (y := (⟨"com/example/backrank/backrank/SplitMix64NextLongPinLaw", "unmix", "(J)J"⟩ : MethodName)) hown (mvT hZ (hw _ (List.mem_of_getElem? (i := 20) rfl))) (mvT hZ (hw _ (List.mem_of_getElem? (i := 21) rfl))) (mvT hZ (hw _ (List.mem_of_getElem? (i := 22) rfl))) (mvT hZ (hw _ (List.mem_of_getElem? (i := 23) rfl))) (by decide) (backOf (W := 0) (rm_un l Z a0 hw [] w18 T20.heap n0) hZ (hw _ (List.mem_of_getElem? (i := 23) rfl)) (hw _ (List.mem_of_getElem? (i := 22) rfl)) (by decide) (by decide)) (g := (mkF m 63 #[.val (.long x0), .second, .val (.ref b1), .val (.long w13), .second, .val (.long w18), .second, .val (.long w23), .second, .val (.long (-7046029254386353131 : Int64)), .second, .val (.long w24), .second, .val (.long w25), .second, .val (.long w26), .second] [(.long w18)])) rfl (by rw [hml]; rfl) (argsL := [(.long w18)]) (rest := []) (lenOf pd_2 rfl) rfl (by show 2 * 0 + _ ≤ _; exact Nat.le_of_eq rfl) (hb hby at_63) (fun _ _ => ⟨rfl, e28, (by decide : 1 + 0 ≤ _), (by decide : 1 + 0 ≤ _)⟩)
    dsimp only [Pt.U, Pt.locs, Pt.cells, Pt.slots] at X32 l32 y32 z32 st32 hQ32
    subst l32 y32 z32
    obtain ⟨rfl, N32q, e32⟩ := hQ32
    have N32 := Fr.app N28 N32q
    have pre32 : Go p.tables e below (s₁.setTop (entryFrame m #[(.long x0)] maxLocals)) T32 (mkF m 66 #[.val (.long x0), .second, .val (.ref b1), .val (.long w13), .second, .val (.long w18), .second, .val (.long w23), .second, .val (.long (-7046029254386353131 : Int64)), .second, .val (.long w24), .second, .val (.long w25), .second, .val (.long w26), .second] [(.long (own_unmix w18))]) := fun t k => pre31 t (st32 _ k)
    have pre33 : Go p.tables e below (s₁.setTop (entryFrame m #[(.long x0)] maxLocals)) T32 (mkF m 69 #[.val (.long x0), .second, .val (.ref b1), .val (.long w13), .second, .val (.long w18), .second, .val (.long w23), .second, .val (.long (-7046029254386353131 : Int64)), .second, .val (.long w24), .second, .val (.long w25), .second, .val (.long w26), .second] [(.int (lcmpW (own_unmix w18) w25))]) := fun t k => pre32 t (by
        refine XS.lload X32.here hx rfl (hb hby at_66) rfl ?_
        show Steps p.tables e below (T32.setTop (mkF m 68 #[.val (.long x0), .second, .val (.ref b1), .val (.long w13), .second, .val (.long w18), .second, .val (.long w23), .second, .val (.long (-7046029254386353131 : Int64)), .second, .val (.long w24), .second, .val (.long w25), .second, .val (.long w26), .second] [(.long w25), (.long (own_unmix w18))])) _
        refine XS.lcmp X32.here hx rfl (hb hby at_68) rfl ?_
        exact k)
    by_cases hc34 : (own_unmix w18) = w25
    · -- hc34: True
      have pre35 : Go p.tables e below (s₁.setTop (entryFrame m #[(.long x0)] maxLocals)) T32 (mkF m 74 #[.val (.long x0), .second, .val (.ref b1), .val (.long w13), .second, .val (.long w18), .second, .val (.long w23), .second, .val (.long (-7046029254386353131 : Int64)), .second, .val (.long w24), .second, .val (.long w25), .second, .val (.long w26), .second] [(.long w23)]) := fun t k => pre33 t (by
          refine XS.ifNo X32.here hx rfl (hb hby at_69) rfl ((if0 _ _).trans (teq ((lw_eq _ _).mpr hc34)).2) ?_
          show Steps p.tables e below (T32.setTop (mkF m 72 #[.val (.long x0), .second, .val (.ref b1), .val (.long w13), .second, .val (.long w18), .second, .val (.long w23), .second, .val (.long (-7046029254386353131 : Int64)), .second, .val (.long w24), .second, .val (.long w25), .second, .val (.long w26), .second] [])) _
          refine XS.lload X32.here hx rfl (hb hby at_72) rfl ?_
          exact k)
      obtain ⟨_, _, ⟨T36, L36, k36, n36⟩, -, X36, ⟨Lc36, hQ36, l36, y36, z36⟩, st36⟩ := Jvm.LawKit.callS X32 hx (y := (⟨"com/example/backrank/backrank/SplitMix64NextLongPinLaw", "unmix", "(J)J"⟩ : MethodName)) hown (mvT hZ (hw _ (List.mem_of_getElem? (i := 20) rfl))) (mvT hZ (hw _ (List.mem_of_getElem? (i := 21) rfl))) (mvT hZ (hw _ (List.mem_of_getElem? (i := 22) rfl))) (mvT hZ (hw _ (List.mem_of_getElem? (i := 23) rfl))) (by decide) (backOf (W := 0) (rm_un l Z a0 hw [] w23 T20.heap n0) hZ (hw _ (List.mem_of_getElem? (i := 23) rfl)) (hw _ (List.mem_of_getElem? (i := 22) rfl)) (by decide) (by decide)) (g := (mkF m 74 #[.val (.long x0), .second, .val (.ref b1), .val (.long w13), .second, .val (.long w18), .second, .val (.long w23), .second, .val (.long (-7046029254386353131 : Int64)), .second, .val (.long w24), .second, .val (.long w25), .second, .val (.long w26), .second] [(.long w23)])) rfl (by rw [hml]; rfl) (argsL := [(.long w23)]) (rest := []) (lenOf pd_2 rfl) rfl (by show 2 * 0 + _ ≤ _; exact Nat.le_of_eq rfl) (hb hby at_74) (fun _ _ => ⟨rfl, e32, (by decide : 1 + 0 ≤ _), (by decide : 1 + 0 ≤ _)⟩)
      dsimp only [Pt.U, Pt.locs, Pt.cells, Pt.slots] at X36 l36 y36 z36 st36 hQ36
      subst l36 y36 z36
      obtain ⟨rfl, N36q, e36⟩ := hQ36
      have N36 := Fr.app N32 N36q
      have pre36 : Go p.tables e below (s₁.setTop (entryFrame m #[(.long x0)] maxLocals)) T36 (mkF m 77 #[.val (.long x0), .second, .val (.ref b1), .val (.long w13), .second, .val (.long w18), .second, .val (.long w23), .second, .val (.long (-7046029254386353131 : Int64)), .second, .val (.long w24), .second, .val (.long w25), .second, .val (.long w26), .second] [(.long (own_unmix w23))]) := fun t k => pre35 t (st36 _ k)
      have pre37 : Go p.tables e below (s₁.setTop (entryFrame m #[(.long x0)] maxLocals)) T36 (mkF m 80 #[.val (.long x0), .second, .val (.ref b1), .val (.long w13), .second, .val (.long w18), .second, .val (.long w23), .second, .val (.long (-7046029254386353131 : Int64)), .second, .val (.long w24), .second, .val (.long w25), .second, .val (.long w26), .second] [(.int (lcmpW (own_unmix w23) w26))]) := fun t k => pre36 t (by
          refine XS.lload X36.here hx rfl (hb hby at_77) rfl ?_
          show Steps p.tables e below (T36.setTop (mkF m 79 #[.val (.long x0), .second, .val (.ref b1), .val (.long w13), .second, .val (.long w18), .second, .val (.long w23), .second, .val (.long (-7046029254386353131 : Int64)), .second, .val (.long w24), .second, .val (.long w25), .second, .val (.long w26), .second] [(.long w26), (.long (own_unmix w23))])) _
          refine XS.lcmp X36.here hx rfl (hb hby at_79) rfl ?_
          exact k)
      by_cases hc38 : (own_unmix w23) = w26
      · -- hc38: True
        have pre39 : Go p.tables e below (s₁.setTop (entryFrame m #[(.long x0)] maxLocals)) T36 (mkF m 88 #[.val (.long x0), .second, .val (.ref b1), .val (.long w13), .second, .val (.long w18), .second, .val (.long w23), .second, .val (.long (-7046029254386353131 : Int64)), .second, .val (.long w24), .second, .val (.long w25), .second, .val (.long w26), .second] [(.int (1 : Int32))]) := fun t k => pre37 t (by
            refine XS.ifNo X36.here hx rfl (hb hby at_80) rfl ((if0 _ _).trans (teq ((lw_eq _ _).mpr hc38)).2) ?_
            show Steps p.tables e below (T36.setTop (mkF m 83 #[.val (.long x0), .second, .val (.ref b1), .val (.long w13), .second, .val (.long w18), .second, .val (.long w23), .second, .val (.long (-7046029254386353131 : Int64)), .second, .val (.long w24), .second, .val (.long w25), .second, .val (.long w26), .second] [])) _
            refine XS.iconst X36.here hx rfl (hb hby at_83) ?_
            show Steps p.tables e below (T36.setTop (mkF m 84 #[.val (.long x0), .second, .val (.ref b1), .val (.long w13), .second, .val (.long w18), .second, .val (.long w23), .second, .val (.long (-7046029254386353131 : Int64)), .second, .val (.long w24), .second, .val (.long w25), .second, .val (.long w26), .second] [(.int (1 : Int32))])) _
            refine XS.goto X36.here hx rfl (pc0 := 84) (pc' := 88) rfl (hb hby at_84) (by decide) (by decide) ?_
            exact k)
        obtain ⟨fs, hr, hrun, hended, hW, hsame⟩ := X36.leave (v := some (.int (1 : Int32))) (fun h => by rw [Bd.returns] at h; cases h) (BodyLoose.notSynchronized Bd)
        refine ⟨_, _, pre39 _ ?_, hrun, hended, _, _, rfl, ?_, ⟨_, rfl⟩, hW, hsame.mono (Nat.le_of_ble_eq_true rfl) (Nat.le_of_ble_eq_true rfl)⟩
        · exact retN X36 hx (t := .boolean) Bd.returns (by simp) (hb hby at_88) hr
        · show Q_law Z x0 h0 n0 _ T36.heap _
          rw [e36]
          exact ⟨rfl, N36⟩
      · -- hc38: False
        have pre40 : Go p.tables e below (s₁.setTop (entryFrame m #[(.long x0)] maxLocals)) T36 (mkF m 88 #[.val (.long x0), .second, .val (.ref b1), .val (.long w13), .second, .val (.long w18), .second, .val (.long w23), .second, .val (.long (-7046029254386353131 : Int64)), .second, .val (.long w24), .second, .val (.long w25), .second, .val (.long w26), .second] [(.int (0 : Int32))]) := fun t k => pre37 t (by
            refine XS.ifYes X36.here hx rfl (pc0 := 80) (pc' := 87) rfl (hb hby at_80) rfl ((if0 _ _).trans (feq (mt (lw_eq _ _).mp hc38)).2) (by decide) (by decide) ?_
            show Steps p.tables e below (T36.setTop (mkF m 87 #[.val (.long x0), .second, .val (.ref b1), .val (.long w13), .second, .val (.long w18), .second, .val (.long w23), .second, .val (.long (-7046029254386353131 : Int64)), .second, .val (.long w24), .second, .val (.long w25), .second, .val (.long w26), .second] [])) _
            refine XS.iconst X36.here hx rfl (hb hby at_87) ?_
            exact k)
        obtain ⟨fs, hr, hrun, hended, hW, hsame⟩ := X36.leave (v := some (.int (0 : Int32))) (fun h => by rw [Bd.returns] at h; cases h) (BodyLoose.notSynchronized Bd)
        refine ⟨_, _, pre40 _ ?_, hrun, hended, _, _, rfl, ?_, ⟨_, rfl⟩, hW, hsame.mono (Nat.le_of_ble_eq_true rfl) (Nat.le_of_ble_eq_true rfl)⟩
        · exact retN X36 hx (t := .boolean) Bd.returns (by simp) (hb hby at_88) hr
        · show Q_law Z x0 h0 n0 _ T36.heap _
          rw [e36]
          subst hw26 hw25 hw24 hw23 hw18 hw13
          exact absurd (own_inv _) hc38
    · -- hc34: False
      have pre41 : Go p.tables e below (s₁.setTop (entryFrame m #[(.long x0)] maxLocals)) T32 (mkF m 88 #[.val (.long x0), .second, .val (.ref b1), .val (.long w13), .second, .val (.long w18), .second, .val (.long w23), .second, .val (.long (-7046029254386353131 : Int64)), .second, .val (.long w24), .second, .val (.long w25), .second, .val (.long w26), .second] [(.int (0 : Int32))]) := fun t k => pre33 t (by
          refine XS.ifYes X32.here hx rfl (pc0 := 69) (pc' := 87) rfl (hb hby at_69) rfl ((if0 _ _).trans (feq (mt (lw_eq _ _).mp hc34)).2) (by decide) (by decide) ?_
          show Steps p.tables e below (T32.setTop (mkF m 87 #[.val (.long x0), .second, .val (.ref b1), .val (.long w13), .second, .val (.long w18), .second, .val (.long w23), .second, .val (.long (-7046029254386353131 : Int64)), .second, .val (.long w24), .second, .val (.long w25), .second, .val (.long w26), .second] [])) _
          refine XS.iconst X32.here hx rfl (hb hby at_87) ?_
          exact k)
      obtain ⟨fs, hr, hrun, hended, hW, hsame⟩ := X32.leave (v := some (.int (0 : Int32))) (fun h => by rw [Bd.returns] at h; cases h) (BodyLoose.notSynchronized Bd)
      refine ⟨_, _, pre41 _ ?_, hrun, hended, _, _, rfl, ?_, ⟨_, rfl⟩, hW, hsame.mono (Nat.le_of_ble_eq_true rfl) (Nat.le_of_ble_eq_true rfl)⟩
      · exact retN X32 hx (t := .boolean) Bd.returns (by simp) (hb hby at_88) hr
      · show Q_law Z x0 h0 n0 _ T32.heap _
        rw [e32]
        subst hw26 hw25 hw24 hw23 hw18 hw13
        exact absurd (own_inv _) hc34
  · -- hc30: False
    have pre42 : Go p.tables e below (s₁.setTop (entryFrame m #[(.long x0)] maxLocals)) T28 (mkF m 88 #[.val (.long x0), .second, .val (.ref b1), .val (.long w13), .second, .val (.long w18), .second, .val (.long w23), .second, .val (.long (-7046029254386353131 : Int64)), .second, .val (.long w24), .second, .val (.long w25), .second, .val (.long w26), .second] [(.int (0 : Int32))]) := fun t k => pre29 t (by
        refine XS.ifYes X28.here hx rfl (pc0 := 58) (pc' := 87) rfl (hb hby at_58) rfl ((if0 _ _).trans (feq (mt (lw_eq _ _).mp hc30)).2) (by decide) (by decide) ?_
        show Steps p.tables e below (T28.setTop (mkF m 87 #[.val (.long x0), .second, .val (.ref b1), .val (.long w13), .second, .val (.long w18), .second, .val (.long w23), .second, .val (.long (-7046029254386353131 : Int64)), .second, .val (.long w24), .second, .val (.long w25), .second, .val (.long w26), .second] [])) _
        refine XS.iconst X28.here hx rfl (hb hby at_87) ?_
        exact k)
    obtain ⟨fs, hr, hrun, hended, hW, hsame⟩ := X28.leave (v := some (.int (0 : Int32))) (fun h => by rw [Bd.returns] at h; cases h) (BodyLoose.notSynchronized Bd)
    refine ⟨_, _, pre42 _ ?_, hrun, hended, _, _, rfl, ?_, ⟨_, rfl⟩, hW, hsame.mono (Nat.le_of_ble_eq_true rfl) (Nat.le_of_ble_eq_true rfl)⟩
    · exact retN X28 hx (t := .boolean) Bd.returns (by simp) (hb hby at_88) hr
    · show Q_law Z x0 h0 n0 _ T28.heap _
      rw [e28]
      subst hw26 hw25 hw24 hw23 hw18 hw13
      exact absurd (own_inv _) hc30
set_option maxRecDepth 65536 in
set_option maxHeartbeats 40000000 in
theorem comes_1 {Post : Tables → Env → Array Value → State → Outcome → State → Prop} (hpost : ∀ tb e args s v u, (limb_1_1.after args s (.returned v) u = true ∧ limb_1_2.after args s (.returned v) u = true ∧ True) → FrameEnd s (.returned v) u (Jvm.fieldLocs frame_1_writes args s ++ Jvm.arrayLocs frame_1_arrays args s ++ Jvm.staticLocs frame_1_statics s) 16 128 → Post tb e args s (.returned v) u) :
    ArmFor flags0 classFile x code maxLocals ret World_1 tables_1 room_1 Calls_1 rest_1 Pre_1 Post := by
  intro l hfl _ _ p e ha hc hk s m args below hf hA hF happ hP
  obtain ⟨hcalls, hrest, hpre⟩ := hP
  obtain ⟨-, -, -, hnamed, -, -, -, hat⟩ := (Spec.applies_iff hf).mp happ
  obtain ⟨hg, hn⟩ := and_e (Cond.before_iff.mp (show (Jvm.Cond.and given_1 narrow_1).before args s = true from hpre))
  obtain ⟨gc, gt0⟩ := and_e hg
  obtain ⟨w0, rfl⟩ : ∃ w0 : Value, args = #[w0] := by
    have hs : args.size = 1 := by simpa [Cond.value, given_1] using gc
    obtain ⟨L⟩ := args
    match L, hs with
    | [w0], _ => exact ⟨w0, rfl⟩
  have hw := fun d (hd : d ∈ tables_1) => atoms_spec (ws := Jvm.Cond.code x code maxLocals ret :: tables_1) hat d (List.mem_cons_of_mem _ hd)
  have hfit : Fit s := fun {y c} hc i hi => by
    obtain ⟨ha, rfl⟩ := Array.getElem?_eq_some_iff.mp hc
    have q := List.all_eq_true.mp ((Array.all_eq_true_iff_forall_mem.mp hF) _ (Array.getElem_mem ha)) i (List.mem_range.mpr hi)
    simpa [Array.getElem?_eq_getElem hi] using q
  obtain ⟨i0, ei0⟩ := isL_v gt0
  obtain rfl : w0 = (.long i0) := Option.some.inj ei0
  obtain ⟨n, o, h1, h2, h3, _, L, rfl, ⟨rfl, N⟩, hq⟩ := rm_law l s _ hw tables_1 i0  s.heap s.heap.size (Nat.le_refl _)  p e ha hc hk s m _ below hf ((Spec.applies_iff_loose hf).mp happ).1 ⟨rfl, State.Warmed39.refl s, rfl⟩ trivial
  refine ⟨n, _, h1, h2, h3, hpost _ _ _ _ _ _ ⟨Cond.after_iff.mpr rfl, Cond.after_iff.mpr (eq_i res_at (Term.int_eval (1)) rfl), trivial⟩ ⟨hq.1, hq.2.1, (hq.2.2.sift fun y hy => Or.inr (N y hy)).mono (by decide) (by decide)⟩⟩
theorem main_1_1 : Claimed_1_1 := comes_1 fun _ _ _ _ _ _ h hF => ⟨h.1, hF⟩
theorem main_1_2 : Claimed_1_2 := comes_1 fun _ _ _ _ _ _ h hF => ⟨h.2.1, hF⟩
end Jvm.Pilot.@@N@@
namespace Jvm.Pilot.@@N@@
open Jvm Jvm.ClassFile Sem Op Lib Jvm.Free Jvm.Stand Jvm.Pilot.@@N@@.Jvm.D
/-! MADE BY PROGRAM (witnessworld.py) out of the Statement's table words and the real class files: 9 classes; the members and pool entries that the words name. The judged class is class 1, her method 2. -/
namespace start1
open Jvm.ClassFile
def u (s : String) : CpInfo := .utf8 (stringToUtf16 s)
/-- a pool by its gaps: so many unusable entries, then the entry; so many at the end -/
def gap : Nat → List CpInfo → List CpInfo
  | 0, r => r
  | n + 1, r => .unusable :: gap n r
def poolList (es : List (Nat × CpInfo)) (last : Nat) : List CpInfo := es.foldr (fun e r => gap e.1 (e.2 :: r)) (gap last [])
def pool (es : List (Nat × CpInfo)) (last : Nat) : Array CpInfo := ⟨poolList es last⟩
def fileOf (pool : Array CpInfo) (this : Nat) (attrs : Array Attribute := #[]) (ms : Array MethodInfo := #[]) (fl : Nat := 33) (sup : Nat := 0) (ifs : Array Nat := #[]) (fds : Array FieldInfo := #[]) : ClassFile where
  minorVersion := 0
  majorVersion := 65
  constantPool := pool
  accessFlags := fl
  thisClass := this
  superClass := sup
  interfaces := ifs
  fields := fds
  methods := ms
  attributes := attrs
def plain (name : String) (sup : Option ClassId) : Class where
  name := name
  kind := .ordinary
  loader := none
  accessFlags := 33
  super := sup
  interfaces := #[]
  cf := none
  fields := #[]
  methods := #[]
  instanceTypes := #[]
  staticTypes := #[]
  resolved := #[]
  callSites := []
  init := .initialized
  statics := none
  mirror := none

def pool0 : Array CpInfo := pool [(5, u "<init>"), (0, u "()V"), (1, .class_ 10), (1, u "java/lang/Object")] 113

def k0c0 : Code := { maxStack := 0, maxLocals := 1, code := object_method_1_code, exceptionTable := #[], attributes := #[] }
def k0m0 : Method := { name := "<init>", desc := "()V", sig := { parameters := [], returnType := none }, accessFlags := 1, code := some k0c0 }
/-- java/lang/Object -/
def k0 : Class := { plain "java/lang/Object" none with
  accessFlags := 33
  interfaces := #[]
  cf := some (fileOf pool0 8 #[] #[{ accessFlags := 1, nameIndex := 5, descriptorIndex := 6, attributes := #[] }] 33 0 #[] #[])
  fields := #[]
  methods := #[k0m0]
  instanceTypes := #[]
  staticTypes := #[]
  resolved := Array.replicate 124 none
  statics := none }

def pool1 : Array CpInfo := pool [(2, .class_ 4), (1, u "java/lang/Object"), (0, u "<init>"), (0, u "()V"), (0, .long 3573116690164977347), (1, .long 10871156337175269513), (1, .class_ 12), (0, u "com/example/backrank/backrank/SplitMix64"), (0, .methodref 11 14), (0, .nameAndType 5 15), (0, u "(J)V"), (0, .methodref 11 17), (0, .nameAndType 18 19), (0, u "nextLong"), (0, u "()J"), (0, .long 11400714819323198485), (1, .methodref 23 24), (0, .class_ 25), (0, .nameAndType 26 27), (0, u "com/example/backrank/backrank/SplitMix64NextLongPinLaw"), (0, u "unmix"), (0, u "(J)J"), (2, u "law"), (0, u "(J)Z")] 3

def k1m0 : Method := { name := "<init>", desc := "()V", sig := { parameters := [], returnType := none }, accessFlags := 2, code := none }
def k1c1 : Code := { maxStack := 5, maxLocals := 2, code := method_2_code, exceptionTable := #[], attributes := #[] }
def k1m1 : Method := { name := "unmix", desc := "(J)J", sig := { parameters := [.long], returnType := some .long }, accessFlags := 10, code := some k1c1 }
def k1c2 : Code := { maxStack := 4, maxLocals := 17, code := code, exceptionTable := #[], attributes := #[] }
def k1m2 : Method := { name := "law", desc := "(J)Z", sig := { parameters := [.long], returnType := some .boolean }, accessFlags := 9, code := some k1c2 }
/-- com/example/backrank/backrank/SplitMix64NextLongPinLaw -/
def k1 : Class := { plain "com/example/backrank/backrank/SplitMix64NextLongPinLaw" (some 0) with
  accessFlags := 49
  interfaces := #[]
  cf := some (fileOf pool1 23 #[] #[{ accessFlags := 2, nameIndex := 5, descriptorIndex := 6, attributes := #[] }, { accessFlags := 10, nameIndex := 26, descriptorIndex := 27, attributes := #[] }, { accessFlags := 9, nameIndex := 30, descriptorIndex := 31, attributes := #[] }] 49 2 #[] #[])
  fields := #[]
  methods := #[k1m0, k1m1, k1m2]
  instanceTypes := #[]
  staticTypes := #[]
  resolved := Array.replicate 35 none
  statics := none }

def pool2 : Array CpInfo := pool [(1, .methodref 2 3), (0, .class_ 4), (0, .nameAndType 5 6), (0, u "java/lang/Object"), (0, u "<init>"), (0, u "()V"), (0, .fieldref 8 9), (0, .class_ 10), (0, .nameAndType 11 12), (0, u "com/example/backrank/backrank/SplitMix64"), (0, u "state"), (0, u "J"), (0, .long 11400714819323198485), (1, .long 13787848793156543929), (1, .long 10723151780598845931), (16, u "nextLong"), (0, u "()J"), (0, u "GOLDEN_GAMMA"), (1, u "(J)V")] 22

def k2c0 : Code := { maxStack := 3, maxLocals := 3, code := prog_37_method_1_code, exceptionTable := #[], attributes := #[] }
def k2m0 : Method := { name := "<init>", desc := "(J)V", sig := { parameters := [.long], returnType := none }, accessFlags := 0, code := some k2c0 }
def k2c1 : Code := { maxStack := 5, maxLocals := 3, code := prog_37_method_2_code, exceptionTable := #[], attributes := #[] }
def k2m1 : Method := { name := "nextLong", desc := "()J", sig := { parameters := [], returnType := some .long }, accessFlags := 0, code := some k2c1 }
/-- com/example/backrank/backrank/SplitMix64 -/
def k2 : Class := { plain "com/example/backrank/backrank/SplitMix64" (some 0) with
  accessFlags := 48
  interfaces := #[]
  cf := some (fileOf pool2 8 #[] #[{ accessFlags := 0, nameIndex := 5, descriptorIndex := 38, attributes := #[] }, { accessFlags := 0, nameIndex := 34, descriptorIndex := 35, attributes := #[] }] 48 2 #[] #[{ accessFlags := 26, nameIndex := 36, descriptorIndex := 12, attributes := #[] }, { accessFlags := 2, nameIndex := 11, descriptorIndex := 12, attributes := #[] }])
  fields := #[{ name := "GOLDEN_GAMMA", type := .long, accessFlags := 26, slot := 0, constantValue := 0 }, { name := "state", type := .long, accessFlags := 2, slot := 0, constantValue := 0 }]
  methods := #[k2m0, k2m1]
  instanceTypes := #[.long]
  staticTypes := #[.long]
  resolved := Array.replicate 61 none
  statics := none }

def pool3 : Array CpInfo := pool [(1, u "java/lang/Cloneable"), (0, .class_ 1), (0, u "java/lang/Object"), (0, .class_ 3)] 3

/-- java/lang/Cloneable -/
def k3 : Class := { plain "java/lang/Cloneable" (some 0) with
  accessFlags := 1537
  interfaces := #[]
  cf := some (fileOf pool3 2 #[] #[] 1537 4 #[] #[])
  fields := #[]
  methods := #[]
  instanceTypes := #[]
  staticTypes := #[]
  resolved := Array.replicate 8 none
  statics := none }

def pool4 : Array CpInfo := pool [(1, u "java/io/Serializable"), (0, .class_ 1), (0, u "java/lang/Object"), (0, .class_ 3)] 3

/-- java/io/Serializable -/
def k4 : Class := { plain "java/io/Serializable" (some 0) with
  accessFlags := 1537
  interfaces := #[]
  cf := some (fileOf pool4 2 #[] #[] 1537 4 #[] #[])
  fields := #[]
  methods := #[]
  instanceTypes := #[]
  staticTypes := #[]
  resolved := Array.replicate 8 none
  statics := none }

/-- the primitive byte -/
def k5 : Class := { plain "byte" none with kind := .primitive 'B', accessFlags := 0x411 }
/-- [B -/
def k6 : Class := { plain "[B" (some 0) with kind := .array 5 .byte, interfaces := #[3, 4], accessFlags := 1041 }

/-- the primitive int -/
def k7 : Class := { plain "int" none with kind := .primitive 'I', accessFlags := 0x411 }
/-- [I -/
def k8 : Class := { plain "[I" (some 0) with kind := .array 7 .int, interfaces := #[3, 4], accessFlags := 1041 }

def heap : Heap := #[]
def classes : Array Class := #[k0, k1, k2, k3, k4, k5, k6, k7, k8]
def interned : List (Array UInt16 × Addr) := []
def slotsUsed : Nat := 0
def theMethod : MethodId := ⟨1, 2⟩
def args0 : Array Value := #[.long 5]
def aboutOver (below : List Frame) : State where
  vm := { classes := classes, interned := interned.toArray }
  heap := heap
  slotsUsed := slotsUsed
  threads := #[{ frames := .invoking theMethod args0 :: below }]
def below0 : List Frame := [.native { method := ⟨0, 0⟩, args := #[] }]
def about1 : State := aboutOver below0
def p0 : Program := .bare "" "" ""
def e0 : Env := launch0.env 0 0 0
theorem w_frames : about1.frames = Frame.invoking theMethod args0 :: below0 := rfl
set_option maxRecDepth 65536 in
theorem w_args : argsFit about1.vm theMethod args0 = true := by decide +kernel
set_option maxRecDepth 65536 in
theorem w_heap : heapFits about1 = true := by decide +kernel
set_option maxRecDepth 65536 in
theorem w_runnable : about1.curStatus? = some .runnable := by decide +kernel
set_option maxRecDepth 65536 in
theorem w_alone : about1.alone = true := by decide +kernel
set_option maxRecDepth 65536 in
theorem w_named : about1.methodNamed? x = some theMethod := by decide +kernel
set_option maxRecDepth 65536 in
theorem w_hears : about1.hears theMethod below0 = true := by decide +kernel
set_option maxRecDepth 65536 in
theorem w_ripe : about1.ripe theMethod args0 below0 = true := by decide +kernel
theorem w_running : about1.status = .running := rfl
set_option maxRecDepth 65536 in
theorem w_room : about1.hasRoom e0.platform room_1 = true :=
  launch0.hasRoom_least _ room_1 (by decide +kernel) (by decide +kernel) (by decide +kernel) (by decide +kernel) (by decide +kernel) (by decide +kernel)
theorem allAtoms_all (ts : List Jvm.Cond) (a : Array Jvm.Value) (st : Jvm.State) : (allAtoms ts).before a st = ts.all (fun c => c.before a st) := by
  induction ts with
  | nil => rfl
  | cons c t ih =>
    show (Jvm.Cond.and c (allAtoms t)).before a st = _
    rw [Jvm.Cond.before_and, ih, List.all_cons]
def words1 : List Jvm.Cond := Jvm.Cond.code x code maxLocals ret :: tables_1
/-- a 'code' word, met by the world's own term for the bytes: nothing is compared byte by byte -/
theorem code_word {y : MethodName} {bytes : ByteArray} {mx : Nat} {rt : Option FieldType} {a : Array Value} {s : State} {m : MethodId} {meth : Method} {c : Code} (h1 : s.methodNamed? y = some m) (h2 : s.vm.method? m = some meth) (h3 : meth.code = some c) (h4 : c.code = bytes)
    (h5 : (c.maxLocals == mx && c.exceptionTable.isEmpty && decide (c.maxStack ≤ mostOperands) && decide (meth.sig.returnType = rt) && !meth.locks && decide (parseMethodDescriptor y.desc = some meth.sig)) = true) : (Jvm.Cond.code y bytes mx rt).before a s = true := by
  simp only [Bool.and_eq_true, beq_iff_eq, Bool.not_eq_true', decide_eq_true_eq] at h5
  obtain ⟨⟨⟨⟨⟨g1, g2⟩, g3⟩, g4⟩, g5⟩, g6⟩ := h5
  simp [Cond.before, Cond.holds, Cond.value, h1, h2, h3, h4, g1, g2, g3, g4, g5, g6]
def isCode : Jvm.Cond → Bool
  | .code _ _ _ _ => true
  | _ => false
theorem all_split {L : List Jvm.Cond} {P : Jvm.Cond → Bool} (h1 : L.all (fun c => isCode c || P c) = true) (h2 : ∀ c ∈ L.filter isCode, P c = true) : L.all P = true := by
  refine List.all_eq_true.mpr fun c hc => ?_
  have h := List.all_eq_true.mp h1 c hc
  rcases Bool.eq_false_or_eq_true (isCode c) with hi | hi
  · exact h2 c (List.mem_filter.mpr ⟨hc, hi⟩)
  · simpa [hi] using h
set_option maxRecDepth 65536 in
theorem w_c0 : (Jvm.Cond.code x code maxLocals ret).before args0 about1 = true := code_word (m := ⟨1, 2⟩) (meth := k1m2) (c := k1c2) (by decide +kernel) rfl rfl rfl (by decide +kernel)
set_option maxRecDepth 65536 in
theorem w_c1 : (Jvm.Cond.code ({ cls := "com/example/backrank/backrank/SplitMix64", name := "<init>", desc := "(J)V" } : Jvm.MethodName) prog_37_method_1_code (3 : Nat) (Option.none : Option Jvm.ClassFile.FieldType)).before args0 about1 = true := code_word (m := ⟨2, 0⟩) (meth := k2m0) (c := k2c0) (by decide +kernel) rfl rfl rfl (by decide +kernel)
set_option maxRecDepth 65536 in
theorem w_c2 : (Jvm.Cond.code ({ cls := "java/lang/Object", name := "<init>", desc := "()V" } : Jvm.MethodName) object_method_1_code (1 : Nat) (Option.none : Option Jvm.ClassFile.FieldType)).before args0 about1 = true := code_word (m := ⟨0, 0⟩) (meth := k0m0) (c := k0c0) (by decide +kernel) rfl rfl rfl (by decide +kernel)
set_option maxRecDepth 65536 in
theorem w_c3 : (Jvm.Cond.code ({ cls := "com/example/backrank/backrank/SplitMix64", name := "nextLong", desc := "()J" } : Jvm.MethodName) prog_37_method_2_code (3 : Nat) (Option.some Jvm.ClassFile.FieldType.long)).before args0 about1 = true := code_word (m := ⟨2, 1⟩) (meth := k2m1) (c := k2c1) (by decide +kernel) rfl rfl rfl (by decide +kernel)
set_option maxRecDepth 65536 in
theorem w_c4 : (Jvm.Cond.code ({ cls := "com/example/backrank/backrank/SplitMix64NextLongPinLaw", name := "unmix", desc := "(J)J" } : Jvm.MethodName) method_2_code (2 : Nat) (Option.some Jvm.ClassFile.FieldType.long)).before args0 about1 = true := code_word (m := ⟨1, 1⟩) (meth := k1m1) (c := k1c1) (by decide +kernel) rfl rfl rfl (by decide +kernel)
def codes1 : List Jvm.Cond := [Jvm.Cond.code x code maxLocals ret, Jvm.Cond.code ({ cls := "com/example/backrank/backrank/SplitMix64", name := "<init>", desc := "(J)V" } : Jvm.MethodName) prog_37_method_1_code (3 : Nat) (Option.none : Option Jvm.ClassFile.FieldType), Jvm.Cond.code ({ cls := "java/lang/Object", name := "<init>", desc := "()V" } : Jvm.MethodName) object_method_1_code (1 : Nat) (Option.none : Option Jvm.ClassFile.FieldType), Jvm.Cond.code ({ cls := "com/example/backrank/backrank/SplitMix64", name := "nextLong", desc := "()J" } : Jvm.MethodName) prog_37_method_2_code (3 : Nat) (Option.some Jvm.ClassFile.FieldType.long), Jvm.Cond.code ({ cls := "com/example/backrank/backrank/SplitMix64NextLongPinLaw", name := "unmix", desc := "(J)J" } : Jvm.MethodName) method_2_code (2 : Nat) (Option.some Jvm.ClassFile.FieldType.long)]
set_option maxRecDepth 65536 in
theorem codes_eq : words1.filter isCode = codes1 := rfl
theorem w_codes : ∀ c ∈ words1.filter isCode, c.before args0 about1 = true := by
  rw [codes_eq]
  intro c hc
  simp only [codes1, List.mem_cons, List.not_mem_nil, or_false] at hc
  rcases hc with rfl | rfl | rfl | rfl | rfl
  · exact w_c0
  · exact w_c1
  · exact w_c2
  · exact w_c3
  · exact w_c4
set_option maxRecDepth 65536 in
theorem w_t1 : (words1.take 24).all (fun c => isCode c || c.before args0 about1) = true := by decide +kernel
set_option maxRecDepth 65536 in
theorem w_t2 : (words1.drop 24).all (fun c => isCode c || c.before args0 about1) = true := by decide +kernel
theorem w_tables : (allAtoms (Jvm.Cond.code x code maxLocals ret :: tables_1)).before args0 about1 = true := by
  rw [allAtoms_all]
  show words1.all (fun c => c.before args0 about1) = true
  refine all_split ?_ w_codes
  rw [← List.take_append_drop 24 words1, List.all_append, w_t1, w_t2]
  rfl
set_option maxRecDepth 65536 in
theorem w_case : (Jvm.Cond.and given_1 narrow_1).before args0 about1 = true := by decide +kernel
theorem w_applies : (headSpec (Jvm.Cond.code x code maxLocals ret :: tables_1) room_1).applies x e0.platform about1 = true :=
  (Spec.applies_iff w_frames).mpr ⟨w_running, w_runnable, w_alone, w_named, w_hears, w_ripe, w_room, w_tables⟩
theorem atStart : AtStart classFile x code maxLocals ret World_1 tables_1 room_1 Calls_1 rest_1 Pre_1 launch0 p0 e0 about1 theMethod args0 below0 :=
  ⟨lists_1, trivial, launch0.admits_env _ _ _, launch0.least_env, fairChoices_fair.cas, fairChoices_fair.clock, w_frames, w_args, w_heap, w_applies, trivial, trivial, w_case⟩
end start1
theorem witness_1 : WitnessClaimed_1 := ⟨start1.p0, start1.e0, start1.about1, start1.theMethod, start1.args0, start1.below0, start1.atStart⟩
end Jvm.Pilot.@@N@@
