import JvmDerived
import JvmDerived.Pilot.@@N@@Statement
import JvmDerived.Pilot.@@N@@Code
set_option linter.unusedVariables false
set_option linter.unusedSimpArgs false
namespace Jvm.RoadKit
open Sem ClassFile Op Lib Jvm.Stand Jvm.Free Jvm.LawKit
section New
variable {p : Program} {l : Launch} {e : Env} {R : Room} {s : State} {m : MethodId} {args : Array Value} {below : List Frame} {meth : Method} {c : Code} {T : State} {locs : List Loc} {cells slots : Nat}
theorem retI (X : Stand p l e R s m args below meth c T locs cells slots) (hx : p.tables.exec = Jvm.exec) {pc : Nat} {Ls : Array Slot} {z : Int32} {rest : List Value} (hret : meth.sig.returnType = some .int) (hd : decode c.code pc = .ok (.ireturn, 1)) {fs : List Frame}
    (hl : ∀ (f : JFrame) (acts : List Action), f.method = m → f.locked = none → f.entered = [] → (doReturn e (T.setTop f) acts (some (.int z))).1 = T.setFrames fs) : Steps p.tables e below (T.setTop (mkF m pc Ls (.int z :: rest))) (T.setFrames fs) := by
  have hm' : T.vm.method? m = some meth := X.method'
  have hn : narrow .int (.int z) = .int z := rfl
  show Steps p.tables e below (T.setTop { method := m, pc := pc, locals := Ls, stack := _ :: rest, locked := none }) _
  jvm_step X.here [X.here.top, hx, hd, hm', hret, hn]
  first | (intro acts; rw [hl _ acts rfl rfl rfl]) | rw [hl _ _ rfl rfl rfl]
  exact Steps.refl _
end New
end Jvm.RoadKit
namespace Jvm.Pilot.@@N@@
open Jvm Jvm.ClassFile Sem Op Lib Jvm.Free Jvm.Stand Jvm.LawKit Jvm.RoadKit Bundle Jvm.Pilot.@@N@@.Jvm.D
/-- from the state A the run comes to the frame f over T -/
abbrev Go (tb : Tables) (e : Env) (below : List Frame) (A T : State) (f : JFrame) : Prop := ∀ t, Steps tb e below (T.setTop f) t → Steps tb e below A t

def own_max (p q : Int32) : Int32 := if p < q then q else p
def own_mh (a n m : Int64) (p : Int32) : Int32 := if a - m = 1 then (if n - a < p.toInt64 then 1 else 0) else 0
theorem own_law {w1 w4 w10 w16 w22 : Int64} {w13 w25 w31 w37 : Int32} (h10 : w10 = w1 + w4) (h22 : w22 = w10 + w16) (h25 : w25 = if w4 = 1 then 1 else 0) (h31 : w31 = if w16 < w13.toInt64 then 1 else 0) (h37 : w37 = if w25 = 0 then 0 else if w31 = 0 then 0 else 1) : own_mh w10 w22 w1 w13 = w37 := by
  have e1 : w10 - w1 = w4 := by rw [h10, Int64.add_comm, Int64.add_sub_cancel]
  have e2 : w22 - w10 = w16 := by rw [h22, Int64.add_comm, Int64.add_sub_cancel]
  unfold own_mh
  rw [e1, e2, h37, h25, h31]
  by_cases c1 : w4 = 1
  · by_cases c2 : w16 < w13.toInt64
    · rw [if_pos c1, if_pos c1, if_pos c2, if_neg (by decide), if_neg (by decide)]
    · rw [if_pos c1, if_pos c1, if_neg c2, if_neg (by decide), if_pos rfl]
  · rw [if_neg c1, if_neg c1, if_pos rfl]
theorem pd_0 : parseMethodDescriptor "(II)I" = some ⟨[.int, .int], some .int⟩ := by decide +kernel
theorem pd_1 : parseMethodDescriptor "(JJJI)Z" = some ⟨[.long, .long, .long, .int], some .boolean⟩ := by decide +kernel
theorem d1_0 : decode jdk_29_method_65_code 0 = .ok (.iload_n 0, 1) := by decide +kernel
theorem d1_1 : decode jdk_29_method_65_code 1 = .ok (.iload_n 1, 1) := by decide +kernel
theorem d1_2 : decode jdk_29_method_65_code 2 = .ok (.if_icmp .lt 7, 3) := by decide +kernel
theorem d1_5 : decode jdk_29_method_65_code 5 = .ok (.iload_n 0, 1) := by decide +kernel
theorem d1_6 : decode jdk_29_method_65_code 6 = .ok (.goto 4, 3) := by decide +kernel
theorem d1_9 : decode jdk_29_method_65_code 9 = .ok (.iload_n 1, 1) := by decide +kernel
theorem d1_10 : decode jdk_29_method_65_code 10 = .ok (.ireturn, 1) := by decide +kernel
theorem ef_max (m : MethodId) (p0 : Int32) (p1 : Int32) : entryFrame m #[(.int p0), (.int p1)] 2 = mkF m 0 #[.val (.int p0), .val (.int p1)] [] := by first | (simp [entryFrame, mkF, argsToLocals, Value.category]; done) | rfl
def Q_max (Z : State) (p0 : Int32) (p1 : Int32) (h0 : Heap) (n0 : Nat) (v : Option Value) (h : Heap) (L : List Loc) : Prop := v = some (.int (own_max p0 p1)) ∧ Fr n0 L ∧ h = h0
set_option maxRecDepth 65536 in
set_option maxHeartbeats 40000000 in
theorem rm_max (l : Launch) (Z : State) (a0 : Array Value) (hw : ∀ d ∈ tables_1, d.before a0 Z = true) (ws : List Jvm.Cond) (p0 : Int32) (p1 : Int32) (h0 : Heap) (n0 : Nat) :
    MetFree l (⟨"java/lang/Math", "max", "(II)I"⟩ : MethodName) (head1 (Jvm.Cond.code (⟨"java/lang/Math", "max", "(II)I"⟩ : MethodName) jdk_29_method_65_code 2 (some .int) :: ws) ({ frames := 0, cells := 0, slots := 0, locals := 0 } : Room)) (fun a U => a = #[(.int p0), (.int p1)] ∧ Z.Warmed39 U.vm ∧ U.heap = h0) (fun _ _ _ _ _ => True) (fun _ U o U' => ∃ v L, o = .returned v ∧ Q_max Z p0 p1 h0 n0 v U'.heap L ∧ FrameEnd U o U' L ({ frames := 0, cells := 0, slots := 0, locals := 0 } : Room).cells ({ frames := 0, cells := 0, slots := 0, locals := 0 } : Room).slots) := by
  refine MetFree.of_bodySF (Jvm.Free.JP.mathPlain rfl (by decide +kernel)) hisR ?_
  intro p e s m args below meth c s₁ Bd hml0 hP hK
  obtain ⟨rfl, hZ, hh⟩ := hP
  have hx := Bd.exec
  have hby := Bd.bytes
  have hml : c.maxLocals = 2 := hml0
  have hown : s.vm.findClass "java/lang/Math" = some m.cls := findClass_of_methodNamed Bd.named
  have hnm := (name_of_methodNamed Bd.named Bd.method).1
  have X0 : Stand p l e ({ frames := 0, cells := 0, slots := 0, locals := 0 } : Room) s m #[(.int p0), (.int p1)] below meth c s₁ [] 0 0 := Stand.of_body Bd
  have e0 : s₁.heap = h0 := by rw [← hh, Bd.state]; rfl
  have N0 := Fr.nil n0
  have pre0 : Go p.tables e below (s₁.setTop (entryFrame m #[(.int p0), (.int p1)] 2)) s₁ (mkF m 0 #[.val (.int p0), .val (.int p1)] []) := fun t k => castTop (ef_max m p0 p1) k
  have pre1 : Go p.tables e below (s₁.setTop (entryFrame m #[(.int p0), (.int p1)] 2)) s₁ (mkF m 2 #[.val (.int p0), .val (.int p1)] [(.int p1), (.int p0)]) := fun t k => pre0 t (by
      refine XS.iloadN X0.here hx rfl (hb hby d1_0) rfl ?_
      show Steps p.tables e below (s₁.setTop (mkF m 1 #[.val (.int p0), .val (.int p1)] [(.int p0)])) _
      refine XS.iloadN X0.here hx rfl (hb hby d1_1) rfl ?_
      exact k)
  by_cases hc2 : p0 < p1
  · -- hc2: True
    have pre3 : Go p.tables e below (s₁.setTop (entryFrame m #[(.int p0), (.int p1)] 2)) s₁ (mkF m 10 #[.val (.int p0), .val (.int p1)] [(.int p1)]) := fun t k => pre1 t (by
        refine XS.icmpYes X0.here hx rfl (pc0 := 2) (pc' := 9) rfl (hb hby d1_2) rfl (tlt hc2).1 (by decide) (by decide) ?_
        show Steps p.tables e below (s₁.setTop (mkF m 9 #[.val (.int p0), .val (.int p1)] [])) _
        refine XS.iloadN X0.here hx rfl (hb hby d1_9) rfl ?_
        exact k)
    obtain ⟨fs, hr, hrun, hended, hW, hsame⟩ := X0.leave (v := some (.int p1)) (fun h => by rw [Bd.returns] at h; cases h)
    refine ⟨_, _, pre3 _ ?_, hrun, hended, _, _, rfl, ?_, ⟨_, rfl⟩, hW, hsame.mono (Nat.le_of_ble_eq_true rfl) (Nat.le_of_ble_eq_true rfl)⟩
    · exact retI X0 hx Bd.returns (hb hby d1_10) hr
    · show Q_max Z p0 p1 h0 n0 _ s₁.heap _
      rw [e0]
      exact ⟨by simp [own_max, hc2], N0, rfl⟩
  · -- hc2: False
    have pre4 : Go p.tables e below (s₁.setTop (entryFrame m #[(.int p0), (.int p1)] 2)) s₁ (mkF m 10 #[.val (.int p0), .val (.int p1)] [(.int p0)]) := fun t k => pre1 t (by
        refine XS.icmpNo X0.here hx rfl (hb hby d1_2) rfl (flt hc2).1 ?_
        show Steps p.tables e below (s₁.setTop (mkF m 5 #[.val (.int p0), .val (.int p1)] [])) _
        refine XS.iloadN X0.here hx rfl (hb hby d1_5) rfl ?_
        show Steps p.tables e below (s₁.setTop (mkF m 6 #[.val (.int p0), .val (.int p1)] [(.int p0)])) _
        refine XS.goto X0.here hx rfl (pc0 := 6) (pc' := 10) rfl (hb hby d1_6) (by decide) (by decide) ?_
        exact k)
    obtain ⟨fs, hr, hrun, hended, hW, hsame⟩ := X0.leave (v := some (.int p0)) (fun h => by rw [Bd.returns] at h; cases h)
    refine ⟨_, _, pre4 _ ?_, hrun, hended, _, _, rfl, ?_, ⟨_, rfl⟩, hW, hsame.mono (Nat.le_of_ble_eq_true rfl) (Nat.le_of_ble_eq_true rfl)⟩
    · exact retI X0 hx Bd.returns (hb hby d1_10) hr
    · show Q_max Z p0 p1 h0 n0 _ s₁.heap _
      rw [e0]
      exact ⟨by simp [own_max, hc2], N0, rfl⟩
theorem d2_0 : decode prog_4_method_4_code 0 = .ok (.lload_n 0, 1) := by decide +kernel
theorem d2_1 : decode prog_4_method_4_code 1 = .ok (.lload 4, 2) := by decide +kernel
theorem d2_3 : decode prog_4_method_4_code 3 = .ok (.lsub, 1) := by decide +kernel
theorem d2_4 : decode prog_4_method_4_code 4 = .ok (.lconst 1, 1) := by decide +kernel
theorem d2_5 : decode prog_4_method_4_code 5 = .ok (.lcmp, 1) := by decide +kernel
theorem d2_6 : decode prog_4_method_4_code 6 = .ok (.ifCond .ne 17, 3) := by decide +kernel
theorem d2_9 : decode prog_4_method_4_code 9 = .ok (.lload_n 2, 1) := by decide +kernel
theorem d2_10 : decode prog_4_method_4_code 10 = .ok (.lload_n 0, 1) := by decide +kernel
theorem d2_11 : decode prog_4_method_4_code 11 = .ok (.lsub, 1) := by decide +kernel
theorem d2_12 : decode prog_4_method_4_code 12 = .ok (.iload 6, 2) := by decide +kernel
theorem d2_14 : decode prog_4_method_4_code 14 = .ok (.i2l, 1) := by decide +kernel
theorem d2_15 : decode prog_4_method_4_code 15 = .ok (.lcmp, 1) := by decide +kernel
theorem d2_16 : decode prog_4_method_4_code 16 = .ok (.ifCond .ge 7, 3) := by decide +kernel
theorem d2_19 : decode prog_4_method_4_code 19 = .ok (.iconst 1, 1) := by decide +kernel
theorem d2_20 : decode prog_4_method_4_code 20 = .ok (.goto 4, 3) := by decide +kernel
theorem d2_23 : decode prog_4_method_4_code 23 = .ok (.iconst 0, 1) := by decide +kernel
theorem d2_24 : decode prog_4_method_4_code 24 = .ok (.ireturn, 1) := by decide +kernel
theorem pn_mh : plainName "com/example/octopoll/octopoll/Engine" = true := by first | (simp [plainName, overriddenIn]; done) | decide +kernel
theorem ef_mh (m : MethodId) (q0 : Int64) (q1 : Int64) (q2 : Int64) (p3 : Int32) : entryFrame m #[(.long q0), (.long q1), (.long q2), (.int p3)] 7 = mkF m 0 #[.val (.long q0), .second, .val (.long q1), .second, .val (.long q2), .second, .val (.int p3)] [] := by first | (simp [entryFrame, mkF, argsToLocals, Value.category]; done) | rfl
def Q_mh (Z : State) (q0 : Int64) (q1 : Int64) (q2 : Int64) (p3 : Int32) (h0 : Heap) (n0 : Nat) (v : Option Value) (h : Heap) (L : List Loc) : Prop := v = some (.int (own_mh q0 q1 q2 p3)) ∧ Fr n0 L ∧ h = h0
set_option maxRecDepth 65536 in
set_option maxHeartbeats 40000000 in
theorem rm_mh (l : Launch) (Z : State) (a0 : Array Value) (hw : ∀ d ∈ tables_1, d.before a0 Z = true) (ws : List Jvm.Cond) (q0 : Int64) (q1 : Int64) (q2 : Int64) (p3 : Int32) (h0 : Heap) (n0 : Nat) :
    MetFree l (⟨"com/example/octopoll/octopoll/Engine", "mayHold", "(JJJI)Z"⟩ : MethodName) (head1 (Jvm.Cond.code (⟨"com/example/octopoll/octopoll/Engine", "mayHold", "(JJJI)Z"⟩ : MethodName) prog_4_method_4_code 7 (some .boolean) :: ws) ({ frames := 0, cells := 0, slots := 0, locals := 0 } : Room)) (fun a U => a = #[(.long q0), (.long q1), (.long q2), (.int p3)] ∧ Z.Warmed39 U.vm ∧ U.heap = h0) (fun _ _ _ _ _ => True) (fun _ U o U' => ∃ v L, o = .returned v ∧ Q_mh Z q0 q1 q2 p3 h0 n0 v U'.heap L ∧ FrameEnd U o U' L ({ frames := 0, cells := 0, slots := 0, locals := 0 } : Room).cells ({ frames := 0, cells := 0, slots := 0, locals := 0 } : Room).slots) := by
  refine MetFree.of_bodySF (plainFor_of_name pn_mh) hisR ?_
  intro p e s m args below meth c s₁ Bd hml0 hP hK
  obtain ⟨rfl, hZ, hh⟩ := hP
  have hx := Bd.exec
  have hby := Bd.bytes
  have hml : c.maxLocals = 7 := hml0
  have hown : s.vm.findClass "com/example/octopoll/octopoll/Engine" = some m.cls := findClass_of_methodNamed Bd.named
  have hnm := (name_of_methodNamed Bd.named Bd.method).1
  have X0 : Stand p l e ({ frames := 0, cells := 0, slots := 0, locals := 0 } : Room) s m #[(.long q0), (.long q1), (.long q2), (.int p3)] below meth c s₁ [] 0 0 := Stand.of_body Bd
  have e0 : s₁.heap = h0 := by rw [← hh, Bd.state]; rfl
  have N0 := Fr.nil n0
  have pre0 : Go p.tables e below (s₁.setTop (entryFrame m #[(.long q0), (.long q1), (.long q2), (.int p3)] 7)) s₁ (mkF m 0 #[.val (.long q0), .second, .val (.long q1), .second, .val (.long q2), .second, .val (.int p3)] []) := fun t k => castTop (ef_mh m q0 q1 q2 p3) k
  have pre1 : Go p.tables e below (s₁.setTop (entryFrame m #[(.long q0), (.long q1), (.long q2), (.int p3)] 7)) s₁ (mkF m 6 #[.val (.long q0), .second, .val (.long q1), .second, .val (.long q2), .second, .val (.int p3)] [(.int (lcmpW (q0 - q2) (1 : Int64)))]) := fun t k => pre0 t (by
      refine XS.lloadN X0.here hx rfl (hb hby d2_0) rfl ?_
      show Steps p.tables e below (s₁.setTop (mkF m 1 #[.val (.long q0), .second, .val (.long q1), .second, .val (.long q2), .second, .val (.int p3)] [(.long q0)])) _
      refine XS.lload X0.here hx rfl (hb hby d2_1) rfl ?_
      show Steps p.tables e below (s₁.setTop (mkF m 3 #[.val (.long q0), .second, .val (.long q1), .second, .val (.long q2), .second, .val (.int p3)] [(.long q2), (.long q0)])) _
      refine XS.lsub X0.here hx rfl (hb hby d2_3) rfl ?_
      show Steps p.tables e below (s₁.setTop (mkF m 4 #[.val (.long q0), .second, .val (.long q1), .second, .val (.long q2), .second, .val (.int p3)] [(.long (q0 - q2))])) _
      refine XS.lconst X0.here hx rfl (hb hby d2_4) ?_
      show Steps p.tables e below (s₁.setTop (mkF m 5 #[.val (.long q0), .second, .val (.long q1), .second, .val (.long q2), .second, .val (.int p3)] [(.long (1 : Int64)), (.long (q0 - q2))])) _
      refine XS.lcmp X0.here hx rfl (hb hby d2_5) rfl ?_
      exact k)
  by_cases hc2 : (q0 - q2) = (1 : Int64)
  · -- hc2: True
    have pre3 : Go p.tables e below (s₁.setTop (entryFrame m #[(.long q0), (.long q1), (.long q2), (.int p3)] 7)) s₁ (mkF m 16 #[.val (.long q0), .second, .val (.long q1), .second, .val (.long q2), .second, .val (.int p3)] [(.int (lcmpW (q1 - q0) (p3.toInt64)))]) := fun t k => pre1 t (by
        refine XS.ifNo X0.here hx rfl (hb hby d2_6) rfl ((if0 _ _).trans (teq ((lw_eq _ _).mpr hc2)).2) ?_
        show Steps p.tables e below (s₁.setTop (mkF m 9 #[.val (.long q0), .second, .val (.long q1), .second, .val (.long q2), .second, .val (.int p3)] [])) _
        refine XS.lloadN X0.here hx rfl (hb hby d2_9) rfl ?_
        show Steps p.tables e below (s₁.setTop (mkF m 10 #[.val (.long q0), .second, .val (.long q1), .second, .val (.long q2), .second, .val (.int p3)] [(.long q1)])) _
        refine XS.lloadN X0.here hx rfl (hb hby d2_10) rfl ?_
        show Steps p.tables e below (s₁.setTop (mkF m 11 #[.val (.long q0), .second, .val (.long q1), .second, .val (.long q2), .second, .val (.int p3)] [(.long q0), (.long q1)])) _
        refine XS.lsub X0.here hx rfl (hb hby d2_11) rfl ?_
        show Steps p.tables e below (s₁.setTop (mkF m 12 #[.val (.long q0), .second, .val (.long q1), .second, .val (.long q2), .second, .val (.int p3)] [(.long (q1 - q0))])) _
        refine XS.iload X0.here hx rfl (hb hby d2_12) rfl ?_
        show Steps p.tables e below (s₁.setTop (mkF m 14 #[.val (.long q0), .second, .val (.long q1), .second, .val (.long q2), .second, .val (.int p3)] [(.int p3), (.long (q1 - q0))])) _
        refine XS.i2l X0.here hx rfl (hb hby d2_14) rfl ?_
        show Steps p.tables e below (s₁.setTop (mkF m 15 #[.val (.long q0), .second, .val (.long q1), .second, .val (.long q2), .second, .val (.int p3)] [(.long (p3.toInt64)), (.long (q1 - q0))])) _
        refine XS.lcmp X0.here hx rfl (hb hby d2_15) rfl ?_
        exact k)
    by_cases hc4 : (q1 - q0) < (p3.toInt64)
    · -- hc4: True
      have pre5 : Go p.tables e below (s₁.setTop (entryFrame m #[(.long q0), (.long q1), (.long q2), (.int p3)] 7)) s₁ (mkF m 24 #[.val (.long q0), .second, .val (.long q1), .second, .val (.long q2), .second, .val (.int p3)] [(.int (1 : Int32))]) := fun t k => pre3 t (by
          refine XS.ifNo X0.here hx rfl (hb hby d2_16) rfl ((if0 _ _).trans (tlt ((lw_lt _ _).mpr hc4)).2.1) ?_
          show Steps p.tables e below (s₁.setTop (mkF m 19 #[.val (.long q0), .second, .val (.long q1), .second, .val (.long q2), .second, .val (.int p3)] [])) _
          refine XS.iconst X0.here hx rfl (hb hby d2_19) ?_
          show Steps p.tables e below (s₁.setTop (mkF m 20 #[.val (.long q0), .second, .val (.long q1), .second, .val (.long q2), .second, .val (.int p3)] [(.int (1 : Int32))])) _
          refine XS.goto X0.here hx rfl (pc0 := 20) (pc' := 24) rfl (hb hby d2_20) (by decide) (by decide) ?_
          exact k)
      obtain ⟨fs, hr, hrun, hended, hW, hsame⟩ := X0.leave (v := some (.int (1 : Int32))) (fun h => by rw [Bd.returns] at h; cases h)
      refine ⟨_, _, pre5 _ ?_, hrun, hended, _, _, rfl, ?_, ⟨_, rfl⟩, hW, hsame.mono (Nat.le_of_ble_eq_true rfl) (Nat.le_of_ble_eq_true rfl)⟩
      · exact retN X0 hx (t := .boolean) Bd.returns (by simp) (hb hby d2_24) hr
      · show Q_mh Z q0 q1 q2 p3 h0 n0 _ s₁.heap _
        rw [e0]
        exact ⟨by simp [own_mh, hc2, hc4], N0, rfl⟩
    · -- hc4: False
      have pre6 : Go p.tables e below (s₁.setTop (entryFrame m #[(.long q0), (.long q1), (.long q2), (.int p3)] 7)) s₁ (mkF m 24 #[.val (.long q0), .second, .val (.long q1), .second, .val (.long q2), .second, .val (.int p3)] [(.int (0 : Int32))]) := fun t k => pre3 t (by
          refine XS.ifYes X0.here hx rfl (pc0 := 16) (pc' := 23) rfl (hb hby d2_16) rfl ((if0 _ _).trans (flt (mt (lw_lt _ _).mp hc4)).2.1) (by decide) (by decide) ?_
          show Steps p.tables e below (s₁.setTop (mkF m 23 #[.val (.long q0), .second, .val (.long q1), .second, .val (.long q2), .second, .val (.int p3)] [])) _
          refine XS.iconst X0.here hx rfl (hb hby d2_23) ?_
          exact k)
      obtain ⟨fs, hr, hrun, hended, hW, hsame⟩ := X0.leave (v := some (.int (0 : Int32))) (fun h => by rw [Bd.returns] at h; cases h)
      refine ⟨_, _, pre6 _ ?_, hrun, hended, _, _, rfl, ?_, ⟨_, rfl⟩, hW, hsame.mono (Nat.le_of_ble_eq_true rfl) (Nat.le_of_ble_eq_true rfl)⟩
      · exact retN X0 hx (t := .boolean) Bd.returns (by simp) (hb hby d2_24) hr
      · show Q_mh Z q0 q1 q2 p3 h0 n0 _ s₁.heap _
        rw [e0]
        exact ⟨by simp [own_mh, hc2, hc4], N0, rfl⟩
  · -- hc2: False
    have pre7 : Go p.tables e below (s₁.setTop (entryFrame m #[(.long q0), (.long q1), (.long q2), (.int p3)] 7)) s₁ (mkF m 24 #[.val (.long q0), .second, .val (.long q1), .second, .val (.long q2), .second, .val (.int p3)] [(.int (0 : Int32))]) := fun t k => pre1 t (by
        refine XS.ifYes X0.here hx rfl (pc0 := 6) (pc' := 23) rfl (hb hby d2_6) rfl ((if0 _ _).trans (feq (mt (lw_eq _ _).mp hc2)).2) (by decide) (by decide) ?_
        show Steps p.tables e below (s₁.setTop (mkF m 23 #[.val (.long q0), .second, .val (.long q1), .second, .val (.long q2), .second, .val (.int p3)] [])) _
        refine XS.iconst X0.here hx rfl (hb hby d2_23) ?_
        exact k)
    obtain ⟨fs, hr, hrun, hended, hW, hsame⟩ := X0.leave (v := some (.int (0 : Int32))) (fun h => by rw [Bd.returns] at h; cases h)
    refine ⟨_, _, pre7 _ ?_, hrun, hended, _, _, rfl, ?_, ⟨_, rfl⟩, hW, hsame.mono (Nat.le_of_ble_eq_true rfl) (Nat.le_of_ble_eq_true rfl)⟩
    · exact retN X0 hx (t := .boolean) Bd.returns (by simp) (hb hby d2_24) hr
    · show Q_mh Z q0 q1 q2 p3 h0 n0 _ s₁.heap _
      rw [e0]
      exact ⟨by simp [own_mh, hc2], N0, rfl⟩
theorem pn_law : plainName "com/example/octopoll/octopoll/EngineMayHoldPinLaw" = true := by first | (simp [plainName, overriddenIn]; done) | decide +kernel
theorem ef_law (m : MethodId) (m0 : Int64) (k0 : Int64) (d0 : Int64) (p0 : Int32) : entryFrame m #[(.long m0), (.long k0), (.long d0), (.int p0)] maxLocals = mkF m 0 #[.val (.long m0), .second, .val (.long k0), .second, .val (.long d0), .second, .val (.int p0), .unset, .unset, .unset, .unset, .unset, .unset, .unset, .unset, .unset, .unset, .unset, .unset, .unset, .unset, .unset, .unset] [] := by first | (simp [entryFrame, mkF, argsToLocals, Value.category, maxLocals]; done) | rfl
def Q_law (Z : State) (m0 : Int64) (k0 : Int64) (d0 : Int64) (p0 : Int32) (h0 : Heap) (n0 : Nat) (v : Option Value) (h : Heap) (L : List Loc) : Prop := v = some (.int 1) ∧ Fr n0 L
set_option maxRecDepth 65536 in
set_option maxHeartbeats 40000000 in
theorem rm_law (l : Launch) (Z : State) (a0 : Array Value) (hw : ∀ d ∈ tables_1, d.before a0 Z = true) (ws : List Jvm.Cond) (m0 : Int64) (k0 : Int64) (d0 : Int64) (p0 : Int32) (h0 : Heap) (n0 : Nat) (Z0 : n0 ≤ h0.size) :
    MetFree l x (head1 (Jvm.Cond.code x code maxLocals ret :: ws) room_1) (fun a U => a = #[(.long m0), (.long k0), (.long d0), (.int p0)] ∧ Z.Warmed39 U.vm ∧ U.heap = h0) (fun _ _ _ _ _ => True) (fun _ U o U' => ∃ v L, o = .returned v ∧ Q_law Z m0 k0 d0 p0 h0 n0 v U'.heap L ∧ FrameEnd U o U' L room_1.cells room_1.slots) := by
  refine MetFree.of_bodySF (plainFor_of_name pn_law) hisR ?_
  intro p e s m args below meth c s₁ Bd hml0 hP hK
  obtain ⟨rfl, hZ, hh⟩ := hP
  have hx := Bd.exec
  have hby := Bd.bytes
  have hml : c.maxLocals = 23 := hml0
  have hown : s.vm.findClass "com/example/octopoll/octopoll/EngineMayHoldPinLaw" = some m.cls := findClass_of_methodNamed Bd.named
  have hnm := (name_of_methodNamed Bd.named Bd.method).1
  have X0 : Stand p l e room_1 s m #[(.long m0), (.long k0), (.long d0), (.int p0)] below meth c s₁ [] 0 0 := Stand.of_body Bd
  have e0 : s₁.heap = h0 := by rw [← hh, Bd.state]; rfl
  have N0 := Fr.nil n0
  have pre0 : Go p.tables e below (s₁.setTop (entryFrame m #[(.long m0), (.long k0), (.long d0), (.int p0)] maxLocals)) s₁ (mkF m 0 #[.val (.long m0), .second, .val (.long k0), .second, .val (.long d0), .second, .val (.int p0), .unset, .unset, .unset, .unset, .unset, .unset, .unset, .unset, .unset, .unset, .unset, .unset, .unset, .unset, .unset, .unset] []) := fun t k => castTop (ef_law m m0 k0 d0 p0) k
  obtain ⟨w1, hw1⟩ : ∃ z : Int64, z = (m0 &&& (2305843009213693951 : Int64)) := ⟨_, rfl⟩
  have pre2 : Go p.tables e below (s₁.setTop (entryFrame m #[(.long m0), (.long k0), (.long d0), (.int p0)] maxLocals)) s₁ (mkF m 16 #[.val (.long m0), .second, .val (.long k0), .second, .val (.long d0), .second, .val (.int p0), .val (.long (2305843009213693951 : Int64)), .second, .val (.long w1), .second, .unset, .unset, .unset, .unset, .unset, .unset, .unset, .unset, .unset, .unset, .unset, .unset] [(.int (lcmpW (k0 &&& (1 : Int64)) (0 : Int64)))]) := fun t k => pre0 t (by
      refine X0.ldc2Long hx hown (mvT hZ (hw _ (List.mem_of_getElem? (i := 0) rfl))) (g := (mkF m 0 #[.val (.long m0), .second, .val (.long k0), .second, .val (.long d0), .second, .val (.int p0), .unset, .unset, .unset, .unset, .unset, .unset, .unset, .unset, .unset, .unset, .unset, .unset, .unset, .unset, .unset, .unset] [])) rfl (hb hby at_0) _ ?_
      show Steps p.tables e below (s₁.setTop (mkF m 3 #[.val (.long m0), .second, .val (.long k0), .second, .val (.long d0), .second, .val (.int p0), .unset, .unset, .unset, .unset, .unset, .unset, .unset, .unset, .unset, .unset, .unset, .unset, .unset, .unset, .unset, .unset] [(.long (2305843009213693951 : Int64))])) _
      refine XS.lstore X0.here hx rfl (hb hby at_3) rfl (l' := #[.val (.long m0), .second, .val (.long k0), .second, .val (.long d0), .second, .val (.int p0), .val (.long (2305843009213693951 : Int64)), .second, .unset, .unset, .unset, .unset, .unset, .unset, .unset, .unset, .unset, .unset, .unset, .unset, .unset, .unset]) rfl ?_
      show Steps p.tables e below (s₁.setTop (mkF m 5 #[.val (.long m0), .second, .val (.long k0), .second, .val (.long d0), .second, .val (.int p0), .val (.long (2305843009213693951 : Int64)), .second, .unset, .unset, .unset, .unset, .unset, .unset, .unset, .unset, .unset, .unset, .unset, .unset, .unset, .unset] [])) _
      refine XS.lloadN X0.here hx rfl (hb hby at_5) rfl ?_
      show Steps p.tables e below (s₁.setTop (mkF m 6 #[.val (.long m0), .second, .val (.long k0), .second, .val (.long d0), .second, .val (.int p0), .val (.long (2305843009213693951 : Int64)), .second, .unset, .unset, .unset, .unset, .unset, .unset, .unset, .unset, .unset, .unset, .unset, .unset, .unset, .unset] [(.long m0)])) _
      refine XS.lload X0.here hx rfl (hb hby at_6) rfl ?_
      show Steps p.tables e below (s₁.setTop (mkF m 8 #[.val (.long m0), .second, .val (.long k0), .second, .val (.long d0), .second, .val (.int p0), .val (.long (2305843009213693951 : Int64)), .second, .unset, .unset, .unset, .unset, .unset, .unset, .unset, .unset, .unset, .unset, .unset, .unset, .unset, .unset] [(.long (2305843009213693951 : Int64)), (.long m0)])) _
      refine XS.land X0.here hx rfl (hb hby at_8) rfl ?_
      show Steps p.tables e below (s₁.setTop (mkF m 9 #[.val (.long m0), .second, .val (.long k0), .second, .val (.long d0), .second, .val (.int p0), .val (.long (2305843009213693951 : Int64)), .second, .unset, .unset, .unset, .unset, .unset, .unset, .unset, .unset, .unset, .unset, .unset, .unset, .unset, .unset] [(.long (m0 &&& (2305843009213693951 : Int64)))])) _
      refine XS.lstore X0.here hx rfl (x := w1) (rest := []) (hb hby at_9) (by subst hw1; rfl) (l' := #[.val (.long m0), .second, .val (.long k0), .second, .val (.long d0), .second, .val (.int p0), .val (.long (2305843009213693951 : Int64)), .second, .val (.long w1), .second, .unset, .unset, .unset, .unset, .unset, .unset, .unset, .unset, .unset, .unset, .unset, .unset]) rfl ?_
      show Steps p.tables e below (s₁.setTop (mkF m 11 #[.val (.long m0), .second, .val (.long k0), .second, .val (.long d0), .second, .val (.int p0), .val (.long (2305843009213693951 : Int64)), .second, .val (.long w1), .second, .unset, .unset, .unset, .unset, .unset, .unset, .unset, .unset, .unset, .unset, .unset, .unset] [])) _
      refine XS.lloadN X0.here hx rfl (hb hby at_11) rfl ?_
      show Steps p.tables e below (s₁.setTop (mkF m 12 #[.val (.long m0), .second, .val (.long k0), .second, .val (.long d0), .second, .val (.int p0), .val (.long (2305843009213693951 : Int64)), .second, .val (.long w1), .second, .unset, .unset, .unset, .unset, .unset, .unset, .unset, .unset, .unset, .unset, .unset, .unset] [(.long k0)])) _
      refine XS.lconst X0.here hx rfl (hb hby at_12) ?_
      show Steps p.tables e below (s₁.setTop (mkF m 13 #[.val (.long m0), .second, .val (.long k0), .second, .val (.long d0), .second, .val (.int p0), .val (.long (2305843009213693951 : Int64)), .second, .val (.long w1), .second, .unset, .unset, .unset, .unset, .unset, .unset, .unset, .unset, .unset, .unset, .unset, .unset] [(.long (1 : Int64)), (.long k0)])) _
      refine XS.land X0.here hx rfl (hb hby at_13) rfl ?_
      show Steps p.tables e below (s₁.setTop (mkF m 14 #[.val (.long m0), .second, .val (.long k0), .second, .val (.long d0), .second, .val (.int p0), .val (.long (2305843009213693951 : Int64)), .second, .val (.long w1), .second, .unset, .unset, .unset, .unset, .unset, .unset, .unset, .unset, .unset, .unset, .unset, .unset] [(.long (k0 &&& (1 : Int64)))])) _
      refine XS.lconst X0.here hx rfl (hb hby at_14) ?_
      show Steps p.tables e below (s₁.setTop (mkF m 15 #[.val (.long m0), .second, .val (.long k0), .second, .val (.long d0), .second, .val (.int p0), .val (.long (2305843009213693951 : Int64)), .second, .val (.long w1), .second, .unset, .unset, .unset, .unset, .unset, .unset, .unset, .unset, .unset, .unset, .unset, .unset] [(.long (0 : Int64)), (.long (k0 &&& (1 : Int64)))])) _
      refine XS.lcmp X0.here hx rfl (hb hby at_15) rfl ?_
      exact k)
  obtain ⟨T3, L3, w4, X3, e3, N3, hw4, pre3⟩ : ∃ (T3 : State) (L3 : List Loc) (w4 : Int64), Stand p l e room_1 s m #[(.long m0), (.long k0), (.long d0), (.int p0)] below meth c T3 L3 0 0 ∧ T3.heap = h0 ∧ Fr n0 L3 ∧ w4 = (if (k0 &&& (1 : Int64)) = (0 : Int64) then ((1 : Int64) + (((k0.toUInt64 >>> ((1 : Int32) &&& 0x3f).toInt64.toUInt64).toInt64) &&& (3 : Int64))) else ((1 : Int64) + (((k0.toUInt64 >>> ((1 : Int32) &&& 0x3f).toInt64.toUInt64).toInt64) &&& (1073741823 : Int64)))) ∧ Go p.tables e below (s₁.setTop (entryFrame m #[(.long m0), (.long k0), (.long d0), (.int p0)] maxLocals)) T3 (mkF m 44 #[.val (.long m0), .second, .val (.long k0), .second, .val (.long d0), .second, .val (.int p0), .val (.long (2305843009213693951 : Int64)), .second, .val (.long w1), .second, .val (.long w4), .second, .unset, .unset, .unset, .unset, .unset, .unset, .unset, .unset, .unset, .unset] []) := by
    by_cases hc5 : (k0 &&& (1 : Int64)) = (0 : Int64)
    · -- hc5: True
      obtain ⟨w6, hw6⟩ : ∃ z : Int64, z = ((1 : Int64) + (((k0.toUInt64 >>> ((1 : Int32) &&& 0x3f).toInt64.toUInt64).toInt64) &&& (3 : Int64))) := ⟨_, rfl⟩
      have pre7 : Go p.tables e below (s₁.setTop (entryFrame m #[(.long m0), (.long k0), (.long d0), (.int p0)] maxLocals)) s₁ (mkF m 44 #[.val (.long m0), .second, .val (.long k0), .second, .val (.long d0), .second, .val (.int p0), .val (.long (2305843009213693951 : Int64)), .second, .val (.long w1), .second, .val (.long w6), .second, .unset, .unset, .unset, .unset, .unset, .unset, .unset, .unset, .unset, .unset] []) := fun t k => pre2 t (by
          refine XS.ifNo X0.here hx rfl (hb hby at_16) rfl ((if0 _ _).trans (teq ((lw_eq _ _).mpr hc5)).2) ?_
          show Steps p.tables e below (s₁.setTop (mkF m 19 #[.val (.long m0), .second, .val (.long k0), .second, .val (.long d0), .second, .val (.int p0), .val (.long (2305843009213693951 : Int64)), .second, .val (.long w1), .second, .unset, .unset, .unset, .unset, .unset, .unset, .unset, .unset, .unset, .unset, .unset, .unset] [])) _
          refine XS.lconst X0.here hx rfl (hb hby at_19) ?_
          show Steps p.tables e below (s₁.setTop (mkF m 20 #[.val (.long m0), .second, .val (.long k0), .second, .val (.long d0), .second, .val (.int p0), .val (.long (2305843009213693951 : Int64)), .second, .val (.long w1), .second, .unset, .unset, .unset, .unset, .unset, .unset, .unset, .unset, .unset, .unset, .unset, .unset] [(.long (1 : Int64))])) _
          refine XS.lloadN X0.here hx rfl (hb hby at_20) rfl ?_
          show Steps p.tables e below (s₁.setTop (mkF m 21 #[.val (.long m0), .second, .val (.long k0), .second, .val (.long d0), .second, .val (.int p0), .val (.long (2305843009213693951 : Int64)), .second, .val (.long w1), .second, .unset, .unset, .unset, .unset, .unset, .unset, .unset, .unset, .unset, .unset, .unset, .unset] [(.long k0), (.long (1 : Int64))])) _
          refine XS.iconst X0.here hx rfl (hb hby at_21) ?_
          show Steps p.tables e below (s₁.setTop (mkF m 22 #[.val (.long m0), .second, .val (.long k0), .second, .val (.long d0), .second, .val (.int p0), .val (.long (2305843009213693951 : Int64)), .second, .val (.long w1), .second, .unset, .unset, .unset, .unset, .unset, .unset, .unset, .unset, .unset, .unset, .unset, .unset] [(.int (1 : Int32)), (.long k0), (.long (1 : Int64))])) _
          refine XS.lushr X0.here hx rfl (hb hby at_22) rfl ?_
          show Steps p.tables e below (s₁.setTop (mkF m 23 #[.val (.long m0), .second, .val (.long k0), .second, .val (.long d0), .second, .val (.int p0), .val (.long (2305843009213693951 : Int64)), .second, .val (.long w1), .second, .unset, .unset, .unset, .unset, .unset, .unset, .unset, .unset, .unset, .unset, .unset, .unset] [(.long ((k0.toUInt64 >>> ((1 : Int32) &&& 0x3f).toInt64.toUInt64).toInt64)), (.long (1 : Int64))])) _
          refine X0.ldc2Long hx hown (mvT hZ (hw _ (List.mem_of_getElem? (i := 11) rfl))) (g := (mkF m 23 #[.val (.long m0), .second, .val (.long k0), .second, .val (.long d0), .second, .val (.int p0), .val (.long (2305843009213693951 : Int64)), .second, .val (.long w1), .second, .unset, .unset, .unset, .unset, .unset, .unset, .unset, .unset, .unset, .unset, .unset, .unset] [(.long ((k0.toUInt64 >>> ((1 : Int32) &&& 0x3f).toInt64.toUInt64).toInt64)), (.long (1 : Int64))])) rfl (hb hby at_23) _ ?_
          show Steps p.tables e below (s₁.setTop (mkF m 26 #[.val (.long m0), .second, .val (.long k0), .second, .val (.long d0), .second, .val (.int p0), .val (.long (2305843009213693951 : Int64)), .second, .val (.long w1), .second, .unset, .unset, .unset, .unset, .unset, .unset, .unset, .unset, .unset, .unset, .unset, .unset] [(.long (3 : Int64)), (.long ((k0.toUInt64 >>> ((1 : Int32) &&& 0x3f).toInt64.toUInt64).toInt64)), (.long (1 : Int64))])) _
          refine XS.land X0.here hx rfl (hb hby at_26) rfl ?_
          show Steps p.tables e below (s₁.setTop (mkF m 27 #[.val (.long m0), .second, .val (.long k0), .second, .val (.long d0), .second, .val (.int p0), .val (.long (2305843009213693951 : Int64)), .second, .val (.long w1), .second, .unset, .unset, .unset, .unset, .unset, .unset, .unset, .unset, .unset, .unset, .unset, .unset] [(.long (((k0.toUInt64 >>> ((1 : Int32) &&& 0x3f).toInt64.toUInt64).toInt64) &&& (3 : Int64))), (.long (1 : Int64))])) _
          refine XS.ladd X0.here hx rfl (hb hby at_27) rfl ?_
          show Steps p.tables e below (s₁.setTop (mkF m 28 #[.val (.long m0), .second, .val (.long k0), .second, .val (.long d0), .second, .val (.int p0), .val (.long (2305843009213693951 : Int64)), .second, .val (.long w1), .second, .unset, .unset, .unset, .unset, .unset, .unset, .unset, .unset, .unset, .unset, .unset, .unset] [(.long ((1 : Int64) + (((k0.toUInt64 >>> ((1 : Int32) &&& 0x3f).toInt64.toUInt64).toInt64) &&& (3 : Int64))))])) _
          refine XS.lstore X0.here hx rfl (x := w6) (rest := []) (hb hby at_28) (by subst hw6; rfl) (l' := #[.val (.long m0), .second, .val (.long k0), .second, .val (.long d0), .second, .val (.int p0), .val (.long (2305843009213693951 : Int64)), .second, .val (.long w1), .second, .val (.long w6), .second, .unset, .unset, .unset, .unset, .unset, .unset, .unset, .unset, .unset, .unset]) rfl ?_
          show Steps p.tables e below (s₁.setTop (mkF m 30 #[.val (.long m0), .second, .val (.long k0), .second, .val (.long d0), .second, .val (.int p0), .val (.long (2305843009213693951 : Int64)), .second, .val (.long w1), .second, .val (.long w6), .second, .unset, .unset, .unset, .unset, .unset, .unset, .unset, .unset, .unset, .unset] [])) _
          refine XS.goto X0.here hx rfl (pc0 := 30) (pc' := 44) rfl (hb hby at_30) (by decide) (by decide) ?_
          exact k)
      refine ⟨_, _, _, X0, e0, N0, ?_, pre7⟩
      · subst hw6; exact ((if_pos hc5)).symm
    · -- hc5: False
      obtain ⟨w8, hw8⟩ : ∃ z : Int64, z = ((1 : Int64) + (((k0.toUInt64 >>> ((1 : Int32) &&& 0x3f).toInt64.toUInt64).toInt64) &&& (1073741823 : Int64))) := ⟨_, rfl⟩
      have pre9 : Go p.tables e below (s₁.setTop (entryFrame m #[(.long m0), (.long k0), (.long d0), (.int p0)] maxLocals)) s₁ (mkF m 44 #[.val (.long m0), .second, .val (.long k0), .second, .val (.long d0), .second, .val (.int p0), .val (.long (2305843009213693951 : Int64)), .second, .val (.long w1), .second, .val (.long w8), .second, .unset, .unset, .unset, .unset, .unset, .unset, .unset, .unset, .unset, .unset] []) := fun t k => pre2 t (by
          refine XS.ifYes X0.here hx rfl (pc0 := 16) (pc' := 33) rfl (hb hby at_16) rfl ((if0 _ _).trans (feq (mt (lw_eq _ _).mp hc5)).2) (by decide) (by decide) ?_
          show Steps p.tables e below (s₁.setTop (mkF m 33 #[.val (.long m0), .second, .val (.long k0), .second, .val (.long d0), .second, .val (.int p0), .val (.long (2305843009213693951 : Int64)), .second, .val (.long w1), .second, .unset, .unset, .unset, .unset, .unset, .unset, .unset, .unset, .unset, .unset, .unset, .unset] [])) _
          refine XS.lconst X0.here hx rfl (hb hby at_33) ?_
          show Steps p.tables e below (s₁.setTop (mkF m 34 #[.val (.long m0), .second, .val (.long k0), .second, .val (.long d0), .second, .val (.int p0), .val (.long (2305843009213693951 : Int64)), .second, .val (.long w1), .second, .unset, .unset, .unset, .unset, .unset, .unset, .unset, .unset, .unset, .unset, .unset, .unset] [(.long (1 : Int64))])) _
          refine XS.lloadN X0.here hx rfl (hb hby at_34) rfl ?_
          show Steps p.tables e below (s₁.setTop (mkF m 35 #[.val (.long m0), .second, .val (.long k0), .second, .val (.long d0), .second, .val (.int p0), .val (.long (2305843009213693951 : Int64)), .second, .val (.long w1), .second, .unset, .unset, .unset, .unset, .unset, .unset, .unset, .unset, .unset, .unset, .unset, .unset] [(.long k0), (.long (1 : Int64))])) _
          refine XS.iconst X0.here hx rfl (hb hby at_35) ?_
          show Steps p.tables e below (s₁.setTop (mkF m 36 #[.val (.long m0), .second, .val (.long k0), .second, .val (.long d0), .second, .val (.int p0), .val (.long (2305843009213693951 : Int64)), .second, .val (.long w1), .second, .unset, .unset, .unset, .unset, .unset, .unset, .unset, .unset, .unset, .unset, .unset, .unset] [(.int (1 : Int32)), (.long k0), (.long (1 : Int64))])) _
          refine XS.lushr X0.here hx rfl (hb hby at_36) rfl ?_
          show Steps p.tables e below (s₁.setTop (mkF m 37 #[.val (.long m0), .second, .val (.long k0), .second, .val (.long d0), .second, .val (.int p0), .val (.long (2305843009213693951 : Int64)), .second, .val (.long w1), .second, .unset, .unset, .unset, .unset, .unset, .unset, .unset, .unset, .unset, .unset, .unset, .unset] [(.long ((k0.toUInt64 >>> ((1 : Int32) &&& 0x3f).toInt64.toUInt64).toInt64)), (.long (1 : Int64))])) _
          refine X0.ldc2Long hx hown (mvT hZ (hw _ (List.mem_of_getElem? (i := 1) rfl))) (g := (mkF m 37 #[.val (.long m0), .second, .val (.long k0), .second, .val (.long d0), .second, .val (.int p0), .val (.long (2305843009213693951 : Int64)), .second, .val (.long w1), .second, .unset, .unset, .unset, .unset, .unset, .unset, .unset, .unset, .unset, .unset, .unset, .unset] [(.long ((k0.toUInt64 >>> ((1 : Int32) &&& 0x3f).toInt64.toUInt64).toInt64)), (.long (1 : Int64))])) rfl (hb hby at_37) _ ?_
          show Steps p.tables e below (s₁.setTop (mkF m 40 #[.val (.long m0), .second, .val (.long k0), .second, .val (.long d0), .second, .val (.int p0), .val (.long (2305843009213693951 : Int64)), .second, .val (.long w1), .second, .unset, .unset, .unset, .unset, .unset, .unset, .unset, .unset, .unset, .unset, .unset, .unset] [(.long (1073741823 : Int64)), (.long ((k0.toUInt64 >>> ((1 : Int32) &&& 0x3f).toInt64.toUInt64).toInt64)), (.long (1 : Int64))])) _
          refine XS.land X0.here hx rfl (hb hby at_40) rfl ?_
          show Steps p.tables e below (s₁.setTop (mkF m 41 #[.val (.long m0), .second, .val (.long k0), .second, .val (.long d0), .second, .val (.int p0), .val (.long (2305843009213693951 : Int64)), .second, .val (.long w1), .second, .unset, .unset, .unset, .unset, .unset, .unset, .unset, .unset, .unset, .unset, .unset, .unset] [(.long (((k0.toUInt64 >>> ((1 : Int32) &&& 0x3f).toInt64.toUInt64).toInt64) &&& (1073741823 : Int64))), (.long (1 : Int64))])) _
          refine XS.ladd X0.here hx rfl (hb hby at_41) rfl ?_
          show Steps p.tables e below (s₁.setTop (mkF m 42 #[.val (.long m0), .second, .val (.long k0), .second, .val (.long d0), .second, .val (.int p0), .val (.long (2305843009213693951 : Int64)), .second, .val (.long w1), .second, .unset, .unset, .unset, .unset, .unset, .unset, .unset, .unset, .unset, .unset, .unset, .unset] [(.long ((1 : Int64) + (((k0.toUInt64 >>> ((1 : Int32) &&& 0x3f).toInt64.toUInt64).toInt64) &&& (1073741823 : Int64))))])) _
          refine XS.lstore X0.here hx rfl (x := w8) (rest := []) (hb hby at_42) (by subst hw8; rfl) (l' := #[.val (.long m0), .second, .val (.long k0), .second, .val (.long d0), .second, .val (.int p0), .val (.long (2305843009213693951 : Int64)), .second, .val (.long w1), .second, .val (.long w8), .second, .unset, .unset, .unset, .unset, .unset, .unset, .unset, .unset, .unset, .unset]) rfl ?_
          exact k)
      refine ⟨_, _, _, X0, e0, N0, ?_, pre9⟩
      · subst hw8; exact ((if_neg hc5)).symm
  obtain ⟨w10, hw10⟩ : ∃ z : Int64, z = (w1 + w4) := ⟨_, rfl⟩
  have pre11 : Go p.tables e below (s₁.setTop (entryFrame m #[(.long m0), (.long k0), (.long d0), (.int p0)] maxLocals)) T3 (mkF m 57 #[.val (.long m0), .second, .val (.long k0), .second, .val (.long d0), .second, .val (.int p0), .val (.long (2305843009213693951 : Int64)), .second, .val (.long w1), .second, .val (.long w4), .second, .val (.long w10), .second, .unset, .unset, .unset, .unset, .unset, .unset, .unset, .unset] [(.int (p0 &&& (2147483647 : Int32))), (.int (1 : Int32))]) := fun t k => pre3 t (by
      refine XS.lload X3.here hx rfl (hb hby at_44) rfl ?_
      show Steps p.tables e below (T3.setTop (mkF m 46 #[.val (.long m0), .second, .val (.long k0), .second, .val (.long d0), .second, .val (.int p0), .val (.long (2305843009213693951 : Int64)), .second, .val (.long w1), .second, .val (.long w4), .second, .unset, .unset, .unset, .unset, .unset, .unset, .unset, .unset, .unset, .unset] [(.long w1)])) _
      refine XS.lload X3.here hx rfl (hb hby at_46) rfl ?_
      show Steps p.tables e below (T3.setTop (mkF m 48 #[.val (.long m0), .second, .val (.long k0), .second, .val (.long d0), .second, .val (.int p0), .val (.long (2305843009213693951 : Int64)), .second, .val (.long w1), .second, .val (.long w4), .second, .unset, .unset, .unset, .unset, .unset, .unset, .unset, .unset, .unset, .unset] [(.long w4), (.long w1)])) _
      refine XS.ladd X3.here hx rfl (hb hby at_48) rfl ?_
      show Steps p.tables e below (T3.setTop (mkF m 49 #[.val (.long m0), .second, .val (.long k0), .second, .val (.long d0), .second, .val (.int p0), .val (.long (2305843009213693951 : Int64)), .second, .val (.long w1), .second, .val (.long w4), .second, .unset, .unset, .unset, .unset, .unset, .unset, .unset, .unset, .unset, .unset] [(.long (w1 + w4))])) _
      refine XS.lstore X3.here hx rfl (x := w10) (rest := []) (hb hby at_49) (by subst hw10; rfl) (l' := #[.val (.long m0), .second, .val (.long k0), .second, .val (.long d0), .second, .val (.int p0), .val (.long (2305843009213693951 : Int64)), .second, .val (.long w1), .second, .val (.long w4), .second, .val (.long w10), .second, .unset, .unset, .unset, .unset, .unset, .unset, .unset, .unset]) rfl ?_
      show Steps p.tables e below (T3.setTop (mkF m 51 #[.val (.long m0), .second, .val (.long k0), .second, .val (.long d0), .second, .val (.int p0), .val (.long (2305843009213693951 : Int64)), .second, .val (.long w1), .second, .val (.long w4), .second, .val (.long w10), .second, .unset, .unset, .unset, .unset, .unset, .unset, .unset, .unset] [])) _
      refine XS.iconst X3.here hx rfl (hb hby at_51) ?_
      show Steps p.tables e below (T3.setTop (mkF m 52 #[.val (.long m0), .second, .val (.long k0), .second, .val (.long d0), .second, .val (.int p0), .val (.long (2305843009213693951 : Int64)), .second, .val (.long w1), .second, .val (.long w4), .second, .val (.long w10), .second, .unset, .unset, .unset, .unset, .unset, .unset, .unset, .unset] [(.int (1 : Int32))])) _
      refine XS.iload X3.here hx rfl (hb hby at_52) rfl ?_
      show Steps p.tables e below (T3.setTop (mkF m 54 #[.val (.long m0), .second, .val (.long k0), .second, .val (.long d0), .second, .val (.int p0), .val (.long (2305843009213693951 : Int64)), .second, .val (.long w1), .second, .val (.long w4), .second, .val (.long w10), .second, .unset, .unset, .unset, .unset, .unset, .unset, .unset, .unset] [(.int p0), (.int (1 : Int32))])) _
      refine X3.ldcInt hx hown (mvT hZ (hw _ (List.mem_of_getElem? (i := 2) rfl))) (g := (mkF m 54 #[.val (.long m0), .second, .val (.long k0), .second, .val (.long d0), .second, .val (.int p0), .val (.long (2305843009213693951 : Int64)), .second, .val (.long w1), .second, .val (.long w4), .second, .val (.long w10), .second, .unset, .unset, .unset, .unset, .unset, .unset, .unset, .unset] [(.int p0), (.int (1 : Int32))])) rfl (hb hby at_54) _ ?_
      show Steps p.tables e below (T3.setTop (mkF m 56 #[.val (.long m0), .second, .val (.long k0), .second, .val (.long d0), .second, .val (.int p0), .val (.long (2305843009213693951 : Int64)), .second, .val (.long w1), .second, .val (.long w4), .second, .val (.long w10), .second, .unset, .unset, .unset, .unset, .unset, .unset, .unset, .unset] [(.int (2147483647 : Int32)), (.int p0), (.int (1 : Int32))])) _
      refine XS.iand X3.here hx rfl (hb hby at_56) rfl ?_
      exact k)
  obtain ⟨_, _, ⟨T12, L12, k12, n12⟩, -, X12, ⟨Lc12, hQ12, l12, y12, z12⟩, st12⟩ := Jvm.LawKit.callS X3 hx (y := (⟨"java/lang/Math", "max", "(II)I"⟩ : MethodName)) hown (mvT hZ (hw _ (List.mem_of_getElem? (i := 3) rfl))) (mvT hZ (hw _ (List.mem_of_getElem? (i := 4) rfl))) (mvT hZ (hw _ (List.mem_of_getElem? (i := 5) rfl))) (mvT hZ (hw _ (List.mem_of_getElem? (i := 6) rfl))) (by decide) (backOf (W := 0) (rm_max l Z a0 hw [] (1 : Int32) (p0 &&& (2147483647 : Int32)) h0 n0) hZ (hw _ (List.mem_of_getElem? (i := 6) rfl)) (hw _ (List.mem_of_getElem? (i := 5) rfl)) (by decide) (by decide)) (g := (mkF m 57 #[.val (.long m0), .second, .val (.long k0), .second, .val (.long d0), .second, .val (.int p0), .val (.long (2305843009213693951 : Int64)), .second, .val (.long w1), .second, .val (.long w4), .second, .val (.long w10), .second, .unset, .unset, .unset, .unset, .unset, .unset, .unset, .unset] [(.int (p0 &&& (2147483647 : Int32))), (.int (1 : Int32))])) rfl (by rw [hml]; rfl) (argsL := [(.int (1 : Int32)), (.int (p0 &&& (2147483647 : Int32)))]) (rest := []) (lenOf pd_0 rfl) rfl (by show 2 * 0 + _ ≤ _; exact Nat.le_of_eq rfl) (hb hby at_57) (fun _ _ => ⟨rfl, e3, (by decide : 0 + 0 ≤ _), (by decide : 0 + 0 ≤ _)⟩)
  dsimp only [Pt.U, Pt.locs, Pt.cells, Pt.slots] at X12 l12 y12 z12 st12 hQ12
  subst l12 y12 z12
  obtain ⟨rfl, N12q, e12⟩ := hQ12
  have N12 := Fr.app N3 N12q
  have pre12 : Go p.tables e below (s₁.setTop (entryFrame m #[(.long m0), (.long k0), (.long d0), (.int p0)] maxLocals)) T12 (mkF m 60 #[.val (.long m0), .second, .val (.long k0), .second, .val (.long d0), .second, .val (.int p0), .val (.long (2305843009213693951 : Int64)), .second, .val (.long w1), .second, .val (.long w4), .second, .val (.long w10), .second, .unset, .unset, .unset, .unset, .unset, .unset, .unset, .unset] [(.int (own_max (1 : Int32) (p0 &&& (2147483647 : Int32))))]) := fun t k => pre11 t (st12 _ k)
  obtain ⟨w13, hw13⟩ : ∃ z : Int32, z = (own_max (1 : Int32) (p0 &&& (2147483647 : Int32))) := ⟨_, rfl⟩
  have pre14 : Go p.tables e below (s₁.setTop (entryFrame m #[(.long m0), (.long k0), (.long d0), (.int p0)] maxLocals)) T12 (mkF m 68 #[.val (.long m0), .second, .val (.long k0), .second, .val (.long d0), .second, .val (.int p0), .val (.long (2305843009213693951 : Int64)), .second, .val (.long w1), .second, .val (.long w4), .second, .val (.long w10), .second, .val (.int w13), .unset, .unset, .unset, .unset, .unset, .unset, .unset] [(.int (lcmpW (d0 &&& (1 : Int64)) (0 : Int64)))]) := fun t k => pre12 t (by
      refine XS.istore X12.here hx rfl (x := w13) (rest := []) (hb hby at_60) (by subst hw13; rfl) (l' := #[.val (.long m0), .second, .val (.long k0), .second, .val (.long d0), .second, .val (.int p0), .val (.long (2305843009213693951 : Int64)), .second, .val (.long w1), .second, .val (.long w4), .second, .val (.long w10), .second, .val (.int w13), .unset, .unset, .unset, .unset, .unset, .unset, .unset]) rfl ?_
      show Steps p.tables e below (T12.setTop (mkF m 62 #[.val (.long m0), .second, .val (.long k0), .second, .val (.long d0), .second, .val (.int p0), .val (.long (2305843009213693951 : Int64)), .second, .val (.long w1), .second, .val (.long w4), .second, .val (.long w10), .second, .val (.int w13), .unset, .unset, .unset, .unset, .unset, .unset, .unset] [])) _
      refine XS.lload X12.here hx rfl (hb hby at_62) rfl ?_
      show Steps p.tables e below (T12.setTop (mkF m 64 #[.val (.long m0), .second, .val (.long k0), .second, .val (.long d0), .second, .val (.int p0), .val (.long (2305843009213693951 : Int64)), .second, .val (.long w1), .second, .val (.long w4), .second, .val (.long w10), .second, .val (.int w13), .unset, .unset, .unset, .unset, .unset, .unset, .unset] [(.long d0)])) _
      refine XS.lconst X12.here hx rfl (hb hby at_64) ?_
      show Steps p.tables e below (T12.setTop (mkF m 65 #[.val (.long m0), .second, .val (.long k0), .second, .val (.long d0), .second, .val (.int p0), .val (.long (2305843009213693951 : Int64)), .second, .val (.long w1), .second, .val (.long w4), .second, .val (.long w10), .second, .val (.int w13), .unset, .unset, .unset, .unset, .unset, .unset, .unset] [(.long (1 : Int64)), (.long d0)])) _
      refine XS.land X12.here hx rfl (hb hby at_65) rfl ?_
      show Steps p.tables e below (T12.setTop (mkF m 66 #[.val (.long m0), .second, .val (.long k0), .second, .val (.long d0), .second, .val (.int p0), .val (.long (2305843009213693951 : Int64)), .second, .val (.long w1), .second, .val (.long w4), .second, .val (.long w10), .second, .val (.int w13), .unset, .unset, .unset, .unset, .unset, .unset, .unset] [(.long (d0 &&& (1 : Int64)))])) _
      refine XS.lconst X12.here hx rfl (hb hby at_66) ?_
      show Steps p.tables e below (T12.setTop (mkF m 67 #[.val (.long m0), .second, .val (.long k0), .second, .val (.long d0), .second, .val (.int p0), .val (.long (2305843009213693951 : Int64)), .second, .val (.long w1), .second, .val (.long w4), .second, .val (.long w10), .second, .val (.int w13), .unset, .unset, .unset, .unset, .unset, .unset, .unset] [(.long (0 : Int64)), (.long (d0 &&& (1 : Int64)))])) _
      refine XS.lcmp X12.here hx rfl (hb hby at_67) rfl ?_
      exact k)
  obtain ⟨T15, L15, w16, X15, e15, N15, hw16, pre15⟩ : ∃ (T15 : State) (L15 : List Loc) (w16 : Int64), Stand p l e room_1 s m #[(.long m0), (.long k0), (.long d0), (.int p0)] below meth c T15 L15 0 0 ∧ T15.heap = h0 ∧ Fr n0 L15 ∧ w16 = (if (d0 &&& (1 : Int64)) = (0 : Int64) then (((d0.toUInt64 >>> ((1 : Int32) &&& 0x3f).toInt64.toUInt64).toInt64) &&& (2305843009213693951 : Int64)) else (((w13.toInt64) - (1 : Int64)) + (((d0.toUInt64 >>> ((1 : Int32) &&& 0x3f).toInt64.toUInt64).toInt64) &&& (1 : Int64)))) ∧ Go p.tables e below (s₁.setTop (entryFrame m #[(.long m0), (.long k0), (.long d0), (.int p0)] maxLocals)) T15 (mkF m 97 #[.val (.long m0), .second, .val (.long k0), .second, .val (.long d0), .second, .val (.int p0), .val (.long (2305843009213693951 : Int64)), .second, .val (.long w1), .second, .val (.long w4), .second, .val (.long w10), .second, .val (.int w13), .val (.long w16), .second, .unset, .unset, .unset, .unset, .unset] []) := by
    by_cases hc17 : (d0 &&& (1 : Int64)) = (0 : Int64)
    · -- hc17: True
      obtain ⟨w18, hw18⟩ : ∃ z : Int64, z = (((d0.toUInt64 >>> ((1 : Int32) &&& 0x3f).toInt64.toUInt64).toInt64) &&& (2305843009213693951 : Int64)) := ⟨_, rfl⟩
      have pre19 : Go p.tables e below (s₁.setTop (entryFrame m #[(.long m0), (.long k0), (.long d0), (.int p0)] maxLocals)) T12 (mkF m 97 #[.val (.long m0), .second, .val (.long k0), .second, .val (.long d0), .second, .val (.int p0), .val (.long (2305843009213693951 : Int64)), .second, .val (.long w1), .second, .val (.long w4), .second, .val (.long w10), .second, .val (.int w13), .val (.long w18), .second, .unset, .unset, .unset, .unset, .unset] []) := fun t k => pre14 t (by
          refine XS.ifNo X12.here hx rfl (hb hby at_68) rfl ((if0 _ _).trans (teq ((lw_eq _ _).mpr hc17)).2) ?_
          show Steps p.tables e below (T12.setTop (mkF m 71 #[.val (.long m0), .second, .val (.long k0), .second, .val (.long d0), .second, .val (.int p0), .val (.long (2305843009213693951 : Int64)), .second, .val (.long w1), .second, .val (.long w4), .second, .val (.long w10), .second, .val (.int w13), .unset, .unset, .unset, .unset, .unset, .unset, .unset] [])) _
          refine XS.lload X12.here hx rfl (hb hby at_71) rfl ?_
          show Steps p.tables e below (T12.setTop (mkF m 73 #[.val (.long m0), .second, .val (.long k0), .second, .val (.long d0), .second, .val (.int p0), .val (.long (2305843009213693951 : Int64)), .second, .val (.long w1), .second, .val (.long w4), .second, .val (.long w10), .second, .val (.int w13), .unset, .unset, .unset, .unset, .unset, .unset, .unset] [(.long d0)])) _
          refine XS.iconst X12.here hx rfl (hb hby at_73) ?_
          show Steps p.tables e below (T12.setTop (mkF m 74 #[.val (.long m0), .second, .val (.long k0), .second, .val (.long d0), .second, .val (.int p0), .val (.long (2305843009213693951 : Int64)), .second, .val (.long w1), .second, .val (.long w4), .second, .val (.long w10), .second, .val (.int w13), .unset, .unset, .unset, .unset, .unset, .unset, .unset] [(.int (1 : Int32)), (.long d0)])) _
          refine XS.lushr X12.here hx rfl (hb hby at_74) rfl ?_
          show Steps p.tables e below (T12.setTop (mkF m 75 #[.val (.long m0), .second, .val (.long k0), .second, .val (.long d0), .second, .val (.int p0), .val (.long (2305843009213693951 : Int64)), .second, .val (.long w1), .second, .val (.long w4), .second, .val (.long w10), .second, .val (.int w13), .unset, .unset, .unset, .unset, .unset, .unset, .unset] [(.long ((d0.toUInt64 >>> ((1 : Int32) &&& 0x3f).toInt64.toUInt64).toInt64))])) _
          refine XS.lload X12.here hx rfl (hb hby at_75) rfl ?_
          show Steps p.tables e below (T12.setTop (mkF m 77 #[.val (.long m0), .second, .val (.long k0), .second, .val (.long d0), .second, .val (.int p0), .val (.long (2305843009213693951 : Int64)), .second, .val (.long w1), .second, .val (.long w4), .second, .val (.long w10), .second, .val (.int w13), .unset, .unset, .unset, .unset, .unset, .unset, .unset] [(.long (2305843009213693951 : Int64)), (.long ((d0.toUInt64 >>> ((1 : Int32) &&& 0x3f).toInt64.toUInt64).toInt64))])) _
          refine XS.land X12.here hx rfl (hb hby at_77) rfl ?_
          show Steps p.tables e below (T12.setTop (mkF m 78 #[.val (.long m0), .second, .val (.long k0), .second, .val (.long d0), .second, .val (.int p0), .val (.long (2305843009213693951 : Int64)), .second, .val (.long w1), .second, .val (.long w4), .second, .val (.long w10), .second, .val (.int w13), .unset, .unset, .unset, .unset, .unset, .unset, .unset] [(.long (((d0.toUInt64 >>> ((1 : Int32) &&& 0x3f).toInt64.toUInt64).toInt64) &&& (2305843009213693951 : Int64)))])) _
          refine XS.lstore X12.here hx rfl (x := w18) (rest := []) (hb hby at_78) (by subst hw18; rfl) (l' := #[.val (.long m0), .second, .val (.long k0), .second, .val (.long d0), .second, .val (.int p0), .val (.long (2305843009213693951 : Int64)), .second, .val (.long w1), .second, .val (.long w4), .second, .val (.long w10), .second, .val (.int w13), .val (.long w18), .second, .unset, .unset, .unset, .unset, .unset]) rfl ?_
          show Steps p.tables e below (T12.setTop (mkF m 80 #[.val (.long m0), .second, .val (.long k0), .second, .val (.long d0), .second, .val (.int p0), .val (.long (2305843009213693951 : Int64)), .second, .val (.long w1), .second, .val (.long w4), .second, .val (.long w10), .second, .val (.int w13), .val (.long w18), .second, .unset, .unset, .unset, .unset, .unset] [])) _
          refine XS.goto X12.here hx rfl (pc0 := 80) (pc' := 97) rfl (hb hby at_80) (by decide) (by decide) ?_
          exact k)
      refine ⟨_, _, _, X12, e12, N12, ?_, pre19⟩
      · subst hw18; exact ((if_pos hc17)).symm
    · -- hc17: False
      obtain ⟨w20, hw20⟩ : ∃ z : Int64, z = (((w13.toInt64) - (1 : Int64)) + (((d0.toUInt64 >>> ((1 : Int32) &&& 0x3f).toInt64.toUInt64).toInt64) &&& (1 : Int64))) := ⟨_, rfl⟩
      have pre21 : Go p.tables e below (s₁.setTop (entryFrame m #[(.long m0), (.long k0), (.long d0), (.int p0)] maxLocals)) T12 (mkF m 97 #[.val (.long m0), .second, .val (.long k0), .second, .val (.long d0), .second, .val (.int p0), .val (.long (2305843009213693951 : Int64)), .second, .val (.long w1), .second, .val (.long w4), .second, .val (.long w10), .second, .val (.int w13), .val (.long w20), .second, .unset, .unset, .unset, .unset, .unset] []) := fun t k => pre14 t (by
          refine XS.ifYes X12.here hx rfl (pc0 := 68) (pc' := 83) rfl (hb hby at_68) rfl ((if0 _ _).trans (feq (mt (lw_eq _ _).mp hc17)).2) (by decide) (by decide) ?_
          show Steps p.tables e below (T12.setTop (mkF m 83 #[.val (.long m0), .second, .val (.long k0), .second, .val (.long d0), .second, .val (.int p0), .val (.long (2305843009213693951 : Int64)), .second, .val (.long w1), .second, .val (.long w4), .second, .val (.long w10), .second, .val (.int w13), .unset, .unset, .unset, .unset, .unset, .unset, .unset] [])) _
          refine XS.iload X12.here hx rfl (hb hby at_83) rfl ?_
          show Steps p.tables e below (T12.setTop (mkF m 85 #[.val (.long m0), .second, .val (.long k0), .second, .val (.long d0), .second, .val (.int p0), .val (.long (2305843009213693951 : Int64)), .second, .val (.long w1), .second, .val (.long w4), .second, .val (.long w10), .second, .val (.int w13), .unset, .unset, .unset, .unset, .unset, .unset, .unset] [(.int w13)])) _
          refine XS.i2l X12.here hx rfl (hb hby at_85) rfl ?_
          show Steps p.tables e below (T12.setTop (mkF m 86 #[.val (.long m0), .second, .val (.long k0), .second, .val (.long d0), .second, .val (.int p0), .val (.long (2305843009213693951 : Int64)), .second, .val (.long w1), .second, .val (.long w4), .second, .val (.long w10), .second, .val (.int w13), .unset, .unset, .unset, .unset, .unset, .unset, .unset] [(.long (w13.toInt64))])) _
          refine XS.lconst X12.here hx rfl (hb hby at_86) ?_
          show Steps p.tables e below (T12.setTop (mkF m 87 #[.val (.long m0), .second, .val (.long k0), .second, .val (.long d0), .second, .val (.int p0), .val (.long (2305843009213693951 : Int64)), .second, .val (.long w1), .second, .val (.long w4), .second, .val (.long w10), .second, .val (.int w13), .unset, .unset, .unset, .unset, .unset, .unset, .unset] [(.long (1 : Int64)), (.long (w13.toInt64))])) _
          refine XS.lsub X12.here hx rfl (hb hby at_87) rfl ?_
          show Steps p.tables e below (T12.setTop (mkF m 88 #[.val (.long m0), .second, .val (.long k0), .second, .val (.long d0), .second, .val (.int p0), .val (.long (2305843009213693951 : Int64)), .second, .val (.long w1), .second, .val (.long w4), .second, .val (.long w10), .second, .val (.int w13), .unset, .unset, .unset, .unset, .unset, .unset, .unset] [(.long ((w13.toInt64) - (1 : Int64)))])) _
          refine XS.lload X12.here hx rfl (hb hby at_88) rfl ?_
          show Steps p.tables e below (T12.setTop (mkF m 90 #[.val (.long m0), .second, .val (.long k0), .second, .val (.long d0), .second, .val (.int p0), .val (.long (2305843009213693951 : Int64)), .second, .val (.long w1), .second, .val (.long w4), .second, .val (.long w10), .second, .val (.int w13), .unset, .unset, .unset, .unset, .unset, .unset, .unset] [(.long d0), (.long ((w13.toInt64) - (1 : Int64)))])) _
          refine XS.iconst X12.here hx rfl (hb hby at_90) ?_
          show Steps p.tables e below (T12.setTop (mkF m 91 #[.val (.long m0), .second, .val (.long k0), .second, .val (.long d0), .second, .val (.int p0), .val (.long (2305843009213693951 : Int64)), .second, .val (.long w1), .second, .val (.long w4), .second, .val (.long w10), .second, .val (.int w13), .unset, .unset, .unset, .unset, .unset, .unset, .unset] [(.int (1 : Int32)), (.long d0), (.long ((w13.toInt64) - (1 : Int64)))])) _
          refine XS.lushr X12.here hx rfl (hb hby at_91) rfl ?_
          show Steps p.tables e below (T12.setTop (mkF m 92 #[.val (.long m0), .second, .val (.long k0), .second, .val (.long d0), .second, .val (.int p0), .val (.long (2305843009213693951 : Int64)), .second, .val (.long w1), .second, .val (.long w4), .second, .val (.long w10), .second, .val (.int w13), .unset, .unset, .unset, .unset, .unset, .unset, .unset] [(.long ((d0.toUInt64 >>> ((1 : Int32) &&& 0x3f).toInt64.toUInt64).toInt64)), (.long ((w13.toInt64) - (1 : Int64)))])) _
          refine XS.lconst X12.here hx rfl (hb hby at_92) ?_
          show Steps p.tables e below (T12.setTop (mkF m 93 #[.val (.long m0), .second, .val (.long k0), .second, .val (.long d0), .second, .val (.int p0), .val (.long (2305843009213693951 : Int64)), .second, .val (.long w1), .second, .val (.long w4), .second, .val (.long w10), .second, .val (.int w13), .unset, .unset, .unset, .unset, .unset, .unset, .unset] [(.long (1 : Int64)), (.long ((d0.toUInt64 >>> ((1 : Int32) &&& 0x3f).toInt64.toUInt64).toInt64)), (.long ((w13.toInt64) - (1 : Int64)))])) _
          refine XS.land X12.here hx rfl (hb hby at_93) rfl ?_
          show Steps p.tables e below (T12.setTop (mkF m 94 #[.val (.long m0), .second, .val (.long k0), .second, .val (.long d0), .second, .val (.int p0), .val (.long (2305843009213693951 : Int64)), .second, .val (.long w1), .second, .val (.long w4), .second, .val (.long w10), .second, .val (.int w13), .unset, .unset, .unset, .unset, .unset, .unset, .unset] [(.long (((d0.toUInt64 >>> ((1 : Int32) &&& 0x3f).toInt64.toUInt64).toInt64) &&& (1 : Int64))), (.long ((w13.toInt64) - (1 : Int64)))])) _
          refine XS.ladd X12.here hx rfl (hb hby at_94) rfl ?_
          show Steps p.tables e below (T12.setTop (mkF m 95 #[.val (.long m0), .second, .val (.long k0), .second, .val (.long d0), .second, .val (.int p0), .val (.long (2305843009213693951 : Int64)), .second, .val (.long w1), .second, .val (.long w4), .second, .val (.long w10), .second, .val (.int w13), .unset, .unset, .unset, .unset, .unset, .unset, .unset] [(.long (((w13.toInt64) - (1 : Int64)) + (((d0.toUInt64 >>> ((1 : Int32) &&& 0x3f).toInt64.toUInt64).toInt64) &&& (1 : Int64))))])) _
          refine XS.lstore X12.here hx rfl (x := w20) (rest := []) (hb hby at_95) (by subst hw20; rfl) (l' := #[.val (.long m0), .second, .val (.long k0), .second, .val (.long d0), .second, .val (.int p0), .val (.long (2305843009213693951 : Int64)), .second, .val (.long w1), .second, .val (.long w4), .second, .val (.long w10), .second, .val (.int w13), .val (.long w20), .second, .unset, .unset, .unset, .unset, .unset]) rfl ?_
          exact k)
      refine ⟨_, _, _, X12, e12, N12, ?_, pre21⟩
      · subst hw20; exact ((if_neg hc17)).symm
  obtain ⟨w22, hw22⟩ : ∃ z : Int64, z = (w10 + w16) := ⟨_, rfl⟩
  have pre23 : Go p.tables e below (s₁.setTop (entryFrame m #[(.long m0), (.long k0), (.long d0), (.int p0)] maxLocals)) T15 (mkF m 108 #[.val (.long m0), .second, .val (.long k0), .second, .val (.long d0), .second, .val (.int p0), .val (.long (2305843009213693951 : Int64)), .second, .val (.long w1), .second, .val (.long w4), .second, .val (.long w10), .second, .val (.int w13), .val (.long w16), .second, .val (.long w22), .second, .unset, .unset, .unset] [(.int (lcmpW w4 (1 : Int64)))]) := fun t k => pre15 t (by
      refine XS.lload X15.here hx rfl (hb hby at_97) rfl ?_
      show Steps p.tables e below (T15.setTop (mkF m 99 #[.val (.long m0), .second, .val (.long k0), .second, .val (.long d0), .second, .val (.int p0), .val (.long (2305843009213693951 : Int64)), .second, .val (.long w1), .second, .val (.long w4), .second, .val (.long w10), .second, .val (.int w13), .val (.long w16), .second, .unset, .unset, .unset, .unset, .unset] [(.long w10)])) _
      refine XS.lload X15.here hx rfl (hb hby at_99) rfl ?_
      show Steps p.tables e below (T15.setTop (mkF m 101 #[.val (.long m0), .second, .val (.long k0), .second, .val (.long d0), .second, .val (.int p0), .val (.long (2305843009213693951 : Int64)), .second, .val (.long w1), .second, .val (.long w4), .second, .val (.long w10), .second, .val (.int w13), .val (.long w16), .second, .unset, .unset, .unset, .unset, .unset] [(.long w16), (.long w10)])) _
      refine XS.ladd X15.here hx rfl (hb hby at_101) rfl ?_
      show Steps p.tables e below (T15.setTop (mkF m 102 #[.val (.long m0), .second, .val (.long k0), .second, .val (.long d0), .second, .val (.int p0), .val (.long (2305843009213693951 : Int64)), .second, .val (.long w1), .second, .val (.long w4), .second, .val (.long w10), .second, .val (.int w13), .val (.long w16), .second, .unset, .unset, .unset, .unset, .unset] [(.long (w10 + w16))])) _
      refine XS.lstore X15.here hx rfl (x := w22) (rest := []) (hb hby at_102) (by subst hw22; rfl) (l' := #[.val (.long m0), .second, .val (.long k0), .second, .val (.long d0), .second, .val (.int p0), .val (.long (2305843009213693951 : Int64)), .second, .val (.long w1), .second, .val (.long w4), .second, .val (.long w10), .second, .val (.int w13), .val (.long w16), .second, .val (.long w22), .second, .unset, .unset, .unset]) rfl ?_
      show Steps p.tables e below (T15.setTop (mkF m 104 #[.val (.long m0), .second, .val (.long k0), .second, .val (.long d0), .second, .val (.int p0), .val (.long (2305843009213693951 : Int64)), .second, .val (.long w1), .second, .val (.long w4), .second, .val (.long w10), .second, .val (.int w13), .val (.long w16), .second, .val (.long w22), .second, .unset, .unset, .unset] [])) _
      refine XS.lload X15.here hx rfl (hb hby at_104) rfl ?_
      show Steps p.tables e below (T15.setTop (mkF m 106 #[.val (.long m0), .second, .val (.long k0), .second, .val (.long d0), .second, .val (.int p0), .val (.long (2305843009213693951 : Int64)), .second, .val (.long w1), .second, .val (.long w4), .second, .val (.long w10), .second, .val (.int w13), .val (.long w16), .second, .val (.long w22), .second, .unset, .unset, .unset] [(.long w4)])) _
      refine XS.lconst X15.here hx rfl (hb hby at_106) ?_
      show Steps p.tables e below (T15.setTop (mkF m 107 #[.val (.long m0), .second, .val (.long k0), .second, .val (.long d0), .second, .val (.int p0), .val (.long (2305843009213693951 : Int64)), .second, .val (.long w1), .second, .val (.long w4), .second, .val (.long w10), .second, .val (.int w13), .val (.long w16), .second, .val (.long w22), .second, .unset, .unset, .unset] [(.long (1 : Int64)), (.long w4)])) _
      refine XS.lcmp X15.here hx rfl (hb hby at_107) rfl ?_
      exact k)
  obtain ⟨T24, L24, w25, X24, e24, N24, hw25, pre24⟩ : ∃ (T24 : State) (L24 : List Loc) (w25 : Int32), Stand p l e room_1 s m #[(.long m0), (.long k0), (.long d0), (.int p0)] below meth c T24 L24 0 0 ∧ T24.heap = h0 ∧ Fr n0 L24 ∧ w25 = (if w4 = (1 : Int64) then (1 : Int32) else (0 : Int32)) ∧ Go p.tables e below (s₁.setTop (entryFrame m #[(.long m0), (.long k0), (.long d0), (.int p0)] maxLocals)) T24 (mkF m 116 #[.val (.long m0), .second, .val (.long k0), .second, .val (.long d0), .second, .val (.int p0), .val (.long (2305843009213693951 : Int64)), .second, .val (.long w1), .second, .val (.long w4), .second, .val (.long w10), .second, .val (.int w13), .val (.long w16), .second, .val (.long w22), .second, .unset, .unset, .unset] [(.int w25)]) := by
    by_cases hc26 : w4 = (1 : Int64)
    · -- hc26: True
      have pre27 : Go p.tables e below (s₁.setTop (entryFrame m #[(.long m0), (.long k0), (.long d0), (.int p0)] maxLocals)) T15 (mkF m 116 #[.val (.long m0), .second, .val (.long k0), .second, .val (.long d0), .second, .val (.int p0), .val (.long (2305843009213693951 : Int64)), .second, .val (.long w1), .second, .val (.long w4), .second, .val (.long w10), .second, .val (.int w13), .val (.long w16), .second, .val (.long w22), .second, .unset, .unset, .unset] [(.int (1 : Int32))]) := fun t k => pre23 t (by
          refine XS.ifNo X15.here hx rfl (hb hby at_108) rfl ((if0 _ _).trans (teq ((lw_eq _ _).mpr hc26)).2) ?_
          show Steps p.tables e below (T15.setTop (mkF m 111 #[.val (.long m0), .second, .val (.long k0), .second, .val (.long d0), .second, .val (.int p0), .val (.long (2305843009213693951 : Int64)), .second, .val (.long w1), .second, .val (.long w4), .second, .val (.long w10), .second, .val (.int w13), .val (.long w16), .second, .val (.long w22), .second, .unset, .unset, .unset] [])) _
          refine XS.iconst X15.here hx rfl (hb hby at_111) ?_
          show Steps p.tables e below (T15.setTop (mkF m 112 #[.val (.long m0), .second, .val (.long k0), .second, .val (.long d0), .second, .val (.int p0), .val (.long (2305843009213693951 : Int64)), .second, .val (.long w1), .second, .val (.long w4), .second, .val (.long w10), .second, .val (.int w13), .val (.long w16), .second, .val (.long w22), .second, .unset, .unset, .unset] [(.int (1 : Int32))])) _
          refine XS.goto X15.here hx rfl (pc0 := 112) (pc' := 116) rfl (hb hby at_112) (by decide) (by decide) ?_
          exact k)
      refine ⟨_, _, _, X15, e15, N15, ?_, pre27⟩
      · exact ((if_pos hc26)).symm
    · -- hc26: False
      have pre28 : Go p.tables e below (s₁.setTop (entryFrame m #[(.long m0), (.long k0), (.long d0), (.int p0)] maxLocals)) T15 (mkF m 116 #[.val (.long m0), .second, .val (.long k0), .second, .val (.long d0), .second, .val (.int p0), .val (.long (2305843009213693951 : Int64)), .second, .val (.long w1), .second, .val (.long w4), .second, .val (.long w10), .second, .val (.int w13), .val (.long w16), .second, .val (.long w22), .second, .unset, .unset, .unset] [(.int (0 : Int32))]) := fun t k => pre23 t (by
          refine XS.ifYes X15.here hx rfl (pc0 := 108) (pc' := 115) rfl (hb hby at_108) rfl ((if0 _ _).trans (feq (mt (lw_eq _ _).mp hc26)).2) (by decide) (by decide) ?_
          show Steps p.tables e below (T15.setTop (mkF m 115 #[.val (.long m0), .second, .val (.long k0), .second, .val (.long d0), .second, .val (.int p0), .val (.long (2305843009213693951 : Int64)), .second, .val (.long w1), .second, .val (.long w4), .second, .val (.long w10), .second, .val (.int w13), .val (.long w16), .second, .val (.long w22), .second, .unset, .unset, .unset] [])) _
          refine XS.iconst X15.here hx rfl (hb hby at_115) ?_
          exact k)
      refine ⟨_, _, _, X15, e15, N15, ?_, pre28⟩
      · exact ((if_neg hc26)).symm
  have pre29 : Go p.tables e below (s₁.setTop (entryFrame m #[(.long m0), (.long k0), (.long d0), (.int p0)] maxLocals)) T24 (mkF m 124 #[.val (.long m0), .second, .val (.long k0), .second, .val (.long d0), .second, .val (.int p0), .val (.long (2305843009213693951 : Int64)), .second, .val (.long w1), .second, .val (.long w4), .second, .val (.long w10), .second, .val (.int w13), .val (.long w16), .second, .val (.long w22), .second, .val (.int w25), .unset, .unset] [(.int (lcmpW w16 (w13.toInt64)))]) := fun t k => pre24 t (by
      refine XS.istore X24.here hx rfl (hb hby at_116) rfl (l' := #[.val (.long m0), .second, .val (.long k0), .second, .val (.long d0), .second, .val (.int p0), .val (.long (2305843009213693951 : Int64)), .second, .val (.long w1), .second, .val (.long w4), .second, .val (.long w10), .second, .val (.int w13), .val (.long w16), .second, .val (.long w22), .second, .val (.int w25), .unset, .unset]) rfl ?_
      show Steps p.tables e below (T24.setTop (mkF m 118 #[.val (.long m0), .second, .val (.long k0), .second, .val (.long d0), .second, .val (.int p0), .val (.long (2305843009213693951 : Int64)), .second, .val (.long w1), .second, .val (.long w4), .second, .val (.long w10), .second, .val (.int w13), .val (.long w16), .second, .val (.long w22), .second, .val (.int w25), .unset, .unset] [])) _
      refine XS.lload X24.here hx rfl (hb hby at_118) rfl ?_
      show Steps p.tables e below (T24.setTop (mkF m 120 #[.val (.long m0), .second, .val (.long k0), .second, .val (.long d0), .second, .val (.int p0), .val (.long (2305843009213693951 : Int64)), .second, .val (.long w1), .second, .val (.long w4), .second, .val (.long w10), .second, .val (.int w13), .val (.long w16), .second, .val (.long w22), .second, .val (.int w25), .unset, .unset] [(.long w16)])) _
      refine XS.iload X24.here hx rfl (hb hby at_120) rfl ?_
      show Steps p.tables e below (T24.setTop (mkF m 122 #[.val (.long m0), .second, .val (.long k0), .second, .val (.long d0), .second, .val (.int p0), .val (.long (2305843009213693951 : Int64)), .second, .val (.long w1), .second, .val (.long w4), .second, .val (.long w10), .second, .val (.int w13), .val (.long w16), .second, .val (.long w22), .second, .val (.int w25), .unset, .unset] [(.int w13), (.long w16)])) _
      refine XS.i2l X24.here hx rfl (hb hby at_122) rfl ?_
      show Steps p.tables e below (T24.setTop (mkF m 123 #[.val (.long m0), .second, .val (.long k0), .second, .val (.long d0), .second, .val (.int p0), .val (.long (2305843009213693951 : Int64)), .second, .val (.long w1), .second, .val (.long w4), .second, .val (.long w10), .second, .val (.int w13), .val (.long w16), .second, .val (.long w22), .second, .val (.int w25), .unset, .unset] [(.long (w13.toInt64)), (.long w16)])) _
      refine XS.lcmp X24.here hx rfl (hb hby at_123) rfl ?_
      exact k)
  obtain ⟨T30, L30, w31, X30, e30, N30, hw31, pre30⟩ : ∃ (T30 : State) (L30 : List Loc) (w31 : Int32), Stand p l e room_1 s m #[(.long m0), (.long k0), (.long d0), (.int p0)] below meth c T30 L30 0 0 ∧ T30.heap = h0 ∧ Fr n0 L30 ∧ w31 = (if w16 < (w13.toInt64) then (1 : Int32) else (0 : Int32)) ∧ Go p.tables e below (s₁.setTop (entryFrame m #[(.long m0), (.long k0), (.long d0), (.int p0)] maxLocals)) T30 (mkF m 132 #[.val (.long m0), .second, .val (.long k0), .second, .val (.long d0), .second, .val (.int p0), .val (.long (2305843009213693951 : Int64)), .second, .val (.long w1), .second, .val (.long w4), .second, .val (.long w10), .second, .val (.int w13), .val (.long w16), .second, .val (.long w22), .second, .val (.int w25), .unset, .unset] [(.int w31)]) := by
    by_cases hc32 : w16 < (w13.toInt64)
    · -- hc32: True
      have pre33 : Go p.tables e below (s₁.setTop (entryFrame m #[(.long m0), (.long k0), (.long d0), (.int p0)] maxLocals)) T24 (mkF m 132 #[.val (.long m0), .second, .val (.long k0), .second, .val (.long d0), .second, .val (.int p0), .val (.long (2305843009213693951 : Int64)), .second, .val (.long w1), .second, .val (.long w4), .second, .val (.long w10), .second, .val (.int w13), .val (.long w16), .second, .val (.long w22), .second, .val (.int w25), .unset, .unset] [(.int (1 : Int32))]) := fun t k => pre29 t (by
          refine XS.ifNo X24.here hx rfl (hb hby at_124) rfl ((if0 _ _).trans (tlt ((lw_lt _ _).mpr hc32)).2.1) ?_
          show Steps p.tables e below (T24.setTop (mkF m 127 #[.val (.long m0), .second, .val (.long k0), .second, .val (.long d0), .second, .val (.int p0), .val (.long (2305843009213693951 : Int64)), .second, .val (.long w1), .second, .val (.long w4), .second, .val (.long w10), .second, .val (.int w13), .val (.long w16), .second, .val (.long w22), .second, .val (.int w25), .unset, .unset] [])) _
          refine XS.iconst X24.here hx rfl (hb hby at_127) ?_
          show Steps p.tables e below (T24.setTop (mkF m 128 #[.val (.long m0), .second, .val (.long k0), .second, .val (.long d0), .second, .val (.int p0), .val (.long (2305843009213693951 : Int64)), .second, .val (.long w1), .second, .val (.long w4), .second, .val (.long w10), .second, .val (.int w13), .val (.long w16), .second, .val (.long w22), .second, .val (.int w25), .unset, .unset] [(.int (1 : Int32))])) _
          refine XS.goto X24.here hx rfl (pc0 := 128) (pc' := 132) rfl (hb hby at_128) (by decide) (by decide) ?_
          exact k)
      refine ⟨_, _, _, X24, e24, N24, ?_, pre33⟩
      · exact ((if_pos hc32)).symm
    · -- hc32: False
      have pre34 : Go p.tables e below (s₁.setTop (entryFrame m #[(.long m0), (.long k0), (.long d0), (.int p0)] maxLocals)) T24 (mkF m 132 #[.val (.long m0), .second, .val (.long k0), .second, .val (.long d0), .second, .val (.int p0), .val (.long (2305843009213693951 : Int64)), .second, .val (.long w1), .second, .val (.long w4), .second, .val (.long w10), .second, .val (.int w13), .val (.long w16), .second, .val (.long w22), .second, .val (.int w25), .unset, .unset] [(.int (0 : Int32))]) := fun t k => pre29 t (by
          refine XS.ifYes X24.here hx rfl (pc0 := 124) (pc' := 131) rfl (hb hby at_124) rfl ((if0 _ _).trans (flt (mt (lw_lt _ _).mp hc32)).2.1) (by decide) (by decide) ?_
          show Steps p.tables e below (T24.setTop (mkF m 131 #[.val (.long m0), .second, .val (.long k0), .second, .val (.long d0), .second, .val (.int p0), .val (.long (2305843009213693951 : Int64)), .second, .val (.long w1), .second, .val (.long w4), .second, .val (.long w10), .second, .val (.int w13), .val (.long w16), .second, .val (.long w22), .second, .val (.int w25), .unset, .unset] [])) _
          refine XS.iconst X24.here hx rfl (hb hby at_131) ?_
          exact k)
      refine ⟨_, _, _, X24, e24, N24, ?_, pre34⟩
      · exact ((if_neg hc32)).symm
  have pre35 : Go p.tables e below (s₁.setTop (entryFrame m #[(.long m0), (.long k0), (.long d0), (.int p0)] maxLocals)) T30 (mkF m 136 #[.val (.long m0), .second, .val (.long k0), .second, .val (.long d0), .second, .val (.int p0), .val (.long (2305843009213693951 : Int64)), .second, .val (.long w1), .second, .val (.long w4), .second, .val (.long w10), .second, .val (.int w13), .val (.long w16), .second, .val (.long w22), .second, .val (.int w25), .val (.int w31), .unset] [(.int w25)]) := fun t k => pre30 t (by
      refine XS.istore X30.here hx rfl (hb hby at_132) rfl (l' := #[.val (.long m0), .second, .val (.long k0), .second, .val (.long d0), .second, .val (.int p0), .val (.long (2305843009213693951 : Int64)), .second, .val (.long w1), .second, .val (.long w4), .second, .val (.long w10), .second, .val (.int w13), .val (.long w16), .second, .val (.long w22), .second, .val (.int w25), .val (.int w31), .unset]) rfl ?_
      show Steps p.tables e below (T30.setTop (mkF m 134 #[.val (.long m0), .second, .val (.long k0), .second, .val (.long d0), .second, .val (.int p0), .val (.long (2305843009213693951 : Int64)), .second, .val (.long w1), .second, .val (.long w4), .second, .val (.long w10), .second, .val (.int w13), .val (.long w16), .second, .val (.long w22), .second, .val (.int w25), .val (.int w31), .unset] [])) _
      refine XS.iload X30.here hx rfl (hb hby at_134) rfl ?_
      exact k)
  obtain ⟨T36, L36, w37, X36, e36, N36, hw37, pre36⟩ : ∃ (T36 : State) (L36 : List Loc) (w37 : Int32), Stand p l e room_1 s m #[(.long m0), (.long k0), (.long d0), (.int p0)] below meth c T36 L36 0 0 ∧ T36.heap = h0 ∧ Fr n0 L36 ∧ w37 = (if w25 = (0 : Int32) then (0 : Int32) else (if w31 = (0 : Int32) then (0 : Int32) else (1 : Int32))) ∧ Go p.tables e below (s₁.setTop (entryFrame m #[(.long m0), (.long k0), (.long d0), (.int p0)] maxLocals)) T36 (mkF m 149 #[.val (.long m0), .second, .val (.long k0), .second, .val (.long d0), .second, .val (.int p0), .val (.long (2305843009213693951 : Int64)), .second, .val (.long w1), .second, .val (.long w4), .second, .val (.long w10), .second, .val (.int w13), .val (.long w16), .second, .val (.long w22), .second, .val (.int w25), .val (.int w31), .unset] [(.int w37)]) := by
    by_cases hc38 : w25 = (0 : Int32)
    · -- hc38: True
      have pre39 : Go p.tables e below (s₁.setTop (entryFrame m #[(.long m0), (.long k0), (.long d0), (.int p0)] maxLocals)) T30 (mkF m 149 #[.val (.long m0), .second, .val (.long k0), .second, .val (.long d0), .second, .val (.int p0), .val (.long (2305843009213693951 : Int64)), .second, .val (.long w1), .second, .val (.long w4), .second, .val (.long w10), .second, .val (.int w13), .val (.long w16), .second, .val (.long w22), .second, .val (.int w25), .val (.int w31), .unset] [(.int (0 : Int32))]) := fun t k => pre35 t (by
          refine XS.ifYes X30.here hx rfl (pc0 := 136) (pc' := 148) rfl (hb hby at_136) rfl ((if0 _ _).trans (teq hc38).1) (by decide) (by decide) ?_
          show Steps p.tables e below (T30.setTop (mkF m 148 #[.val (.long m0), .second, .val (.long k0), .second, .val (.long d0), .second, .val (.int p0), .val (.long (2305843009213693951 : Int64)), .second, .val (.long w1), .second, .val (.long w4), .second, .val (.long w10), .second, .val (.int w13), .val (.long w16), .second, .val (.long w22), .second, .val (.int w25), .val (.int w31), .unset] [])) _
          refine XS.iconst X30.here hx rfl (hb hby at_148) ?_
          exact k)
      refine ⟨_, _, _, X30, e30, N30, ?_, pre39⟩
      · exact ((if_pos hc38)).symm
    · -- hc38: False
      have pre40 : Go p.tables e below (s₁.setTop (entryFrame m #[(.long m0), (.long k0), (.long d0), (.int p0)] maxLocals)) T30 (mkF m 141 #[.val (.long m0), .second, .val (.long k0), .second, .val (.long d0), .second, .val (.int p0), .val (.long (2305843009213693951 : Int64)), .second, .val (.long w1), .second, .val (.long w4), .second, .val (.long w10), .second, .val (.int w13), .val (.long w16), .second, .val (.long w22), .second, .val (.int w25), .val (.int w31), .unset] [(.int w31)]) := fun t k => pre35 t (by
          refine XS.ifNo X30.here hx rfl (hb hby at_136) rfl ((if0 _ _).trans (feq hc38).1) ?_
          show Steps p.tables e below (T30.setTop (mkF m 139 #[.val (.long m0), .second, .val (.long k0), .second, .val (.long d0), .second, .val (.int p0), .val (.long (2305843009213693951 : Int64)), .second, .val (.long w1), .second, .val (.long w4), .second, .val (.long w10), .second, .val (.int w13), .val (.long w16), .second, .val (.long w22), .second, .val (.int w25), .val (.int w31), .unset] [])) _
          refine XS.iload X30.here hx rfl (hb hby at_139) rfl ?_
          exact k)
      by_cases hc41 : w31 = (0 : Int32)
      · -- hc41: True
        have pre42 : Go p.tables e below (s₁.setTop (entryFrame m #[(.long m0), (.long k0), (.long d0), (.int p0)] maxLocals)) T30 (mkF m 149 #[.val (.long m0), .second, .val (.long k0), .second, .val (.long d0), .second, .val (.int p0), .val (.long (2305843009213693951 : Int64)), .second, .val (.long w1), .second, .val (.long w4), .second, .val (.long w10), .second, .val (.int w13), .val (.long w16), .second, .val (.long w22), .second, .val (.int w25), .val (.int w31), .unset] [(.int (0 : Int32))]) := fun t k => pre40 t (by
            refine XS.ifYes X30.here hx rfl (pc0 := 141) (pc' := 148) rfl (hb hby at_141) rfl ((if0 _ _).trans (teq hc41).1) (by decide) (by decide) ?_
            show Steps p.tables e below (T30.setTop (mkF m 148 #[.val (.long m0), .second, .val (.long k0), .second, .val (.long d0), .second, .val (.int p0), .val (.long (2305843009213693951 : Int64)), .second, .val (.long w1), .second, .val (.long w4), .second, .val (.long w10), .second, .val (.int w13), .val (.long w16), .second, .val (.long w22), .second, .val (.int w25), .val (.int w31), .unset] [])) _
            refine XS.iconst X30.here hx rfl (hb hby at_148) ?_
            exact k)
        refine ⟨_, _, _, X30, e30, N30, ?_, pre42⟩
        · exact ((if_neg hc38).trans (if_pos hc41)).symm
      · -- hc41: False
        have pre43 : Go p.tables e below (s₁.setTop (entryFrame m #[(.long m0), (.long k0), (.long d0), (.int p0)] maxLocals)) T30 (mkF m 149 #[.val (.long m0), .second, .val (.long k0), .second, .val (.long d0), .second, .val (.int p0), .val (.long (2305843009213693951 : Int64)), .second, .val (.long w1), .second, .val (.long w4), .second, .val (.long w10), .second, .val (.int w13), .val (.long w16), .second, .val (.long w22), .second, .val (.int w25), .val (.int w31), .unset] [(.int (1 : Int32))]) := fun t k => pre40 t (by
            refine XS.ifNo X30.here hx rfl (hb hby at_141) rfl ((if0 _ _).trans (feq hc41).1) ?_
            show Steps p.tables e below (T30.setTop (mkF m 144 #[.val (.long m0), .second, .val (.long k0), .second, .val (.long d0), .second, .val (.int p0), .val (.long (2305843009213693951 : Int64)), .second, .val (.long w1), .second, .val (.long w4), .second, .val (.long w10), .second, .val (.int w13), .val (.long w16), .second, .val (.long w22), .second, .val (.int w25), .val (.int w31), .unset] [])) _
            refine XS.iconst X30.here hx rfl (hb hby at_144) ?_
            show Steps p.tables e below (T30.setTop (mkF m 145 #[.val (.long m0), .second, .val (.long k0), .second, .val (.long d0), .second, .val (.int p0), .val (.long (2305843009213693951 : Int64)), .second, .val (.long w1), .second, .val (.long w4), .second, .val (.long w10), .second, .val (.int w13), .val (.long w16), .second, .val (.long w22), .second, .val (.int w25), .val (.int w31), .unset] [(.int (1 : Int32))])) _
            refine XS.goto X30.here hx rfl (pc0 := 145) (pc' := 149) rfl (hb hby at_145) (by decide) (by decide) ?_
            exact k)
        refine ⟨_, _, _, X30, e30, N30, ?_, pre43⟩
        · exact ((if_neg hc38).trans (if_neg hc41)).symm
  have pre44 : Go p.tables e below (s₁.setTop (entryFrame m #[(.long m0), (.long k0), (.long d0), (.int p0)] maxLocals)) T36 (mkF m 159 #[.val (.long m0), .second, .val (.long k0), .second, .val (.long d0), .second, .val (.int p0), .val (.long (2305843009213693951 : Int64)), .second, .val (.long w1), .second, .val (.long w4), .second, .val (.long w10), .second, .val (.int w13), .val (.long w16), .second, .val (.long w22), .second, .val (.int w25), .val (.int w31), .val (.int w37)] [(.int w13), (.long w1), (.long w22), (.long w10)]) := fun t k => pre36 t (by
      refine XS.istore X36.here hx rfl (hb hby at_149) rfl (l' := #[.val (.long m0), .second, .val (.long k0), .second, .val (.long d0), .second, .val (.int p0), .val (.long (2305843009213693951 : Int64)), .second, .val (.long w1), .second, .val (.long w4), .second, .val (.long w10), .second, .val (.int w13), .val (.long w16), .second, .val (.long w22), .second, .val (.int w25), .val (.int w31), .val (.int w37)]) rfl ?_
      show Steps p.tables e below (T36.setTop (mkF m 151 #[.val (.long m0), .second, .val (.long k0), .second, .val (.long d0), .second, .val (.int p0), .val (.long (2305843009213693951 : Int64)), .second, .val (.long w1), .second, .val (.long w4), .second, .val (.long w10), .second, .val (.int w13), .val (.long w16), .second, .val (.long w22), .second, .val (.int w25), .val (.int w31), .val (.int w37)] [])) _
      refine XS.lload X36.here hx rfl (hb hby at_151) rfl ?_
      show Steps p.tables e below (T36.setTop (mkF m 153 #[.val (.long m0), .second, .val (.long k0), .second, .val (.long d0), .second, .val (.int p0), .val (.long (2305843009213693951 : Int64)), .second, .val (.long w1), .second, .val (.long w4), .second, .val (.long w10), .second, .val (.int w13), .val (.long w16), .second, .val (.long w22), .second, .val (.int w25), .val (.int w31), .val (.int w37)] [(.long w10)])) _
      refine XS.lload X36.here hx rfl (hb hby at_153) rfl ?_
      show Steps p.tables e below (T36.setTop (mkF m 155 #[.val (.long m0), .second, .val (.long k0), .second, .val (.long d0), .second, .val (.int p0), .val (.long (2305843009213693951 : Int64)), .second, .val (.long w1), .second, .val (.long w4), .second, .val (.long w10), .second, .val (.int w13), .val (.long w16), .second, .val (.long w22), .second, .val (.int w25), .val (.int w31), .val (.int w37)] [(.long w22), (.long w10)])) _
      refine XS.lload X36.here hx rfl (hb hby at_155) rfl ?_
      show Steps p.tables e below (T36.setTop (mkF m 157 #[.val (.long m0), .second, .val (.long k0), .second, .val (.long d0), .second, .val (.int p0), .val (.long (2305843009213693951 : Int64)), .second, .val (.long w1), .second, .val (.long w4), .second, .val (.long w10), .second, .val (.int w13), .val (.long w16), .second, .val (.long w22), .second, .val (.int w25), .val (.int w31), .val (.int w37)] [(.long w1), (.long w22), (.long w10)])) _
      refine XS.iload X36.here hx rfl (hb hby at_157) rfl ?_
      exact k)
  obtain ⟨_, _, ⟨T45, L45, k45, n45⟩, -, X45, ⟨Lc45, hQ45, l45, y45, z45⟩, st45⟩ := Jvm.LawKit.callS X36 hx (y := (⟨"com/example/octopoll/octopoll/Engine", "mayHold", "(JJJI)Z"⟩ : MethodName)) hown (mvT hZ (hw _ (List.mem_of_getElem? (i := 7) rfl))) (mvT hZ (hw _ (List.mem_of_getElem? (i := 8) rfl))) (mvT hZ (hw _ (List.mem_of_getElem? (i := 9) rfl))) (mvT hZ (hw _ (List.mem_of_getElem? (i := 10) rfl))) (by decide) (backOf (W := 0) (rm_mh l Z a0 hw [] w10 w22 w1 w13 h0 n0) hZ (hw _ (List.mem_of_getElem? (i := 10) rfl)) (hw _ (List.mem_of_getElem? (i := 9) rfl)) (by decide) (by decide)) (g := (mkF m 159 #[.val (.long m0), .second, .val (.long k0), .second, .val (.long d0), .second, .val (.int p0), .val (.long (2305843009213693951 : Int64)), .second, .val (.long w1), .second, .val (.long w4), .second, .val (.long w10), .second, .val (.int w13), .val (.long w16), .second, .val (.long w22), .second, .val (.int w25), .val (.int w31), .val (.int w37)] [(.int w13), (.long w1), (.long w22), (.long w10)])) rfl (by rw [hml]; rfl) (argsL := [(.long w10), (.long w22), (.long w1), (.int w13)]) (rest := []) (lenOf pd_1 rfl) rfl (by show 2 * 0 + _ ≤ _; exact Nat.le_of_eq rfl) (hb hby at_159) (fun _ _ => ⟨rfl, e36, (by decide : 0 + 0 ≤ _), (by decide : 0 + 0 ≤ _)⟩)
  dsimp only [Pt.U, Pt.locs, Pt.cells, Pt.slots] at X45 l45 y45 z45 st45 hQ45
  subst l45 y45 z45
  obtain ⟨rfl, N45q, e45⟩ := hQ45
  have N45 := Fr.app N36 N45q
  have pre45 : Go p.tables e below (s₁.setTop (entryFrame m #[(.long m0), (.long k0), (.long d0), (.int p0)] maxLocals)) T45 (mkF m 162 #[.val (.long m0), .second, .val (.long k0), .second, .val (.long d0), .second, .val (.int p0), .val (.long (2305843009213693951 : Int64)), .second, .val (.long w1), .second, .val (.long w4), .second, .val (.long w10), .second, .val (.int w13), .val (.long w16), .second, .val (.long w22), .second, .val (.int w25), .val (.int w31), .val (.int w37)] [(.int (own_mh w10 w22 w1 w13))]) := fun t k => pre44 t (st45 _ k)
  have pre46 : Go p.tables e below (s₁.setTop (entryFrame m #[(.long m0), (.long k0), (.long d0), (.int p0)] maxLocals)) T45 (mkF m 164 #[.val (.long m0), .second, .val (.long k0), .second, .val (.long d0), .second, .val (.int p0), .val (.long (2305843009213693951 : Int64)), .second, .val (.long w1), .second, .val (.long w4), .second, .val (.long w10), .second, .val (.int w13), .val (.long w16), .second, .val (.long w22), .second, .val (.int w25), .val (.int w31), .val (.int w37)] [(.int w37), (.int (own_mh w10 w22 w1 w13))]) := fun t k => pre45 t (by
      refine XS.iload X45.here hx rfl (hb hby at_162) rfl ?_
      exact k)
  by_cases hc47 : (own_mh w10 w22 w1 w13) = w37
  · -- hc47: True
    have pre48 : Go p.tables e below (s₁.setTop (entryFrame m #[(.long m0), (.long k0), (.long d0), (.int p0)] maxLocals)) T45 (mkF m 172 #[.val (.long m0), .second, .val (.long k0), .second, .val (.long d0), .second, .val (.int p0), .val (.long (2305843009213693951 : Int64)), .second, .val (.long w1), .second, .val (.long w4), .second, .val (.long w10), .second, .val (.int w13), .val (.long w16), .second, .val (.long w22), .second, .val (.int w25), .val (.int w31), .val (.int w37)] [(.int (1 : Int32))]) := fun t k => pre46 t (by
        refine XS.icmpNo X45.here hx rfl (hb hby at_164) rfl (teq hc47).2 ?_
        show Steps p.tables e below (T45.setTop (mkF m 167 #[.val (.long m0), .second, .val (.long k0), .second, .val (.long d0), .second, .val (.int p0), .val (.long (2305843009213693951 : Int64)), .second, .val (.long w1), .second, .val (.long w4), .second, .val (.long w10), .second, .val (.int w13), .val (.long w16), .second, .val (.long w22), .second, .val (.int w25), .val (.int w31), .val (.int w37)] [])) _
        refine XS.iconst X45.here hx rfl (hb hby at_167) ?_
        show Steps p.tables e below (T45.setTop (mkF m 168 #[.val (.long m0), .second, .val (.long k0), .second, .val (.long d0), .second, .val (.int p0), .val (.long (2305843009213693951 : Int64)), .second, .val (.long w1), .second, .val (.long w4), .second, .val (.long w10), .second, .val (.int w13), .val (.long w16), .second, .val (.long w22), .second, .val (.int w25), .val (.int w31), .val (.int w37)] [(.int (1 : Int32))])) _
        refine XS.goto X45.here hx rfl (pc0 := 168) (pc' := 172) rfl (hb hby at_168) (by decide) (by decide) ?_
        exact k)
    obtain ⟨fs, hr, hrun, hended, hW, hsame⟩ := X45.leave (v := some (.int (1 : Int32))) (fun h => by rw [Bd.returns] at h; cases h)
    refine ⟨_, _, pre48 _ ?_, hrun, hended, _, _, rfl, ?_, ⟨_, rfl⟩, hW, hsame.mono (Nat.le_of_ble_eq_true rfl) (Nat.le_of_ble_eq_true rfl)⟩
    · exact retN X45 hx (t := .boolean) Bd.returns (by simp) (hb hby at_172) hr
    · show Q_law Z m0 k0 d0 p0 h0 n0 _ T45.heap _
      rw [e45]
      exact ⟨rfl, N45⟩
  · -- hc47: False
    have pre49 : Go p.tables e below (s₁.setTop (entryFrame m #[(.long m0), (.long k0), (.long d0), (.int p0)] maxLocals)) T45 (mkF m 172 #[.val (.long m0), .second, .val (.long k0), .second, .val (.long d0), .second, .val (.int p0), .val (.long (2305843009213693951 : Int64)), .second, .val (.long w1), .second, .val (.long w4), .second, .val (.long w10), .second, .val (.int w13), .val (.long w16), .second, .val (.long w22), .second, .val (.int w25), .val (.int w31), .val (.int w37)] [(.int (0 : Int32))]) := fun t k => pre46 t (by
        refine XS.icmpYes X45.here hx rfl (pc0 := 164) (pc' := 171) rfl (hb hby at_164) rfl (feq hc47).2 (by decide) (by decide) ?_
        show Steps p.tables e below (T45.setTop (mkF m 171 #[.val (.long m0), .second, .val (.long k0), .second, .val (.long d0), .second, .val (.int p0), .val (.long (2305843009213693951 : Int64)), .second, .val (.long w1), .second, .val (.long w4), .second, .val (.long w10), .second, .val (.int w13), .val (.long w16), .second, .val (.long w22), .second, .val (.int w25), .val (.int w31), .val (.int w37)] [])) _
        refine XS.iconst X45.here hx rfl (hb hby at_171) ?_
        exact k)
    obtain ⟨fs, hr, hrun, hended, hW, hsame⟩ := X45.leave (v := some (.int (0 : Int32))) (fun h => by rw [Bd.returns] at h; cases h)
    refine ⟨_, _, pre49 _ ?_, hrun, hended, _, _, rfl, ?_, ⟨_, rfl⟩, hW, hsame.mono (Nat.le_of_ble_eq_true rfl) (Nat.le_of_ble_eq_true rfl)⟩
    · exact retN X45 hx (t := .boolean) Bd.returns (by simp) (hb hby at_172) hr
    · show Q_law Z m0 k0 d0 p0 h0 n0 _ T45.heap _
      rw [e45]
      exact absurd (own_law hw10 hw22 hw25 hw31 hw37) hc47
set_option maxRecDepth 65536 in
set_option maxHeartbeats 40000000 in
theorem comes_1 {Post : Tables → Env → Array Value → State → Outcome → State → Prop} (hpost : ∀ tb e args s v u, (limb_1_1.after args s (.returned v) u = true ∧ limb_1_2.after args s (.returned v) u = true ∧ True) → FrameEnd s (.returned v) u (Jvm.fieldLocs frame_1_writes args s ++ Jvm.arrayLocs frame_1_arrays args s ++ Jvm.staticLocs frame_1_statics s) 0 0 → Post tb e args s (.returned v) u) :
    ArmFor flags0 classFile x code maxLocals ret World_1 tables_1 room_1 Calls_1 rest_1 Pre_1 Post := by
  intro l hfl _ _ p e ha hc hk s m args below hf hA hF happ hP
  obtain ⟨hcalls, hrest, hpre⟩ := hP
  obtain ⟨-, -, -, hnamed, -, -, -, hat⟩ := (Spec.applies_iff hf).mp happ
  obtain ⟨hg, hn⟩ := and_e (Cond.before_iff.mp (show (Jvm.Cond.and given_1 narrow_1).before args s = true from hpre))
  obtain ⟨gc, gt0⟩ := and_e hg
  obtain ⟨ga0, gt1⟩ := and_e gt0
  obtain ⟨ga1, gt2⟩ := and_e gt1
  obtain ⟨ga2, gt3⟩ := and_e gt2
  obtain ⟨w0, w1, w2, w3, rfl⟩ : ∃ w0 w1 w2 w3 : Value, args = #[w0, w1, w2, w3] := by
    have hs : args.size = 4 := by simpa [Cond.value, given_1] using gc
    obtain ⟨L⟩ := args
    match L, hs with
    | [w0, w1, w2, w3], _ => exact ⟨w0, w1, w2, w3, rfl⟩
  have hw := fun d (hd : d ∈ tables_1) => atoms_spec (ws := Jvm.Cond.code x code maxLocals ret :: tables_1) hat d (List.mem_cons_of_mem _ hd)
  have hfit : Fit s := fun {y c} hc i hi => by
    obtain ⟨ha, rfl⟩ := Array.getElem?_eq_some_iff.mp hc
    have q := List.all_eq_true.mp ((Array.all_eq_true_iff_forall_mem.mp hF) _ (Array.getElem_mem ha)) i (List.mem_range.mpr hi)
    simpa [Array.getElem?_eq_getElem hi] using q
  obtain ⟨i0, ei0⟩ := isL_v ga0
  obtain rfl : w0 = (.long i0) := Option.some.inj ei0
  obtain ⟨i1, ei1⟩ := isL_v ga1
  obtain rfl : w1 = (.long i1) := Option.some.inj ei1
  obtain ⟨i2, ei2⟩ := isL_v ga2
  obtain rfl : w2 = (.long i2) := Option.some.inj ei2
  obtain ⟨i3, ei3⟩ := is_v gt3
  obtain rfl : w3 = (.int i3) := Option.some.inj ei3
  obtain ⟨n, o, h1, h2, h3, _, L, rfl, ⟨rfl, N⟩, hq⟩ := rm_law l s _ hw tables_1 i0 i1 i2 i3 s.heap s.heap.size (Nat.le_refl _)  p e ha hc hk s m _ below hf ((Spec.applies_iff_loose hf).mp happ).1 ⟨rfl, State.Warmed39.refl s, rfl⟩ trivial
  refine ⟨n, _, h1, h2, h3, hpost _ _ _ _ _ _ ⟨Cond.after_iff.mpr rfl, Cond.after_iff.mpr (eq_i res_at (Term.int_eval (1)) rfl), trivial⟩ ⟨hq.1, hq.2.1, (hq.2.2.sift fun y hy => Or.inr (N y hy)).mono (by decide) (by decide)⟩⟩
theorem main_1_1 : Claimed_1_1 := comes_1 fun _ _ _ _ _ _ h hF => ⟨h.1, hF⟩
theorem main_1_2 : Claimed_1_2 := comes_1 fun _ _ _ _ _ _ h hF => ⟨h.2.1, hF⟩
end Jvm.Pilot.@@N@@
namespace Jvm.Pilot.@@N@@
open Jvm Jvm.ClassFile Sem Op Lib Jvm.Free Jvm.Stand Jvm.Pilot.@@N@@.Jvm.D
/-! MADE BY PROGRAM (witnessworld.py) out of the Statement's table words and the real class files: 8 classes; the members and pool entries that the words name. The judged class is class 1, her method 1. -/
namespace start1
open Jvm.ClassFile
def u (s : String) : CpInfo := .utf8 (stringToUtf16 s)
/-- a pool by its gaps: so many unusable entries, then the entry; so many at the end -/
def gap : Nat → List CpInfo → List CpInfo
  | 0, r => r
  | n + 1, r => .unusable :: gap n r
def poolList (es : List (Nat × CpInfo)) (last : Nat) : List CpInfo := es.foldr (fun e r => gap e.1 (e.2 :: r)) (gap last [])
def pool (es : List (Nat × CpInfo)) (last : Nat) : Array CpInfo := ⟨poolList es last⟩
def fileOf (pool : Array CpInfo) (this : Nat) (attrs : Array Attribute := #[]) (ms : Array MethodInfo := #[]) (fl : Nat := 33) (sup : Nat := 0) (ifs : Array Nat := #[]) (fds : Array FieldInfo := #[]) : ClassFile where
  minorVersion := 0
  majorVersion := 65
  constantPool := pool
  accessFlags := fl
  thisClass := this
  superClass := sup
  interfaces := ifs
  fields := fds
  methods := ms
  attributes := attrs
def plain (name : String) (sup : Option ClassId) : Class where
  name := name
  kind := .ordinary
  loader := none
  accessFlags := 33
  super := sup
  interfaces := #[]
  cf := none
  fields := #[]
  methods := #[]
  instanceTypes := #[]
  staticTypes := #[]
  resolved := #[]
  callSites := []
  init := .initialized
  statics := none
  mirror := none

def pool0 : Array CpInfo := pool [(5, u "<init>"), (0, u "()V"), (1, .class_ 10), (1, u "java/lang/Object")] 113

def k0m0 : Method := { name := "<init>", desc := "()V", sig := { parameters := [], returnType := none }, accessFlags := 1, code := none }
/-- java/lang/Object -/
def k0 : Class := { plain "java/lang/Object" none with
  accessFlags := 33
  interfaces := #[]
  cf := some (fileOf pool0 8 #[] #[{ accessFlags := 1, nameIndex := 5, descriptorIndex := 6, attributes := #[] }] 33 0 #[] #[])
  fields := #[]
  methods := #[k0m0]
  instanceTypes := #[]
  staticTypes := #[]
  resolved := Array.replicate 124 none
  statics := none }

def pool1 : Array CpInfo := pool [(2, .class_ 4), (1, u "java/lang/Object"), (0, u "<init>"), (0, u "()V"), (0, .long 2305843009213693951), (1, .long 3), (1, .long 1073741823), (1, .integer 2147483647), (0, .methodref 15 16), (0, .class_ 17), (0, .nameAndType 18 19), (0, u "java/lang/Math"), (0, u "max"), (0, u "(II)I"), (0, .methodref 21 22), (0, .class_ 23), (0, .nameAndType 24 25), (0, u "com/example/octopoll/octopoll/Engine"), (0, u "mayHold"), (0, u "(JJJI)Z"), (0, .class_ 27), (0, u "com/example/octopoll/octopoll/EngineMayHoldPinLaw"), (2, u "law")] 3

def k1m0 : Method := { name := "<init>", desc := "()V", sig := { parameters := [], returnType := none }, accessFlags := 2, code := none }
def k1c1 : Code := { maxStack := 7, maxLocals := 23, code := code, exceptionTable := #[], attributes := #[] }
def k1m1 : Method := { name := "law", desc := "(JJJI)Z", sig := { parameters := [.long, .long, .long, .int], returnType := some .boolean }, accessFlags := 9, code := some k1c1 }
/-- com/example/octopoll/octopoll/EngineMayHoldPinLaw -/
def k1 : Class := { plain "com/example/octopoll/octopoll/EngineMayHoldPinLaw" (some 0) with
  accessFlags := 49
  interfaces := #[]
  cf := some (fileOf pool1 26 #[] #[{ accessFlags := 2, nameIndex := 5, descriptorIndex := 6, attributes := #[] }, { accessFlags := 9, nameIndex := 30, descriptorIndex := 25, attributes := #[] }] 49 2 #[] #[])
  fields := #[]
  methods := #[k1m0, k1m1]
  instanceTypes := #[]
  staticTypes := #[]
  resolved := Array.replicate 34 none
  statics := none }

def pool2 : Array CpInfo := pool [(1, .class_ 2), (0, u "java/lang/Math"), (1, .class_ 6), (1, u "java/lang/Object"), (0, u "<init>"), (0, u "()V"), (89, .class_ 100), (1, u "java/lang/Math$RandomNumberGeneratorHolder"), (71, u "negativeZeroFloatBits"), (0, u "J"), (2, u "negativeZeroDoubleBits"), (21, u "max"), (46, u "$assertionsDisabled"), (0, u "Z"), (88, u "(II)I"), (2, u "twoToTheDoubleScaleDown"), (0, u "D"), (4, u "twoToTheDoubleScaleUp"), (9, u "E"), (3, u "PI"), (2, u "TAU"), (2, u "DEGREES_TO_RADIANS"), (0, u "RADIANS_TO_DEGREES")] 94

def k2m0 : Method := { name := "<init>", desc := "()V", sig := { parameters := [], returnType := none }, accessFlags := 2, code := none }
def k2c1 : Code := { maxStack := 2, maxLocals := 2, code := jdk_29_method_65_code, exceptionTable := #[], attributes := #[] }
def k2m1 : Method := { name := "max", desc := "(II)I", sig := { parameters := [.int, .int], returnType := some .int }, accessFlags := 9, code := some k2c1 }
/-- java/lang/Math -/
def k2 : Class := { plain "java/lang/Math" (some 0) with
  accessFlags := 49
  interfaces := #[]
  cf := some (fileOf pool2 1 #[.nestMembers #[98]] #[{ accessFlags := 2, nameIndex := 7, descriptorIndex := 8, attributes := #[] }, { accessFlags := 9, nameIndex := 198, descriptorIndex := 335, attributes := #[] }] 49 4 #[] #[{ accessFlags := 25, nameIndex := 354, descriptorIndex := 339, attributes := #[] }, { accessFlags := 25, nameIndex := 358, descriptorIndex := 339, attributes := #[] }, { accessFlags := 25, nameIndex := 361, descriptorIndex := 339, attributes := #[] }, { accessFlags := 26, nameIndex := 364, descriptorIndex := 339, attributes := #[] }, { accessFlags := 26, nameIndex := 365, descriptorIndex := 339, attributes := #[] }, { accessFlags := 26, nameIndex := 172, descriptorIndex := 173, attributes := #[] }, { accessFlags := 26, nameIndex := 176, descriptorIndex := 173, attributes := #[] }, { accessFlags := 8, nameIndex := 344, descriptorIndex := 339, attributes := #[] }, { accessFlags := 8, nameIndex := 338, descriptorIndex := 339, attributes := #[] }, { accessFlags := 4120, nameIndex := 245, descriptorIndex := 246, attributes := #[] }])
  fields := #[{ name := "E", type := .double, accessFlags := 25, slot := 0, constantValue := 0 }, { name := "PI", type := .double, accessFlags := 25, slot := 1, constantValue := 0 }, { name := "TAU", type := .double, accessFlags := 25, slot := 2, constantValue := 0 }, { name := "DEGREES_TO_RADIANS", type := .double, accessFlags := 26, slot := 3, constantValue := 0 }, { name := "RADIANS_TO_DEGREES", type := .double, accessFlags := 26, slot := 4, constantValue := 0 }, { name := "negativeZeroFloatBits", type := .long, accessFlags := 26, slot := 5, constantValue := 0 }, { name := "negativeZeroDoubleBits", type := .long, accessFlags := 26, slot := 6, constantValue := 0 }, { name := "twoToTheDoubleScaleUp", type := .double, accessFlags := 8, slot := 7, constantValue := 0 }, { name := "twoToTheDoubleScaleDown", type := .double, accessFlags := 8, slot := 8, constantValue := 0 }, { name := "$assertionsDisabled", type := .boolean, accessFlags := 4120, slot := 9, constantValue := 0 }]
  methods := #[k2m0, k2m1]
  instanceTypes := #[]
  staticTypes := #[.double, .double, .double, .double, .double, .long, .long, .double, .double, .boolean]
  resolved := Array.replicate 460 none
  statics := none }

def pool3 : Array CpInfo := pool [(2, .class_ 4), (1, u "java/lang/Object"), (0, u "<init>"), (0, u "()V"), (9, .class_ 18), (1, u "com/example/octopoll/octopoll/Engine"), (30, u "mayHold"), (0, u "(JJJI)Z"), (18, .class_ 70), (0, u "com/example/octopoll/octopoll/Engine$Window"), (8, .class_ 80), (0, u "com/example/octopoll/octopoll/Engine$Result")] 65

def k3m0 : Method := { name := "<init>", desc := "()V", sig := { parameters := [], returnType := none }, accessFlags := 2, code := none }
def k3c1 : Code := { maxStack := 4, maxLocals := 7, code := prog_4_method_4_code, exceptionTable := #[], attributes := #[] }
def k3m1 : Method := { name := "mayHold", desc := "(JJJI)Z", sig := { parameters := [.long, .long, .long, .int], returnType := some .boolean }, accessFlags := 8, code := some k3c1 }
/-- com/example/octopoll/octopoll/Engine -/
def k3 : Class := { plain "com/example/octopoll/octopoll/Engine" (some 0) with
  accessFlags := 48
  interfaces := #[]
  cf := some (fileOf pool3 16 #[.nestMembers #[69, 79]] #[{ accessFlags := 2, nameIndex := 5, descriptorIndex := 6, attributes := #[] }, { accessFlags := 8, nameIndex := 49, descriptorIndex := 50, attributes := #[] }] 48 2 #[] #[])
  fields := #[]
  methods := #[k3m0, k3m1]
  instanceTypes := #[]
  staticTypes := #[]
  resolved := Array.replicate 146 none
  statics := none }

def pool4 : Array CpInfo := pool [(1, u "java/lang/Cloneable"), (0, .class_ 1), (0, u "java/lang/Object"), (0, .class_ 3)] 3

/-- java/lang/Cloneable -/
def k4 : Class := { plain "java/lang/Cloneable" (some 0) with
  accessFlags := 1537
  interfaces := #[]
  cf := some (fileOf pool4 2 #[] #[] 1537 4 #[] #[])
  fields := #[]
  methods := #[]
  instanceTypes := #[]
  staticTypes := #[]
  resolved := Array.replicate 8 none
  statics := none }

def pool5 : Array CpInfo := pool [(1, u "java/io/Serializable"), (0, .class_ 1), (0, u "java/lang/Object"), (0, .class_ 3)] 3

/-- java/io/Serializable -/
def k5 : Class := { plain "java/io/Serializable" (some 0) with
  accessFlags := 1537
  interfaces := #[]
  cf := some (fileOf pool5 2 #[] #[] 1537 4 #[] #[])
  fields := #[]
  methods := #[]
  instanceTypes := #[]
  staticTypes := #[]
  resolved := Array.replicate 8 none
  statics := none }

/-- the primitive byte -/
def k6 : Class := { plain "byte" none with kind := .primitive 'B', accessFlags := 0x411 }
/-- [B -/
def k7 : Class := { plain "[B" (some 0) with kind := .array 6 .byte, interfaces := #[4, 5], accessFlags := 1041 }

def heap : Heap := #[]
def classes : Array Class := #[k0, k1, k2, k3, k4, k5, k6, k7]
def interned : List (Array UInt16 × Addr) := []
def slotsUsed : Nat := 0
def theMethod : MethodId := ⟨1, 1⟩
def args0 : Array Value := #[.long 5, .long 6, .long 7, .int 5]
def aboutOver (below : List Frame) : State where
  vm := { classes := classes, interned := interned.toArray }
  heap := heap
  slotsUsed := slotsUsed
  threads := #[{ frames := .invoking theMethod args0 :: below }]
def below0 : List Frame := [.native { method := ⟨0, 0⟩, args := #[] }]
def about1 : State := aboutOver below0
def p0 : Program := .bare "" "" ""
def e0 : Env := launch0.env 0 0 0
theorem w_frames : about1.frames = Frame.invoking theMethod args0 :: below0 := rfl
set_option maxRecDepth 65536 in
theorem w_args : argsFit about1.vm theMethod args0 = true := by decide +kernel
set_option maxRecDepth 65536 in
theorem w_heap : heapFits about1 = true := by decide +kernel
set_option maxRecDepth 65536 in
theorem w_runnable : about1.curStatus? = some .runnable := by decide +kernel
set_option maxRecDepth 65536 in
theorem w_alone : about1.alone = true := by decide +kernel
set_option maxRecDepth 65536 in
theorem w_named : about1.methodNamed? x = some theMethod := by decide +kernel
set_option maxRecDepth 65536 in
theorem w_hears : about1.hears theMethod below0 = true := by decide +kernel
set_option maxRecDepth 65536 in
theorem w_ripe : about1.ripe theMethod args0 below0 = true := by decide +kernel
theorem w_running : about1.status = .running := rfl
set_option maxRecDepth 65536 in
theorem w_room : about1.hasRoom e0.platform room_1 = true :=
  launch0.hasRoom_least _ room_1 (by decide +kernel) (by decide +kernel) (by decide +kernel) (by decide +kernel) (by decide +kernel) (by decide +kernel)
theorem allAtoms_all (ts : List Jvm.Cond) (a : Array Jvm.Value) (st : Jvm.State) : (allAtoms ts).before a st = ts.all (fun c => c.before a st) := by
  induction ts with
  | nil => rfl
  | cons c t ih =>
    show (Jvm.Cond.and c (allAtoms t)).before a st = _
    rw [Jvm.Cond.before_and, ih, List.all_cons]
def words1 : List Jvm.Cond := Jvm.Cond.code x code maxLocals ret :: tables_1
/-- a 'code' word, met by the world's own term for the bytes: nothing is compared byte by byte -/
theorem code_word {y : MethodName} {bytes : ByteArray} {mx : Nat} {rt : Option FieldType} {a : Array Value} {s : State} {m : MethodId} {meth : Method} {c : Code} (h1 : s.methodNamed? y = some m) (h2 : s.vm.method? m = some meth) (h3 : meth.code = some c) (h4 : c.code = bytes)
    (h5 : (c.maxLocals == mx && c.exceptionTable.isEmpty && decide (c.maxStack ≤ mostOperands) && decide (meth.sig.returnType = rt) && !meth.locks && decide (parseMethodDescriptor y.desc = some meth.sig)) = true) : (Jvm.Cond.code y bytes mx rt).before a s = true := by
  simp only [Bool.and_eq_true, beq_iff_eq, Bool.not_eq_true', decide_eq_true_eq] at h5
  obtain ⟨⟨⟨⟨⟨g1, g2⟩, g3⟩, g4⟩, g5⟩, g6⟩ := h5
  simp [Cond.before, Cond.holds, Cond.value, h1, h2, h3, h4, g1, g2, g3, g4, g5, g6]
def isCode : Jvm.Cond → Bool
  | .code _ _ _ _ => true
  | _ => false
theorem all_split {L : List Jvm.Cond} {P : Jvm.Cond → Bool} (h1 : L.all (fun c => isCode c || P c) = true) (h2 : ∀ c ∈ L.filter isCode, P c = true) : L.all P = true := by
  refine List.all_eq_true.mpr fun c hc => ?_
  have h := List.all_eq_true.mp h1 c hc
  rcases Bool.eq_false_or_eq_true (isCode c) with hi | hi
  · exact h2 c (List.mem_filter.mpr ⟨hc, hi⟩)
  · simpa [hi] using h
set_option maxRecDepth 65536 in
theorem w_c0 : (Jvm.Cond.code x code maxLocals ret).before args0 about1 = true := code_word (m := ⟨1, 1⟩) (meth := k1m1) (c := k1c1) (by decide +kernel) rfl rfl rfl (by decide +kernel)
set_option maxRecDepth 65536 in
theorem w_c1 : (Jvm.Cond.code ({ cls := "java/lang/Math", name := "max", desc := "(II)I" } : Jvm.MethodName) jdk_29_method_65_code (2 : Nat) (Option.some Jvm.ClassFile.FieldType.int)).before args0 about1 = true := code_word (m := ⟨2, 1⟩) (meth := k2m1) (c := k2c1) (by decide +kernel) rfl rfl rfl (by decide +kernel)
set_option maxRecDepth 65536 in
theorem w_c2 : (Jvm.Cond.code ({ cls := "com/example/octopoll/octopoll/Engine", name := "mayHold", desc := "(JJJI)Z" } : Jvm.MethodName) prog_4_method_4_code (7 : Nat) (Option.some Jvm.ClassFile.FieldType.boolean)).before args0 about1 = true := code_word (m := ⟨3, 1⟩) (meth := k3m1) (c := k3c1) (by decide +kernel) rfl rfl rfl (by decide +kernel)
def codes1 : List Jvm.Cond := [Jvm.Cond.code x code maxLocals ret, Jvm.Cond.code ({ cls := "java/lang/Math", name := "max", desc := "(II)I" } : Jvm.MethodName) jdk_29_method_65_code (2 : Nat) (Option.some Jvm.ClassFile.FieldType.int), Jvm.Cond.code ({ cls := "com/example/octopoll/octopoll/Engine", name := "mayHold", desc := "(JJJI)Z" } : Jvm.MethodName) prog_4_method_4_code (7 : Nat) (Option.some Jvm.ClassFile.FieldType.boolean)]
set_option maxRecDepth 65536 in
theorem codes_eq : words1.filter isCode = codes1 := rfl
theorem w_codes : ∀ c ∈ words1.filter isCode, c.before args0 about1 = true := by
  rw [codes_eq]
  intro c hc
  simp only [codes1, List.mem_cons, List.not_mem_nil, or_false] at hc
  rcases hc with rfl | rfl | rfl
  · exact w_c0
  · exact w_c1
  · exact w_c2
set_option maxRecDepth 65536 in
theorem w_t1 : words1.all (fun c => isCode c || c.before args0 about1) = true := by decide +kernel
theorem w_tables : (allAtoms (Jvm.Cond.code x code maxLocals ret :: tables_1)).before args0 about1 = true := by
  rw [allAtoms_all]
  show words1.all (fun c => c.before args0 about1) = true
  refine all_split ?_ w_codes
  rw [w_t1]
set_option maxRecDepth 65536 in
theorem w_case : (Jvm.Cond.and given_1 narrow_1).before args0 about1 = true := by decide +kernel
theorem w_applies : (headSpec (Jvm.Cond.code x code maxLocals ret :: tables_1) room_1).applies x e0.platform about1 = true :=
  (Spec.applies_iff w_frames).mpr ⟨w_running, w_runnable, w_alone, w_named, w_hears, w_ripe, w_room, w_tables⟩
theorem atStart : AtStart classFile x code maxLocals ret World_1 tables_1 room_1 Calls_1 rest_1 Pre_1 launch0 p0 e0 about1 theMethod args0 below0 :=
  ⟨lists_1, trivial, launch0.admits_env _ _ _, launch0.least_env, fairChoices_fair.cas, fairChoices_fair.clock, w_frames, w_args, w_heap, w_applies, trivial, trivial, w_case⟩
end start1
theorem witness_1 : WitnessClaimed_1 := ⟨start1.p0, start1.e0, start1.about1, start1.theMethod, start1.args0, start1.below0, start1.atStart⟩
end Jvm.Pilot.@@N@@
