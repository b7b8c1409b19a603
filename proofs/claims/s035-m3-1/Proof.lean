import JvmDerived
import JvmDerived.Pilot.@@N@@Statement
import JvmDerived.Pilot.@@N@@Code
set_option linter.unusedVariables false
set_option linter.unusedSimpArgs false
namespace Jvm.RoadKit
open Sem ClassFile Op Lib Jvm.Stand Jvm.Free Jvm.LawKit
section New
variable {p : Program} {l : Launch} {e : Env} {R : Room} {s : State} {m : MethodId} {args : Array Value} {below : List Frame} {meth : Method} {c : Code} {T : State} {locs : List Loc} {cells slots : Nat}
theorem retI (X : Stand p l e R s m args below meth c T locs cells slots) (hx : p.tables.exec = Jvm.exec) {pc : Nat} {Ls : Array Slot} {z : Int32} {rest : List Value} (hret : meth.sig.returnType = some .int) (hd : decode c.code pc = .ok (.ireturn, 1)) {fs : List Frame}
    (hl : ∀ (f : JFrame) (acts : List Action), f.method = m → f.locked = none → f.entered = [] → (doReturn e (T.setTop f) acts (some (.int z))).1 = T.setFrames fs) : Steps p.tables e below (T.setTop (mkF m pc Ls (.int z :: rest))) (T.setFrames fs) := by
  have hm' : T.vm.method? m = some meth := X.method'
  have hn : narrow .int (.int z) = .int z := rfl
  show Steps p.tables e below (T.setTop { method := m, pc := pc, locals := Ls, stack := _ :: rest, locked := none }) _
  jvm_step X.here [X.here.top, hx, hd, hm', hret, hn]
  first | (intro acts; rw [hl _ acts rfl rfl rfl]) | rw [hl _ _ rfl rfl rfl]
  exact Steps.refl _
end New
end Jvm.RoadKit
namespace Jvm.Pilot.@@N@@
open Jvm Jvm.ClassFile Sem Op Lib Jvm.Free Jvm.Stand Jvm.LawKit Jvm.RoadKit Bundle Jvm.Pilot.@@N@@.Jvm.D
/-- from the state A the run comes to the frame f over T -/
abbrev Go (tb : Tables) (e : Env) (below : List Frame) (A T : State) (f : JFrame) : Prop := ∀ t, Steps tb e below (T.setTop f) t → Steps tb e below A t

def own_cmp (x y : Int32) : Int32 := if x < y then -1 else if x = y then 0 else 1
def own_cmpU (x y : Int32) : Int32 := own_cmp (x + (-2147483648 : Int32)) (y + (-2147483648 : Int32))
def own_isN (x : Int32) : Int32 := if own_cmpU x 3 < 0 then 0 else 1
def own_next (x : Int32) : Int32 := if own_isN (x + 1) = 0 then 3 else x + 1
def own_prev (x : Int32) : Int32 := if x = 3 then -1 else x - 1
def own_res (x : Int32) : Int32 := if x < 0 then 0 else if x < 3 then 1 else 0
theorem own_bm (x : Int) : (x.bmod (2 ^ 32) - x) % 4294967296 = 0 := by have := Int.bmod_emod (x := x) (m := 2 ^ 32); omega
theorem own_res0 (x : Int32) : own_res x = 0 ↔ ¬ (0 ≤ x.toInt ∧ x.toInt < 3) := by
  unfold own_res
  have e3 : (3 : Int32).toInt = 3 := rfl
  have e0 : (0 : Int32).toInt = 0 := rfl
  by_cases h1 : x < 0
  · rw [if_pos h1]; rw [Int32.lt_iff_toInt_lt, e0] at h1; constructor
    · intro _; omega
    · intro _; rfl
  · rw [if_neg h1]; rw [Int32.lt_iff_toInt_lt, e0] at h1
    by_cases h2 : x < 3
    · rw [if_pos h2]; rw [Int32.lt_iff_toInt_lt, e3] at h2; constructor
      · intro h; exact absurd h (by decide)
      · intro h; omega
    · rw [if_neg h2]; rw [Int32.lt_iff_toInt_lt, e3] at h2; constructor
      · intro _; omega
      · intro _; rfl
theorem own_isN0 (x : Int32) : own_isN x = 0 ↔ (0 ≤ x.toInt ∧ x.toInt < 3) := by
  have hr1 := x.le_toInt; have hr2 := x.toInt_lt
  have e1 : ((3 : Int32) + (-2147483648 : Int32)).toInt = -2147483645 := rfl
  have e2 : (x + (-2147483648 : Int32)).toInt = (x.toInt + (-2147483648)).bmod (2 ^ 32) := Int32.toInt_add _ _
  have hb := own_bm (x.toInt + (-2147483648)); have hq1 := (x + (-2147483648 : Int32)).le_toInt; have hq2 := (x + (-2147483648 : Int32)).toInt_lt
  unfold own_isN own_cmpU own_cmp
  by_cases h : x + (-2147483648 : Int32) < (3 : Int32) + (-2147483648 : Int32)
  · rw [if_pos h, if_pos (by decide)]
    rw [Int32.lt_iff_toInt_lt, e1] at h
    constructor
    · intro _; omega
    · intro _; rfl
  · rw [if_neg h]
    have hh : ¬ ((if x + (-2147483648 : Int32) = (3 : Int32) + (-2147483648 : Int32) then (0 : Int32) else 1) < 0) := by split <;> decide
    rw [if_neg hh]
    rw [Int32.lt_iff_toInt_lt, e1] at h
    constructor
    · intro h; exact absurd h (by decide)
    · intro _; omega
theorem own_l1 (x : Int32) (h : own_res x = 0) : own_res (own_prev x) = 0 := by
  rw [own_res0] at h ⊢
  unfold own_prev
  by_cases h3 : x = 3
  · rw [if_pos h3]; decide
  · rw [if_neg h3]
    have hr1 := x.le_toInt; have hr2 := x.toInt_lt
    have e2 : (x - 1).toInt = (x.toInt - 1).bmod (2 ^ 32) := Int32.toInt_sub _ _
    have hb := own_bm (x.toInt - 1); have hq1 := (x - 1).le_toInt; have hq2 := (x - 1).toInt_lt
    have h3' : x.toInt ≠ 3 := fun q => h3 (Int32.toInt_inj.mp q)
    omega
theorem own_l2 (x : Int32) (h : own_res x = 0) : own_next (own_prev x) = x := by
  rw [own_res0] at h
  unfold own_prev
  by_cases h3 : x = 3
  · rw [if_pos h3, h3]; decide
  · rw [if_neg h3]
    unfold own_next
    have e : x - 1 + 1 = x := Int32.sub_add_cancel x 1
    rw [e]
    have : ¬ own_isN x = 0 := by rw [own_isN0]; exact h
    rw [if_neg this]
theorem pd_0 : parseMethodDescriptor "(II)I" = some ⟨[.int, .int], some .int⟩ := by decide +kernel
theorem pd_1 : parseMethodDescriptor "(I)Z" = some ⟨[.int], some .boolean⟩ := by decide +kernel
theorem pd_2 : parseMethodDescriptor "(I)I" = some ⟨[.int], some .int⟩ := by decide +kernel
theorem d6_0 : decode jdk_33_method_40_code 0 = .ok (.iload_n 0, 1) := by decide +kernel
theorem d6_1 : decode jdk_33_method_40_code 1 = .ok (.iload_n 1, 1) := by decide +kernel
theorem d6_2 : decode jdk_33_method_40_code 2 = .ok (.if_icmp .ge 7, 3) := by decide +kernel
theorem d6_5 : decode jdk_33_method_40_code 5 = .ok (.iconst (-1), 1) := by decide +kernel
theorem d6_6 : decode jdk_33_method_40_code 6 = .ok (.goto 13, 3) := by decide +kernel
theorem d6_9 : decode jdk_33_method_40_code 9 = .ok (.iload_n 0, 1) := by decide +kernel
theorem d6_10 : decode jdk_33_method_40_code 10 = .ok (.iload_n 1, 1) := by decide +kernel
theorem d6_11 : decode jdk_33_method_40_code 11 = .ok (.if_icmp .ne 7, 3) := by decide +kernel
theorem d6_14 : decode jdk_33_method_40_code 14 = .ok (.iconst 0, 1) := by decide +kernel
theorem d6_15 : decode jdk_33_method_40_code 15 = .ok (.goto 4, 3) := by decide +kernel
theorem d6_18 : decode jdk_33_method_40_code 18 = .ok (.iconst 1, 1) := by decide +kernel
theorem d6_19 : decode jdk_33_method_40_code 19 = .ok (.ireturn, 1) := by decide +kernel
theorem pn_cmp : plainName "java/lang/Integer" = true := by first | (simp [plainName, overriddenIn]; done) | decide +kernel
theorem ef_cmp (m : MethodId) (p0 : Int32) (p1 : Int32) : entryFrame m #[(.int p0), (.int p1)] 2 = mkF m 0 #[.val (.int p0), .val (.int p1)] [] := by first | (simp [entryFrame, mkF, argsToLocals, Value.category]; done) | rfl
def Q_cmp (Z : State) (p0 : Int32) (p1 : Int32) (h0 : Heap) (n0 : Nat) (v : Option Value) (h : Heap) (L : List Loc) : Prop := v = some (.int (own_cmp p0 p1)) ∧ Fr n0 L ∧ h = h0
set_option maxRecDepth 65536 in
set_option maxHeartbeats 40000000 in
theorem rm_cmp (l : Launch) (Z : State) (a0 : Array Value) (hw : ∀ d ∈ tables_1, d.before a0 Z = true) (ws : List Jvm.Cond) (p0 : Int32) (p1 : Int32) (h0 : Heap) (n0 : Nat) :
    MetFree l (⟨"java/lang/Integer", "compare", "(II)I"⟩ : MethodName) (head1 (Jvm.Cond.code (⟨"java/lang/Integer", "compare", "(II)I"⟩ : MethodName) jdk_33_method_40_code 2 (some .int) :: ws) ({ frames := 0, cells := 0, slots := 0, locals := 0 } : Room)) (fun a U => a = #[(.int p0), (.int p1)] ∧ Z.Warmed39 U.vm ∧ U.heap = h0) (fun _ _ _ _ _ => True) (fun _ U o U' => ∃ v L, o = .returned v ∧ Q_cmp Z p0 p1 h0 n0 v U'.heap L ∧ FrameEnd U o U' L ({ frames := 0, cells := 0, slots := 0, locals := 0 } : Room).cells ({ frames := 0, cells := 0, slots := 0, locals := 0 } : Room).slots) := by
  refine MetFree.of_bodySF (plainFor_of_name pn_cmp) hisR ?_
  intro p e s m args below meth c s₁ Bd hml0 hP hK
  obtain ⟨rfl, hZ, hh⟩ := hP
  have hx := Bd.exec
  have hby := Bd.bytes
  have hml : c.maxLocals = 2 := hml0
  have hown : s.vm.findClass "java/lang/Integer" = some m.cls := findClass_of_methodNamed Bd.named
  have hnm := (name_of_methodNamed Bd.named Bd.method).1
  have X0 : Stand p l e ({ frames := 0, cells := 0, slots := 0, locals := 0 } : Room) s m #[(.int p0), (.int p1)] below meth c s₁ [] 0 0 := Stand.of_body Bd
  have e0 : s₁.heap = h0 := by rw [← hh, Bd.state]; rfl
  have N0 := Fr.nil n0
  have pre0 : Go p.tables e below (s₁.setTop (entryFrame m #[(.int p0), (.int p1)] 2)) s₁ (mkF m 0 #[.val (.int p0), .val (.int p1)] []) := fun t k => castTop (ef_cmp m p0 p1) k
  have pre1 : Go p.tables e below (s₁.setTop (entryFrame m #[(.int p0), (.int p1)] 2)) s₁ (mkF m 2 #[.val (.int p0), .val (.int p1)] [(.int p1), (.int p0)]) := fun t k => pre0 t (by
      refine XS.iloadN X0.here hx rfl (hb hby d6_0) rfl ?_
      show Steps p.tables e below (s₁.setTop (mkF m 1 #[.val (.int p0), .val (.int p1)] [(.int p0)])) _
      refine XS.iloadN X0.here hx rfl (hb hby d6_1) rfl ?_
      exact k)
  by_cases hc2 : p0 < p1
  · -- hc2: True
    have pre3 : Go p.tables e below (s₁.setTop (entryFrame m #[(.int p0), (.int p1)] 2)) s₁ (mkF m 19 #[.val (.int p0), .val (.int p1)] [(.int (-1 : Int32))]) := fun t k => pre1 t (by
        refine XS.icmpNo X0.here hx rfl (hb hby d6_2) rfl (tlt hc2).2.1 ?_
        show Steps p.tables e below (s₁.setTop (mkF m 5 #[.val (.int p0), .val (.int p1)] [])) _
        refine XS.iconst X0.here hx rfl (hb hby d6_5) ?_
        show Steps p.tables e below (s₁.setTop (mkF m 6 #[.val (.int p0), .val (.int p1)] [(.int (-1 : Int32))])) _
        refine XS.goto X0.here hx rfl (pc0 := 6) (pc' := 19) rfl (hb hby d6_6) (by decide) (by decide) ?_
        exact k)
    obtain ⟨fs, hr, hrun, hended, hW, hsame⟩ := X0.leave (v := some (.int (-1 : Int32))) (fun h => by rw [Bd.returns] at h; cases h) (BodyLoose.notSynchronized Bd)
    refine ⟨_, _, pre3 _ ?_, hrun, hended, _, _, rfl, ?_, ⟨_, rfl⟩, hW, hsame.mono (Nat.le_of_ble_eq_true rfl) (Nat.le_of_ble_eq_true rfl)⟩
    · exact retI X0 hx Bd.returns (hb hby d6_19) hr
    · show Q_cmp Z p0 p1 h0 n0 _ s₁.heap _
      rw [e0]
      exact ⟨by simp [own_cmp, hc2], N0, rfl⟩
  · -- hc2: False
    have pre4 : Go p.tables e below (s₁.setTop (entryFrame m #[(.int p0), (.int p1)] 2)) s₁ (mkF m 11 #[.val (.int p0), .val (.int p1)] [(.int p1), (.int p0)]) := fun t k => pre1 t (by
        refine XS.icmpYes X0.here hx rfl (pc0 := 2) (pc' := 9) rfl (hb hby d6_2) rfl (flt hc2).2.1 (by decide) (by decide) ?_
        show Steps p.tables e below (s₁.setTop (mkF m 9 #[.val (.int p0), .val (.int p1)] [])) _
        refine XS.iloadN X0.here hx rfl (hb hby d6_9) rfl ?_
        show Steps p.tables e below (s₁.setTop (mkF m 10 #[.val (.int p0), .val (.int p1)] [(.int p0)])) _
        refine XS.iloadN X0.here hx rfl (hb hby d6_10) rfl ?_
        exact k)
    by_cases hc5 : p0 = p1
    · -- hc5: True
      have pre6 : Go p.tables e below (s₁.setTop (entryFrame m #[(.int p0), (.int p1)] 2)) s₁ (mkF m 19 #[.val (.int p0), .val (.int p1)] [(.int (0 : Int32))]) := fun t k => pre4 t (by
          refine XS.icmpNo X0.here hx rfl (hb hby d6_11) rfl (teq hc5).2 ?_
          show Steps p.tables e below (s₁.setTop (mkF m 14 #[.val (.int p0), .val (.int p1)] [])) _
          refine XS.iconst X0.here hx rfl (hb hby d6_14) ?_
          show Steps p.tables e below (s₁.setTop (mkF m 15 #[.val (.int p0), .val (.int p1)] [(.int (0 : Int32))])) _
          refine XS.goto X0.here hx rfl (pc0 := 15) (pc' := 19) rfl (hb hby d6_15) (by decide) (by decide) ?_
          exact k)
      obtain ⟨fs, hr, hrun, hended, hW, hsame⟩ := X0.leave (v := some (.int (0 : Int32))) (fun h => by rw [Bd.returns] at h; cases h) (BodyLoose.notSynchronized Bd)
      refine ⟨_, _, pre6 _ ?_, hrun, hended, _, _, rfl, ?_, ⟨_, rfl⟩, hW, hsame.mono (Nat.le_of_ble_eq_true rfl) (Nat.le_of_ble_eq_true rfl)⟩
      · exact retI X0 hx Bd.returns (hb hby d6_19) hr
      · show Q_cmp Z p0 p1 h0 n0 _ s₁.heap _
        rw [e0]
        exact ⟨by simp [own_cmp, hc2, hc5], N0, rfl⟩
    · -- hc5: False
      have pre7 : Go p.tables e below (s₁.setTop (entryFrame m #[(.int p0), (.int p1)] 2)) s₁ (mkF m 19 #[.val (.int p0), .val (.int p1)] [(.int (1 : Int32))]) := fun t k => pre4 t (by
          refine XS.icmpYes X0.here hx rfl (pc0 := 11) (pc' := 18) rfl (hb hby d6_11) rfl (feq hc5).2 (by decide) (by decide) ?_
          show Steps p.tables e below (s₁.setTop (mkF m 18 #[.val (.int p0), .val (.int p1)] [])) _
          refine XS.iconst X0.here hx rfl (hb hby d6_18) ?_
          exact k)
      obtain ⟨fs, hr, hrun, hended, hW, hsame⟩ := X0.leave (v := some (.int (1 : Int32))) (fun h => by rw [Bd.returns] at h; cases h) (BodyLoose.notSynchronized Bd)
      refine ⟨_, _, pre7 _ ?_, hrun, hended, _, _, rfl, ?_, ⟨_, rfl⟩, hW, hsame.mono (Nat.le_of_ble_eq_true rfl) (Nat.le_of_ble_eq_true rfl)⟩
      · exact retI X0 hx Bd.returns (hb hby d6_19) hr
      · show Q_cmp Z p0 p1 h0 n0 _ s₁.heap _
        rw [e0]
        exact ⟨by simp [own_cmp, hc2, hc5], N0, rfl⟩
theorem d5_0 : decode jdk_33_method_41_code 0 = .ok (.iload_n 0, 1) := by decide +kernel
theorem d5_1 : decode jdk_33_method_41_code 1 = .ok (.ldc 127, 2) := by decide +kernel
theorem d5_3 : decode jdk_33_method_41_code 3 = .ok (.iadd, 1) := by decide +kernel
theorem d5_4 : decode jdk_33_method_41_code 4 = .ok (.iload_n 1, 1) := by decide +kernel
theorem d5_5 : decode jdk_33_method_41_code 5 = .ok (.ldc 127, 2) := by decide +kernel
theorem d5_7 : decode jdk_33_method_41_code 7 = .ok (.iadd, 1) := by decide +kernel
theorem d5_8 : decode jdk_33_method_41_code 8 = .ok (.invokestatic 259, 3) := by decide +kernel
theorem d5_11 : decode jdk_33_method_41_code 11 = .ok (.ireturn, 1) := by decide +kernel
theorem pn_cmpU : plainName "java/lang/Integer" = true := by first | (simp [plainName, overriddenIn]; done) | decide +kernel
theorem ef_cmpU (m : MethodId) (p0 : Int32) (p1 : Int32) : entryFrame m #[(.int p0), (.int p1)] 2 = mkF m 0 #[.val (.int p0), .val (.int p1)] [] := by first | (simp [entryFrame, mkF, argsToLocals, Value.category]; done) | rfl
def Q_cmpU (Z : State) (p0 : Int32) (p1 : Int32) (h0 : Heap) (n0 : Nat) (v : Option Value) (h : Heap) (L : List Loc) : Prop := v = some (.int (own_cmpU p0 p1)) ∧ Fr n0 L ∧ h = h0
set_option maxRecDepth 65536 in
set_option maxHeartbeats 40000000 in
theorem rm_cmpU (l : Launch) (Z : State) (a0 : Array Value) (hw : ∀ d ∈ tables_1, d.before a0 Z = true) (ws : List Jvm.Cond) (p0 : Int32) (p1 : Int32) (h0 : Heap) (n0 : Nat) :
    MetFree l (⟨"java/lang/Integer", "compareUnsigned", "(II)I"⟩ : MethodName) (head1 (Jvm.Cond.code (⟨"java/lang/Integer", "compareUnsigned", "(II)I"⟩ : MethodName) jdk_33_method_41_code 2 (some .int) :: ws) ({ frames := 1, cells := 0, slots := 0, locals := 13 } : Room)) (fun a U => a = #[(.int p0), (.int p1)] ∧ Z.Warmed39 U.vm ∧ U.heap = h0) (fun _ _ _ _ _ => True) (fun _ U o U' => ∃ v L, o = .returned v ∧ Q_cmpU Z p0 p1 h0 n0 v U'.heap L ∧ FrameEnd U o U' L ({ frames := 1, cells := 0, slots := 0, locals := 13 } : Room).cells ({ frames := 1, cells := 0, slots := 0, locals := 13 } : Room).slots) := by
  refine MetFree.of_bodySF (plainFor_of_name pn_cmpU) hisR ?_
  intro p e s m args below meth c s₁ Bd hml0 hP hK
  obtain ⟨rfl, hZ, hh⟩ := hP
  have hx := Bd.exec
  have hby := Bd.bytes
  have hml : c.maxLocals = 2 := hml0
  have hown : s.vm.findClass "java/lang/Integer" = some m.cls := findClass_of_methodNamed Bd.named
  have hnm := (name_of_methodNamed Bd.named Bd.method).1
  have X0 : Stand p l e ({ frames := 1, cells := 0, slots := 0, locals := 13 } : Room) s m #[(.int p0), (.int p1)] below meth c s₁ [] 0 0 := Stand.of_body Bd
  have e0 : s₁.heap = h0 := by rw [← hh, Bd.state]; rfl
  have N0 := Fr.nil n0
  have pre0 : Go p.tables e below (s₁.setTop (entryFrame m #[(.int p0), (.int p1)] 2)) s₁ (mkF m 0 #[.val (.int p0), .val (.int p1)] []) := fun t k => castTop (ef_cmpU m p0 p1) k
  have pre1 : Go p.tables e below (s₁.setTop (entryFrame m #[(.int p0), (.int p1)] 2)) s₁ (mkF m 8 #[.val (.int p0), .val (.int p1)] [(.int (p1 + (-2147483648 : Int32))), (.int (p0 + (-2147483648 : Int32)))]) := fun t k => pre0 t (by
      refine XS.iloadN X0.here hx rfl (hb hby d5_0) rfl ?_
      show Steps p.tables e below (s₁.setTop (mkF m 1 #[.val (.int p0), .val (.int p1)] [(.int p0)])) _
      refine X0.ldcInt hx hown (mvT hZ (hw _ (List.mem_of_getElem? (i := 18) rfl))) (g := (mkF m 1 #[.val (.int p0), .val (.int p1)] [(.int p0)])) rfl (hb hby d5_1) _ ?_
      show Steps p.tables e below (s₁.setTop (mkF m 3 #[.val (.int p0), .val (.int p1)] [(.int (-2147483648 : Int32)), (.int p0)])) _
      refine XS.iadd X0.here hx rfl (hb hby d5_3) rfl ?_
      show Steps p.tables e below (s₁.setTop (mkF m 4 #[.val (.int p0), .val (.int p1)] [(.int (p0 + (-2147483648 : Int32)))])) _
      refine XS.iloadN X0.here hx rfl (hb hby d5_4) rfl ?_
      show Steps p.tables e below (s₁.setTop (mkF m 5 #[.val (.int p0), .val (.int p1)] [(.int p1), (.int (p0 + (-2147483648 : Int32)))])) _
      refine X0.ldcInt hx hown (mvT hZ (hw _ (List.mem_of_getElem? (i := 18) rfl))) (g := (mkF m 5 #[.val (.int p0), .val (.int p1)] [(.int p1), (.int (p0 + (-2147483648 : Int32)))])) rfl (hb hby d5_5) _ ?_
      show Steps p.tables e below (s₁.setTop (mkF m 7 #[.val (.int p0), .val (.int p1)] [(.int (-2147483648 : Int32)), (.int p1), (.int (p0 + (-2147483648 : Int32)))])) _
      refine XS.iadd X0.here hx rfl (hb hby d5_7) rfl ?_
      exact k)
  obtain ⟨_, _, ⟨T2, L2, k2, n2⟩, -, X2, ⟨Lc2, hQ2, l2, y2, z2⟩, st2⟩ := Jvm.LawKit.callS X0 hx (y := (⟨"java/lang/Integer", "compare", "(II)I"⟩ : MethodName)) hown (mvT hZ (hw _ (List.mem_of_getElem? (i := 19) rfl))) (mvT hZ (hw _ (List.mem_of_getElem? (i := 20) rfl))) (mvT hZ (hw _ (List.mem_of_getElem? (i := 16) rfl))) (mvT hZ (hw _ (List.mem_of_getElem? (i := 21) rfl))) (by decide) (backOf (W := 0) (rm_cmp l Z a0 hw [] (p0 + (-2147483648 : Int32)) (p1 + (-2147483648 : Int32)) h0 n0) hZ (hw _ (List.mem_of_getElem? (i := 21) rfl)) (hw _ (List.mem_of_getElem? (i := 16) rfl)) (by decide) (by decide)) (g := (mkF m 8 #[.val (.int p0), .val (.int p1)] [(.int (p1 + (-2147483648 : Int32))), (.int (p0 + (-2147483648 : Int32)))])) rfl (by rw [hml]; rfl) (argsL := [(.int (p0 + (-2147483648 : Int32))), (.int (p1 + (-2147483648 : Int32)))]) (rest := []) (lenOf pd_0 rfl) rfl (by show 2 * 0 + _ ≤ _; exact Nat.le_of_eq rfl) (hb hby d5_8) (fun _ _ => ⟨rfl, e0, (by decide : 0 + 0 ≤ _), (by decide : 0 + 0 ≤ _)⟩)
  dsimp only [Pt.U, Pt.locs, Pt.cells, Pt.slots] at X2 l2 y2 z2 st2 hQ2
  subst l2 y2 z2
  obtain ⟨rfl, N2q, e2⟩ := hQ2
  have N2 := Fr.app N0 N2q
  have pre2 : Go p.tables e below (s₁.setTop (entryFrame m #[(.int p0), (.int p1)] 2)) T2 (mkF m 11 #[.val (.int p0), .val (.int p1)] [(.int (own_cmp (p0 + (-2147483648 : Int32)) (p1 + (-2147483648 : Int32))))]) := fun t k => pre1 t (st2 _ k)
  obtain ⟨fs, hr, hrun, hended, hW, hsame⟩ := X2.leave (v := some (.int (own_cmp (p0 + (-2147483648 : Int32)) (p1 + (-2147483648 : Int32))))) (fun h => by rw [Bd.returns] at h; cases h) (BodyLoose.notSynchronized Bd)
  refine ⟨_, _, pre2 _ ?_, hrun, hended, _, _, rfl, ?_, ⟨_, rfl⟩, hW, hsame.mono (Nat.le_of_ble_eq_true rfl) (Nat.le_of_ble_eq_true rfl)⟩
  · exact retI X2 hx Bd.returns (hb hby d5_11) hr
  · show Q_cmpU Z p0 p1 h0 n0 _ T2.heap _
    rw [e2]
    exact ⟨by simp [own_cmpU], N2, rfl⟩
theorem d4_0 : decode prog_46_method_2_code 0 = .ok (.iload_n 0, 1) := by decide +kernel
theorem d4_1 : decode prog_46_method_2_code 1 = .ok (.iconst 3, 1) := by decide +kernel
theorem d4_2 : decode prog_46_method_2_code 2 = .ok (.invokestatic 9, 3) := by decide +kernel
theorem d4_5 : decode prog_46_method_2_code 5 = .ok (.ifCond .lt 7, 3) := by decide +kernel
theorem d4_8 : decode prog_46_method_2_code 8 = .ok (.iconst 1, 1) := by decide +kernel
theorem d4_9 : decode prog_46_method_2_code 9 = .ok (.goto 4, 3) := by decide +kernel
theorem d4_12 : decode prog_46_method_2_code 12 = .ok (.iconst 0, 1) := by decide +kernel
theorem d4_13 : decode prog_46_method_2_code 13 = .ok (.ireturn, 1) := by decide +kernel
theorem pn_isN : plainName "com/example/plain_snapshot/plainsnapshot/engine/TransactionId" = true := by first | (simp [plainName, overriddenIn]; done) | decide +kernel
theorem ef_isN (m : MethodId) (p0 : Int32) : entryFrame m #[(.int p0)] 1 = mkF m 0 #[.val (.int p0)] [] := by first | (simp [entryFrame, mkF, argsToLocals, Value.category]; done) | rfl
def Q_isN (Z : State) (p0 : Int32) (h0 : Heap) (n0 : Nat) (v : Option Value) (h : Heap) (L : List Loc) : Prop := v = some (.int (own_isN p0)) ∧ Fr n0 L ∧ h = h0
set_option maxRecDepth 65536 in
set_option maxHeartbeats 40000000 in
theorem rm_isN (l : Launch) (Z : State) (a0 : Array Value) (hw : ∀ d ∈ tables_1, d.before a0 Z = true) (ws : List Jvm.Cond) (p0 : Int32) (h0 : Heap) (n0 : Nat) :
    MetFree l (⟨"com/example/plain_snapshot/plainsnapshot/engine/TransactionId", "isNormal", "(I)Z"⟩ : MethodName) (head1 (Jvm.Cond.code (⟨"com/example/plain_snapshot/plainsnapshot/engine/TransactionId", "isNormal", "(I)Z"⟩ : MethodName) prog_46_method_2_code 1 (some .boolean) :: ws) ({ frames := 2, cells := 0, slots := 0, locals := 26 } : Room)) (fun a U => a = #[(.int p0)] ∧ Z.Warmed39 U.vm ∧ U.heap = h0) (fun _ _ _ _ _ => True) (fun _ U o U' => ∃ v L, o = .returned v ∧ Q_isN Z p0 h0 n0 v U'.heap L ∧ FrameEnd U o U' L ({ frames := 2, cells := 0, slots := 0, locals := 26 } : Room).cells ({ frames := 2, cells := 0, slots := 0, locals := 26 } : Room).slots) := by
  refine MetFree.of_bodySF (plainFor_of_name pn_isN) hisR ?_
  intro p e s m args below meth c s₁ Bd hml0 hP hK
  obtain ⟨rfl, hZ, hh⟩ := hP
  have hx := Bd.exec
  have hby := Bd.bytes
  have hml : c.maxLocals = 1 := hml0
  have hown : s.vm.findClass "com/example/plain_snapshot/plainsnapshot/engine/TransactionId" = some m.cls := findClass_of_methodNamed Bd.named
  have hnm := (name_of_methodNamed Bd.named Bd.method).1
  have X0 : Stand p l e ({ frames := 2, cells := 0, slots := 0, locals := 26 } : Room) s m #[(.int p0)] below meth c s₁ [] 0 0 := Stand.of_body Bd
  have e0 : s₁.heap = h0 := by rw [← hh, Bd.state]; rfl
  have N0 := Fr.nil n0
  have pre0 : Go p.tables e below (s₁.setTop (entryFrame m #[(.int p0)] 1)) s₁ (mkF m 0 #[.val (.int p0)] []) := fun t k => castTop (ef_isN m p0) k
  have pre1 : Go p.tables e below (s₁.setTop (entryFrame m #[(.int p0)] 1)) s₁ (mkF m 2 #[.val (.int p0)] [(.int (3 : Int32)), (.int p0)]) := fun t k => pre0 t (by
      refine XS.iloadN X0.here hx rfl (hb hby d4_0) rfl ?_
      show Steps p.tables e below (s₁.setTop (mkF m 1 #[.val (.int p0)] [(.int p0)])) _
      refine XS.iconst X0.here hx rfl (hb hby d4_1) ?_
      exact k)
  obtain ⟨_, _, ⟨T2, L2, k2, n2⟩, -, X2, ⟨Lc2, hQ2, l2, y2, z2⟩, st2⟩ := Jvm.LawKit.callS X0 hx (y := (⟨"java/lang/Integer", "compareUnsigned", "(II)I"⟩ : MethodName)) hown (mvT hZ (hw _ (List.mem_of_getElem? (i := 14) rfl))) (mvT hZ (hw _ (List.mem_of_getElem? (i := 15) rfl))) (mvT hZ (hw _ (List.mem_of_getElem? (i := 16) rfl))) (mvT hZ (hw _ (List.mem_of_getElem? (i := 17) rfl))) (by decide) (backOf (W := 0) (rm_cmpU l Z a0 hw [] p0 (3 : Int32) h0 n0) hZ (hw _ (List.mem_of_getElem? (i := 17) rfl)) (hw _ (List.mem_of_getElem? (i := 16) rfl)) (by decide) (by decide)) (g := (mkF m 2 #[.val (.int p0)] [(.int (3 : Int32)), (.int p0)])) rfl (by rw [hml]; rfl) (argsL := [(.int p0), (.int (3 : Int32))]) (rest := []) (lenOf pd_0 rfl) rfl (by show 2 * 0 + _ ≤ _; exact Nat.le_of_eq rfl) (hb hby d4_2) (fun _ _ => ⟨rfl, e0, (by decide : 0 + 0 ≤ _), (by decide : 0 + 0 ≤ _)⟩)
  dsimp only [Pt.U, Pt.locs, Pt.cells, Pt.slots] at X2 l2 y2 z2 st2 hQ2
  subst l2 y2 z2
  obtain ⟨rfl, N2q, e2⟩ := hQ2
  have N2 := Fr.app N0 N2q
  have pre2 : Go p.tables e below (s₁.setTop (entryFrame m #[(.int p0)] 1)) T2 (mkF m 5 #[.val (.int p0)] [(.int (own_cmpU p0 (3 : Int32)))]) := fun t k => pre1 t (st2 _ k)
  by_cases hc3 : (own_cmpU p0 (3 : Int32)) < (0 : Int32)
  · -- hc3: True
    have pre4 : Go p.tables e below (s₁.setTop (entryFrame m #[(.int p0)] 1)) T2 (mkF m 13 #[.val (.int p0)] [(.int (0 : Int32))]) := fun t k => pre2 t (by
        refine XS.ifYes X2.here hx rfl (pc0 := 5) (pc' := 12) rfl (hb hby d4_5) rfl ((if0 _ _).trans (tlt hc3).1) (by decide) (by decide) ?_
        show Steps p.tables e below (T2.setTop (mkF m 12 #[.val (.int p0)] [])) _
        refine XS.iconst X2.here hx rfl (hb hby d4_12) ?_
        exact k)
    obtain ⟨fs, hr, hrun, hended, hW, hsame⟩ := X2.leave (v := some (.int (0 : Int32))) (fun h => by rw [Bd.returns] at h; cases h) (BodyLoose.notSynchronized Bd)
    refine ⟨_, _, pre4 _ ?_, hrun, hended, _, _, rfl, ?_, ⟨_, rfl⟩, hW, hsame.mono (Nat.le_of_ble_eq_true rfl) (Nat.le_of_ble_eq_true rfl)⟩
    · exact retN X2 hx (t := .boolean) Bd.returns (by simp) (hb hby d4_13) hr
    · show Q_isN Z p0 h0 n0 _ T2.heap _
      rw [e2]
      exact ⟨by simp [own_isN, hc3], N2, rfl⟩
  · -- hc3: False
    have pre5 : Go p.tables e below (s₁.setTop (entryFrame m #[(.int p0)] 1)) T2 (mkF m 13 #[.val (.int p0)] [(.int (1 : Int32))]) := fun t k => pre2 t (by
        refine XS.ifNo X2.here hx rfl (hb hby d4_5) rfl ((if0 _ _).trans (flt hc3).1) ?_
        show Steps p.tables e below (T2.setTop (mkF m 8 #[.val (.int p0)] [])) _
        refine XS.iconst X2.here hx rfl (hb hby d4_8) ?_
        show Steps p.tables e below (T2.setTop (mkF m 9 #[.val (.int p0)] [(.int (1 : Int32))])) _
        refine XS.goto X2.here hx rfl (pc0 := 9) (pc' := 13) rfl (hb hby d4_9) (by decide) (by decide) ?_
        exact k)
    obtain ⟨fs, hr, hrun, hended, hW, hsame⟩ := X2.leave (v := some (.int (1 : Int32))) (fun h => by rw [Bd.returns] at h; cases h) (BodyLoose.notSynchronized Bd)
    refine ⟨_, _, pre5 _ ?_, hrun, hended, _, _, rfl, ?_, ⟨_, rfl⟩, hW, hsame.mono (Nat.le_of_ble_eq_true rfl) (Nat.le_of_ble_eq_true rfl)⟩
    · exact retN X2 hx (t := .boolean) Bd.returns (by simp) (hb hby d4_13) hr
    · show Q_isN Z p0 h0 n0 _ T2.heap _
      rw [e2]
      exact ⟨by simp [own_isN, hc3], N2, rfl⟩
theorem d3_0 : decode prog_46_method_3_code 0 = .ok (.iload_n 0, 1) := by decide +kernel
theorem d3_1 : decode prog_46_method_3_code 1 = .ok (.iconst 1, 1) := by decide +kernel
theorem d3_2 : decode prog_46_method_3_code 2 = .ok (.iadd, 1) := by decide +kernel
theorem d3_3 : decode prog_46_method_3_code 3 = .ok (.istore_n 1, 1) := by decide +kernel
theorem d3_4 : decode prog_46_method_3_code 4 = .ok (.iload_n 1, 1) := by decide +kernel
theorem d3_5 : decode prog_46_method_3_code 5 = .ok (.invokestatic 15, 3) := by decide +kernel
theorem d3_8 : decode prog_46_method_3_code 8 = .ok (.ifCond .ne 5, 3) := by decide +kernel
theorem d3_11 : decode prog_46_method_3_code 11 = .ok (.iconst 3, 1) := by decide +kernel
theorem d3_12 : decode prog_46_method_3_code 12 = .ok (.istore_n 1, 1) := by decide +kernel
theorem d3_13 : decode prog_46_method_3_code 13 = .ok (.iload_n 1, 1) := by decide +kernel
theorem d3_14 : decode prog_46_method_3_code 14 = .ok (.ireturn, 1) := by decide +kernel
theorem pn_next : plainName "com/example/plain_snapshot/plainsnapshot/engine/TransactionId" = true := by first | (simp [plainName, overriddenIn]; done) | decide +kernel
theorem ef_next (m : MethodId) (p0 : Int32) : entryFrame m #[(.int p0)] 2 = mkF m 0 #[.val (.int p0), .unset] [] := by first | (simp [entryFrame, mkF, argsToLocals, Value.category]; done) | rfl
def Q_next (Z : State) (p0 : Int32) (h0 : Heap) (n0 : Nat) (v : Option Value) (h : Heap) (L : List Loc) : Prop := v = some (.int (own_next p0)) ∧ Fr n0 L ∧ h = h0
set_option maxRecDepth 65536 in
set_option maxHeartbeats 40000000 in
theorem rm_next (l : Launch) (Z : State) (a0 : Array Value) (hw : ∀ d ∈ tables_1, d.before a0 Z = true) (ws : List Jvm.Cond) (p0 : Int32) (h0 : Heap) (n0 : Nat) :
    MetFree l (⟨"com/example/plain_snapshot/plainsnapshot/engine/TransactionId", "next", "(I)I"⟩ : MethodName) (head1 (Jvm.Cond.code (⟨"com/example/plain_snapshot/plainsnapshot/engine/TransactionId", "next", "(I)I"⟩ : MethodName) prog_46_method_3_code 2 (some .int) :: ws) ({ frames := 3, cells := 0, slots := 0, locals := 38 } : Room)) (fun a U => a = #[(.int p0)] ∧ Z.Warmed39 U.vm ∧ U.heap = h0) (fun _ _ _ _ _ => True) (fun _ U o U' => ∃ v L, o = .returned v ∧ Q_next Z p0 h0 n0 v U'.heap L ∧ FrameEnd U o U' L ({ frames := 3, cells := 0, slots := 0, locals := 38 } : Room).cells ({ frames := 3, cells := 0, slots := 0, locals := 38 } : Room).slots) := by
  refine MetFree.of_bodySF (plainFor_of_name pn_next) hisR ?_
  intro p e s m args below meth c s₁ Bd hml0 hP hK
  obtain ⟨rfl, hZ, hh⟩ := hP
  have hx := Bd.exec
  have hby := Bd.bytes
  have hml : c.maxLocals = 2 := hml0
  have hown : s.vm.findClass "com/example/plain_snapshot/plainsnapshot/engine/TransactionId" = some m.cls := findClass_of_methodNamed Bd.named
  have hnm := (name_of_methodNamed Bd.named Bd.method).1
  have X0 : Stand p l e ({ frames := 3, cells := 0, slots := 0, locals := 38 } : Room) s m #[(.int p0)] below meth c s₁ [] 0 0 := Stand.of_body Bd
  have e0 : s₁.heap = h0 := by rw [← hh, Bd.state]; rfl
  have N0 := Fr.nil n0
  have pre0 : Go p.tables e below (s₁.setTop (entryFrame m #[(.int p0)] 2)) s₁ (mkF m 0 #[.val (.int p0), .unset] []) := fun t k => castTop (ef_next m p0) k
  obtain ⟨w1, hw1⟩ : ∃ z : Int32, z = (p0 + (1 : Int32)) := ⟨_, rfl⟩
  have pre2 : Go p.tables e below (s₁.setTop (entryFrame m #[(.int p0)] 2)) s₁ (mkF m 5 #[.val (.int p0), .val (.int w1)] [(.int w1)]) := fun t k => pre0 t (by
      refine XS.iloadN X0.here hx rfl (hb hby d3_0) rfl ?_
      show Steps p.tables e below (s₁.setTop (mkF m 1 #[.val (.int p0), .unset] [(.int p0)])) _
      refine XS.iconst X0.here hx rfl (hb hby d3_1) ?_
      show Steps p.tables e below (s₁.setTop (mkF m 2 #[.val (.int p0), .unset] [(.int (1 : Int32)), (.int p0)])) _
      refine XS.iadd X0.here hx rfl (hb hby d3_2) rfl ?_
      show Steps p.tables e below (s₁.setTop (mkF m 3 #[.val (.int p0), .unset] [(.int (p0 + (1 : Int32)))])) _
      refine XS.istoreN X0.here hx rfl (x := w1) (rest := []) (hb hby d3_3) (by subst hw1; rfl) (l' := #[.val (.int p0), .val (.int w1)]) rfl ?_
      show Steps p.tables e below (s₁.setTop (mkF m 4 #[.val (.int p0), .val (.int w1)] [])) _
      refine XS.iloadN X0.here hx rfl (hb hby d3_4) rfl ?_
      exact k)
  obtain ⟨_, _, ⟨T3, L3, k3, n3⟩, -, X3, ⟨Lc3, hQ3, l3, y3, z3⟩, st3⟩ := Jvm.LawKit.callS X0 hx (y := (⟨"com/example/plain_snapshot/plainsnapshot/engine/TransactionId", "isNormal", "(I)Z"⟩ : MethodName)) hown (mvT hZ (hw _ (List.mem_of_getElem? (i := 11) rfl))) (mvT hZ (hw _ (List.mem_of_getElem? (i := 12) rfl))) (mvT hZ (hw _ (List.mem_of_getElem? (i := 6) rfl))) (mvT hZ (hw _ (List.mem_of_getElem? (i := 13) rfl))) (by decide) (backOf (W := 0) (rm_isN l Z a0 hw [] w1 h0 n0) hZ (hw _ (List.mem_of_getElem? (i := 13) rfl)) (hw _ (List.mem_of_getElem? (i := 6) rfl)) (by decide) (by decide)) (g := (mkF m 5 #[.val (.int p0), .val (.int w1)] [(.int w1)])) rfl (by rw [hml]; rfl) (argsL := [(.int w1)]) (rest := []) (lenOf pd_1 rfl) rfl (by show 2 * 0 + _ ≤ _; exact Nat.le_of_eq rfl) (hb hby d3_5) (fun _ _ => ⟨rfl, e0, (by decide : 0 + 0 ≤ _), (by decide : 0 + 0 ≤ _)⟩)
  dsimp only [Pt.U, Pt.locs, Pt.cells, Pt.slots] at X3 l3 y3 z3 st3 hQ3
  subst l3 y3 z3
  obtain ⟨rfl, N3q, e3⟩ := hQ3
  have N3 := Fr.app N0 N3q
  have pre3 : Go p.tables e below (s₁.setTop (entryFrame m #[(.int p0)] 2)) T3 (mkF m 8 #[.val (.int p0), .val (.int w1)] [(.int (own_isN w1))]) := fun t k => pre2 t (st3 _ k)
  by_cases hc4 : (own_isN w1) = (0 : Int32)
  · -- hc4: True
    have pre5 : Go p.tables e below (s₁.setTop (entryFrame m #[(.int p0)] 2)) T3 (mkF m 14 #[.val (.int p0), .val (.int (3 : Int32))] [(.int (3 : Int32))]) := fun t k => pre3 t (by
        refine XS.ifNo X3.here hx rfl (hb hby d3_8) rfl ((if0 _ _).trans (teq hc4).2) ?_
        show Steps p.tables e below (T3.setTop (mkF m 11 #[.val (.int p0), .val (.int w1)] [])) _
        refine XS.iconst X3.here hx rfl (hb hby d3_11) ?_
        show Steps p.tables e below (T3.setTop (mkF m 12 #[.val (.int p0), .val (.int w1)] [(.int (3 : Int32))])) _
        refine XS.istoreN X3.here hx rfl (hb hby d3_12) rfl (l' := #[.val (.int p0), .val (.int (3 : Int32))]) rfl ?_
        show Steps p.tables e below (T3.setTop (mkF m 13 #[.val (.int p0), .val (.int (3 : Int32))] [])) _
        refine XS.iloadN X3.here hx rfl (hb hby d3_13) rfl ?_
        exact k)
    obtain ⟨fs, hr, hrun, hended, hW, hsame⟩ := X3.leave (v := some (.int (3 : Int32))) (fun h => by rw [Bd.returns] at h; cases h) (BodyLoose.notSynchronized Bd)
    refine ⟨_, _, pre5 _ ?_, hrun, hended, _, _, rfl, ?_, ⟨_, rfl⟩, hW, hsame.mono (Nat.le_of_ble_eq_true rfl) (Nat.le_of_ble_eq_true rfl)⟩
    · exact retI X3 hx Bd.returns (hb hby d3_14) hr
    · show Q_next Z p0 h0 n0 _ T3.heap _
      rw [e3]
      subst hw1
      exact ⟨by simp [own_next, hc4], N3, rfl⟩
  · -- hc4: False
    have pre6 : Go p.tables e below (s₁.setTop (entryFrame m #[(.int p0)] 2)) T3 (mkF m 14 #[.val (.int p0), .val (.int w1)] [(.int w1)]) := fun t k => pre3 t (by
        refine XS.ifYes X3.here hx rfl (pc0 := 8) (pc' := 13) rfl (hb hby d3_8) rfl ((if0 _ _).trans (feq hc4).2) (by decide) (by decide) ?_
        show Steps p.tables e below (T3.setTop (mkF m 13 #[.val (.int p0), .val (.int w1)] [])) _
        refine XS.iloadN X3.here hx rfl (hb hby d3_13) rfl ?_
        exact k)
    obtain ⟨fs, hr, hrun, hended, hW, hsame⟩ := X3.leave (v := some (.int w1)) (fun h => by rw [Bd.returns] at h; cases h) (BodyLoose.notSynchronized Bd)
    refine ⟨_, _, pre6 _ ?_, hrun, hended, _, _, rfl, ?_, ⟨_, rfl⟩, hW, hsame.mono (Nat.le_of_ble_eq_true rfl) (Nat.le_of_ble_eq_true rfl)⟩
    · exact retI X3 hx Bd.returns (hb hby d3_14) hr
    · show Q_next Z p0 h0 n0 _ T3.heap _
      rw [e3]
      subst hw1
      exact ⟨by simp [own_next, hc4], N3, rfl⟩
theorem d2_0 : decode prog_46_method_4_code 0 = .ok (.iload_n 0, 1) := by decide +kernel
theorem d2_1 : decode prog_46_method_4_code 1 = .ok (.iconst 3, 1) := by decide +kernel
theorem d2_2 : decode prog_46_method_4_code 2 = .ok (.if_icmp .ne 7, 3) := by decide +kernel
theorem d2_5 : decode prog_46_method_4_code 5 = .ok (.iconst (-1), 1) := by decide +kernel
theorem d2_6 : decode prog_46_method_4_code 6 = .ok (.goto 6, 3) := by decide +kernel
theorem d2_9 : decode prog_46_method_4_code 9 = .ok (.iload_n 0, 1) := by decide +kernel
theorem d2_10 : decode prog_46_method_4_code 10 = .ok (.iconst 1, 1) := by decide +kernel
theorem d2_11 : decode prog_46_method_4_code 11 = .ok (.isub, 1) := by decide +kernel
theorem d2_12 : decode prog_46_method_4_code 12 = .ok (.ireturn, 1) := by decide +kernel
theorem pn_prev : plainName "com/example/plain_snapshot/plainsnapshot/engine/TransactionId" = true := by first | (simp [plainName, overriddenIn]; done) | decide +kernel
theorem ef_prev (m : MethodId) (p0 : Int32) : entryFrame m #[(.int p0)] 1 = mkF m 0 #[.val (.int p0)] [] := by first | (simp [entryFrame, mkF, argsToLocals, Value.category]; done) | rfl
def Q_prev (Z : State) (p0 : Int32) (h0 : Heap) (n0 : Nat) (v : Option Value) (h : Heap) (L : List Loc) : Prop := v = some (.int (own_prev p0)) ∧ Fr n0 L ∧ h = h0
set_option maxRecDepth 65536 in
set_option maxHeartbeats 40000000 in
theorem rm_prev (l : Launch) (Z : State) (a0 : Array Value) (hw : ∀ d ∈ tables_1, d.before a0 Z = true) (ws : List Jvm.Cond) (p0 : Int32) (h0 : Heap) (n0 : Nat) :
    MetFree l (⟨"com/example/plain_snapshot/plainsnapshot/engine/TransactionId", "previous", "(I)I"⟩ : MethodName) (head1 (Jvm.Cond.code (⟨"com/example/plain_snapshot/plainsnapshot/engine/TransactionId", "previous", "(I)I"⟩ : MethodName) prog_46_method_4_code 1 (some .int) :: ws) ({ frames := 0, cells := 0, slots := 0, locals := 0 } : Room)) (fun a U => a = #[(.int p0)] ∧ Z.Warmed39 U.vm ∧ U.heap = h0) (fun _ _ _ _ _ => True) (fun _ U o U' => ∃ v L, o = .returned v ∧ Q_prev Z p0 h0 n0 v U'.heap L ∧ FrameEnd U o U' L ({ frames := 0, cells := 0, slots := 0, locals := 0 } : Room).cells ({ frames := 0, cells := 0, slots := 0, locals := 0 } : Room).slots) := by
  refine MetFree.of_bodySF (plainFor_of_name pn_prev) hisR ?_
  intro p e s m args below meth c s₁ Bd hml0 hP hK
  obtain ⟨rfl, hZ, hh⟩ := hP
  have hx := Bd.exec
  have hby := Bd.bytes
  have hml : c.maxLocals = 1 := hml0
  have hown : s.vm.findClass "com/example/plain_snapshot/plainsnapshot/engine/TransactionId" = some m.cls := findClass_of_methodNamed Bd.named
  have hnm := (name_of_methodNamed Bd.named Bd.method).1
  have X0 : Stand p l e ({ frames := 0, cells := 0, slots := 0, locals := 0 } : Room) s m #[(.int p0)] below meth c s₁ [] 0 0 := Stand.of_body Bd
  have e0 : s₁.heap = h0 := by rw [← hh, Bd.state]; rfl
  have N0 := Fr.nil n0
  have pre0 : Go p.tables e below (s₁.setTop (entryFrame m #[(.int p0)] 1)) s₁ (mkF m 0 #[.val (.int p0)] []) := fun t k => castTop (ef_prev m p0) k
  have pre1 : Go p.tables e below (s₁.setTop (entryFrame m #[(.int p0)] 1)) s₁ (mkF m 2 #[.val (.int p0)] [(.int (3 : Int32)), (.int p0)]) := fun t k => pre0 t (by
      refine XS.iloadN X0.here hx rfl (hb hby d2_0) rfl ?_
      show Steps p.tables e below (s₁.setTop (mkF m 1 #[.val (.int p0)] [(.int p0)])) _
      refine XS.iconst X0.here hx rfl (hb hby d2_1) ?_
      exact k)
  by_cases hc2 : p0 = (3 : Int32)
  · -- hc2: True
    have pre3 : Go p.tables e below (s₁.setTop (entryFrame m #[(.int p0)] 1)) s₁ (mkF m 12 #[.val (.int p0)] [(.int (-1 : Int32))]) := fun t k => pre1 t (by
        refine XS.icmpNo X0.here hx rfl (hb hby d2_2) rfl (teq hc2).2 ?_
        show Steps p.tables e below (s₁.setTop (mkF m 5 #[.val (.int p0)] [])) _
        refine XS.iconst X0.here hx rfl (hb hby d2_5) ?_
        show Steps p.tables e below (s₁.setTop (mkF m 6 #[.val (.int p0)] [(.int (-1 : Int32))])) _
        refine XS.goto X0.here hx rfl (pc0 := 6) (pc' := 12) rfl (hb hby d2_6) (by decide) (by decide) ?_
        exact k)
    obtain ⟨fs, hr, hrun, hended, hW, hsame⟩ := X0.leave (v := some (.int (-1 : Int32))) (fun h => by rw [Bd.returns] at h; cases h) (BodyLoose.notSynchronized Bd)
    refine ⟨_, _, pre3 _ ?_, hrun, hended, _, _, rfl, ?_, ⟨_, rfl⟩, hW, hsame.mono (Nat.le_of_ble_eq_true rfl) (Nat.le_of_ble_eq_true rfl)⟩
    · exact retI X0 hx Bd.returns (hb hby d2_12) hr
    · show Q_prev Z p0 h0 n0 _ s₁.heap _
      rw [e0]
      exact ⟨by simp [own_prev, hc2], N0, rfl⟩
  · -- hc2: False
    have pre4 : Go p.tables e below (s₁.setTop (entryFrame m #[(.int p0)] 1)) s₁ (mkF m 12 #[.val (.int p0)] [(.int (p0 - (1 : Int32)))]) := fun t k => pre1 t (by
        refine XS.icmpYes X0.here hx rfl (pc0 := 2) (pc' := 9) rfl (hb hby d2_2) rfl (feq hc2).2 (by decide) (by decide) ?_
        show Steps p.tables e below (s₁.setTop (mkF m 9 #[.val (.int p0)] [])) _
        refine XS.iloadN X0.here hx rfl (hb hby d2_9) rfl ?_
        show Steps p.tables e below (s₁.setTop (mkF m 10 #[.val (.int p0)] [(.int p0)])) _
        refine XS.iconst X0.here hx rfl (hb hby d2_10) ?_
        show Steps p.tables e below (s₁.setTop (mkF m 11 #[.val (.int p0)] [(.int (1 : Int32)), (.int p0)])) _
        refine XS.isub X0.here hx rfl (hb hby d2_11) rfl ?_
        exact k)
    obtain ⟨fs, hr, hrun, hended, hW, hsame⟩ := X0.leave (v := some (.int (p0 - (1 : Int32)))) (fun h => by rw [Bd.returns] at h; cases h) (BodyLoose.notSynchronized Bd)
    refine ⟨_, _, pre4 _ ?_, hrun, hended, _, _, rfl, ?_, ⟨_, rfl⟩, hW, hsame.mono (Nat.le_of_ble_eq_true rfl) (Nat.le_of_ble_eq_true rfl)⟩
    · exact retI X0 hx Bd.returns (hb hby d2_12) hr
    · show Q_prev Z p0 h0 n0 _ s₁.heap _
      rw [e0]
      exact ⟨by simp [own_prev, hc2], N0, rfl⟩
theorem d1_0 : decode method_2_code 0 = .ok (.iload_n 0, 1) := by decide +kernel
theorem d1_1 : decode method_2_code 1 = .ok (.ifCond .lt 12, 3) := by decide +kernel
theorem d1_4 : decode method_2_code 4 = .ok (.iload_n 0, 1) := by decide +kernel
theorem d1_5 : decode method_2_code 5 = .ok (.iconst 3, 1) := by decide +kernel
theorem d1_6 : decode method_2_code 6 = .ok (.if_icmp .ge 7, 3) := by decide +kernel
theorem d1_9 : decode method_2_code 9 = .ok (.iconst 1, 1) := by decide +kernel
theorem d1_10 : decode method_2_code 10 = .ok (.goto 4, 3) := by decide +kernel
theorem d1_13 : decode method_2_code 13 = .ok (.iconst 0, 1) := by decide +kernel
theorem d1_14 : decode method_2_code 14 = .ok (.ireturn, 1) := by decide +kernel
theorem pn_res : plainName "com/example/plain_snapshot/plainsnapshot/engine/TransactionIdPreviousPinLaw" = true := by first | (simp [plainName, overriddenIn]; done) | decide +kernel
theorem ef_res (m : MethodId) (p0 : Int32) : entryFrame m #[(.int p0)] 1 = mkF m 0 #[.val (.int p0)] [] := by first | (simp [entryFrame, mkF, argsToLocals, Value.category]; done) | rfl
def Q_res (Z : State) (p0 : Int32) (h0 : Heap) (n0 : Nat) (v : Option Value) (h : Heap) (L : List Loc) : Prop := v = some (.int (own_res p0)) ∧ Fr n0 L ∧ h = h0
set_option maxRecDepth 65536 in
set_option maxHeartbeats 40000000 in
theorem rm_res (l : Launch) (Z : State) (a0 : Array Value) (hw : ∀ d ∈ tables_1, d.before a0 Z = true) (ws : List Jvm.Cond) (p0 : Int32) (h0 : Heap) (n0 : Nat) :
    MetFree l (⟨"com/example/plain_snapshot/plainsnapshot/engine/TransactionIdPreviousPinLaw", "reserved", "(I)Z"⟩ : MethodName) (head1 (Jvm.Cond.code (⟨"com/example/plain_snapshot/plainsnapshot/engine/TransactionIdPreviousPinLaw", "reserved", "(I)Z"⟩ : MethodName) method_2_code 1 (some .boolean) :: ws) ({ frames := 0, cells := 0, slots := 0, locals := 0 } : Room)) (fun a U => a = #[(.int p0)] ∧ Z.Warmed39 U.vm ∧ U.heap = h0) (fun _ _ _ _ _ => True) (fun _ U o U' => ∃ v L, o = .returned v ∧ Q_res Z p0 h0 n0 v U'.heap L ∧ FrameEnd U o U' L ({ frames := 0, cells := 0, slots := 0, locals := 0 } : Room).cells ({ frames := 0, cells := 0, slots := 0, locals := 0 } : Room).slots) := by
  refine MetFree.of_bodySF (plainFor_of_name pn_res) hisR ?_
  intro p e s m args below meth c s₁ Bd hml0 hP hK
  obtain ⟨rfl, hZ, hh⟩ := hP
  have hx := Bd.exec
  have hby := Bd.bytes
  have hml : c.maxLocals = 1 := hml0
  have hown : s.vm.findClass "com/example/plain_snapshot/plainsnapshot/engine/TransactionIdPreviousPinLaw" = some m.cls := findClass_of_methodNamed Bd.named
  have hnm := (name_of_methodNamed Bd.named Bd.method).1
  have X0 : Stand p l e ({ frames := 0, cells := 0, slots := 0, locals := 0 } : Room) s m #[(.int p0)] below meth c s₁ [] 0 0 := Stand.of_body Bd
  have e0 : s₁.heap = h0 := by rw [← hh, Bd.state]; rfl
  have N0 := Fr.nil n0
  have pre0 : Go p.tables e below (s₁.setTop (entryFrame m #[(.int p0)] 1)) s₁ (mkF m 0 #[.val (.int p0)] []) := fun t k => castTop (ef_res m p0) k
  have pre1 : Go p.tables e below (s₁.setTop (entryFrame m #[(.int p0)] 1)) s₁ (mkF m 1 #[.val (.int p0)] [(.int p0)]) := fun t k => pre0 t (by
      refine XS.iloadN X0.here hx rfl (hb hby d1_0) rfl ?_
      exact k)
  by_cases hc2 : p0 < (0 : Int32)
  · -- hc2: True
    have pre3 : Go p.tables e below (s₁.setTop (entryFrame m #[(.int p0)] 1)) s₁ (mkF m 14 #[.val (.int p0)] [(.int (0 : Int32))]) := fun t k => pre1 t (by
        refine XS.ifYes X0.here hx rfl (pc0 := 1) (pc' := 13) rfl (hb hby d1_1) rfl ((if0 _ _).trans (tlt hc2).1) (by decide) (by decide) ?_
        show Steps p.tables e below (s₁.setTop (mkF m 13 #[.val (.int p0)] [])) _
        refine XS.iconst X0.here hx rfl (hb hby d1_13) ?_
        exact k)
    obtain ⟨fs, hr, hrun, hended, hW, hsame⟩ := X0.leave (v := some (.int (0 : Int32))) (fun h => by rw [Bd.returns] at h; cases h) (BodyLoose.notSynchronized Bd)
    refine ⟨_, _, pre3 _ ?_, hrun, hended, _, _, rfl, ?_, ⟨_, rfl⟩, hW, hsame.mono (Nat.le_of_ble_eq_true rfl) (Nat.le_of_ble_eq_true rfl)⟩
    · exact retN X0 hx (t := .boolean) Bd.returns (by simp) (hb hby d1_14) hr
    · show Q_res Z p0 h0 n0 _ s₁.heap _
      rw [e0]
      exact ⟨by simp [own_res, hc2], N0, rfl⟩
  · -- hc2: False
    have pre4 : Go p.tables e below (s₁.setTop (entryFrame m #[(.int p0)] 1)) s₁ (mkF m 6 #[.val (.int p0)] [(.int (3 : Int32)), (.int p0)]) := fun t k => pre1 t (by
        refine XS.ifNo X0.here hx rfl (hb hby d1_1) rfl ((if0 _ _).trans (flt hc2).1) ?_
        show Steps p.tables e below (s₁.setTop (mkF m 4 #[.val (.int p0)] [])) _
        refine XS.iloadN X0.here hx rfl (hb hby d1_4) rfl ?_
        show Steps p.tables e below (s₁.setTop (mkF m 5 #[.val (.int p0)] [(.int p0)])) _
        refine XS.iconst X0.here hx rfl (hb hby d1_5) ?_
        exact k)
    by_cases hc5 : p0 < (3 : Int32)
    · -- hc5: True
      have pre6 : Go p.tables e below (s₁.setTop (entryFrame m #[(.int p0)] 1)) s₁ (mkF m 14 #[.val (.int p0)] [(.int (1 : Int32))]) := fun t k => pre4 t (by
          refine XS.icmpNo X0.here hx rfl (hb hby d1_6) rfl (tlt hc5).2.1 ?_
          show Steps p.tables e below (s₁.setTop (mkF m 9 #[.val (.int p0)] [])) _
          refine XS.iconst X0.here hx rfl (hb hby d1_9) ?_
          show Steps p.tables e below (s₁.setTop (mkF m 10 #[.val (.int p0)] [(.int (1 : Int32))])) _
          refine XS.goto X0.here hx rfl (pc0 := 10) (pc' := 14) rfl (hb hby d1_10) (by decide) (by decide) ?_
          exact k)
      obtain ⟨fs, hr, hrun, hended, hW, hsame⟩ := X0.leave (v := some (.int (1 : Int32))) (fun h => by rw [Bd.returns] at h; cases h) (BodyLoose.notSynchronized Bd)
      refine ⟨_, _, pre6 _ ?_, hrun, hended, _, _, rfl, ?_, ⟨_, rfl⟩, hW, hsame.mono (Nat.le_of_ble_eq_true rfl) (Nat.le_of_ble_eq_true rfl)⟩
      · exact retN X0 hx (t := .boolean) Bd.returns (by simp) (hb hby d1_14) hr
      · show Q_res Z p0 h0 n0 _ s₁.heap _
        rw [e0]
        exact ⟨by simp [own_res, hc2, hc5], N0, rfl⟩
    · -- hc5: False
      have pre7 : Go p.tables e below (s₁.setTop (entryFrame m #[(.int p0)] 1)) s₁ (mkF m 14 #[.val (.int p0)] [(.int (0 : Int32))]) := fun t k => pre4 t (by
          refine XS.icmpYes X0.here hx rfl (pc0 := 6) (pc' := 13) rfl (hb hby d1_6) rfl (flt hc5).2.1 (by decide) (by decide) ?_
          show Steps p.tables e below (s₁.setTop (mkF m 13 #[.val (.int p0)] [])) _
          refine XS.iconst X0.here hx rfl (hb hby d1_13) ?_
          exact k)
      obtain ⟨fs, hr, hrun, hended, hW, hsame⟩ := X0.leave (v := some (.int (0 : Int32))) (fun h => by rw [Bd.returns] at h; cases h) (BodyLoose.notSynchronized Bd)
      refine ⟨_, _, pre7 _ ?_, hrun, hended, _, _, rfl, ?_, ⟨_, rfl⟩, hW, hsame.mono (Nat.le_of_ble_eq_true rfl) (Nat.le_of_ble_eq_true rfl)⟩
      · exact retN X0 hx (t := .boolean) Bd.returns (by simp) (hb hby d1_14) hr
      · show Q_res Z p0 h0 n0 _ s₁.heap _
        rw [e0]
        exact ⟨by simp [own_res, hc2, hc5], N0, rfl⟩
theorem pn_law : plainName "com/example/plain_snapshot/plainsnapshot/engine/TransactionIdPreviousPinLaw" = true := by first | (simp [plainName, overriddenIn]; done) | decide +kernel
theorem ef_law (m : MethodId) (r0 : Int32) (m0 : Int32) : entryFrame m #[(.int r0), (.int m0)] maxLocals = mkF m 0 #[.val (.int r0), .val (.int m0), .unset, .unset, .unset] [] := by first | (simp [entryFrame, mkF, argsToLocals, Value.category, maxLocals]; done) | rfl
def Q_law (Z : State) (r0 : Int32) (m0 : Int32) (h0 : Heap) (n0 : Nat) (v : Option Value) (h : Heap) (L : List Loc) : Prop := v = some (.int 1) ∧ Fr n0 L
set_option maxRecDepth 65536 in
set_option maxHeartbeats 40000000 in
theorem rm_law (l : Launch) (Z : State) (a0 : Array Value) (hw : ∀ d ∈ tables_1, d.before a0 Z = true) (ws : List Jvm.Cond) (r0 : Int32) (m0 : Int32) (h0 : Heap) (n0 : Nat) (Z0 : n0 ≤ h0.size) :
    MetFree l x (head1 (Jvm.Cond.code x code maxLocals ret :: ws) room_1) (fun a U => a = #[(.int r0), (.int m0)] ∧ Z.Warmed39 U.vm ∧ U.heap = h0) (fun _ _ _ _ _ => True) (fun _ U o U' => ∃ v L, o = .returned v ∧ Q_law Z r0 m0 h0 n0 v U'.heap L ∧ FrameEnd U o U' L room_1.cells room_1.slots) := by
  refine MetFree.of_bodySF (plainFor_of_name pn_law) hisR ?_
  intro p e s m args below meth c s₁ Bd hml0 hP hK
  obtain ⟨rfl, hZ, hh⟩ := hP
  have hx := Bd.exec
  have hby := Bd.bytes
  have hml : c.maxLocals = 5 := hml0
  have hown : s.vm.findClass "com/example/plain_snapshot/plainsnapshot/engine/TransactionIdPreviousPinLaw" = some m.cls := findClass_of_methodNamed Bd.named
  have hnm := (name_of_methodNamed Bd.named Bd.method).1
  have X0 : Stand p l e room_1 s m #[(.int r0), (.int m0)] below meth c s₁ [] 0 0 := Stand.of_body Bd
  have e0 : s₁.heap = h0 := by rw [← hh, Bd.state]; rfl
  have N0 := Fr.nil n0
  have pre0 : Go p.tables e below (s₁.setTop (entryFrame m #[(.int r0), (.int m0)] maxLocals)) s₁ (mkF m 0 #[.val (.int r0), .val (.int m0), .unset, .unset, .unset] []) := fun t k => castTop (ef_law m r0 m0) k
  obtain ⟨w1, hw1⟩ : ∃ z : Int32, z = (m0 &&& (3 : Int32)) := ⟨_, rfl⟩
  have pre2 : Go p.tables e below (s₁.setTop (entryFrame m #[(.int r0), (.int m0)] maxLocals)) s₁ (mkF m 6 #[.val (.int r0), .val (.int m0), .val (.int w1), .unset, .unset] [(.int (1 : Int32)), (.int w1)]) := fun t k => pre0 t (by
      refine XS.iloadN X0.here hx rfl (hb hby at_0) rfl ?_
      show Steps p.tables e below (s₁.setTop (mkF m 1 #[.val (.int r0), .val (.int m0), .unset, .unset, .unset] [(.int m0)])) _
      refine XS.iconst X0.here hx rfl (hb hby at_1) ?_
      show Steps p.tables e below (s₁.setTop (mkF m 2 #[.val (.int r0), .val (.int m0), .unset, .unset, .unset] [(.int (3 : Int32)), (.int m0)])) _
      refine XS.iand X0.here hx rfl (hb hby at_2) rfl ?_
      show Steps p.tables e below (s₁.setTop (mkF m 3 #[.val (.int r0), .val (.int m0), .unset, .unset, .unset] [(.int (m0 &&& (3 : Int32)))])) _
      refine XS.istoreN X0.here hx rfl (x := w1) (rest := []) (hb hby at_3) (by subst hw1; rfl) (l' := #[.val (.int r0), .val (.int m0), .val (.int w1), .unset, .unset]) rfl ?_
      show Steps p.tables e below (s₁.setTop (mkF m 4 #[.val (.int r0), .val (.int m0), .val (.int w1), .unset, .unset] [])) _
      refine XS.iloadN X0.here hx rfl (hb hby at_4) rfl ?_
      show Steps p.tables e below (s₁.setTop (mkF m 5 #[.val (.int r0), .val (.int m0), .val (.int w1), .unset, .unset] [(.int w1)])) _
      refine XS.iconst X0.here hx rfl (hb hby at_5) ?_
      exact k)
  obtain ⟨T3, L3, w4, X3, e3, N3, hw4, pre3⟩ : ∃ (T3 : State) (L3 : List Loc) (w4 : Int32), Stand p l e room_1 s m #[(.int r0), (.int m0)] below meth c T3 L3 0 0 ∧ T3.heap = h0 ∧ Fr n0 L3 ∧ w4 = (if w1 = (1 : Int32) then (3 : Int32) else (if w1 = (2 : Int32) then (-1 : Int32) else (if w1 = (3 : Int32) then (4 : Int32) else r0))) ∧ Go p.tables e below (s₁.setTop (entryFrame m #[(.int r0), (.int m0)] maxLocals)) T3 (mkF m 36 #[.val (.int r0), .val (.int m0), .val (.int w1), .val (.int w4), .unset] []) := by
    by_cases hc5 : w1 = (1 : Int32)
    · -- hc5: True
      have pre6 : Go p.tables e below (s₁.setTop (entryFrame m #[(.int r0), (.int m0)] maxLocals)) s₁ (mkF m 36 #[.val (.int r0), .val (.int m0), .val (.int w1), .val (.int (3 : Int32)), .unset] []) := fun t k => pre2 t (by
          refine XS.icmpNo X0.here hx rfl (hb hby at_6) rfl (teq hc5).2 ?_
          show Steps p.tables e below (s₁.setTop (mkF m 9 #[.val (.int r0), .val (.int m0), .val (.int w1), .unset, .unset] [])) _
          refine XS.iconst X0.here hx rfl (hb hby at_9) ?_
          show Steps p.tables e below (s₁.setTop (mkF m 10 #[.val (.int r0), .val (.int m0), .val (.int w1), .unset, .unset] [(.int (3 : Int32))])) _
          refine XS.istoreN X0.here hx rfl (hb hby at_10) rfl (l' := #[.val (.int r0), .val (.int m0), .val (.int w1), .val (.int (3 : Int32)), .unset]) rfl ?_
          show Steps p.tables e below (s₁.setTop (mkF m 11 #[.val (.int r0), .val (.int m0), .val (.int w1), .val (.int (3 : Int32)), .unset] [])) _
          refine XS.goto X0.here hx rfl (pc0 := 11) (pc' := 36) rfl (hb hby at_11) (by decide) (by decide) ?_
          exact k)
      refine ⟨_, _, _, X0, e0, N0, ?_, pre6⟩
      · exact (if_pos hc5).symm
    · -- hc5: False
      have pre7 : Go p.tables e below (s₁.setTop (entryFrame m #[(.int r0), (.int m0)] maxLocals)) s₁ (mkF m 16 #[.val (.int r0), .val (.int m0), .val (.int w1), .unset, .unset] [(.int (2 : Int32)), (.int w1)]) := fun t k => pre2 t (by
          refine XS.icmpYes X0.here hx rfl (pc0 := 6) (pc' := 14) rfl (hb hby at_6) rfl (feq hc5).2 (by decide) (by decide) ?_
          show Steps p.tables e below (s₁.setTop (mkF m 14 #[.val (.int r0), .val (.int m0), .val (.int w1), .unset, .unset] [])) _
          refine XS.iloadN X0.here hx rfl (hb hby at_14) rfl ?_
          show Steps p.tables e below (s₁.setTop (mkF m 15 #[.val (.int r0), .val (.int m0), .val (.int w1), .unset, .unset] [(.int w1)])) _
          refine XS.iconst X0.here hx rfl (hb hby at_15) ?_
          exact k)
      by_cases hc8 : w1 = (2 : Int32)
      · -- hc8: True
        have pre9 : Go p.tables e below (s₁.setTop (entryFrame m #[(.int r0), (.int m0)] maxLocals)) s₁ (mkF m 36 #[.val (.int r0), .val (.int m0), .val (.int w1), .val (.int (-1 : Int32)), .unset] []) := fun t k => pre7 t (by
            refine XS.icmpNo X0.here hx rfl (hb hby at_16) rfl (teq hc8).2 ?_
            show Steps p.tables e below (s₁.setTop (mkF m 19 #[.val (.int r0), .val (.int m0), .val (.int w1), .unset, .unset] [])) _
            refine XS.iconst X0.here hx rfl (hb hby at_19) ?_
            show Steps p.tables e below (s₁.setTop (mkF m 20 #[.val (.int r0), .val (.int m0), .val (.int w1), .unset, .unset] [(.int (-1 : Int32))])) _
            refine XS.istoreN X0.here hx rfl (hb hby at_20) rfl (l' := #[.val (.int r0), .val (.int m0), .val (.int w1), .val (.int (-1 : Int32)), .unset]) rfl ?_
            show Steps p.tables e below (s₁.setTop (mkF m 21 #[.val (.int r0), .val (.int m0), .val (.int w1), .val (.int (-1 : Int32)), .unset] [])) _
            refine XS.goto X0.here hx rfl (pc0 := 21) (pc' := 36) rfl (hb hby at_21) (by decide) (by decide) ?_
            exact k)
        refine ⟨_, _, _, X0, e0, N0, ?_, pre9⟩
        · exact ((if_neg hc5).trans (if_pos hc8)).symm
      · -- hc8: False
        have pre10 : Go p.tables e below (s₁.setTop (entryFrame m #[(.int r0), (.int m0)] maxLocals)) s₁ (mkF m 26 #[.val (.int r0), .val (.int m0), .val (.int w1), .unset, .unset] [(.int (3 : Int32)), (.int w1)]) := fun t k => pre7 t (by
            refine XS.icmpYes X0.here hx rfl (pc0 := 16) (pc' := 24) rfl (hb hby at_16) rfl (feq hc8).2 (by decide) (by decide) ?_
            show Steps p.tables e below (s₁.setTop (mkF m 24 #[.val (.int r0), .val (.int m0), .val (.int w1), .unset, .unset] [])) _
            refine XS.iloadN X0.here hx rfl (hb hby at_24) rfl ?_
            show Steps p.tables e below (s₁.setTop (mkF m 25 #[.val (.int r0), .val (.int m0), .val (.int w1), .unset, .unset] [(.int w1)])) _
            refine XS.iconst X0.here hx rfl (hb hby at_25) ?_
            exact k)
        by_cases hc11 : w1 = (3 : Int32)
        · -- hc11: True
          have pre12 : Go p.tables e below (s₁.setTop (entryFrame m #[(.int r0), (.int m0)] maxLocals)) s₁ (mkF m 36 #[.val (.int r0), .val (.int m0), .val (.int w1), .val (.int (4 : Int32)), .unset] []) := fun t k => pre10 t (by
              refine XS.icmpNo X0.here hx rfl (hb hby at_26) rfl (teq hc11).2 ?_
              show Steps p.tables e below (s₁.setTop (mkF m 29 #[.val (.int r0), .val (.int m0), .val (.int w1), .unset, .unset] [])) _
              refine XS.iconst X0.here hx rfl (hb hby at_29) ?_
              show Steps p.tables e below (s₁.setTop (mkF m 30 #[.val (.int r0), .val (.int m0), .val (.int w1), .unset, .unset] [(.int (4 : Int32))])) _
              refine XS.istoreN X0.here hx rfl (hb hby at_30) rfl (l' := #[.val (.int r0), .val (.int m0), .val (.int w1), .val (.int (4 : Int32)), .unset]) rfl ?_
              show Steps p.tables e below (s₁.setTop (mkF m 31 #[.val (.int r0), .val (.int m0), .val (.int w1), .val (.int (4 : Int32)), .unset] [])) _
              refine XS.goto X0.here hx rfl (pc0 := 31) (pc' := 36) rfl (hb hby at_31) (by decide) (by decide) ?_
              exact k)
          refine ⟨_, _, _, X0, e0, N0, ?_, pre12⟩
          · exact ((if_neg hc5).trans ((if_neg hc8).trans (if_pos hc11))).symm
        · -- hc11: False
          have pre13 : Go p.tables e below (s₁.setTop (entryFrame m #[(.int r0), (.int m0)] maxLocals)) s₁ (mkF m 36 #[.val (.int r0), .val (.int m0), .val (.int w1), .val (.int r0), .unset] []) := fun t k => pre10 t (by
              refine XS.icmpYes X0.here hx rfl (pc0 := 26) (pc' := 34) rfl (hb hby at_26) rfl (feq hc11).2 (by decide) (by decide) ?_
              show Steps p.tables e below (s₁.setTop (mkF m 34 #[.val (.int r0), .val (.int m0), .val (.int w1), .unset, .unset] [])) _
              refine XS.iloadN X0.here hx rfl (hb hby at_34) rfl ?_
              show Steps p.tables e below (s₁.setTop (mkF m 35 #[.val (.int r0), .val (.int m0), .val (.int w1), .unset, .unset] [(.int r0)])) _
              refine XS.istoreN X0.here hx rfl (hb hby at_35) rfl (l' := #[.val (.int r0), .val (.int m0), .val (.int w1), .val (.int r0), .unset]) rfl ?_
              exact k)
          refine ⟨_, _, _, X0, e0, N0, ?_, pre13⟩
          · exact ((if_neg hc5).trans ((if_neg hc8).trans (if_neg hc11))).symm
  have pre14 : Go p.tables e below (s₁.setTop (entryFrame m #[(.int r0), (.int m0)] maxLocals)) T3 (mkF m 37 #[.val (.int r0), .val (.int m0), .val (.int w1), .val (.int w4), .unset] [(.int w4)]) := fun t k => pre3 t (by
      refine XS.iloadN X3.here hx rfl (hb hby at_36) rfl ?_
      exact k)
  obtain ⟨_, _, ⟨T15, L15, k15, n15⟩, -, X15, ⟨Lc15, hQ15, l15, y15, z15⟩, st15⟩ := Jvm.LawKit.callS X3 hx (y := (⟨"com/example/plain_snapshot/plainsnapshot/engine/TransactionIdPreviousPinLaw", "reserved", "(I)Z"⟩ : MethodName)) hown (mvT hZ (hw _ (List.mem_of_getElem? (i := 0) rfl))) (mvT hZ (hw _ (List.mem_of_getElem? (i := 1) rfl))) (mvT hZ (hw _ (List.mem_of_getElem? (i := 2) rfl))) (mvT hZ (hw _ (List.mem_of_getElem? (i := 3) rfl))) (by decide) (backOf (W := 0) (rm_res l Z a0 hw [] w4 h0 n0) hZ (hw _ (List.mem_of_getElem? (i := 3) rfl)) (hw _ (List.mem_of_getElem? (i := 2) rfl)) (by decide) (by decide)) (g := (mkF m 37 #[.val (.int r0), .val (.int m0), .val (.int w1), .val (.int w4), .unset] [(.int w4)])) rfl (by rw [hml]; rfl) (argsL := [(.int w4)]) (rest := []) (lenOf pd_1 rfl) rfl (by show 2 * 0 + _ ≤ _; exact Nat.le_of_eq rfl) (hb hby at_37) (fun _ _ => ⟨rfl, e3, (by decide : 0 + 0 ≤ _), (by decide : 0 + 0 ≤ _)⟩)
  dsimp only [Pt.U, Pt.locs, Pt.cells, Pt.slots] at X15 l15 y15 z15 st15 hQ15
  subst l15 y15 z15
  obtain ⟨rfl, N15q, e15⟩ := hQ15
  have N15 := Fr.app N3 N15q
  have pre15 : Go p.tables e below (s₁.setTop (entryFrame m #[(.int r0), (.int m0)] maxLocals)) T15 (mkF m 40 #[.val (.int r0), .val (.int m0), .val (.int w1), .val (.int w4), .unset] [(.int (own_res w4))]) := fun t k => pre14 t (st15 _ k)
  by_cases hc16 : (own_res w4) = (0 : Int32)
  · -- hc16: True
    have pre17 : Go p.tables e below (s₁.setTop (entryFrame m #[(.int r0), (.int m0)] maxLocals)) T15 (mkF m 46 #[.val (.int r0), .val (.int m0), .val (.int w1), .val (.int w4), .unset] [(.int w4)]) := fun t k => pre15 t (by
        refine XS.ifYes X15.here hx rfl (pc0 := 40) (pc' := 45) rfl (hb hby at_40) rfl ((if0 _ _).trans (teq hc16).1) (by decide) (by decide) ?_
        show Steps p.tables e below (T15.setTop (mkF m 45 #[.val (.int r0), .val (.int m0), .val (.int w1), .val (.int w4), .unset] [])) _
        refine XS.iloadN X15.here hx rfl (hb hby at_45) rfl ?_
        exact k)
    obtain ⟨_, _, ⟨T18, L18, k18, n18⟩, -, X18, ⟨Lc18, hQ18, l18, y18, z18⟩, st18⟩ := Jvm.LawKit.callS X15 hx (y := (⟨"com/example/plain_snapshot/plainsnapshot/engine/TransactionId", "previous", "(I)I"⟩ : MethodName)) hown (mvT hZ (hw _ (List.mem_of_getElem? (i := 4) rfl))) (mvT hZ (hw _ (List.mem_of_getElem? (i := 5) rfl))) (mvT hZ (hw _ (List.mem_of_getElem? (i := 6) rfl))) (mvT hZ (hw _ (List.mem_of_getElem? (i := 7) rfl))) (by decide) (backOf (W := 0) (rm_prev l Z a0 hw [] w4 h0 n0) hZ (hw _ (List.mem_of_getElem? (i := 7) rfl)) (hw _ (List.mem_of_getElem? (i := 6) rfl)) (by decide) (by decide)) (g := (mkF m 46 #[.val (.int r0), .val (.int m0), .val (.int w1), .val (.int w4), .unset] [(.int w4)])) rfl (by rw [hml]; rfl) (argsL := [(.int w4)]) (rest := []) (lenOf pd_2 rfl) rfl (by show 2 * 0 + _ ≤ _; exact Nat.le_of_eq rfl) (hb hby at_46) (fun _ _ => ⟨rfl, e15, (by decide : 0 + 0 ≤ _), (by decide : 0 + 0 ≤ _)⟩)
    dsimp only [Pt.U, Pt.locs, Pt.cells, Pt.slots] at X18 l18 y18 z18 st18 hQ18
    subst l18 y18 z18
    obtain ⟨rfl, N18q, e18⟩ := hQ18
    have N18 := Fr.app N15 N18q
    have pre18 : Go p.tables e below (s₁.setTop (entryFrame m #[(.int r0), (.int m0)] maxLocals)) T18 (mkF m 49 #[.val (.int r0), .val (.int m0), .val (.int w1), .val (.int w4), .unset] [(.int (own_prev w4))]) := fun t k => pre17 t (st18 _ k)
    obtain ⟨w19, hw19⟩ : ∃ z : Int32, z = (own_prev w4) := ⟨_, rfl⟩
    have pre20 : Go p.tables e below (s₁.setTop (entryFrame m #[(.int r0), (.int m0)] maxLocals)) T18 (mkF m 53 #[.val (.int r0), .val (.int m0), .val (.int w1), .val (.int w4), .val (.int w19)] [(.int w19)]) := fun t k => pre18 t (by
        refine XS.istore X18.here hx rfl (x := w19) (rest := []) (hb hby at_49) (by subst hw19; rfl) (l' := #[.val (.int r0), .val (.int m0), .val (.int w1), .val (.int w4), .val (.int w19)]) rfl ?_
        show Steps p.tables e below (T18.setTop (mkF m 51 #[.val (.int r0), .val (.int m0), .val (.int w1), .val (.int w4), .val (.int w19)] [])) _
        refine XS.iload X18.here hx rfl (hb hby at_51) rfl ?_
        exact k)
    obtain ⟨_, _, ⟨T21, L21, k21, n21⟩, -, X21, ⟨Lc21, hQ21, l21, y21, z21⟩, st21⟩ := Jvm.LawKit.callS X18 hx (y := (⟨"com/example/plain_snapshot/plainsnapshot/engine/TransactionIdPreviousPinLaw", "reserved", "(I)Z"⟩ : MethodName)) hown (mvT hZ (hw _ (List.mem_of_getElem? (i := 0) rfl))) (mvT hZ (hw _ (List.mem_of_getElem? (i := 1) rfl))) (mvT hZ (hw _ (List.mem_of_getElem? (i := 2) rfl))) (mvT hZ (hw _ (List.mem_of_getElem? (i := 3) rfl))) (by decide) (backOf (W := 0) (rm_res l Z a0 hw [] w19 h0 n0) hZ (hw _ (List.mem_of_getElem? (i := 3) rfl)) (hw _ (List.mem_of_getElem? (i := 2) rfl)) (by decide) (by decide)) (g := (mkF m 53 #[.val (.int r0), .val (.int m0), .val (.int w1), .val (.int w4), .val (.int w19)] [(.int w19)])) rfl (by rw [hml]; rfl) (argsL := [(.int w19)]) (rest := []) (lenOf pd_1 rfl) rfl (by show 2 * 0 + _ ≤ _; exact Nat.le_of_eq rfl) (hb hby at_53) (fun _ _ => ⟨rfl, e18, (by decide : 0 + 0 ≤ _), (by decide : 0 + 0 ≤ _)⟩)
    dsimp only [Pt.U, Pt.locs, Pt.cells, Pt.slots] at X21 l21 y21 z21 st21 hQ21
    subst l21 y21 z21
    obtain ⟨rfl, N21q, e21⟩ := hQ21
    have N21 := Fr.app N18 N21q
    have pre21 : Go p.tables e below (s₁.setTop (entryFrame m #[(.int r0), (.int m0)] maxLocals)) T21 (mkF m 56 #[.val (.int r0), .val (.int m0), .val (.int w1), .val (.int w4), .val (.int w19)] [(.int (own_res w19))]) := fun t k => pre20 t (st21 _ k)
    by_cases hc22 : (own_res w19) = (0 : Int32)
    · -- hc22: True
      have pre23 : Go p.tables e below (s₁.setTop (entryFrame m #[(.int r0), (.int m0)] maxLocals)) T21 (mkF m 63 #[.val (.int r0), .val (.int m0), .val (.int w1), .val (.int w4), .val (.int w19)] [(.int w19)]) := fun t k => pre21 t (by
          refine XS.ifYes X21.here hx rfl (pc0 := 56) (pc' := 61) rfl (hb hby at_56) rfl ((if0 _ _).trans (teq hc22).1) (by decide) (by decide) ?_
          show Steps p.tables e below (T21.setTop (mkF m 61 #[.val (.int r0), .val (.int m0), .val (.int w1), .val (.int w4), .val (.int w19)] [])) _
          refine XS.iload X21.here hx rfl (hb hby at_61) rfl ?_
          exact k)
      obtain ⟨_, _, ⟨T24, L24, k24, n24⟩, -, X24, ⟨Lc24, hQ24, l24, y24, z24⟩, st24⟩ := Jvm.LawKit.callS X21 hx (y := (⟨"com/example/plain_snapshot/plainsnapshot/engine/TransactionId", "next", "(I)I"⟩ : MethodName)) hown (mvT hZ (hw _ (List.mem_of_getElem? (i := 8) rfl))) (mvT hZ (hw _ (List.mem_of_getElem? (i := 9) rfl))) (mvT hZ (hw _ (List.mem_of_getElem? (i := 6) rfl))) (mvT hZ (hw _ (List.mem_of_getElem? (i := 10) rfl))) (by decide) (backOf (W := 0) (rm_next l Z a0 hw [] w19 h0 n0) hZ (hw _ (List.mem_of_getElem? (i := 10) rfl)) (hw _ (List.mem_of_getElem? (i := 6) rfl)) (by decide) (by decide)) (g := (mkF m 63 #[.val (.int r0), .val (.int m0), .val (.int w1), .val (.int w4), .val (.int w19)] [(.int w19)])) rfl (by rw [hml]; rfl) (argsL := [(.int w19)]) (rest := []) (lenOf pd_2 rfl) rfl (by show 2 * 0 + _ ≤ _; exact Nat.le_of_eq rfl) (hb hby at_63) (fun _ _ => ⟨rfl, e21, (by decide : 0 + 0 ≤ _), (by decide : 0 + 0 ≤ _)⟩)
      dsimp only [Pt.U, Pt.locs, Pt.cells, Pt.slots] at X24 l24 y24 z24 st24 hQ24
      subst l24 y24 z24
      obtain ⟨rfl, N24q, e24⟩ := hQ24
      have N24 := Fr.app N21 N24q
      have pre24 : Go p.tables e below (s₁.setTop (entryFrame m #[(.int r0), (.int m0)] maxLocals)) T24 (mkF m 66 #[.val (.int r0), .val (.int m0), .val (.int w1), .val (.int w4), .val (.int w19)] [(.int (own_next w19))]) := fun t k => pre23 t (st24 _ k)
      have pre25 : Go p.tables e below (s₁.setTop (entryFrame m #[(.int r0), (.int m0)] maxLocals)) T24 (mkF m 67 #[.val (.int r0), .val (.int m0), .val (.int w1), .val (.int w4), .val (.int w19)] [(.int w4), (.int (own_next w19))]) := fun t k => pre24 t (by
          refine XS.iloadN X24.here hx rfl (hb hby at_66) rfl ?_
          exact k)
      by_cases hc26 : (own_next w19) = w4
      · -- hc26: True
        have pre27 : Go p.tables e below (s₁.setTop (entryFrame m #[(.int r0), (.int m0)] maxLocals)) T24 (mkF m 75 #[.val (.int r0), .val (.int m0), .val (.int w1), .val (.int w4), .val (.int w19)] [(.int (1 : Int32))]) := fun t k => pre25 t (by
            refine XS.icmpNo X24.here hx rfl (hb hby at_67) rfl (teq hc26).2 ?_
            show Steps p.tables e below (T24.setTop (mkF m 70 #[.val (.int r0), .val (.int m0), .val (.int w1), .val (.int w4), .val (.int w19)] [])) _
            refine XS.iconst X24.here hx rfl (hb hby at_70) ?_
            show Steps p.tables e below (T24.setTop (mkF m 71 #[.val (.int r0), .val (.int m0), .val (.int w1), .val (.int w4), .val (.int w19)] [(.int (1 : Int32))])) _
            refine XS.goto X24.here hx rfl (pc0 := 71) (pc' := 75) rfl (hb hby at_71) (by decide) (by decide) ?_
            exact k)
        obtain ⟨fs, hr, hrun, hended, hW, hsame⟩ := X24.leave (v := some (.int (1 : Int32))) (fun h => by rw [Bd.returns] at h; cases h) (BodyLoose.notSynchronized Bd)
        refine ⟨_, _, pre27 _ ?_, hrun, hended, _, _, rfl, ?_, ⟨_, rfl⟩, hW, hsame.mono (Nat.le_of_ble_eq_true rfl) (Nat.le_of_ble_eq_true rfl)⟩
        · exact retN X24 hx (t := .boolean) Bd.returns (by simp) (hb hby at_75) hr
        · show Q_law Z r0 m0 h0 n0 _ T24.heap _
          rw [e24]
          exact ⟨rfl, N24⟩
      · -- hc26: False
        have pre28 : Go p.tables e below (s₁.setTop (entryFrame m #[(.int r0), (.int m0)] maxLocals)) T24 (mkF m 75 #[.val (.int r0), .val (.int m0), .val (.int w1), .val (.int w4), .val (.int w19)] [(.int (0 : Int32))]) := fun t k => pre25 t (by
            refine XS.icmpYes X24.here hx rfl (pc0 := 67) (pc' := 74) rfl (hb hby at_67) rfl (feq hc26).2 (by decide) (by decide) ?_
            show Steps p.tables e below (T24.setTop (mkF m 74 #[.val (.int r0), .val (.int m0), .val (.int w1), .val (.int w4), .val (.int w19)] [])) _
            refine XS.iconst X24.here hx rfl (hb hby at_74) ?_
            exact k)
        obtain ⟨fs, hr, hrun, hended, hW, hsame⟩ := X24.leave (v := some (.int (0 : Int32))) (fun h => by rw [Bd.returns] at h; cases h) (BodyLoose.notSynchronized Bd)
        refine ⟨_, _, pre28 _ ?_, hrun, hended, _, _, rfl, ?_, ⟨_, rfl⟩, hW, hsame.mono (Nat.le_of_ble_eq_true rfl) (Nat.le_of_ble_eq_true rfl)⟩
        · exact retN X24 hx (t := .boolean) Bd.returns (by simp) (hb hby at_75) hr
        · show Q_law Z r0 m0 h0 n0 _ T24.heap _
          rw [e24]
          subst hw19 hw4 hw1
          exact absurd (own_l2 _ hc16) hc26
    · -- hc22: False
      have pre29 : Go p.tables e below (s₁.setTop (entryFrame m #[(.int r0), (.int m0)] maxLocals)) T21 (mkF m 60 #[.val (.int r0), .val (.int m0), .val (.int w1), .val (.int w4), .val (.int w19)] [(.int (0 : Int32))]) := fun t k => pre21 t (by
          refine XS.ifNo X21.here hx rfl (hb hby at_56) rfl ((if0 _ _).trans (feq hc22).1) ?_
          show Steps p.tables e below (T21.setTop (mkF m 59 #[.val (.int r0), .val (.int m0), .val (.int w1), .val (.int w4), .val (.int w19)] [])) _
          refine XS.iconst X21.here hx rfl (hb hby at_59) ?_
          exact k)
      obtain ⟨fs, hr, hrun, hended, hW, hsame⟩ := X21.leave (v := some (.int (0 : Int32))) (fun h => by rw [Bd.returns] at h; cases h) (BodyLoose.notSynchronized Bd)
      refine ⟨_, _, pre29 _ ?_, hrun, hended, _, _, rfl, ?_, ⟨_, rfl⟩, hW, hsame.mono (Nat.le_of_ble_eq_true rfl) (Nat.le_of_ble_eq_true rfl)⟩
      · exact retN X21 hx (t := .boolean) Bd.returns (by simp) (hb hby at_60) hr
      · show Q_law Z r0 m0 h0 n0 _ T21.heap _
        rw [e21]
        subst hw19 hw4 hw1
        exact absurd (own_l1 _ hc16) hc22
  · -- hc16: False
    have pre30 : Go p.tables e below (s₁.setTop (entryFrame m #[(.int r0), (.int m0)] maxLocals)) T15 (mkF m 44 #[.val (.int r0), .val (.int m0), .val (.int w1), .val (.int w4), .unset] [(.int (1 : Int32))]) := fun t k => pre15 t (by
        refine XS.ifNo X15.here hx rfl (hb hby at_40) rfl ((if0 _ _).trans (feq hc16).1) ?_
        show Steps p.tables e below (T15.setTop (mkF m 43 #[.val (.int r0), .val (.int m0), .val (.int w1), .val (.int w4), .unset] [])) _
        refine XS.iconst X15.here hx rfl (hb hby at_43) ?_
        exact k)
    obtain ⟨fs, hr, hrun, hended, hW, hsame⟩ := X15.leave (v := some (.int (1 : Int32))) (fun h => by rw [Bd.returns] at h; cases h) (BodyLoose.notSynchronized Bd)
    refine ⟨_, _, pre30 _ ?_, hrun, hended, _, _, rfl, ?_, ⟨_, rfl⟩, hW, hsame.mono (Nat.le_of_ble_eq_true rfl) (Nat.le_of_ble_eq_true rfl)⟩
    · exact retN X15 hx (t := .boolean) Bd.returns (by simp) (hb hby at_44) hr
    · show Q_law Z r0 m0 h0 n0 _ T15.heap _
      rw [e15]
      exact ⟨rfl, N15⟩
set_option maxRecDepth 65536 in
set_option maxHeartbeats 40000000 in
theorem comes_1 {Post : Tables → Env → Array Value → State → Outcome → State → Prop} (hpost : ∀ tb e args s v u, (limb_1_1.after args s (.returned v) u = true ∧ limb_1_2.after args s (.returned v) u = true ∧ True) → FrameEnd s (.returned v) u (Jvm.fieldLocs frame_1_writes args s ++ Jvm.arrayLocs frame_1_arrays args s ++ Jvm.staticLocs frame_1_statics s) 0 0 → Post tb e args s (.returned v) u) :
    ArmFor flags0 classFile x code maxLocals ret World_1 tables_1 room_1 Calls_1 rest_1 Pre_1 Post := by
  intro l hfl _ _ p e ha hc hk s m args below hf hA hF happ hP
  obtain ⟨hcalls, hrest, hpre⟩ := hP
  obtain ⟨-, -, -, hnamed, -, -, -, hat⟩ := (Spec.applies_iff hf).mp happ
  obtain ⟨hg, hn⟩ := and_e (Cond.before_iff.mp (show (Jvm.Cond.and given_1 narrow_1).before args s = true from hpre))
  obtain ⟨gc, gt0⟩ := and_e hg
  obtain ⟨ga0, gt1⟩ := and_e gt0
  obtain ⟨w0, w1, rfl⟩ : ∃ w0 w1 : Value, args = #[w0, w1] := by
    have hs : args.size = 2 := by simpa [Cond.value, given_1] using gc
    obtain ⟨L⟩ := args
    match L, hs with
    | [w0, w1], _ => exact ⟨w0, w1, rfl⟩
  have hw := fun d (hd : d ∈ tables_1) => atoms_spec (ws := Jvm.Cond.code x code maxLocals ret :: tables_1) hat d (List.mem_cons_of_mem _ hd)
  have hfit : Fit s := fun {y c} hc i hi => by
    obtain ⟨ha, rfl⟩ := Array.getElem?_eq_some_iff.mp hc
    have q := List.all_eq_true.mp ((Array.all_eq_true_iff_forall_mem.mp hF) _ (Array.getElem_mem ha)) i (List.mem_range.mpr hi)
    simpa [Array.getElem?_eq_getElem hi] using q
  obtain ⟨i0, ei0⟩ := is_v ga0
  obtain rfl : w0 = (.int i0) := Option.some.inj ei0
  obtain ⟨i1, ei1⟩ := is_v gt1
  obtain rfl : w1 = (.int i1) := Option.some.inj ei1
  obtain ⟨n, o, h1, h2, h3, _, L, rfl, ⟨rfl, N⟩, hq⟩ := rm_law l s _ hw tables_1 i0 i1  s.heap s.heap.size (Nat.le_refl _)  p e ha hc hk s m _ below hf ((Spec.applies_iff_loose hf).mp happ).1 ⟨rfl, State.Warmed39.refl s, rfl⟩ trivial
  refine ⟨n, _, h1, h2, h3, hpost _ _ _ _ _ _ ⟨Cond.after_iff.mpr rfl, Cond.after_iff.mpr (eq_i res_at (Term.int_eval (1)) rfl), trivial⟩ ⟨hq.1, hq.2.1, (hq.2.2.sift fun y hy => Or.inr (N y hy)).mono (by decide) (by decide)⟩⟩
theorem main_1_1 : Claimed_1_1 := comes_1 fun _ _ _ _ _ _ h hF => ⟨h.1, hF⟩
theorem main_1_2 : Claimed_1_2 := comes_1 fun _ _ _ _ _ _ h hF => ⟨h.2.1, hF⟩
end Jvm.Pilot.@@N@@
namespace Jvm.Pilot.@@N@@
open Jvm Jvm.ClassFile Sem Op Lib Jvm.Free Jvm.Stand Jvm.Pilot.@@N@@.Jvm.D
/-! MADE BY PROGRAM (witnessworld.py) out of the Statement's table words and the real class files: 14 classes; the members and pool entries that the words name. The judged class is class 1, her method 2. -/
namespace start1
open Jvm.ClassFile
def u (s : String) : CpInfo := .utf8 (stringToUtf16 s)
/-- a pool by its gaps: so many unusable entries, then the entry; so many at the end -/
def gap : Nat → List CpInfo → List CpInfo
  | 0, r => r
  | n + 1, r => .unusable :: gap n r
def poolList (es : List (Nat × CpInfo)) (last : Nat) : List CpInfo := es.foldr (fun e r => gap e.1 (e.2 :: r)) (gap last [])
def pool (es : List (Nat × CpInfo)) (last : Nat) : Array CpInfo := ⟨poolList es last⟩
def fileOf (pool : Array CpInfo) (this : Nat) (attrs : Array Attribute := #[]) (ms : Array MethodInfo := #[]) (fl : Nat := 33) (sup : Nat := 0) (ifs : Array Nat := #[]) (fds : Array FieldInfo := #[]) : ClassFile where
  minorVersion := 0
  majorVersion := 65
  constantPool := pool
  accessFlags := fl
  thisClass := this
  superClass := sup
  interfaces := ifs
  fields := fds
  methods := ms
  attributes := attrs
def plain (name : String) (sup : Option ClassId) : Class where
  name := name
  kind := .ordinary
  loader := none
  accessFlags := 33
  super := sup
  interfaces := #[]
  cf := none
  fields := #[]
  methods := #[]
  instanceTypes := #[]
  staticTypes := #[]
  resolved := #[]
  callSites := []
  init := .initialized
  statics := none
  mirror := none

def pool0 : Array CpInfo := pool [(5, u "<init>"), (0, u "()V"), (1, .class_ 10), (1, u "java/lang/Object")] 113

def k0m0 : Method := { name := "<init>", desc := "()V", sig := { parameters := [], returnType := none }, accessFlags := 1, code := none }
/-- java/lang/Object -/
def k0 : Class := { plain "java/lang/Object" none with
  accessFlags := 33
  interfaces := #[]
  cf := some (fileOf pool0 8 #[] #[{ accessFlags := 1, nameIndex := 5, descriptorIndex := 6, attributes := #[] }] 33 0 #[] #[])
  fields := #[]
  methods := #[k0m0]
  instanceTypes := #[]
  staticTypes := #[]
  resolved := Array.replicate 124 none
  statics := none }

def pool1 : Array CpInfo := pool [(2, .class_ 4), (1, u "java/lang/Object"), (0, u "<init>"), (0, u "()V"), (0, .class_ 8), (0, u "com/example/plain_snapshot/plainsnapshot/engine/TransactionId"), (0, .methodref 10 11), (0, .class_ 12), (0, .nameAndType 13 14), (0, u "com/example/plain_snapshot/plainsnapshot/engine/TransactionIdPreviousPinLaw"), (0, u "reserved"), (0, u "(I)Z"), (0, .methodref 7 16), (0, .nameAndType 17 18), (0, u "previous"), (0, u "(I)I"), (0, .methodref 7 20), (0, .nameAndType 21 18), (0, u "next"), (3, u "law"), (0, u "(II)Z")] 2

def k1m0 : Method := { name := "<init>", desc := "()V", sig := { parameters := [], returnType := none }, accessFlags := 2, code := none }
def k1c1 : Code := { maxStack := 2, maxLocals := 1, code := method_2_code, exceptionTable := #[], attributes := #[] }
def k1m1 : Method := { name := "reserved", desc := "(I)Z", sig := { parameters := [.int], returnType := some .boolean }, accessFlags := 10, code := some k1c1 }
def k1c2 : Code := { maxStack := 2, maxLocals := 5, code := code, exceptionTable := #[], attributes := #[] }
def k1m2 : Method := { name := "law", desc := "(II)Z", sig := { parameters := [.int, .int], returnType := some .boolean }, accessFlags := 9, code := some k1c2 }
/-- com/example/plain_snapshot/plainsnapshot/engine/TransactionIdPreviousPinLaw -/
def k1 : Class := { plain "com/example/plain_snapshot/plainsnapshot/engine/TransactionIdPreviousPinLaw" (some 0) with
  accessFlags := 49
  interfaces := #[]
  cf := some (fileOf pool1 10 #[] #[{ accessFlags := 2, nameIndex := 5, descriptorIndex := 6, attributes := #[] }, { accessFlags := 10, nameIndex := 13, descriptorIndex := 14, attributes := #[] }, { accessFlags := 9, nameIndex := 25, descriptorIndex := 26, attributes := #[] }] 49 2 #[] #[])
  fields := #[]
  methods := #[k1m0, k1m1, k1m2]
  instanceTypes := #[]
  staticTypes := #[]
  resolved := Array.replicate 29 none
  statics := none }

def pool2 : Array CpInfo := pool [(2, .class_ 4), (1, u "java/lang/Object"), (0, u "<init>"), (0, u "()V"), (0, .class_ 8), (0, u "com/example/plain_snapshot/plainsnapshot/engine/TransactionId"), (0, .methodref 10 11), (0, .class_ 12), (0, .nameAndType 13 14), (0, u "java/lang/Integer"), (0, u "compareUnsigned"), (0, u "(II)I"), (0, .methodref 7 16), (0, .nameAndType 17 18), (0, u "isNormal"), (0, u "(I)Z"), (17, u "INVALID"), (0, u "I"), (2, u "BOOTSTRAP"), (1, u "FROZEN"), (1, u "FIRST_NORMAL"), (4, u "next"), (0, u "(I)I"), (0, u "previous")] 9

def k2m0 : Method := { name := "<init>", desc := "()V", sig := { parameters := [], returnType := none }, accessFlags := 2, code := none }
def k2c1 : Code := { maxStack := 2, maxLocals := 1, code := prog_46_method_2_code, exceptionTable := #[], attributes := #[] }
def k2m1 : Method := { name := "isNormal", desc := "(I)Z", sig := { parameters := [.int], returnType := some .boolean }, accessFlags := 9, code := some k2c1 }
def k2c2 : Code := { maxStack := 2, maxLocals := 2, code := prog_46_method_3_code, exceptionTable := #[], attributes := #[] }
def k2m2 : Method := { name := "next", desc := "(I)I", sig := { parameters := [.int], returnType := some .int }, accessFlags := 9, code := some k2c2 }
def k2c3 : Code := { maxStack := 2, maxLocals := 1, code := prog_46_method_4_code, exceptionTable := #[], attributes := #[] }
def k2m3 : Method := { name := "previous", desc := "(I)I", sig := { parameters := [.int], returnType := some .int }, accessFlags := 9, code := some k2c3 }
/-- com/example/plain_snapshot/plainsnapshot/engine/TransactionId -/
def k2 : Class := { plain "com/example/plain_snapshot/plainsnapshot/engine/TransactionId" (some 0) with
  accessFlags := 49
  interfaces := #[]
  cf := some (fileOf pool2 7 #[] #[{ accessFlags := 2, nameIndex := 5, descriptorIndex := 6, attributes := #[] }, { accessFlags := 9, nameIndex := 17, descriptorIndex := 18, attributes := #[] }, { accessFlags := 9, nameIndex := 49, descriptorIndex := 50, attributes := #[] }, { accessFlags := 9, nameIndex := 51, descriptorIndex := 50, attributes := #[] }] 49 2 #[] #[{ accessFlags := 25, nameIndex := 36, descriptorIndex := 37, attributes := #[] }, { accessFlags := 25, nameIndex := 40, descriptorIndex := 37, attributes := #[] }, { accessFlags := 25, nameIndex := 42, descriptorIndex := 37, attributes := #[] }, { accessFlags := 25, nameIndex := 44, descriptorIndex := 37, attributes := #[] }])
  fields := #[{ name := "INVALID", type := .int, accessFlags := 25, slot := 0, constantValue := 0 }, { name := "BOOTSTRAP", type := .int, accessFlags := 25, slot := 1, constantValue := 0 }, { name := "FROZEN", type := .int, accessFlags := 25, slot := 2, constantValue := 0 }, { name := "FIRST_NORMAL", type := .int, accessFlags := 25, slot := 3, constantValue := 0 }]
  methods := #[k2m0, k2m1, k2m2, k2m3]
  instanceTypes := #[]
  staticTypes := #[.int, .int, .int, .int]
  resolved := Array.replicate 61 none
  statics := none }

def pool3 : Array CpInfo := pool [(1, .class_ 2), (0, u "java/io/Serializable"), (0, .class_ 4), (0, u "java/lang/Object")] 2

/-- java/io/Serializable -/
def k3 : Class := { plain "java/io/Serializable" (some 0) with
  accessFlags := 1537
  interfaces := #[]
  cf := some (fileOf pool3 1 #[] #[] 1537 3 #[] #[])
  fields := #[]
  methods := #[]
  instanceTypes := #[]
  staticTypes := #[]
  resolved := Array.replicate 7 none
  statics := none }

def pool4 : Array CpInfo := pool [(2, .class_ 4), (1, u "java/lang/Object"), (0, u "<init>"), (0, u "()V"), (1, .class_ 10), (1, u "java/lang/Number"), (2, .class_ 14), (0, u "java/io/Serializable"), (0, u "serialVersionUID"), (0, u "J")] 20

def k4m0 : Method := { name := "<init>", desc := "()V", sig := { parameters := [], returnType := none }, accessFlags := 1, code := none }
/-- java/lang/Number -/
def k4 : Class := { plain "java/lang/Number" (some 0) with
  accessFlags := 1057
  interfaces := #[3]
  cf := some (fileOf pool4 8 #[] #[{ accessFlags := 1, nameIndex := 5, descriptorIndex := 6, attributes := #[] }] 1057 2 #[13] #[{ accessFlags := 26, nameIndex := 15, descriptorIndex := 16, attributes := #[] }])
  fields := #[{ name := "serialVersionUID", type := .long, accessFlags := 26, slot := 0, constantValue := 0 }]
  methods := #[k4m0]
  instanceTypes := #[]
  staticTypes := #[.long]
  resolved := Array.replicate 37 none
  statics := none }

def pool5 : Array CpInfo := pool [(1, .class_ 2), (0, u "java/lang/Comparable"), (0, .class_ 4), (0, u "java/lang/Object")] 7

/-- java/lang/Comparable -/
def k5 : Class := { plain "java/lang/Comparable" (some 0) with
  accessFlags := 1537
  interfaces := #[]
  cf := some (fileOf pool5 1 #[] #[] 1537 3 #[] #[])
  fields := #[]
  methods := #[]
  instanceTypes := #[]
  staticTypes := #[]
  resolved := Array.replicate 12 none
  statics := none }

def pool6 : Array CpInfo := pool [(1, .class_ 2), (0, u "java/lang/constant/Constable"), (0, .class_ 4), (0, u "java/lang/Object")] 6

/-- java/lang/constant/Constable -/
def k6 : Class := { plain "java/lang/constant/Constable" (some 0) with
  accessFlags := 1537
  interfaces := #[]
  cf := some (fileOf pool6 1 #[] #[] 1537 3 #[] #[])
  fields := #[]
  methods := #[]
  instanceTypes := #[]
  staticTypes := #[]
  resolved := Array.replicate 11 none
  statics := none }

def pool7 : Array CpInfo := pool [(1, .class_ 2), (0, u "java/lang/constant/ConstantDesc"), (0, .class_ 4), (0, u "java/lang/Object")] 32

/-- java/lang/constant/ConstantDesc -/
def k7 : Class := { plain "java/lang/constant/ConstantDesc" (some 0) with
  accessFlags := 1537
  interfaces := #[]
  cf := some (fileOf pool7 1 #[] #[] 1537 3 #[] #[])
  fields := #[]
  methods := #[]
  instanceTypes := #[]
  staticTypes := #[]
  resolved := Array.replicate 37 none
  statics := none }

def pool8 : Array CpInfo := pool [(1, .class_ 2), (0, u "java/lang/Integer"), (16, u "digits"), (0, u "[C"), (39, u "(II)I"), (24, u "DigitOnes"), (0, u "[B"), (2, u "DigitTens"), (37, .integer 2147483648), (61, .class_ 190), (0, u "java/lang/Integer$IntegerCache"), (3, u "I"), (8, .class_ 204), (0, u "java/lang/Number"), (2, u "value"), (51, .methodref 1 260), (0, .nameAndType 261 60), (0, u "compare"), (40, u "TYPE"), (0, u "Ljava/lang/Class;"), (0, .class_ 305), (0, u "java/lang/Comparable"), (0, .class_ 307), (0, u "java/lang/constant/Constable"), (0, .class_ 309), (0, u "java/lang/constant/ConstantDesc"), (0, u "MIN_VALUE"), (1, u "MAX_VALUE"), (3, u "SIZE"), (1, u "BYTES"), (1, u "serialVersionUID"), (0, u "J"), (76, u "compareUnsigned")] 54

def k8c0 : Code := { maxStack := 2, maxLocals := 2, code := jdk_33_method_40_code, exceptionTable := #[], attributes := #[] }
def k8m0 : Method := { name := "compare", desc := "(II)I", sig := { parameters := [.int, .int], returnType := some .int }, accessFlags := 9, code := some k8c0 }
def k8c1 : Code := { maxStack := 3, maxLocals := 2, code := jdk_33_method_41_code, exceptionTable := #[], attributes := #[] }
def k8m1 : Method := { name := "compareUnsigned", desc := "(II)I", sig := { parameters := [.int, .int], returnType := some .int }, accessFlags := 9, code := some k8c1 }
/-- java/lang/Integer -/
def k8 : Class := { plain "java/lang/Integer" (some 4) with
  accessFlags := 49
  interfaces := #[5, 6, 7]
  cf := some (fileOf pool8 1 #[.nestMembers #[189]] #[{ accessFlags := 9, nameIndex := 261, descriptorIndex := 60, attributes := #[] }, { accessFlags := 9, nameIndex := 398, descriptorIndex := 60, attributes := #[] }] 49 203 #[304, 306, 308] #[{ accessFlags := 25, nameIndex := 310, descriptorIndex := 194, attributes := #[] }, { accessFlags := 25, nameIndex := 312, descriptorIndex := 194, attributes := #[] }, { accessFlags := 25, nameIndex := 302, descriptorIndex := 303, attributes := #[] }, { accessFlags := 24, nameIndex := 19, descriptorIndex := 20, attributes := #[] }, { accessFlags := 24, nameIndex := 89, descriptorIndex := 86, attributes := #[] }, { accessFlags := 24, nameIndex := 85, descriptorIndex := 86, attributes := #[] }, { accessFlags := 18, nameIndex := 207, descriptorIndex := 194, attributes := #[] }, { accessFlags := 25, nameIndex := 316, descriptorIndex := 194, attributes := #[] }, { accessFlags := 25, nameIndex := 318, descriptorIndex := 194, attributes := #[] }, { accessFlags := 26, nameIndex := 320, descriptorIndex := 321, attributes := #[] }])
  fields := #[{ name := "MIN_VALUE", type := .int, accessFlags := 25, slot := 0, constantValue := 0 }, { name := "MAX_VALUE", type := .int, accessFlags := 25, slot := 1, constantValue := 0 }, { name := "TYPE", type := (.object "java/lang/Class"), accessFlags := 25, slot := 2, constantValue := 0 }, { name := "digits", type := (.array .char), accessFlags := 24, slot := 3, constantValue := 0 }, { name := "DigitTens", type := (.array .byte), accessFlags := 24, slot := 4, constantValue := 0 }, { name := "DigitOnes", type := (.array .byte), accessFlags := 24, slot := 5, constantValue := 0 }, { name := "value", type := .int, accessFlags := 18, slot := 0, constantValue := 0 }, { name := "SIZE", type := .int, accessFlags := 25, slot := 6, constantValue := 0 }, { name := "BYTES", type := .int, accessFlags := 25, slot := 7, constantValue := 0 }, { name := "serialVersionUID", type := .long, accessFlags := 26, slot := 8, constantValue := 0 }]
  methods := #[k8m0, k8m1]
  instanceTypes := #[.int]
  staticTypes := #[.int, .int, (.object "java/lang/Class"), (.array .char), (.array .byte), (.array .byte), .int, .int, .long]
  resolved := Array.replicate 453 none
  statics := none }

def pool9 : Array CpInfo := pool [(1, u "java/lang/Cloneable"), (0, .class_ 1), (0, u "java/lang/Object"), (0, .class_ 3)] 3

/-- java/lang/Cloneable -/
def k9 : Class := { plain "java/lang/Cloneable" (some 0) with
  accessFlags := 1537
  interfaces := #[]
  cf := some (fileOf pool9 2 #[] #[] 1537 4 #[] #[])
  fields := #[]
  methods := #[]
  instanceTypes := #[]
  staticTypes := #[]
  resolved := Array.replicate 8 none
  statics := none }

/-- the primitive byte -/
def k10 : Class := { plain "byte" none with kind := .primitive 'B', accessFlags := 0x411 }
/-- [B -/
def k11 : Class := { plain "[B" (some 0) with kind := .array 10 .byte, interfaces := #[9, 3], accessFlags := 1041 }

/-- the primitive int -/
def k12 : Class := { plain "int" none with kind := .primitive 'I', accessFlags := 0x411 }
/-- [I -/
def k13 : Class := { plain "[I" (some 0) with kind := .array 12 .int, interfaces := #[9, 3], accessFlags := 1041 }

def heap : Heap := #[]
def classes : Array Class := #[k0, k1, k2, k3, k4, k5, k6, k7, k8, k9, k10, k11, k12, k13]
def interned : List (Array UInt16 × Addr) := []
def slotsUsed : Nat := 0
def theMethod : MethodId := ⟨1, 2⟩
def args0 : Array Value := #[.int 5, .int 6]
def aboutOver (below : List Frame) : State where
  vm := { classes := classes, interned := interned.toArray }
  heap := heap
  slotsUsed := slotsUsed
  threads := #[{ frames := .invoking theMethod args0 :: below }]
def below0 : List Frame := [.native { method := ⟨0, 0⟩, args := #[] }]
def about1 : State := aboutOver below0
def p0 : Program := .bare "" "" ""
def e0 : Env := launch0.env 0 0 0
theorem w_frames : about1.frames = Frame.invoking theMethod args0 :: below0 := rfl
set_option maxRecDepth 65536 in
theorem w_args : argsFit about1.vm theMethod args0 = true := by decide +kernel
set_option maxRecDepth 65536 in
theorem w_heap : heapFits about1 = true := by decide +kernel
set_option maxRecDepth 65536 in
theorem w_runnable : about1.curStatus? = some .runnable := by decide +kernel
set_option maxRecDepth 65536 in
theorem w_alone : about1.alone = true := by decide +kernel
set_option maxRecDepth 65536 in
theorem w_named : about1.methodNamed? x = some theMethod := by decide +kernel
set_option maxRecDepth 65536 in
theorem w_hears : about1.hears theMethod below0 = true := by decide +kernel
set_option maxRecDepth 65536 in
theorem w_ripe : about1.ripe theMethod args0 below0 = true := by decide +kernel
theorem w_running : about1.status = .running := rfl
set_option maxRecDepth 65536 in
theorem w_room : about1.hasRoom e0.platform room_1 = true :=
  launch0.hasRoom_least _ room_1 (by decide +kernel) (by decide +kernel) (by decide +kernel) (by decide +kernel) (by decide +kernel) (by decide +kernel)
theorem allAtoms_all (ts : List Jvm.Cond) (a : Array Jvm.Value) (st : Jvm.State) : (allAtoms ts).before a st = ts.all (fun c => c.before a st) := by
  induction ts with
  | nil => rfl
  | cons c t ih =>
    show (Jvm.Cond.and c (allAtoms t)).before a st = _
    rw [Jvm.Cond.before_and, ih, List.all_cons]
def words1 : List Jvm.Cond := Jvm.Cond.code x code maxLocals ret :: tables_1
/-- a 'code' word, met by the world's own term for the bytes: nothing is compared byte by byte -/
theorem code_word {y : MethodName} {bytes : ByteArray} {mx : Nat} {rt : Option FieldType} {a : Array Value} {s : State} {m : MethodId} {meth : Method} {c : Code} (h1 : s.methodNamed? y = some m) (h2 : s.vm.method? m = some meth) (h3 : meth.code = some c) (h4 : c.code = bytes)
    (h5 : (c.maxLocals == mx && c.exceptionTable.isEmpty && decide (c.maxStack ≤ mostOperands) && decide (meth.sig.returnType = rt) && !meth.locks && decide (parseMethodDescriptor y.desc = some meth.sig)) = true) : (Jvm.Cond.code y bytes mx rt).before a s = true := by
  simp only [Bool.and_eq_true, beq_iff_eq, Bool.not_eq_true', decide_eq_true_eq] at h5
  obtain ⟨⟨⟨⟨⟨g1, g2⟩, g3⟩, g4⟩, g5⟩, g6⟩ := h5
  simp [Cond.before, Cond.holds, Cond.value, h1, h2, h3, h4, g1, g2, g3, g4, g5, g6]
def isCode : Jvm.Cond → Bool
  | .code _ _ _ _ => true
  | _ => false
theorem all_split {L : List Jvm.Cond} {P : Jvm.Cond → Bool} (h1 : L.all (fun c => isCode c || P c) = true) (h2 : ∀ c ∈ L.filter isCode, P c = true) : L.all P = true := by
  refine List.all_eq_true.mpr fun c hc => ?_
  have h := List.all_eq_true.mp h1 c hc
  rcases Bool.eq_false_or_eq_true (isCode c) with hi | hi
  · exact h2 c (List.mem_filter.mpr ⟨hc, hi⟩)
  · simpa [hi] using h
set_option maxRecDepth 65536 in
theorem w_c0 : (Jvm.Cond.code x code maxLocals ret).before args0 about1 = true := code_word (m := ⟨1, 2⟩) (meth := k1m2) (c := k1c2) (by decide +kernel) rfl rfl rfl (by decide +kernel)
set_option maxRecDepth 65536 in
theorem w_c1 : (Jvm.Cond.code ({ cls := "com/example/plain_snapshot/plainsnapshot/engine/TransactionIdPreviousPinLaw", name := "reserved", desc := "(I)Z" } : Jvm.MethodName) method_2_code (1 : Nat) (Option.some Jvm.ClassFile.FieldType.boolean)).before args0 about1 = true := code_word (m := ⟨1, 1⟩) (meth := k1m1) (c := k1c1) (by decide +kernel) rfl rfl rfl (by decide +kernel)
set_option maxRecDepth 65536 in
theorem w_c2 : (Jvm.Cond.code ({ cls := "com/example/plain_snapshot/plainsnapshot/engine/TransactionId", name := "previous", desc := "(I)I" } : Jvm.MethodName) prog_46_method_4_code (1 : Nat) (Option.some Jvm.ClassFile.FieldType.int)).before args0 about1 = true := code_word (m := ⟨2, 3⟩) (meth := k2m3) (c := k2c3) (by decide +kernel) rfl rfl rfl (by decide +kernel)
set_option maxRecDepth 65536 in
theorem w_c3 : (Jvm.Cond.code ({ cls := "com/example/plain_snapshot/plainsnapshot/engine/TransactionId", name := "next", desc := "(I)I" } : Jvm.MethodName) prog_46_method_3_code (2 : Nat) (Option.some Jvm.ClassFile.FieldType.int)).before args0 about1 = true := code_word (m := ⟨2, 2⟩) (meth := k2m2) (c := k2c2) (by decide +kernel) rfl rfl rfl (by decide +kernel)
set_option maxRecDepth 65536 in
theorem w_c4 : (Jvm.Cond.code ({ cls := "com/example/plain_snapshot/plainsnapshot/engine/TransactionId", name := "isNormal", desc := "(I)Z" } : Jvm.MethodName) prog_46_method_2_code (1 : Nat) (Option.some Jvm.ClassFile.FieldType.boolean)).before args0 about1 = true := code_word (m := ⟨2, 1⟩) (meth := k2m1) (c := k2c1) (by decide +kernel) rfl rfl rfl (by decide +kernel)
set_option maxRecDepth 65536 in
theorem w_c5 : (Jvm.Cond.code ({ cls := "java/lang/Integer", name := "compareUnsigned", desc := "(II)I" } : Jvm.MethodName) jdk_33_method_41_code (2 : Nat) (Option.some Jvm.ClassFile.FieldType.int)).before args0 about1 = true := code_word (m := ⟨8, 1⟩) (meth := k8m1) (c := k8c1) (by decide +kernel) rfl rfl rfl (by decide +kernel)
set_option maxRecDepth 65536 in
theorem w_c6 : (Jvm.Cond.code ({ cls := "java/lang/Integer", name := "compare", desc := "(II)I" } : Jvm.MethodName) jdk_33_method_40_code (2 : Nat) (Option.some Jvm.ClassFile.FieldType.int)).before args0 about1 = true := code_word (m := ⟨8, 0⟩) (meth := k8m0) (c := k8c0) (by decide +kernel) rfl rfl rfl (by decide +kernel)
def codes1 : List Jvm.Cond := [Jvm.Cond.code x code maxLocals ret, Jvm.Cond.code ({ cls := "com/example/plain_snapshot/plainsnapshot/engine/TransactionIdPreviousPinLaw", name := "reserved", desc := "(I)Z" } : Jvm.MethodName) method_2_code (1 : Nat) (Option.some Jvm.ClassFile.FieldType.boolean), Jvm.Cond.code ({ cls := "com/example/plain_snapshot/plainsnapshot/engine/TransactionId", name := "previous", desc := "(I)I" } : Jvm.MethodName) prog_46_method_4_code (1 : Nat) (Option.some Jvm.ClassFile.FieldType.int), Jvm.Cond.code ({ cls := "com/example/plain_snapshot/plainsnapshot/engine/TransactionId", name := "next", desc := "(I)I" } : Jvm.MethodName) prog_46_method_3_code (2 : Nat) (Option.some Jvm.ClassFile.FieldType.int), Jvm.Cond.code ({ cls := "com/example/plain_snapshot/plainsnapshot/engine/TransactionId", name := "isNormal", desc := "(I)Z" } : Jvm.MethodName) prog_46_method_2_code (1 : Nat) (Option.some Jvm.ClassFile.FieldType.boolean), Jvm.Cond.code ({ cls := "java/lang/Integer", name := "compareUnsigned", desc := "(II)I" } : Jvm.MethodName) jdk_33_method_41_code (2 : Nat) (Option.some Jvm.ClassFile.FieldType.int), Jvm.Cond.code ({ cls := "java/lang/Integer", name := "compare", desc := "(II)I" } : Jvm.MethodName) jdk_33_method_40_code (2 : Nat) (Option.some Jvm.ClassFile.FieldType.int)]
set_option maxRecDepth 65536 in
theorem codes_eq : words1.filter isCode = codes1 := rfl
theorem w_codes : ∀ c ∈ words1.filter isCode, c.before args0 about1 = true := by
  rw [codes_eq]
  intro c hc
  simp only [codes1, List.mem_cons, List.not_mem_nil, or_false] at hc
  rcases hc with rfl | rfl | rfl | rfl | rfl | rfl | rfl
  · exact w_c0
  · exact w_c1
  · exact w_c2
  · exact w_c3
  · exact w_c4
  · exact w_c5
  · exact w_c6
set_option maxRecDepth 65536 in
theorem w_t1 : words1.all (fun c => isCode c || c.before args0 about1) = true := by decide +kernel
theorem w_tables : (allAtoms (Jvm.Cond.code x code maxLocals ret :: tables_1)).before args0 about1 = true := by
  rw [allAtoms_all]
  show words1.all (fun c => c.before args0 about1) = true
  refine all_split ?_ w_codes
  rw [w_t1]
set_option maxRecDepth 65536 in
theorem w_case : (Jvm.Cond.and given_1 narrow_1).before args0 about1 = true := by decide +kernel
theorem w_applies : (headSpec (Jvm.Cond.code x code maxLocals ret :: tables_1) room_1).applies x e0.platform about1 = true :=
  (Spec.applies_iff w_frames).mpr ⟨w_running, w_runnable, w_alone, w_named, w_hears, w_ripe, w_room, w_tables⟩
theorem atStart : AtStart classFile x code maxLocals ret World_1 tables_1 room_1 Calls_1 rest_1 Pre_1 launch0 p0 e0 about1 theMethod args0 below0 :=
  ⟨lists_1, trivial, launch0.admits_env _ _ _, launch0.least_env, fairChoices_fair.cas, fairChoices_fair.clock, w_frames, w_args, w_heap, w_applies, trivial, trivial, w_case⟩
end start1
theorem witness_1 : WitnessClaimed_1 := ⟨start1.p0, start1.e0, start1.about1, start1.theMethod, start1.args0, start1.below0, start1.atStart⟩
end Jvm.Pilot.@@N@@
