import JvmDerived
import JvmDerived.Pilot.@@N@@Statement
import JvmDerived.Pilot.@@N@@Code
set_option linter.unusedVariables false
set_option linter.unusedSimpArgs false
namespace Jvm.RoadKit
open Sem ClassFile Op Lib Jvm.Stand Jvm.Free Jvm.LawKit
section New
variable {p : Program} {l : Launch} {e : Env} {R : Room} {s : State} {m : MethodId} {args : Array Value} {below : List Frame} {meth : Method} {c : Code} {T : State} {locs : List Loc} {cells slots : Nat}
theorem retI (X : Stand p l e R s m args below meth c T locs cells slots) (hx : p.tables.exec = Jvm.exec) {pc : Nat} {Ls : Array Slot} {z : Int32} {rest : List Value} (hret : meth.sig.returnType = some .int) (hd : decode c.code pc = .ok (.ireturn, 1)) {fs : List Frame}
    (hl : ∀ (f : JFrame) (acts : List Action), f.method = m → f.locked = none → f.entered = [] → (doReturn e (T.setTop f) acts (some (.int z))).1 = T.setFrames fs) : Steps p.tables e below (T.setTop (mkF m pc Ls (.int z :: rest))) (T.setFrames fs) := by
  have hm' : T.vm.method? m = some meth := X.method'
  have hn : narrow .int (.int z) = .int z := rfl
  show Steps p.tables e below (T.setTop { method := m, pc := pc, locals := Ls, stack := _ :: rest, locked := none }) _
  jvm_step X.here [X.here.top, hx, hd, hm', hret, hn]
  first | (intro acts; rw [hl _ acts rfl rfl rfl]) | rw [hl _ _ rfl rfl rfl]
  exact Steps.refl _
end New
end Jvm.RoadKit
namespace Jvm.Pilot.@@N@@
open Jvm Jvm.ClassFile Sem Op Lib Jvm.Free Jvm.Stand Jvm.LawKit Jvm.RoadKit Bundle Jvm.Pilot.@@N@@.Jvm.D
/-- from the state A the run comes to the frame f over T -/
abbrev Go (tb : Tables) (e : Env) (below : List Frame) (A T : State) (f : JFrame) : Prop := ∀ t, Steps tb e below (T.setTop f) t → Steps tb e below A t

theorem own_sta {args : Array Value} {s : State} {C n d K : String} {a0 : Array Value} (h : (Jvm.Cond.exactly (Term.static C n d) K).value args s none s [] = some true) (hi : (Jvm.Cond.initialized C).before args s = true) (hl : (Jvm.Cond.laysStatic C n d).before args s = true) :
    ∃ a, Sta s s.heap C n d (.ref a) ∧ Exa s s.heap a K ∧ (Term.static C n d).eval args s none [] s = some (.ref a) := by
  obtain ⟨a, e⟩ := exa_v h
  exact ⟨a, Sta.start e (Or.inr ⟨hi, hl⟩), Exa.start e h, e⟩
theorem own_fld {args : Array Value} {s : State} {t : Term} {a : Addr} {C n d : String} {z : Int32} (et : t.eval args s none [] s = some (.ref a)) (h : (Jvm.Cond.eq (Term.field t C n d) (Term.int z)).value args s none s [] = some true) : Fld s s.heap a C n d (.int z) := by
  obtain ⟨x, y, e1, e2, k1, k2⟩ := cmp_v (Or.inl h)
  cases (Term.int_eval z).symm.trans e2
  obtain ⟨u, rfl⟩ : ∃ u, x = .int u := k2
  have q : u = z := gotT (Cond.eq_ints e1 (Term.int_eval z)) h
  subst q
  simp only [Term.eval, et] at e1
  exact Fld.start e1

def own_pm (z p : Int32) : Int32 := if z = 0 then 1 else if p = 2 then 2 else 1
theorem own_mod3 (x : Int32) : ((x &&& (2147483647 : Int32)) % (3 : Int32)) = 0 ∨ ((x &&& (2147483647 : Int32)) % (3 : Int32)) = 1 ∨ ((x &&& (2147483647 : Int32)) % (3 : Int32)) = 2 := by
  have h := (c_and x 2147483647 (by decide)).1
  have e := (c_irem (x &&& (2147483647 : Int32)) 3 3 rfl).1 h
  simp only [← Int32.toInt_inj, e, show (0 : Int32).toInt = 0 from rfl, show (1 : Int32).toInt = 1 from rfl, show (2 : Int32).toInt = 2 from rfl]
  omega
theorem pd_0 : parseMethodDescriptor "(I)I" = some ⟨[.int], some .int⟩ := by decide +kernel
theorem d1_0 : decode prog_33_method_4_code 0 = .ok (.aload_n 0, 1) := by decide +kernel
theorem d1_1 : decode prog_33_method_4_code 1 = .ok (.getfield 36, 3) := by decide +kernel
theorem d1_4 : decode prog_33_method_4_code 4 = .ok (.ifCond .eq 12, 3) := by decide +kernel
theorem d1_7 : decode prog_33_method_4_code 7 = .ok (.iload_n 1, 1) := by decide +kernel
theorem d1_8 : decode prog_33_method_4_code 8 = .ok (.iconst 2, 1) := by decide +kernel
theorem d1_9 : decode prog_33_method_4_code 9 = .ok (.if_icmp .ne 7, 3) := by decide +kernel
theorem d1_12 : decode prog_33_method_4_code 12 = .ok (.iconst 2, 1) := by decide +kernel
theorem d1_13 : decode prog_33_method_4_code 13 = .ok (.goto 4, 3) := by decide +kernel
theorem d1_16 : decode prog_33_method_4_code 16 = .ok (.iconst 1, 1) := by decide +kernel
theorem d1_17 : decode prog_33_method_4_code 17 = .ok (.ireturn, 1) := by decide +kernel
theorem pn_pm : plainName "com/example/backrank/backrank/PlacementRule" = true := by first | (simp [plainName, overriddenIn]; done) | decide +kernel
theorem ef_pm (m : MethodId) (a0 : Addr) (p1 : Int32) : entryFrame m #[(.ref a0), (.int p1)] 2 = mkF m 0 #[.val (.ref a0), .val (.int p1)] [] := by first | (simp [entryFrame, mkF, argsToLocals, Value.category]; done) | rfl
def Q_pm (Z : State) (a0 : Addr) (p1 : Int32) (z0 : Int32) (h0 : Heap) (n0 : Nat) (v : Option Value) (h : Heap) (L : List Loc) : Prop := v = some (.int (own_pm z0 p1)) ∧ Fr n0 L ∧ h = h0
set_option maxRecDepth 65536 in
set_option maxHeartbeats 40000000 in
theorem rm_pm (l : Launch) (Z : State) (a0 : Array Value) (hw : ∀ d ∈ tables_1, d.before a0 Z = true) (ws : List Jvm.Cond) (a0 : Addr) (p1 : Int32) (z0 : Int32) (h0 : Heap) (n0 : Nat) (F0 : Fld Z h0 a0 "com/example/backrank/backrank/PlacementRule" "lastTwoTogether" "Z" (.int z0)) :
    MetFree l (⟨"com/example/backrank/backrank/PlacementRule", "piecesAMove", "(I)I"⟩ : MethodName) (head1 (Jvm.Cond.code (⟨"com/example/backrank/backrank/PlacementRule", "piecesAMove", "(I)I"⟩ : MethodName) prog_33_method_4_code 2 (some .int) :: ws) ({ frames := 0, cells := 0, slots := 0, locals := 0 } : Room)) (fun a U => a = #[(.ref a0), (.int p1)] ∧ Z.Warmed39 U.vm ∧ U.heap = h0) (fun _ _ _ _ _ => True) (fun _ U o U' => ∃ v L, o = .returned v ∧ Q_pm Z a0 p1 z0 h0 n0 v U'.heap L ∧ FrameEnd U o U' L ({ frames := 0, cells := 0, slots := 0, locals := 0 } : Room).cells ({ frames := 0, cells := 0, slots := 0, locals := 0 } : Room).slots) := by
  refine MetFree.of_bodySF (plainFor_of_name pn_pm) hisR ?_
  intro p e s m args below meth c s₁ Bd hml0 hP hK
  obtain ⟨rfl, hZ, hh⟩ := hP
  have hx := Bd.exec
  have hby := Bd.bytes
  have hml : c.maxLocals = 2 := hml0
  have hown : s.vm.findClass "com/example/backrank/backrank/PlacementRule" = some m.cls := findClass_of_methodNamed Bd.named
  have hnm := (name_of_methodNamed Bd.named Bd.method).1
  have X0 : Stand p l e ({ frames := 0, cells := 0, slots := 0, locals := 0 } : Room) s m #[(.ref a0), (.int p1)] below meth c s₁ [] 0 0 := Stand.of_body Bd
  have e0 : s₁.heap = h0 := by rw [← hh, Bd.state]; rfl
  have N0 := Fr.nil n0
  have pre0 : Go p.tables e below (s₁.setTop (entryFrame m #[(.ref a0), (.int p1)] 2)) s₁ (mkF m 0 #[.val (.ref a0), .val (.int p1)] []) := fun t k => castTop (ef_pm m a0 p1) k
  have pre1 : Go p.tables e below (s₁.setTop (entryFrame m #[(.ref a0), (.int p1)] 2)) s₁ (mkF m 1 #[.val (.ref a0), .val (.int p1)] [(.ref a0)]) := fun t k => pre0 t (by
      refine XS.aloadN X0.here hx rfl (hb hby d1_0) rfl rfl ?_
      exact k)
  obtain ⟨T2, X2, e2, st2⟩ := getF X0 hx hZ hown (host := "") (Or.inl (hw _ (List.mem_of_getElem? (i := 9) rfl))) Via.refl e0 F0 (g := (mkF m 1 #[.val (.ref a0), .val (.int p1)] [(.ref a0)])) rfl rfl (hb hby d1_1)
  have pre2 : Go p.tables e below (s₁.setTop (entryFrame m #[(.ref a0), (.int p1)] 2)) T2 (mkF m 4 #[.val (.ref a0), .val (.int p1)] [(.int z0)]) := fun t k => pre1 t (st2 _ k)
  by_cases hc3 : z0 = (0 : Int32)
  · -- hc3: True
    have pre4 : Go p.tables e below (s₁.setTop (entryFrame m #[(.ref a0), (.int p1)] 2)) T2 (mkF m 17 #[.val (.ref a0), .val (.int p1)] [(.int (1 : Int32))]) := fun t k => pre2 t (by
        refine XS.ifYes X2.here hx rfl (pc0 := 4) (pc' := 16) rfl (hb hby d1_4) rfl ((if0 _ _).trans (teq hc3).1) (by decide) (by decide) ?_
        show Steps p.tables e below (T2.setTop (mkF m 16 #[.val (.ref a0), .val (.int p1)] [])) _
        refine XS.iconst X2.here hx rfl (hb hby d1_16) ?_
        exact k)
    obtain ⟨fs, hr, hrun, hended, hW, hsame⟩ := X2.leave (v := some (.int (1 : Int32))) (fun h => by rw [Bd.returns] at h; cases h) (BodyLoose.notSynchronized Bd)
    refine ⟨_, _, pre4 _ ?_, hrun, hended, _, _, rfl, ?_, ⟨_, rfl⟩, hW, hsame.mono (Nat.le_of_ble_eq_true rfl) (Nat.le_of_ble_eq_true rfl)⟩
    · exact retI X2 hx Bd.returns (hb hby d1_17) hr
    · show Q_pm Z a0 p1 z0 h0 n0 _ T2.heap _
      rw [e2]
      exact ⟨by simp [own_pm, hc3], N0, rfl⟩
  · -- hc3: False
    have pre5 : Go p.tables e below (s₁.setTop (entryFrame m #[(.ref a0), (.int p1)] 2)) T2 (mkF m 9 #[.val (.ref a0), .val (.int p1)] [(.int (2 : Int32)), (.int p1)]) := fun t k => pre2 t (by
        refine XS.ifNo X2.here hx rfl (hb hby d1_4) rfl ((if0 _ _).trans (feq hc3).1) ?_
        show Steps p.tables e below (T2.setTop (mkF m 7 #[.val (.ref a0), .val (.int p1)] [])) _
        refine XS.iloadN X2.here hx rfl (hb hby d1_7) rfl ?_
        show Steps p.tables e below (T2.setTop (mkF m 8 #[.val (.ref a0), .val (.int p1)] [(.int p1)])) _
        refine XS.iconst X2.here hx rfl (hb hby d1_8) ?_
        exact k)
    by_cases hc6 : p1 = (2 : Int32)
    · -- hc6: True
      have pre7 : Go p.tables e below (s₁.setTop (entryFrame m #[(.ref a0), (.int p1)] 2)) T2 (mkF m 17 #[.val (.ref a0), .val (.int p1)] [(.int (2 : Int32))]) := fun t k => pre5 t (by
          refine XS.icmpNo X2.here hx rfl (hb hby d1_9) rfl (teq hc6).2 ?_
          show Steps p.tables e below (T2.setTop (mkF m 12 #[.val (.ref a0), .val (.int p1)] [])) _
          refine XS.iconst X2.here hx rfl (hb hby d1_12) ?_
          show Steps p.tables e below (T2.setTop (mkF m 13 #[.val (.ref a0), .val (.int p1)] [(.int (2 : Int32))])) _
          refine XS.goto X2.here hx rfl (pc0 := 13) (pc' := 17) rfl (hb hby d1_13) (by decide) (by decide) ?_
          exact k)
      obtain ⟨fs, hr, hrun, hended, hW, hsame⟩ := X2.leave (v := some (.int (2 : Int32))) (fun h => by rw [Bd.returns] at h; cases h) (BodyLoose.notSynchronized Bd)
      refine ⟨_, _, pre7 _ ?_, hrun, hended, _, _, rfl, ?_, ⟨_, rfl⟩, hW, hsame.mono (Nat.le_of_ble_eq_true rfl) (Nat.le_of_ble_eq_true rfl)⟩
      · exact retI X2 hx Bd.returns (hb hby d1_17) hr
      · show Q_pm Z a0 p1 z0 h0 n0 _ T2.heap _
        rw [e2]
        exact ⟨by simp [own_pm, hc3, hc6], N0, rfl⟩
    · -- hc6: False
      have pre8 : Go p.tables e below (s₁.setTop (entryFrame m #[(.ref a0), (.int p1)] 2)) T2 (mkF m 17 #[.val (.ref a0), .val (.int p1)] [(.int (1 : Int32))]) := fun t k => pre5 t (by
          refine XS.icmpYes X2.here hx rfl (pc0 := 9) (pc' := 16) rfl (hb hby d1_9) rfl (feq hc6).2 (by decide) (by decide) ?_
          show Steps p.tables e below (T2.setTop (mkF m 16 #[.val (.ref a0), .val (.int p1)] [])) _
          refine XS.iconst X2.here hx rfl (hb hby d1_16) ?_
          exact k)
      obtain ⟨fs, hr, hrun, hended, hW, hsame⟩ := X2.leave (v := some (.int (1 : Int32))) (fun h => by rw [Bd.returns] at h; cases h) (BodyLoose.notSynchronized Bd)
      refine ⟨_, _, pre8 _ ?_, hrun, hended, _, _, rfl, ?_, ⟨_, rfl⟩, hW, hsame.mono (Nat.le_of_ble_eq_true rfl) (Nat.le_of_ble_eq_true rfl)⟩
      · exact retI X2 hx Bd.returns (hb hby d1_17) hr
      · show Q_pm Z a0 p1 z0 h0 n0 _ T2.heap _
        rw [e2]
        exact ⟨by simp [own_pm, hc3, hc6], N0, rfl⟩
theorem pn_law : plainName "com/example/backrank/backrank/PlacementRulePiecesAMovePinLaw" = true := by first | (simp [plainName, overriddenIn]; done) | decide +kernel
theorem ef_law (m : MethodId) (x0 : Int32) (x1 : Int32) (x2 : Int32) : entryFrame m #[(.int x0), (.int x1), (.int x2)] maxLocals = mkF m 0 #[.val (.int x0), .val (.int x1), .val (.int x2), .unset, .unset, .unset, .unset, .unset, .unset] [] := by first | (simp [entryFrame, mkF, argsToLocals, Value.category, maxLocals]; done) | rfl
def Q_law (Z : State) (x0 : Int32) (x1 : Int32) (x2 : Int32) (r_NONE : Addr) (r_ONE_A_MOVE : Addr) (r_LAST_TWO_TOGETHER : Addr) (h0 : Heap) (n0 : Nat) (v : Option Value) (h : Heap) (L : List Loc) : Prop := v = some (.int 1) ∧ Fr n0 L
set_option maxRecDepth 65536 in
set_option maxHeartbeats 40000000 in
theorem rm_law (l : Launch) (Z : State) (a0 : Array Value) (hw : ∀ d ∈ tables_1, d.before a0 Z = true) (ws : List Jvm.Cond) (x0 : Int32) (x1 : Int32) (x2 : Int32) (r_NONE : Addr) (r_ONE_A_MOVE : Addr) (r_LAST_TWO_TOGETHER : Addr) (h0 : Heap) (n0 : Nat) (Z0 : n0 ≤ h0.size) (S_NONE : Sta Z h0 "com/example/backrank/backrank/PlacementRule" "NONE" "Lcom/example/backrank/backrank/PlacementRule;" (.ref r_NONE)) (S_ONE_A_MOVE : Sta Z h0 "com/example/backrank/backrank/PlacementRule" "ONE_A_MOVE" "Lcom/example/backrank/backrank/PlacementRule;" (.ref r_ONE_A_MOVE)) (S_LAST_TWO_TOGETHER : Sta Z h0 "com/example/backrank/backrank/PlacementRule" "LAST_TWO_TOGETHER" "Lcom/example/backrank/backrank/PlacementRule;" (.ref r_LAST_TWO_TOGETHER)) (E_NONE : Exa Z h0 r_NONE "com/example/backrank/backrank/PlacementRule") (E_ONE_A_MOVE : Exa Z h0 r_ONE_A_MOVE "com/example/backrank/backrank/PlacementRule") (E_LAST_TWO_TOGETHER : Exa Z h0 r_LAST_TWO_TOGETHER "com/example/backrank/backrank/PlacementRule") (F_NONE : Fld Z h0 r_NONE "com/example/backrank/backrank/PlacementRule" "lastTwoTogether" "Z" (.int (0 : Int32))) (F_ONE_A_MOVE : Fld Z h0 r_ONE_A_MOVE "com/example/backrank/backrank/PlacementRule" "lastTwoTogether" "Z" (.int (0 : Int32))) (F_LAST_TWO_TOGETHER : Fld Z h0 r_LAST_TWO_TOGETHER "com/example/backrank/backrank/PlacementRule" "lastTwoTogether" "Z" (.int (1 : Int32))) :
    MetFree l x (head1 (Jvm.Cond.code x code maxLocals ret :: ws) room_1) (fun a U => a = #[(.int x0), (.int x1), (.int x2)] ∧ Z.Warmed39 U.vm ∧ U.heap = h0) (fun _ _ _ _ _ => True) (fun _ U o U' => ∃ v L, o = .returned v ∧ Q_law Z x0 x1 x2 r_NONE r_ONE_A_MOVE r_LAST_TWO_TOGETHER h0 n0 v U'.heap L ∧ FrameEnd U o U' L room_1.cells room_1.slots) := by
  refine MetFree.of_bodySF (plainFor_of_name pn_law) hisR ?_
  intro p e s m args below meth c s₁ Bd hml0 hP hK
  obtain ⟨rfl, hZ, hh⟩ := hP
  have hx := Bd.exec
  have hby := Bd.bytes
  have hml : c.maxLocals = 9 := hml0
  have hown : s.vm.findClass "com/example/backrank/backrank/PlacementRulePiecesAMovePinLaw" = some m.cls := findClass_of_methodNamed Bd.named
  have hnm := (name_of_methodNamed Bd.named Bd.method).1
  have X0 : Stand p l e room_1 s m #[(.int x0), (.int x1), (.int x2)] below meth c s₁ [] 0 0 := Stand.of_body Bd
  have e0 : s₁.heap = h0 := by rw [← hh, Bd.state]; rfl
  have N0 := Fr.nil n0
  have pre0 : Go p.tables e below (s₁.setTop (entryFrame m #[(.int x0), (.int x1), (.int x2)] maxLocals)) s₁ (mkF m 0 #[.val (.int x0), .val (.int x1), .val (.int x2), .unset, .unset, .unset, .unset, .unset, .unset] []) := fun t k => castTop (ef_law m x0 x1 x2) k
  obtain ⟨w1, hw1⟩ : ∃ z : Int32, z = ((x0 &&& (2147483647 : Int32)) % (3 : Int32)) := ⟨_, rfl⟩
  have pre2 : Go p.tables e below (s₁.setTop (entryFrame m #[(.int x0), (.int x1), (.int x2)] maxLocals)) s₁ (mkF m 7 #[.val (.int x0), .val (.int x1), .val (.int x2), .val (.int w1), .unset, .unset, .unset, .unset, .unset] []) := fun t k => pre0 t (by
      refine XS.iloadN X0.here hx rfl (hb hby at_0) rfl ?_
      show Steps p.tables e below (s₁.setTop (mkF m 1 #[.val (.int x0), .val (.int x1), .val (.int x2), .unset, .unset, .unset, .unset, .unset, .unset] [(.int x0)])) _
      refine X0.ldcInt hx hown (mvT hZ (hw _ (List.mem_of_getElem? (i := 0) rfl))) (g := (mkF m 1 #[.val (.int x0), .val (.int x1), .val (.int x2), .unset, .unset, .unset, .unset, .unset, .unset] [(.int x0)])) rfl (hb hby at_1) _ ?_
      show Steps p.tables e below (s₁.setTop (mkF m 3 #[.val (.int x0), .val (.int x1), .val (.int x2), .unset, .unset, .unset, .unset, .unset, .unset] [(.int (2147483647 : Int32)), (.int x0)])) _
      refine XS.iand X0.here hx rfl (hb hby at_3) rfl ?_
      show Steps p.tables e below (s₁.setTop (mkF m 4 #[.val (.int x0), .val (.int x1), .val (.int x2), .unset, .unset, .unset, .unset, .unset, .unset] [(.int (x0 &&& (2147483647 : Int32)))])) _
      refine XS.iconst X0.here hx rfl (hb hby at_4) ?_
      show Steps p.tables e below (s₁.setTop (mkF m 5 #[.val (.int x0), .val (.int x1), .val (.int x2), .unset, .unset, .unset, .unset, .unset, .unset] [(.int (3 : Int32)), (.int (x0 &&& (2147483647 : Int32)))])) _
      refine iremM X0 hx (g := (mkF m 5 #[.val (.int x0), .val (.int x1), .val (.int x2), .unset, .unset, .unset, .unset, .unset, .unset] [(.int (3 : Int32)), (.int (x0 &&& (2147483647 : Int32)))])) rfl (hb hby at_5) rfl (by decide) ?_
      show Steps p.tables e below (s₁.setTop (mkF m 6 #[.val (.int x0), .val (.int x1), .val (.int x2), .unset, .unset, .unset, .unset, .unset, .unset] [(.int ((x0 &&& (2147483647 : Int32)) % (3 : Int32)))])) _
      refine XS.istoreN X0.here hx rfl (x := w1) (rest := []) (hb hby at_6) (by subst hw1; rfl) (l' := #[.val (.int x0), .val (.int x1), .val (.int x2), .val (.int w1), .unset, .unset, .unset, .unset, .unset]) rfl ?_
      exact k)
  have hq0 := own_mod3 x0
  rw [← hw1] at hq0
  clear hw1
  rcases (hq0) with rfl | rfl | rfl
  · -- w1 = (0 : Int32)
    have pre3 : Go p.tables e below (s₁.setTop (entryFrame m #[(.int x0), (.int x1), (.int x2)] maxLocals)) s₁ (mkF m 11 #[.val (.int x0), .val (.int x1), .val (.int x2), .val (.int (0 : Int32)), .unset, .unset, .unset, .unset, .unset] []) := fun t k => pre2 t (by
        refine XS.iloadN X0.here hx rfl (hb hby at_7) rfl ?_
        show Steps p.tables e below (s₁.setTop (mkF m 8 #[.val (.int x0), .val (.int x1), .val (.int x2), .val (.int (0 : Int32)), .unset, .unset, .unset, .unset, .unset] [(.int (0 : Int32))])) _
        refine XS.ifNo X0.here hx rfl (hb hby at_8) rfl ((if0 _ _).trans (teq (by decide)).2) ?_
        exact k)
    obtain ⟨T4, X4, e4, st4⟩ := getS2 X0 hx hZ hown (host := "") (Or.inl (hw _ (List.mem_of_getElem? (i := 1) rfl))) Via.refl e0 S_NONE (g := (mkF m 11 #[.val (.int x0), .val (.int x1), .val (.int x2), .val (.int (0 : Int32)), .unset, .unset, .unset, .unset, .unset] [])) rfl (hb hby at_11)
    have pre4 : Go p.tables e below (s₁.setTop (entryFrame m #[(.int x0), (.int x1), (.int x2)] maxLocals)) T4 (mkF m 14 #[.val (.int x0), .val (.int x1), .val (.int x2), .val (.int (0 : Int32)), .unset, .unset, .unset, .unset, .unset] [(.ref r_NONE)]) := fun t k => pre3 t (st4 _ k)
    obtain ⟨w5, hw5⟩ : ∃ z : Int32, z = (x1 &&& (3 : Int32)) := ⟨_, rfl⟩
    have pre6 : Go p.tables e below (s₁.setTop (entryFrame m #[(.int x0), (.int x1), (.int x2)] maxLocals)) T4 (mkF m 40 #[.val (.int x0), .val (.int x1), .val (.int x2), .val (.int (0 : Int32)), .val (.ref r_NONE), .val (.int w5), .unset, .unset, .unset] [(.int w5)]) := fun t k => pre4 t (by
        refine XS.goto X4.here hx rfl (pc0 := 14) (pc' := 31) rfl (hb hby at_14) (by decide) (by decide) ?_
        show Steps p.tables e below (T4.setTop (mkF m 31 #[.val (.int x0), .val (.int x1), .val (.int x2), .val (.int (0 : Int32)), .unset, .unset, .unset, .unset, .unset] [(.ref r_NONE)])) _
        refine XS.astore X4.here hx rfl (hb hby at_31) rfl rfl (l' := #[.val (.int x0), .val (.int x1), .val (.int x2), .val (.int (0 : Int32)), .val (.ref r_NONE), .unset, .unset, .unset, .unset]) rfl ?_
        show Steps p.tables e below (T4.setTop (mkF m 33 #[.val (.int x0), .val (.int x1), .val (.int x2), .val (.int (0 : Int32)), .val (.ref r_NONE), .unset, .unset, .unset, .unset] [])) _
        refine XS.iloadN X4.here hx rfl (hb hby at_33) rfl ?_
        show Steps p.tables e below (T4.setTop (mkF m 34 #[.val (.int x0), .val (.int x1), .val (.int x2), .val (.int (0 : Int32)), .val (.ref r_NONE), .unset, .unset, .unset, .unset] [(.int x1)])) _
        refine XS.iconst X4.here hx rfl (hb hby at_34) ?_
        show Steps p.tables e below (T4.setTop (mkF m 35 #[.val (.int x0), .val (.int x1), .val (.int x2), .val (.int (0 : Int32)), .val (.ref r_NONE), .unset, .unset, .unset, .unset] [(.int (3 : Int32)), (.int x1)])) _
        refine XS.iand X4.here hx rfl (hb hby at_35) rfl ?_
        show Steps p.tables e below (T4.setTop (mkF m 36 #[.val (.int x0), .val (.int x1), .val (.int x2), .val (.int (0 : Int32)), .val (.ref r_NONE), .unset, .unset, .unset, .unset] [(.int (x1 &&& (3 : Int32)))])) _
        refine XS.istore X4.here hx rfl (x := w5) (rest := []) (hb hby at_36) (by subst hw5; rfl) (l' := #[.val (.int x0), .val (.int x1), .val (.int x2), .val (.int (0 : Int32)), .val (.ref r_NONE), .val (.int w5), .unset, .unset, .unset]) rfl ?_
        show Steps p.tables e below (T4.setTop (mkF m 38 #[.val (.int x0), .val (.int x1), .val (.int x2), .val (.int (0 : Int32)), .val (.ref r_NONE), .val (.int w5), .unset, .unset, .unset] [])) _
        refine XS.iload X4.here hx rfl (hb hby at_38) rfl ?_
        exact k)
    obtain ⟨T7, L7, w8, X7, e7, N7, hw8, pre7⟩ : ∃ (T7 : State) (L7 : List Loc) (w8 : Int32), Stand p l e room_1 s m #[(.int x0), (.int x1), (.int x2)] below meth c T7 L7 0 0 ∧ T7.heap = h0 ∧ Fr n0 L7 ∧ w8 = (if w5 = (0 : Int32) then (2 : Int32) else (if w5 = (1 : Int32) then (1 : Int32) else (if w5 = (2 : Int32) then (3 : Int32) else x2))) ∧ Go p.tables e below (s₁.setTop (entryFrame m #[(.int x0), (.int x1), (.int x2)] maxLocals)) T7 (mkF m 68 #[.val (.int x0), .val (.int x1), .val (.int x2), .val (.int (0 : Int32)), .val (.ref r_NONE), .val (.int w5), .unset, .unset, .unset] [(.int w8)]) := by
      by_cases hc9 : w5 = (0 : Int32)
      · -- hc9: True
        have pre10 : Go p.tables e below (s₁.setTop (entryFrame m #[(.int x0), (.int x1), (.int x2)] maxLocals)) T4 (mkF m 68 #[.val (.int x0), .val (.int x1), .val (.int x2), .val (.int (0 : Int32)), .val (.ref r_NONE), .val (.int w5), .unset, .unset, .unset] [(.int (2 : Int32))]) := fun t k => pre6 t (by
            refine XS.ifNo X4.here hx rfl (hb hby at_40) rfl ((if0 _ _).trans (teq hc9).2) ?_
            show Steps p.tables e below (T4.setTop (mkF m 43 #[.val (.int x0), .val (.int x1), .val (.int x2), .val (.int (0 : Int32)), .val (.ref r_NONE), .val (.int w5), .unset, .unset, .unset] [])) _
            refine XS.iconst X4.here hx rfl (hb hby at_43) ?_
            show Steps p.tables e below (T4.setTop (mkF m 44 #[.val (.int x0), .val (.int x1), .val (.int x2), .val (.int (0 : Int32)), .val (.ref r_NONE), .val (.int w5), .unset, .unset, .unset] [(.int (2 : Int32))])) _
            refine XS.goto X4.here hx rfl (pc0 := 44) (pc' := 68) rfl (hb hby at_44) (by decide) (by decide) ?_
            exact k)
        refine ⟨_, _, _, X4, e4, N0, ?_, pre10⟩
        · exact (if_pos hc9).symm
      · -- hc9: False
        have pre11 : Go p.tables e below (s₁.setTop (entryFrame m #[(.int x0), (.int x1), (.int x2)] maxLocals)) T4 (mkF m 50 #[.val (.int x0), .val (.int x1), .val (.int x2), .val (.int (0 : Int32)), .val (.ref r_NONE), .val (.int w5), .unset, .unset, .unset] [(.int (1 : Int32)), (.int w5)]) := fun t k => pre6 t (by
            refine XS.ifYes X4.here hx rfl (pc0 := 40) (pc' := 47) rfl (hb hby at_40) rfl ((if0 _ _).trans (feq hc9).2) (by decide) (by decide) ?_
            show Steps p.tables e below (T4.setTop (mkF m 47 #[.val (.int x0), .val (.int x1), .val (.int x2), .val (.int (0 : Int32)), .val (.ref r_NONE), .val (.int w5), .unset, .unset, .unset] [])) _
            refine XS.iload X4.here hx rfl (hb hby at_47) rfl ?_
            show Steps p.tables e below (T4.setTop (mkF m 49 #[.val (.int x0), .val (.int x1), .val (.int x2), .val (.int (0 : Int32)), .val (.ref r_NONE), .val (.int w5), .unset, .unset, .unset] [(.int w5)])) _
            refine XS.iconst X4.here hx rfl (hb hby at_49) ?_
            exact k)
        by_cases hc12 : w5 = (1 : Int32)
        · -- hc12: True
          have pre13 : Go p.tables e below (s₁.setTop (entryFrame m #[(.int x0), (.int x1), (.int x2)] maxLocals)) T4 (mkF m 68 #[.val (.int x0), .val (.int x1), .val (.int x2), .val (.int (0 : Int32)), .val (.ref r_NONE), .val (.int w5), .unset, .unset, .unset] [(.int (1 : Int32))]) := fun t k => pre11 t (by
              refine XS.icmpNo X4.here hx rfl (hb hby at_50) rfl (teq hc12).2 ?_
              show Steps p.tables e below (T4.setTop (mkF m 53 #[.val (.int x0), .val (.int x1), .val (.int x2), .val (.int (0 : Int32)), .val (.ref r_NONE), .val (.int w5), .unset, .unset, .unset] [])) _
              refine XS.iconst X4.here hx rfl (hb hby at_53) ?_
              show Steps p.tables e below (T4.setTop (mkF m 54 #[.val (.int x0), .val (.int x1), .val (.int x2), .val (.int (0 : Int32)), .val (.ref r_NONE), .val (.int w5), .unset, .unset, .unset] [(.int (1 : Int32))])) _
              refine XS.goto X4.here hx rfl (pc0 := 54) (pc' := 68) rfl (hb hby at_54) (by decide) (by decide) ?_
              exact k)
          refine ⟨_, _, _, X4, e4, N0, ?_, pre13⟩
          · exact ((if_neg hc9).trans (if_pos hc12)).symm
        · -- hc12: False
          have pre14 : Go p.tables e below (s₁.setTop (entryFrame m #[(.int x0), (.int x1), (.int x2)] maxLocals)) T4 (mkF m 60 #[.val (.int x0), .val (.int x1), .val (.int x2), .val (.int (0 : Int32)), .val (.ref r_NONE), .val (.int w5), .unset, .unset, .unset] [(.int (2 : Int32)), (.int w5)]) := fun t k => pre11 t (by
              refine XS.icmpYes X4.here hx rfl (pc0 := 50) (pc' := 57) rfl (hb hby at_50) rfl (feq hc12).2 (by decide) (by decide) ?_
              show Steps p.tables e below (T4.setTop (mkF m 57 #[.val (.int x0), .val (.int x1), .val (.int x2), .val (.int (0 : Int32)), .val (.ref r_NONE), .val (.int w5), .unset, .unset, .unset] [])) _
              refine XS.iload X4.here hx rfl (hb hby at_57) rfl ?_
              show Steps p.tables e below (T4.setTop (mkF m 59 #[.val (.int x0), .val (.int x1), .val (.int x2), .val (.int (0 : Int32)), .val (.ref r_NONE), .val (.int w5), .unset, .unset, .unset] [(.int w5)])) _
              refine XS.iconst X4.here hx rfl (hb hby at_59) ?_
              exact k)
          by_cases hc15 : w5 = (2 : Int32)
          · -- hc15: True
            have pre16 : Go p.tables e below (s₁.setTop (entryFrame m #[(.int x0), (.int x1), (.int x2)] maxLocals)) T4 (mkF m 68 #[.val (.int x0), .val (.int x1), .val (.int x2), .val (.int (0 : Int32)), .val (.ref r_NONE), .val (.int w5), .unset, .unset, .unset] [(.int (3 : Int32))]) := fun t k => pre14 t (by
                refine XS.icmpNo X4.here hx rfl (hb hby at_60) rfl (teq hc15).2 ?_
                show Steps p.tables e below (T4.setTop (mkF m 63 #[.val (.int x0), .val (.int x1), .val (.int x2), .val (.int (0 : Int32)), .val (.ref r_NONE), .val (.int w5), .unset, .unset, .unset] [])) _
                refine XS.iconst X4.here hx rfl (hb hby at_63) ?_
                show Steps p.tables e below (T4.setTop (mkF m 64 #[.val (.int x0), .val (.int x1), .val (.int x2), .val (.int (0 : Int32)), .val (.ref r_NONE), .val (.int w5), .unset, .unset, .unset] [(.int (3 : Int32))])) _
                refine XS.goto X4.here hx rfl (pc0 := 64) (pc' := 68) rfl (hb hby at_64) (by decide) (by decide) ?_
                exact k)
            refine ⟨_, _, _, X4, e4, N0, ?_, pre16⟩
            · exact ((if_neg hc9).trans ((if_neg hc12).trans (if_pos hc15))).symm
          · -- hc15: False
            have pre17 : Go p.tables e below (s₁.setTop (entryFrame m #[(.int x0), (.int x1), (.int x2)] maxLocals)) T4 (mkF m 68 #[.val (.int x0), .val (.int x1), .val (.int x2), .val (.int (0 : Int32)), .val (.ref r_NONE), .val (.int w5), .unset, .unset, .unset] [(.int x2)]) := fun t k => pre14 t (by
                refine XS.icmpYes X4.here hx rfl (pc0 := 60) (pc' := 67) rfl (hb hby at_60) rfl (feq hc15).2 (by decide) (by decide) ?_
                show Steps p.tables e below (T4.setTop (mkF m 67 #[.val (.int x0), .val (.int x1), .val (.int x2), .val (.int (0 : Int32)), .val (.ref r_NONE), .val (.int w5), .unset, .unset, .unset] [])) _
                refine XS.iloadN X4.here hx rfl (hb hby at_67) rfl ?_
                exact k)
            refine ⟨_, _, _, X4, e4, N0, ?_, pre17⟩
            · exact ((if_neg hc9).trans ((if_neg hc12).trans (if_neg hc15))).symm
    have pre18 : Go p.tables e below (s₁.setTop (entryFrame m #[(.int x0), (.int x1), (.int x2)] maxLocals)) T7 (mkF m 74 #[.val (.int x0), .val (.int x1), .val (.int x2), .val (.int (0 : Int32)), .val (.ref r_NONE), .val (.int w5), .val (.int w8), .unset, .unset] [(.int w8), (.ref r_NONE)]) := fun t k => pre7 t (by
        refine XS.istore X7.here hx rfl (hb hby at_68) rfl (l' := #[.val (.int x0), .val (.int x1), .val (.int x2), .val (.int (0 : Int32)), .val (.ref r_NONE), .val (.int w5), .val (.int w8), .unset, .unset]) rfl ?_
        show Steps p.tables e below (T7.setTop (mkF m 70 #[.val (.int x0), .val (.int x1), .val (.int x2), .val (.int (0 : Int32)), .val (.ref r_NONE), .val (.int w5), .val (.int w8), .unset, .unset] [])) _
        refine XS.aload X7.here hx rfl (hb hby at_70) rfl rfl ?_
        show Steps p.tables e below (T7.setTop (mkF m 72 #[.val (.int x0), .val (.int x1), .val (.int x2), .val (.int (0 : Int32)), .val (.ref r_NONE), .val (.int w5), .val (.int w8), .unset, .unset] [(.ref r_NONE)])) _
        refine XS.iload X7.here hx rfl (hb hby at_72) rfl ?_
        exact k)
    obtain ⟨cq19, kq19, q19a, q19b, q19c⟩ := isOf hZ e7 E_NONE
    obtain ⟨_, _, ⟨T19, L19, k19, n19⟩, -, X19, ⟨Lc19, hQ19, l19, y19, z19⟩, st19⟩ := X7.virtualBack hx (y := (⟨"com/example/backrank/backrank/PlacementRule", "piecesAMove", "(I)I"⟩ : MethodName)) (z := (⟨"com/example/backrank/backrank/PlacementRule", "piecesAMove", "(I)I"⟩ : MethodName)) hown (mvT hZ (hw _ (List.mem_of_getElem? (i := 4) rfl))) (mvT hZ (hw _ (List.mem_of_getElem? (i := 5) rfl))) (notFace_of_selects (args := #[]) (mvT hZ (hw _ (List.mem_of_getElem? (i := 7) rfl)))) (mvT hZ (hw _ (List.mem_of_getElem? (i := 7) rfl))) (mvT hZ (hw _ (List.mem_of_getElem? (i := 6) rfl))) (by decide) (backOf (W := 0) (rm_pm l Z a0 hw [] r_NONE w8 (0 : Int32) h0 n0 F_NONE) hZ (hw _ (List.mem_of_getElem? (i := 8) rfl)) (hw _ (List.mem_of_getElem? (i := 2) rfl)) (by decide) (by decide)) q19a q19c (g := (mkF m 74 #[.val (.int x0), .val (.int x1), .val (.int x2), .val (.int (0 : Int32)), .val (.ref r_NONE), .val (.int w5), .val (.int w8), .unset, .unset] [(.int w8), (.ref r_NONE)])) rfl (by rw [hml]; rfl) (Steps.refl _) (argsL := [(.int w8)]) (rest := []) (lenOf pd_0 rfl) rfl (by show 2 * 0 + _ ≤ _; exact Nat.le_of_eq rfl) (hb hby at_74) (fun _ _ => ⟨rfl, e7, (by decide : 0 + 0 ≤ _), (by decide : 0 + 0 ≤ _)⟩)
    dsimp only [Pt.U, Pt.locs, Pt.cells, Pt.slots] at X19 l19 y19 z19 st19 hQ19
    subst l19 y19 z19
    obtain ⟨rfl, N19q, e19⟩ := hQ19
    have N19 := Fr.app N7 N19q
    have pre19 : Go p.tables e below (s₁.setTop (entryFrame m #[(.int x0), (.int x1), (.int x2)] maxLocals)) T19 (mkF m 77 #[.val (.int x0), .val (.int x1), .val (.int x2), .val (.int (0 : Int32)), .val (.ref r_NONE), .val (.int w5), .val (.int w8), .unset, .unset] [(.int (own_pm (0 : Int32) w8))]) := fun t k => pre18 t (st19.trans k)
    obtain ⟨w20, hw20⟩ : ∃ z : Int32, z = (own_pm (0 : Int32) w8) := ⟨_, rfl⟩
    have pre21 : Go p.tables e below (s₁.setTop (entryFrame m #[(.int x0), (.int x1), (.int x2)] maxLocals)) T19 (mkF m 109 #[.val (.int x0), .val (.int x1), .val (.int x2), .val (.int (0 : Int32)), .val (.ref r_NONE), .val (.int w5), .val (.int w8), .val (.int w20), .val (.int (1 : Int32))] [(.int (1 : Int32)), (.int w20)]) := fun t k => pre19 t (by
        refine XS.istore X19.here hx rfl (x := w20) (rest := []) (hb hby at_77) (by subst hw20; rfl) (l' := #[.val (.int x0), .val (.int x1), .val (.int x2), .val (.int (0 : Int32)), .val (.ref r_NONE), .val (.int w5), .val (.int w8), .val (.int w20), .unset]) rfl ?_
        show Steps p.tables e below (T19.setTop (mkF m 79 #[.val (.int x0), .val (.int x1), .val (.int x2), .val (.int (0 : Int32)), .val (.ref r_NONE), .val (.int w5), .val (.int w8), .val (.int w20), .unset] [])) _
        refine XS.iloadN X19.here hx rfl (hb hby at_79) rfl ?_
        show Steps p.tables e below (T19.setTop (mkF m 80 #[.val (.int x0), .val (.int x1), .val (.int x2), .val (.int (0 : Int32)), .val (.ref r_NONE), .val (.int w5), .val (.int w8), .val (.int w20), .unset] [(.int (0 : Int32))])) _
        refine XS.iconst X19.here hx rfl (hb hby at_80) ?_
        show Steps p.tables e below (T19.setTop (mkF m 81 #[.val (.int x0), .val (.int x1), .val (.int x2), .val (.int (0 : Int32)), .val (.ref r_NONE), .val (.int w5), .val (.int w8), .val (.int w20), .unset] [(.int (2 : Int32)), (.int (0 : Int32))])) _
        refine XS.icmpYes X19.here hx rfl (pc0 := 81) (pc' := 102) rfl (hb hby at_81) rfl (feq (by decide)).2 (by decide) (by decide) ?_
        show Steps p.tables e below (T19.setTop (mkF m 102 #[.val (.int x0), .val (.int x1), .val (.int x2), .val (.int (0 : Int32)), .val (.ref r_NONE), .val (.int w5), .val (.int w8), .val (.int w20), .unset] [])) _
        refine XS.iconst X19.here hx rfl (hb hby at_102) ?_
        show Steps p.tables e below (T19.setTop (mkF m 103 #[.val (.int x0), .val (.int x1), .val (.int x2), .val (.int (0 : Int32)), .val (.ref r_NONE), .val (.int w5), .val (.int w8), .val (.int w20), .unset] [(.int (1 : Int32))])) _
        refine XS.istore X19.here hx rfl (hb hby at_103) rfl (l' := #[.val (.int x0), .val (.int x1), .val (.int x2), .val (.int (0 : Int32)), .val (.ref r_NONE), .val (.int w5), .val (.int w8), .val (.int w20), .val (.int (1 : Int32))]) rfl ?_
        show Steps p.tables e below (T19.setTop (mkF m 105 #[.val (.int x0), .val (.int x1), .val (.int x2), .val (.int (0 : Int32)), .val (.ref r_NONE), .val (.int w5), .val (.int w8), .val (.int w20), .val (.int (1 : Int32))] [])) _
        refine XS.iload X19.here hx rfl (hb hby at_105) rfl ?_
        show Steps p.tables e below (T19.setTop (mkF m 107 #[.val (.int x0), .val (.int x1), .val (.int x2), .val (.int (0 : Int32)), .val (.ref r_NONE), .val (.int w5), .val (.int w8), .val (.int w20), .val (.int (1 : Int32))] [(.int w20)])) _
        refine XS.iload X19.here hx rfl (hb hby at_107) rfl ?_
        exact k)
    by_cases hc22 : w20 = (1 : Int32)
    · -- hc22: True
      have pre23 : Go p.tables e below (s₁.setTop (entryFrame m #[(.int x0), (.int x1), (.int x2)] maxLocals)) T19 (mkF m 117 #[.val (.int x0), .val (.int x1), .val (.int x2), .val (.int (0 : Int32)), .val (.ref r_NONE), .val (.int w5), .val (.int w8), .val (.int w20), .val (.int (1 : Int32))] [(.int (1 : Int32))]) := fun t k => pre21 t (by
          refine XS.icmpNo X19.here hx rfl (hb hby at_109) rfl (teq hc22).2 ?_
          show Steps p.tables e below (T19.setTop (mkF m 112 #[.val (.int x0), .val (.int x1), .val (.int x2), .val (.int (0 : Int32)), .val (.ref r_NONE), .val (.int w5), .val (.int w8), .val (.int w20), .val (.int (1 : Int32))] [])) _
          refine XS.iconst X19.here hx rfl (hb hby at_112) ?_
          show Steps p.tables e below (T19.setTop (mkF m 113 #[.val (.int x0), .val (.int x1), .val (.int x2), .val (.int (0 : Int32)), .val (.ref r_NONE), .val (.int w5), .val (.int w8), .val (.int w20), .val (.int (1 : Int32))] [(.int (1 : Int32))])) _
          refine XS.goto X19.here hx rfl (pc0 := 113) (pc' := 117) rfl (hb hby at_113) (by decide) (by decide) ?_
          exact k)
      obtain ⟨fs, hr, hrun, hended, hW, hsame⟩ := X19.leave (v := some (.int (1 : Int32))) (fun h => by rw [Bd.returns] at h; cases h) (BodyLoose.notSynchronized Bd)
      refine ⟨_, _, pre23 _ ?_, hrun, hended, _, _, rfl, ?_, ⟨_, rfl⟩, hW, hsame.mono (Nat.le_of_ble_eq_true rfl) (Nat.le_of_ble_eq_true rfl)⟩
      · exact retN X19 hx (t := .boolean) Bd.returns (by simp) (hb hby at_117) hr
      · show Q_law Z x0 x1 x2 r_NONE r_ONE_A_MOVE r_LAST_TWO_TOGETHER h0 n0 _ T19.heap _
        rw [e19]
        exact ⟨rfl, N19⟩
    · -- hc22: False
      have pre24 : Go p.tables e below (s₁.setTop (entryFrame m #[(.int x0), (.int x1), (.int x2)] maxLocals)) T19 (mkF m 117 #[.val (.int x0), .val (.int x1), .val (.int x2), .val (.int (0 : Int32)), .val (.ref r_NONE), .val (.int w5), .val (.int w8), .val (.int w20), .val (.int (1 : Int32))] [(.int (0 : Int32))]) := fun t k => pre21 t (by
          refine XS.icmpYes X19.here hx rfl (pc0 := 109) (pc' := 116) rfl (hb hby at_109) rfl (feq hc22).2 (by decide) (by decide) ?_
          show Steps p.tables e below (T19.setTop (mkF m 116 #[.val (.int x0), .val (.int x1), .val (.int x2), .val (.int (0 : Int32)), .val (.ref r_NONE), .val (.int w5), .val (.int w8), .val (.int w20), .val (.int (1 : Int32))] [])) _
          refine XS.iconst X19.here hx rfl (hb hby at_116) ?_
          exact k)
      obtain ⟨fs, hr, hrun, hended, hW, hsame⟩ := X19.leave (v := some (.int (0 : Int32))) (fun h => by rw [Bd.returns] at h; cases h) (BodyLoose.notSynchronized Bd)
      refine ⟨_, _, pre24 _ ?_, hrun, hended, _, _, rfl, ?_, ⟨_, rfl⟩, hW, hsame.mono (Nat.le_of_ble_eq_true rfl) (Nat.le_of_ble_eq_true rfl)⟩
      · exact retN X19 hx (t := .boolean) Bd.returns (by simp) (hb hby at_117) hr
      · show Q_law Z x0 x1 x2 r_NONE r_ONE_A_MOVE r_LAST_TWO_TOGETHER h0 n0 _ T19.heap _
        rw [e19]
        exfalso
        subst hw20 hw8 hw5
        revert hc22
        simp [own_pm]
  · -- w1 = (1 : Int32)
    have pre25 : Go p.tables e below (s₁.setTop (entryFrame m #[(.int x0), (.int x1), (.int x2)] maxLocals)) s₁ (mkF m 22 #[.val (.int x0), .val (.int x1), .val (.int x2), .val (.int (1 : Int32)), .unset, .unset, .unset, .unset, .unset] []) := fun t k => pre2 t (by
        refine XS.iloadN X0.here hx rfl (hb hby at_7) rfl ?_
        show Steps p.tables e below (s₁.setTop (mkF m 8 #[.val (.int x0), .val (.int x1), .val (.int x2), .val (.int (1 : Int32)), .unset, .unset, .unset, .unset, .unset] [(.int (1 : Int32))])) _
        refine XS.ifYes X0.here hx rfl (pc0 := 8) (pc' := 17) rfl (hb hby at_8) rfl ((if0 _ _).trans (feq (by decide)).2) (by decide) (by decide) ?_
        show Steps p.tables e below (s₁.setTop (mkF m 17 #[.val (.int x0), .val (.int x1), .val (.int x2), .val (.int (1 : Int32)), .unset, .unset, .unset, .unset, .unset] [])) _
        refine XS.iloadN X0.here hx rfl (hb hby at_17) rfl ?_
        show Steps p.tables e below (s₁.setTop (mkF m 18 #[.val (.int x0), .val (.int x1), .val (.int x2), .val (.int (1 : Int32)), .unset, .unset, .unset, .unset, .unset] [(.int (1 : Int32))])) _
        refine XS.iconst X0.here hx rfl (hb hby at_18) ?_
        show Steps p.tables e below (s₁.setTop (mkF m 19 #[.val (.int x0), .val (.int x1), .val (.int x2), .val (.int (1 : Int32)), .unset, .unset, .unset, .unset, .unset] [(.int (1 : Int32)), (.int (1 : Int32))])) _
        refine XS.icmpNo X0.here hx rfl (hb hby at_19) rfl (teq (by decide)).2 ?_
        exact k)
    obtain ⟨T26, X26, e26, st26⟩ := getS2 X0 hx hZ hown (host := "") (Or.inl (hw _ (List.mem_of_getElem? (i := 11) rfl))) Via.refl e0 S_ONE_A_MOVE (g := (mkF m 22 #[.val (.int x0), .val (.int x1), .val (.int x2), .val (.int (1 : Int32)), .unset, .unset, .unset, .unset, .unset] [])) rfl (hb hby at_22)
    have pre26 : Go p.tables e below (s₁.setTop (entryFrame m #[(.int x0), (.int x1), (.int x2)] maxLocals)) T26 (mkF m 25 #[.val (.int x0), .val (.int x1), .val (.int x2), .val (.int (1 : Int32)), .unset, .unset, .unset, .unset, .unset] [(.ref r_ONE_A_MOVE)]) := fun t k => pre25 t (st26 _ k)
    obtain ⟨w27, hw27⟩ : ∃ z : Int32, z = (x1 &&& (3 : Int32)) := ⟨_, rfl⟩
    have pre28 : Go p.tables e below (s₁.setTop (entryFrame m #[(.int x0), (.int x1), (.int x2)] maxLocals)) T26 (mkF m 40 #[.val (.int x0), .val (.int x1), .val (.int x2), .val (.int (1 : Int32)), .val (.ref r_ONE_A_MOVE), .val (.int w27), .unset, .unset, .unset] [(.int w27)]) := fun t k => pre26 t (by
        refine XS.goto X26.here hx rfl (pc0 := 25) (pc' := 31) rfl (hb hby at_25) (by decide) (by decide) ?_
        show Steps p.tables e below (T26.setTop (mkF m 31 #[.val (.int x0), .val (.int x1), .val (.int x2), .val (.int (1 : Int32)), .unset, .unset, .unset, .unset, .unset] [(.ref r_ONE_A_MOVE)])) _
        refine XS.astore X26.here hx rfl (hb hby at_31) rfl rfl (l' := #[.val (.int x0), .val (.int x1), .val (.int x2), .val (.int (1 : Int32)), .val (.ref r_ONE_A_MOVE), .unset, .unset, .unset, .unset]) rfl ?_
        show Steps p.tables e below (T26.setTop (mkF m 33 #[.val (.int x0), .val (.int x1), .val (.int x2), .val (.int (1 : Int32)), .val (.ref r_ONE_A_MOVE), .unset, .unset, .unset, .unset] [])) _
        refine XS.iloadN X26.here hx rfl (hb hby at_33) rfl ?_
        show Steps p.tables e below (T26.setTop (mkF m 34 #[.val (.int x0), .val (.int x1), .val (.int x2), .val (.int (1 : Int32)), .val (.ref r_ONE_A_MOVE), .unset, .unset, .unset, .unset] [(.int x1)])) _
        refine XS.iconst X26.here hx rfl (hb hby at_34) ?_
        show Steps p.tables e below (T26.setTop (mkF m 35 #[.val (.int x0), .val (.int x1), .val (.int x2), .val (.int (1 : Int32)), .val (.ref r_ONE_A_MOVE), .unset, .unset, .unset, .unset] [(.int (3 : Int32)), (.int x1)])) _
        refine XS.iand X26.here hx rfl (hb hby at_35) rfl ?_
        show Steps p.tables e below (T26.setTop (mkF m 36 #[.val (.int x0), .val (.int x1), .val (.int x2), .val (.int (1 : Int32)), .val (.ref r_ONE_A_MOVE), .unset, .unset, .unset, .unset] [(.int (x1 &&& (3 : Int32)))])) _
        refine XS.istore X26.here hx rfl (x := w27) (rest := []) (hb hby at_36) (by subst hw27; rfl) (l' := #[.val (.int x0), .val (.int x1), .val (.int x2), .val (.int (1 : Int32)), .val (.ref r_ONE_A_MOVE), .val (.int w27), .unset, .unset, .unset]) rfl ?_
        show Steps p.tables e below (T26.setTop (mkF m 38 #[.val (.int x0), .val (.int x1), .val (.int x2), .val (.int (1 : Int32)), .val (.ref r_ONE_A_MOVE), .val (.int w27), .unset, .unset, .unset] [])) _
        refine XS.iload X26.here hx rfl (hb hby at_38) rfl ?_
        exact k)
    obtain ⟨T29, L29, w30, X29, e29, N29, hw30, pre29⟩ : ∃ (T29 : State) (L29 : List Loc) (w30 : Int32), Stand p l e room_1 s m #[(.int x0), (.int x1), (.int x2)] below meth c T29 L29 0 0 ∧ T29.heap = h0 ∧ Fr n0 L29 ∧ w30 = (if w27 = (0 : Int32) then (2 : Int32) else (if w27 = (1 : Int32) then (1 : Int32) else (if w27 = (2 : Int32) then (3 : Int32) else x2))) ∧ Go p.tables e below (s₁.setTop (entryFrame m #[(.int x0), (.int x1), (.int x2)] maxLocals)) T29 (mkF m 68 #[.val (.int x0), .val (.int x1), .val (.int x2), .val (.int (1 : Int32)), .val (.ref r_ONE_A_MOVE), .val (.int w27), .unset, .unset, .unset] [(.int w30)]) := by
      by_cases hc31 : w27 = (0 : Int32)
      · -- hc31: True
        have pre32 : Go p.tables e below (s₁.setTop (entryFrame m #[(.int x0), (.int x1), (.int x2)] maxLocals)) T26 (mkF m 68 #[.val (.int x0), .val (.int x1), .val (.int x2), .val (.int (1 : Int32)), .val (.ref r_ONE_A_MOVE), .val (.int w27), .unset, .unset, .unset] [(.int (2 : Int32))]) := fun t k => pre28 t (by
            refine XS.ifNo X26.here hx rfl (hb hby at_40) rfl ((if0 _ _).trans (teq hc31).2) ?_
            show Steps p.tables e below (T26.setTop (mkF m 43 #[.val (.int x0), .val (.int x1), .val (.int x2), .val (.int (1 : Int32)), .val (.ref r_ONE_A_MOVE), .val (.int w27), .unset, .unset, .unset] [])) _
            refine XS.iconst X26.here hx rfl (hb hby at_43) ?_
            show Steps p.tables e below (T26.setTop (mkF m 44 #[.val (.int x0), .val (.int x1), .val (.int x2), .val (.int (1 : Int32)), .val (.ref r_ONE_A_MOVE), .val (.int w27), .unset, .unset, .unset] [(.int (2 : Int32))])) _
            refine XS.goto X26.here hx rfl (pc0 := 44) (pc' := 68) rfl (hb hby at_44) (by decide) (by decide) ?_
            exact k)
        refine ⟨_, _, _, X26, e26, N0, ?_, pre32⟩
        · exact (if_pos hc31).symm
      · -- hc31: False
        have pre33 : Go p.tables e below (s₁.setTop (entryFrame m #[(.int x0), (.int x1), (.int x2)] maxLocals)) T26 (mkF m 50 #[.val (.int x0), .val (.int x1), .val (.int x2), .val (.int (1 : Int32)), .val (.ref r_ONE_A_MOVE), .val (.int w27), .unset, .unset, .unset] [(.int (1 : Int32)), (.int w27)]) := fun t k => pre28 t (by
            refine XS.ifYes X26.here hx rfl (pc0 := 40) (pc' := 47) rfl (hb hby at_40) rfl ((if0 _ _).trans (feq hc31).2) (by decide) (by decide) ?_
            show Steps p.tables e below (T26.setTop (mkF m 47 #[.val (.int x0), .val (.int x1), .val (.int x2), .val (.int (1 : Int32)), .val (.ref r_ONE_A_MOVE), .val (.int w27), .unset, .unset, .unset] [])) _
            refine XS.iload X26.here hx rfl (hb hby at_47) rfl ?_
            show Steps p.tables e below (T26.setTop (mkF m 49 #[.val (.int x0), .val (.int x1), .val (.int x2), .val (.int (1 : Int32)), .val (.ref r_ONE_A_MOVE), .val (.int w27), .unset, .unset, .unset] [(.int w27)])) _
            refine XS.iconst X26.here hx rfl (hb hby at_49) ?_
            exact k)
        by_cases hc34 : w27 = (1 : Int32)
        · -- hc34: True
          have pre35 : Go p.tables e below (s₁.setTop (entryFrame m #[(.int x0), (.int x1), (.int x2)] maxLocals)) T26 (mkF m 68 #[.val (.int x0), .val (.int x1), .val (.int x2), .val (.int (1 : Int32)), .val (.ref r_ONE_A_MOVE), .val (.int w27), .unset, .unset, .unset] [(.int (1 : Int32))]) := fun t k => pre33 t (by
              refine XS.icmpNo X26.here hx rfl (hb hby at_50) rfl (teq hc34).2 ?_
              show Steps p.tables e below (T26.setTop (mkF m 53 #[.val (.int x0), .val (.int x1), .val (.int x2), .val (.int (1 : Int32)), .val (.ref r_ONE_A_MOVE), .val (.int w27), .unset, .unset, .unset] [])) _
              refine XS.iconst X26.here hx rfl (hb hby at_53) ?_
              show Steps p.tables e below (T26.setTop (mkF m 54 #[.val (.int x0), .val (.int x1), .val (.int x2), .val (.int (1 : Int32)), .val (.ref r_ONE_A_MOVE), .val (.int w27), .unset, .unset, .unset] [(.int (1 : Int32))])) _
              refine XS.goto X26.here hx rfl (pc0 := 54) (pc' := 68) rfl (hb hby at_54) (by decide) (by decide) ?_
              exact k)
          refine ⟨_, _, _, X26, e26, N0, ?_, pre35⟩
          · exact ((if_neg hc31).trans (if_pos hc34)).symm
        · -- hc34: False
          have pre36 : Go p.tables e below (s₁.setTop (entryFrame m #[(.int x0), (.int x1), (.int x2)] maxLocals)) T26 (mkF m 60 #[.val (.int x0), .val (.int x1), .val (.int x2), .val (.int (1 : Int32)), .val (.ref r_ONE_A_MOVE), .val (.int w27), .unset, .unset, .unset] [(.int (2 : Int32)), (.int w27)]) := fun t k => pre33 t (by
              refine XS.icmpYes X26.here hx rfl (pc0 := 50) (pc' := 57) rfl (hb hby at_50) rfl (feq hc34).2 (by decide) (by decide) ?_
              show Steps p.tables e below (T26.setTop (mkF m 57 #[.val (.int x0), .val (.int x1), .val (.int x2), .val (.int (1 : Int32)), .val (.ref r_ONE_A_MOVE), .val (.int w27), .unset, .unset, .unset] [])) _
              refine XS.iload X26.here hx rfl (hb hby at_57) rfl ?_
              show Steps p.tables e below (T26.setTop (mkF m 59 #[.val (.int x0), .val (.int x1), .val (.int x2), .val (.int (1 : Int32)), .val (.ref r_ONE_A_MOVE), .val (.int w27), .unset, .unset, .unset] [(.int w27)])) _
              refine XS.iconst X26.here hx rfl (hb hby at_59) ?_
              exact k)
          by_cases hc37 : w27 = (2 : Int32)
          · -- hc37: True
            have pre38 : Go p.tables e below (s₁.setTop (entryFrame m #[(.int x0), (.int x1), (.int x2)] maxLocals)) T26 (mkF m 68 #[.val (.int x0), .val (.int x1), .val (.int x2), .val (.int (1 : Int32)), .val (.ref r_ONE_A_MOVE), .val (.int w27), .unset, .unset, .unset] [(.int (3 : Int32))]) := fun t k => pre36 t (by
                refine XS.icmpNo X26.here hx rfl (hb hby at_60) rfl (teq hc37).2 ?_
                show Steps p.tables e below (T26.setTop (mkF m 63 #[.val (.int x0), .val (.int x1), .val (.int x2), .val (.int (1 : Int32)), .val (.ref r_ONE_A_MOVE), .val (.int w27), .unset, .unset, .unset] [])) _
                refine XS.iconst X26.here hx rfl (hb hby at_63) ?_
                show Steps p.tables e below (T26.setTop (mkF m 64 #[.val (.int x0), .val (.int x1), .val (.int x2), .val (.int (1 : Int32)), .val (.ref r_ONE_A_MOVE), .val (.int w27), .unset, .unset, .unset] [(.int (3 : Int32))])) _
                refine XS.goto X26.here hx rfl (pc0 := 64) (pc' := 68) rfl (hb hby at_64) (by decide) (by decide) ?_
                exact k)
            refine ⟨_, _, _, X26, e26, N0, ?_, pre38⟩
            · exact ((if_neg hc31).trans ((if_neg hc34).trans (if_pos hc37))).symm
          · -- hc37: False
            have pre39 : Go p.tables e below (s₁.setTop (entryFrame m #[(.int x0), (.int x1), (.int x2)] maxLocals)) T26 (mkF m 68 #[.val (.int x0), .val (.int x1), .val (.int x2), .val (.int (1 : Int32)), .val (.ref r_ONE_A_MOVE), .val (.int w27), .unset, .unset, .unset] [(.int x2)]) := fun t k => pre36 t (by
                refine XS.icmpYes X26.here hx rfl (pc0 := 60) (pc' := 67) rfl (hb hby at_60) rfl (feq hc37).2 (by decide) (by decide) ?_
                show Steps p.tables e below (T26.setTop (mkF m 67 #[.val (.int x0), .val (.int x1), .val (.int x2), .val (.int (1 : Int32)), .val (.ref r_ONE_A_MOVE), .val (.int w27), .unset, .unset, .unset] [])) _
                refine XS.iloadN X26.here hx rfl (hb hby at_67) rfl ?_
                exact k)
            refine ⟨_, _, _, X26, e26, N0, ?_, pre39⟩
            · exact ((if_neg hc31).trans ((if_neg hc34).trans (if_neg hc37))).symm
    have pre40 : Go p.tables e below (s₁.setTop (entryFrame m #[(.int x0), (.int x1), (.int x2)] maxLocals)) T29 (mkF m 74 #[.val (.int x0), .val (.int x1), .val (.int x2), .val (.int (1 : Int32)), .val (.ref r_ONE_A_MOVE), .val (.int w27), .val (.int w30), .unset, .unset] [(.int w30), (.ref r_ONE_A_MOVE)]) := fun t k => pre29 t (by
        refine XS.istore X29.here hx rfl (hb hby at_68) rfl (l' := #[.val (.int x0), .val (.int x1), .val (.int x2), .val (.int (1 : Int32)), .val (.ref r_ONE_A_MOVE), .val (.int w27), .val (.int w30), .unset, .unset]) rfl ?_
        show Steps p.tables e below (T29.setTop (mkF m 70 #[.val (.int x0), .val (.int x1), .val (.int x2), .val (.int (1 : Int32)), .val (.ref r_ONE_A_MOVE), .val (.int w27), .val (.int w30), .unset, .unset] [])) _
        refine XS.aload X29.here hx rfl (hb hby at_70) rfl rfl ?_
        show Steps p.tables e below (T29.setTop (mkF m 72 #[.val (.int x0), .val (.int x1), .val (.int x2), .val (.int (1 : Int32)), .val (.ref r_ONE_A_MOVE), .val (.int w27), .val (.int w30), .unset, .unset] [(.ref r_ONE_A_MOVE)])) _
        refine XS.iload X29.here hx rfl (hb hby at_72) rfl ?_
        exact k)
    obtain ⟨cq41, kq41, q41a, q41b, q41c⟩ := isOf hZ e29 E_ONE_A_MOVE
    obtain ⟨_, _, ⟨T41, L41, k41, n41⟩, -, X41, ⟨Lc41, hQ41, l41, y41, z41⟩, st41⟩ := X29.virtualBack hx (y := (⟨"com/example/backrank/backrank/PlacementRule", "piecesAMove", "(I)I"⟩ : MethodName)) (z := (⟨"com/example/backrank/backrank/PlacementRule", "piecesAMove", "(I)I"⟩ : MethodName)) hown (mvT hZ (hw _ (List.mem_of_getElem? (i := 4) rfl))) (mvT hZ (hw _ (List.mem_of_getElem? (i := 5) rfl))) (notFace_of_selects (args := #[]) (mvT hZ (hw _ (List.mem_of_getElem? (i := 7) rfl)))) (mvT hZ (hw _ (List.mem_of_getElem? (i := 7) rfl))) (mvT hZ (hw _ (List.mem_of_getElem? (i := 6) rfl))) (by decide) (backOf (W := 0) (rm_pm l Z a0 hw [] r_ONE_A_MOVE w30 (0 : Int32) h0 n0 F_ONE_A_MOVE) hZ (hw _ (List.mem_of_getElem? (i := 8) rfl)) (hw _ (List.mem_of_getElem? (i := 2) rfl)) (by decide) (by decide)) q41a q41c (g := (mkF m 74 #[.val (.int x0), .val (.int x1), .val (.int x2), .val (.int (1 : Int32)), .val (.ref r_ONE_A_MOVE), .val (.int w27), .val (.int w30), .unset, .unset] [(.int w30), (.ref r_ONE_A_MOVE)])) rfl (by rw [hml]; rfl) (Steps.refl _) (argsL := [(.int w30)]) (rest := []) (lenOf pd_0 rfl) rfl (by show 2 * 0 + _ ≤ _; exact Nat.le_of_eq rfl) (hb hby at_74) (fun _ _ => ⟨rfl, e29, (by decide : 0 + 0 ≤ _), (by decide : 0 + 0 ≤ _)⟩)
    dsimp only [Pt.U, Pt.locs, Pt.cells, Pt.slots] at X41 l41 y41 z41 st41 hQ41
    subst l41 y41 z41
    obtain ⟨rfl, N41q, e41⟩ := hQ41
    have N41 := Fr.app N29 N41q
    have pre41 : Go p.tables e below (s₁.setTop (entryFrame m #[(.int x0), (.int x1), (.int x2)] maxLocals)) T41 (mkF m 77 #[.val (.int x0), .val (.int x1), .val (.int x2), .val (.int (1 : Int32)), .val (.ref r_ONE_A_MOVE), .val (.int w27), .val (.int w30), .unset, .unset] [(.int (own_pm (0 : Int32) w30))]) := fun t k => pre40 t (st41.trans k)
    obtain ⟨w42, hw42⟩ : ∃ z : Int32, z = (own_pm (0 : Int32) w30) := ⟨_, rfl⟩
    have pre43 : Go p.tables e below (s₁.setTop (entryFrame m #[(.int x0), (.int x1), (.int x2)] maxLocals)) T41 (mkF m 109 #[.val (.int x0), .val (.int x1), .val (.int x2), .val (.int (1 : Int32)), .val (.ref r_ONE_A_MOVE), .val (.int w27), .val (.int w30), .val (.int w42), .val (.int (1 : Int32))] [(.int (1 : Int32)), (.int w42)]) := fun t k => pre41 t (by
        refine XS.istore X41.here hx rfl (x := w42) (rest := []) (hb hby at_77) (by subst hw42; rfl) (l' := #[.val (.int x0), .val (.int x1), .val (.int x2), .val (.int (1 : Int32)), .val (.ref r_ONE_A_MOVE), .val (.int w27), .val (.int w30), .val (.int w42), .unset]) rfl ?_
        show Steps p.tables e below (T41.setTop (mkF m 79 #[.val (.int x0), .val (.int x1), .val (.int x2), .val (.int (1 : Int32)), .val (.ref r_ONE_A_MOVE), .val (.int w27), .val (.int w30), .val (.int w42), .unset] [])) _
        refine XS.iloadN X41.here hx rfl (hb hby at_79) rfl ?_
        show Steps p.tables e below (T41.setTop (mkF m 80 #[.val (.int x0), .val (.int x1), .val (.int x2), .val (.int (1 : Int32)), .val (.ref r_ONE_A_MOVE), .val (.int w27), .val (.int w30), .val (.int w42), .unset] [(.int (1 : Int32))])) _
        refine XS.iconst X41.here hx rfl (hb hby at_80) ?_
        show Steps p.tables e below (T41.setTop (mkF m 81 #[.val (.int x0), .val (.int x1), .val (.int x2), .val (.int (1 : Int32)), .val (.ref r_ONE_A_MOVE), .val (.int w27), .val (.int w30), .val (.int w42), .unset] [(.int (2 : Int32)), (.int (1 : Int32))])) _
        refine XS.icmpYes X41.here hx rfl (pc0 := 81) (pc' := 102) rfl (hb hby at_81) rfl (feq (by decide)).2 (by decide) (by decide) ?_
        show Steps p.tables e below (T41.setTop (mkF m 102 #[.val (.int x0), .val (.int x1), .val (.int x2), .val (.int (1 : Int32)), .val (.ref r_ONE_A_MOVE), .val (.int w27), .val (.int w30), .val (.int w42), .unset] [])) _
        refine XS.iconst X41.here hx rfl (hb hby at_102) ?_
        show Steps p.tables e below (T41.setTop (mkF m 103 #[.val (.int x0), .val (.int x1), .val (.int x2), .val (.int (1 : Int32)), .val (.ref r_ONE_A_MOVE), .val (.int w27), .val (.int w30), .val (.int w42), .unset] [(.int (1 : Int32))])) _
        refine XS.istore X41.here hx rfl (hb hby at_103) rfl (l' := #[.val (.int x0), .val (.int x1), .val (.int x2), .val (.int (1 : Int32)), .val (.ref r_ONE_A_MOVE), .val (.int w27), .val (.int w30), .val (.int w42), .val (.int (1 : Int32))]) rfl ?_
        show Steps p.tables e below (T41.setTop (mkF m 105 #[.val (.int x0), .val (.int x1), .val (.int x2), .val (.int (1 : Int32)), .val (.ref r_ONE_A_MOVE), .val (.int w27), .val (.int w30), .val (.int w42), .val (.int (1 : Int32))] [])) _
        refine XS.iload X41.here hx rfl (hb hby at_105) rfl ?_
        show Steps p.tables e below (T41.setTop (mkF m 107 #[.val (.int x0), .val (.int x1), .val (.int x2), .val (.int (1 : Int32)), .val (.ref r_ONE_A_MOVE), .val (.int w27), .val (.int w30), .val (.int w42), .val (.int (1 : Int32))] [(.int w42)])) _
        refine XS.iload X41.here hx rfl (hb hby at_107) rfl ?_
        exact k)
    by_cases hc44 : w42 = (1 : Int32)
    · -- hc44: True
      have pre45 : Go p.tables e below (s₁.setTop (entryFrame m #[(.int x0), (.int x1), (.int x2)] maxLocals)) T41 (mkF m 117 #[.val (.int x0), .val (.int x1), .val (.int x2), .val (.int (1 : Int32)), .val (.ref r_ONE_A_MOVE), .val (.int w27), .val (.int w30), .val (.int w42), .val (.int (1 : Int32))] [(.int (1 : Int32))]) := fun t k => pre43 t (by
          refine XS.icmpNo X41.here hx rfl (hb hby at_109) rfl (teq hc44).2 ?_
          show Steps p.tables e below (T41.setTop (mkF m 112 #[.val (.int x0), .val (.int x1), .val (.int x2), .val (.int (1 : Int32)), .val (.ref r_ONE_A_MOVE), .val (.int w27), .val (.int w30), .val (.int w42), .val (.int (1 : Int32))] [])) _
          refine XS.iconst X41.here hx rfl (hb hby at_112) ?_
          show Steps p.tables e below (T41.setTop (mkF m 113 #[.val (.int x0), .val (.int x1), .val (.int x2), .val (.int (1 : Int32)), .val (.ref r_ONE_A_MOVE), .val (.int w27), .val (.int w30), .val (.int w42), .val (.int (1 : Int32))] [(.int (1 : Int32))])) _
          refine XS.goto X41.here hx rfl (pc0 := 113) (pc' := 117) rfl (hb hby at_113) (by decide) (by decide) ?_
          exact k)
      obtain ⟨fs, hr, hrun, hended, hW, hsame⟩ := X41.leave (v := some (.int (1 : Int32))) (fun h => by rw [Bd.returns] at h; cases h) (BodyLoose.notSynchronized Bd)
      refine ⟨_, _, pre45 _ ?_, hrun, hended, _, _, rfl, ?_, ⟨_, rfl⟩, hW, hsame.mono (Nat.le_of_ble_eq_true rfl) (Nat.le_of_ble_eq_true rfl)⟩
      · exact retN X41 hx (t := .boolean) Bd.returns (by simp) (hb hby at_117) hr
      · show Q_law Z x0 x1 x2 r_NONE r_ONE_A_MOVE r_LAST_TWO_TOGETHER h0 n0 _ T41.heap _
        rw [e41]
        exact ⟨rfl, N41⟩
    · -- hc44: False
      have pre46 : Go p.tables e below (s₁.setTop (entryFrame m #[(.int x0), (.int x1), (.int x2)] maxLocals)) T41 (mkF m 117 #[.val (.int x0), .val (.int x1), .val (.int x2), .val (.int (1 : Int32)), .val (.ref r_ONE_A_MOVE), .val (.int w27), .val (.int w30), .val (.int w42), .val (.int (1 : Int32))] [(.int (0 : Int32))]) := fun t k => pre43 t (by
          refine XS.icmpYes X41.here hx rfl (pc0 := 109) (pc' := 116) rfl (hb hby at_109) rfl (feq hc44).2 (by decide) (by decide) ?_
          show Steps p.tables e below (T41.setTop (mkF m 116 #[.val (.int x0), .val (.int x1), .val (.int x2), .val (.int (1 : Int32)), .val (.ref r_ONE_A_MOVE), .val (.int w27), .val (.int w30), .val (.int w42), .val (.int (1 : Int32))] [])) _
          refine XS.iconst X41.here hx rfl (hb hby at_116) ?_
          exact k)
      obtain ⟨fs, hr, hrun, hended, hW, hsame⟩ := X41.leave (v := some (.int (0 : Int32))) (fun h => by rw [Bd.returns] at h; cases h) (BodyLoose.notSynchronized Bd)
      refine ⟨_, _, pre46 _ ?_, hrun, hended, _, _, rfl, ?_, ⟨_, rfl⟩, hW, hsame.mono (Nat.le_of_ble_eq_true rfl) (Nat.le_of_ble_eq_true rfl)⟩
      · exact retN X41 hx (t := .boolean) Bd.returns (by simp) (hb hby at_117) hr
      · show Q_law Z x0 x1 x2 r_NONE r_ONE_A_MOVE r_LAST_TWO_TOGETHER h0 n0 _ T41.heap _
        rw [e41]
        exfalso
        subst hw42 hw30 hw27
        revert hc44
        simp [own_pm]
  · -- w1 = (2 : Int32)
    have pre47 : Go p.tables e below (s₁.setTop (entryFrame m #[(.int x0), (.int x1), (.int x2)] maxLocals)) s₁ (mkF m 28 #[.val (.int x0), .val (.int x1), .val (.int x2), .val (.int (2 : Int32)), .unset, .unset, .unset, .unset, .unset] []) := fun t k => pre2 t (by
        refine XS.iloadN X0.here hx rfl (hb hby at_7) rfl ?_
        show Steps p.tables e below (s₁.setTop (mkF m 8 #[.val (.int x0), .val (.int x1), .val (.int x2), .val (.int (2 : Int32)), .unset, .unset, .unset, .unset, .unset] [(.int (2 : Int32))])) _
        refine XS.ifYes X0.here hx rfl (pc0 := 8) (pc' := 17) rfl (hb hby at_8) rfl ((if0 _ _).trans (feq (by decide)).2) (by decide) (by decide) ?_
        show Steps p.tables e below (s₁.setTop (mkF m 17 #[.val (.int x0), .val (.int x1), .val (.int x2), .val (.int (2 : Int32)), .unset, .unset, .unset, .unset, .unset] [])) _
        refine XS.iloadN X0.here hx rfl (hb hby at_17) rfl ?_
        show Steps p.tables e below (s₁.setTop (mkF m 18 #[.val (.int x0), .val (.int x1), .val (.int x2), .val (.int (2 : Int32)), .unset, .unset, .unset, .unset, .unset] [(.int (2 : Int32))])) _
        refine XS.iconst X0.here hx rfl (hb hby at_18) ?_
        show Steps p.tables e below (s₁.setTop (mkF m 19 #[.val (.int x0), .val (.int x1), .val (.int x2), .val (.int (2 : Int32)), .unset, .unset, .unset, .unset, .unset] [(.int (1 : Int32)), (.int (2 : Int32))])) _
        refine XS.icmpYes X0.here hx rfl (pc0 := 19) (pc' := 28) rfl (hb hby at_19) rfl (feq (by decide)).2 (by decide) (by decide) ?_
        exact k)
    obtain ⟨T48, X48, e48, st48⟩ := getS2 X0 hx hZ hown (host := "") (Or.inl (hw _ (List.mem_of_getElem? (i := 13) rfl))) Via.refl e0 S_LAST_TWO_TOGETHER (g := (mkF m 28 #[.val (.int x0), .val (.int x1), .val (.int x2), .val (.int (2 : Int32)), .unset, .unset, .unset, .unset, .unset] [])) rfl (hb hby at_28)
    have pre48 : Go p.tables e below (s₁.setTop (entryFrame m #[(.int x0), (.int x1), (.int x2)] maxLocals)) T48 (mkF m 31 #[.val (.int x0), .val (.int x1), .val (.int x2), .val (.int (2 : Int32)), .unset, .unset, .unset, .unset, .unset] [(.ref r_LAST_TWO_TOGETHER)]) := fun t k => pre47 t (st48 _ k)
    obtain ⟨w49, hw49⟩ : ∃ z : Int32, z = (x1 &&& (3 : Int32)) := ⟨_, rfl⟩
    have pre50 : Go p.tables e below (s₁.setTop (entryFrame m #[(.int x0), (.int x1), (.int x2)] maxLocals)) T48 (mkF m 40 #[.val (.int x0), .val (.int x1), .val (.int x2), .val (.int (2 : Int32)), .val (.ref r_LAST_TWO_TOGETHER), .val (.int w49), .unset, .unset, .unset] [(.int w49)]) := fun t k => pre48 t (by
        refine XS.astore X48.here hx rfl (hb hby at_31) rfl rfl (l' := #[.val (.int x0), .val (.int x1), .val (.int x2), .val (.int (2 : Int32)), .val (.ref r_LAST_TWO_TOGETHER), .unset, .unset, .unset, .unset]) rfl ?_
        show Steps p.tables e below (T48.setTop (mkF m 33 #[.val (.int x0), .val (.int x1), .val (.int x2), .val (.int (2 : Int32)), .val (.ref r_LAST_TWO_TOGETHER), .unset, .unset, .unset, .unset] [])) _
        refine XS.iloadN X48.here hx rfl (hb hby at_33) rfl ?_
        show Steps p.tables e below (T48.setTop (mkF m 34 #[.val (.int x0), .val (.int x1), .val (.int x2), .val (.int (2 : Int32)), .val (.ref r_LAST_TWO_TOGETHER), .unset, .unset, .unset, .unset] [(.int x1)])) _
        refine XS.iconst X48.here hx rfl (hb hby at_34) ?_
        show Steps p.tables e below (T48.setTop (mkF m 35 #[.val (.int x0), .val (.int x1), .val (.int x2), .val (.int (2 : Int32)), .val (.ref r_LAST_TWO_TOGETHER), .unset, .unset, .unset, .unset] [(.int (3 : Int32)), (.int x1)])) _
        refine XS.iand X48.here hx rfl (hb hby at_35) rfl ?_
        show Steps p.tables e below (T48.setTop (mkF m 36 #[.val (.int x0), .val (.int x1), .val (.int x2), .val (.int (2 : Int32)), .val (.ref r_LAST_TWO_TOGETHER), .unset, .unset, .unset, .unset] [(.int (x1 &&& (3 : Int32)))])) _
        refine XS.istore X48.here hx rfl (x := w49) (rest := []) (hb hby at_36) (by subst hw49; rfl) (l' := #[.val (.int x0), .val (.int x1), .val (.int x2), .val (.int (2 : Int32)), .val (.ref r_LAST_TWO_TOGETHER), .val (.int w49), .unset, .unset, .unset]) rfl ?_
        show Steps p.tables e below (T48.setTop (mkF m 38 #[.val (.int x0), .val (.int x1), .val (.int x2), .val (.int (2 : Int32)), .val (.ref r_LAST_TWO_TOGETHER), .val (.int w49), .unset, .unset, .unset] [])) _
        refine XS.iload X48.here hx rfl (hb hby at_38) rfl ?_
        exact k)
    obtain ⟨T51, L51, w52, X51, e51, N51, hw52, pre51⟩ : ∃ (T51 : State) (L51 : List Loc) (w52 : Int32), Stand p l e room_1 s m #[(.int x0), (.int x1), (.int x2)] below meth c T51 L51 0 0 ∧ T51.heap = h0 ∧ Fr n0 L51 ∧ w52 = (if w49 = (0 : Int32) then (2 : Int32) else (if w49 = (1 : Int32) then (1 : Int32) else (if w49 = (2 : Int32) then (3 : Int32) else x2))) ∧ Go p.tables e below (s₁.setTop (entryFrame m #[(.int x0), (.int x1), (.int x2)] maxLocals)) T51 (mkF m 68 #[.val (.int x0), .val (.int x1), .val (.int x2), .val (.int (2 : Int32)), .val (.ref r_LAST_TWO_TOGETHER), .val (.int w49), .unset, .unset, .unset] [(.int w52)]) := by
      by_cases hc53 : w49 = (0 : Int32)
      · -- hc53: True
        have pre54 : Go p.tables e below (s₁.setTop (entryFrame m #[(.int x0), (.int x1), (.int x2)] maxLocals)) T48 (mkF m 68 #[.val (.int x0), .val (.int x1), .val (.int x2), .val (.int (2 : Int32)), .val (.ref r_LAST_TWO_TOGETHER), .val (.int w49), .unset, .unset, .unset] [(.int (2 : Int32))]) := fun t k => pre50 t (by
            refine XS.ifNo X48.here hx rfl (hb hby at_40) rfl ((if0 _ _).trans (teq hc53).2) ?_
            show Steps p.tables e below (T48.setTop (mkF m 43 #[.val (.int x0), .val (.int x1), .val (.int x2), .val (.int (2 : Int32)), .val (.ref r_LAST_TWO_TOGETHER), .val (.int w49), .unset, .unset, .unset] [])) _
            refine XS.iconst X48.here hx rfl (hb hby at_43) ?_
            show Steps p.tables e below (T48.setTop (mkF m 44 #[.val (.int x0), .val (.int x1), .val (.int x2), .val (.int (2 : Int32)), .val (.ref r_LAST_TWO_TOGETHER), .val (.int w49), .unset, .unset, .unset] [(.int (2 : Int32))])) _
            refine XS.goto X48.here hx rfl (pc0 := 44) (pc' := 68) rfl (hb hby at_44) (by decide) (by decide) ?_
            exact k)
        refine ⟨_, _, _, X48, e48, N0, ?_, pre54⟩
        · exact (if_pos hc53).symm
      · -- hc53: False
        have pre55 : Go p.tables e below (s₁.setTop (entryFrame m #[(.int x0), (.int x1), (.int x2)] maxLocals)) T48 (mkF m 50 #[.val (.int x0), .val (.int x1), .val (.int x2), .val (.int (2 : Int32)), .val (.ref r_LAST_TWO_TOGETHER), .val (.int w49), .unset, .unset, .unset] [(.int (1 : Int32)), (.int w49)]) := fun t k => pre50 t (by
            refine XS.ifYes X48.here hx rfl (pc0 := 40) (pc' := 47) rfl (hb hby at_40) rfl ((if0 _ _).trans (feq hc53).2) (by decide) (by decide) ?_
            show Steps p.tables e below (T48.setTop (mkF m 47 #[.val (.int x0), .val (.int x1), .val (.int x2), .val (.int (2 : Int32)), .val (.ref r_LAST_TWO_TOGETHER), .val (.int w49), .unset, .unset, .unset] [])) _
            refine XS.iload X48.here hx rfl (hb hby at_47) rfl ?_
            show Steps p.tables e below (T48.setTop (mkF m 49 #[.val (.int x0), .val (.int x1), .val (.int x2), .val (.int (2 : Int32)), .val (.ref r_LAST_TWO_TOGETHER), .val (.int w49), .unset, .unset, .unset] [(.int w49)])) _
            refine XS.iconst X48.here hx rfl (hb hby at_49) ?_
            exact k)
        by_cases hc56 : w49 = (1 : Int32)
        · -- hc56: True
          have pre57 : Go p.tables e below (s₁.setTop (entryFrame m #[(.int x0), (.int x1), (.int x2)] maxLocals)) T48 (mkF m 68 #[.val (.int x0), .val (.int x1), .val (.int x2), .val (.int (2 : Int32)), .val (.ref r_LAST_TWO_TOGETHER), .val (.int w49), .unset, .unset, .unset] [(.int (1 : Int32))]) := fun t k => pre55 t (by
              refine XS.icmpNo X48.here hx rfl (hb hby at_50) rfl (teq hc56).2 ?_
              show Steps p.tables e below (T48.setTop (mkF m 53 #[.val (.int x0), .val (.int x1), .val (.int x2), .val (.int (2 : Int32)), .val (.ref r_LAST_TWO_TOGETHER), .val (.int w49), .unset, .unset, .unset] [])) _
              refine XS.iconst X48.here hx rfl (hb hby at_53) ?_
              show Steps p.tables e below (T48.setTop (mkF m 54 #[.val (.int x0), .val (.int x1), .val (.int x2), .val (.int (2 : Int32)), .val (.ref r_LAST_TWO_TOGETHER), .val (.int w49), .unset, .unset, .unset] [(.int (1 : Int32))])) _
              refine XS.goto X48.here hx rfl (pc0 := 54) (pc' := 68) rfl (hb hby at_54) (by decide) (by decide) ?_
              exact k)
          refine ⟨_, _, _, X48, e48, N0, ?_, pre57⟩
          · exact ((if_neg hc53).trans (if_pos hc56)).symm
        · -- hc56: False
          have pre58 : Go p.tables e below (s₁.setTop (entryFrame m #[(.int x0), (.int x1), (.int x2)] maxLocals)) T48 (mkF m 60 #[.val (.int x0), .val (.int x1), .val (.int x2), .val (.int (2 : Int32)), .val (.ref r_LAST_TWO_TOGETHER), .val (.int w49), .unset, .unset, .unset] [(.int (2 : Int32)), (.int w49)]) := fun t k => pre55 t (by
              refine XS.icmpYes X48.here hx rfl (pc0 := 50) (pc' := 57) rfl (hb hby at_50) rfl (feq hc56).2 (by decide) (by decide) ?_
              show Steps p.tables e below (T48.setTop (mkF m 57 #[.val (.int x0), .val (.int x1), .val (.int x2), .val (.int (2 : Int32)), .val (.ref r_LAST_TWO_TOGETHER), .val (.int w49), .unset, .unset, .unset] [])) _
              refine XS.iload X48.here hx rfl (hb hby at_57) rfl ?_
              show Steps p.tables e below (T48.setTop (mkF m 59 #[.val (.int x0), .val (.int x1), .val (.int x2), .val (.int (2 : Int32)), .val (.ref r_LAST_TWO_TOGETHER), .val (.int w49), .unset, .unset, .unset] [(.int w49)])) _
              refine XS.iconst X48.here hx rfl (hb hby at_59) ?_
              exact k)
          by_cases hc59 : w49 = (2 : Int32)
          · -- hc59: True
            have pre60 : Go p.tables e below (s₁.setTop (entryFrame m #[(.int x0), (.int x1), (.int x2)] maxLocals)) T48 (mkF m 68 #[.val (.int x0), .val (.int x1), .val (.int x2), .val (.int (2 : Int32)), .val (.ref r_LAST_TWO_TOGETHER), .val (.int w49), .unset, .unset, .unset] [(.int (3 : Int32))]) := fun t k => pre58 t (by
                refine XS.icmpNo X48.here hx rfl (hb hby at_60) rfl (teq hc59).2 ?_
                show Steps p.tables e below (T48.setTop (mkF m 63 #[.val (.int x0), .val (.int x1), .val (.int x2), .val (.int (2 : Int32)), .val (.ref r_LAST_TWO_TOGETHER), .val (.int w49), .unset, .unset, .unset] [])) _
                refine XS.iconst X48.here hx rfl (hb hby at_63) ?_
                show Steps p.tables e below (T48.setTop (mkF m 64 #[.val (.int x0), .val (.int x1), .val (.int x2), .val (.int (2 : Int32)), .val (.ref r_LAST_TWO_TOGETHER), .val (.int w49), .unset, .unset, .unset] [(.int (3 : Int32))])) _
                refine XS.goto X48.here hx rfl (pc0 := 64) (pc' := 68) rfl (hb hby at_64) (by decide) (by decide) ?_
                exact k)
            refine ⟨_, _, _, X48, e48, N0, ?_, pre60⟩
            · exact ((if_neg hc53).trans ((if_neg hc56).trans (if_pos hc59))).symm
          · -- hc59: False
            have pre61 : Go p.tables e below (s₁.setTop (entryFrame m #[(.int x0), (.int x1), (.int x2)] maxLocals)) T48 (mkF m 68 #[.val (.int x0), .val (.int x1), .val (.int x2), .val (.int (2 : Int32)), .val (.ref r_LAST_TWO_TOGETHER), .val (.int w49), .unset, .unset, .unset] [(.int x2)]) := fun t k => pre58 t (by
                refine XS.icmpYes X48.here hx rfl (pc0 := 60) (pc' := 67) rfl (hb hby at_60) rfl (feq hc59).2 (by decide) (by decide) ?_
                show Steps p.tables e below (T48.setTop (mkF m 67 #[.val (.int x0), .val (.int x1), .val (.int x2), .val (.int (2 : Int32)), .val (.ref r_LAST_TWO_TOGETHER), .val (.int w49), .unset, .unset, .unset] [])) _
                refine XS.iloadN X48.here hx rfl (hb hby at_67) rfl ?_
                exact k)
            refine ⟨_, _, _, X48, e48, N0, ?_, pre61⟩
            · exact ((if_neg hc53).trans ((if_neg hc56).trans (if_neg hc59))).symm
    have pre62 : Go p.tables e below (s₁.setTop (entryFrame m #[(.int x0), (.int x1), (.int x2)] maxLocals)) T51 (mkF m 74 #[.val (.int x0), .val (.int x1), .val (.int x2), .val (.int (2 : Int32)), .val (.ref r_LAST_TWO_TOGETHER), .val (.int w49), .val (.int w52), .unset, .unset] [(.int w52), (.ref r_LAST_TWO_TOGETHER)]) := fun t k => pre51 t (by
        refine XS.istore X51.here hx rfl (hb hby at_68) rfl (l' := #[.val (.int x0), .val (.int x1), .val (.int x2), .val (.int (2 : Int32)), .val (.ref r_LAST_TWO_TOGETHER), .val (.int w49), .val (.int w52), .unset, .unset]) rfl ?_
        show Steps p.tables e below (T51.setTop (mkF m 70 #[.val (.int x0), .val (.int x1), .val (.int x2), .val (.int (2 : Int32)), .val (.ref r_LAST_TWO_TOGETHER), .val (.int w49), .val (.int w52), .unset, .unset] [])) _
        refine XS.aload X51.here hx rfl (hb hby at_70) rfl rfl ?_
        show Steps p.tables e below (T51.setTop (mkF m 72 #[.val (.int x0), .val (.int x1), .val (.int x2), .val (.int (2 : Int32)), .val (.ref r_LAST_TWO_TOGETHER), .val (.int w49), .val (.int w52), .unset, .unset] [(.ref r_LAST_TWO_TOGETHER)])) _
        refine XS.iload X51.here hx rfl (hb hby at_72) rfl ?_
        exact k)
    obtain ⟨cq63, kq63, q63a, q63b, q63c⟩ := isOf hZ e51 E_LAST_TWO_TOGETHER
    obtain ⟨_, _, ⟨T63, L63, k63, n63⟩, -, X63, ⟨Lc63, hQ63, l63, y63, z63⟩, st63⟩ := X51.virtualBack hx (y := (⟨"com/example/backrank/backrank/PlacementRule", "piecesAMove", "(I)I"⟩ : MethodName)) (z := (⟨"com/example/backrank/backrank/PlacementRule", "piecesAMove", "(I)I"⟩ : MethodName)) hown (mvT hZ (hw _ (List.mem_of_getElem? (i := 4) rfl))) (mvT hZ (hw _ (List.mem_of_getElem? (i := 5) rfl))) (notFace_of_selects (args := #[]) (mvT hZ (hw _ (List.mem_of_getElem? (i := 7) rfl)))) (mvT hZ (hw _ (List.mem_of_getElem? (i := 7) rfl))) (mvT hZ (hw _ (List.mem_of_getElem? (i := 6) rfl))) (by decide) (backOf (W := 0) (rm_pm l Z a0 hw [] r_LAST_TWO_TOGETHER w52 (1 : Int32) h0 n0 F_LAST_TWO_TOGETHER) hZ (hw _ (List.mem_of_getElem? (i := 8) rfl)) (hw _ (List.mem_of_getElem? (i := 2) rfl)) (by decide) (by decide)) q63a q63c (g := (mkF m 74 #[.val (.int x0), .val (.int x1), .val (.int x2), .val (.int (2 : Int32)), .val (.ref r_LAST_TWO_TOGETHER), .val (.int w49), .val (.int w52), .unset, .unset] [(.int w52), (.ref r_LAST_TWO_TOGETHER)])) rfl (by rw [hml]; rfl) (Steps.refl _) (argsL := [(.int w52)]) (rest := []) (lenOf pd_0 rfl) rfl (by show 2 * 0 + _ ≤ _; exact Nat.le_of_eq rfl) (hb hby at_74) (fun _ _ => ⟨rfl, e51, (by decide : 0 + 0 ≤ _), (by decide : 0 + 0 ≤ _)⟩)
    dsimp only [Pt.U, Pt.locs, Pt.cells, Pt.slots] at X63 l63 y63 z63 st63 hQ63
    subst l63 y63 z63
    obtain ⟨rfl, N63q, e63⟩ := hQ63
    have N63 := Fr.app N51 N63q
    have pre63 : Go p.tables e below (s₁.setTop (entryFrame m #[(.int x0), (.int x1), (.int x2)] maxLocals)) T63 (mkF m 77 #[.val (.int x0), .val (.int x1), .val (.int x2), .val (.int (2 : Int32)), .val (.ref r_LAST_TWO_TOGETHER), .val (.int w49), .val (.int w52), .unset, .unset] [(.int (own_pm (1 : Int32) w52))]) := fun t k => pre62 t (st63.trans k)
    obtain ⟨w64, hw64⟩ : ∃ z : Int32, z = (own_pm (1 : Int32) w52) := ⟨_, rfl⟩
    have pre65 : Go p.tables e below (s₁.setTop (entryFrame m #[(.int x0), (.int x1), (.int x2)] maxLocals)) T63 (mkF m 87 #[.val (.int x0), .val (.int x1), .val (.int x2), .val (.int (2 : Int32)), .val (.ref r_LAST_TWO_TOGETHER), .val (.int w49), .val (.int w52), .val (.int w64), .unset] [(.int (2 : Int32)), (.int w52)]) := fun t k => pre63 t (by
        refine XS.istore X63.here hx rfl (x := w64) (rest := []) (hb hby at_77) (by subst hw64; rfl) (l' := #[.val (.int x0), .val (.int x1), .val (.int x2), .val (.int (2 : Int32)), .val (.ref r_LAST_TWO_TOGETHER), .val (.int w49), .val (.int w52), .val (.int w64), .unset]) rfl ?_
        show Steps p.tables e below (T63.setTop (mkF m 79 #[.val (.int x0), .val (.int x1), .val (.int x2), .val (.int (2 : Int32)), .val (.ref r_LAST_TWO_TOGETHER), .val (.int w49), .val (.int w52), .val (.int w64), .unset] [])) _
        refine XS.iloadN X63.here hx rfl (hb hby at_79) rfl ?_
        show Steps p.tables e below (T63.setTop (mkF m 80 #[.val (.int x0), .val (.int x1), .val (.int x2), .val (.int (2 : Int32)), .val (.ref r_LAST_TWO_TOGETHER), .val (.int w49), .val (.int w52), .val (.int w64), .unset] [(.int (2 : Int32))])) _
        refine XS.iconst X63.here hx rfl (hb hby at_80) ?_
        show Steps p.tables e below (T63.setTop (mkF m 81 #[.val (.int x0), .val (.int x1), .val (.int x2), .val (.int (2 : Int32)), .val (.ref r_LAST_TWO_TOGETHER), .val (.int w49), .val (.int w52), .val (.int w64), .unset] [(.int (2 : Int32)), (.int (2 : Int32))])) _
        refine XS.icmpNo X63.here hx rfl (hb hby at_81) rfl (teq (by decide)).2 ?_
        show Steps p.tables e below (T63.setTop (mkF m 84 #[.val (.int x0), .val (.int x1), .val (.int x2), .val (.int (2 : Int32)), .val (.ref r_LAST_TWO_TOGETHER), .val (.int w49), .val (.int w52), .val (.int w64), .unset] [])) _
        refine XS.iload X63.here hx rfl (hb hby at_84) rfl ?_
        show Steps p.tables e below (T63.setTop (mkF m 86 #[.val (.int x0), .val (.int x1), .val (.int x2), .val (.int (2 : Int32)), .val (.ref r_LAST_TWO_TOGETHER), .val (.int w49), .val (.int w52), .val (.int w64), .unset] [(.int w52)])) _
        refine XS.iconst X63.here hx rfl (hb hby at_86) ?_
        exact k)
    obtain ⟨T66, L66, w67, X66, e66, N66, hw67, pre66⟩ : ∃ (T66 : State) (L66 : List Loc) (w67 : Int32), Stand p l e room_1 s m #[(.int x0), (.int x1), (.int x2)] below meth c T66 L66 0 0 ∧ T66.heap = h0 ∧ Fr n0 L66 ∧ w67 = (if w52 = (2 : Int32) then (2 : Int32) else (1 : Int32)) ∧ Go p.tables e below (s₁.setTop (entryFrame m #[(.int x0), (.int x1), (.int x2)] maxLocals)) T66 (mkF m 105 #[.val (.int x0), .val (.int x1), .val (.int x2), .val (.int (2 : Int32)), .val (.ref r_LAST_TWO_TOGETHER), .val (.int w49), .val (.int w52), .val (.int w64), .val (.int w67)] []) := by
      by_cases hc68 : w52 = (2 : Int32)
      · -- hc68: True
        have pre69 : Go p.tables e below (s₁.setTop (entryFrame m #[(.int x0), (.int x1), (.int x2)] maxLocals)) T63 (mkF m 105 #[.val (.int x0), .val (.int x1), .val (.int x2), .val (.int (2 : Int32)), .val (.ref r_LAST_TWO_TOGETHER), .val (.int w49), .val (.int w52), .val (.int w64), .val (.int (2 : Int32))] []) := fun t k => pre65 t (by
            refine XS.icmpNo X63.here hx rfl (hb hby at_87) rfl (teq hc68).2 ?_
            show Steps p.tables e below (T63.setTop (mkF m 90 #[.val (.int x0), .val (.int x1), .val (.int x2), .val (.int (2 : Int32)), .val (.ref r_LAST_TWO_TOGETHER), .val (.int w49), .val (.int w52), .val (.int w64), .unset] [])) _
            refine XS.iconst X63.here hx rfl (hb hby at_90) ?_
            show Steps p.tables e below (T63.setTop (mkF m 91 #[.val (.int x0), .val (.int x1), .val (.int x2), .val (.int (2 : Int32)), .val (.ref r_LAST_TWO_TOGETHER), .val (.int w49), .val (.int w52), .val (.int w64), .unset] [(.int (2 : Int32))])) _
            refine XS.istore X63.here hx rfl (hb hby at_91) rfl (l' := #[.val (.int x0), .val (.int x1), .val (.int x2), .val (.int (2 : Int32)), .val (.ref r_LAST_TWO_TOGETHER), .val (.int w49), .val (.int w52), .val (.int w64), .val (.int (2 : Int32))]) rfl ?_
            show Steps p.tables e below (T63.setTop (mkF m 93 #[.val (.int x0), .val (.int x1), .val (.int x2), .val (.int (2 : Int32)), .val (.ref r_LAST_TWO_TOGETHER), .val (.int w49), .val (.int w52), .val (.int w64), .val (.int (2 : Int32))] [])) _
            refine XS.goto X63.here hx rfl (pc0 := 93) (pc' := 105) rfl (hb hby at_93) (by decide) (by decide) ?_
            exact k)
        refine ⟨_, _, _, X63, e63, N63, ?_, pre69⟩
        · exact (if_pos hc68).symm
      · -- hc68: False
        have pre70 : Go p.tables e below (s₁.setTop (entryFrame m #[(.int x0), (.int x1), (.int x2)] maxLocals)) T63 (mkF m 105 #[.val (.int x0), .val (.int x1), .val (.int x2), .val (.int (2 : Int32)), .val (.ref r_LAST_TWO_TOGETHER), .val (.int w49), .val (.int w52), .val (.int w64), .val (.int (1 : Int32))] []) := fun t k => pre65 t (by
            refine XS.icmpYes X63.here hx rfl (pc0 := 87) (pc' := 96) rfl (hb hby at_87) rfl (feq hc68).2 (by decide) (by decide) ?_
            show Steps p.tables e below (T63.setTop (mkF m 96 #[.val (.int x0), .val (.int x1), .val (.int x2), .val (.int (2 : Int32)), .val (.ref r_LAST_TWO_TOGETHER), .val (.int w49), .val (.int w52), .val (.int w64), .unset] [])) _
            refine XS.iconst X63.here hx rfl (hb hby at_96) ?_
            show Steps p.tables e below (T63.setTop (mkF m 97 #[.val (.int x0), .val (.int x1), .val (.int x2), .val (.int (2 : Int32)), .val (.ref r_LAST_TWO_TOGETHER), .val (.int w49), .val (.int w52), .val (.int w64), .unset] [(.int (1 : Int32))])) _
            refine XS.istore X63.here hx rfl (hb hby at_97) rfl (l' := #[.val (.int x0), .val (.int x1), .val (.int x2), .val (.int (2 : Int32)), .val (.ref r_LAST_TWO_TOGETHER), .val (.int w49), .val (.int w52), .val (.int w64), .val (.int (1 : Int32))]) rfl ?_
            show Steps p.tables e below (T63.setTop (mkF m 99 #[.val (.int x0), .val (.int x1), .val (.int x2), .val (.int (2 : Int32)), .val (.ref r_LAST_TWO_TOGETHER), .val (.int w49), .val (.int w52), .val (.int w64), .val (.int (1 : Int32))] [])) _
            refine XS.goto X63.here hx rfl (pc0 := 99) (pc' := 105) rfl (hb hby at_99) (by decide) (by decide) ?_
            exact k)
        refine ⟨_, _, _, X63, e63, N63, ?_, pre70⟩
        · exact (if_neg hc68).symm
    have pre71 : Go p.tables e below (s₁.setTop (entryFrame m #[(.int x0), (.int x1), (.int x2)] maxLocals)) T66 (mkF m 109 #[.val (.int x0), .val (.int x1), .val (.int x2), .val (.int (2 : Int32)), .val (.ref r_LAST_TWO_TOGETHER), .val (.int w49), .val (.int w52), .val (.int w64), .val (.int w67)] [(.int w67), (.int w64)]) := fun t k => pre66 t (by
        refine XS.iload X66.here hx rfl (hb hby at_105) rfl ?_
        show Steps p.tables e below (T66.setTop (mkF m 107 #[.val (.int x0), .val (.int x1), .val (.int x2), .val (.int (2 : Int32)), .val (.ref r_LAST_TWO_TOGETHER), .val (.int w49), .val (.int w52), .val (.int w64), .val (.int w67)] [(.int w64)])) _
        refine XS.iload X66.here hx rfl (hb hby at_107) rfl ?_
        exact k)
    by_cases hc72 : w64 = w67
    · -- hc72: True
      have pre73 : Go p.tables e below (s₁.setTop (entryFrame m #[(.int x0), (.int x1), (.int x2)] maxLocals)) T66 (mkF m 117 #[.val (.int x0), .val (.int x1), .val (.int x2), .val (.int (2 : Int32)), .val (.ref r_LAST_TWO_TOGETHER), .val (.int w49), .val (.int w52), .val (.int w64), .val (.int w67)] [(.int (1 : Int32))]) := fun t k => pre71 t (by
          refine XS.icmpNo X66.here hx rfl (hb hby at_109) rfl (teq hc72).2 ?_
          show Steps p.tables e below (T66.setTop (mkF m 112 #[.val (.int x0), .val (.int x1), .val (.int x2), .val (.int (2 : Int32)), .val (.ref r_LAST_TWO_TOGETHER), .val (.int w49), .val (.int w52), .val (.int w64), .val (.int w67)] [])) _
          refine XS.iconst X66.here hx rfl (hb hby at_112) ?_
          show Steps p.tables e below (T66.setTop (mkF m 113 #[.val (.int x0), .val (.int x1), .val (.int x2), .val (.int (2 : Int32)), .val (.ref r_LAST_TWO_TOGETHER), .val (.int w49), .val (.int w52), .val (.int w64), .val (.int w67)] [(.int (1 : Int32))])) _
          refine XS.goto X66.here hx rfl (pc0 := 113) (pc' := 117) rfl (hb hby at_113) (by decide) (by decide) ?_
          exact k)
      obtain ⟨fs, hr, hrun, hended, hW, hsame⟩ := X66.leave (v := some (.int (1 : Int32))) (fun h => by rw [Bd.returns] at h; cases h) (BodyLoose.notSynchronized Bd)
      refine ⟨_, _, pre73 _ ?_, hrun, hended, _, _, rfl, ?_, ⟨_, rfl⟩, hW, hsame.mono (Nat.le_of_ble_eq_true rfl) (Nat.le_of_ble_eq_true rfl)⟩
      · exact retN X66 hx (t := .boolean) Bd.returns (by simp) (hb hby at_117) hr
      · show Q_law Z x0 x1 x2 r_NONE r_ONE_A_MOVE r_LAST_TWO_TOGETHER h0 n0 _ T66.heap _
        rw [e66]
        exact ⟨rfl, N66⟩
    · -- hc72: False
      have pre74 : Go p.tables e below (s₁.setTop (entryFrame m #[(.int x0), (.int x1), (.int x2)] maxLocals)) T66 (mkF m 117 #[.val (.int x0), .val (.int x1), .val (.int x2), .val (.int (2 : Int32)), .val (.ref r_LAST_TWO_TOGETHER), .val (.int w49), .val (.int w52), .val (.int w64), .val (.int w67)] [(.int (0 : Int32))]) := fun t k => pre71 t (by
          refine XS.icmpYes X66.here hx rfl (pc0 := 109) (pc' := 116) rfl (hb hby at_109) rfl (feq hc72).2 (by decide) (by decide) ?_
          show Steps p.tables e below (T66.setTop (mkF m 116 #[.val (.int x0), .val (.int x1), .val (.int x2), .val (.int (2 : Int32)), .val (.ref r_LAST_TWO_TOGETHER), .val (.int w49), .val (.int w52), .val (.int w64), .val (.int w67)] [])) _
          refine XS.iconst X66.here hx rfl (hb hby at_116) ?_
          exact k)
      obtain ⟨fs, hr, hrun, hended, hW, hsame⟩ := X66.leave (v := some (.int (0 : Int32))) (fun h => by rw [Bd.returns] at h; cases h) (BodyLoose.notSynchronized Bd)
      refine ⟨_, _, pre74 _ ?_, hrun, hended, _, _, rfl, ?_, ⟨_, rfl⟩, hW, hsame.mono (Nat.le_of_ble_eq_true rfl) (Nat.le_of_ble_eq_true rfl)⟩
      · exact retN X66 hx (t := .boolean) Bd.returns (by simp) (hb hby at_117) hr
      · show Q_law Z x0 x1 x2 r_NONE r_ONE_A_MOVE r_LAST_TWO_TOGETHER h0 n0 _ T66.heap _
        rw [e66]
        exfalso
        subst hw67 hw64 hw52 hw49
        revert hc72
        simp [own_pm]
set_option maxRecDepth 65536 in
set_option maxHeartbeats 40000000 in
theorem comes_1 {Post : Tables → Env → Array Value → State → Outcome → State → Prop} (hpost : ∀ tb e args s v u, (limb_1_1.after args s (.returned v) u = true ∧ limb_1_2.after args s (.returned v) u = true ∧ True) → FrameEnd s (.returned v) u (Jvm.fieldLocs frame_1_writes args s ++ Jvm.arrayLocs frame_1_arrays args s ++ Jvm.staticLocs frame_1_statics s) 0 0 → Post tb e args s (.returned v) u) :
    ArmFor flags0 classFile x code maxLocals ret World_1 tables_1 room_1 Calls_1 rest_1 Pre_1 Post := by
  intro l hfl _ _ p e ha hc hk s m args below hf hA hF happ hP
  obtain ⟨hcalls, hrest, hpre⟩ := hP
  obtain ⟨-, -, -, hnamed, -, -, -, hat⟩ := (Spec.applies_iff hf).mp happ
  obtain ⟨hg, hn⟩ := and_e (Cond.before_iff.mp (show (Jvm.Cond.and given_1 narrow_1).before args s = true from hpre))
  obtain ⟨gc, gt0⟩ := and_e hg
  obtain ⟨ga0, gt1⟩ := and_e gt0
  obtain ⟨ga1, gt2⟩ := and_e gt1
  obtain ⟨w0, w1, w2, rfl⟩ : ∃ w0 w1 w2 : Value, args = #[w0, w1, w2] := by
    have hs : args.size = 3 := by simpa [Cond.value, given_1] using gc
    obtain ⟨L⟩ := args
    match L, hs with
    | [w0, w1, w2], _ => exact ⟨w0, w1, w2, rfl⟩
  have hw := fun d (hd : d ∈ tables_1) => atoms_spec (ws := Jvm.Cond.code x code maxLocals ret :: tables_1) hat d (List.mem_cons_of_mem _ hd)
  have hfit : Fit s := fun {y c} hc i hi => by
    obtain ⟨ha, rfl⟩ := Array.getElem?_eq_some_iff.mp hc
    have q := List.all_eq_true.mp ((Array.all_eq_true_iff_forall_mem.mp hF) _ (Array.getElem_mem ha)) i (List.mem_range.mpr hi)
    simpa [Array.getElem?_eq_getElem hi] using q
  obtain ⟨i0, ei0⟩ := is_v ga0
  obtain rfl : w0 = (.int i0) := Option.some.inj ei0
  obtain ⟨i1, ei1⟩ := is_v ga1
  obtain rfl : w1 = (.int i1) := Option.some.inj ei1
  obtain ⟨i2, ei2⟩ := is_v gt2
  obtain rfl : w2 = (.int i2) := Option.some.inj ei2
  obtain ⟨nc0, nt0⟩ := and_e hn
  obtain ⟨nc1, nt1⟩ := and_e nt0
  obtain ⟨nc2, nt2⟩ := and_e nt1
  obtain ⟨nc3, nt3⟩ := and_e nt2
  obtain ⟨nc4, nt4⟩ := and_e nt3
  obtain ⟨r_NONE, S_NONE, E_NONE, ev_NONE⟩ := own_sta (a0 := #[]) nc0 (hw _ (List.mem_of_getElem? (i := 2) rfl)) (hw _ (List.mem_of_getElem? (i := 3) rfl))
  obtain ⟨r_ONE_A_MOVE, S_ONE_A_MOVE, E_ONE_A_MOVE, ev_ONE_A_MOVE⟩ := own_sta (a0 := #[]) nc2 (hw _ (List.mem_of_getElem? (i := 2) rfl)) (hw _ (List.mem_of_getElem? (i := 12) rfl))
  obtain ⟨r_LAST_TWO_TOGETHER, S_LAST_TWO_TOGETHER, E_LAST_TWO_TOGETHER, ev_LAST_TWO_TOGETHER⟩ := own_sta (a0 := #[]) nc4 (hw _ (List.mem_of_getElem? (i := 2) rfl)) (hw _ (List.mem_of_getElem? (i := 14) rfl))
  have F_NONE_lastTwoTogether := own_fld ev_NONE nc1
  have F_ONE_A_MOVE_lastTwoTogether := own_fld ev_ONE_A_MOVE nc3
  have F_LAST_TWO_TOGETHER_lastTwoTogether := own_fld ev_LAST_TWO_TOGETHER nt4
  obtain ⟨n, o, h1, h2, h3, _, L, rfl, ⟨rfl, N⟩, hq⟩ := rm_law l s _ hw tables_1 i0 i1 i2 r_NONE r_ONE_A_MOVE r_LAST_TWO_TOGETHER s.heap s.heap.size (Nat.le_refl _) S_NONE S_ONE_A_MOVE S_LAST_TWO_TOGETHER E_NONE E_ONE_A_MOVE E_LAST_TWO_TOGETHER F_NONE_lastTwoTogether F_ONE_A_MOVE_lastTwoTogether F_LAST_TWO_TOGETHER_lastTwoTogether p e ha hc hk s m _ below hf ((Spec.applies_iff_loose hf).mp happ).1 ⟨rfl, State.Warmed39.refl s, rfl⟩ trivial
  refine ⟨n, _, h1, h2, h3, hpost _ _ _ _ _ _ ⟨Cond.after_iff.mpr rfl, Cond.after_iff.mpr (eq_i res_at (Term.int_eval (1)) rfl), trivial⟩ ⟨hq.1, hq.2.1, (hq.2.2.sift fun y hy => Or.inr (N y hy)).mono (by decide) (by decide)⟩⟩
theorem main_1_1 : Claimed_1_1 := comes_1 fun _ _ _ _ _ _ h hF => ⟨h.1, hF⟩
theorem main_1_2 : Claimed_1_2 := comes_1 fun _ _ _ _ _ _ h hF => ⟨h.2.1, hF⟩
end Jvm.Pilot.@@N@@
namespace Jvm.Pilot.@@N@@
open Jvm Jvm.ClassFile Sem Op Lib Jvm.Free Jvm.Stand Jvm.Pilot.@@N@@.Jvm.D
/-! MADE BY PROGRAM (witnessworld.py) out of the Statement's table words and the real class files: 12 classes; the members and pool entries that the words name. The judged class is class 1, her method 1. -/
namespace start1
open Jvm.ClassFile
def u (s : String) : CpInfo := .utf8 (stringToUtf16 s)
/-- a pool by its gaps: so many unusable entries, then the entry; so many at the end -/
def gap : Nat → List CpInfo → List CpInfo
  | 0, r => r
  | n + 1, r => .unusable :: gap n r
def poolList (es : List (Nat × CpInfo)) (last : Nat) : List CpInfo := es.foldr (fun e r => gap e.1 (e.2 :: r)) (gap last [])
def pool (es : List (Nat × CpInfo)) (last : Nat) : Array CpInfo := ⟨poolList es last⟩
def fileOf (pool : Array CpInfo) (this : Nat) (attrs : Array Attribute := #[]) (ms : Array MethodInfo := #[]) (fl : Nat := 33) (sup : Nat := 0) (ifs : Array Nat := #[]) (fds : Array FieldInfo := #[]) : ClassFile where
  minorVersion := 0
  majorVersion := 65
  constantPool := pool
  accessFlags := fl
  thisClass := this
  superClass := sup
  interfaces := ifs
  fields := fds
  methods := ms
  attributes := attrs
def plain (name : String) (sup : Option ClassId) : Class where
  name := name
  kind := .ordinary
  loader := none
  accessFlags := 33
  super := sup
  interfaces := #[]
  cf := none
  fields := #[]
  methods := #[]
  instanceTypes := #[]
  staticTypes := #[]
  resolved := #[]
  callSites := []
  init := .initialized
  statics := none
  mirror := none

def pool0 : Array CpInfo := pool [(5, u "<init>"), (0, u "()V"), (1, .class_ 10), (1, u "java/lang/Object")] 113

def k0m0 : Method := { name := "<init>", desc := "()V", sig := { parameters := [], returnType := none }, accessFlags := 1, code := none }
/-- java/lang/Object -/
def k0 : Class := { plain "java/lang/Object" none with
  accessFlags := 33
  interfaces := #[]
  cf := some (fileOf pool0 8 #[] #[{ accessFlags := 1, nameIndex := 5, descriptorIndex := 6, attributes := #[] }] 33 0 #[] #[])
  fields := #[]
  methods := #[k0m0]
  instanceTypes := #[]
  staticTypes := #[]
  resolved := Array.replicate 124 none
  statics := none }

def pool1 : Array CpInfo := pool [(2, .class_ 4), (1, u "java/lang/Object"), (0, u "<init>"), (0, u "()V"), (0, .integer 2147483647), (0, .fieldref 9 10), (0, .class_ 11), (0, .nameAndType 12 13), (0, u "com/example/backrank/backrank/PlacementRule"), (0, u "NONE"), (0, u "Lcom/example/backrank/backrank/PlacementRule;"), (0, .fieldref 9 15), (0, .nameAndType 16 13), (0, u "ONE_A_MOVE"), (0, .fieldref 9 18), (0, .nameAndType 19 13), (0, u "LAST_TWO_TOGETHER"), (0, .methodref 9 21), (0, .nameAndType 22 23), (0, u "piecesAMove"), (0, u "(I)I"), (0, .class_ 25), (0, u "com/example/backrank/backrank/PlacementRulePiecesAMovePinLaw"), (2, u "law"), (0, u "(III)Z")] 3

def k1m0 : Method := { name := "<init>", desc := "()V", sig := { parameters := [], returnType := none }, accessFlags := 1, code := none }
def k1c1 : Code := { maxStack := 2, maxLocals := 9, code := code, exceptionTable := #[], attributes := #[] }
def k1m1 : Method := { name := "law", desc := "(III)Z", sig := { parameters := [.int, .int, .int], returnType := some .boolean }, accessFlags := 9, code := some k1c1 }
/-- com/example/backrank/backrank/PlacementRulePiecesAMovePinLaw -/
def k1 : Class := { plain "com/example/backrank/backrank/PlacementRulePiecesAMovePinLaw" (some 0) with
  accessFlags := 49
  interfaces := #[]
  cf := some (fileOf pool1 24 #[] #[{ accessFlags := 1, nameIndex := 5, descriptorIndex := 6, attributes := #[] }, { accessFlags := 9, nameIndex := 28, descriptorIndex := 29, attributes := #[] }] 49 2 #[] #[])
  fields := #[]
  methods := #[k1m0, k1m1]
  instanceTypes := #[]
  staticTypes := #[]
  resolved := Array.replicate 33 none
  statics := none }

def pool2 : Array CpInfo := pool [(1, .class_ 2), (0, u "java/lang/constant/Constable"), (0, .class_ 4), (0, u "java/lang/Object")] 6

/-- java/lang/constant/Constable -/
def k2 : Class := { plain "java/lang/constant/Constable" (some 0) with
  accessFlags := 1537
  interfaces := #[]
  cf := some (fileOf pool2 1 #[] #[] 1537 3 #[] #[])
  fields := #[]
  methods := #[]
  instanceTypes := #[]
  staticTypes := #[]
  resolved := Array.replicate 11 none
  statics := none }

def pool3 : Array CpInfo := pool [(1, .class_ 2), (0, u "java/lang/Comparable"), (0, .class_ 4), (0, u "java/lang/Object")] 7

/-- java/lang/Comparable -/
def k3 : Class := { plain "java/lang/Comparable" (some 0) with
  accessFlags := 1537
  interfaces := #[]
  cf := some (fileOf pool3 1 #[] #[] 1537 3 #[] #[])
  fields := #[]
  methods := #[]
  instanceTypes := #[]
  staticTypes := #[]
  resolved := Array.replicate 12 none
  statics := none }

def pool4 : Array CpInfo := pool [(1, .class_ 2), (0, u "java/io/Serializable"), (0, .class_ 4), (0, u "java/lang/Object")] 2

/-- java/io/Serializable -/
def k4 : Class := { plain "java/io/Serializable" (some 0) with
  accessFlags := 1537
  interfaces := #[]
  cf := some (fileOf pool4 1 #[] #[] 1537 3 #[] #[])
  fields := #[]
  methods := #[]
  instanceTypes := #[]
  staticTypes := #[]
  resolved := Array.replicate 7 none
  statics := none }

def pool5 : Array CpInfo := pool [(2, .class_ 4), (1, u "java/lang/Enum"), (0, u "name"), (0, u "Ljava/lang/String;"), (2, u "ordinal"), (0, u "I"), (1, .class_ 14), (1, u "java/lang/Object"), (4, u "hash"), (86, .class_ 108), (1, u "java/lang/Enum$EnumDesc"), (2, .class_ 112), (0, u "java/lang/constant/Constable"), (0, .class_ 114), (0, u "java/lang/Comparable"), (0, .class_ 116), (0, u "java/io/Serializable")] 87

/-- java/lang/Enum -/
def k5 : Class := { plain "java/lang/Enum" (some 0) with
  accessFlags := 1057
  interfaces := #[2, 3, 4]
  cf := some (fileOf pool5 2 #[.nestMembers #[106]] #[] 1057 12 #[111, 113, 115] #[{ accessFlags := 18, nameIndex := 5, descriptorIndex := 6, attributes := #[] }, { accessFlags := 18, nameIndex := 9, descriptorIndex := 10, attributes := #[] }, { accessFlags := 2, nameIndex := 19, descriptorIndex := 10, attributes := #[] }])
  fields := #[{ name := "name", type := (.object "java/lang/String"), accessFlags := 18, slot := 0, constantValue := 0 }, { name := "ordinal", type := .int, accessFlags := 18, slot := 1, constantValue := 0 }, { name := "hash", type := .int, accessFlags := 2, slot := 2, constantValue := 0 }]
  methods := #[]
  instanceTypes := #[(.object "java/lang/String"), .int, .int]
  staticTypes := #[]
  resolved := Array.replicate 204 none
  statics := none }

def pool6 : Array CpInfo := pool [(1, .class_ 2), (0, u "com/example/backrank/backrank/PlacementRule"), (2, u "NONE"), (0, u "Lcom/example/backrank/backrank/PlacementRule;"), (2, u "ONE_A_MOVE"), (2, u "LAST_TWO_TOGETHER"), (2, u "$VALUES"), (0, u "[Lcom/example/backrank/backrank/PlacementRule;"), (6, .class_ 25), (1, u "java/lang/Enum"), (8, u "pieces"), (0, u "Ljava/lang/String;"), (0, .fieldref 1 37), (0, .nameAndType 38 39), (0, u "lastTwoTogether"), (0, u "Z"), (2, u "piecesAMove"), (0, u "(I)I")] 79

def k6c0 : Code := { maxStack := 2, maxLocals := 2, code := prog_33_method_4_code, exceptionTable := #[], attributes := #[] }
def k6m0 : Method := { name := "piecesAMove", desc := "(I)I", sig := { parameters := [.int], returnType := some .int }, accessFlags := 0, code := some k6c0 }
/-- com/example/backrank/backrank/PlacementRule -/
def k6 : Class := { plain "com/example/backrank/backrank/PlacementRule" (some 5) with
  accessFlags := 16432
  interfaces := #[]
  cf := some (fileOf pool6 1 #[] #[{ accessFlags := 0, nameIndex := 42, descriptorIndex := 43, attributes := #[] }] 16432 23 #[] #[{ accessFlags := 16409, nameIndex := 5, descriptorIndex := 6, attributes := #[] }, { accessFlags := 16409, nameIndex := 9, descriptorIndex := 6, attributes := #[] }, { accessFlags := 16409, nameIndex := 12, descriptorIndex := 6, attributes := #[] }, { accessFlags := 18, nameIndex := 34, descriptorIndex := 35, attributes := #[] }, { accessFlags := 18, nameIndex := 38, descriptorIndex := 39, attributes := #[] }, { accessFlags := 4122, nameIndex := 15, descriptorIndex := 16, attributes := #[] }])
  fields := #[{ name := "NONE", type := (.object "com/example/backrank/backrank/PlacementRule"), accessFlags := 16409, slot := 0, constantValue := 0 }, { name := "ONE_A_MOVE", type := (.object "com/example/backrank/backrank/PlacementRule"), accessFlags := 16409, slot := 1, constantValue := 0 }, { name := "LAST_TWO_TOGETHER", type := (.object "com/example/backrank/backrank/PlacementRule"), accessFlags := 16409, slot := 2, constantValue := 0 }, { name := "pieces", type := (.object "java/lang/String"), accessFlags := 18, slot := 3, constantValue := 0 }, { name := "lastTwoTogether", type := .boolean, accessFlags := 18, slot := 4, constantValue := 0 }, { name := "$VALUES", type := (.array (.object "com/example/backrank/backrank/PlacementRule")), accessFlags := 4122, slot := 3, constantValue := 0 }]
  methods := #[k6m0]
  instanceTypes := #[(.object "java/lang/String"), .int, .int, (.object "java/lang/String"), .boolean]
  staticTypes := #[(.object "com/example/backrank/backrank/PlacementRule"), (.object "com/example/backrank/backrank/PlacementRule"), (.object "com/example/backrank/backrank/PlacementRule"), (.array (.object "com/example/backrank/backrank/PlacementRule"))]
  resolved := Array.replicate 123 none
  statics := some 0 }

def pool7 : Array CpInfo := pool [(1, u "java/lang/Cloneable"), (0, .class_ 1), (0, u "java/lang/Object"), (0, .class_ 3)] 3

/-- java/lang/Cloneable -/
def k7 : Class := { plain "java/lang/Cloneable" (some 0) with
  accessFlags := 1537
  interfaces := #[]
  cf := some (fileOf pool7 2 #[] #[] 1537 4 #[] #[])
  fields := #[]
  methods := #[]
  instanceTypes := #[]
  staticTypes := #[]
  resolved := Array.replicate 8 none
  statics := none }

/-- the primitive byte -/
def k8 : Class := { plain "byte" none with kind := .primitive 'B', accessFlags := 0x411 }
/-- [B -/
def k9 : Class := { plain "[B" (some 0) with kind := .array 8 .byte, interfaces := #[7, 4], accessFlags := 1041 }

/-- the primitive int -/
def k10 : Class := { plain "int" none with kind := .primitive 'I', accessFlags := 0x411 }
/-- [I -/
def k11 : Class := { plain "[I" (some 0) with kind := .array 10 .int, interfaces := #[7, 4], accessFlags := 1041 }

def heap : Heap := #[{ cls := 6, slots := #[.ref 1, .ref 2, .ref 3, .null], vm := .statics 6 },
  { cls := 6, slots := #[.null, .int 0, .int 0, .null, .int 0], vm := .none },
  { cls := 6, slots := #[.null, .int 1, .int 0, .null, .int 0], vm := .none },
  { cls := 6, slots := #[.null, .int 2, .int 0, .null, .int 1], vm := .none }]
def classes : Array Class := #[k0, k1, k2, k3, k4, k5, k6, k7, k8, k9, k10, k11]
def interned : List (Array UInt16 × Addr) := []
def slotsUsed : Nat := 19
def theMethod : MethodId := ⟨1, 1⟩
def args0 : Array Value := #[.int 5, .int 6, .int 7]
def aboutOver (below : List Frame) : State where
  vm := { classes := classes, interned := interned.toArray }
  heap := heap
  slotsUsed := slotsUsed
  threads := #[{ frames := .invoking theMethod args0 :: below }]
def below0 : List Frame := [.native { method := ⟨0, 0⟩, args := #[] }]
def about1 : State := aboutOver below0
def p0 : Program := .bare "" "" ""
def e0 : Env := launch0.env 0 0 0
theorem w_frames : about1.frames = Frame.invoking theMethod args0 :: below0 := rfl
set_option maxRecDepth 65536 in
theorem w_args : argsFit about1.vm theMethod args0 = true := by decide +kernel
set_option maxRecDepth 65536 in
theorem w_heap : heapFits about1 = true := by decide +kernel
set_option maxRecDepth 65536 in
theorem w_runnable : about1.curStatus? = some .runnable := by decide +kernel
set_option maxRecDepth 65536 in
theorem w_alone : about1.alone = true := by decide +kernel
set_option maxRecDepth 65536 in
theorem w_named : about1.methodNamed? x = some theMethod := by decide +kernel
set_option maxRecDepth 65536 in
theorem w_hears : about1.hears theMethod below0 = true := by decide +kernel
set_option maxRecDepth 65536 in
theorem w_ripe : about1.ripe theMethod args0 below0 = true := by decide +kernel
theorem w_running : about1.status = .running := rfl
set_option maxRecDepth 65536 in
theorem w_room : about1.hasRoom e0.platform room_1 = true :=
  launch0.hasRoom_least _ room_1 (by decide +kernel) (by decide +kernel) (by decide +kernel) (by decide +kernel) (by decide +kernel) (by decide +kernel)
theorem allAtoms_all (ts : List Jvm.Cond) (a : Array Jvm.Value) (st : Jvm.State) : (allAtoms ts).before a st = ts.all (fun c => c.before a st) := by
  induction ts with
  | nil => rfl
  | cons c t ih =>
    show (Jvm.Cond.and c (allAtoms t)).before a st = _
    rw [Jvm.Cond.before_and, ih, List.all_cons]
def words1 : List Jvm.Cond := Jvm.Cond.code x code maxLocals ret :: tables_1
/-- a 'code' word, met by the world's own term for the bytes: nothing is compared byte by byte -/
theorem code_word {y : MethodName} {bytes : ByteArray} {mx : Nat} {rt : Option FieldType} {a : Array Value} {s : State} {m : MethodId} {meth : Method} {c : Code} (h1 : s.methodNamed? y = some m) (h2 : s.vm.method? m = some meth) (h3 : meth.code = some c) (h4 : c.code = bytes)
    (h5 : (c.maxLocals == mx && c.exceptionTable.isEmpty && decide (c.maxStack ≤ mostOperands) && decide (meth.sig.returnType = rt) && !meth.locks && decide (parseMethodDescriptor y.desc = some meth.sig)) = true) : (Jvm.Cond.code y bytes mx rt).before a s = true := by
  simp only [Bool.and_eq_true, beq_iff_eq, Bool.not_eq_true', decide_eq_true_eq] at h5
  obtain ⟨⟨⟨⟨⟨g1, g2⟩, g3⟩, g4⟩, g5⟩, g6⟩ := h5
  simp [Cond.before, Cond.holds, Cond.value, h1, h2, h3, h4, g1, g2, g3, g4, g5, g6]
def isCode : Jvm.Cond → Bool
  | .code _ _ _ _ => true
  | _ => false
theorem all_split {L : List Jvm.Cond} {P : Jvm.Cond → Bool} (h1 : L.all (fun c => isCode c || P c) = true) (h2 : ∀ c ∈ L.filter isCode, P c = true) : L.all P = true := by
  refine List.all_eq_true.mpr fun c hc => ?_
  have h := List.all_eq_true.mp h1 c hc
  rcases Bool.eq_false_or_eq_true (isCode c) with hi | hi
  · exact h2 c (List.mem_filter.mpr ⟨hc, hi⟩)
  · simpa [hi] using h
set_option maxRecDepth 65536 in
theorem w_c0 : (Jvm.Cond.code x code maxLocals ret).before args0 about1 = true := code_word (m := ⟨1, 1⟩) (meth := k1m1) (c := k1c1) (by decide +kernel) rfl rfl rfl (by decide +kernel)
set_option maxRecDepth 65536 in
theorem w_c1 : (Jvm.Cond.code ({ cls := "com/example/backrank/backrank/PlacementRule", name := "piecesAMove", desc := "(I)I" } : Jvm.MethodName) prog_33_method_4_code (2 : Nat) (Option.some Jvm.ClassFile.FieldType.int)).before args0 about1 = true := code_word (m := ⟨6, 0⟩) (meth := k6m0) (c := k6c0) (by decide +kernel) rfl rfl rfl (by decide +kernel)
def codes1 : List Jvm.Cond := [Jvm.Cond.code x code maxLocals ret, Jvm.Cond.code ({ cls := "com/example/backrank/backrank/PlacementRule", name := "piecesAMove", desc := "(I)I" } : Jvm.MethodName) prog_33_method_4_code (2 : Nat) (Option.some Jvm.ClassFile.FieldType.int)]
set_option maxRecDepth 65536 in
theorem codes_eq : words1.filter isCode = codes1 := rfl
theorem w_codes : ∀ c ∈ words1.filter isCode, c.before args0 about1 = true := by
  rw [codes_eq]
  intro c hc
  simp only [codes1, List.mem_cons, List.not_mem_nil, or_false] at hc
  rcases hc with rfl | rfl
  · exact w_c0
  · exact w_c1
set_option maxRecDepth 65536 in
theorem w_t1 : words1.all (fun c => isCode c || c.before args0 about1) = true := by decide +kernel
theorem w_tables : (allAtoms (Jvm.Cond.code x code maxLocals ret :: tables_1)).before args0 about1 = true := by
  rw [allAtoms_all]
  show words1.all (fun c => c.before args0 about1) = true
  refine all_split ?_ w_codes
  rw [w_t1]
set_option maxRecDepth 65536 in
theorem w_case : (Jvm.Cond.and given_1 narrow_1).before args0 about1 = true := by decide +kernel
theorem w_applies : (headSpec (Jvm.Cond.code x code maxLocals ret :: tables_1) room_1).applies x e0.platform about1 = true :=
  (Spec.applies_iff w_frames).mpr ⟨w_running, w_runnable, w_alone, w_named, w_hears, w_ripe, w_room, w_tables⟩
theorem atStart : AtStart classFile x code maxLocals ret World_1 tables_1 room_1 Calls_1 rest_1 Pre_1 launch0 p0 e0 about1 theMethod args0 below0 :=
  ⟨lists_1, trivial, launch0.admits_env _ _ _, launch0.least_env, fairChoices_fair.cas, fairChoices_fair.clock, w_frames, w_args, w_heap, w_applies, trivial, trivial, w_case⟩
end start1
theorem witness_1 : WitnessClaimed_1 := ⟨start1.p0, start1.e0, start1.about1, start1.theMethod, start1.args0, start1.below0, start1.atStart⟩
end Jvm.Pilot.@@N@@
