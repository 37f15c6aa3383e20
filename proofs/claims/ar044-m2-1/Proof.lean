import JvmDerived
import JvmDerived.Pilot.@@N@@Statement
import JvmDerived.Pilot.@@N@@Code
set_option linter.unusedVariables false
set_option linter.unusedSimpArgs false
@@BLOCK:NumsL.lean.txt@@
namespace Jvm.RoadKit
open Sem ClassFile Op Lib Jvm.Stand Jvm.Free Jvm.LawKit
section New
variable {p : Program} {l : Launch} {e : Env} {R : Room} {s : State} {m : MethodId} {args : Array Value} {below : List Frame} {meth : Method} {c : Code} {T : State} {locs : List Loc} {cells slots : Nat}
theorem retI (X : Stand p l e R s m args below meth c T locs cells slots) (hx : p.tables.exec = Jvm.exec) {pc : Nat} {Ls : Array Slot} {z : Int32} {rest : List Value} (hret : meth.sig.returnType = some .int) (hd : decode c.code pc = .ok (.ireturn, 1)) {fs : List Frame}
    (hl : ∀ (f : JFrame) (acts : List Action), f.method = m → f.locked = none → f.entered = [] → (doReturn e (T.setTop f) acts (some (.int z))).1 = T.setFrames fs) : Steps p.tables e below (T.setTop (mkF m pc Ls (.int z :: rest))) (T.setFrames fs) := by
  have hm' : T.vm.method? m = some meth := X.method'
  have hn : narrow .int (.int z) = .int z := rfl
  show Steps p.tables e below (T.setTop { method := m, pc := pc, locals := Ls, stack := _ :: rest, locked := none }) _
  jvm_step X.here [X.here.top, hx, hd, hm', hret, hn]
  first | (intro acts; rw [hl _ acts rfl rfl rfl]) | rw [hl _ _ rfl rfl rfl]
  exact Steps.refl _
end New
end Jvm.RoadKit
namespace Jvm.Pilot.@@N@@
open Jvm Jvm.ClassFile Sem Op Lib Jvm.Free Jvm.Stand Jvm.LawKit Jvm.RoadKit Bundle Jvm.Pilot.@@N@@.Jvm.D

def own_rem (x y : Int32) : Int32 := x - (x / y) * y
theorem own_remv (x y : Int32) (hx : 0 ≤ x.toInt) (hy : 0 < y.toInt) : (own_rem x y).toInt = x.toInt % y.toInt := by
  have a := x.toInt_lt
  have b := x.le_toInt
  have hd : (x / y).toInt = x.toInt / y.toInt := by
    rw [Jvm.Kit.i32_div (by omega), Int.tdiv_eq_ediv_of_nonneg hx]
  have h1 : 0 ≤ x.toInt / y.toInt * y.toInt := Int.mul_nonneg (Int.ediv_nonneg hx (by omega)) (by omega)
  have h2 : x.toInt / y.toInt * y.toInt ≤ x.toInt := Int.ediv_mul_le _ (by omega)
  have hm : (x / y * y).toInt = x.toInt / y.toInt * y.toInt := by
    rw [Jvm.Kit.i32_mul (by rw [hd]; omega) (by rw [hd]; omega), hd]
  show (x - x / y * y).toInt = _
  rw [Jvm.Kit.i32_sub (by rw [hm]; omega) (by rw [hm]; omega), hm, Int.emod_def, Int.mul_comm]
theorem own_remk (p y : Int32) (hy : 0 < y.toInt) : (own_rem (p &&& (2147483647 : Int32)) y).toInt = (p.toInt % 2 ^ 31) % y.toInt := by
  have e : (p &&& 2147483647).toInt = p.toInt % 2 ^ 31 := Jvm.Kit.i32_mask p 2147483647 (k := 31) (by decide) (by decide)
  rw [own_remv _ _ (by rw [e]; omega) hy, e]

theorem own_i7 (p : Int32) : 0 ≤ (own_rem (p &&& (2147483647 : Int32)) (7 : Int32)).toInt ∧ (own_rem (p &&& (2147483647 : Int32)) (7 : Int32)).toInt < 7 := by
  have r := own_remk p 7 (by decide)
  have e : (7 : Int32).toInt = 7 := rfl
  rw [e] at r
  omega
theorem own_j8 (p : Int32) : 0 ≤ (own_rem (p &&& (2147483647 : Int32)) (8 : Int32)).toInt ∧ (own_rem (p &&& (2147483647 : Int32)) (8 : Int32)).toInt < 8 := by
  have r := own_remk p 8 (by decide)
  have e : (8 : Int32).toInt = 8 := rfl
  rw [e] at r
  omega
theorem own_seven (k : Int32) (h : 0 ≤ k.toInt ∧ k.toInt < 7) : k = 0 ∨ k = 1 ∨ k = 2 ∨ k = 3 ∨ k = 4 ∨ k = 5 ∨ k = 6 := by
  have l0 : (0 : Int32).toInt = 0 := rfl
  have l1 : (1 : Int32).toInt = 1 := rfl
  have l2 : (2 : Int32).toInt = 2 := rfl
  have l3 : (3 : Int32).toInt = 3 := rfl
  have l4 : (4 : Int32).toInt = 4 := rfl
  have l5 : (5 : Int32).toInt = 5 := rfl
  have l6 : (6 : Int32).toInt = 6 := rfl
  simp only [← Int32.toInt_inj, l0, l1, l2, l3, l4, l5, l6]
  omega
theorem d1_0 : decode method_2_code 0 = .ok (.iload_n 0, 1) := by decide +kernel
theorem d1_1 : decode method_2_code 1 = .ok (.ifCond .ne 7, 3) := by decide +kernel
theorem d1_4 : decode method_2_code 4 = .ok (.getstatic 7, 3) := by decide +kernel
theorem d1_7 : decode method_2_code 7 = .ok (.areturn, 1) := by decide +kernel
theorem pn_1 : plainName "com/example/libphase/libphase/event/PhaseIdIsCoveredByPinLaw" = true := by first | (simp [plainName, overriddenIn]; done) | decide +kernel
theorem ef_1 (m : MethodId) (x0 : Int32) : entryFrame m #[(.int x0)] 1 = mkF m 0 #[.val (.int x0)] [] := by first | (simp [entryFrame, mkF, argsToLocals, Value.category]; done) | rfl
def Q1 (Z : State) (p1 : Int32) (w2 : Addr) (h0 : Heap) (n0 : Nat) (v : Option Value) (h : Heap) (L : List Loc) : Prop := v = some (.ref w2) ∧ Fr n0 L ∧ h = h0
set_option maxRecDepth 65536 in
set_option maxHeartbeats 40000000 in
theorem rm1_0 (l : Launch) (Z : State) (a0 : Array Value) (hw : ∀ d ∈ tables_1, d.before a0 Z = true) (ws : List Jvm.Cond) (p1 : Int32) (w2 : Addr) (h0 : Heap) (n0 : Nat) (Z0 : n0 ≤ h0.size) (S_ANY_PHASE : Sta Z h0 "com/example/libphase/libphase/event/PhaseId" "ANY_PHASE" "Lcom/example/libphase/libphase/event/PhaseId;" (.ref w2)) (hc1 : p1 = (0 : Int32)) :
    MetFree l (⟨"com/example/libphase/libphase/event/PhaseIdIsCoveredByPinLaw", "phase", "(I)Lcom/example/libphase/libphase/event/PhaseId;"⟩ : MethodName) (head1 (Jvm.Cond.code (⟨"com/example/libphase/libphase/event/PhaseIdIsCoveredByPinLaw", "phase", "(I)Lcom/example/libphase/libphase/event/PhaseId;"⟩ : MethodName) method_2_code 1 (some (.object "com/example/libphase/libphase/event/PhaseId")) :: ws) ({ frames := 0, cells := 0, slots := 0, locals := 0 } : Room)) (fun a U => a = #[(.int p1)] ∧ Z.Warmed39 U.vm ∧ U.heap = h0) (fun _ _ _ _ _ => True) (fun _ U o U' => ∃ v L, o = .returned v ∧ Q1 Z p1 w2 h0 n0 v U'.heap L ∧ FrameEnd U o U' L ({ frames := 0, cells := 0, slots := 0, locals := 0 } : Room).cells ({ frames := 0, cells := 0, slots := 0, locals := 0 } : Room).slots) := by
  refine MetFree.of_bodySF (plainFor_of_name pn_1) hisR ?_
  intro p e s m args below meth c s₁ Bd hml0 hP hK
  obtain ⟨rfl, hZ, hh⟩ := hP
  have hx := Bd.exec
  have hby := Bd.bytes
  have hml : c.maxLocals = 1 := hml0
  have hown : s.vm.findClass "com/example/libphase/libphase/event/PhaseIdIsCoveredByPinLaw" = some m.cls := findClass_of_methodNamed Bd.named
  have hnm := (name_of_methodNamed Bd.named Bd.method).1
  have X0 : Stand p l e ({ frames := 0, cells := 0, slots := 0, locals := 0 } : Room) s m #[(.int p1)] below meth c s₁ [] 0 0 := Stand.of_body Bd
  have e0 : s₁.heap = h0 := by rw [← hh, Bd.state]; rfl
  have N0 := Fr.nil n0
  have pre0 : ∀ t, Steps p.tables e below (s₁.setTop (mkF m 0 #[.val (.int p1)] [])) t → Steps p.tables e below (s₁.setTop (entryFrame m #[(.int p1)] 1)) t := fun t k => castTop (ef_1 m p1) k
  obtain ⟨T3, X3, e3, st3⟩ := getS2 X0 hx hZ hown (host := "") (Or.inl (hw _ (List.mem_of_getElem? (i := 5) rfl))) Via.refl e0 S_ANY_PHASE (g := (mkF m 4 #[.val (.int p1)] [])) rfl (hb hby d1_4)
  obtain ⟨fs, hr, hrun, hended, hW, hsame⟩ := X3.leave (v := some (.ref w2)) (fun h => by rw [Bd.returns] at h; cases h)
  refine ⟨_, _, pre0 _ ?_, hrun, hended, _, _, rfl, ?_, ⟨_, rfl⟩, hW, hsame.mono (by decide) (by decide)⟩
  · show Steps p.tables e below (s₁.setTop (mkF m 0 #[.val (.int p1)] [])) _
    refine XS.iloadN X0.here hx rfl (hb hby d1_0) rfl ?_
    show Steps p.tables e below (s₁.setTop (mkF m 1 #[.val (.int p1)] [(.int p1)])) _
    refine XS.ifNo X0.here hx rfl (hb hby d1_1) rfl ((if0 _ _).trans (teq hc1).2) ?_
    show Steps p.tables e below (s₁.setTop (mkF m 4 #[.val (.int p1)] [])) _
    refine st3 _ ?_
    show Steps p.tables e below (T3.setTop (mkF m 7 #[.val (.int p1)] [(.ref w2)])) _
    jvm_step X3.here [X3.here.top, hx, (hb hby d1_7), X3.method', Bd.returns, Value.isRef, FieldType.isReference]
    first | (intro acts; rw [hr _ acts rfl rfl rfl]) | rw [hr _ _ rfl rfl rfl]
    exact Steps.refl _
  · show Q1 Z p1 w2 h0 n0 _ T3.heap _
    rw [e3]
    exact ⟨rfl, N0, rfl⟩
theorem d1_8 : decode method_2_code 8 = .ok (.iload_n 0, 1) := by decide +kernel
theorem d1_9 : decode method_2_code 9 = .ok (.iconst 1, 1) := by decide +kernel
theorem d1_10 : decode method_2_code 10 = .ok (.if_icmp .ne 7, 3) := by decide +kernel
theorem d1_13 : decode method_2_code 13 = .ok (.getstatic 13, 3) := by decide +kernel
theorem d1_16 : decode method_2_code 16 = .ok (.areturn, 1) := by decide +kernel
set_option maxRecDepth 65536 in
set_option maxHeartbeats 40000000 in
theorem rm1_1 (l : Launch) (Z : State) (a0 : Array Value) (hw : ∀ d ∈ tables_1, d.before a0 Z = true) (ws : List Jvm.Cond) (p1 : Int32) (w2 : Addr) (h0 : Heap) (n0 : Nat) (Z0 : n0 ≤ h0.size) (S_RESTORE_VIEW : Sta Z h0 "com/example/libphase/libphase/event/PhaseId" "RESTORE_VIEW" "Lcom/example/libphase/libphase/event/PhaseId;" (.ref w2)) (hc1 : ¬ (p1 = (0 : Int32))) (hc10 : p1 = (1 : Int32)) :
    MetFree l (⟨"com/example/libphase/libphase/event/PhaseIdIsCoveredByPinLaw", "phase", "(I)Lcom/example/libphase/libphase/event/PhaseId;"⟩ : MethodName) (head1 (Jvm.Cond.code (⟨"com/example/libphase/libphase/event/PhaseIdIsCoveredByPinLaw", "phase", "(I)Lcom/example/libphase/libphase/event/PhaseId;"⟩ : MethodName) method_2_code 1 (some (.object "com/example/libphase/libphase/event/PhaseId")) :: ws) ({ frames := 0, cells := 0, slots := 0, locals := 0 } : Room)) (fun a U => a = #[(.int p1)] ∧ Z.Warmed39 U.vm ∧ U.heap = h0) (fun _ _ _ _ _ => True) (fun _ U o U' => ∃ v L, o = .returned v ∧ Q1 Z p1 w2 h0 n0 v U'.heap L ∧ FrameEnd U o U' L ({ frames := 0, cells := 0, slots := 0, locals := 0 } : Room).cells ({ frames := 0, cells := 0, slots := 0, locals := 0 } : Room).slots) := by
  refine MetFree.of_bodySF (plainFor_of_name pn_1) hisR ?_
  intro p e s m args below meth c s₁ Bd hml0 hP hK
  obtain ⟨rfl, hZ, hh⟩ := hP
  have hx := Bd.exec
  have hby := Bd.bytes
  have hml : c.maxLocals = 1 := hml0
  have hown : s.vm.findClass "com/example/libphase/libphase/event/PhaseIdIsCoveredByPinLaw" = some m.cls := findClass_of_methodNamed Bd.named
  have hnm := (name_of_methodNamed Bd.named Bd.method).1
  have X0 : Stand p l e ({ frames := 0, cells := 0, slots := 0, locals := 0 } : Room) s m #[(.int p1)] below meth c s₁ [] 0 0 := Stand.of_body Bd
  have e0 : s₁.heap = h0 := by rw [← hh, Bd.state]; rfl
  have N0 := Fr.nil n0
  have pre0 : ∀ t, Steps p.tables e below (s₁.setTop (mkF m 0 #[.val (.int p1)] [])) t → Steps p.tables e below (s₁.setTop (entryFrame m #[(.int p1)] 1)) t := fun t k => castTop (ef_1 m p1) k
  obtain ⟨T3, X3, e3, st3⟩ := getS2 X0 hx hZ hown (host := "") (Or.inl (hw _ (List.mem_of_getElem? (i := 16) rfl))) Via.refl e0 S_RESTORE_VIEW (g := (mkF m 13 #[.val (.int p1)] [])) rfl (hb hby d1_13)
  obtain ⟨fs, hr, hrun, hended, hW, hsame⟩ := X3.leave (v := some (.ref w2)) (fun h => by rw [Bd.returns] at h; cases h)
  refine ⟨_, _, pre0 _ ?_, hrun, hended, _, _, rfl, ?_, ⟨_, rfl⟩, hW, hsame.mono (by decide) (by decide)⟩
  · show Steps p.tables e below (s₁.setTop (mkF m 0 #[.val (.int p1)] [])) _
    refine XS.iloadN X0.here hx rfl (hb hby d1_0) rfl ?_
    show Steps p.tables e below (s₁.setTop (mkF m 1 #[.val (.int p1)] [(.int p1)])) _
    refine XS.ifYes X0.here hx rfl (pc0 := 1) (pc' := 8) rfl (hb hby d1_1) rfl ((if0 _ _).trans (feq hc1).2) (by decide) (by decide) ?_
    show Steps p.tables e below (s₁.setTop (mkF m 8 #[.val (.int p1)] [])) _
    refine XS.iloadN X0.here hx rfl (hb hby d1_8) rfl ?_
    show Steps p.tables e below (s₁.setTop (mkF m 9 #[.val (.int p1)] [(.int p1)])) _
    refine XS.iconst X0.here hx rfl (hb hby d1_9) ?_
    show Steps p.tables e below (s₁.setTop (mkF m 10 #[.val (.int p1)] [(.int (1 : Int32)), (.int p1)])) _
    refine XS.icmpNo X0.here hx rfl (hb hby d1_10) rfl (teq hc10).2 ?_
    show Steps p.tables e below (s₁.setTop (mkF m 13 #[.val (.int p1)] [])) _
    refine st3 _ ?_
    show Steps p.tables e below (T3.setTop (mkF m 16 #[.val (.int p1)] [(.ref w2)])) _
    jvm_step X3.here [X3.here.top, hx, (hb hby d1_16), X3.method', Bd.returns, Value.isRef, FieldType.isReference]
    first | (intro acts; rw [hr _ acts rfl rfl rfl]) | rw [hr _ _ rfl rfl rfl]
    exact Steps.refl _
  · show Q1 Z p1 w2 h0 n0 _ T3.heap _
    rw [e3]
    exact ⟨rfl, N0, rfl⟩
theorem d1_17 : decode method_2_code 17 = .ok (.iload_n 0, 1) := by decide +kernel
theorem d1_18 : decode method_2_code 18 = .ok (.iconst 2, 1) := by decide +kernel
theorem d1_19 : decode method_2_code 19 = .ok (.if_icmp .ne 7, 3) := by decide +kernel
theorem d1_22 : decode method_2_code 22 = .ok (.getstatic 16, 3) := by decide +kernel
theorem d1_25 : decode method_2_code 25 = .ok (.areturn, 1) := by decide +kernel
set_option maxRecDepth 65536 in
set_option maxHeartbeats 40000000 in
theorem rm1_2 (l : Launch) (Z : State) (a0 : Array Value) (hw : ∀ d ∈ tables_1, d.before a0 Z = true) (ws : List Jvm.Cond) (p1 : Int32) (w2 : Addr) (h0 : Heap) (n0 : Nat) (Z0 : n0 ≤ h0.size) (S_APPLY_REQUEST_VALUES : Sta Z h0 "com/example/libphase/libphase/event/PhaseId" "APPLY_REQUEST_VALUES" "Lcom/example/libphase/libphase/event/PhaseId;" (.ref w2)) (hc1 : ¬ (p1 = (0 : Int32))) (hc10 : ¬ (p1 = (1 : Int32))) (hc19 : p1 = (2 : Int32)) :
    MetFree l (⟨"com/example/libphase/libphase/event/PhaseIdIsCoveredByPinLaw", "phase", "(I)Lcom/example/libphase/libphase/event/PhaseId;"⟩ : MethodName) (head1 (Jvm.Cond.code (⟨"com/example/libphase/libphase/event/PhaseIdIsCoveredByPinLaw", "phase", "(I)Lcom/example/libphase/libphase/event/PhaseId;"⟩ : MethodName) method_2_code 1 (some (.object "com/example/libphase/libphase/event/PhaseId")) :: ws) ({ frames := 0, cells := 0, slots := 0, locals := 0 } : Room)) (fun a U => a = #[(.int p1)] ∧ Z.Warmed39 U.vm ∧ U.heap = h0) (fun _ _ _ _ _ => True) (fun _ U o U' => ∃ v L, o = .returned v ∧ Q1 Z p1 w2 h0 n0 v U'.heap L ∧ FrameEnd U o U' L ({ frames := 0, cells := 0, slots := 0, locals := 0 } : Room).cells ({ frames := 0, cells := 0, slots := 0, locals := 0 } : Room).slots) := by
  refine MetFree.of_bodySF (plainFor_of_name pn_1) hisR ?_
  intro p e s m args below meth c s₁ Bd hml0 hP hK
  obtain ⟨rfl, hZ, hh⟩ := hP
  have hx := Bd.exec
  have hby := Bd.bytes
  have hml : c.maxLocals = 1 := hml0
  have hown : s.vm.findClass "com/example/libphase/libphase/event/PhaseIdIsCoveredByPinLaw" = some m.cls := findClass_of_methodNamed Bd.named
  have hnm := (name_of_methodNamed Bd.named Bd.method).1
  have X0 : Stand p l e ({ frames := 0, cells := 0, slots := 0, locals := 0 } : Room) s m #[(.int p1)] below meth c s₁ [] 0 0 := Stand.of_body Bd
  have e0 : s₁.heap = h0 := by rw [← hh, Bd.state]; rfl
  have N0 := Fr.nil n0
  have pre0 : ∀ t, Steps p.tables e below (s₁.setTop (mkF m 0 #[.val (.int p1)] [])) t → Steps p.tables e below (s₁.setTop (entryFrame m #[(.int p1)] 1)) t := fun t k => castTop (ef_1 m p1) k
  obtain ⟨T3, X3, e3, st3⟩ := getS2 X0 hx hZ hown (host := "") (Or.inl (hw _ (List.mem_of_getElem? (i := 24) rfl))) Via.refl e0 S_APPLY_REQUEST_VALUES (g := (mkF m 22 #[.val (.int p1)] [])) rfl (hb hby d1_22)
  obtain ⟨fs, hr, hrun, hended, hW, hsame⟩ := X3.leave (v := some (.ref w2)) (fun h => by rw [Bd.returns] at h; cases h)
  refine ⟨_, _, pre0 _ ?_, hrun, hended, _, _, rfl, ?_, ⟨_, rfl⟩, hW, hsame.mono (by decide) (by decide)⟩
  · show Steps p.tables e below (s₁.setTop (mkF m 0 #[.val (.int p1)] [])) _
    refine XS.iloadN X0.here hx rfl (hb hby d1_0) rfl ?_
    show Steps p.tables e below (s₁.setTop (mkF m 1 #[.val (.int p1)] [(.int p1)])) _
    refine XS.ifYes X0.here hx rfl (pc0 := 1) (pc' := 8) rfl (hb hby d1_1) rfl ((if0 _ _).trans (feq hc1).2) (by decide) (by decide) ?_
    show Steps p.tables e below (s₁.setTop (mkF m 8 #[.val (.int p1)] [])) _
    refine XS.iloadN X0.here hx rfl (hb hby d1_8) rfl ?_
    show Steps p.tables e below (s₁.setTop (mkF m 9 #[.val (.int p1)] [(.int p1)])) _
    refine XS.iconst X0.here hx rfl (hb hby d1_9) ?_
    show Steps p.tables e below (s₁.setTop (mkF m 10 #[.val (.int p1)] [(.int (1 : Int32)), (.int p1)])) _
    refine XS.icmpYes X0.here hx rfl (pc0 := 10) (pc' := 17) rfl (hb hby d1_10) rfl (feq hc10).2 (by decide) (by decide) ?_
    show Steps p.tables e below (s₁.setTop (mkF m 17 #[.val (.int p1)] [])) _
    refine XS.iloadN X0.here hx rfl (hb hby d1_17) rfl ?_
    show Steps p.tables e below (s₁.setTop (mkF m 18 #[.val (.int p1)] [(.int p1)])) _
    refine XS.iconst X0.here hx rfl (hb hby d1_18) ?_
    show Steps p.tables e below (s₁.setTop (mkF m 19 #[.val (.int p1)] [(.int (2 : Int32)), (.int p1)])) _
    refine XS.icmpNo X0.here hx rfl (hb hby d1_19) rfl (teq hc19).2 ?_
    show Steps p.tables e below (s₁.setTop (mkF m 22 #[.val (.int p1)] [])) _
    refine st3 _ ?_
    show Steps p.tables e below (T3.setTop (mkF m 25 #[.val (.int p1)] [(.ref w2)])) _
    jvm_step X3.here [X3.here.top, hx, (hb hby d1_25), X3.method', Bd.returns, Value.isRef, FieldType.isReference]
    first | (intro acts; rw [hr _ acts rfl rfl rfl]) | rw [hr _ _ rfl rfl rfl]
    exact Steps.refl _
  · show Q1 Z p1 w2 h0 n0 _ T3.heap _
    rw [e3]
    exact ⟨rfl, N0, rfl⟩
theorem d1_26 : decode method_2_code 26 = .ok (.iload_n 0, 1) := by decide +kernel
theorem d1_27 : decode method_2_code 27 = .ok (.iconst 3, 1) := by decide +kernel
theorem d1_28 : decode method_2_code 28 = .ok (.if_icmp .ne 7, 3) := by decide +kernel
theorem d1_31 : decode method_2_code 31 = .ok (.getstatic 19, 3) := by decide +kernel
theorem d1_34 : decode method_2_code 34 = .ok (.areturn, 1) := by decide +kernel
set_option maxRecDepth 65536 in
set_option maxHeartbeats 40000000 in
theorem rm1_3 (l : Launch) (Z : State) (a0 : Array Value) (hw : ∀ d ∈ tables_1, d.before a0 Z = true) (ws : List Jvm.Cond) (p1 : Int32) (w2 : Addr) (h0 : Heap) (n0 : Nat) (Z0 : n0 ≤ h0.size) (S_PROCESS_VALIDATIONS : Sta Z h0 "com/example/libphase/libphase/event/PhaseId" "PROCESS_VALIDATIONS" "Lcom/example/libphase/libphase/event/PhaseId;" (.ref w2)) (hc1 : ¬ (p1 = (0 : Int32))) (hc10 : ¬ (p1 = (1 : Int32))) (hc19 : ¬ (p1 = (2 : Int32))) (hc28 : p1 = (3 : Int32)) :
    MetFree l (⟨"com/example/libphase/libphase/event/PhaseIdIsCoveredByPinLaw", "phase", "(I)Lcom/example/libphase/libphase/event/PhaseId;"⟩ : MethodName) (head1 (Jvm.Cond.code (⟨"com/example/libphase/libphase/event/PhaseIdIsCoveredByPinLaw", "phase", "(I)Lcom/example/libphase/libphase/event/PhaseId;"⟩ : MethodName) method_2_code 1 (some (.object "com/example/libphase/libphase/event/PhaseId")) :: ws) ({ frames := 0, cells := 0, slots := 0, locals := 0 } : Room)) (fun a U => a = #[(.int p1)] ∧ Z.Warmed39 U.vm ∧ U.heap = h0) (fun _ _ _ _ _ => True) (fun _ U o U' => ∃ v L, o = .returned v ∧ Q1 Z p1 w2 h0 n0 v U'.heap L ∧ FrameEnd U o U' L ({ frames := 0, cells := 0, slots := 0, locals := 0 } : Room).cells ({ frames := 0, cells := 0, slots := 0, locals := 0 } : Room).slots) := by
  refine MetFree.of_bodySF (plainFor_of_name pn_1) hisR ?_
  intro p e s m args below meth c s₁ Bd hml0 hP hK
  obtain ⟨rfl, hZ, hh⟩ := hP
  have hx := Bd.exec
  have hby := Bd.bytes
  have hml : c.maxLocals = 1 := hml0
  have hown : s.vm.findClass "com/example/libphase/libphase/event/PhaseIdIsCoveredByPinLaw" = some m.cls := findClass_of_methodNamed Bd.named
  have hnm := (name_of_methodNamed Bd.named Bd.method).1
  have X0 : Stand p l e ({ frames := 0, cells := 0, slots := 0, locals := 0 } : Room) s m #[(.int p1)] below meth c s₁ [] 0 0 := Stand.of_body Bd
  have e0 : s₁.heap = h0 := by rw [← hh, Bd.state]; rfl
  have N0 := Fr.nil n0
  have pre0 : ∀ t, Steps p.tables e below (s₁.setTop (mkF m 0 #[.val (.int p1)] [])) t → Steps p.tables e below (s₁.setTop (entryFrame m #[(.int p1)] 1)) t := fun t k => castTop (ef_1 m p1) k
  obtain ⟨T3, X3, e3, st3⟩ := getS2 X0 hx hZ hown (host := "") (Or.inl (hw _ (List.mem_of_getElem? (i := 8) rfl))) Via.refl e0 S_PROCESS_VALIDATIONS (g := (mkF m 31 #[.val (.int p1)] [])) rfl (hb hby d1_31)
  obtain ⟨fs, hr, hrun, hended, hW, hsame⟩ := X3.leave (v := some (.ref w2)) (fun h => by rw [Bd.returns] at h; cases h)
  refine ⟨_, _, pre0 _ ?_, hrun, hended, _, _, rfl, ?_, ⟨_, rfl⟩, hW, hsame.mono (by decide) (by decide)⟩
  · show Steps p.tables e below (s₁.setTop (mkF m 0 #[.val (.int p1)] [])) _
    refine XS.iloadN X0.here hx rfl (hb hby d1_0) rfl ?_
    show Steps p.tables e below (s₁.setTop (mkF m 1 #[.val (.int p1)] [(.int p1)])) _
    refine XS.ifYes X0.here hx rfl (pc0 := 1) (pc' := 8) rfl (hb hby d1_1) rfl ((if0 _ _).trans (feq hc1).2) (by decide) (by decide) ?_
    show Steps p.tables e below (s₁.setTop (mkF m 8 #[.val (.int p1)] [])) _
    refine XS.iloadN X0.here hx rfl (hb hby d1_8) rfl ?_
    show Steps p.tables e below (s₁.setTop (mkF m 9 #[.val (.int p1)] [(.int p1)])) _
    refine XS.iconst X0.here hx rfl (hb hby d1_9) ?_
    show Steps p.tables e below (s₁.setTop (mkF m 10 #[.val (.int p1)] [(.int (1 : Int32)), (.int p1)])) _
    refine XS.icmpYes X0.here hx rfl (pc0 := 10) (pc' := 17) rfl (hb hby d1_10) rfl (feq hc10).2 (by decide) (by decide) ?_
    show Steps p.tables e below (s₁.setTop (mkF m 17 #[.val (.int p1)] [])) _
    refine XS.iloadN X0.here hx rfl (hb hby d1_17) rfl ?_
    show Steps p.tables e below (s₁.setTop (mkF m 18 #[.val (.int p1)] [(.int p1)])) _
    refine XS.iconst X0.here hx rfl (hb hby d1_18) ?_
    show Steps p.tables e below (s₁.setTop (mkF m 19 #[.val (.int p1)] [(.int (2 : Int32)), (.int p1)])) _
    refine XS.icmpYes X0.here hx rfl (pc0 := 19) (pc' := 26) rfl (hb hby d1_19) rfl (feq hc19).2 (by decide) (by decide) ?_
    show Steps p.tables e below (s₁.setTop (mkF m 26 #[.val (.int p1)] [])) _
    refine XS.iloadN X0.here hx rfl (hb hby d1_26) rfl ?_
    show Steps p.tables e below (s₁.setTop (mkF m 27 #[.val (.int p1)] [(.int p1)])) _
    refine XS.iconst X0.here hx rfl (hb hby d1_27) ?_
    show Steps p.tables e below (s₁.setTop (mkF m 28 #[.val (.int p1)] [(.int (3 : Int32)), (.int p1)])) _
    refine XS.icmpNo X0.here hx rfl (hb hby d1_28) rfl (teq hc28).2 ?_
    show Steps p.tables e below (s₁.setTop (mkF m 31 #[.val (.int p1)] [])) _
    refine st3 _ ?_
    show Steps p.tables e below (T3.setTop (mkF m 34 #[.val (.int p1)] [(.ref w2)])) _
    jvm_step X3.here [X3.here.top, hx, (hb hby d1_34), X3.method', Bd.returns, Value.isRef, FieldType.isReference]
    first | (intro acts; rw [hr _ acts rfl rfl rfl]) | rw [hr _ _ rfl rfl rfl]
    exact Steps.refl _
  · show Q1 Z p1 w2 h0 n0 _ T3.heap _
    rw [e3]
    exact ⟨rfl, N0, rfl⟩
theorem d1_35 : decode method_2_code 35 = .ok (.iload_n 0, 1) := by decide +kernel
theorem d1_36 : decode method_2_code 36 = .ok (.iconst 4, 1) := by decide +kernel
theorem d1_37 : decode method_2_code 37 = .ok (.if_icmp .ne 7, 3) := by decide +kernel
theorem d1_40 : decode method_2_code 40 = .ok (.getstatic 22, 3) := by decide +kernel
theorem d1_43 : decode method_2_code 43 = .ok (.areturn, 1) := by decide +kernel
set_option maxRecDepth 65536 in
set_option maxHeartbeats 40000000 in
theorem rm1_4 (l : Launch) (Z : State) (a0 : Array Value) (hw : ∀ d ∈ tables_1, d.before a0 Z = true) (ws : List Jvm.Cond) (p1 : Int32) (w2 : Addr) (h0 : Heap) (n0 : Nat) (Z0 : n0 ≤ h0.size) (S_UPDATE_MODEL_VALUES : Sta Z h0 "com/example/libphase/libphase/event/PhaseId" "UPDATE_MODEL_VALUES" "Lcom/example/libphase/libphase/event/PhaseId;" (.ref w2)) (hc1 : ¬ (p1 = (0 : Int32))) (hc10 : ¬ (p1 = (1 : Int32))) (hc19 : ¬ (p1 = (2 : Int32))) (hc28 : ¬ (p1 = (3 : Int32))) (hc37 : p1 = (4 : Int32)) :
    MetFree l (⟨"com/example/libphase/libphase/event/PhaseIdIsCoveredByPinLaw", "phase", "(I)Lcom/example/libphase/libphase/event/PhaseId;"⟩ : MethodName) (head1 (Jvm.Cond.code (⟨"com/example/libphase/libphase/event/PhaseIdIsCoveredByPinLaw", "phase", "(I)Lcom/example/libphase/libphase/event/PhaseId;"⟩ : MethodName) method_2_code 1 (some (.object "com/example/libphase/libphase/event/PhaseId")) :: ws) ({ frames := 0, cells := 0, slots := 0, locals := 0 } : Room)) (fun a U => a = #[(.int p1)] ∧ Z.Warmed39 U.vm ∧ U.heap = h0) (fun _ _ _ _ _ => True) (fun _ U o U' => ∃ v L, o = .returned v ∧ Q1 Z p1 w2 h0 n0 v U'.heap L ∧ FrameEnd U o U' L ({ frames := 0, cells := 0, slots := 0, locals := 0 } : Room).cells ({ frames := 0, cells := 0, slots := 0, locals := 0 } : Room).slots) := by
  refine MetFree.of_bodySF (plainFor_of_name pn_1) hisR ?_
  intro p e s m args below meth c s₁ Bd hml0 hP hK
  obtain ⟨rfl, hZ, hh⟩ := hP
  have hx := Bd.exec
  have hby := Bd.bytes
  have hml : c.maxLocals = 1 := hml0
  have hown : s.vm.findClass "com/example/libphase/libphase/event/PhaseIdIsCoveredByPinLaw" = some m.cls := findClass_of_methodNamed Bd.named
  have hnm := (name_of_methodNamed Bd.named Bd.method).1
  have X0 : Stand p l e ({ frames := 0, cells := 0, slots := 0, locals := 0 } : Room) s m #[(.int p1)] below meth c s₁ [] 0 0 := Stand.of_body Bd
  have e0 : s₁.heap = h0 := by rw [← hh, Bd.state]; rfl
  have N0 := Fr.nil n0
  have pre0 : ∀ t, Steps p.tables e below (s₁.setTop (mkF m 0 #[.val (.int p1)] [])) t → Steps p.tables e below (s₁.setTop (entryFrame m #[(.int p1)] 1)) t := fun t k => castTop (ef_1 m p1) k
  obtain ⟨T3, X3, e3, st3⟩ := getS2 X0 hx hZ hown (host := "") (Or.inl (hw _ (List.mem_of_getElem? (i := 18) rfl))) Via.refl e0 S_UPDATE_MODEL_VALUES (g := (mkF m 40 #[.val (.int p1)] [])) rfl (hb hby d1_40)
  obtain ⟨fs, hr, hrun, hended, hW, hsame⟩ := X3.leave (v := some (.ref w2)) (fun h => by rw [Bd.returns] at h; cases h)
  refine ⟨_, _, pre0 _ ?_, hrun, hended, _, _, rfl, ?_, ⟨_, rfl⟩, hW, hsame.mono (by decide) (by decide)⟩
  · show Steps p.tables e below (s₁.setTop (mkF m 0 #[.val (.int p1)] [])) _
    refine XS.iloadN X0.here hx rfl (hb hby d1_0) rfl ?_
    show Steps p.tables e below (s₁.setTop (mkF m 1 #[.val (.int p1)] [(.int p1)])) _
    refine XS.ifYes X0.here hx rfl (pc0 := 1) (pc' := 8) rfl (hb hby d1_1) rfl ((if0 _ _).trans (feq hc1).2) (by decide) (by decide) ?_
    show Steps p.tables e below (s₁.setTop (mkF m 8 #[.val (.int p1)] [])) _
    refine XS.iloadN X0.here hx rfl (hb hby d1_8) rfl ?_
    show Steps p.tables e below (s₁.setTop (mkF m 9 #[.val (.int p1)] [(.int p1)])) _
    refine XS.iconst X0.here hx rfl (hb hby d1_9) ?_
    show Steps p.tables e below (s₁.setTop (mkF m 10 #[.val (.int p1)] [(.int (1 : Int32)), (.int p1)])) _
    refine XS.icmpYes X0.here hx rfl (pc0 := 10) (pc' := 17) rfl (hb hby d1_10) rfl (feq hc10).2 (by decide) (by decide) ?_
    show Steps p.tables e below (s₁.setTop (mkF m 17 #[.val (.int p1)] [])) _
    refine XS.iloadN X0.here hx rfl (hb hby d1_17) rfl ?_
    show Steps p.tables e below (s₁.setTop (mkF m 18 #[.val (.int p1)] [(.int p1)])) _
    refine XS.iconst X0.here hx rfl (hb hby d1_18) ?_
    show Steps p.tables e below (s₁.setTop (mkF m 19 #[.val (.int p1)] [(.int (2 : Int32)), (.int p1)])) _
    refine XS.icmpYes X0.here hx rfl (pc0 := 19) (pc' := 26) rfl (hb hby d1_19) rfl (feq hc19).2 (by decide) (by decide) ?_
    show Steps p.tables e below (s₁.setTop (mkF m 26 #[.val (.int p1)] [])) _
    refine XS.iloadN X0.here hx rfl (hb hby d1_26) rfl ?_
    show Steps p.tables e below (s₁.setTop (mkF m 27 #[.val (.int p1)] [(.int p1)])) _
    refine XS.iconst X0.here hx rfl (hb hby d1_27) ?_
    show Steps p.tables e below (s₁.setTop (mkF m 28 #[.val (.int p1)] [(.int (3 : Int32)), (.int p1)])) _
    refine XS.icmpYes X0.here hx rfl (pc0 := 28) (pc' := 35) rfl (hb hby d1_28) rfl (feq hc28).2 (by decide) (by decide) ?_
    show Steps p.tables e below (s₁.setTop (mkF m 35 #[.val (.int p1)] [])) _
    refine XS.iloadN X0.here hx rfl (hb hby d1_35) rfl ?_
    show Steps p.tables e below (s₁.setTop (mkF m 36 #[.val (.int p1)] [(.int p1)])) _
    refine XS.iconst X0.here hx rfl (hb hby d1_36) ?_
    show Steps p.tables e below (s₁.setTop (mkF m 37 #[.val (.int p1)] [(.int (4 : Int32)), (.int p1)])) _
    refine XS.icmpNo X0.here hx rfl (hb hby d1_37) rfl (teq hc37).2 ?_
    show Steps p.tables e below (s₁.setTop (mkF m 40 #[.val (.int p1)] [])) _
    refine st3 _ ?_
    show Steps p.tables e below (T3.setTop (mkF m 43 #[.val (.int p1)] [(.ref w2)])) _
    jvm_step X3.here [X3.here.top, hx, (hb hby d1_43), X3.method', Bd.returns, Value.isRef, FieldType.isReference]
    first | (intro acts; rw [hr _ acts rfl rfl rfl]) | rw [hr _ _ rfl rfl rfl]
    exact Steps.refl _
  · show Q1 Z p1 w2 h0 n0 _ T3.heap _
    rw [e3]
    exact ⟨rfl, N0, rfl⟩
theorem d1_44 : decode method_2_code 44 = .ok (.iload_n 0, 1) := by decide +kernel
theorem d1_45 : decode method_2_code 45 = .ok (.iconst 5, 1) := by decide +kernel
theorem d1_46 : decode method_2_code 46 = .ok (.if_icmp .ne 7, 3) := by decide +kernel
theorem d1_49 : decode method_2_code 49 = .ok (.getstatic 25, 3) := by decide +kernel
theorem d1_52 : decode method_2_code 52 = .ok (.areturn, 1) := by decide +kernel
set_option maxRecDepth 65536 in
set_option maxHeartbeats 40000000 in
theorem rm1_5 (l : Launch) (Z : State) (a0 : Array Value) (hw : ∀ d ∈ tables_1, d.before a0 Z = true) (ws : List Jvm.Cond) (p1 : Int32) (w2 : Addr) (h0 : Heap) (n0 : Nat) (Z0 : n0 ≤ h0.size) (S_INVOKE_APPLICATION : Sta Z h0 "com/example/libphase/libphase/event/PhaseId" "INVOKE_APPLICATION" "Lcom/example/libphase/libphase/event/PhaseId;" (.ref w2)) (hc1 : ¬ (p1 = (0 : Int32))) (hc10 : ¬ (p1 = (1 : Int32))) (hc19 : ¬ (p1 = (2 : Int32))) (hc28 : ¬ (p1 = (3 : Int32))) (hc37 : ¬ (p1 = (4 : Int32))) (hc46 : p1 = (5 : Int32)) :
    MetFree l (⟨"com/example/libphase/libphase/event/PhaseIdIsCoveredByPinLaw", "phase", "(I)Lcom/example/libphase/libphase/event/PhaseId;"⟩ : MethodName) (head1 (Jvm.Cond.code (⟨"com/example/libphase/libphase/event/PhaseIdIsCoveredByPinLaw", "phase", "(I)Lcom/example/libphase/libphase/event/PhaseId;"⟩ : MethodName) method_2_code 1 (some (.object "com/example/libphase/libphase/event/PhaseId")) :: ws) ({ frames := 0, cells := 0, slots := 0, locals := 0 } : Room)) (fun a U => a = #[(.int p1)] ∧ Z.Warmed39 U.vm ∧ U.heap = h0) (fun _ _ _ _ _ => True) (fun _ U o U' => ∃ v L, o = .returned v ∧ Q1 Z p1 w2 h0 n0 v U'.heap L ∧ FrameEnd U o U' L ({ frames := 0, cells := 0, slots := 0, locals := 0 } : Room).cells ({ frames := 0, cells := 0, slots := 0, locals := 0 } : Room).slots) := by
  refine MetFree.of_bodySF (plainFor_of_name pn_1) hisR ?_
  intro p e s m args below meth c s₁ Bd hml0 hP hK
  obtain ⟨rfl, hZ, hh⟩ := hP
  have hx := Bd.exec
  have hby := Bd.bytes
  have hml : c.maxLocals = 1 := hml0
  have hown : s.vm.findClass "com/example/libphase/libphase/event/PhaseIdIsCoveredByPinLaw" = some m.cls := findClass_of_methodNamed Bd.named
  have hnm := (name_of_methodNamed Bd.named Bd.method).1
  have X0 : Stand p l e ({ frames := 0, cells := 0, slots := 0, locals := 0 } : Room) s m #[(.int p1)] below meth c s₁ [] 0 0 := Stand.of_body Bd
  have e0 : s₁.heap = h0 := by rw [← hh, Bd.state]; rfl
  have N0 := Fr.nil n0
  have pre0 : ∀ t, Steps p.tables e below (s₁.setTop (mkF m 0 #[.val (.int p1)] [])) t → Steps p.tables e below (s₁.setTop (entryFrame m #[(.int p1)] 1)) t := fun t k => castTop (ef_1 m p1) k
  obtain ⟨T3, X3, e3, st3⟩ := getS2 X0 hx hZ hown (host := "") (Or.inl (hw _ (List.mem_of_getElem? (i := 20) rfl))) Via.refl e0 S_INVOKE_APPLICATION (g := (mkF m 49 #[.val (.int p1)] [])) rfl (hb hby d1_49)
  obtain ⟨fs, hr, hrun, hended, hW, hsame⟩ := X3.leave (v := some (.ref w2)) (fun h => by rw [Bd.returns] at h; cases h)
  refine ⟨_, _, pre0 _ ?_, hrun, hended, _, _, rfl, ?_, ⟨_, rfl⟩, hW, hsame.mono (by decide) (by decide)⟩
  · show Steps p.tables e below (s₁.setTop (mkF m 0 #[.val (.int p1)] [])) _
    refine XS.iloadN X0.here hx rfl (hb hby d1_0) rfl ?_
    show Steps p.tables e below (s₁.setTop (mkF m 1 #[.val (.int p1)] [(.int p1)])) _
    refine XS.ifYes X0.here hx rfl (pc0 := 1) (pc' := 8) rfl (hb hby d1_1) rfl ((if0 _ _).trans (feq hc1).2) (by decide) (by decide) ?_
    show Steps p.tables e below (s₁.setTop (mkF m 8 #[.val (.int p1)] [])) _
    refine XS.iloadN X0.here hx rfl (hb hby d1_8) rfl ?_
    show Steps p.tables e below (s₁.setTop (mkF m 9 #[.val (.int p1)] [(.int p1)])) _
    refine XS.iconst X0.here hx rfl (hb hby d1_9) ?_
    show Steps p.tables e below (s₁.setTop (mkF m 10 #[.val (.int p1)] [(.int (1 : Int32)), (.int p1)])) _
    refine XS.icmpYes X0.here hx rfl (pc0 := 10) (pc' := 17) rfl (hb hby d1_10) rfl (feq hc10).2 (by decide) (by decide) ?_
    show Steps p.tables e below (s₁.setTop (mkF m 17 #[.val (.int p1)] [])) _
    refine XS.iloadN X0.here hx rfl (hb hby d1_17) rfl ?_
    show Steps p.tables e below (s₁.setTop (mkF m 18 #[.val (.int p1)] [(.int p1)])) _
    refine XS.iconst X0.here hx rfl (hb hby d1_18) ?_
    show Steps p.tables e below (s₁.setTop (mkF m 19 #[.val (.int p1)] [(.int (2 : Int32)), (.int p1)])) _
    refine XS.icmpYes X0.here hx rfl (pc0 := 19) (pc' := 26) rfl (hb hby d1_19) rfl (feq hc19).2 (by decide) (by decide) ?_
    show Steps p.tables e below (s₁.setTop (mkF m 26 #[.val (.int p1)] [])) _
    refine XS.iloadN X0.here hx rfl (hb hby d1_26) rfl ?_
    show Steps p.tables e below (s₁.setTop (mkF m 27 #[.val (.int p1)] [(.int p1)])) _
    refine XS.iconst X0.here hx rfl (hb hby d1_27) ?_
    show Steps p.tables e below (s₁.setTop (mkF m 28 #[.val (.int p1)] [(.int (3 : Int32)), (.int p1)])) _
    refine XS.icmpYes X0.here hx rfl (pc0 := 28) (pc' := 35) rfl (hb hby d1_28) rfl (feq hc28).2 (by decide) (by decide) ?_
    show Steps p.tables e below (s₁.setTop (mkF m 35 #[.val (.int p1)] [])) _
    refine XS.iloadN X0.here hx rfl (hb hby d1_35) rfl ?_
    show Steps p.tables e below (s₁.setTop (mkF m 36 #[.val (.int p1)] [(.int p1)])) _
    refine XS.iconst X0.here hx rfl (hb hby d1_36) ?_
    show Steps p.tables e below (s₁.setTop (mkF m 37 #[.val (.int p1)] [(.int (4 : Int32)), (.int p1)])) _
    refine XS.icmpYes X0.here hx rfl (pc0 := 37) (pc' := 44) rfl (hb hby d1_37) rfl (feq hc37).2 (by decide) (by decide) ?_
    show Steps p.tables e below (s₁.setTop (mkF m 44 #[.val (.int p1)] [])) _
    refine XS.iloadN X0.here hx rfl (hb hby d1_44) rfl ?_
    show Steps p.tables e below (s₁.setTop (mkF m 45 #[.val (.int p1)] [(.int p1)])) _
    refine XS.iconst X0.here hx rfl (hb hby d1_45) ?_
    show Steps p.tables e below (s₁.setTop (mkF m 46 #[.val (.int p1)] [(.int (5 : Int32)), (.int p1)])) _
    refine XS.icmpNo X0.here hx rfl (hb hby d1_46) rfl (teq hc46).2 ?_
    show Steps p.tables e below (s₁.setTop (mkF m 49 #[.val (.int p1)] [])) _
    refine st3 _ ?_
    show Steps p.tables e below (T3.setTop (mkF m 52 #[.val (.int p1)] [(.ref w2)])) _
    jvm_step X3.here [X3.here.top, hx, (hb hby d1_52), X3.method', Bd.returns, Value.isRef, FieldType.isReference]
    first | (intro acts; rw [hr _ acts rfl rfl rfl]) | rw [hr _ _ rfl rfl rfl]
    exact Steps.refl _
  · show Q1 Z p1 w2 h0 n0 _ T3.heap _
    rw [e3]
    exact ⟨rfl, N0, rfl⟩
theorem d1_53 : decode method_2_code 53 = .ok (.getstatic 28, 3) := by decide +kernel
theorem d1_56 : decode method_2_code 56 = .ok (.areturn, 1) := by decide +kernel
set_option maxRecDepth 65536 in
set_option maxHeartbeats 40000000 in
theorem rm1_6 (l : Launch) (Z : State) (a0 : Array Value) (hw : ∀ d ∈ tables_1, d.before a0 Z = true) (ws : List Jvm.Cond) (p1 : Int32) (w2 : Addr) (h0 : Heap) (n0 : Nat) (Z0 : n0 ≤ h0.size) (S_RENDER_RESPONSE : Sta Z h0 "com/example/libphase/libphase/event/PhaseId" "RENDER_RESPONSE" "Lcom/example/libphase/libphase/event/PhaseId;" (.ref w2)) (hc1 : ¬ (p1 = (0 : Int32))) (hc10 : ¬ (p1 = (1 : Int32))) (hc19 : ¬ (p1 = (2 : Int32))) (hc28 : ¬ (p1 = (3 : Int32))) (hc37 : ¬ (p1 = (4 : Int32))) (hc46 : ¬ (p1 = (5 : Int32))) :
    MetFree l (⟨"com/example/libphase/libphase/event/PhaseIdIsCoveredByPinLaw", "phase", "(I)Lcom/example/libphase/libphase/event/PhaseId;"⟩ : MethodName) (head1 (Jvm.Cond.code (⟨"com/example/libphase/libphase/event/PhaseIdIsCoveredByPinLaw", "phase", "(I)Lcom/example/libphase/libphase/event/PhaseId;"⟩ : MethodName) method_2_code 1 (some (.object "com/example/libphase/libphase/event/PhaseId")) :: ws) ({ frames := 0, cells := 0, slots := 0, locals := 0 } : Room)) (fun a U => a = #[(.int p1)] ∧ Z.Warmed39 U.vm ∧ U.heap = h0) (fun _ _ _ _ _ => True) (fun _ U o U' => ∃ v L, o = .returned v ∧ Q1 Z p1 w2 h0 n0 v U'.heap L ∧ FrameEnd U o U' L ({ frames := 0, cells := 0, slots := 0, locals := 0 } : Room).cells ({ frames := 0, cells := 0, slots := 0, locals := 0 } : Room).slots) := by
  refine MetFree.of_bodySF (plainFor_of_name pn_1) hisR ?_
  intro p e s m args below meth c s₁ Bd hml0 hP hK
  obtain ⟨rfl, hZ, hh⟩ := hP
  have hx := Bd.exec
  have hby := Bd.bytes
  have hml : c.maxLocals = 1 := hml0
  have hown : s.vm.findClass "com/example/libphase/libphase/event/PhaseIdIsCoveredByPinLaw" = some m.cls := findClass_of_methodNamed Bd.named
  have hnm := (name_of_methodNamed Bd.named Bd.method).1
  have X0 : Stand p l e ({ frames := 0, cells := 0, slots := 0, locals := 0 } : Room) s m #[(.int p1)] below meth c s₁ [] 0 0 := Stand.of_body Bd
  have e0 : s₁.heap = h0 := by rw [← hh, Bd.state]; rfl
  have N0 := Fr.nil n0
  have pre0 : ∀ t, Steps p.tables e below (s₁.setTop (mkF m 0 #[.val (.int p1)] [])) t → Steps p.tables e below (s₁.setTop (entryFrame m #[(.int p1)] 1)) t := fun t k => castTop (ef_1 m p1) k
  obtain ⟨T3, X3, e3, st3⟩ := getS2 X0 hx hZ hown (host := "") (Or.inl (hw _ (List.mem_of_getElem? (i := 22) rfl))) Via.refl e0 S_RENDER_RESPONSE (g := (mkF m 53 #[.val (.int p1)] [])) rfl (hb hby d1_53)
  obtain ⟨fs, hr, hrun, hended, hW, hsame⟩ := X3.leave (v := some (.ref w2)) (fun h => by rw [Bd.returns] at h; cases h)
  refine ⟨_, _, pre0 _ ?_, hrun, hended, _, _, rfl, ?_, ⟨_, rfl⟩, hW, hsame.mono (by decide) (by decide)⟩
  · show Steps p.tables e below (s₁.setTop (mkF m 0 #[.val (.int p1)] [])) _
    refine XS.iloadN X0.here hx rfl (hb hby d1_0) rfl ?_
    show Steps p.tables e below (s₁.setTop (mkF m 1 #[.val (.int p1)] [(.int p1)])) _
    refine XS.ifYes X0.here hx rfl (pc0 := 1) (pc' := 8) rfl (hb hby d1_1) rfl ((if0 _ _).trans (feq hc1).2) (by decide) (by decide) ?_
    show Steps p.tables e below (s₁.setTop (mkF m 8 #[.val (.int p1)] [])) _
    refine XS.iloadN X0.here hx rfl (hb hby d1_8) rfl ?_
    show Steps p.tables e below (s₁.setTop (mkF m 9 #[.val (.int p1)] [(.int p1)])) _
    refine XS.iconst X0.here hx rfl (hb hby d1_9) ?_
    show Steps p.tables e below (s₁.setTop (mkF m 10 #[.val (.int p1)] [(.int (1 : Int32)), (.int p1)])) _
    refine XS.icmpYes X0.here hx rfl (pc0 := 10) (pc' := 17) rfl (hb hby d1_10) rfl (feq hc10).2 (by decide) (by decide) ?_
    show Steps p.tables e below (s₁.setTop (mkF m 17 #[.val (.int p1)] [])) _
    refine XS.iloadN X0.here hx rfl (hb hby d1_17) rfl ?_
    show Steps p.tables e below (s₁.setTop (mkF m 18 #[.val (.int p1)] [(.int p1)])) _
    refine XS.iconst X0.here hx rfl (hb hby d1_18) ?_
    show Steps p.tables e below (s₁.setTop (mkF m 19 #[.val (.int p1)] [(.int (2 : Int32)), (.int p1)])) _
    refine XS.icmpYes X0.here hx rfl (pc0 := 19) (pc' := 26) rfl (hb hby d1_19) rfl (feq hc19).2 (by decide) (by decide) ?_
    show Steps p.tables e below (s₁.setTop (mkF m 26 #[.val (.int p1)] [])) _
    refine XS.iloadN X0.here hx rfl (hb hby d1_26) rfl ?_
    show Steps p.tables e below (s₁.setTop (mkF m 27 #[.val (.int p1)] [(.int p1)])) _
    refine XS.iconst X0.here hx rfl (hb hby d1_27) ?_
    show Steps p.tables e below (s₁.setTop (mkF m 28 #[.val (.int p1)] [(.int (3 : Int32)), (.int p1)])) _
    refine XS.icmpYes X0.here hx rfl (pc0 := 28) (pc' := 35) rfl (hb hby d1_28) rfl (feq hc28).2 (by decide) (by decide) ?_
    show Steps p.tables e below (s₁.setTop (mkF m 35 #[.val (.int p1)] [])) _
    refine XS.iloadN X0.here hx rfl (hb hby d1_35) rfl ?_
    show Steps p.tables e below (s₁.setTop (mkF m 36 #[.val (.int p1)] [(.int p1)])) _
    refine XS.iconst X0.here hx rfl (hb hby d1_36) ?_
    show Steps p.tables e below (s₁.setTop (mkF m 37 #[.val (.int p1)] [(.int (4 : Int32)), (.int p1)])) _
    refine XS.icmpYes X0.here hx rfl (pc0 := 37) (pc' := 44) rfl (hb hby d1_37) rfl (feq hc37).2 (by decide) (by decide) ?_
    show Steps p.tables e below (s₁.setTop (mkF m 44 #[.val (.int p1)] [])) _
    refine XS.iloadN X0.here hx rfl (hb hby d1_44) rfl ?_
    show Steps p.tables e below (s₁.setTop (mkF m 45 #[.val (.int p1)] [(.int p1)])) _
    refine XS.iconst X0.here hx rfl (hb hby d1_45) ?_
    show Steps p.tables e below (s₁.setTop (mkF m 46 #[.val (.int p1)] [(.int (5 : Int32)), (.int p1)])) _
    refine XS.icmpYes X0.here hx rfl (pc0 := 46) (pc' := 53) rfl (hb hby d1_46) rfl (feq hc46).2 (by decide) (by decide) ?_
    show Steps p.tables e below (s₁.setTop (mkF m 53 #[.val (.int p1)] [])) _
    refine st3 _ ?_
    show Steps p.tables e below (T3.setTop (mkF m 56 #[.val (.int p1)] [(.ref w2)])) _
    jvm_step X3.here [X3.here.top, hx, (hb hby d1_56), X3.method', Bd.returns, Value.isRef, FieldType.isReference]
    first | (intro acts; rw [hr _ acts rfl rfl rfl]) | rw [hr _ _ rfl rfl rfl]
    exact Steps.refl _
  · show Q1 Z p1 w2 h0 n0 _ T3.heap _
    rw [e3]
    exact ⟨rfl, N0, rfl⟩
theorem d2_0 : decode prog_23_method_5_code 0 = .ok (.aload_n 1, 1) := by decide +kernel
theorem d2_1 : decode prog_23_method_5_code 1 = .ok (.getstatic 3, 3) := by decide +kernel
theorem d2_4 : decode prog_23_method_5_code 4 = .ok (.if_acmp .eq 8, 3) := by decide +kernel
theorem d2_12 : decode prog_23_method_5_code 12 = .ok (.iconst 1, 1) := by decide +kernel
theorem d2_13 : decode prog_23_method_5_code 13 = .ok (.goto 4, 3) := by decide +kernel
theorem d2_17 : decode prog_23_method_5_code 17 = .ok (.ireturn, 1) := by decide +kernel
theorem pn_2 : plainName "com/example/libphase/libphase/event/PhaseId" = true := by first | (simp [plainName, overriddenIn]; done) | decide +kernel
theorem ef_2 (m : MethodId) (x0 : Addr) (x1 : Addr) : entryFrame m #[(.ref x0), (.ref x1)] 2 = mkF m 0 #[.val (.ref x0), .val (.ref x1)] [] := by first | (simp [entryFrame, mkF, argsToLocals, Value.category]; done) | rfl
def Q2 (Z : State) (r : Int32) (h0 : Heap) (n0 : Nat) (v : Option Value) (h : Heap) (L : List Loc) : Prop := v = some (.int r) ∧ Fr n0 L ∧ h = h0
set_option maxRecDepth 65536 in
set_option maxHeartbeats 40000000 in
theorem rm2_t (l : Launch) (Z : State) (a0 : Array Value) (hw : ∀ d ∈ tables_1, d.before a0 Z = true) (ws : List Jvm.Cond) (a1 : Addr) (a2 : Addr) (w3 : Addr) (h0 : Heap) (n0 : Nat) (Z0 : n0 ≤ h0.size) (S_ANY_PHASE : Sta Z h0 "com/example/libphase/libphase/event/PhaseId" "ANY_PHASE" "Lcom/example/libphase/libphase/event/PhaseId;" (.ref w3)) (ha4 : a2 = w3) :
    MetFree l (⟨"com/example/libphase/libphase/event/PhaseId", "isCoveredBy", "(Lcom/example/libphase/libphase/event/PhaseId;)Z"⟩ : MethodName) (head1 (Jvm.Cond.code (⟨"com/example/libphase/libphase/event/PhaseId", "isCoveredBy", "(Lcom/example/libphase/libphase/event/PhaseId;)Z"⟩ : MethodName) prog_23_method_5_code 2 (some .boolean) :: ws) ({ frames := 0, cells := 0, slots := 0, locals := 0 } : Room)) (fun a U => a = #[(.ref a1), (.ref a2)] ∧ Z.Warmed39 U.vm ∧ U.heap = h0) (fun _ _ _ _ _ => True) (fun _ U o U' => ∃ v L, o = .returned v ∧ Q2 Z 1 h0 n0 v U'.heap L ∧ FrameEnd U o U' L ({ frames := 0, cells := 0, slots := 0, locals := 0 } : Room).cells ({ frames := 0, cells := 0, slots := 0, locals := 0 } : Room).slots) := by
  refine MetFree.of_bodySF (plainFor_of_name pn_2) hisR ?_
  intro p e s m args below meth c s₁ Bd hml0 hP hK
  obtain ⟨rfl, hZ, hh⟩ := hP
  have hx := Bd.exec
  have hby := Bd.bytes
  have hml : c.maxLocals = 2 := hml0
  have hown : s.vm.findClass "com/example/libphase/libphase/event/PhaseId" = some m.cls := findClass_of_methodNamed Bd.named
  have hnm := (name_of_methodNamed Bd.named Bd.method).1
  have X0 : Stand p l e ({ frames := 0, cells := 0, slots := 0, locals := 0 } : Room) s m #[(.ref a1), (.ref a2)] below meth c s₁ [] 0 0 := Stand.of_body Bd
  have e0 : s₁.heap = h0 := by rw [← hh, Bd.state]; rfl
  have N0 := Fr.nil n0
  have pre0 : ∀ t, Steps p.tables e below (s₁.setTop (mkF m 0 #[.val (.ref a1), .val (.ref a2)] [])) t → Steps p.tables e below (s₁.setTop (entryFrame m #[(.ref a1), (.ref a2)] 2)) t := fun t k => castTop (ef_2 m a1 a2) k
  obtain ⟨T4, X4, e4, st4⟩ := getS2 X0 hx hZ hown (host := "") (Or.inl (hw _ (List.mem_of_getElem? (i := 15) rfl))) Via.refl e0 S_ANY_PHASE (g := (mkF m 1 #[.val (.ref a1), .val (.ref a2)] [(.ref a2)])) rfl (hb hby d2_1)
  obtain ⟨fs, hr, hrun, hended, hW, hsame⟩ := X4.leave (v := some (.int (1 : Int32))) (fun h => by rw [Bd.returns] at h; cases h)
  refine ⟨_, _, pre0 _ ?_, hrun, hended, _, _, rfl, ?_, ⟨_, rfl⟩, hW, hsame.mono (by decide) (by decide)⟩
  · show Steps p.tables e below (s₁.setTop (mkF m 0 #[.val (.ref a1), .val (.ref a2)] [])) _
    refine XS.aloadN X0.here hx rfl (hb hby d2_0) rfl rfl ?_
    show Steps p.tables e below (s₁.setTop (mkF m 1 #[.val (.ref a1), .val (.ref a2)] [(.ref a2)])) _
    refine st4 _ ?_
    show Steps p.tables e below (T4.setTop (mkF m 4 #[.val (.ref a1), .val (.ref a2)] [(.ref w3), (.ref a2)])) _
    refine Jvm.RoadKit.acmp (g := (mkF m 4 #[.val (.ref a1), .val (.ref a2)] [(.ref w3), (.ref a2)])) X4 hx rfl rfl rfl (pc0 := 4) (pc' := 12) (same := true) rfl (hb hby d2_4) rfl (decide_eq_true (congrArg Value.ref ha4)) (by decide) (by decide) ?_
    show Steps p.tables e below (T4.setTop (mkF m 12 #[.val (.ref a1), .val (.ref a2)] [])) _
    refine XS.iconst X4.here hx rfl (hb hby d2_12) ?_
    show Steps p.tables e below (T4.setTop (mkF m 13 #[.val (.ref a1), .val (.ref a2)] [(.int (1 : Int32))])) _
    refine XS.goto X4.here hx rfl (pc0 := 13) (pc' := 17) rfl (hb hby d2_13) (by decide) (by decide) ?_
    show Steps p.tables e below (T4.setTop (mkF m 17 #[.val (.ref a1), .val (.ref a2)] [(.int (1 : Int32))])) _
    exact retN X4 hx (t := .boolean) Bd.returns (by simp) (hb hby d2_17) hr
  · show Q2 Z 1 h0 n0 _ T4.heap _
    rw [e4]
    exact ⟨rfl, N0, rfl⟩
theorem d2_7 : decode prog_23_method_5_code 7 = .ok (.aload_n 1, 1) := by decide +kernel
theorem d2_8 : decode prog_23_method_5_code 8 = .ok (.aload_n 0, 1) := by decide +kernel
theorem d2_9 : decode prog_23_method_5_code 9 = .ok (.if_acmp .ne 7, 3) := by decide +kernel
set_option maxRecDepth 65536 in
set_option maxHeartbeats 40000000 in
theorem rm2_ff (l : Launch) (Z : State) (a0 : Array Value) (hw : ∀ d ∈ tables_1, d.before a0 Z = true) (ws : List Jvm.Cond) (a1 : Addr) (a2 : Addr) (w3 : Addr) (h0 : Heap) (n0 : Nat) (Z0 : n0 ≤ h0.size) (S_ANY_PHASE : Sta Z h0 "com/example/libphase/libphase/event/PhaseId" "ANY_PHASE" "Lcom/example/libphase/libphase/event/PhaseId;" (.ref w3)) (ha4 : ¬ (a2 = w3)) (ha9 : a2 = a1) :
    MetFree l (⟨"com/example/libphase/libphase/event/PhaseId", "isCoveredBy", "(Lcom/example/libphase/libphase/event/PhaseId;)Z"⟩ : MethodName) (head1 (Jvm.Cond.code (⟨"com/example/libphase/libphase/event/PhaseId", "isCoveredBy", "(Lcom/example/libphase/libphase/event/PhaseId;)Z"⟩ : MethodName) prog_23_method_5_code 2 (some .boolean) :: ws) ({ frames := 0, cells := 0, slots := 0, locals := 0 } : Room)) (fun a U => a = #[(.ref a1), (.ref a2)] ∧ Z.Warmed39 U.vm ∧ U.heap = h0) (fun _ _ _ _ _ => True) (fun _ U o U' => ∃ v L, o = .returned v ∧ Q2 Z 1 h0 n0 v U'.heap L ∧ FrameEnd U o U' L ({ frames := 0, cells := 0, slots := 0, locals := 0 } : Room).cells ({ frames := 0, cells := 0, slots := 0, locals := 0 } : Room).slots) := by
  refine MetFree.of_bodySF (plainFor_of_name pn_2) hisR ?_
  intro p e s m args below meth c s₁ Bd hml0 hP hK
  obtain ⟨rfl, hZ, hh⟩ := hP
  have hx := Bd.exec
  have hby := Bd.bytes
  have hml : c.maxLocals = 2 := hml0
  have hown : s.vm.findClass "com/example/libphase/libphase/event/PhaseId" = some m.cls := findClass_of_methodNamed Bd.named
  have hnm := (name_of_methodNamed Bd.named Bd.method).1
  have X0 : Stand p l e ({ frames := 0, cells := 0, slots := 0, locals := 0 } : Room) s m #[(.ref a1), (.ref a2)] below meth c s₁ [] 0 0 := Stand.of_body Bd
  have e0 : s₁.heap = h0 := by rw [← hh, Bd.state]; rfl
  have N0 := Fr.nil n0
  have pre0 : ∀ t, Steps p.tables e below (s₁.setTop (mkF m 0 #[.val (.ref a1), .val (.ref a2)] [])) t → Steps p.tables e below (s₁.setTop (entryFrame m #[(.ref a1), (.ref a2)] 2)) t := fun t k => castTop (ef_2 m a1 a2) k
  obtain ⟨T4, X4, e4, st4⟩ := getS2 X0 hx hZ hown (host := "") (Or.inl (hw _ (List.mem_of_getElem? (i := 15) rfl))) Via.refl e0 S_ANY_PHASE (g := (mkF m 1 #[.val (.ref a1), .val (.ref a2)] [(.ref a2)])) rfl (hb hby d2_1)
  obtain ⟨fs, hr, hrun, hended, hW, hsame⟩ := X4.leave (v := some (.int (1 : Int32))) (fun h => by rw [Bd.returns] at h; cases h)
  refine ⟨_, _, pre0 _ ?_, hrun, hended, _, _, rfl, ?_, ⟨_, rfl⟩, hW, hsame.mono (by decide) (by decide)⟩
  · show Steps p.tables e below (s₁.setTop (mkF m 0 #[.val (.ref a1), .val (.ref a2)] [])) _
    refine XS.aloadN X0.here hx rfl (hb hby d2_0) rfl rfl ?_
    show Steps p.tables e below (s₁.setTop (mkF m 1 #[.val (.ref a1), .val (.ref a2)] [(.ref a2)])) _
    refine st4 _ ?_
    show Steps p.tables e below (T4.setTop (mkF m 4 #[.val (.ref a1), .val (.ref a2)] [(.ref w3), (.ref a2)])) _
    refine Jvm.RoadKit.acmp (g := (mkF m 4 #[.val (.ref a1), .val (.ref a2)] [(.ref w3), (.ref a2)])) X4 hx rfl rfl rfl (pc0 := 4) (pc' := 7) (same := false) rfl (hb hby d2_4) rfl (decide_eq_false fun q => ha4 (Value.ref.inj q)) (by decide) (by decide) ?_
    show Steps p.tables e below (T4.setTop (mkF m 7 #[.val (.ref a1), .val (.ref a2)] [])) _
    refine XS.aloadN X4.here hx rfl (hb hby d2_7) rfl rfl ?_
    show Steps p.tables e below (T4.setTop (mkF m 8 #[.val (.ref a1), .val (.ref a2)] [(.ref a2)])) _
    refine XS.aloadN X4.here hx rfl (hb hby d2_8) rfl rfl ?_
    show Steps p.tables e below (T4.setTop (mkF m 9 #[.val (.ref a1), .val (.ref a2)] [(.ref a1), (.ref a2)])) _
    refine Jvm.RoadKit.acmp (g := (mkF m 9 #[.val (.ref a1), .val (.ref a2)] [(.ref a1), (.ref a2)])) X4 hx rfl rfl rfl (pc0 := 9) (pc' := 12) (same := true) rfl (hb hby d2_9) rfl (decide_eq_true (congrArg Value.ref ha9)) (by decide) (by decide) ?_
    show Steps p.tables e below (T4.setTop (mkF m 12 #[.val (.ref a1), .val (.ref a2)] [])) _
    refine XS.iconst X4.here hx rfl (hb hby d2_12) ?_
    show Steps p.tables e below (T4.setTop (mkF m 13 #[.val (.ref a1), .val (.ref a2)] [(.int (1 : Int32))])) _
    refine XS.goto X4.here hx rfl (pc0 := 13) (pc' := 17) rfl (hb hby d2_13) (by decide) (by decide) ?_
    show Steps p.tables e below (T4.setTop (mkF m 17 #[.val (.ref a1), .val (.ref a2)] [(.int (1 : Int32))])) _
    exact retN X4 hx (t := .boolean) Bd.returns (by simp) (hb hby d2_17) hr
  · show Q2 Z 1 h0 n0 _ T4.heap _
    rw [e4]
    exact ⟨rfl, N0, rfl⟩
theorem d2_16 : decode prog_23_method_5_code 16 = .ok (.iconst 0, 1) := by decide +kernel
set_option maxRecDepth 65536 in
set_option maxHeartbeats 40000000 in
theorem rm2_ft (l : Launch) (Z : State) (a0 : Array Value) (hw : ∀ d ∈ tables_1, d.before a0 Z = true) (ws : List Jvm.Cond) (a1 : Addr) (a2 : Addr) (w3 : Addr) (h0 : Heap) (n0 : Nat) (Z0 : n0 ≤ h0.size) (S_ANY_PHASE : Sta Z h0 "com/example/libphase/libphase/event/PhaseId" "ANY_PHASE" "Lcom/example/libphase/libphase/event/PhaseId;" (.ref w3)) (ha4 : ¬ (a2 = w3)) (ha9 : ¬ (a2 = a1)) :
    MetFree l (⟨"com/example/libphase/libphase/event/PhaseId", "isCoveredBy", "(Lcom/example/libphase/libphase/event/PhaseId;)Z"⟩ : MethodName) (head1 (Jvm.Cond.code (⟨"com/example/libphase/libphase/event/PhaseId", "isCoveredBy", "(Lcom/example/libphase/libphase/event/PhaseId;)Z"⟩ : MethodName) prog_23_method_5_code 2 (some .boolean) :: ws) ({ frames := 0, cells := 0, slots := 0, locals := 0 } : Room)) (fun a U => a = #[(.ref a1), (.ref a2)] ∧ Z.Warmed39 U.vm ∧ U.heap = h0) (fun _ _ _ _ _ => True) (fun _ U o U' => ∃ v L, o = .returned v ∧ Q2 Z 0 h0 n0 v U'.heap L ∧ FrameEnd U o U' L ({ frames := 0, cells := 0, slots := 0, locals := 0 } : Room).cells ({ frames := 0, cells := 0, slots := 0, locals := 0 } : Room).slots) := by
  refine MetFree.of_bodySF (plainFor_of_name pn_2) hisR ?_
  intro p e s m args below meth c s₁ Bd hml0 hP hK
  obtain ⟨rfl, hZ, hh⟩ := hP
  have hx := Bd.exec
  have hby := Bd.bytes
  have hml : c.maxLocals = 2 := hml0
  have hown : s.vm.findClass "com/example/libphase/libphase/event/PhaseId" = some m.cls := findClass_of_methodNamed Bd.named
  have hnm := (name_of_methodNamed Bd.named Bd.method).1
  have X0 : Stand p l e ({ frames := 0, cells := 0, slots := 0, locals := 0 } : Room) s m #[(.ref a1), (.ref a2)] below meth c s₁ [] 0 0 := Stand.of_body Bd
  have e0 : s₁.heap = h0 := by rw [← hh, Bd.state]; rfl
  have N0 := Fr.nil n0
  have pre0 : ∀ t, Steps p.tables e below (s₁.setTop (mkF m 0 #[.val (.ref a1), .val (.ref a2)] [])) t → Steps p.tables e below (s₁.setTop (entryFrame m #[(.ref a1), (.ref a2)] 2)) t := fun t k => castTop (ef_2 m a1 a2) k
  obtain ⟨T4, X4, e4, st4⟩ := getS2 X0 hx hZ hown (host := "") (Or.inl (hw _ (List.mem_of_getElem? (i := 15) rfl))) Via.refl e0 S_ANY_PHASE (g := (mkF m 1 #[.val (.ref a1), .val (.ref a2)] [(.ref a2)])) rfl (hb hby d2_1)
  obtain ⟨fs, hr, hrun, hended, hW, hsame⟩ := X4.leave (v := some (.int (0 : Int32))) (fun h => by rw [Bd.returns] at h; cases h)
  refine ⟨_, _, pre0 _ ?_, hrun, hended, _, _, rfl, ?_, ⟨_, rfl⟩, hW, hsame.mono (by decide) (by decide)⟩
  · show Steps p.tables e below (s₁.setTop (mkF m 0 #[.val (.ref a1), .val (.ref a2)] [])) _
    refine XS.aloadN X0.here hx rfl (hb hby d2_0) rfl rfl ?_
    show Steps p.tables e below (s₁.setTop (mkF m 1 #[.val (.ref a1), .val (.ref a2)] [(.ref a2)])) _
    refine st4 _ ?_
    show Steps p.tables e below (T4.setTop (mkF m 4 #[.val (.ref a1), .val (.ref a2)] [(.ref w3), (.ref a2)])) _
    refine Jvm.RoadKit.acmp (g := (mkF m 4 #[.val (.ref a1), .val (.ref a2)] [(.ref w3), (.ref a2)])) X4 hx rfl rfl rfl (pc0 := 4) (pc' := 7) (same := false) rfl (hb hby d2_4) rfl (decide_eq_false fun q => ha4 (Value.ref.inj q)) (by decide) (by decide) ?_
    show Steps p.tables e below (T4.setTop (mkF m 7 #[.val (.ref a1), .val (.ref a2)] [])) _
    refine XS.aloadN X4.here hx rfl (hb hby d2_7) rfl rfl ?_
    show Steps p.tables e below (T4.setTop (mkF m 8 #[.val (.ref a1), .val (.ref a2)] [(.ref a2)])) _
    refine XS.aloadN X4.here hx rfl (hb hby d2_8) rfl rfl ?_
    show Steps p.tables e below (T4.setTop (mkF m 9 #[.val (.ref a1), .val (.ref a2)] [(.ref a1), (.ref a2)])) _
    refine Jvm.RoadKit.acmp (g := (mkF m 9 #[.val (.ref a1), .val (.ref a2)] [(.ref a1), (.ref a2)])) X4 hx rfl rfl rfl (pc0 := 9) (pc' := 16) (same := false) rfl (hb hby d2_9) rfl (decide_eq_false fun q => ha9 (Value.ref.inj q)) (by decide) (by decide) ?_
    show Steps p.tables e below (T4.setTop (mkF m 16 #[.val (.ref a1), .val (.ref a2)] [])) _
    refine XS.iconst X4.here hx rfl (hb hby d2_16) ?_
    show Steps p.tables e below (T4.setTop (mkF m 17 #[.val (.ref a1), .val (.ref a2)] [(.int (0 : Int32))])) _
    exact retN X4 hx (t := .boolean) Bd.returns (by simp) (hb hby d2_17) hr
  · show Q2 Z 0 h0 n0 _ T4.heap _
    rw [e4]
    exact ⟨rfl, N0, rfl⟩
theorem ef_2n (m : MethodId) (x0 : Addr) : entryFrame m #[(.ref x0), .null] 2 = mkF m 0 #[.val (.ref x0), .val .null] [] := by first | (simp [entryFrame, mkF, argsToLocals, Value.category]; done) | rfl
set_option maxRecDepth 65536 in
set_option maxHeartbeats 40000000 in
theorem rm2_null (l : Launch) (Z : State) (a0 : Array Value) (hw : ∀ d ∈ tables_1, d.before a0 Z = true) (ws : List Jvm.Cond) (a1 : Addr) (w2 : Addr) (h0 : Heap) (n0 : Nat) (Z0 : n0 ≤ h0.size) (S_ANY_PHASE : Sta Z h0 "com/example/libphase/libphase/event/PhaseId" "ANY_PHASE" "Lcom/example/libphase/libphase/event/PhaseId;" (.ref w2)) :
    MetFree l (⟨"com/example/libphase/libphase/event/PhaseId", "isCoveredBy", "(Lcom/example/libphase/libphase/event/PhaseId;)Z"⟩ : MethodName) (head1 (Jvm.Cond.code (⟨"com/example/libphase/libphase/event/PhaseId", "isCoveredBy", "(Lcom/example/libphase/libphase/event/PhaseId;)Z"⟩ : MethodName) prog_23_method_5_code 2 (some .boolean) :: ws) ({ frames := 0, cells := 0, slots := 0, locals := 0 } : Room)) (fun a U => a = #[(.ref a1), .null] ∧ Z.Warmed39 U.vm ∧ U.heap = h0) (fun _ _ _ _ _ => True) (fun _ U o U' => ∃ v L, o = .returned v ∧ Q2 Z 0 h0 n0 v U'.heap L ∧ FrameEnd U o U' L ({ frames := 0, cells := 0, slots := 0, locals := 0 } : Room).cells ({ frames := 0, cells := 0, slots := 0, locals := 0 } : Room).slots) := by
  refine MetFree.of_bodySF (plainFor_of_name pn_2) hisR ?_
  intro p e s m args below meth c s₁ Bd hml0 hP hK
  obtain ⟨rfl, hZ, hh⟩ := hP
  have hx := Bd.exec
  have hby := Bd.bytes
  have hml : c.maxLocals = 2 := hml0
  have hown : s.vm.findClass "com/example/libphase/libphase/event/PhaseId" = some m.cls := findClass_of_methodNamed Bd.named
  have hnm := (name_of_methodNamed Bd.named Bd.method).1
  have X0 : Stand p l e ({ frames := 0, cells := 0, slots := 0, locals := 0 } : Room) s m #[(.ref a1), .null] below meth c s₁ [] 0 0 := Stand.of_body Bd
  have e0 : s₁.heap = h0 := by rw [← hh, Bd.state]; rfl
  have N0 := Fr.nil n0
  have pre0 : ∀ t, Steps p.tables e below (s₁.setTop (mkF m 0 #[.val (.ref a1), .val .null] [])) t → Steps p.tables e below (s₁.setTop (entryFrame m #[(.ref a1), .null] 2)) t := fun t k => castTop (ef_2n m a1) k
  obtain ⟨T3, X3, e3, st3⟩ := getS2 X0 hx hZ hown (host := "") (Or.inl (hw _ (List.mem_of_getElem? (i := 15) rfl))) Via.refl e0 S_ANY_PHASE (g := (mkF m 1 #[.val (.ref a1), .val .null] [.null])) rfl (hb hby d2_1)
  obtain ⟨fs, hr, hrun, hended, hW, hsame⟩ := X3.leave (v := some (.int (0 : Int32))) (fun h => by rw [Bd.returns] at h; cases h)
  refine ⟨_, _, pre0 _ ?_, hrun, hended, _, _, rfl, ?_, ⟨_, rfl⟩, hW, hsame.mono (by decide) (by decide)⟩
  · show Steps p.tables e below (s₁.setTop (mkF m 0 #[.val (.ref a1), .val .null] [])) _
    refine XS.aloadN X0.here hx rfl (hb hby d2_0) rfl rfl ?_
    show Steps p.tables e below (s₁.setTop (mkF m 1 #[.val (.ref a1), .val .null] [.null])) _
    refine st3 _ ?_
    show Steps p.tables e below (T3.setTop (mkF m 4 #[.val (.ref a1), .val .null] [(.ref w2), .null])) _
    refine Jvm.RoadKit.acmp (g := (mkF m 4 #[.val (.ref a1), .val .null] [(.ref w2), .null])) X3 hx rfl rfl rfl (pc0 := 4) (pc' := 7) (same := false) rfl (hb hby d2_4) rfl (decide_eq_false nofun) (by decide) (by decide) ?_
    show Steps p.tables e below (T3.setTop (mkF m 7 #[.val (.ref a1), .val .null] [])) _
    refine XS.aloadN X3.here hx rfl (hb hby d2_7) rfl rfl ?_
    show Steps p.tables e below (T3.setTop (mkF m 8 #[.val (.ref a1), .val .null] [.null])) _
    refine XS.aloadN X3.here hx rfl (hb hby d2_8) rfl rfl ?_
    show Steps p.tables e below (T3.setTop (mkF m 9 #[.val (.ref a1), .val .null] [(.ref a1), .null])) _
    refine Jvm.RoadKit.acmp (g := (mkF m 9 #[.val (.ref a1), .val .null] [(.ref a1), .null])) X3 hx rfl rfl rfl (pc0 := 9) (pc' := 16) (same := false) rfl (hb hby d2_9) rfl (decide_eq_false nofun) (by decide) (by decide) ?_
    show Steps p.tables e below (T3.setTop (mkF m 16 #[.val (.ref a1), .val .null] [])) _
    refine XS.iconst X3.here hx rfl (hb hby d2_16) ?_
    show Steps p.tables e below (T3.setTop (mkF m 17 #[.val (.ref a1), .val .null] [(.int (0 : Int32))])) _
    exact retN X3 hx (t := .boolean) Bd.returns (by simp) (hb hby d2_17) hr
  · show Q2 Z 0 h0 n0 _ T3.heap _
    rw [e3]
    exact ⟨rfl, N0, rfl⟩
theorem pn_0 : plainName "com/example/libphase/libphase/event/PhaseIdIsCoveredByPinLaw" = true := by first | (simp [plainName, overriddenIn]; done) | decide +kernel
theorem pd_0_0 : parseMethodDescriptor "(I)Lcom/example/libphase/libphase/event/PhaseId;" = some ⟨[.int], some (.object "com/example/libphase/libphase/event/PhaseId")⟩ := by decide +kernel
theorem pd_0_1 : parseMethodDescriptor "(Lcom/example/libphase/libphase/event/PhaseId;)Z" = some ⟨[(.object "com/example/libphase/libphase/event/PhaseId")], some .boolean⟩ := by decide +kernel
theorem ef_0 (m : MethodId) (x0 : Int32) (x1 : Int32) : entryFrame m #[(.int x0), (.int x1)] maxLocals = mkF m 0 #[.val (.int x0), .val (.int x1), .unset, .unset, .unset, .unset, .unset] [] := by first | (simp [entryFrame, mkF, argsToLocals, Value.category, maxLocals]; done) | rfl
def Q0 (Z : State) (p1 : Int32) (p2 : Int32) (h0 : Heap) (n0 : Nat) (v : Option Value) (h : Heap) (L : List Loc) : Prop := v = some (.int (1 : Int32)) ∧ Fr n0 L
set_option maxRecDepth 65536 in
set_option maxHeartbeats 40000000 in
theorem rm0_n (l : Launch) (Z : State) (a0 : Array Value) (hw : ∀ d ∈ tables_1, d.before a0 Z = true) (ws : List Jvm.Cond) (p1 : Int32) (p2 : Int32) (h0 : Heap) (n0 : Nat) (Z0 : n0 ≤ h0.size) (hc25 : (own_rem (p2 &&& (2147483647 : Int32)) (8 : Int32)) = (7 : Int32)) (hc41 : (own_rem (p2 &&& (2147483647 : Int32)) (8 : Int32)) = (7 : Int32)) (wi : Addr) (wa : Addr) (E_i : Exa Z h0 wi "com/example/libphase/libphase/event/PhaseId") (S_a : Sta Z h0 "com/example/libphase/libphase/event/PhaseId" "ANY_PHASE" "Lcom/example/libphase/libphase/event/PhaseId;" (.ref wa)) (hpi : MetFree l (⟨"com/example/libphase/libphase/event/PhaseIdIsCoveredByPinLaw", "phase", "(I)Lcom/example/libphase/libphase/event/PhaseId;"⟩ : MethodName) (head1 (Jvm.Cond.code (⟨"com/example/libphase/libphase/event/PhaseIdIsCoveredByPinLaw", "phase", "(I)Lcom/example/libphase/libphase/event/PhaseId;"⟩ : MethodName) method_2_code 1 (some (.object "com/example/libphase/libphase/event/PhaseId")) :: []) ({ frames := 0, cells := 0, slots := 0, locals := 0 } : Room)) (fun a U => a = #[(.int (own_rem (p1 &&& (2147483647 : Int32)) (7 : Int32)))] ∧ Z.Warmed39 U.vm ∧ U.heap = h0) (fun _ _ _ _ _ => True) (fun _ U o U' => ∃ v L, o = .returned v ∧ Q1 Z (own_rem (p1 &&& (2147483647 : Int32)) (7 : Int32)) wi h0 n0 v U'.heap L ∧ FrameEnd U o U' L ({ frames := 0, cells := 0, slots := 0, locals := 0 } : Room).cells ({ frames := 0, cells := 0, slots := 0, locals := 0 } : Room).slots)) :
    MetFree l x (head1 (Jvm.Cond.code x code maxLocals ret :: ws) room_1) (fun a U => a = #[(.int p1), (.int p2)] ∧ Z.Warmed39 U.vm ∧ U.heap = h0) (fun _ _ _ _ _ => True) (fun _ U o U' => ∃ v L, o = .returned v ∧ Q0 Z p1 p2 h0 n0 v U'.heap L ∧ FrameEnd U o U' L room_1.cells room_1.slots) := by
  refine MetFree.of_bodySF (plainFor_of_name pn_0) hisR ?_
  intro p e s m args below meth c s₁ Bd hml0 hP hK
  obtain ⟨rfl, hZ, hh⟩ := hP
  have hx := Bd.exec
  have hby := Bd.bytes
  have hml : c.maxLocals = 7 := hml0
  have hown : s.vm.findClass "com/example/libphase/libphase/event/PhaseIdIsCoveredByPinLaw" = some m.cls := findClass_of_methodNamed Bd.named
  have hnm := (name_of_methodNamed Bd.named Bd.method).1
  have X0 : Stand p l e room_1 s m #[(.int p1), (.int p2)] below meth c s₁ [] 0 0 := Stand.of_body Bd
  have e0 : s₁.heap = h0 := by rw [← hh, Bd.state]; rfl
  have N0 := Fr.nil n0
  have pre0 : ∀ t, Steps p.tables e below (s₁.setTop (mkF m 0 #[.val (.int p1), .val (.int p2), .unset, .unset, .unset, .unset, .unset] [])) t → Steps p.tables e below (s₁.setTop (entryFrame m #[(.int p1), (.int p2)] maxLocals)) t := fun t k => castTop (ef_0 m p1 p2) k
  -- pc 17: com/example/libphase/libphase/event/PhaseIdIsCoveredByPinLaw.phase by its contract rm1
  obtain ⟨_, _, ⟨T3, L3, k3, n3⟩, -, X3, ⟨Lc3, hQ3, l3, y3, z3⟩, st3⟩ := Jvm.LawKit.callS X0 hx (y := (⟨"com/example/libphase/libphase/event/PhaseIdIsCoveredByPinLaw", "phase", "(I)Lcom/example/libphase/libphase/event/PhaseId;"⟩ : MethodName)) hown (mvT hZ (hw _ (List.mem_of_getElem? (i := 1) rfl))) (mvT hZ (hw _ (List.mem_of_getElem? (i := 2) rfl))) (mvT hZ (hw _ (List.mem_of_getElem? (i := 3) rfl))) (mvT hZ (hw _ (List.mem_of_getElem? (i := 4) rfl))) (by decide) (backOf (W := 0) (hpi) hZ (hw _ (List.mem_of_getElem? (i := 4) rfl)) (hw _ (List.mem_of_getElem? (i := 3) rfl)) (by decide) (by decide)) (g := (mkF m 17 #[.val (.int p1), .val (.int p2), .val (.int (own_rem (p1 &&& (2147483647 : Int32)) (7 : Int32))), .val (.int (own_rem (p2 &&& (2147483647 : Int32)) (8 : Int32))), .unset, .unset, .unset] [(.int (own_rem (p1 &&& (2147483647 : Int32)) (7 : Int32)))])) rfl (by rw [hml]; rfl) (argsL := [(.int (own_rem (p1 &&& (2147483647 : Int32)) (7 : Int32)))]) (rest := []) (lenOf pd_0_0 rfl) rfl (by show 2 * 0 + _ ≤ _; exact Nat.le_of_eq rfl) (hb hby at_17) (fun _ _ => ⟨rfl, e0, (by decide : 0 + 0 ≤ _), (by decide : 0 + 0 ≤ _)⟩)
  dsimp only [Pt.U, Pt.locs, Pt.cells, Pt.slots] at X3 l3 y3 z3 st3 hQ3
  subst l3 y3 z3
  obtain ⟨rfl, N3q, e3⟩ := hQ3
  have N3 := Fr.app N0 N3q
  -- pc 76: com/example/libphase/libphase/event/PhaseId.isCoveredBy by the contract of the body that the receiver's class selects, rm2
  -- ✋ yours, out of the call's Q: E_i : Exa Z h0 wi "com/example/libphase/libphase/event/PhaseId"
  obtain ⟨cq4, kq4, q4a, q4b, q4c⟩ := isOf hZ e3 E_i
  obtain ⟨_, _, ⟨T4, L4, k4, n4⟩, -, X4, ⟨Lc4, hQ4, l4, y4, z4⟩, st4⟩ := X3.virtualBack hx (y := (⟨"com/example/libphase/libphase/event/PhaseId", "isCoveredBy", "(Lcom/example/libphase/libphase/event/PhaseId;)Z"⟩ : MethodName)) (z := (⟨"com/example/libphase/libphase/event/PhaseId", "isCoveredBy", "(Lcom/example/libphase/libphase/event/PhaseId;)Z"⟩ : MethodName)) hown (mvT hZ (hw _ (List.mem_of_getElem? (i := 10) rfl))) (mvT hZ (hw _ (List.mem_of_getElem? (i := 11) rfl))) (notFace_of_selects (args := #[]) (mvT hZ (hw _ (List.mem_of_getElem? (i := 13) rfl)))) (mvT hZ (hw _ (List.mem_of_getElem? (i := 13) rfl))) (mvT hZ (hw _ (List.mem_of_getElem? (i := 12) rfl))) (by decide) (backOf (W := 0) (rm2_null l Z a0 hw [] wi wa h0 n0 Z0 S_a) hZ (hw _ (List.mem_of_getElem? (i := 14) rfl)) (hw _ (List.mem_of_getElem? (i := 6) rfl)) (by decide) (by decide)) q4a q4c (g := (mkF m 76 #[.val (.int p1), .val (.int p2), .val (.int (own_rem (p1 &&& (2147483647 : Int32)) (7 : Int32))), .val (.int (own_rem (p2 &&& (2147483647 : Int32)) (8 : Int32))), .val (.ref wi), .val .null, .val (.int (0 : Int32))] [.null, (.ref wi)])) rfl (by rw [hml]; rfl) (Steps.refl _) (argsL := [.null]) (rest := []) (lenOf pd_0_1 rfl) rfl (by show 2 * 0 + _ ≤ _; exact Nat.le_of_eq rfl) (hb hby at_76) (fun _ _ => ⟨rfl, e3, (by decide : 0 + 0 ≤ _), (by decide : 0 + 0 ≤ _)⟩)
  dsimp only [Pt.U, Pt.locs, Pt.cells, Pt.slots] at X4 l4 y4 z4 st4 hQ4
  subst l4 y4 z4
  obtain ⟨rfl, N4q, e4⟩ := hQ4
  have N4 := Fr.app N3 N4q
  obtain ⟨fs, hr, hrun, hended, hW, hsame⟩ := X4.leave (v := some (.int (1 : Int32))) (fun h => by rw [Bd.returns] at h; cases h)
  refine ⟨_, _, pre0 _ ?_, hrun, hended, _, _, rfl, ?_, ⟨_, rfl⟩, hW, hsame.mono (by decide) (by decide)⟩
  · show Steps p.tables e below (s₁.setTop (mkF m 0 #[.val (.int p1), .val (.int p2), .unset, .unset, .unset, .unset, .unset] [])) _
    refine XS.iloadN X0.here hx rfl (hb hby at_0) rfl ?_
    show Steps p.tables e below (s₁.setTop (mkF m 1 #[.val (.int p1), .val (.int p2), .unset, .unset, .unset, .unset, .unset] [(.int p1)])) _
    refine X0.ldcInt hx hown (mvT hZ (hw _ (List.mem_of_getElem? (i := 0) rfl))) (g := (mkF m 1 #[.val (.int p1), .val (.int p2), .unset, .unset, .unset, .unset, .unset] [(.int p1)])) rfl (hb hby at_1) _ ?_
    show Steps p.tables e below (s₁.setTop (mkF m 3 #[.val (.int p1), .val (.int p2), .unset, .unset, .unset, .unset, .unset] [(.int (2147483647 : Int32)), (.int p1)])) _
    refine XS.iand X0.here hx rfl (hb hby at_3) rfl ?_
    show Steps p.tables e below (s₁.setTop (mkF m 4 #[.val (.int p1), .val (.int p2), .unset, .unset, .unset, .unset, .unset] [(.int (p1 &&& (2147483647 : Int32)))])) _
    refine XS.bipush X0.here hx rfl (hb hby at_4) ?_
    show Steps p.tables e below (s₁.setTop (mkF m 6 #[.val (.int p1), .val (.int p2), .unset, .unset, .unset, .unset, .unset] [(.int (7 : Int32)), (.int (p1 &&& (2147483647 : Int32)))])) _
    refine XS.irem X0.here hx rfl (hb hby at_6) rfl (by decide) ?_
    show Steps p.tables e below (s₁.setTop (mkF m 7 #[.val (.int p1), .val (.int p2), .unset, .unset, .unset, .unset, .unset] [(.int (own_rem (p1 &&& (2147483647 : Int32)) (7 : Int32)))])) _
    refine XS.istoreN X0.here hx rfl (hb hby at_7) rfl (l' := #[.val (.int p1), .val (.int p2), .val (.int (own_rem (p1 &&& (2147483647 : Int32)) (7 : Int32))), .unset, .unset, .unset, .unset]) rfl ?_
    show Steps p.tables e below (s₁.setTop (mkF m 8 #[.val (.int p1), .val (.int p2), .val (.int (own_rem (p1 &&& (2147483647 : Int32)) (7 : Int32))), .unset, .unset, .unset, .unset] [])) _
    refine XS.iloadN X0.here hx rfl (hb hby at_8) rfl ?_
    show Steps p.tables e below (s₁.setTop (mkF m 9 #[.val (.int p1), .val (.int p2), .val (.int (own_rem (p1 &&& (2147483647 : Int32)) (7 : Int32))), .unset, .unset, .unset, .unset] [(.int p2)])) _
    refine X0.ldcInt hx hown (mvT hZ (hw _ (List.mem_of_getElem? (i := 0) rfl))) (g := (mkF m 9 #[.val (.int p1), .val (.int p2), .val (.int (own_rem (p1 &&& (2147483647 : Int32)) (7 : Int32))), .unset, .unset, .unset, .unset] [(.int p2)])) rfl (hb hby at_9) _ ?_
    show Steps p.tables e below (s₁.setTop (mkF m 11 #[.val (.int p1), .val (.int p2), .val (.int (own_rem (p1 &&& (2147483647 : Int32)) (7 : Int32))), .unset, .unset, .unset, .unset] [(.int (2147483647 : Int32)), (.int p2)])) _
    refine XS.iand X0.here hx rfl (hb hby at_11) rfl ?_
    show Steps p.tables e below (s₁.setTop (mkF m 12 #[.val (.int p1), .val (.int p2), .val (.int (own_rem (p1 &&& (2147483647 : Int32)) (7 : Int32))), .unset, .unset, .unset, .unset] [(.int (p2 &&& (2147483647 : Int32)))])) _
    refine XS.bipush X0.here hx rfl (hb hby at_12) ?_
    show Steps p.tables e below (s₁.setTop (mkF m 14 #[.val (.int p1), .val (.int p2), .val (.int (own_rem (p1 &&& (2147483647 : Int32)) (7 : Int32))), .unset, .unset, .unset, .unset] [(.int (8 : Int32)), (.int (p2 &&& (2147483647 : Int32)))])) _
    refine XS.irem X0.here hx rfl (hb hby at_14) rfl (by decide) ?_
    show Steps p.tables e below (s₁.setTop (mkF m 15 #[.val (.int p1), .val (.int p2), .val (.int (own_rem (p1 &&& (2147483647 : Int32)) (7 : Int32))), .unset, .unset, .unset, .unset] [(.int (own_rem (p2 &&& (2147483647 : Int32)) (8 : Int32)))])) _
    refine XS.istoreN X0.here hx rfl (hb hby at_15) rfl (l' := #[.val (.int p1), .val (.int p2), .val (.int (own_rem (p1 &&& (2147483647 : Int32)) (7 : Int32))), .val (.int (own_rem (p2 &&& (2147483647 : Int32)) (8 : Int32))), .unset, .unset, .unset]) rfl ?_
    show Steps p.tables e below (s₁.setTop (mkF m 16 #[.val (.int p1), .val (.int p2), .val (.int (own_rem (p1 &&& (2147483647 : Int32)) (7 : Int32))), .val (.int (own_rem (p2 &&& (2147483647 : Int32)) (8 : Int32))), .unset, .unset, .unset] [])) _
    refine XS.iloadN X0.here hx rfl (hb hby at_16) rfl ?_
    show Steps p.tables e below (s₁.setTop (mkF m 17 #[.val (.int p1), .val (.int p2), .val (.int (own_rem (p1 &&& (2147483647 : Int32)) (7 : Int32))), .val (.int (own_rem (p2 &&& (2147483647 : Int32)) (8 : Int32))), .unset, .unset, .unset] [(.int (own_rem (p1 &&& (2147483647 : Int32)) (7 : Int32)))])) _
    refine st3 _ ?_
    show Steps p.tables e below (T3.setTop (mkF m 20 #[.val (.int p1), .val (.int p2), .val (.int (own_rem (p1 &&& (2147483647 : Int32)) (7 : Int32))), .val (.int (own_rem (p2 &&& (2147483647 : Int32)) (8 : Int32))), .unset, .unset, .unset] [(.ref wi)])) _
    refine XS.astore X3.here hx rfl (hb hby at_20) rfl rfl (l' := #[.val (.int p1), .val (.int p2), .val (.int (own_rem (p1 &&& (2147483647 : Int32)) (7 : Int32))), .val (.int (own_rem (p2 &&& (2147483647 : Int32)) (8 : Int32))), .val (.ref wi), .unset, .unset]) rfl ?_
    show Steps p.tables e below (T3.setTop (mkF m 22 #[.val (.int p1), .val (.int p2), .val (.int (own_rem (p1 &&& (2147483647 : Int32)) (7 : Int32))), .val (.int (own_rem (p2 &&& (2147483647 : Int32)) (8 : Int32))), .val (.ref wi), .unset, .unset] [])) _
    refine XS.iloadN X3.here hx rfl (hb hby at_22) rfl ?_
    show Steps p.tables e below (T3.setTop (mkF m 23 #[.val (.int p1), .val (.int p2), .val (.int (own_rem (p1 &&& (2147483647 : Int32)) (7 : Int32))), .val (.int (own_rem (p2 &&& (2147483647 : Int32)) (8 : Int32))), .val (.ref wi), .unset, .unset] [(.int (own_rem (p2 &&& (2147483647 : Int32)) (8 : Int32)))])) _
    refine XS.bipush X3.here hx rfl (hb hby at_23) ?_
    show Steps p.tables e below (T3.setTop (mkF m 25 #[.val (.int p1), .val (.int p2), .val (.int (own_rem (p1 &&& (2147483647 : Int32)) (7 : Int32))), .val (.int (own_rem (p2 &&& (2147483647 : Int32)) (8 : Int32))), .val (.ref wi), .unset, .unset] [(.int (7 : Int32)), (.int (own_rem (p2 &&& (2147483647 : Int32)) (8 : Int32)))])) _
    refine XS.icmpNo X3.here hx rfl (hb hby at_25) rfl (teq hc25).2 ?_
    show Steps p.tables e below (T3.setTop (mkF m 28 #[.val (.int p1), .val (.int p2), .val (.int (own_rem (p1 &&& (2147483647 : Int32)) (7 : Int32))), .val (.int (own_rem (p2 &&& (2147483647 : Int32)) (8 : Int32))), .val (.ref wi), .unset, .unset] [])) _
    refine XS.aconstNull X3.here hx rfl (hb hby at_28) ?_
    show Steps p.tables e below (T3.setTop (mkF m 29 #[.val (.int p1), .val (.int p2), .val (.int (own_rem (p1 &&& (2147483647 : Int32)) (7 : Int32))), .val (.int (own_rem (p2 &&& (2147483647 : Int32)) (8 : Int32))), .val (.ref wi), .unset, .unset] [.null])) _
    refine XS.goto X3.here hx rfl (pc0 := 29) (pc' := 36) rfl (hb hby at_29) (by decide) (by decide) ?_
    show Steps p.tables e below (T3.setTop (mkF m 36 #[.val (.int p1), .val (.int p2), .val (.int (own_rem (p1 &&& (2147483647 : Int32)) (7 : Int32))), .val (.int (own_rem (p2 &&& (2147483647 : Int32)) (8 : Int32))), .val (.ref wi), .unset, .unset] [.null])) _
    refine XS.astore X3.here hx rfl (hb hby at_36) rfl rfl (l' := #[.val (.int p1), .val (.int p2), .val (.int (own_rem (p1 &&& (2147483647 : Int32)) (7 : Int32))), .val (.int (own_rem (p2 &&& (2147483647 : Int32)) (8 : Int32))), .val (.ref wi), .val .null, .unset]) rfl ?_
    show Steps p.tables e below (T3.setTop (mkF m 38 #[.val (.int p1), .val (.int p2), .val (.int (own_rem (p1 &&& (2147483647 : Int32)) (7 : Int32))), .val (.int (own_rem (p2 &&& (2147483647 : Int32)) (8 : Int32))), .val (.ref wi), .val .null, .unset] [])) _
    refine XS.iloadN X3.here hx rfl (hb hby at_38) rfl ?_
    show Steps p.tables e below (T3.setTop (mkF m 39 #[.val (.int p1), .val (.int p2), .val (.int (own_rem (p1 &&& (2147483647 : Int32)) (7 : Int32))), .val (.int (own_rem (p2 &&& (2147483647 : Int32)) (8 : Int32))), .val (.ref wi), .val .null, .unset] [(.int (own_rem (p2 &&& (2147483647 : Int32)) (8 : Int32)))])) _
    refine XS.bipush X3.here hx rfl (hb hby at_39) ?_
    show Steps p.tables e below (T3.setTop (mkF m 41 #[.val (.int p1), .val (.int p2), .val (.int (own_rem (p1 &&& (2147483647 : Int32)) (7 : Int32))), .val (.int (own_rem (p2 &&& (2147483647 : Int32)) (8 : Int32))), .val (.ref wi), .val .null, .unset] [(.int (7 : Int32)), (.int (own_rem (p2 &&& (2147483647 : Int32)) (8 : Int32)))])) _
    refine XS.icmpNo X3.here hx rfl (hb hby at_41) rfl (teq hc41).2 ?_
    show Steps p.tables e below (T3.setTop (mkF m 44 #[.val (.int p1), .val (.int p2), .val (.int (own_rem (p1 &&& (2147483647 : Int32)) (7 : Int32))), .val (.int (own_rem (p2 &&& (2147483647 : Int32)) (8 : Int32))), .val (.ref wi), .val .null, .unset] [])) _
    refine XS.iconst X3.here hx rfl (hb hby at_44) ?_
    show Steps p.tables e below (T3.setTop (mkF m 45 #[.val (.int p1), .val (.int p2), .val (.int (own_rem (p1 &&& (2147483647 : Int32)) (7 : Int32))), .val (.int (own_rem (p2 &&& (2147483647 : Int32)) (8 : Int32))), .val (.ref wi), .val .null, .unset] [(.int (0 : Int32))])) _
    refine XS.istore X3.here hx rfl (hb hby at_45) rfl (l' := #[.val (.int p1), .val (.int p2), .val (.int (own_rem (p1 &&& (2147483647 : Int32)) (7 : Int32))), .val (.int (own_rem (p2 &&& (2147483647 : Int32)) (8 : Int32))), .val (.ref wi), .val .null, .val (.int (0 : Int32))]) rfl ?_
    show Steps p.tables e below (T3.setTop (mkF m 47 #[.val (.int p1), .val (.int p2), .val (.int (own_rem (p1 &&& (2147483647 : Int32)) (7 : Int32))), .val (.int (own_rem (p2 &&& (2147483647 : Int32)) (8 : Int32))), .val (.ref wi), .val .null, .val (.int (0 : Int32))] [])) _
    refine XS.goto X3.here hx rfl (pc0 := 47) (pc' := 72) rfl (hb hby at_47) (by decide) (by decide) ?_
    show Steps p.tables e below (T3.setTop (mkF m 72 #[.val (.int p1), .val (.int p2), .val (.int (own_rem (p1 &&& (2147483647 : Int32)) (7 : Int32))), .val (.int (own_rem (p2 &&& (2147483647 : Int32)) (8 : Int32))), .val (.ref wi), .val .null, .val (.int (0 : Int32))] [])) _
    refine XS.aload X3.here hx rfl (hb hby at_72) rfl rfl ?_
    show Steps p.tables e below (T3.setTop (mkF m 74 #[.val (.int p1), .val (.int p2), .val (.int (own_rem (p1 &&& (2147483647 : Int32)) (7 : Int32))), .val (.int (own_rem (p2 &&& (2147483647 : Int32)) (8 : Int32))), .val (.ref wi), .val .null, .val (.int (0 : Int32))] [(.ref wi)])) _
    refine XS.aload X3.here hx rfl (hb hby at_74) rfl rfl ?_
    show Steps p.tables e below (T3.setTop (mkF m 76 #[.val (.int p1), .val (.int p2), .val (.int (own_rem (p1 &&& (2147483647 : Int32)) (7 : Int32))), .val (.int (own_rem (p2 &&& (2147483647 : Int32)) (8 : Int32))), .val (.ref wi), .val .null, .val (.int (0 : Int32))] [.null, (.ref wi)])) _
    refine st4.trans ?_
    show Steps p.tables e below (T4.setTop (mkF m 79 #[.val (.int p1), .val (.int p2), .val (.int (own_rem (p1 &&& (2147483647 : Int32)) (7 : Int32))), .val (.int (own_rem (p2 &&& (2147483647 : Int32)) (8 : Int32))), .val (.ref wi), .val .null, .val (.int (0 : Int32))] [(.int (0 : Int32))])) _
    refine XS.iload X4.here hx rfl (hb hby at_79) rfl ?_
    show Steps p.tables e below (T4.setTop (mkF m 81 #[.val (.int p1), .val (.int p2), .val (.int (own_rem (p1 &&& (2147483647 : Int32)) (7 : Int32))), .val (.int (own_rem (p2 &&& (2147483647 : Int32)) (8 : Int32))), .val (.ref wi), .val .null, .val (.int (0 : Int32))] [(.int (0 : Int32)), (.int (0 : Int32))])) _
    refine XS.icmpNo X4.here hx rfl (hb hby at_81) rfl (teq (rfl : (0 : Int32) = (0 : Int32))).2 ?_
    show Steps p.tables e below (T4.setTop (mkF m 84 #[.val (.int p1), .val (.int p2), .val (.int (own_rem (p1 &&& (2147483647 : Int32)) (7 : Int32))), .val (.int (own_rem (p2 &&& (2147483647 : Int32)) (8 : Int32))), .val (.ref wi), .val .null, .val (.int (0 : Int32))] [])) _
    refine XS.iconst X4.here hx rfl (hb hby at_84) ?_
    show Steps p.tables e below (T4.setTop (mkF m 85 #[.val (.int p1), .val (.int p2), .val (.int (own_rem (p1 &&& (2147483647 : Int32)) (7 : Int32))), .val (.int (own_rem (p2 &&& (2147483647 : Int32)) (8 : Int32))), .val (.ref wi), .val .null, .val (.int (0 : Int32))] [(.int (1 : Int32))])) _
    refine XS.goto X4.here hx rfl (pc0 := 85) (pc' := 89) rfl (hb hby at_85) (by decide) (by decide) ?_
    show Steps p.tables e below (T4.setTop (mkF m 89 #[.val (.int p1), .val (.int p2), .val (.int (own_rem (p1 &&& (2147483647 : Int32)) (7 : Int32))), .val (.int (own_rem (p2 &&& (2147483647 : Int32)) (8 : Int32))), .val (.ref wi), .val .null, .val (.int (0 : Int32))] [(.int (1 : Int32))])) _
    exact retN X4 hx (t := .boolean) Bd.returns (by simp) (hb hby at_89) hr
  · show Q0 Z p1 p2 h0 n0 _ T4.heap _
    exact ⟨rfl, N4⟩
set_option maxRecDepth 65536 in
set_option maxHeartbeats 40000000 in
theorem rm0_z (l : Launch) (Z : State) (a0 : Array Value) (hw : ∀ d ∈ tables_1, d.before a0 Z = true) (ws : List Jvm.Cond) (p1 : Int32) (p2 : Int32) (h0 : Heap) (n0 : Nat) (Z0 : n0 ≤ h0.size) (hc25 : ¬ ((own_rem (p2 &&& (2147483647 : Int32)) (8 : Int32)) = (7 : Int32))) (hc41 : ¬ ((own_rem (p2 &&& (2147483647 : Int32)) (8 : Int32)) = (7 : Int32))) (hc51 : (own_rem (p2 &&& (2147483647 : Int32)) (8 : Int32)) = (0 : Int32)) (wi : Addr) (wj : Addr) (wa : Addr) (E_i : Exa Z h0 wi "com/example/libphase/libphase/event/PhaseId") (S_a : Sta Z h0 "com/example/libphase/libphase/event/PhaseId" "ANY_PHASE" "Lcom/example/libphase/libphase/event/PhaseId;" (.ref wa)) (hpi : MetFree l (⟨"com/example/libphase/libphase/event/PhaseIdIsCoveredByPinLaw", "phase", "(I)Lcom/example/libphase/libphase/event/PhaseId;"⟩ : MethodName) (head1 (Jvm.Cond.code (⟨"com/example/libphase/libphase/event/PhaseIdIsCoveredByPinLaw", "phase", "(I)Lcom/example/libphase/libphase/event/PhaseId;"⟩ : MethodName) method_2_code 1 (some (.object "com/example/libphase/libphase/event/PhaseId")) :: []) ({ frames := 0, cells := 0, slots := 0, locals := 0 } : Room)) (fun a U => a = #[(.int (own_rem (p1 &&& (2147483647 : Int32)) (7 : Int32)))] ∧ Z.Warmed39 U.vm ∧ U.heap = h0) (fun _ _ _ _ _ => True) (fun _ U o U' => ∃ v L, o = .returned v ∧ Q1 Z (own_rem (p1 &&& (2147483647 : Int32)) (7 : Int32)) wi h0 n0 v U'.heap L ∧ FrameEnd U o U' L ({ frames := 0, cells := 0, slots := 0, locals := 0 } : Room).cells ({ frames := 0, cells := 0, slots := 0, locals := 0 } : Room).slots)) (hpj : MetFree l (⟨"com/example/libphase/libphase/event/PhaseIdIsCoveredByPinLaw", "phase", "(I)Lcom/example/libphase/libphase/event/PhaseId;"⟩ : MethodName) (head1 (Jvm.Cond.code (⟨"com/example/libphase/libphase/event/PhaseIdIsCoveredByPinLaw", "phase", "(I)Lcom/example/libphase/libphase/event/PhaseId;"⟩ : MethodName) method_2_code 1 (some (.object "com/example/libphase/libphase/event/PhaseId")) :: []) ({ frames := 0, cells := 0, slots := 0, locals := 0 } : Room)) (fun a U => a = #[(.int (own_rem (p2 &&& (2147483647 : Int32)) (8 : Int32)))] ∧ Z.Warmed39 U.vm ∧ U.heap = h0) (fun _ _ _ _ _ => True) (fun _ U o U' => ∃ v L, o = .returned v ∧ Q1 Z (own_rem (p2 &&& (2147483647 : Int32)) (8 : Int32)) wj h0 n0 v U'.heap L ∧ FrameEnd U o U' L ({ frames := 0, cells := 0, slots := 0, locals := 0 } : Room).cells ({ frames := 0, cells := 0, slots := 0, locals := 0 } : Room).slots)) (hja : wj = wa) :
    MetFree l x (head1 (Jvm.Cond.code x code maxLocals ret :: ws) room_1) (fun a U => a = #[(.int p1), (.int p2)] ∧ Z.Warmed39 U.vm ∧ U.heap = h0) (fun _ _ _ _ _ => True) (fun _ U o U' => ∃ v L, o = .returned v ∧ Q0 Z p1 p2 h0 n0 v U'.heap L ∧ FrameEnd U o U' L room_1.cells room_1.slots) := by
  refine MetFree.of_bodySF (plainFor_of_name pn_0) hisR ?_
  intro p e s m args below meth c s₁ Bd hml0 hP hK
  obtain ⟨rfl, hZ, hh⟩ := hP
  have hx := Bd.exec
  have hby := Bd.bytes
  have hml : c.maxLocals = 7 := hml0
  have hown : s.vm.findClass "com/example/libphase/libphase/event/PhaseIdIsCoveredByPinLaw" = some m.cls := findClass_of_methodNamed Bd.named
  have hnm := (name_of_methodNamed Bd.named Bd.method).1
  have X0 : Stand p l e room_1 s m #[(.int p1), (.int p2)] below meth c s₁ [] 0 0 := Stand.of_body Bd
  have e0 : s₁.heap = h0 := by rw [← hh, Bd.state]; rfl
  have N0 := Fr.nil n0
  have pre0 : ∀ t, Steps p.tables e below (s₁.setTop (mkF m 0 #[.val (.int p1), .val (.int p2), .unset, .unset, .unset, .unset, .unset] [])) t → Steps p.tables e below (s₁.setTop (entryFrame m #[(.int p1), (.int p2)] maxLocals)) t := fun t k => castTop (ef_0 m p1 p2) k
  -- pc 17: com/example/libphase/libphase/event/PhaseIdIsCoveredByPinLaw.phase by its contract rm1
  obtain ⟨_, _, ⟨T3, L3, k3, n3⟩, -, X3, ⟨Lc3, hQ3, l3, y3, z3⟩, st3⟩ := Jvm.LawKit.callS X0 hx (y := (⟨"com/example/libphase/libphase/event/PhaseIdIsCoveredByPinLaw", "phase", "(I)Lcom/example/libphase/libphase/event/PhaseId;"⟩ : MethodName)) hown (mvT hZ (hw _ (List.mem_of_getElem? (i := 1) rfl))) (mvT hZ (hw _ (List.mem_of_getElem? (i := 2) rfl))) (mvT hZ (hw _ (List.mem_of_getElem? (i := 3) rfl))) (mvT hZ (hw _ (List.mem_of_getElem? (i := 4) rfl))) (by decide) (backOf (W := 0) (hpi) hZ (hw _ (List.mem_of_getElem? (i := 4) rfl)) (hw _ (List.mem_of_getElem? (i := 3) rfl)) (by decide) (by decide)) (g := (mkF m 17 #[.val (.int p1), .val (.int p2), .val (.int (own_rem (p1 &&& (2147483647 : Int32)) (7 : Int32))), .val (.int (own_rem (p2 &&& (2147483647 : Int32)) (8 : Int32))), .unset, .unset, .unset] [(.int (own_rem (p1 &&& (2147483647 : Int32)) (7 : Int32)))])) rfl (by rw [hml]; rfl) (argsL := [(.int (own_rem (p1 &&& (2147483647 : Int32)) (7 : Int32)))]) (rest := []) (lenOf pd_0_0 rfl) rfl (by show 2 * 0 + _ ≤ _; exact Nat.le_of_eq rfl) (hb hby at_17) (fun _ _ => ⟨rfl, e0, (by decide : 0 + 0 ≤ _), (by decide : 0 + 0 ≤ _)⟩)
  dsimp only [Pt.U, Pt.locs, Pt.cells, Pt.slots] at X3 l3 y3 z3 st3 hQ3
  subst l3 y3 z3
  obtain ⟨rfl, N3q, e3⟩ := hQ3
  have N3 := Fr.app N0 N3q
  -- pc 33: com/example/libphase/libphase/event/PhaseIdIsCoveredByPinLaw.phase by its contract rm1
  obtain ⟨_, _, ⟨T4, L4, k4, n4⟩, -, X4, ⟨Lc4, hQ4, l4, y4, z4⟩, st4⟩ := Jvm.LawKit.callS X3 hx (y := (⟨"com/example/libphase/libphase/event/PhaseIdIsCoveredByPinLaw", "phase", "(I)Lcom/example/libphase/libphase/event/PhaseId;"⟩ : MethodName)) hown (mvT hZ (hw _ (List.mem_of_getElem? (i := 1) rfl))) (mvT hZ (hw _ (List.mem_of_getElem? (i := 2) rfl))) (mvT hZ (hw _ (List.mem_of_getElem? (i := 3) rfl))) (mvT hZ (hw _ (List.mem_of_getElem? (i := 4) rfl))) (by decide) (backOf (W := 0) (hpj) hZ (hw _ (List.mem_of_getElem? (i := 4) rfl)) (hw _ (List.mem_of_getElem? (i := 3) rfl)) (by decide) (by decide)) (g := (mkF m 33 #[.val (.int p1), .val (.int p2), .val (.int (own_rem (p1 &&& (2147483647 : Int32)) (7 : Int32))), .val (.int (own_rem (p2 &&& (2147483647 : Int32)) (8 : Int32))), .val (.ref wi), .unset, .unset] [(.int (own_rem (p2 &&& (2147483647 : Int32)) (8 : Int32)))])) rfl (by rw [hml]; rfl) (argsL := [(.int (own_rem (p2 &&& (2147483647 : Int32)) (8 : Int32)))]) (rest := []) (lenOf pd_0_0 rfl) rfl (by show 2 * 0 + _ ≤ _; exact Nat.le_of_eq rfl) (hb hby at_33) (fun _ _ => ⟨rfl, e3, (by decide : 0 + 0 ≤ _), (by decide : 0 + 0 ≤ _)⟩)
  dsimp only [Pt.U, Pt.locs, Pt.cells, Pt.slots] at X4 l4 y4 z4 st4 hQ4
  subst l4 y4 z4
  obtain ⟨rfl, N4q, e4⟩ := hQ4
  have N4 := Fr.app N3 N4q
  -- pc 76: com/example/libphase/libphase/event/PhaseId.isCoveredBy by the contract of the body that the receiver's class selects, rm2
  -- ✋ yours, out of the call's Q: E_i : Exa Z h0 wi "com/example/libphase/libphase/event/PhaseId"
  obtain ⟨cq5, kq5, q5a, q5b, q5c⟩ := isOf hZ e4 E_i
  obtain ⟨_, _, ⟨T5, L5, k5, n5⟩, -, X5, ⟨Lc5, hQ5, l5, y5, z5⟩, st5⟩ := X4.virtualBack hx (y := (⟨"com/example/libphase/libphase/event/PhaseId", "isCoveredBy", "(Lcom/example/libphase/libphase/event/PhaseId;)Z"⟩ : MethodName)) (z := (⟨"com/example/libphase/libphase/event/PhaseId", "isCoveredBy", "(Lcom/example/libphase/libphase/event/PhaseId;)Z"⟩ : MethodName)) hown (mvT hZ (hw _ (List.mem_of_getElem? (i := 10) rfl))) (mvT hZ (hw _ (List.mem_of_getElem? (i := 11) rfl))) (notFace_of_selects (args := #[]) (mvT hZ (hw _ (List.mem_of_getElem? (i := 13) rfl)))) (mvT hZ (hw _ (List.mem_of_getElem? (i := 13) rfl))) (mvT hZ (hw _ (List.mem_of_getElem? (i := 12) rfl))) (by decide) (backOf (W := 0) (rm2_t l Z a0 hw [] wi wj wa h0 n0 Z0 S_a hja) hZ (hw _ (List.mem_of_getElem? (i := 14) rfl)) (hw _ (List.mem_of_getElem? (i := 6) rfl)) (by decide) (by decide)) q5a q5c (g := (mkF m 76 #[.val (.int p1), .val (.int p2), .val (.int (own_rem (p1 &&& (2147483647 : Int32)) (7 : Int32))), .val (.int (own_rem (p2 &&& (2147483647 : Int32)) (8 : Int32))), .val (.ref wi), .val (.ref wj), .val (.int (1 : Int32))] [(.ref wj), (.ref wi)])) rfl (by rw [hml]; rfl) (Steps.refl _) (argsL := [(.ref wj)]) (rest := []) (lenOf pd_0_1 rfl) rfl (by show 2 * 0 + _ ≤ _; exact Nat.le_of_eq rfl) (hb hby at_76) (fun _ _ => ⟨rfl, e4, (by decide : 0 + 0 ≤ _), (by decide : 0 + 0 ≤ _)⟩)
  dsimp only [Pt.U, Pt.locs, Pt.cells, Pt.slots] at X5 l5 y5 z5 st5 hQ5
  subst l5 y5 z5
  obtain ⟨rfl, N5q, e5⟩ := hQ5
  have N5 := Fr.app N4 N5q
  obtain ⟨fs, hr, hrun, hended, hW, hsame⟩ := X5.leave (v := some (.int (1 : Int32))) (fun h => by rw [Bd.returns] at h; cases h)
  refine ⟨_, _, pre0 _ ?_, hrun, hended, _, _, rfl, ?_, ⟨_, rfl⟩, hW, hsame.mono (by decide) (by decide)⟩
  · show Steps p.tables e below (s₁.setTop (mkF m 0 #[.val (.int p1), .val (.int p2), .unset, .unset, .unset, .unset, .unset] [])) _
    refine XS.iloadN X0.here hx rfl (hb hby at_0) rfl ?_
    show Steps p.tables e below (s₁.setTop (mkF m 1 #[.val (.int p1), .val (.int p2), .unset, .unset, .unset, .unset, .unset] [(.int p1)])) _
    refine X0.ldcInt hx hown (mvT hZ (hw _ (List.mem_of_getElem? (i := 0) rfl))) (g := (mkF m 1 #[.val (.int p1), .val (.int p2), .unset, .unset, .unset, .unset, .unset] [(.int p1)])) rfl (hb hby at_1) _ ?_
    show Steps p.tables e below (s₁.setTop (mkF m 3 #[.val (.int p1), .val (.int p2), .unset, .unset, .unset, .unset, .unset] [(.int (2147483647 : Int32)), (.int p1)])) _
    refine XS.iand X0.here hx rfl (hb hby at_3) rfl ?_
    show Steps p.tables e below (s₁.setTop (mkF m 4 #[.val (.int p1), .val (.int p2), .unset, .unset, .unset, .unset, .unset] [(.int (p1 &&& (2147483647 : Int32)))])) _
    refine XS.bipush X0.here hx rfl (hb hby at_4) ?_
    show Steps p.tables e below (s₁.setTop (mkF m 6 #[.val (.int p1), .val (.int p2), .unset, .unset, .unset, .unset, .unset] [(.int (7 : Int32)), (.int (p1 &&& (2147483647 : Int32)))])) _
    refine XS.irem X0.here hx rfl (hb hby at_6) rfl (by decide) ?_
    show Steps p.tables e below (s₁.setTop (mkF m 7 #[.val (.int p1), .val (.int p2), .unset, .unset, .unset, .unset, .unset] [(.int (own_rem (p1 &&& (2147483647 : Int32)) (7 : Int32)))])) _
    refine XS.istoreN X0.here hx rfl (hb hby at_7) rfl (l' := #[.val (.int p1), .val (.int p2), .val (.int (own_rem (p1 &&& (2147483647 : Int32)) (7 : Int32))), .unset, .unset, .unset, .unset]) rfl ?_
    show Steps p.tables e below (s₁.setTop (mkF m 8 #[.val (.int p1), .val (.int p2), .val (.int (own_rem (p1 &&& (2147483647 : Int32)) (7 : Int32))), .unset, .unset, .unset, .unset] [])) _
    refine XS.iloadN X0.here hx rfl (hb hby at_8) rfl ?_
    show Steps p.tables e below (s₁.setTop (mkF m 9 #[.val (.int p1), .val (.int p2), .val (.int (own_rem (p1 &&& (2147483647 : Int32)) (7 : Int32))), .unset, .unset, .unset, .unset] [(.int p2)])) _
    refine X0.ldcInt hx hown (mvT hZ (hw _ (List.mem_of_getElem? (i := 0) rfl))) (g := (mkF m 9 #[.val (.int p1), .val (.int p2), .val (.int (own_rem (p1 &&& (2147483647 : Int32)) (7 : Int32))), .unset, .unset, .unset, .unset] [(.int p2)])) rfl (hb hby at_9) _ ?_
    show Steps p.tables e below (s₁.setTop (mkF m 11 #[.val (.int p1), .val (.int p2), .val (.int (own_rem (p1 &&& (2147483647 : Int32)) (7 : Int32))), .unset, .unset, .unset, .unset] [(.int (2147483647 : Int32)), (.int p2)])) _
    refine XS.iand X0.here hx rfl (hb hby at_11) rfl ?_
    show Steps p.tables e below (s₁.setTop (mkF m 12 #[.val (.int p1), .val (.int p2), .val (.int (own_rem (p1 &&& (2147483647 : Int32)) (7 : Int32))), .unset, .unset, .unset, .unset] [(.int (p2 &&& (2147483647 : Int32)))])) _
    refine XS.bipush X0.here hx rfl (hb hby at_12) ?_
    show Steps p.tables e below (s₁.setTop (mkF m 14 #[.val (.int p1), .val (.int p2), .val (.int (own_rem (p1 &&& (2147483647 : Int32)) (7 : Int32))), .unset, .unset, .unset, .unset] [(.int (8 : Int32)), (.int (p2 &&& (2147483647 : Int32)))])) _
    refine XS.irem X0.here hx rfl (hb hby at_14) rfl (by decide) ?_
    show Steps p.tables e below (s₁.setTop (mkF m 15 #[.val (.int p1), .val (.int p2), .val (.int (own_rem (p1 &&& (2147483647 : Int32)) (7 : Int32))), .unset, .unset, .unset, .unset] [(.int (own_rem (p2 &&& (2147483647 : Int32)) (8 : Int32)))])) _
    refine XS.istoreN X0.here hx rfl (hb hby at_15) rfl (l' := #[.val (.int p1), .val (.int p2), .val (.int (own_rem (p1 &&& (2147483647 : Int32)) (7 : Int32))), .val (.int (own_rem (p2 &&& (2147483647 : Int32)) (8 : Int32))), .unset, .unset, .unset]) rfl ?_
    show Steps p.tables e below (s₁.setTop (mkF m 16 #[.val (.int p1), .val (.int p2), .val (.int (own_rem (p1 &&& (2147483647 : Int32)) (7 : Int32))), .val (.int (own_rem (p2 &&& (2147483647 : Int32)) (8 : Int32))), .unset, .unset, .unset] [])) _
    refine XS.iloadN X0.here hx rfl (hb hby at_16) rfl ?_
    show Steps p.tables e below (s₁.setTop (mkF m 17 #[.val (.int p1), .val (.int p2), .val (.int (own_rem (p1 &&& (2147483647 : Int32)) (7 : Int32))), .val (.int (own_rem (p2 &&& (2147483647 : Int32)) (8 : Int32))), .unset, .unset, .unset] [(.int (own_rem (p1 &&& (2147483647 : Int32)) (7 : Int32)))])) _
    refine st3 _ ?_
    show Steps p.tables e below (T3.setTop (mkF m 20 #[.val (.int p1), .val (.int p2), .val (.int (own_rem (p1 &&& (2147483647 : Int32)) (7 : Int32))), .val (.int (own_rem (p2 &&& (2147483647 : Int32)) (8 : Int32))), .unset, .unset, .unset] [(.ref wi)])) _
    refine XS.astore X3.here hx rfl (hb hby at_20) rfl rfl (l' := #[.val (.int p1), .val (.int p2), .val (.int (own_rem (p1 &&& (2147483647 : Int32)) (7 : Int32))), .val (.int (own_rem (p2 &&& (2147483647 : Int32)) (8 : Int32))), .val (.ref wi), .unset, .unset]) rfl ?_
    show Steps p.tables e below (T3.setTop (mkF m 22 #[.val (.int p1), .val (.int p2), .val (.int (own_rem (p1 &&& (2147483647 : Int32)) (7 : Int32))), .val (.int (own_rem (p2 &&& (2147483647 : Int32)) (8 : Int32))), .val (.ref wi), .unset, .unset] [])) _
    refine XS.iloadN X3.here hx rfl (hb hby at_22) rfl ?_
    show Steps p.tables e below (T3.setTop (mkF m 23 #[.val (.int p1), .val (.int p2), .val (.int (own_rem (p1 &&& (2147483647 : Int32)) (7 : Int32))), .val (.int (own_rem (p2 &&& (2147483647 : Int32)) (8 : Int32))), .val (.ref wi), .unset, .unset] [(.int (own_rem (p2 &&& (2147483647 : Int32)) (8 : Int32)))])) _
    refine XS.bipush X3.here hx rfl (hb hby at_23) ?_
    show Steps p.tables e below (T3.setTop (mkF m 25 #[.val (.int p1), .val (.int p2), .val (.int (own_rem (p1 &&& (2147483647 : Int32)) (7 : Int32))), .val (.int (own_rem (p2 &&& (2147483647 : Int32)) (8 : Int32))), .val (.ref wi), .unset, .unset] [(.int (7 : Int32)), (.int (own_rem (p2 &&& (2147483647 : Int32)) (8 : Int32)))])) _
    refine XS.icmpYes X3.here hx rfl (pc0 := 25) (pc' := 32) rfl (hb hby at_25) rfl (feq hc25).2 (by decide) (by decide) ?_
    show Steps p.tables e below (T3.setTop (mkF m 32 #[.val (.int p1), .val (.int p2), .val (.int (own_rem (p1 &&& (2147483647 : Int32)) (7 : Int32))), .val (.int (own_rem (p2 &&& (2147483647 : Int32)) (8 : Int32))), .val (.ref wi), .unset, .unset] [])) _
    refine XS.iloadN X3.here hx rfl (hb hby at_32) rfl ?_
    show Steps p.tables e below (T3.setTop (mkF m 33 #[.val (.int p1), .val (.int p2), .val (.int (own_rem (p1 &&& (2147483647 : Int32)) (7 : Int32))), .val (.int (own_rem (p2 &&& (2147483647 : Int32)) (8 : Int32))), .val (.ref wi), .unset, .unset] [(.int (own_rem (p2 &&& (2147483647 : Int32)) (8 : Int32)))])) _
    refine st4 _ ?_
    show Steps p.tables e below (T4.setTop (mkF m 36 #[.val (.int p1), .val (.int p2), .val (.int (own_rem (p1 &&& (2147483647 : Int32)) (7 : Int32))), .val (.int (own_rem (p2 &&& (2147483647 : Int32)) (8 : Int32))), .val (.ref wi), .unset, .unset] [(.ref wj)])) _
    refine XS.astore X4.here hx rfl (hb hby at_36) rfl rfl (l' := #[.val (.int p1), .val (.int p2), .val (.int (own_rem (p1 &&& (2147483647 : Int32)) (7 : Int32))), .val (.int (own_rem (p2 &&& (2147483647 : Int32)) (8 : Int32))), .val (.ref wi), .val (.ref wj), .unset]) rfl ?_
    show Steps p.tables e below (T4.setTop (mkF m 38 #[.val (.int p1), .val (.int p2), .val (.int (own_rem (p1 &&& (2147483647 : Int32)) (7 : Int32))), .val (.int (own_rem (p2 &&& (2147483647 : Int32)) (8 : Int32))), .val (.ref wi), .val (.ref wj), .unset] [])) _
    refine XS.iloadN X4.here hx rfl (hb hby at_38) rfl ?_
    show Steps p.tables e below (T4.setTop (mkF m 39 #[.val (.int p1), .val (.int p2), .val (.int (own_rem (p1 &&& (2147483647 : Int32)) (7 : Int32))), .val (.int (own_rem (p2 &&& (2147483647 : Int32)) (8 : Int32))), .val (.ref wi), .val (.ref wj), .unset] [(.int (own_rem (p2 &&& (2147483647 : Int32)) (8 : Int32)))])) _
    refine XS.bipush X4.here hx rfl (hb hby at_39) ?_
    show Steps p.tables e below (T4.setTop (mkF m 41 #[.val (.int p1), .val (.int p2), .val (.int (own_rem (p1 &&& (2147483647 : Int32)) (7 : Int32))), .val (.int (own_rem (p2 &&& (2147483647 : Int32)) (8 : Int32))), .val (.ref wi), .val (.ref wj), .unset] [(.int (7 : Int32)), (.int (own_rem (p2 &&& (2147483647 : Int32)) (8 : Int32)))])) _
    refine XS.icmpYes X4.here hx rfl (pc0 := 41) (pc' := 50) rfl (hb hby at_41) rfl (feq hc41).2 (by decide) (by decide) ?_
    show Steps p.tables e below (T4.setTop (mkF m 50 #[.val (.int p1), .val (.int p2), .val (.int (own_rem (p1 &&& (2147483647 : Int32)) (7 : Int32))), .val (.int (own_rem (p2 &&& (2147483647 : Int32)) (8 : Int32))), .val (.ref wi), .val (.ref wj), .unset] [])) _
    refine XS.iloadN X4.here hx rfl (hb hby at_50) rfl ?_
    show Steps p.tables e below (T4.setTop (mkF m 51 #[.val (.int p1), .val (.int p2), .val (.int (own_rem (p1 &&& (2147483647 : Int32)) (7 : Int32))), .val (.int (own_rem (p2 &&& (2147483647 : Int32)) (8 : Int32))), .val (.ref wi), .val (.ref wj), .unset] [(.int (own_rem (p2 &&& (2147483647 : Int32)) (8 : Int32)))])) _
    refine XS.ifNo X4.here hx rfl (hb hby at_51) rfl ((if0 _ _).trans (teq hc51).2) ?_
    show Steps p.tables e below (T4.setTop (mkF m 54 #[.val (.int p1), .val (.int p2), .val (.int (own_rem (p1 &&& (2147483647 : Int32)) (7 : Int32))), .val (.int (own_rem (p2 &&& (2147483647 : Int32)) (8 : Int32))), .val (.ref wi), .val (.ref wj), .unset] [])) _
    refine XS.iconst X4.here hx rfl (hb hby at_54) ?_
    show Steps p.tables e below (T4.setTop (mkF m 55 #[.val (.int p1), .val (.int p2), .val (.int (own_rem (p1 &&& (2147483647 : Int32)) (7 : Int32))), .val (.int (own_rem (p2 &&& (2147483647 : Int32)) (8 : Int32))), .val (.ref wi), .val (.ref wj), .unset] [(.int (1 : Int32))])) _
    refine XS.istore X4.here hx rfl (hb hby at_55) rfl (l' := #[.val (.int p1), .val (.int p2), .val (.int (own_rem (p1 &&& (2147483647 : Int32)) (7 : Int32))), .val (.int (own_rem (p2 &&& (2147483647 : Int32)) (8 : Int32))), .val (.ref wi), .val (.ref wj), .val (.int (1 : Int32))]) rfl ?_
    show Steps p.tables e below (T4.setTop (mkF m 57 #[.val (.int p1), .val (.int p2), .val (.int (own_rem (p1 &&& (2147483647 : Int32)) (7 : Int32))), .val (.int (own_rem (p2 &&& (2147483647 : Int32)) (8 : Int32))), .val (.ref wi), .val (.ref wj), .val (.int (1 : Int32))] [])) _
    refine XS.goto X4.here hx rfl (pc0 := 57) (pc' := 72) rfl (hb hby at_57) (by decide) (by decide) ?_
    show Steps p.tables e below (T4.setTop (mkF m 72 #[.val (.int p1), .val (.int p2), .val (.int (own_rem (p1 &&& (2147483647 : Int32)) (7 : Int32))), .val (.int (own_rem (p2 &&& (2147483647 : Int32)) (8 : Int32))), .val (.ref wi), .val (.ref wj), .val (.int (1 : Int32))] [])) _
    refine XS.aload X4.here hx rfl (hb hby at_72) rfl rfl ?_
    show Steps p.tables e below (T4.setTop (mkF m 74 #[.val (.int p1), .val (.int p2), .val (.int (own_rem (p1 &&& (2147483647 : Int32)) (7 : Int32))), .val (.int (own_rem (p2 &&& (2147483647 : Int32)) (8 : Int32))), .val (.ref wi), .val (.ref wj), .val (.int (1 : Int32))] [(.ref wi)])) _
    refine XS.aload X4.here hx rfl (hb hby at_74) rfl rfl ?_
    show Steps p.tables e below (T4.setTop (mkF m 76 #[.val (.int p1), .val (.int p2), .val (.int (own_rem (p1 &&& (2147483647 : Int32)) (7 : Int32))), .val (.int (own_rem (p2 &&& (2147483647 : Int32)) (8 : Int32))), .val (.ref wi), .val (.ref wj), .val (.int (1 : Int32))] [(.ref wj), (.ref wi)])) _
    refine st5.trans ?_
    show Steps p.tables e below (T5.setTop (mkF m 79 #[.val (.int p1), .val (.int p2), .val (.int (own_rem (p1 &&& (2147483647 : Int32)) (7 : Int32))), .val (.int (own_rem (p2 &&& (2147483647 : Int32)) (8 : Int32))), .val (.ref wi), .val (.ref wj), .val (.int (1 : Int32))] [(.int (1 : Int32))])) _
    refine XS.iload X5.here hx rfl (hb hby at_79) rfl ?_
    show Steps p.tables e below (T5.setTop (mkF m 81 #[.val (.int p1), .val (.int p2), .val (.int (own_rem (p1 &&& (2147483647 : Int32)) (7 : Int32))), .val (.int (own_rem (p2 &&& (2147483647 : Int32)) (8 : Int32))), .val (.ref wi), .val (.ref wj), .val (.int (1 : Int32))] [(.int (1 : Int32)), (.int (1 : Int32))])) _
    refine XS.icmpNo X5.here hx rfl (hb hby at_81) rfl (teq (rfl : (1 : Int32) = (1 : Int32))).2 ?_
    show Steps p.tables e below (T5.setTop (mkF m 84 #[.val (.int p1), .val (.int p2), .val (.int (own_rem (p1 &&& (2147483647 : Int32)) (7 : Int32))), .val (.int (own_rem (p2 &&& (2147483647 : Int32)) (8 : Int32))), .val (.ref wi), .val (.ref wj), .val (.int (1 : Int32))] [])) _
    refine XS.iconst X5.here hx rfl (hb hby at_84) ?_
    show Steps p.tables e below (T5.setTop (mkF m 85 #[.val (.int p1), .val (.int p2), .val (.int (own_rem (p1 &&& (2147483647 : Int32)) (7 : Int32))), .val (.int (own_rem (p2 &&& (2147483647 : Int32)) (8 : Int32))), .val (.ref wi), .val (.ref wj), .val (.int (1 : Int32))] [(.int (1 : Int32))])) _
    refine XS.goto X5.here hx rfl (pc0 := 85) (pc' := 89) rfl (hb hby at_85) (by decide) (by decide) ?_
    show Steps p.tables e below (T5.setTop (mkF m 89 #[.val (.int p1), .val (.int p2), .val (.int (own_rem (p1 &&& (2147483647 : Int32)) (7 : Int32))), .val (.int (own_rem (p2 &&& (2147483647 : Int32)) (8 : Int32))), .val (.ref wi), .val (.ref wj), .val (.int (1 : Int32))] [(.int (1 : Int32))])) _
    exact retN X5 hx (t := .boolean) Bd.returns (by simp) (hb hby at_89) hr
  · show Q0 Z p1 p2 h0 n0 _ T5.heap _
    exact ⟨rfl, N5⟩
set_option maxRecDepth 65536 in
set_option maxHeartbeats 40000000 in
theorem rm0_e (l : Launch) (Z : State) (a0 : Array Value) (hw : ∀ d ∈ tables_1, d.before a0 Z = true) (ws : List Jvm.Cond) (p1 : Int32) (p2 : Int32) (h0 : Heap) (n0 : Nat) (Z0 : n0 ≤ h0.size) (hc25 : ¬ ((own_rem (p2 &&& (2147483647 : Int32)) (8 : Int32)) = (7 : Int32))) (hc41 : ¬ ((own_rem (p2 &&& (2147483647 : Int32)) (8 : Int32)) = (7 : Int32))) (hc51 : ¬ ((own_rem (p2 &&& (2147483647 : Int32)) (8 : Int32)) = (0 : Int32))) (hc62 : (own_rem (p2 &&& (2147483647 : Int32)) (8 : Int32)) = (own_rem (p1 &&& (2147483647 : Int32)) (7 : Int32))) (wi : Addr) (wj : Addr) (wa : Addr) (E_i : Exa Z h0 wi "com/example/libphase/libphase/event/PhaseId") (S_a : Sta Z h0 "com/example/libphase/libphase/event/PhaseId" "ANY_PHASE" "Lcom/example/libphase/libphase/event/PhaseId;" (.ref wa)) (hpi : MetFree l (⟨"com/example/libphase/libphase/event/PhaseIdIsCoveredByPinLaw", "phase", "(I)Lcom/example/libphase/libphase/event/PhaseId;"⟩ : MethodName) (head1 (Jvm.Cond.code (⟨"com/example/libphase/libphase/event/PhaseIdIsCoveredByPinLaw", "phase", "(I)Lcom/example/libphase/libphase/event/PhaseId;"⟩ : MethodName) method_2_code 1 (some (.object "com/example/libphase/libphase/event/PhaseId")) :: []) ({ frames := 0, cells := 0, slots := 0, locals := 0 } : Room)) (fun a U => a = #[(.int (own_rem (p1 &&& (2147483647 : Int32)) (7 : Int32)))] ∧ Z.Warmed39 U.vm ∧ U.heap = h0) (fun _ _ _ _ _ => True) (fun _ U o U' => ∃ v L, o = .returned v ∧ Q1 Z (own_rem (p1 &&& (2147483647 : Int32)) (7 : Int32)) wi h0 n0 v U'.heap L ∧ FrameEnd U o U' L ({ frames := 0, cells := 0, slots := 0, locals := 0 } : Room).cells ({ frames := 0, cells := 0, slots := 0, locals := 0 } : Room).slots)) (hpj : MetFree l (⟨"com/example/libphase/libphase/event/PhaseIdIsCoveredByPinLaw", "phase", "(I)Lcom/example/libphase/libphase/event/PhaseId;"⟩ : MethodName) (head1 (Jvm.Cond.code (⟨"com/example/libphase/libphase/event/PhaseIdIsCoveredByPinLaw", "phase", "(I)Lcom/example/libphase/libphase/event/PhaseId;"⟩ : MethodName) method_2_code 1 (some (.object "com/example/libphase/libphase/event/PhaseId")) :: []) ({ frames := 0, cells := 0, slots := 0, locals := 0 } : Room)) (fun a U => a = #[(.int (own_rem (p2 &&& (2147483647 : Int32)) (8 : Int32)))] ∧ Z.Warmed39 U.vm ∧ U.heap = h0) (fun _ _ _ _ _ => True) (fun _ U o U' => ∃ v L, o = .returned v ∧ Q1 Z (own_rem (p2 &&& (2147483647 : Int32)) (8 : Int32)) wj h0 n0 v U'.heap L ∧ FrameEnd U o U' L ({ frames := 0, cells := 0, slots := 0, locals := 0 } : Room).cells ({ frames := 0, cells := 0, slots := 0, locals := 0 } : Room).slots)) (hja : ¬ (wj = wa)) (hji : wj = wi) :
    MetFree l x (head1 (Jvm.Cond.code x code maxLocals ret :: ws) room_1) (fun a U => a = #[(.int p1), (.int p2)] ∧ Z.Warmed39 U.vm ∧ U.heap = h0) (fun _ _ _ _ _ => True) (fun _ U o U' => ∃ v L, o = .returned v ∧ Q0 Z p1 p2 h0 n0 v U'.heap L ∧ FrameEnd U o U' L room_1.cells room_1.slots) := by
  refine MetFree.of_bodySF (plainFor_of_name pn_0) hisR ?_
  intro p e s m args below meth c s₁ Bd hml0 hP hK
  obtain ⟨rfl, hZ, hh⟩ := hP
  have hx := Bd.exec
  have hby := Bd.bytes
  have hml : c.maxLocals = 7 := hml0
  have hown : s.vm.findClass "com/example/libphase/libphase/event/PhaseIdIsCoveredByPinLaw" = some m.cls := findClass_of_methodNamed Bd.named
  have hnm := (name_of_methodNamed Bd.named Bd.method).1
  have X0 : Stand p l e room_1 s m #[(.int p1), (.int p2)] below meth c s₁ [] 0 0 := Stand.of_body Bd
  have e0 : s₁.heap = h0 := by rw [← hh, Bd.state]; rfl
  have N0 := Fr.nil n0
  have pre0 : ∀ t, Steps p.tables e below (s₁.setTop (mkF m 0 #[.val (.int p1), .val (.int p2), .unset, .unset, .unset, .unset, .unset] [])) t → Steps p.tables e below (s₁.setTop (entryFrame m #[(.int p1), (.int p2)] maxLocals)) t := fun t k => castTop (ef_0 m p1 p2) k
  -- pc 17: com/example/libphase/libphase/event/PhaseIdIsCoveredByPinLaw.phase by its contract rm1
  obtain ⟨_, _, ⟨T3, L3, k3, n3⟩, -, X3, ⟨Lc3, hQ3, l3, y3, z3⟩, st3⟩ := Jvm.LawKit.callS X0 hx (y := (⟨"com/example/libphase/libphase/event/PhaseIdIsCoveredByPinLaw", "phase", "(I)Lcom/example/libphase/libphase/event/PhaseId;"⟩ : MethodName)) hown (mvT hZ (hw _ (List.mem_of_getElem? (i := 1) rfl))) (mvT hZ (hw _ (List.mem_of_getElem? (i := 2) rfl))) (mvT hZ (hw _ (List.mem_of_getElem? (i := 3) rfl))) (mvT hZ (hw _ (List.mem_of_getElem? (i := 4) rfl))) (by decide) (backOf (W := 0) (hpi) hZ (hw _ (List.mem_of_getElem? (i := 4) rfl)) (hw _ (List.mem_of_getElem? (i := 3) rfl)) (by decide) (by decide)) (g := (mkF m 17 #[.val (.int p1), .val (.int p2), .val (.int (own_rem (p1 &&& (2147483647 : Int32)) (7 : Int32))), .val (.int (own_rem (p2 &&& (2147483647 : Int32)) (8 : Int32))), .unset, .unset, .unset] [(.int (own_rem (p1 &&& (2147483647 : Int32)) (7 : Int32)))])) rfl (by rw [hml]; rfl) (argsL := [(.int (own_rem (p1 &&& (2147483647 : Int32)) (7 : Int32)))]) (rest := []) (lenOf pd_0_0 rfl) rfl (by show 2 * 0 + _ ≤ _; exact Nat.le_of_eq rfl) (hb hby at_17) (fun _ _ => ⟨rfl, e0, (by decide : 0 + 0 ≤ _), (by decide : 0 + 0 ≤ _)⟩)
  dsimp only [Pt.U, Pt.locs, Pt.cells, Pt.slots] at X3 l3 y3 z3 st3 hQ3
  subst l3 y3 z3
  obtain ⟨rfl, N3q, e3⟩ := hQ3
  have N3 := Fr.app N0 N3q
  -- pc 33: com/example/libphase/libphase/event/PhaseIdIsCoveredByPinLaw.phase by its contract rm1
  obtain ⟨_, _, ⟨T4, L4, k4, n4⟩, -, X4, ⟨Lc4, hQ4, l4, y4, z4⟩, st4⟩ := Jvm.LawKit.callS X3 hx (y := (⟨"com/example/libphase/libphase/event/PhaseIdIsCoveredByPinLaw", "phase", "(I)Lcom/example/libphase/libphase/event/PhaseId;"⟩ : MethodName)) hown (mvT hZ (hw _ (List.mem_of_getElem? (i := 1) rfl))) (mvT hZ (hw _ (List.mem_of_getElem? (i := 2) rfl))) (mvT hZ (hw _ (List.mem_of_getElem? (i := 3) rfl))) (mvT hZ (hw _ (List.mem_of_getElem? (i := 4) rfl))) (by decide) (backOf (W := 0) (hpj) hZ (hw _ (List.mem_of_getElem? (i := 4) rfl)) (hw _ (List.mem_of_getElem? (i := 3) rfl)) (by decide) (by decide)) (g := (mkF m 33 #[.val (.int p1), .val (.int p2), .val (.int (own_rem (p1 &&& (2147483647 : Int32)) (7 : Int32))), .val (.int (own_rem (p2 &&& (2147483647 : Int32)) (8 : Int32))), .val (.ref wi), .unset, .unset] [(.int (own_rem (p2 &&& (2147483647 : Int32)) (8 : Int32)))])) rfl (by rw [hml]; rfl) (argsL := [(.int (own_rem (p2 &&& (2147483647 : Int32)) (8 : Int32)))]) (rest := []) (lenOf pd_0_0 rfl) rfl (by show 2 * 0 + _ ≤ _; exact Nat.le_of_eq rfl) (hb hby at_33) (fun _ _ => ⟨rfl, e3, (by decide : 0 + 0 ≤ _), (by decide : 0 + 0 ≤ _)⟩)
  dsimp only [Pt.U, Pt.locs, Pt.cells, Pt.slots] at X4 l4 y4 z4 st4 hQ4
  subst l4 y4 z4
  obtain ⟨rfl, N4q, e4⟩ := hQ4
  have N4 := Fr.app N3 N4q
  -- pc 76: com/example/libphase/libphase/event/PhaseId.isCoveredBy by the contract of the body that the receiver's class selects, rm2
  -- ✋ yours, out of the call's Q: E_i : Exa Z h0 wi "com/example/libphase/libphase/event/PhaseId"
  obtain ⟨cq5, kq5, q5a, q5b, q5c⟩ := isOf hZ e4 E_i
  obtain ⟨_, _, ⟨T5, L5, k5, n5⟩, -, X5, ⟨Lc5, hQ5, l5, y5, z5⟩, st5⟩ := X4.virtualBack hx (y := (⟨"com/example/libphase/libphase/event/PhaseId", "isCoveredBy", "(Lcom/example/libphase/libphase/event/PhaseId;)Z"⟩ : MethodName)) (z := (⟨"com/example/libphase/libphase/event/PhaseId", "isCoveredBy", "(Lcom/example/libphase/libphase/event/PhaseId;)Z"⟩ : MethodName)) hown (mvT hZ (hw _ (List.mem_of_getElem? (i := 10) rfl))) (mvT hZ (hw _ (List.mem_of_getElem? (i := 11) rfl))) (notFace_of_selects (args := #[]) (mvT hZ (hw _ (List.mem_of_getElem? (i := 13) rfl)))) (mvT hZ (hw _ (List.mem_of_getElem? (i := 13) rfl))) (mvT hZ (hw _ (List.mem_of_getElem? (i := 12) rfl))) (by decide) (backOf (W := 0) (rm2_ff l Z a0 hw [] wi wj wa h0 n0 Z0 S_a hja hji) hZ (hw _ (List.mem_of_getElem? (i := 14) rfl)) (hw _ (List.mem_of_getElem? (i := 6) rfl)) (by decide) (by decide)) q5a q5c (g := (mkF m 76 #[.val (.int p1), .val (.int p2), .val (.int (own_rem (p1 &&& (2147483647 : Int32)) (7 : Int32))), .val (.int (own_rem (p2 &&& (2147483647 : Int32)) (8 : Int32))), .val (.ref wi), .val (.ref wj), .val (.int (1 : Int32))] [(.ref wj), (.ref wi)])) rfl (by rw [hml]; rfl) (Steps.refl _) (argsL := [(.ref wj)]) (rest := []) (lenOf pd_0_1 rfl) rfl (by show 2 * 0 + _ ≤ _; exact Nat.le_of_eq rfl) (hb hby at_76) (fun _ _ => ⟨rfl, e4, (by decide : 0 + 0 ≤ _), (by decide : 0 + 0 ≤ _)⟩)
  dsimp only [Pt.U, Pt.locs, Pt.cells, Pt.slots] at X5 l5 y5 z5 st5 hQ5
  subst l5 y5 z5
  obtain ⟨rfl, N5q, e5⟩ := hQ5
  have N5 := Fr.app N4 N5q
  obtain ⟨fs, hr, hrun, hended, hW, hsame⟩ := X5.leave (v := some (.int (1 : Int32))) (fun h => by rw [Bd.returns] at h; cases h)
  refine ⟨_, _, pre0 _ ?_, hrun, hended, _, _, rfl, ?_, ⟨_, rfl⟩, hW, hsame.mono (by decide) (by decide)⟩
  · show Steps p.tables e below (s₁.setTop (mkF m 0 #[.val (.int p1), .val (.int p2), .unset, .unset, .unset, .unset, .unset] [])) _
    refine XS.iloadN X0.here hx rfl (hb hby at_0) rfl ?_
    show Steps p.tables e below (s₁.setTop (mkF m 1 #[.val (.int p1), .val (.int p2), .unset, .unset, .unset, .unset, .unset] [(.int p1)])) _
    refine X0.ldcInt hx hown (mvT hZ (hw _ (List.mem_of_getElem? (i := 0) rfl))) (g := (mkF m 1 #[.val (.int p1), .val (.int p2), .unset, .unset, .unset, .unset, .unset] [(.int p1)])) rfl (hb hby at_1) _ ?_
    show Steps p.tables e below (s₁.setTop (mkF m 3 #[.val (.int p1), .val (.int p2), .unset, .unset, .unset, .unset, .unset] [(.int (2147483647 : Int32)), (.int p1)])) _
    refine XS.iand X0.here hx rfl (hb hby at_3) rfl ?_
    show Steps p.tables e below (s₁.setTop (mkF m 4 #[.val (.int p1), .val (.int p2), .unset, .unset, .unset, .unset, .unset] [(.int (p1 &&& (2147483647 : Int32)))])) _
    refine XS.bipush X0.here hx rfl (hb hby at_4) ?_
    show Steps p.tables e below (s₁.setTop (mkF m 6 #[.val (.int p1), .val (.int p2), .unset, .unset, .unset, .unset, .unset] [(.int (7 : Int32)), (.int (p1 &&& (2147483647 : Int32)))])) _
    refine XS.irem X0.here hx rfl (hb hby at_6) rfl (by decide) ?_
    show Steps p.tables e below (s₁.setTop (mkF m 7 #[.val (.int p1), .val (.int p2), .unset, .unset, .unset, .unset, .unset] [(.int (own_rem (p1 &&& (2147483647 : Int32)) (7 : Int32)))])) _
    refine XS.istoreN X0.here hx rfl (hb hby at_7) rfl (l' := #[.val (.int p1), .val (.int p2), .val (.int (own_rem (p1 &&& (2147483647 : Int32)) (7 : Int32))), .unset, .unset, .unset, .unset]) rfl ?_
    show Steps p.tables e below (s₁.setTop (mkF m 8 #[.val (.int p1), .val (.int p2), .val (.int (own_rem (p1 &&& (2147483647 : Int32)) (7 : Int32))), .unset, .unset, .unset, .unset] [])) _
    refine XS.iloadN X0.here hx rfl (hb hby at_8) rfl ?_
    show Steps p.tables e below (s₁.setTop (mkF m 9 #[.val (.int p1), .val (.int p2), .val (.int (own_rem (p1 &&& (2147483647 : Int32)) (7 : Int32))), .unset, .unset, .unset, .unset] [(.int p2)])) _
    refine X0.ldcInt hx hown (mvT hZ (hw _ (List.mem_of_getElem? (i := 0) rfl))) (g := (mkF m 9 #[.val (.int p1), .val (.int p2), .val (.int (own_rem (p1 &&& (2147483647 : Int32)) (7 : Int32))), .unset, .unset, .unset, .unset] [(.int p2)])) rfl (hb hby at_9) _ ?_
    show Steps p.tables e below (s₁.setTop (mkF m 11 #[.val (.int p1), .val (.int p2), .val (.int (own_rem (p1 &&& (2147483647 : Int32)) (7 : Int32))), .unset, .unset, .unset, .unset] [(.int (2147483647 : Int32)), (.int p2)])) _
    refine XS.iand X0.here hx rfl (hb hby at_11) rfl ?_
    show Steps p.tables e below (s₁.setTop (mkF m 12 #[.val (.int p1), .val (.int p2), .val (.int (own_rem (p1 &&& (2147483647 : Int32)) (7 : Int32))), .unset, .unset, .unset, .unset] [(.int (p2 &&& (2147483647 : Int32)))])) _
    refine XS.bipush X0.here hx rfl (hb hby at_12) ?_
    show Steps p.tables e below (s₁.setTop (mkF m 14 #[.val (.int p1), .val (.int p2), .val (.int (own_rem (p1 &&& (2147483647 : Int32)) (7 : Int32))), .unset, .unset, .unset, .unset] [(.int (8 : Int32)), (.int (p2 &&& (2147483647 : Int32)))])) _
    refine XS.irem X0.here hx rfl (hb hby at_14) rfl (by decide) ?_
    show Steps p.tables e below (s₁.setTop (mkF m 15 #[.val (.int p1), .val (.int p2), .val (.int (own_rem (p1 &&& (2147483647 : Int32)) (7 : Int32))), .unset, .unset, .unset, .unset] [(.int (own_rem (p2 &&& (2147483647 : Int32)) (8 : Int32)))])) _
    refine XS.istoreN X0.here hx rfl (hb hby at_15) rfl (l' := #[.val (.int p1), .val (.int p2), .val (.int (own_rem (p1 &&& (2147483647 : Int32)) (7 : Int32))), .val (.int (own_rem (p2 &&& (2147483647 : Int32)) (8 : Int32))), .unset, .unset, .unset]) rfl ?_
    show Steps p.tables e below (s₁.setTop (mkF m 16 #[.val (.int p1), .val (.int p2), .val (.int (own_rem (p1 &&& (2147483647 : Int32)) (7 : Int32))), .val (.int (own_rem (p2 &&& (2147483647 : Int32)) (8 : Int32))), .unset, .unset, .unset] [])) _
    refine XS.iloadN X0.here hx rfl (hb hby at_16) rfl ?_
    show Steps p.tables e below (s₁.setTop (mkF m 17 #[.val (.int p1), .val (.int p2), .val (.int (own_rem (p1 &&& (2147483647 : Int32)) (7 : Int32))), .val (.int (own_rem (p2 &&& (2147483647 : Int32)) (8 : Int32))), .unset, .unset, .unset] [(.int (own_rem (p1 &&& (2147483647 : Int32)) (7 : Int32)))])) _
    refine st3 _ ?_
    show Steps p.tables e below (T3.setTop (mkF m 20 #[.val (.int p1), .val (.int p2), .val (.int (own_rem (p1 &&& (2147483647 : Int32)) (7 : Int32))), .val (.int (own_rem (p2 &&& (2147483647 : Int32)) (8 : Int32))), .unset, .unset, .unset] [(.ref wi)])) _
    refine XS.astore X3.here hx rfl (hb hby at_20) rfl rfl (l' := #[.val (.int p1), .val (.int p2), .val (.int (own_rem (p1 &&& (2147483647 : Int32)) (7 : Int32))), .val (.int (own_rem (p2 &&& (2147483647 : Int32)) (8 : Int32))), .val (.ref wi), .unset, .unset]) rfl ?_
    show Steps p.tables e below (T3.setTop (mkF m 22 #[.val (.int p1), .val (.int p2), .val (.int (own_rem (p1 &&& (2147483647 : Int32)) (7 : Int32))), .val (.int (own_rem (p2 &&& (2147483647 : Int32)) (8 : Int32))), .val (.ref wi), .unset, .unset] [])) _
    refine XS.iloadN X3.here hx rfl (hb hby at_22) rfl ?_
    show Steps p.tables e below (T3.setTop (mkF m 23 #[.val (.int p1), .val (.int p2), .val (.int (own_rem (p1 &&& (2147483647 : Int32)) (7 : Int32))), .val (.int (own_rem (p2 &&& (2147483647 : Int32)) (8 : Int32))), .val (.ref wi), .unset, .unset] [(.int (own_rem (p2 &&& (2147483647 : Int32)) (8 : Int32)))])) _
    refine XS.bipush X3.here hx rfl (hb hby at_23) ?_
    show Steps p.tables e below (T3.setTop (mkF m 25 #[.val (.int p1), .val (.int p2), .val (.int (own_rem (p1 &&& (2147483647 : Int32)) (7 : Int32))), .val (.int (own_rem (p2 &&& (2147483647 : Int32)) (8 : Int32))), .val (.ref wi), .unset, .unset] [(.int (7 : Int32)), (.int (own_rem (p2 &&& (2147483647 : Int32)) (8 : Int32)))])) _
    refine XS.icmpYes X3.here hx rfl (pc0 := 25) (pc' := 32) rfl (hb hby at_25) rfl (feq hc25).2 (by decide) (by decide) ?_
    show Steps p.tables e below (T3.setTop (mkF m 32 #[.val (.int p1), .val (.int p2), .val (.int (own_rem (p1 &&& (2147483647 : Int32)) (7 : Int32))), .val (.int (own_rem (p2 &&& (2147483647 : Int32)) (8 : Int32))), .val (.ref wi), .unset, .unset] [])) _
    refine XS.iloadN X3.here hx rfl (hb hby at_32) rfl ?_
    show Steps p.tables e below (T3.setTop (mkF m 33 #[.val (.int p1), .val (.int p2), .val (.int (own_rem (p1 &&& (2147483647 : Int32)) (7 : Int32))), .val (.int (own_rem (p2 &&& (2147483647 : Int32)) (8 : Int32))), .val (.ref wi), .unset, .unset] [(.int (own_rem (p2 &&& (2147483647 : Int32)) (8 : Int32)))])) _
    refine st4 _ ?_
    show Steps p.tables e below (T4.setTop (mkF m 36 #[.val (.int p1), .val (.int p2), .val (.int (own_rem (p1 &&& (2147483647 : Int32)) (7 : Int32))), .val (.int (own_rem (p2 &&& (2147483647 : Int32)) (8 : Int32))), .val (.ref wi), .unset, .unset] [(.ref wj)])) _
    refine XS.astore X4.here hx rfl (hb hby at_36) rfl rfl (l' := #[.val (.int p1), .val (.int p2), .val (.int (own_rem (p1 &&& (2147483647 : Int32)) (7 : Int32))), .val (.int (own_rem (p2 &&& (2147483647 : Int32)) (8 : Int32))), .val (.ref wi), .val (.ref wj), .unset]) rfl ?_
    show Steps p.tables e below (T4.setTop (mkF m 38 #[.val (.int p1), .val (.int p2), .val (.int (own_rem (p1 &&& (2147483647 : Int32)) (7 : Int32))), .val (.int (own_rem (p2 &&& (2147483647 : Int32)) (8 : Int32))), .val (.ref wi), .val (.ref wj), .unset] [])) _
    refine XS.iloadN X4.here hx rfl (hb hby at_38) rfl ?_
    show Steps p.tables e below (T4.setTop (mkF m 39 #[.val (.int p1), .val (.int p2), .val (.int (own_rem (p1 &&& (2147483647 : Int32)) (7 : Int32))), .val (.int (own_rem (p2 &&& (2147483647 : Int32)) (8 : Int32))), .val (.ref wi), .val (.ref wj), .unset] [(.int (own_rem (p2 &&& (2147483647 : Int32)) (8 : Int32)))])) _
    refine XS.bipush X4.here hx rfl (hb hby at_39) ?_
    show Steps p.tables e below (T4.setTop (mkF m 41 #[.val (.int p1), .val (.int p2), .val (.int (own_rem (p1 &&& (2147483647 : Int32)) (7 : Int32))), .val (.int (own_rem (p2 &&& (2147483647 : Int32)) (8 : Int32))), .val (.ref wi), .val (.ref wj), .unset] [(.int (7 : Int32)), (.int (own_rem (p2 &&& (2147483647 : Int32)) (8 : Int32)))])) _
    refine XS.icmpYes X4.here hx rfl (pc0 := 41) (pc' := 50) rfl (hb hby at_41) rfl (feq hc41).2 (by decide) (by decide) ?_
    show Steps p.tables e below (T4.setTop (mkF m 50 #[.val (.int p1), .val (.int p2), .val (.int (own_rem (p1 &&& (2147483647 : Int32)) (7 : Int32))), .val (.int (own_rem (p2 &&& (2147483647 : Int32)) (8 : Int32))), .val (.ref wi), .val (.ref wj), .unset] [])) _
    refine XS.iloadN X4.here hx rfl (hb hby at_50) rfl ?_
    show Steps p.tables e below (T4.setTop (mkF m 51 #[.val (.int p1), .val (.int p2), .val (.int (own_rem (p1 &&& (2147483647 : Int32)) (7 : Int32))), .val (.int (own_rem (p2 &&& (2147483647 : Int32)) (8 : Int32))), .val (.ref wi), .val (.ref wj), .unset] [(.int (own_rem (p2 &&& (2147483647 : Int32)) (8 : Int32)))])) _
    refine XS.ifYes X4.here hx rfl (pc0 := 51) (pc' := 60) rfl (hb hby at_51) rfl ((if0 _ _).trans (feq hc51).2) (by decide) (by decide) ?_
    show Steps p.tables e below (T4.setTop (mkF m 60 #[.val (.int p1), .val (.int p2), .val (.int (own_rem (p1 &&& (2147483647 : Int32)) (7 : Int32))), .val (.int (own_rem (p2 &&& (2147483647 : Int32)) (8 : Int32))), .val (.ref wi), .val (.ref wj), .unset] [])) _
    refine XS.iloadN X4.here hx rfl (hb hby at_60) rfl ?_
    show Steps p.tables e below (T4.setTop (mkF m 61 #[.val (.int p1), .val (.int p2), .val (.int (own_rem (p1 &&& (2147483647 : Int32)) (7 : Int32))), .val (.int (own_rem (p2 &&& (2147483647 : Int32)) (8 : Int32))), .val (.ref wi), .val (.ref wj), .unset] [(.int (own_rem (p2 &&& (2147483647 : Int32)) (8 : Int32)))])) _
    refine XS.iloadN X4.here hx rfl (hb hby at_61) rfl ?_
    show Steps p.tables e below (T4.setTop (mkF m 62 #[.val (.int p1), .val (.int p2), .val (.int (own_rem (p1 &&& (2147483647 : Int32)) (7 : Int32))), .val (.int (own_rem (p2 &&& (2147483647 : Int32)) (8 : Int32))), .val (.ref wi), .val (.ref wj), .unset] [(.int (own_rem (p1 &&& (2147483647 : Int32)) (7 : Int32))), (.int (own_rem (p2 &&& (2147483647 : Int32)) (8 : Int32)))])) _
    refine XS.icmpNo X4.here hx rfl (hb hby at_62) rfl (teq hc62).2 ?_
    show Steps p.tables e below (T4.setTop (mkF m 65 #[.val (.int p1), .val (.int p2), .val (.int (own_rem (p1 &&& (2147483647 : Int32)) (7 : Int32))), .val (.int (own_rem (p2 &&& (2147483647 : Int32)) (8 : Int32))), .val (.ref wi), .val (.ref wj), .unset] [])) _
    refine XS.iconst X4.here hx rfl (hb hby at_65) ?_
    show Steps p.tables e below (T4.setTop (mkF m 66 #[.val (.int p1), .val (.int p2), .val (.int (own_rem (p1 &&& (2147483647 : Int32)) (7 : Int32))), .val (.int (own_rem (p2 &&& (2147483647 : Int32)) (8 : Int32))), .val (.ref wi), .val (.ref wj), .unset] [(.int (1 : Int32))])) _
    refine XS.goto X4.here hx rfl (pc0 := 66) (pc' := 70) rfl (hb hby at_66) (by decide) (by decide) ?_
    show Steps p.tables e below (T4.setTop (mkF m 70 #[.val (.int p1), .val (.int p2), .val (.int (own_rem (p1 &&& (2147483647 : Int32)) (7 : Int32))), .val (.int (own_rem (p2 &&& (2147483647 : Int32)) (8 : Int32))), .val (.ref wi), .val (.ref wj), .unset] [(.int (1 : Int32))])) _
    refine XS.istore X4.here hx rfl (hb hby at_70) rfl (l' := #[.val (.int p1), .val (.int p2), .val (.int (own_rem (p1 &&& (2147483647 : Int32)) (7 : Int32))), .val (.int (own_rem (p2 &&& (2147483647 : Int32)) (8 : Int32))), .val (.ref wi), .val (.ref wj), .val (.int (1 : Int32))]) rfl ?_
    show Steps p.tables e below (T4.setTop (mkF m 72 #[.val (.int p1), .val (.int p2), .val (.int (own_rem (p1 &&& (2147483647 : Int32)) (7 : Int32))), .val (.int (own_rem (p2 &&& (2147483647 : Int32)) (8 : Int32))), .val (.ref wi), .val (.ref wj), .val (.int (1 : Int32))] [])) _
    refine XS.aload X4.here hx rfl (hb hby at_72) rfl rfl ?_
    show Steps p.tables e below (T4.setTop (mkF m 74 #[.val (.int p1), .val (.int p2), .val (.int (own_rem (p1 &&& (2147483647 : Int32)) (7 : Int32))), .val (.int (own_rem (p2 &&& (2147483647 : Int32)) (8 : Int32))), .val (.ref wi), .val (.ref wj), .val (.int (1 : Int32))] [(.ref wi)])) _
    refine XS.aload X4.here hx rfl (hb hby at_74) rfl rfl ?_
    show Steps p.tables e below (T4.setTop (mkF m 76 #[.val (.int p1), .val (.int p2), .val (.int (own_rem (p1 &&& (2147483647 : Int32)) (7 : Int32))), .val (.int (own_rem (p2 &&& (2147483647 : Int32)) (8 : Int32))), .val (.ref wi), .val (.ref wj), .val (.int (1 : Int32))] [(.ref wj), (.ref wi)])) _
    refine st5.trans ?_
    show Steps p.tables e below (T5.setTop (mkF m 79 #[.val (.int p1), .val (.int p2), .val (.int (own_rem (p1 &&& (2147483647 : Int32)) (7 : Int32))), .val (.int (own_rem (p2 &&& (2147483647 : Int32)) (8 : Int32))), .val (.ref wi), .val (.ref wj), .val (.int (1 : Int32))] [(.int (1 : Int32))])) _
    refine XS.iload X5.here hx rfl (hb hby at_79) rfl ?_
    show Steps p.tables e below (T5.setTop (mkF m 81 #[.val (.int p1), .val (.int p2), .val (.int (own_rem (p1 &&& (2147483647 : Int32)) (7 : Int32))), .val (.int (own_rem (p2 &&& (2147483647 : Int32)) (8 : Int32))), .val (.ref wi), .val (.ref wj), .val (.int (1 : Int32))] [(.int (1 : Int32)), (.int (1 : Int32))])) _
    refine XS.icmpNo X5.here hx rfl (hb hby at_81) rfl (teq (rfl : (1 : Int32) = (1 : Int32))).2 ?_
    show Steps p.tables e below (T5.setTop (mkF m 84 #[.val (.int p1), .val (.int p2), .val (.int (own_rem (p1 &&& (2147483647 : Int32)) (7 : Int32))), .val (.int (own_rem (p2 &&& (2147483647 : Int32)) (8 : Int32))), .val (.ref wi), .val (.ref wj), .val (.int (1 : Int32))] [])) _
    refine XS.iconst X5.here hx rfl (hb hby at_84) ?_
    show Steps p.tables e below (T5.setTop (mkF m 85 #[.val (.int p1), .val (.int p2), .val (.int (own_rem (p1 &&& (2147483647 : Int32)) (7 : Int32))), .val (.int (own_rem (p2 &&& (2147483647 : Int32)) (8 : Int32))), .val (.ref wi), .val (.ref wj), .val (.int (1 : Int32))] [(.int (1 : Int32))])) _
    refine XS.goto X5.here hx rfl (pc0 := 85) (pc' := 89) rfl (hb hby at_85) (by decide) (by decide) ?_
    show Steps p.tables e below (T5.setTop (mkF m 89 #[.val (.int p1), .val (.int p2), .val (.int (own_rem (p1 &&& (2147483647 : Int32)) (7 : Int32))), .val (.int (own_rem (p2 &&& (2147483647 : Int32)) (8 : Int32))), .val (.ref wi), .val (.ref wj), .val (.int (1 : Int32))] [(.int (1 : Int32))])) _
    exact retN X5 hx (t := .boolean) Bd.returns (by simp) (hb hby at_89) hr
  · show Q0 Z p1 p2 h0 n0 _ T5.heap _
    exact ⟨rfl, N5⟩
set_option maxRecDepth 65536 in
set_option maxHeartbeats 40000000 in
theorem rm0_d (l : Launch) (Z : State) (a0 : Array Value) (hw : ∀ d ∈ tables_1, d.before a0 Z = true) (ws : List Jvm.Cond) (p1 : Int32) (p2 : Int32) (h0 : Heap) (n0 : Nat) (Z0 : n0 ≤ h0.size) (hc25 : ¬ ((own_rem (p2 &&& (2147483647 : Int32)) (8 : Int32)) = (7 : Int32))) (hc41 : ¬ ((own_rem (p2 &&& (2147483647 : Int32)) (8 : Int32)) = (7 : Int32))) (hc51 : ¬ ((own_rem (p2 &&& (2147483647 : Int32)) (8 : Int32)) = (0 : Int32))) (hc62 : ¬ ((own_rem (p2 &&& (2147483647 : Int32)) (8 : Int32)) = (own_rem (p1 &&& (2147483647 : Int32)) (7 : Int32)))) (wi : Addr) (wj : Addr) (wa : Addr) (E_i : Exa Z h0 wi "com/example/libphase/libphase/event/PhaseId") (S_a : Sta Z h0 "com/example/libphase/libphase/event/PhaseId" "ANY_PHASE" "Lcom/example/libphase/libphase/event/PhaseId;" (.ref wa)) (hpi : MetFree l (⟨"com/example/libphase/libphase/event/PhaseIdIsCoveredByPinLaw", "phase", "(I)Lcom/example/libphase/libphase/event/PhaseId;"⟩ : MethodName) (head1 (Jvm.Cond.code (⟨"com/example/libphase/libphase/event/PhaseIdIsCoveredByPinLaw", "phase", "(I)Lcom/example/libphase/libphase/event/PhaseId;"⟩ : MethodName) method_2_code 1 (some (.object "com/example/libphase/libphase/event/PhaseId")) :: []) ({ frames := 0, cells := 0, slots := 0, locals := 0 } : Room)) (fun a U => a = #[(.int (own_rem (p1 &&& (2147483647 : Int32)) (7 : Int32)))] ∧ Z.Warmed39 U.vm ∧ U.heap = h0) (fun _ _ _ _ _ => True) (fun _ U o U' => ∃ v L, o = .returned v ∧ Q1 Z (own_rem (p1 &&& (2147483647 : Int32)) (7 : Int32)) wi h0 n0 v U'.heap L ∧ FrameEnd U o U' L ({ frames := 0, cells := 0, slots := 0, locals := 0 } : Room).cells ({ frames := 0, cells := 0, slots := 0, locals := 0 } : Room).slots)) (hpj : MetFree l (⟨"com/example/libphase/libphase/event/PhaseIdIsCoveredByPinLaw", "phase", "(I)Lcom/example/libphase/libphase/event/PhaseId;"⟩ : MethodName) (head1 (Jvm.Cond.code (⟨"com/example/libphase/libphase/event/PhaseIdIsCoveredByPinLaw", "phase", "(I)Lcom/example/libphase/libphase/event/PhaseId;"⟩ : MethodName) method_2_code 1 (some (.object "com/example/libphase/libphase/event/PhaseId")) :: []) ({ frames := 0, cells := 0, slots := 0, locals := 0 } : Room)) (fun a U => a = #[(.int (own_rem (p2 &&& (2147483647 : Int32)) (8 : Int32)))] ∧ Z.Warmed39 U.vm ∧ U.heap = h0) (fun _ _ _ _ _ => True) (fun _ U o U' => ∃ v L, o = .returned v ∧ Q1 Z (own_rem (p2 &&& (2147483647 : Int32)) (8 : Int32)) wj h0 n0 v U'.heap L ∧ FrameEnd U o U' L ({ frames := 0, cells := 0, slots := 0, locals := 0 } : Room).cells ({ frames := 0, cells := 0, slots := 0, locals := 0 } : Room).slots)) (hja : ¬ (wj = wa)) (hji : ¬ (wj = wi)) :
    MetFree l x (head1 (Jvm.Cond.code x code maxLocals ret :: ws) room_1) (fun a U => a = #[(.int p1), (.int p2)] ∧ Z.Warmed39 U.vm ∧ U.heap = h0) (fun _ _ _ _ _ => True) (fun _ U o U' => ∃ v L, o = .returned v ∧ Q0 Z p1 p2 h0 n0 v U'.heap L ∧ FrameEnd U o U' L room_1.cells room_1.slots) := by
  refine MetFree.of_bodySF (plainFor_of_name pn_0) hisR ?_
  intro p e s m args below meth c s₁ Bd hml0 hP hK
  obtain ⟨rfl, hZ, hh⟩ := hP
  have hx := Bd.exec
  have hby := Bd.bytes
  have hml : c.maxLocals = 7 := hml0
  have hown : s.vm.findClass "com/example/libphase/libphase/event/PhaseIdIsCoveredByPinLaw" = some m.cls := findClass_of_methodNamed Bd.named
  have hnm := (name_of_methodNamed Bd.named Bd.method).1
  have X0 : Stand p l e room_1 s m #[(.int p1), (.int p2)] below meth c s₁ [] 0 0 := Stand.of_body Bd
  have e0 : s₁.heap = h0 := by rw [← hh, Bd.state]; rfl
  have N0 := Fr.nil n0
  have pre0 : ∀ t, Steps p.tables e below (s₁.setTop (mkF m 0 #[.val (.int p1), .val (.int p2), .unset, .unset, .unset, .unset, .unset] [])) t → Steps p.tables e below (s₁.setTop (entryFrame m #[(.int p1), (.int p2)] maxLocals)) t := fun t k => castTop (ef_0 m p1 p2) k
  -- pc 17: com/example/libphase/libphase/event/PhaseIdIsCoveredByPinLaw.phase by its contract rm1
  obtain ⟨_, _, ⟨T3, L3, k3, n3⟩, -, X3, ⟨Lc3, hQ3, l3, y3, z3⟩, st3⟩ := Jvm.LawKit.callS X0 hx (y := (⟨"com/example/libphase/libphase/event/PhaseIdIsCoveredByPinLaw", "phase", "(I)Lcom/example/libphase/libphase/event/PhaseId;"⟩ : MethodName)) hown (mvT hZ (hw _ (List.mem_of_getElem? (i := 1) rfl))) (mvT hZ (hw _ (List.mem_of_getElem? (i := 2) rfl))) (mvT hZ (hw _ (List.mem_of_getElem? (i := 3) rfl))) (mvT hZ (hw _ (List.mem_of_getElem? (i := 4) rfl))) (by decide) (backOf (W := 0) (hpi) hZ (hw _ (List.mem_of_getElem? (i := 4) rfl)) (hw _ (List.mem_of_getElem? (i := 3) rfl)) (by decide) (by decide)) (g := (mkF m 17 #[.val (.int p1), .val (.int p2), .val (.int (own_rem (p1 &&& (2147483647 : Int32)) (7 : Int32))), .val (.int (own_rem (p2 &&& (2147483647 : Int32)) (8 : Int32))), .unset, .unset, .unset] [(.int (own_rem (p1 &&& (2147483647 : Int32)) (7 : Int32)))])) rfl (by rw [hml]; rfl) (argsL := [(.int (own_rem (p1 &&& (2147483647 : Int32)) (7 : Int32)))]) (rest := []) (lenOf pd_0_0 rfl) rfl (by show 2 * 0 + _ ≤ _; exact Nat.le_of_eq rfl) (hb hby at_17) (fun _ _ => ⟨rfl, e0, (by decide : 0 + 0 ≤ _), (by decide : 0 + 0 ≤ _)⟩)
  dsimp only [Pt.U, Pt.locs, Pt.cells, Pt.slots] at X3 l3 y3 z3 st3 hQ3
  subst l3 y3 z3
  obtain ⟨rfl, N3q, e3⟩ := hQ3
  have N3 := Fr.app N0 N3q
  -- pc 33: com/example/libphase/libphase/event/PhaseIdIsCoveredByPinLaw.phase by its contract rm1
  obtain ⟨_, _, ⟨T4, L4, k4, n4⟩, -, X4, ⟨Lc4, hQ4, l4, y4, z4⟩, st4⟩ := Jvm.LawKit.callS X3 hx (y := (⟨"com/example/libphase/libphase/event/PhaseIdIsCoveredByPinLaw", "phase", "(I)Lcom/example/libphase/libphase/event/PhaseId;"⟩ : MethodName)) hown (mvT hZ (hw _ (List.mem_of_getElem? (i := 1) rfl))) (mvT hZ (hw _ (List.mem_of_getElem? (i := 2) rfl))) (mvT hZ (hw _ (List.mem_of_getElem? (i := 3) rfl))) (mvT hZ (hw _ (List.mem_of_getElem? (i := 4) rfl))) (by decide) (backOf (W := 0) (hpj) hZ (hw _ (List.mem_of_getElem? (i := 4) rfl)) (hw _ (List.mem_of_getElem? (i := 3) rfl)) (by decide) (by decide)) (g := (mkF m 33 #[.val (.int p1), .val (.int p2), .val (.int (own_rem (p1 &&& (2147483647 : Int32)) (7 : Int32))), .val (.int (own_rem (p2 &&& (2147483647 : Int32)) (8 : Int32))), .val (.ref wi), .unset, .unset] [(.int (own_rem (p2 &&& (2147483647 : Int32)) (8 : Int32)))])) rfl (by rw [hml]; rfl) (argsL := [(.int (own_rem (p2 &&& (2147483647 : Int32)) (8 : Int32)))]) (rest := []) (lenOf pd_0_0 rfl) rfl (by show 2 * 0 + _ ≤ _; exact Nat.le_of_eq rfl) (hb hby at_33) (fun _ _ => ⟨rfl, e3, (by decide : 0 + 0 ≤ _), (by decide : 0 + 0 ≤ _)⟩)
  dsimp only [Pt.U, Pt.locs, Pt.cells, Pt.slots] at X4 l4 y4 z4 st4 hQ4
  subst l4 y4 z4
  obtain ⟨rfl, N4q, e4⟩ := hQ4
  have N4 := Fr.app N3 N4q
  -- pc 76: com/example/libphase/libphase/event/PhaseId.isCoveredBy by the contract of the body that the receiver's class selects, rm2
  -- ✋ yours, out of the call's Q: E_i : Exa Z h0 wi "com/example/libphase/libphase/event/PhaseId"
  obtain ⟨cq5, kq5, q5a, q5b, q5c⟩ := isOf hZ e4 E_i
  obtain ⟨_, _, ⟨T5, L5, k5, n5⟩, -, X5, ⟨Lc5, hQ5, l5, y5, z5⟩, st5⟩ := X4.virtualBack hx (y := (⟨"com/example/libphase/libphase/event/PhaseId", "isCoveredBy", "(Lcom/example/libphase/libphase/event/PhaseId;)Z"⟩ : MethodName)) (z := (⟨"com/example/libphase/libphase/event/PhaseId", "isCoveredBy", "(Lcom/example/libphase/libphase/event/PhaseId;)Z"⟩ : MethodName)) hown (mvT hZ (hw _ (List.mem_of_getElem? (i := 10) rfl))) (mvT hZ (hw _ (List.mem_of_getElem? (i := 11) rfl))) (notFace_of_selects (args := #[]) (mvT hZ (hw _ (List.mem_of_getElem? (i := 13) rfl)))) (mvT hZ (hw _ (List.mem_of_getElem? (i := 13) rfl))) (mvT hZ (hw _ (List.mem_of_getElem? (i := 12) rfl))) (by decide) (backOf (W := 0) (rm2_ft l Z a0 hw [] wi wj wa h0 n0 Z0 S_a hja hji) hZ (hw _ (List.mem_of_getElem? (i := 14) rfl)) (hw _ (List.mem_of_getElem? (i := 6) rfl)) (by decide) (by decide)) q5a q5c (g := (mkF m 76 #[.val (.int p1), .val (.int p2), .val (.int (own_rem (p1 &&& (2147483647 : Int32)) (7 : Int32))), .val (.int (own_rem (p2 &&& (2147483647 : Int32)) (8 : Int32))), .val (.ref wi), .val (.ref wj), .val (.int (0 : Int32))] [(.ref wj), (.ref wi)])) rfl (by rw [hml]; rfl) (Steps.refl _) (argsL := [(.ref wj)]) (rest := []) (lenOf pd_0_1 rfl) rfl (by show 2 * 0 + _ ≤ _; exact Nat.le_of_eq rfl) (hb hby at_76) (fun _ _ => ⟨rfl, e4, (by decide : 0 + 0 ≤ _), (by decide : 0 + 0 ≤ _)⟩)
  dsimp only [Pt.U, Pt.locs, Pt.cells, Pt.slots] at X5 l5 y5 z5 st5 hQ5
  subst l5 y5 z5
  obtain ⟨rfl, N5q, e5⟩ := hQ5
  have N5 := Fr.app N4 N5q
  obtain ⟨fs, hr, hrun, hended, hW, hsame⟩ := X5.leave (v := some (.int (1 : Int32))) (fun h => by rw [Bd.returns] at h; cases h)
  refine ⟨_, _, pre0 _ ?_, hrun, hended, _, _, rfl, ?_, ⟨_, rfl⟩, hW, hsame.mono (by decide) (by decide)⟩
  · show Steps p.tables e below (s₁.setTop (mkF m 0 #[.val (.int p1), .val (.int p2), .unset, .unset, .unset, .unset, .unset] [])) _
    refine XS.iloadN X0.here hx rfl (hb hby at_0) rfl ?_
    show Steps p.tables e below (s₁.setTop (mkF m 1 #[.val (.int p1), .val (.int p2), .unset, .unset, .unset, .unset, .unset] [(.int p1)])) _
    refine X0.ldcInt hx hown (mvT hZ (hw _ (List.mem_of_getElem? (i := 0) rfl))) (g := (mkF m 1 #[.val (.int p1), .val (.int p2), .unset, .unset, .unset, .unset, .unset] [(.int p1)])) rfl (hb hby at_1) _ ?_
    show Steps p.tables e below (s₁.setTop (mkF m 3 #[.val (.int p1), .val (.int p2), .unset, .unset, .unset, .unset, .unset] [(.int (2147483647 : Int32)), (.int p1)])) _
    refine XS.iand X0.here hx rfl (hb hby at_3) rfl ?_
    show Steps p.tables e below (s₁.setTop (mkF m 4 #[.val (.int p1), .val (.int p2), .unset, .unset, .unset, .unset, .unset] [(.int (p1 &&& (2147483647 : Int32)))])) _
    refine XS.bipush X0.here hx rfl (hb hby at_4) ?_
    show Steps p.tables e below (s₁.setTop (mkF m 6 #[.val (.int p1), .val (.int p2), .unset, .unset, .unset, .unset, .unset] [(.int (7 : Int32)), (.int (p1 &&& (2147483647 : Int32)))])) _
    refine XS.irem X0.here hx rfl (hb hby at_6) rfl (by decide) ?_
    show Steps p.tables e below (s₁.setTop (mkF m 7 #[.val (.int p1), .val (.int p2), .unset, .unset, .unset, .unset, .unset] [(.int (own_rem (p1 &&& (2147483647 : Int32)) (7 : Int32)))])) _
    refine XS.istoreN X0.here hx rfl (hb hby at_7) rfl (l' := #[.val (.int p1), .val (.int p2), .val (.int (own_rem (p1 &&& (2147483647 : Int32)) (7 : Int32))), .unset, .unset, .unset, .unset]) rfl ?_
    show Steps p.tables e below (s₁.setTop (mkF m 8 #[.val (.int p1), .val (.int p2), .val (.int (own_rem (p1 &&& (2147483647 : Int32)) (7 : Int32))), .unset, .unset, .unset, .unset] [])) _
    refine XS.iloadN X0.here hx rfl (hb hby at_8) rfl ?_
    show Steps p.tables e below (s₁.setTop (mkF m 9 #[.val (.int p1), .val (.int p2), .val (.int (own_rem (p1 &&& (2147483647 : Int32)) (7 : Int32))), .unset, .unset, .unset, .unset] [(.int p2)])) _
    refine X0.ldcInt hx hown (mvT hZ (hw _ (List.mem_of_getElem? (i := 0) rfl))) (g := (mkF m 9 #[.val (.int p1), .val (.int p2), .val (.int (own_rem (p1 &&& (2147483647 : Int32)) (7 : Int32))), .unset, .unset, .unset, .unset] [(.int p2)])) rfl (hb hby at_9) _ ?_
    show Steps p.tables e below (s₁.setTop (mkF m 11 #[.val (.int p1), .val (.int p2), .val (.int (own_rem (p1 &&& (2147483647 : Int32)) (7 : Int32))), .unset, .unset, .unset, .unset] [(.int (2147483647 : Int32)), (.int p2)])) _
    refine XS.iand X0.here hx rfl (hb hby at_11) rfl ?_
    show Steps p.tables e below (s₁.setTop (mkF m 12 #[.val (.int p1), .val (.int p2), .val (.int (own_rem (p1 &&& (2147483647 : Int32)) (7 : Int32))), .unset, .unset, .unset, .unset] [(.int (p2 &&& (2147483647 : Int32)))])) _
    refine XS.bipush X0.here hx rfl (hb hby at_12) ?_
    show Steps p.tables e below (s₁.setTop (mkF m 14 #[.val (.int p1), .val (.int p2), .val (.int (own_rem (p1 &&& (2147483647 : Int32)) (7 : Int32))), .unset, .unset, .unset, .unset] [(.int (8 : Int32)), (.int (p2 &&& (2147483647 : Int32)))])) _
    refine XS.irem X0.here hx rfl (hb hby at_14) rfl (by decide) ?_
    show Steps p.tables e below (s₁.setTop (mkF m 15 #[.val (.int p1), .val (.int p2), .val (.int (own_rem (p1 &&& (2147483647 : Int32)) (7 : Int32))), .unset, .unset, .unset, .unset] [(.int (own_rem (p2 &&& (2147483647 : Int32)) (8 : Int32)))])) _
    refine XS.istoreN X0.here hx rfl (hb hby at_15) rfl (l' := #[.val (.int p1), .val (.int p2), .val (.int (own_rem (p1 &&& (2147483647 : Int32)) (7 : Int32))), .val (.int (own_rem (p2 &&& (2147483647 : Int32)) (8 : Int32))), .unset, .unset, .unset]) rfl ?_
    show Steps p.tables e below (s₁.setTop (mkF m 16 #[.val (.int p1), .val (.int p2), .val (.int (own_rem (p1 &&& (2147483647 : Int32)) (7 : Int32))), .val (.int (own_rem (p2 &&& (2147483647 : Int32)) (8 : Int32))), .unset, .unset, .unset] [])) _
    refine XS.iloadN X0.here hx rfl (hb hby at_16) rfl ?_
    show Steps p.tables e below (s₁.setTop (mkF m 17 #[.val (.int p1), .val (.int p2), .val (.int (own_rem (p1 &&& (2147483647 : Int32)) (7 : Int32))), .val (.int (own_rem (p2 &&& (2147483647 : Int32)) (8 : Int32))), .unset, .unset, .unset] [(.int (own_rem (p1 &&& (2147483647 : Int32)) (7 : Int32)))])) _
    refine st3 _ ?_
    show Steps p.tables e below (T3.setTop (mkF m 20 #[.val (.int p1), .val (.int p2), .val (.int (own_rem (p1 &&& (2147483647 : Int32)) (7 : Int32))), .val (.int (own_rem (p2 &&& (2147483647 : Int32)) (8 : Int32))), .unset, .unset, .unset] [(.ref wi)])) _
    refine XS.astore X3.here hx rfl (hb hby at_20) rfl rfl (l' := #[.val (.int p1), .val (.int p2), .val (.int (own_rem (p1 &&& (2147483647 : Int32)) (7 : Int32))), .val (.int (own_rem (p2 &&& (2147483647 : Int32)) (8 : Int32))), .val (.ref wi), .unset, .unset]) rfl ?_
    show Steps p.tables e below (T3.setTop (mkF m 22 #[.val (.int p1), .val (.int p2), .val (.int (own_rem (p1 &&& (2147483647 : Int32)) (7 : Int32))), .val (.int (own_rem (p2 &&& (2147483647 : Int32)) (8 : Int32))), .val (.ref wi), .unset, .unset] [])) _
    refine XS.iloadN X3.here hx rfl (hb hby at_22) rfl ?_
    show Steps p.tables e below (T3.setTop (mkF m 23 #[.val (.int p1), .val (.int p2), .val (.int (own_rem (p1 &&& (2147483647 : Int32)) (7 : Int32))), .val (.int (own_rem (p2 &&& (2147483647 : Int32)) (8 : Int32))), .val (.ref wi), .unset, .unset] [(.int (own_rem (p2 &&& (2147483647 : Int32)) (8 : Int32)))])) _
    refine XS.bipush X3.here hx rfl (hb hby at_23) ?_
    show Steps p.tables e below (T3.setTop (mkF m 25 #[.val (.int p1), .val (.int p2), .val (.int (own_rem (p1 &&& (2147483647 : Int32)) (7 : Int32))), .val (.int (own_rem (p2 &&& (2147483647 : Int32)) (8 : Int32))), .val (.ref wi), .unset, .unset] [(.int (7 : Int32)), (.int (own_rem (p2 &&& (2147483647 : Int32)) (8 : Int32)))])) _
    refine XS.icmpYes X3.here hx rfl (pc0 := 25) (pc' := 32) rfl (hb hby at_25) rfl (feq hc25).2 (by decide) (by decide) ?_
    show Steps p.tables e below (T3.setTop (mkF m 32 #[.val (.int p1), .val (.int p2), .val (.int (own_rem (p1 &&& (2147483647 : Int32)) (7 : Int32))), .val (.int (own_rem (p2 &&& (2147483647 : Int32)) (8 : Int32))), .val (.ref wi), .unset, .unset] [])) _
    refine XS.iloadN X3.here hx rfl (hb hby at_32) rfl ?_
    show Steps p.tables e below (T3.setTop (mkF m 33 #[.val (.int p1), .val (.int p2), .val (.int (own_rem (p1 &&& (2147483647 : Int32)) (7 : Int32))), .val (.int (own_rem (p2 &&& (2147483647 : Int32)) (8 : Int32))), .val (.ref wi), .unset, .unset] [(.int (own_rem (p2 &&& (2147483647 : Int32)) (8 : Int32)))])) _
    refine st4 _ ?_
    show Steps p.tables e below (T4.setTop (mkF m 36 #[.val (.int p1), .val (.int p2), .val (.int (own_rem (p1 &&& (2147483647 : Int32)) (7 : Int32))), .val (.int (own_rem (p2 &&& (2147483647 : Int32)) (8 : Int32))), .val (.ref wi), .unset, .unset] [(.ref wj)])) _
    refine XS.astore X4.here hx rfl (hb hby at_36) rfl rfl (l' := #[.val (.int p1), .val (.int p2), .val (.int (own_rem (p1 &&& (2147483647 : Int32)) (7 : Int32))), .val (.int (own_rem (p2 &&& (2147483647 : Int32)) (8 : Int32))), .val (.ref wi), .val (.ref wj), .unset]) rfl ?_
    show Steps p.tables e below (T4.setTop (mkF m 38 #[.val (.int p1), .val (.int p2), .val (.int (own_rem (p1 &&& (2147483647 : Int32)) (7 : Int32))), .val (.int (own_rem (p2 &&& (2147483647 : Int32)) (8 : Int32))), .val (.ref wi), .val (.ref wj), .unset] [])) _
    refine XS.iloadN X4.here hx rfl (hb hby at_38) rfl ?_
    show Steps p.tables e below (T4.setTop (mkF m 39 #[.val (.int p1), .val (.int p2), .val (.int (own_rem (p1 &&& (2147483647 : Int32)) (7 : Int32))), .val (.int (own_rem (p2 &&& (2147483647 : Int32)) (8 : Int32))), .val (.ref wi), .val (.ref wj), .unset] [(.int (own_rem (p2 &&& (2147483647 : Int32)) (8 : Int32)))])) _
    refine XS.bipush X4.here hx rfl (hb hby at_39) ?_
    show Steps p.tables e below (T4.setTop (mkF m 41 #[.val (.int p1), .val (.int p2), .val (.int (own_rem (p1 &&& (2147483647 : Int32)) (7 : Int32))), .val (.int (own_rem (p2 &&& (2147483647 : Int32)) (8 : Int32))), .val (.ref wi), .val (.ref wj), .unset] [(.int (7 : Int32)), (.int (own_rem (p2 &&& (2147483647 : Int32)) (8 : Int32)))])) _
    refine XS.icmpYes X4.here hx rfl (pc0 := 41) (pc' := 50) rfl (hb hby at_41) rfl (feq hc41).2 (by decide) (by decide) ?_
    show Steps p.tables e below (T4.setTop (mkF m 50 #[.val (.int p1), .val (.int p2), .val (.int (own_rem (p1 &&& (2147483647 : Int32)) (7 : Int32))), .val (.int (own_rem (p2 &&& (2147483647 : Int32)) (8 : Int32))), .val (.ref wi), .val (.ref wj), .unset] [])) _
    refine XS.iloadN X4.here hx rfl (hb hby at_50) rfl ?_
    show Steps p.tables e below (T4.setTop (mkF m 51 #[.val (.int p1), .val (.int p2), .val (.int (own_rem (p1 &&& (2147483647 : Int32)) (7 : Int32))), .val (.int (own_rem (p2 &&& (2147483647 : Int32)) (8 : Int32))), .val (.ref wi), .val (.ref wj), .unset] [(.int (own_rem (p2 &&& (2147483647 : Int32)) (8 : Int32)))])) _
    refine XS.ifYes X4.here hx rfl (pc0 := 51) (pc' := 60) rfl (hb hby at_51) rfl ((if0 _ _).trans (feq hc51).2) (by decide) (by decide) ?_
    show Steps p.tables e below (T4.setTop (mkF m 60 #[.val (.int p1), .val (.int p2), .val (.int (own_rem (p1 &&& (2147483647 : Int32)) (7 : Int32))), .val (.int (own_rem (p2 &&& (2147483647 : Int32)) (8 : Int32))), .val (.ref wi), .val (.ref wj), .unset] [])) _
    refine XS.iloadN X4.here hx rfl (hb hby at_60) rfl ?_
    show Steps p.tables e below (T4.setTop (mkF m 61 #[.val (.int p1), .val (.int p2), .val (.int (own_rem (p1 &&& (2147483647 : Int32)) (7 : Int32))), .val (.int (own_rem (p2 &&& (2147483647 : Int32)) (8 : Int32))), .val (.ref wi), .val (.ref wj), .unset] [(.int (own_rem (p2 &&& (2147483647 : Int32)) (8 : Int32)))])) _
    refine XS.iloadN X4.here hx rfl (hb hby at_61) rfl ?_
    show Steps p.tables e below (T4.setTop (mkF m 62 #[.val (.int p1), .val (.int p2), .val (.int (own_rem (p1 &&& (2147483647 : Int32)) (7 : Int32))), .val (.int (own_rem (p2 &&& (2147483647 : Int32)) (8 : Int32))), .val (.ref wi), .val (.ref wj), .unset] [(.int (own_rem (p1 &&& (2147483647 : Int32)) (7 : Int32))), (.int (own_rem (p2 &&& (2147483647 : Int32)) (8 : Int32)))])) _
    refine XS.icmpYes X4.here hx rfl (pc0 := 62) (pc' := 69) rfl (hb hby at_62) rfl (feq hc62).2 (by decide) (by decide) ?_
    show Steps p.tables e below (T4.setTop (mkF m 69 #[.val (.int p1), .val (.int p2), .val (.int (own_rem (p1 &&& (2147483647 : Int32)) (7 : Int32))), .val (.int (own_rem (p2 &&& (2147483647 : Int32)) (8 : Int32))), .val (.ref wi), .val (.ref wj), .unset] [])) _
    refine XS.iconst X4.here hx rfl (hb hby at_69) ?_
    show Steps p.tables e below (T4.setTop (mkF m 70 #[.val (.int p1), .val (.int p2), .val (.int (own_rem (p1 &&& (2147483647 : Int32)) (7 : Int32))), .val (.int (own_rem (p2 &&& (2147483647 : Int32)) (8 : Int32))), .val (.ref wi), .val (.ref wj), .unset] [(.int (0 : Int32))])) _
    refine XS.istore X4.here hx rfl (hb hby at_70) rfl (l' := #[.val (.int p1), .val (.int p2), .val (.int (own_rem (p1 &&& (2147483647 : Int32)) (7 : Int32))), .val (.int (own_rem (p2 &&& (2147483647 : Int32)) (8 : Int32))), .val (.ref wi), .val (.ref wj), .val (.int (0 : Int32))]) rfl ?_
    show Steps p.tables e below (T4.setTop (mkF m 72 #[.val (.int p1), .val (.int p2), .val (.int (own_rem (p1 &&& (2147483647 : Int32)) (7 : Int32))), .val (.int (own_rem (p2 &&& (2147483647 : Int32)) (8 : Int32))), .val (.ref wi), .val (.ref wj), .val (.int (0 : Int32))] [])) _
    refine XS.aload X4.here hx rfl (hb hby at_72) rfl rfl ?_
    show Steps p.tables e below (T4.setTop (mkF m 74 #[.val (.int p1), .val (.int p2), .val (.int (own_rem (p1 &&& (2147483647 : Int32)) (7 : Int32))), .val (.int (own_rem (p2 &&& (2147483647 : Int32)) (8 : Int32))), .val (.ref wi), .val (.ref wj), .val (.int (0 : Int32))] [(.ref wi)])) _
    refine XS.aload X4.here hx rfl (hb hby at_74) rfl rfl ?_
    show Steps p.tables e below (T4.setTop (mkF m 76 #[.val (.int p1), .val (.int p2), .val (.int (own_rem (p1 &&& (2147483647 : Int32)) (7 : Int32))), .val (.int (own_rem (p2 &&& (2147483647 : Int32)) (8 : Int32))), .val (.ref wi), .val (.ref wj), .val (.int (0 : Int32))] [(.ref wj), (.ref wi)])) _
    refine st5.trans ?_
    show Steps p.tables e below (T5.setTop (mkF m 79 #[.val (.int p1), .val (.int p2), .val (.int (own_rem (p1 &&& (2147483647 : Int32)) (7 : Int32))), .val (.int (own_rem (p2 &&& (2147483647 : Int32)) (8 : Int32))), .val (.ref wi), .val (.ref wj), .val (.int (0 : Int32))] [(.int (0 : Int32))])) _
    refine XS.iload X5.here hx rfl (hb hby at_79) rfl ?_
    show Steps p.tables e below (T5.setTop (mkF m 81 #[.val (.int p1), .val (.int p2), .val (.int (own_rem (p1 &&& (2147483647 : Int32)) (7 : Int32))), .val (.int (own_rem (p2 &&& (2147483647 : Int32)) (8 : Int32))), .val (.ref wi), .val (.ref wj), .val (.int (0 : Int32))] [(.int (0 : Int32)), (.int (0 : Int32))])) _
    refine XS.icmpNo X5.here hx rfl (hb hby at_81) rfl (teq (rfl : (0 : Int32) = (0 : Int32))).2 ?_
    show Steps p.tables e below (T5.setTop (mkF m 84 #[.val (.int p1), .val (.int p2), .val (.int (own_rem (p1 &&& (2147483647 : Int32)) (7 : Int32))), .val (.int (own_rem (p2 &&& (2147483647 : Int32)) (8 : Int32))), .val (.ref wi), .val (.ref wj), .val (.int (0 : Int32))] [])) _
    refine XS.iconst X5.here hx rfl (hb hby at_84) ?_
    show Steps p.tables e below (T5.setTop (mkF m 85 #[.val (.int p1), .val (.int p2), .val (.int (own_rem (p1 &&& (2147483647 : Int32)) (7 : Int32))), .val (.int (own_rem (p2 &&& (2147483647 : Int32)) (8 : Int32))), .val (.ref wi), .val (.ref wj), .val (.int (0 : Int32))] [(.int (1 : Int32))])) _
    refine XS.goto X5.here hx rfl (pc0 := 85) (pc' := 89) rfl (hb hby at_85) (by decide) (by decide) ?_
    show Steps p.tables e below (T5.setTop (mkF m 89 #[.val (.int p1), .val (.int p2), .val (.int (own_rem (p1 &&& (2147483647 : Int32)) (7 : Int32))), .val (.int (own_rem (p2 &&& (2147483647 : Int32)) (8 : Int32))), .val (.ref wi), .val (.ref wj), .val (.int (0 : Int32))] [(.int (1 : Int32))])) _
    exact retN X5 hx (t := .boolean) Bd.returns (by simp) (hb hby at_89) hr
  · show Q0 Z p1 p2 h0 n0 _ T5.heap _
    exact ⟨rfl, N5⟩
theorem own_phase (l : Launch) (Z : State) (a0 : Array Value) (hw : ∀ d ∈ tables_1, d.before a0 Z = true) (k : Int32) (hk : 0 ≤ k.toInt ∧ k.toInt < 7) (h0 : Heap) (n0 : Nat) (Z0 : n0 ≤ h0.size) (w0 : Addr) (w1 : Addr) (w2 : Addr) (w3 : Addr) (w4 : Addr) (w5 : Addr) (w6 : Addr) (S0 : Sta Z h0 "com/example/libphase/libphase/event/PhaseId" "ANY_PHASE" "Lcom/example/libphase/libphase/event/PhaseId;" (.ref w0)) (E0 : Exa Z h0 w0 "com/example/libphase/libphase/event/PhaseId") (F0 : Fld Z h0 w0 "java/lang/Enum" "ordinal" "I" (.int (0 : Int32))) (S1 : Sta Z h0 "com/example/libphase/libphase/event/PhaseId" "RESTORE_VIEW" "Lcom/example/libphase/libphase/event/PhaseId;" (.ref w1)) (E1 : Exa Z h0 w1 "com/example/libphase/libphase/event/PhaseId") (F1 : Fld Z h0 w1 "java/lang/Enum" "ordinal" "I" (.int (1 : Int32))) (S2 : Sta Z h0 "com/example/libphase/libphase/event/PhaseId" "APPLY_REQUEST_VALUES" "Lcom/example/libphase/libphase/event/PhaseId;" (.ref w2)) (E2 : Exa Z h0 w2 "com/example/libphase/libphase/event/PhaseId") (F2 : Fld Z h0 w2 "java/lang/Enum" "ordinal" "I" (.int (2 : Int32))) (S3 : Sta Z h0 "com/example/libphase/libphase/event/PhaseId" "PROCESS_VALIDATIONS" "Lcom/example/libphase/libphase/event/PhaseId;" (.ref w3)) (E3 : Exa Z h0 w3 "com/example/libphase/libphase/event/PhaseId") (F3 : Fld Z h0 w3 "java/lang/Enum" "ordinal" "I" (.int (3 : Int32))) (S4 : Sta Z h0 "com/example/libphase/libphase/event/PhaseId" "UPDATE_MODEL_VALUES" "Lcom/example/libphase/libphase/event/PhaseId;" (.ref w4)) (E4 : Exa Z h0 w4 "com/example/libphase/libphase/event/PhaseId") (F4 : Fld Z h0 w4 "java/lang/Enum" "ordinal" "I" (.int (4 : Int32))) (S5 : Sta Z h0 "com/example/libphase/libphase/event/PhaseId" "INVOKE_APPLICATION" "Lcom/example/libphase/libphase/event/PhaseId;" (.ref w5)) (E5 : Exa Z h0 w5 "com/example/libphase/libphase/event/PhaseId") (F5 : Fld Z h0 w5 "java/lang/Enum" "ordinal" "I" (.int (5 : Int32))) (S6 : Sta Z h0 "com/example/libphase/libphase/event/PhaseId" "RENDER_RESPONSE" "Lcom/example/libphase/libphase/event/PhaseId;" (.ref w6)) (E6 : Exa Z h0 w6 "com/example/libphase/libphase/event/PhaseId") (F6 : Fld Z h0 w6 "java/lang/Enum" "ordinal" "I" (.int (6 : Int32))) :
    ∃ w : Addr, (MetFree l (⟨"com/example/libphase/libphase/event/PhaseIdIsCoveredByPinLaw", "phase", "(I)Lcom/example/libphase/libphase/event/PhaseId;"⟩ : MethodName) (head1 (Jvm.Cond.code (⟨"com/example/libphase/libphase/event/PhaseIdIsCoveredByPinLaw", "phase", "(I)Lcom/example/libphase/libphase/event/PhaseId;"⟩ : MethodName) method_2_code 1 (some (.object "com/example/libphase/libphase/event/PhaseId")) :: []) ({ frames := 0, cells := 0, slots := 0, locals := 0 } : Room)) (fun a U => a = #[(.int k)] ∧ Z.Warmed39 U.vm ∧ U.heap = h0) (fun _ _ _ _ _ => True) (fun _ U o U' => ∃ v L, o = .returned v ∧ Q1 Z k w h0 n0 v U'.heap L ∧ FrameEnd U o U' L ({ frames := 0, cells := 0, slots := 0, locals := 0 } : Room).cells ({ frames := 0, cells := 0, slots := 0, locals := 0 } : Room).slots)) ∧ Exa Z h0 w "com/example/libphase/libphase/event/PhaseId" ∧ Fld Z h0 w "java/lang/Enum" "ordinal" "I" (.int k) ∧ (k = 0 → w = w0) := by
  rcases own_seven k hk with h | h | h | h | h | h | h
  · exact ⟨w0, rm1_0 l Z a0 hw [] k w0 h0 n0 Z0 S0 h, E0, by rw [h]; exact F0, fun _ => rfl⟩
  · exact ⟨w1, rm1_1 l Z a0 hw [] k w1 h0 n0 Z0 S1 (by rw [h]; decide) h, E1, by rw [h]; exact F1, fun q => absurd (h.symm.trans q) (by decide)⟩
  · exact ⟨w2, rm1_2 l Z a0 hw [] k w2 h0 n0 Z0 S2 (by rw [h]; decide) (by rw [h]; decide) h, E2, by rw [h]; exact F2, fun q => absurd (h.symm.trans q) (by decide)⟩
  · exact ⟨w3, rm1_3 l Z a0 hw [] k w3 h0 n0 Z0 S3 (by rw [h]; decide) (by rw [h]; decide) (by rw [h]; decide) h, E3, by rw [h]; exact F3, fun q => absurd (h.symm.trans q) (by decide)⟩
  · exact ⟨w4, rm1_4 l Z a0 hw [] k w4 h0 n0 Z0 S4 (by rw [h]; decide) (by rw [h]; decide) (by rw [h]; decide) (by rw [h]; decide) h, E4, by rw [h]; exact F4, fun q => absurd (h.symm.trans q) (by decide)⟩
  · exact ⟨w5, rm1_5 l Z a0 hw [] k w5 h0 n0 Z0 S5 (by rw [h]; decide) (by rw [h]; decide) (by rw [h]; decide) (by rw [h]; decide) (by rw [h]; decide) h, E5, by rw [h]; exact F5, fun q => absurd (h.symm.trans q) (by decide)⟩
  · exact ⟨w6, rm1_6 l Z a0 hw [] k w6 h0 n0 Z0 S6 (by rw [h]; decide) (by rw [h]; decide) (by rw [h]; decide) (by rw [h]; decide) (by rw [h]; decide) (by rw [h]; decide), E6, by rw [h]; exact F6, fun q => absurd (h.symm.trans q) (by decide)⟩
theorem rm0 (l : Launch) (Z : State) (a0 : Array Value) (hw : ∀ d ∈ tables_1, d.before a0 Z = true) (ws : List Jvm.Cond) (p1 : Int32) (p2 : Int32) (h0 : Heap) (n0 : Nat) (Z0 : n0 ≤ h0.size) (w0 : Addr) (w1 : Addr) (w2 : Addr) (w3 : Addr) (w4 : Addr) (w5 : Addr) (w6 : Addr) (S0 : Sta Z h0 "com/example/libphase/libphase/event/PhaseId" "ANY_PHASE" "Lcom/example/libphase/libphase/event/PhaseId;" (.ref w0)) (E0 : Exa Z h0 w0 "com/example/libphase/libphase/event/PhaseId") (F0 : Fld Z h0 w0 "java/lang/Enum" "ordinal" "I" (.int (0 : Int32))) (S1 : Sta Z h0 "com/example/libphase/libphase/event/PhaseId" "RESTORE_VIEW" "Lcom/example/libphase/libphase/event/PhaseId;" (.ref w1)) (E1 : Exa Z h0 w1 "com/example/libphase/libphase/event/PhaseId") (F1 : Fld Z h0 w1 "java/lang/Enum" "ordinal" "I" (.int (1 : Int32))) (S2 : Sta Z h0 "com/example/libphase/libphase/event/PhaseId" "APPLY_REQUEST_VALUES" "Lcom/example/libphase/libphase/event/PhaseId;" (.ref w2)) (E2 : Exa Z h0 w2 "com/example/libphase/libphase/event/PhaseId") (F2 : Fld Z h0 w2 "java/lang/Enum" "ordinal" "I" (.int (2 : Int32))) (S3 : Sta Z h0 "com/example/libphase/libphase/event/PhaseId" "PROCESS_VALIDATIONS" "Lcom/example/libphase/libphase/event/PhaseId;" (.ref w3)) (E3 : Exa Z h0 w3 "com/example/libphase/libphase/event/PhaseId") (F3 : Fld Z h0 w3 "java/lang/Enum" "ordinal" "I" (.int (3 : Int32))) (S4 : Sta Z h0 "com/example/libphase/libphase/event/PhaseId" "UPDATE_MODEL_VALUES" "Lcom/example/libphase/libphase/event/PhaseId;" (.ref w4)) (E4 : Exa Z h0 w4 "com/example/libphase/libphase/event/PhaseId") (F4 : Fld Z h0 w4 "java/lang/Enum" "ordinal" "I" (.int (4 : Int32))) (S5 : Sta Z h0 "com/example/libphase/libphase/event/PhaseId" "INVOKE_APPLICATION" "Lcom/example/libphase/libphase/event/PhaseId;" (.ref w5)) (E5 : Exa Z h0 w5 "com/example/libphase/libphase/event/PhaseId") (F5 : Fld Z h0 w5 "java/lang/Enum" "ordinal" "I" (.int (5 : Int32))) (S6 : Sta Z h0 "com/example/libphase/libphase/event/PhaseId" "RENDER_RESPONSE" "Lcom/example/libphase/libphase/event/PhaseId;" (.ref w6)) (E6 : Exa Z h0 w6 "com/example/libphase/libphase/event/PhaseId") (F6 : Fld Z h0 w6 "java/lang/Enum" "ordinal" "I" (.int (6 : Int32))) :
    MetFree l x (head1 (Jvm.Cond.code x code maxLocals ret :: ws) room_1) (fun a U => a = #[(.int p1), (.int p2)] ∧ Z.Warmed39 U.vm ∧ U.heap = h0) (fun _ _ _ _ _ => True) (fun _ U o U' => ∃ v L, o = .returned v ∧ Q0 Z p1 p2 h0 n0 v U'.heap L ∧ FrameEnd U o U' L room_1.cells room_1.slots) := by
  obtain ⟨wi, hpi, Ei, Fi, _⟩ := own_phase l Z a0 hw (own_rem (p1 &&& (2147483647 : Int32)) (7 : Int32)) (own_i7 p1) h0 n0 Z0 w0 w1 w2 w3 w4 w5 w6 S0 E0 F0 S1 E1 F1 S2 E2 F2 S3 E3 F3 S4 E4 F4 S5 E5 F5 S6 E6 F6
  by_cases h7 : (own_rem (p2 &&& (2147483647 : Int32)) (8 : Int32)) = (7 : Int32)
  · exact rm0_n l Z a0 hw ws p1 p2 h0 n0 Z0 h7 h7 wi w0 Ei S0 hpi
  · have hj : 0 ≤ ((own_rem (p2 &&& (2147483647 : Int32)) (8 : Int32))).toInt ∧ ((own_rem (p2 &&& (2147483647 : Int32)) (8 : Int32))).toInt < 7 := by
      have q := own_j8 p2
      have e7 : (7 : Int32).toInt = 7 := rfl
      rw [← Int32.toInt_inj, e7] at h7
      omega
    obtain ⟨wj, hpj, Ej, Fj, hz⟩ := own_phase l Z a0 hw (own_rem (p2 &&& (2147483647 : Int32)) (8 : Int32)) hj h0 n0 Z0 w0 w1 w2 w3 w4 w5 w6 S0 E0 F0 S1 E1 F1 S2 E2 F2 S3 E3 F3 S4 E4 F4 S5 E5 F5 S6 E6 F6
    by_cases h0z : (own_rem (p2 &&& (2147483647 : Int32)) (8 : Int32)) = (0 : Int32)
    · exact rm0_z l Z a0 hw ws p1 p2 h0 n0 Z0 h7 h7 h0z wi wj w0 Ei S0 hpi hpj (hz h0z)
    · have nja : ¬ (wj = w0) := Fld.ne Fj F0 (fun q => h0z (Value.int.inj q))
      by_cases hij : (own_rem (p2 &&& (2147483647 : Int32)) (8 : Int32)) = (own_rem (p1 &&& (2147483647 : Int32)) (7 : Int32))
      · have nia : ¬ (wi = w0) := Fld.ne Fi F0 (fun q => h0z (hij.trans (Value.int.inj q)))
        exact rm0_e l Z a0 hw ws p1 p2 h0 n0 Z0 h7 h7 h0z hij wi wi w0 Ei S0 hpi (by rw [hij]; exact hpi) nia rfl
      · exact rm0_d l Z a0 hw ws p1 p2 h0 n0 Z0 h7 h7 h0z hij wi wj w0 Ei S0 hpi hpj nja (Fld.ne Fj Fi (fun q => hij (Value.int.inj q)))

theorem own_eqi {args : Array Value} {first s : State} {o : Option Outcome} {idx : List Nat} {t : Term} {k : Int32} (h : (Cond.eq t (.int k)).value args first o s idx = some true) : t.eval args first o idx s = some (.int k) := by
  obtain ⟨x, y, hx, hy, k1, k2⟩ := cmp_v (Or.inl h)
  rw [Term.int_eval] at hy
  obtain rfl := Option.some.inj hy
  obtain ⟨z, rfl⟩ : ∃ z, x = .int z := k2
  have h3 := h
  simp only [Cond.value, hx, Term.int_eval] at h3
  simp at h3
  rw [hx, h3]
set_option maxRecDepth 65536 in
set_option maxHeartbeats 40000000 in
theorem comes_1 {Post : Tables → Env → Array Value → State → Outcome → State → Prop} (hpost : ∀ tb e args s v u, (limb_1_1.after args s (.returned v) u = true ∧ limb_1_2.after args s (.returned v) u = true ∧ True) → FrameEnd s (.returned v) u (Jvm.fieldLocs frame_1_writes args s ++ Jvm.arrayLocs frame_1_arrays args s ++ Jvm.staticLocs frame_1_statics s) 0 0 → Post tb e args s (.returned v) u) :
    ArmFor flags0 classFile x code maxLocals ret World_1 tables_1 room_1 Calls_1 rest_1 Pre_1 Post := by
  intro l hfl _ _ p e ha hc hk s m args below hf hA hF happ hP
  obtain ⟨hcalls, hrest, hpre⟩ := hP
  obtain ⟨-, -, -, hnamed, -, -, -, hat⟩ := (Spec.applies_iff hf).mp happ
  obtain ⟨hg, hn⟩ := and_e (Cond.before_iff.mp (show (Jvm.Cond.and given_1 narrow_1).before args s = true from hpre))
  obtain ⟨g5, g6⟩ := and_e hg
  obtain ⟨g7, g8⟩ := and_e g6
  obtain ⟨aw0, aw1, rfl⟩ : ∃ aw0 aw1 : Value, args = #[aw0, aw1] := by
    have hs : args.size = 2 := by simpa [Cond.value, given_1] using g5
    obtain ⟨L⟩ := args
    match L, hs with
    | [aw0, aw1], _ => exact ⟨aw0, aw1, rfl⟩
  have hw := fun d (hd : d ∈ tables_1) => atoms_spec (ws := Jvm.Cond.code x code maxLocals ret :: tables_1) hat d (List.mem_cons_of_mem _ hd)
  have hfit : Fit s := fun {y c} hc i hi => by
    obtain ⟨ha, rfl⟩ := Array.getElem?_eq_some_iff.mp hc
    have q := List.all_eq_true.mp ((Array.all_eq_true_iff_forall_mem.mp hF) _ (Array.getElem_mem ha)) i (List.mem_range.mpr hi)
    simpa [Array.getElem?_eq_getElem hi] using q
  obtain ⟨i0, ei0⟩ := is_v g7
  obtain rfl : aw0 = (.int i0) := Option.some.inj ei0
  obtain ⟨i1, ei1⟩ := is_v g8
  obtain rfl : aw1 = (.int i1) := Option.some.inj ei1
  obtain ⟨x0, m0⟩ := and_e hn
  obtain ⟨x3, m1⟩ := and_e m0
  obtain ⟨y3, m2⟩ := and_e m1
  obtain ⟨y0, m3⟩ := and_e m2
  obtain ⟨x1, m4⟩ := and_e m3
  obtain ⟨y1, m5⟩ := and_e m4
  obtain ⟨x4, m6⟩ := and_e m5
  obtain ⟨y4, m7⟩ := and_e m6
  obtain ⟨x5, m8⟩ := and_e m7
  obtain ⟨y5, m9⟩ := and_e m8
  obtain ⟨x6, m10⟩ := and_e m9
  obtain ⟨y6, m11⟩ := and_e m10
  obtain ⟨x2, m12⟩ := and_e m11
  have y2 := m12
  obtain ⟨w0, ew0⟩ := exa_v x0
  have S0 := Sta.start ew0 (Or.inr ⟨hw _ (List.mem_of_getElem? (i := 6) rfl), hw _ (List.mem_of_getElem? (i := 7) rfl)⟩)
  have E0 := Exa.start ew0 x0
  have F0 := Fld.start ((fld_at ew0).symm.trans (own_eqi y0))
  obtain ⟨w1, ew1⟩ := exa_v x1
  have S1 := Sta.start ew1 (Or.inr ⟨hw _ (List.mem_of_getElem? (i := 6) rfl), hw _ (List.mem_of_getElem? (i := 17) rfl)⟩)
  have E1 := Exa.start ew1 x1
  have F1 := Fld.start ((fld_at ew1).symm.trans (own_eqi y1))
  obtain ⟨w2, ew2⟩ := exa_v x2
  have S2 := Sta.start ew2 (Or.inr ⟨hw _ (List.mem_of_getElem? (i := 6) rfl), hw _ (List.mem_of_getElem? (i := 25) rfl)⟩)
  have E2 := Exa.start ew2 x2
  have F2 := Fld.start ((fld_at ew2).symm.trans (own_eqi y2))
  obtain ⟨w3, ew3⟩ := exa_v x3
  have S3 := Sta.start ew3 (Or.inr ⟨hw _ (List.mem_of_getElem? (i := 6) rfl), hw _ (List.mem_of_getElem? (i := 9) rfl)⟩)
  have E3 := Exa.start ew3 x3
  have F3 := Fld.start ((fld_at ew3).symm.trans (own_eqi y3))
  obtain ⟨w4, ew4⟩ := exa_v x4
  have S4 := Sta.start ew4 (Or.inr ⟨hw _ (List.mem_of_getElem? (i := 6) rfl), hw _ (List.mem_of_getElem? (i := 19) rfl)⟩)
  have E4 := Exa.start ew4 x4
  have F4 := Fld.start ((fld_at ew4).symm.trans (own_eqi y4))
  obtain ⟨w5, ew5⟩ := exa_v x5
  have S5 := Sta.start ew5 (Or.inr ⟨hw _ (List.mem_of_getElem? (i := 6) rfl), hw _ (List.mem_of_getElem? (i := 21) rfl)⟩)
  have E5 := Exa.start ew5 x5
  have F5 := Fld.start ((fld_at ew5).symm.trans (own_eqi y5))
  obtain ⟨w6, ew6⟩ := exa_v x6
  have S6 := Sta.start ew6 (Or.inr ⟨hw _ (List.mem_of_getElem? (i := 6) rfl), hw _ (List.mem_of_getElem? (i := 23) rfl)⟩)
  have E6 := Exa.start ew6 x6
  have F6 := Fld.start ((fld_at ew6).symm.trans (own_eqi y6))
  obtain ⟨n, o, h1, h2, h3, _, L, rfl, ⟨rfl, N⟩, hq⟩ := rm0 l s _ hw tables_1 i0 i1 s.heap s.heap.size (Nat.le_refl _) w0 w1 w2 w3 w4 w5 w6 S0 E0 F0 S1 E1 F1 S2 E2 F2 S3 E3 F3 S4 E4 F4 S5 E5 F5 S6 E6 F6 p e ha hc hk s m _ below hf ((Spec.applies_iff_loose hf).mp happ).1 ⟨rfl, State.Warmed39.refl s, rfl⟩ trivial
  refine ⟨n, _, h1, h2, h3, hpost _ _ _ _ _ _ ⟨Cond.after_iff.mpr rfl, Cond.after_iff.mpr (eq_i res_at (Term.int_eval (1)) rfl), trivial⟩ ⟨hq.1, hq.2.1, (hq.2.2.sift fun y hy => Or.inr (N y hy)).mono (by decide) (by decide)⟩⟩
theorem main_1_1 : Claimed_1_1 := comes_1 fun _ _ _ _ _ _ h hF => ⟨h.1, hF⟩
theorem main_1_2 : Claimed_1_2 := comes_1 fun _ _ _ _ _ _ h hF => ⟨h.2.1, hF⟩
end Jvm.Pilot.@@N@@
namespace Jvm.Pilot.@@N@@
open Jvm Jvm.ClassFile Sem Op Lib Jvm.Free Jvm.Stand Jvm.Pilot.@@N@@.Jvm.D
/-! MADE BY PROGRAM (witnessworld.py) out of the Statement's table words and the real class files: 12 classes; the members and pool entries that the words name. The judged class is class 1, her method 2. -/
namespace start1
open Jvm.ClassFile
def u (s : String) : CpInfo := .utf8 (stringToUtf16 s)
/-- a pool by its gaps: so many unusable entries, then the entry; so many at the end -/
def gap : Nat → List CpInfo → List CpInfo
  | 0, r => r
  | n + 1, r => .unusable :: gap n r
def poolList (es : List (Nat × CpInfo)) (last : Nat) : List CpInfo := es.foldr (fun e r => gap e.1 (e.2 :: r)) (gap last [])
def pool (es : List (Nat × CpInfo)) (last : Nat) : Array CpInfo := ⟨poolList es last⟩
def fileOf (pool : Array CpInfo) (this : Nat) (attrs : Array Attribute := #[]) (ms : Array MethodInfo := #[]) (fl : Nat := 33) (sup : Nat := 0) (ifs : Array Nat := #[]) (fds : Array FieldInfo := #[]) : ClassFile where
  minorVersion := 0
  majorVersion := 65
  constantPool := pool
  accessFlags := fl
  thisClass := this
  superClass := sup
  interfaces := ifs
  fields := fds
  methods := ms
  attributes := attrs
def plain (name : String) (sup : Option ClassId) : Class where
  name := name
  kind := .ordinary
  loader := none
  accessFlags := 33
  super := sup
  interfaces := #[]
  cf := none
  fields := #[]
  methods := #[]
  instanceTypes := #[]
  staticTypes := #[]
  resolved := #[]
  callSites := []
  init := .initialized
  statics := none
  mirror := none

def pool0 : Array CpInfo := pool [(5, u "<init>"), (0, u "()V"), (1, .class_ 10), (1, u "java/lang/Object")] 113

def k0m0 : Method := { name := "<init>", desc := "()V", sig := { parameters := [], returnType := none }, accessFlags := 1, code := none }
/-- java/lang/Object -/
def k0 : Class := { plain "java/lang/Object" none with
  accessFlags := 33
  interfaces := #[]
  cf := some (fileOf pool0 8 #[] #[{ accessFlags := 1, nameIndex := 5, descriptorIndex := 6, attributes := #[] }] 33 0 #[] #[])
  fields := #[]
  methods := #[k0m0]
  instanceTypes := #[]
  staticTypes := #[]
  resolved := Array.replicate 124 none
  statics := none }

def pool1 : Array CpInfo := pool [(2, .class_ 4), (1, u "java/lang/Object"), (0, u "<init>"), (0, u "()V"), (0, .fieldref 8 9), (0, .class_ 10), (0, .nameAndType 11 12), (0, u "com/example/libphase/libphase/event/PhaseId"), (0, u "ANY_PHASE"), (0, u "Lcom/example/libphase/libphase/event/PhaseId;"), (0, .fieldref 8 14), (0, .nameAndType 15 12), (0, u "RESTORE_VIEW"), (0, .fieldref 8 17), (0, .nameAndType 18 12), (0, u "APPLY_REQUEST_VALUES"), (0, .fieldref 8 20), (0, .nameAndType 21 12), (0, u "PROCESS_VALIDATIONS"), (0, .fieldref 8 23), (0, .nameAndType 24 12), (0, u "UPDATE_MODEL_VALUES"), (0, .fieldref 8 26), (0, .nameAndType 27 12), (0, u "INVOKE_APPLICATION"), (0, .fieldref 8 29), (0, .nameAndType 30 12), (0, u "RENDER_RESPONSE"), (0, .integer 2147483647), (0, .methodref 33 34), (0, .class_ 35), (0, .nameAndType 36 37), (0, u "com/example/libphase/libphase/event/PhaseIdIsCoveredByPinLaw"), (0, u "phase"), (0, u "(I)Lcom/example/libphase/libphase/event/PhaseId;"), (0, .methodref 8 39), (0, .nameAndType 40 41), (0, u "isCoveredBy"), (0, u "(Lcom/example/libphase/libphase/event/PhaseId;)Z"), (3, u "law"), (0, u "(II)Z")] 2

def k1m0 : Method := { name := "<init>", desc := "()V", sig := { parameters := [], returnType := none }, accessFlags := 1, code := none }
def k1c1 : Code := { maxStack := 2, maxLocals := 1, code := method_2_code, exceptionTable := #[], attributes := #[] }
def k1m1 : Method := { name := "phase", desc := "(I)Lcom/example/libphase/libphase/event/PhaseId;", sig := { parameters := [.int], returnType := some (.object "com/example/libphase/libphase/event/PhaseId") }, accessFlags := 10, code := some k1c1 }
def k1c2 : Code := { maxStack := 2, maxLocals := 7, code := code, exceptionTable := #[], attributes := #[] }
def k1m2 : Method := { name := "law", desc := "(II)Z", sig := { parameters := [.int, .int], returnType := some .boolean }, accessFlags := 9, code := some k1c2 }
/-- com/example/libphase/libphase/event/PhaseIdIsCoveredByPinLaw -/
def k1 : Class := { plain "com/example/libphase/libphase/event/PhaseIdIsCoveredByPinLaw" (some 0) with
  accessFlags := 49
  interfaces := #[]
  cf := some (fileOf pool1 33 #[] #[{ accessFlags := 1, nameIndex := 5, descriptorIndex := 6, attributes := #[] }, { accessFlags := 10, nameIndex := 36, descriptorIndex := 37, attributes := #[] }, { accessFlags := 9, nameIndex := 45, descriptorIndex := 46, attributes := #[] }] 49 2 #[] #[])
  fields := #[]
  methods := #[k1m0, k1m1, k1m2]
  instanceTypes := #[]
  staticTypes := #[]
  resolved := Array.replicate 49 none
  statics := none }

def pool2 : Array CpInfo := pool [(1, .class_ 2), (0, u "java/lang/constant/Constable"), (0, .class_ 4), (0, u "java/lang/Object")] 6

/-- java/lang/constant/Constable -/
def k2 : Class := { plain "java/lang/constant/Constable" (some 0) with
  accessFlags := 1537
  interfaces := #[]
  cf := some (fileOf pool2 1 #[] #[] 1537 3 #[] #[])
  fields := #[]
  methods := #[]
  instanceTypes := #[]
  staticTypes := #[]
  resolved := Array.replicate 11 none
  statics := none }

def pool3 : Array CpInfo := pool [(1, .class_ 2), (0, u "java/lang/Comparable"), (0, .class_ 4), (0, u "java/lang/Object")] 7

/-- java/lang/Comparable -/
def k3 : Class := { plain "java/lang/Comparable" (some 0) with
  accessFlags := 1537
  interfaces := #[]
  cf := some (fileOf pool3 1 #[] #[] 1537 3 #[] #[])
  fields := #[]
  methods := #[]
  instanceTypes := #[]
  staticTypes := #[]
  resolved := Array.replicate 12 none
  statics := none }

def pool4 : Array CpInfo := pool [(1, .class_ 2), (0, u "java/io/Serializable"), (0, .class_ 4), (0, u "java/lang/Object")] 2

/-- java/io/Serializable -/
def k4 : Class := { plain "java/io/Serializable" (some 0) with
  accessFlags := 1537
  interfaces := #[]
  cf := some (fileOf pool4 1 #[] #[] 1537 3 #[] #[])
  fields := #[]
  methods := #[]
  instanceTypes := #[]
  staticTypes := #[]
  resolved := Array.replicate 7 none
  statics := none }

def pool5 : Array CpInfo := pool [(2, .class_ 4), (1, u "java/lang/Enum"), (0, u "name"), (0, u "Ljava/lang/String;"), (2, u "ordinal"), (0, u "I"), (1, .class_ 14), (1, u "java/lang/Object"), (4, u "hash"), (86, .class_ 108), (1, u "java/lang/Enum$EnumDesc"), (2, .class_ 112), (0, u "java/lang/constant/Constable"), (0, .class_ 114), (0, u "java/lang/Comparable"), (0, .class_ 116), (0, u "java/io/Serializable")] 87

/-- java/lang/Enum -/
def k5 : Class := { plain "java/lang/Enum" (some 0) with
  accessFlags := 1057
  interfaces := #[2, 3, 4]
  cf := some (fileOf pool5 2 #[.nestMembers #[106]] #[] 1057 12 #[111, 113, 115] #[{ accessFlags := 18, nameIndex := 5, descriptorIndex := 6, attributes := #[] }, { accessFlags := 18, nameIndex := 9, descriptorIndex := 10, attributes := #[] }, { accessFlags := 2, nameIndex := 19, descriptorIndex := 10, attributes := #[] }])
  fields := #[{ name := "name", type := (.object "java/lang/String"), accessFlags := 18, slot := 0, constantValue := 0 }, { name := "ordinal", type := .int, accessFlags := 18, slot := 1, constantValue := 0 }, { name := "hash", type := .int, accessFlags := 2, slot := 2, constantValue := 0 }]
  methods := #[]
  instanceTypes := #[(.object "java/lang/String"), .int, .int]
  staticTypes := #[]
  resolved := Array.replicate 204 none
  statics := none }

def pool6 : Array CpInfo := pool [(1, .class_ 2), (0, u "com/example/libphase/libphase/event/PhaseId"), (0, .fieldref 1 4), (0, .nameAndType 5 6), (0, u "ANY_PHASE"), (0, u "Lcom/example/libphase/libphase/event/PhaseId;"), (2, u "RESTORE_VIEW"), (2, u "APPLY_REQUEST_VALUES"), (2, u "PROCESS_VALIDATIONS"), (2, u "UPDATE_MODEL_VALUES"), (2, u "INVOKE_APPLICATION"), (2, u "RENDER_RESPONSE"), (2, u "$VALUES"), (0, u "[Lcom/example/libphase/libphase/event/PhaseId;"), (6, .class_ 37), (1, u "java/lang/Enum"), (16, u "VALUES"), (0, u "Ljava/util/List;"), (77, u "isCoveredBy"), (0, u "(Lcom/example/libphase/libphase/event/PhaseId;)Z")] 22

def k6c0 : Code := { maxStack := 2, maxLocals := 2, code := prog_23_method_5_code, exceptionTable := #[], attributes := #[] }
def k6m0 : Method := { name := "isCoveredBy", desc := "(Lcom/example/libphase/libphase/event/PhaseId;)Z", sig := { parameters := [(.object "com/example/libphase/libphase/event/PhaseId")], returnType := some .boolean }, accessFlags := 1, code := some k6c0 }
/-- com/example/libphase/libphase/event/PhaseId -/
def k6 : Class := { plain "com/example/libphase/libphase/event/PhaseId" (some 5) with
  accessFlags := 16433
  interfaces := #[]
  cf := some (fileOf pool6 1 #[] #[{ accessFlags := 1, nameIndex := 133, descriptorIndex := 134, attributes := #[] }] 16433 35 #[] #[{ accessFlags := 16409, nameIndex := 5, descriptorIndex := 6, attributes := #[] }, { accessFlags := 16409, nameIndex := 9, descriptorIndex := 6, attributes := #[] }, { accessFlags := 16409, nameIndex := 12, descriptorIndex := 6, attributes := #[] }, { accessFlags := 16409, nameIndex := 15, descriptorIndex := 6, attributes := #[] }, { accessFlags := 16409, nameIndex := 18, descriptorIndex := 6, attributes := #[] }, { accessFlags := 16409, nameIndex := 21, descriptorIndex := 6, attributes := #[] }, { accessFlags := 16409, nameIndex := 24, descriptorIndex := 6, attributes := #[] }, { accessFlags := 25, nameIndex := 54, descriptorIndex := 55, attributes := #[] }, { accessFlags := 4122, nameIndex := 27, descriptorIndex := 28, attributes := #[] }])
  fields := #[{ name := "ANY_PHASE", type := (.object "com/example/libphase/libphase/event/PhaseId"), accessFlags := 16409, slot := 0, constantValue := 0 }, { name := "RESTORE_VIEW", type := (.object "com/example/libphase/libphase/event/PhaseId"), accessFlags := 16409, slot := 1, constantValue := 0 }, { name := "APPLY_REQUEST_VALUES", type := (.object "com/example/libphase/libphase/event/PhaseId"), accessFlags := 16409, slot := 2, constantValue := 0 }, { name := "PROCESS_VALIDATIONS", type := (.object "com/example/libphase/libphase/event/PhaseId"), accessFlags := 16409, slot := 3, constantValue := 0 }, { name := "UPDATE_MODEL_VALUES", type := (.object "com/example/libphase/libphase/event/PhaseId"), accessFlags := 16409, slot := 4, constantValue := 0 }, { name := "INVOKE_APPLICATION", type := (.object "com/example/libphase/libphase/event/PhaseId"), accessFlags := 16409, slot := 5, constantValue := 0 }, { name := "RENDER_RESPONSE", type := (.object "com/example/libphase/libphase/event/PhaseId"), accessFlags := 16409, slot := 6, constantValue := 0 }, { name := "VALUES", type := (.object "java/util/List"), accessFlags := 25, slot := 7, constantValue := 0 }, { name := "$VALUES", type := (.array (.object "com/example/libphase/libphase/event/PhaseId")), accessFlags := 4122, slot := 8, constantValue := 0 }]
  methods := #[k6m0]
  instanceTypes := #[(.object "java/lang/String"), .int, .int]
  staticTypes := #[(.object "com/example/libphase/libphase/event/PhaseId"), (.object "com/example/libphase/libphase/event/PhaseId"), (.object "com/example/libphase/libphase/event/PhaseId"), (.object "com/example/libphase/libphase/event/PhaseId"), (.object "com/example/libphase/libphase/event/PhaseId"), (.object "com/example/libphase/libphase/event/PhaseId"), (.object "com/example/libphase/libphase/event/PhaseId"), (.object "java/util/List"), (.array (.object "com/example/libphase/libphase/event/PhaseId"))]
  resolved := Array.replicate 157 none
  statics := some 0 }

def pool7 : Array CpInfo := pool [(1, u "java/lang/Cloneable"), (0, .class_ 1), (0, u "java/lang/Object"), (0, .class_ 3)] 3

/-- java/lang/Cloneable -/
def k7 : Class := { plain "java/lang/Cloneable" (some 0) with
  accessFlags := 1537
  interfaces := #[]
  cf := some (fileOf pool7 2 #[] #[] 1537 4 #[] #[])
  fields := #[]
  methods := #[]
  instanceTypes := #[]
  staticTypes := #[]
  resolved := Array.replicate 8 none
  statics := none }

/-- the primitive byte -/
def k8 : Class := { plain "byte" none with kind := .primitive 'B', accessFlags := 0x411 }
/-- [B -/
def k9 : Class := { plain "[B" (some 0) with kind := .array 8 .byte, interfaces := #[7, 4], accessFlags := 1041 }

/-- the primitive int -/
def k10 : Class := { plain "int" none with kind := .primitive 'I', accessFlags := 0x411 }
/-- [I -/
def k11 : Class := { plain "[I" (some 0) with kind := .array 10 .int, interfaces := #[7, 4], accessFlags := 1041 }

def heap : Heap := #[{ cls := 6, slots := #[.ref 1, .ref 2, .ref 3, .ref 4, .ref 5, .ref 6, .ref 7, .null, .null], vm := .statics 6 },
  { cls := 6, slots := #[.null, .int 0, .int 0], vm := .none },
  { cls := 6, slots := #[.null, .int 1, .int 0], vm := .none },
  { cls := 6, slots := #[.null, .int 2, .int 0], vm := .none },
  { cls := 6, slots := #[.null, .int 3, .int 0], vm := .none },
  { cls := 6, slots := #[.null, .int 4, .int 0], vm := .none },
  { cls := 6, slots := #[.null, .int 5, .int 0], vm := .none },
  { cls := 6, slots := #[.null, .int 6, .int 0], vm := .none }]
def classes : Array Class := #[k0, k1, k2, k3, k4, k5, k6, k7, k8, k9, k10, k11]
def interned : List (Array UInt16 × Addr) := []
def slotsUsed : Nat := 30
def theMethod : MethodId := ⟨1, 2⟩
def args0 : Array Value := #[.int 5, .int 6]
def aboutOver (below : List Frame) : State where
  vm := { classes := classes, interned := interned.toArray }
  heap := heap
  slotsUsed := slotsUsed
  threads := #[{ frames := .invoking theMethod args0 :: below }]
def below0 : List Frame := [.native { method := ⟨0, 0⟩, args := #[] }]
def about1 : State := aboutOver below0
def p0 : Program := .bare "" "" ""
def e0 : Env := launch0.env 0 0 0
theorem w_frames : about1.frames = Frame.invoking theMethod args0 :: below0 := rfl
set_option maxRecDepth 65536 in
theorem w_args : argsFit about1.vm theMethod args0 = true := by decide +kernel
set_option maxRecDepth 65536 in
theorem w_heap : heapFits about1 = true := by decide +kernel
set_option maxRecDepth 65536 in
theorem w_runnable : about1.curStatus? = some .runnable := by decide +kernel
set_option maxRecDepth 65536 in
theorem w_alone : about1.alone = true := by decide +kernel
set_option maxRecDepth 65536 in
theorem w_named : about1.methodNamed? x = some theMethod := by decide +kernel
set_option maxRecDepth 65536 in
theorem w_hears : about1.hears theMethod below0 = true := by decide +kernel
set_option maxRecDepth 65536 in
theorem w_ripe : about1.ripe theMethod args0 below0 = true := by decide +kernel
theorem w_running : about1.status = .running := rfl
set_option maxRecDepth 65536 in
theorem w_room : about1.hasRoom e0.platform room_1 = true :=
  launch0.hasRoom_least _ room_1 (by decide +kernel) (by decide +kernel) (by decide +kernel) (by decide +kernel) (by decide +kernel) (by decide +kernel)
theorem allAtoms_all (ts : List Jvm.Cond) (a : Array Jvm.Value) (st : Jvm.State) : (allAtoms ts).before a st = ts.all (fun c => c.before a st) := by
  induction ts with
  | nil => rfl
  | cons c t ih =>
    show (Jvm.Cond.and c (allAtoms t)).before a st = _
    rw [Jvm.Cond.before_and, ih, List.all_cons]
def words1 : List Jvm.Cond := Jvm.Cond.code x code maxLocals ret :: tables_1
/-- a 'code' word, met by the world's own term for the bytes: nothing is compared byte by byte -/
theorem code_word {y : MethodName} {bytes : ByteArray} {mx : Nat} {rt : Option FieldType} {a : Array Value} {s : State} {m : MethodId} {meth : Method} {c : Code} (h1 : s.methodNamed? y = some m) (h2 : s.vm.method? m = some meth) (h3 : meth.code = some c) (h4 : c.code = bytes)
    (h5 : (c.maxLocals == mx && c.exceptionTable.isEmpty && decide (c.maxStack ≤ mostOperands) && decide (meth.sig.returnType = rt) && !meth.locks && decide (parseMethodDescriptor y.desc = some meth.sig)) = true) : (Jvm.Cond.code y bytes mx rt).before a s = true := by
  simp only [Bool.and_eq_true, beq_iff_eq, Bool.not_eq_true', decide_eq_true_eq] at h5
  obtain ⟨⟨⟨⟨⟨g1, g2⟩, g3⟩, g4⟩, g5⟩, g6⟩ := h5
  simp [Cond.before, Cond.holds, Cond.value, h1, h2, h3, h4, g1, g2, g3, g4, g5, g6]
def isCode : Jvm.Cond → Bool
  | .code _ _ _ _ => true
  | _ => false
theorem all_split {L : List Jvm.Cond} {P : Jvm.Cond → Bool} (h1 : L.all (fun c => isCode c || P c) = true) (h2 : ∀ c ∈ L.filter isCode, P c = true) : L.all P = true := by
  refine List.all_eq_true.mpr fun c hc => ?_
  have h := List.all_eq_true.mp h1 c hc
  rcases Bool.eq_false_or_eq_true (isCode c) with hi | hi
  · exact h2 c (List.mem_filter.mpr ⟨hc, hi⟩)
  · simpa [hi] using h
set_option maxRecDepth 65536 in
theorem w_c0 : (Jvm.Cond.code x code maxLocals ret).before args0 about1 = true := code_word (m := ⟨1, 2⟩) (meth := k1m2) (c := k1c2) (by decide +kernel) rfl rfl rfl (by decide +kernel)
set_option maxRecDepth 65536 in
theorem w_c1 : (Jvm.Cond.code ({ cls := "com/example/libphase/libphase/event/PhaseIdIsCoveredByPinLaw", name := "phase", desc := "(I)Lcom/example/libphase/libphase/event/PhaseId;" } : Jvm.MethodName) method_2_code (1 : Nat) (Option.some (Jvm.ClassFile.FieldType.object "com/example/libphase/libphase/event/PhaseId"))).before args0 about1 = true := code_word (m := ⟨1, 1⟩) (meth := k1m1) (c := k1c1) (by decide +kernel) rfl rfl rfl (by decide +kernel)
set_option maxRecDepth 65536 in
theorem w_c2 : (Jvm.Cond.code ({ cls := "com/example/libphase/libphase/event/PhaseId", name := "isCoveredBy", desc := "(Lcom/example/libphase/libphase/event/PhaseId;)Z" } : Jvm.MethodName) prog_23_method_5_code (2 : Nat) (Option.some Jvm.ClassFile.FieldType.boolean)).before args0 about1 = true := code_word (m := ⟨6, 0⟩) (meth := k6m0) (c := k6c0) (by decide +kernel) rfl rfl rfl (by decide +kernel)
def codes1 : List Jvm.Cond := [Jvm.Cond.code x code maxLocals ret, Jvm.Cond.code ({ cls := "com/example/libphase/libphase/event/PhaseIdIsCoveredByPinLaw", name := "phase", desc := "(I)Lcom/example/libphase/libphase/event/PhaseId;" } : Jvm.MethodName) method_2_code (1 : Nat) (Option.some (Jvm.ClassFile.FieldType.object "com/example/libphase/libphase/event/PhaseId")), Jvm.Cond.code ({ cls := "com/example/libphase/libphase/event/PhaseId", name := "isCoveredBy", desc := "(Lcom/example/libphase/libphase/event/PhaseId;)Z" } : Jvm.MethodName) prog_23_method_5_code (2 : Nat) (Option.some Jvm.ClassFile.FieldType.boolean)]
set_option maxRecDepth 65536 in
theorem codes_eq : words1.filter isCode = codes1 := rfl
theorem w_codes : ∀ c ∈ words1.filter isCode, c.before args0 about1 = true := by
  rw [codes_eq]
  intro c hc
  simp only [codes1, List.mem_cons, List.not_mem_nil, or_false] at hc
  rcases hc with rfl | rfl | rfl
  · exact w_c0
  · exact w_c1
  · exact w_c2
set_option maxRecDepth 65536 in
theorem w_t1 : (words1.take 24).all (fun c => isCode c || c.before args0 about1) = true := by decide +kernel
set_option maxRecDepth 65536 in
theorem w_t2 : (words1.drop 24).all (fun c => isCode c || c.before args0 about1) = true := by decide +kernel
theorem w_tables : (allAtoms (Jvm.Cond.code x code maxLocals ret :: tables_1)).before args0 about1 = true := by
  rw [allAtoms_all]
  show words1.all (fun c => c.before args0 about1) = true
  refine all_split ?_ w_codes
  rw [← List.take_append_drop 24 words1, List.all_append, w_t1, w_t2]
  rfl
set_option maxRecDepth 65536 in
theorem w_case : (Jvm.Cond.and given_1 narrow_1).before args0 about1 = true := by decide +kernel
theorem w_applies : (headSpec (Jvm.Cond.code x code maxLocals ret :: tables_1) room_1).applies x e0.platform about1 = true :=
  (Spec.applies_iff w_frames).mpr ⟨w_running, w_runnable, w_alone, w_named, w_hears, w_ripe, w_room, w_tables⟩
theorem atStart : AtStart classFile x code maxLocals ret World_1 tables_1 room_1 Calls_1 rest_1 Pre_1 launch0 p0 e0 about1 theMethod args0 below0 :=
  ⟨lists_1, trivial, launch0.admits_env _ _ _, launch0.least_env, fairChoices_fair.cas, fairChoices_fair.clock, w_frames, w_args, w_heap, w_applies, trivial, trivial, w_case⟩
end start1
theorem witness_1 : WitnessClaimed_1 := ⟨start1.p0, start1.e0, start1.about1, start1.theMethod, start1.args0, start1.below0, start1.atStart⟩
end Jvm.Pilot.@@N@@
