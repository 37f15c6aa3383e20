import JvmDerived
import JvmDerived.Pilot.@@N@@Statement
import JvmDerived.Pilot.@@N@@Code
set_option linter.unusedVariables false
set_option linter.unusedSimpArgs false
@@BLOCK:NumsL.lean.txt@@
namespace Jvm.RoadKit
open Sem ClassFile Op Lib Jvm.Stand Jvm.Free Jvm.LawKit
section New
variable {p : Program} {l : Launch} {e : Env} {R : Room} {s : State} {m : MethodId} {args : Array Value} {below : List Frame} {meth : Method} {c : Code} {T : State} {locs : List Loc} {cells slots : Nat}
theorem retI (X : Stand p l e R s m args below meth c T locs cells slots) (hx : p.tables.exec = Jvm.exec) {pc : Nat} {Ls : Array Slot} {z : Int32} {rest : List Value} (hret : meth.sig.returnType = some .int) (hd : decode c.code pc = .ok (.ireturn, 1)) {fs : List Frame}
    (hl : ∀ (f : JFrame) (acts : List Action), f.method = m → f.locked = none → f.entered = [] → (doReturn e (T.setTop f) acts (some (.int z))).1 = T.setFrames fs) : Steps p.tables e below (T.setTop (mkF m pc Ls (.int z :: rest))) (T.setFrames fs) := by
  have hm' : T.vm.method? m = some meth := X.method'
  have hn : narrow .int (.int z) = .int z := rfl
  show Steps p.tables e below (T.setTop { method := m, pc := pc, locals := Ls, stack := _ :: rest, locked := none }) _
  jvm_step X.here [X.here.top, hx, hd, hm', hret, hn]
  first | (intro acts; rw [hl _ acts rfl rfl rfl]) | rw [hl _ _ rfl rfl rfl]
  exact Steps.refl _
end New
end Jvm.RoadKit
namespace Jvm.Pilot.@@N@@
open Jvm Jvm.ClassFile Sem Op Lib Jvm.Free Jvm.Stand Jvm.LawKit Jvm.RoadKit Bundle Jvm.Pilot.@@N@@.Jvm.D

/-! plain law: the low bit of a word whose lowest set bit is known -/
def own_before (w m : Int64) : Int64 := w &&& ((((m &&& (-m)).toUInt64 >>> ((7 : Int32) &&& 0x3f).toInt64.toUInt64).toInt64) - (1 : Int64))
def own_bit (k : Int32) : Int64 := (128 : Int64) <<< (((8 : Int32) * k) &&& 0x3f).toInt64
def own_mask (k : Int32) : Int64 := ((-1 : Int64).toUInt64 >>> (((64 : Int32) - ((8 : Int32) * k)) &&& 0x3f).toInt64.toUInt64).toInt64
theorem own_low (q b : BitVec 64) (j : Nat) (hj : j < 64) (hb : b = BitVec.twoPow 64 j) : ((q &&& -b) ||| b) &&& -((q &&& -b) ||| b) = b := by
  have hbb : ∀ i, b.getLsbD i = decide (i = j) := by
    intro i
    subst hb
    rw [BitVec.getLsbD_twoPow]
    by_cases h : i = j
    · subst h; simp [hj]
    · have h' : ¬ j = i := fun q => h q.symm
      simp [h, h']
  have hnb : ∀ i, (-b).getLsbD i = (decide (i < 64) && decide (j ≤ i)) := by
    intro i
    have key : (∃ k, k < i ∧ decide (k = j) = true) ↔ j < i := by
      constructor
      · rintro ⟨k, h, h'⟩
        rw [decide_eq_true_eq] at h'
        omega
      · intro h
        exact ⟨j, h, decide_eq_true rfl⟩
    rw [BitVec.getLsbD_neg]
    simp only [hbb, key]
    rcases Nat.lt_trichotomy i j with h | h | h
    · have h1 : ¬ i = j := by omega
      have h2 : ¬ j < i := by omega
      have h3 : ¬ j ≤ i := by omega
      simp [h1, h2, h3]
    · subst h
      simp [hj]
    · have h1 : ¬ i = j := by omega
      have h3 : j ≤ i := by omega
      simp [h1, h, h3]
  generalize hm : (q &&& -b) ||| b = m
  have hmb : ∀ i, m.getLsbD i = ((q.getLsbD i && (decide (i < 64) && decide (j ≤ i))) || decide (i = j)) := by
    intro i
    rw [← hm, BitVec.getLsbD_or, BitVec.getLsbD_and, hnb, hbb]
  apply BitVec.eq_of_getLsbD_eq
  intro i hi
  have key : (∃ k, k < i ∧ ((q.getLsbD k && (decide (k < 64) && decide (j ≤ k))) || decide (k = j)) = true) ↔ j < i := by
    constructor
    · rintro ⟨k, h, h'⟩
      rw [Bool.or_eq_true, Bool.and_eq_true, Bool.and_eq_true, decide_eq_true_eq, decide_eq_true_eq, decide_eq_true_eq] at h'
      omega
    · intro h
      exact ⟨j, h, by rw [Bool.or_eq_true]; exact Or.inr (decide_eq_true rfl)⟩
  rw [BitVec.getLsbD_and, BitVec.getLsbD_neg, hbb]
  simp only [hmb, key]
  rcases Nat.lt_trichotomy i j with h | h | h
  · have h1 : ¬ i = j := by omega
    have h3 : ¬ j ≤ i := by omega
    simp [h1, h3]
  · subst h
    simp
  · have h1 : ¬ i = j := by omega
    have h3 : j ≤ i := by omega
    simp only [h1, h, h3, hi, decide_true, decide_false, Bool.and_true, Bool.or_false, Bool.true_and]
    cases q.getLsbD i <;> rfl
theorem own_lowL (q b : Int64) (j : Nat) (hj : j < 64) (hb : b.toBitVec = BitVec.twoPow 64 j) : ((q &&& -b) ||| b) &&& -((q &&& -b) ||| b) = b := by
  apply Int64.toBitVec_inj.mp
  have := own_low q.toBitVec b.toBitVec j hj hb
  simpa [Int64.toBitVec_and, Int64.toBitVec_or, Int64.toBitVec_neg] using this
theorem own_k (p : Int32) : p &&& 7 = 0 ∨ p &&& 7 = 1 ∨ p &&& 7 = 2 ∨ p &&& 7 = 3 ∨ p &&& 7 = 4 ∨ p &&& 7 = 5 ∨ p &&& 7 = 6 ∨ p &&& 7 = 7 := by
  have e : (p &&& 7).toInt = p.toInt % 2 ^ 3 := Jvm.Kit.i32_mask p 7 (k := 3) (by decide) (by decide)
  have h : (p &&& 7).toInt = 0 ∨ (p &&& 7).toInt = 1 ∨ (p &&& 7).toInt = 2 ∨ (p &&& 7).toInt = 3 ∨ (p &&& 7).toInt = 4 ∨ (p &&& 7).toInt = 5 ∨ (p &&& 7).toInt = 6 ∨ (p &&& 7).toInt = 7 := by omega
  rcases h with h | h | h | h | h | h | h | h
  · exact Or.inl (Int32.toInt_inj.mp h)
  · exact Or.inr (Or.inl (Int32.toInt_inj.mp h))
  · exact Or.inr (Or.inr (Or.inl (Int32.toInt_inj.mp h)))
  · exact Or.inr (Or.inr (Or.inr (Or.inl (Int32.toInt_inj.mp h))))
  · exact Or.inr (Or.inr (Or.inr (Or.inr (Or.inl (Int32.toInt_inj.mp h)))))
  · exact Or.inr (Or.inr (Or.inr (Or.inr (Or.inr (Or.inl (Int32.toInt_inj.mp h))))))
  · exact Or.inr (Or.inr (Or.inr (Or.inr (Or.inr (Or.inr (Or.inl (Int32.toInt_inj.mp h)))))))
  · exact Or.inr (Or.inr (Or.inr (Or.inr (Or.inr (Or.inr (Or.inr (Int32.toInt_inj.mp h)))))))
theorem own_case (w q : Int64) (b M : Int64) (j : Nat) (hj : j < 64) (hb : b.toBitVec = BitVec.twoPow 64 j) (hM : (b.toUInt64 >>> ((7 : Int32) &&& 0x3f).toInt64.toUInt64).toInt64 - (1 : Int64) = M) : own_before w ((q &&& (-b)) ||| b) = w &&& M := by
  rw [own_before, own_lowL q b j hj hb, hM]
theorem own_zero (w q : Int64) (k : Int32) (h : k = 0) : lcmpW (own_before w ((q &&& (-(own_bit k))) ||| own_bit k)) (0 : Int64) = 0 := by
  subst h
  rw [lw_eq, own_case w q (own_bit 0) 0 7 (by decide) (by decide) (by decide)]
  apply Int64.toBitVec_inj.mp
  simp
theorem own_some (w q : Int64) (p : Int32) (h : ¬ (p &&& 7) = 0) : lcmpW (own_before w ((q &&& (-(own_bit (p &&& 7)))) ||| own_bit (p &&& 7))) (w &&& own_mask (p &&& 7)) = 0 := by
  rw [lw_eq]
  rcases own_k p with e | e | e | e | e | e | e | e
  · exact absurd e h
  · rw [e]; exact own_case w q (own_bit 1) (own_mask 1) 15 (by decide) (by decide) (by decide)
  · rw [e]; exact own_case w q (own_bit 2) (own_mask 2) 23 (by decide) (by decide) (by decide)
  · rw [e]; exact own_case w q (own_bit 3) (own_mask 3) 31 (by decide) (by decide) (by decide)
  · rw [e]; exact own_case w q (own_bit 4) (own_mask 4) 39 (by decide) (by decide) (by decide)
  · rw [e]; exact own_case w q (own_bit 5) (own_mask 5) 47 (by decide) (by decide) (by decide)
  · rw [e]; exact own_case w q (own_bit 6) (own_mask 6) 55 (by decide) (by decide) (by decide)
  · rw [e]; exact own_case w q (own_bit 7) (own_mask 7) 63 (by decide) (by decide) (by decide)
theorem d1_0 : decode prog_20_method_7_code 0 = .ok (.lload_n 2, 1) := by decide +kernel
theorem d1_1 : decode prog_20_method_7_code 1 = .ok (.lload_n 2, 1) := by decide +kernel
theorem d1_2 : decode prog_20_method_7_code 2 = .ok (.lneg, 1) := by decide +kernel
theorem d1_3 : decode prog_20_method_7_code 3 = .ok (.land, 1) := by decide +kernel
theorem d1_4 : decode prog_20_method_7_code 4 = .ok (.lstore 4, 2) := by decide +kernel
theorem d1_6 : decode prog_20_method_7_code 6 = .ok (.lload_n 0, 1) := by decide +kernel
theorem d1_7 : decode prog_20_method_7_code 7 = .ok (.lload 4, 2) := by decide +kernel
theorem d1_9 : decode prog_20_method_7_code 9 = .ok (.bipush 7, 2) := by decide +kernel
theorem d1_11 : decode prog_20_method_7_code 11 = .ok (.lushr, 1) := by decide +kernel
theorem d1_12 : decode prog_20_method_7_code 12 = .ok (.lconst 1, 1) := by decide +kernel
theorem d1_13 : decode prog_20_method_7_code 13 = .ok (.lsub, 1) := by decide +kernel
theorem d1_14 : decode prog_20_method_7_code 14 = .ok (.land, 1) := by decide +kernel
theorem d1_15 : decode prog_20_method_7_code 15 = .ok (.lreturn, 1) := by decide +kernel
theorem pn_1 : plainName "com/example/packtally/packtally/Words" = true := by first | (simp [plainName, overriddenIn]; done) | decide +kernel
theorem ef_1 (m : MethodId) (x0 : Int64) (x1 : Int64) : entryFrame m #[(.long x0), (.long x1)] 6 = mkF m 0 #[.val (.long x0), .second, .val (.long x1), .second, .unset, .unset] [] := by first | (simp [entryFrame, mkF, argsToLocals, Value.category]; done) | rfl
def Q1 (Z : State) (q1 : Int64) (q2 : Int64) (h0 : Heap) (n0 : Nat) (v : Option Value) (h : Heap) (L : List Loc) : Prop := v = some (.long (own_before q1 q2)) ∧ Fr n0 L ∧ h = h0
set_option maxRecDepth 65536 in
set_option maxHeartbeats 40000000 in
theorem rm1 (l : Launch) (Z : State) (a0 : Array Value) (hw : ∀ d ∈ tables_1, d.before a0 Z = true) (ws : List Jvm.Cond) (q1 : Int64) (q2 : Int64) (h0 : Heap) (n0 : Nat) (Z0 : n0 ≤ h0.size) :
    MetFree l (⟨"com/example/packtally/packtally/Words", "before", "(JJ)J"⟩ : MethodName) (head1 (Jvm.Cond.code (⟨"com/example/packtally/packtally/Words", "before", "(JJ)J"⟩ : MethodName) prog_20_method_7_code 6 (some .long) :: ws) ({ frames := 0, cells := 0, slots := 0, locals := 0 } : Room)) (fun a U => a = #[(.long q1), (.long q2)] ∧ Z.Warmed39 U.vm ∧ U.heap = h0) (fun _ _ _ _ _ => True) (fun _ U o U' => ∃ v L, o = .returned v ∧ Q1 Z q1 q2 h0 n0 v U'.heap L ∧ FrameEnd U o U' L ({ frames := 0, cells := 0, slots := 0, locals := 0 } : Room).cells ({ frames := 0, cells := 0, slots := 0, locals := 0 } : Room).slots) := by
  refine MetFree.of_bodySF (plainFor_of_name pn_1) hisR ?_
  intro p e s m args below meth c s₁ Bd hml0 hP hK
  obtain ⟨rfl, hZ, hh⟩ := hP
  have hx := Bd.exec
  have hby := Bd.bytes
  have hml : c.maxLocals = 6 := hml0
  have hown : s.vm.findClass "com/example/packtally/packtally/Words" = some m.cls := findClass_of_methodNamed Bd.named
  have hnm := (name_of_methodNamed Bd.named Bd.method).1
  have X0 : Stand p l e ({ frames := 0, cells := 0, slots := 0, locals := 0 } : Room) s m #[(.long q1), (.long q2)] below meth c s₁ [] 0 0 := Stand.of_body Bd
  have e0 : s₁.heap = h0 := by rw [← hh, Bd.state]; rfl
  have N0 := Fr.nil n0
  have pre0 : ∀ t, Steps p.tables e below (s₁.setTop (mkF m 0 #[.val (.long q1), .second, .val (.long q2), .second, .unset, .unset] [])) t → Steps p.tables e below (s₁.setTop (entryFrame m #[(.long q1), (.long q2)] 6)) t := fun t k => castTop (ef_1 m q1 q2) k

  obtain ⟨fs, hr, hrun, hended, hW, hsame⟩ := X0.leave (v := some (.long (q1 &&& ((((q2 &&& (-q2)).toUInt64 >>> ((7 : Int32) &&& 0x3f).toInt64.toUInt64).toInt64) - (1 : Int64))))) (fun h => by rw [Bd.returns] at h; cases h)
  refine ⟨_, _, pre0 _ ?_, hrun, hended, _, _, rfl, ?_, ⟨_, rfl⟩, hW, hsame.mono (by decide) (by decide)⟩
  · show Steps p.tables e below (s₁.setTop (mkF m 0 #[.val (.long q1), .second, .val (.long q2), .second, .unset, .unset] [])) _
    refine XS.lloadN X0.here hx rfl (hb hby d1_0) rfl ?_
    show Steps p.tables e below (s₁.setTop (mkF m 1 #[.val (.long q1), .second, .val (.long q2), .second, .unset, .unset] [(.long q2)])) _
    refine XS.lloadN X0.here hx rfl (hb hby d1_1) rfl ?_
    show Steps p.tables e below (s₁.setTop (mkF m 2 #[.val (.long q1), .second, .val (.long q2), .second, .unset, .unset] [(.long q2), (.long q2)])) _
    refine XS.lneg X0.here hx rfl (hb hby d1_2) rfl ?_
    show Steps p.tables e below (s₁.setTop (mkF m 3 #[.val (.long q1), .second, .val (.long q2), .second, .unset, .unset] [(.long (-q2)), (.long q2)])) _
    refine XS.land X0.here hx rfl (hb hby d1_3) rfl ?_
    show Steps p.tables e below (s₁.setTop (mkF m 4 #[.val (.long q1), .second, .val (.long q2), .second, .unset, .unset] [(.long (q2 &&& (-q2)))])) _
    refine XS.lstore X0.here hx rfl (hb hby d1_4) rfl (l' := #[.val (.long q1), .second, .val (.long q2), .second, .val (.long (q2 &&& (-q2))), .second]) rfl ?_
    show Steps p.tables e below (s₁.setTop (mkF m 6 #[.val (.long q1), .second, .val (.long q2), .second, .val (.long (q2 &&& (-q2))), .second] [])) _
    refine XS.lloadN X0.here hx rfl (hb hby d1_6) rfl ?_
    show Steps p.tables e below (s₁.setTop (mkF m 7 #[.val (.long q1), .second, .val (.long q2), .second, .val (.long (q2 &&& (-q2))), .second] [(.long q1)])) _
    refine XS.lload X0.here hx rfl (hb hby d1_7) rfl ?_
    show Steps p.tables e below (s₁.setTop (mkF m 9 #[.val (.long q1), .second, .val (.long q2), .second, .val (.long (q2 &&& (-q2))), .second] [(.long (q2 &&& (-q2))), (.long q1)])) _
    refine XS.bipush X0.here hx rfl (hb hby d1_9) ?_
    show Steps p.tables e below (s₁.setTop (mkF m 11 #[.val (.long q1), .second, .val (.long q2), .second, .val (.long (q2 &&& (-q2))), .second] [(.int (7 : Int32)), (.long (q2 &&& (-q2))), (.long q1)])) _
    refine XS.lushr X0.here hx rfl (hb hby d1_11) rfl ?_
    show Steps p.tables e below (s₁.setTop (mkF m 12 #[.val (.long q1), .second, .val (.long q2), .second, .val (.long (q2 &&& (-q2))), .second] [(.long (((q2 &&& (-q2)).toUInt64 >>> ((7 : Int32) &&& 0x3f).toInt64.toUInt64).toInt64)), (.long q1)])) _
    refine XS.lconst X0.here hx rfl (hb hby d1_12) ?_
    show Steps p.tables e below (s₁.setTop (mkF m 13 #[.val (.long q1), .second, .val (.long q2), .second, .val (.long (q2 &&& (-q2))), .second] [(.long (1 : Int64)), (.long (((q2 &&& (-q2)).toUInt64 >>> ((7 : Int32) &&& 0x3f).toInt64.toUInt64).toInt64)), (.long q1)])) _
    refine XS.lsub X0.here hx rfl (hb hby d1_13) rfl ?_
    show Steps p.tables e below (s₁.setTop (mkF m 14 #[.val (.long q1), .second, .val (.long q2), .second, .val (.long (q2 &&& (-q2))), .second] [(.long ((((q2 &&& (-q2)).toUInt64 >>> ((7 : Int32) &&& 0x3f).toInt64.toUInt64).toInt64) - (1 : Int64))), (.long q1)])) _
    refine XS.land X0.here hx rfl (hb hby d1_14) rfl ?_
    show Steps p.tables e below (s₁.setTop (mkF m 15 #[.val (.long q1), .second, .val (.long q2), .second, .val (.long (q2 &&& (-q2))), .second] [(.long (q1 &&& ((((q2 &&& (-q2)).toUInt64 >>> ((7 : Int32) &&& 0x3f).toInt64.toUInt64).toInt64) - (1 : Int64))))])) _
    exact X0.lreturnOut hx Bd.returns (hb hby d1_15) hr
  · show Q1 Z q1 q2 h0 n0 _ s₁.heap _
    rw [e0]
    exact ⟨rfl, N0, rfl⟩
theorem pn_0 : plainName "com/example/packtally/packtally/WordsBeforePinLaw" = true := by first | (simp [plainName, overriddenIn]; done) | decide +kernel
theorem pd_0_0 : parseMethodDescriptor "(JJ)J" = some ⟨[.long, .long], some .long⟩ := by decide +kernel
theorem ef_0 (m : MethodId) (x0 : Int64) (x1 : Int64) (x2 : Int32) : entryFrame m #[(.long x0), (.long x1), (.int x2)] maxLocals = mkF m 0 #[.val (.long x0), .second, .val (.long x1), .second, .val (.int x2), .unset, .unset, .unset, .unset, .unset, .unset, .unset] [] := by first | (simp [entryFrame, mkF, argsToLocals, Value.category, maxLocals]; done) | rfl
def Q0 (Z : State) (q1 : Int64) (q2 : Int64) (p3 : Int32) (h0 : Heap) (n0 : Nat) (v : Option Value) (h : Heap) (L : List Loc) : Prop := v = some (.int (1 : Int32)) ∧ Fr n0 L
set_option maxRecDepth 65536 in
set_option maxHeartbeats 40000000 in
theorem rm0_z (l : Launch) (Z : State) (a0 : Array Value) (hw : ∀ d ∈ tables_1, d.before a0 Z = true) (ws : List Jvm.Cond) (q1 : Int64) (q2 : Int64) (p3 : Int32) (h0 : Heap) (n0 : Nat) (Z0 : n0 ≤ h0.size) (hc30 : (p3 &&& (7 : Int32)) = (0 : Int32)) :
    MetFree l x (head1 (Jvm.Cond.code x code maxLocals ret :: ws) room_1) (fun a U => a = #[(.long q1), (.long q2), (.int p3)] ∧ Z.Warmed39 U.vm ∧ U.heap = h0) (fun _ _ _ _ _ => True) (fun _ U o U' => ∃ v L, o = .returned v ∧ Q0 Z q1 q2 p3 h0 n0 v U'.heap L ∧ FrameEnd U o U' L room_1.cells room_1.slots) := by
  refine MetFree.of_bodySF (plainFor_of_name pn_0) hisR ?_
  intro p e s m args below meth c s₁ Bd hml0 hP hK
  obtain ⟨rfl, hZ, hh⟩ := hP
  have hx := Bd.exec
  have hby := Bd.bytes
  have hml : c.maxLocals = 12 := hml0
  have hown : s.vm.findClass "com/example/packtally/packtally/WordsBeforePinLaw" = some m.cls := findClass_of_methodNamed Bd.named
  have hnm := (name_of_methodNamed Bd.named Bd.method).1
  have X0 : Stand p l e room_1 s m #[(.long q1), (.long q2), (.int p3)] below meth c s₁ [] 0 0 := Stand.of_body Bd
  have e0 : s₁.heap = h0 := by rw [← hh, Bd.state]; rfl
  have N0 := Fr.nil n0
  have pre0 : ∀ t, Steps p.tables e below (s₁.setTop (mkF m 0 #[.val (.long q1), .second, .val (.long q2), .second, .val (.int p3), .unset, .unset, .unset, .unset, .unset, .unset, .unset] [])) t → Steps p.tables e below (s₁.setTop (entryFrame m #[(.long q1), (.long q2), (.int p3)] maxLocals)) t := fun t k => castTop (ef_0 m q1 q2 p3) k
  -- pc 58: com/example/packtally/packtally/Words.before by its contract rm1
  obtain ⟨_, _, ⟨T4, L4, k4, n4⟩, -, X4, ⟨Lc4, hQ4, l4, y4, z4⟩, st4⟩ := Jvm.LawKit.callS X0 hx (y := (⟨"com/example/packtally/packtally/Words", "before", "(JJ)J"⟩ : MethodName)) hown (mvT hZ (hw _ (List.mem_of_getElem? (i := 1) rfl))) (mvT hZ (hw _ (List.mem_of_getElem? (i := 2) rfl))) (mvT hZ (hw _ (List.mem_of_getElem? (i := 3) rfl))) (mvT hZ (hw _ (List.mem_of_getElem? (i := 4) rfl))) (by decide) (backOf (W := 0) (rm1 l Z a0 hw [] q1 ((q2 &&& (-((128 : Int64) <<< (((8 : Int32) * (p3 &&& (7 : Int32))) &&& 0x3f).toInt64))) ||| ((128 : Int64) <<< (((8 : Int32) * (p3 &&& (7 : Int32))) &&& 0x3f).toInt64)) h0 n0 Z0) hZ (hw _ (List.mem_of_getElem? (i := 4) rfl)) (hw _ (List.mem_of_getElem? (i := 3) rfl)) (by decide) (by decide)) (g := (mkF m 58 #[.val (.long q1), .second, .val (.long q2), .second, .val (.int p3), .val (.int (p3 &&& (7 : Int32))), .val (.long ((128 : Int64) <<< (((8 : Int32) * (p3 &&& (7 : Int32))) &&& 0x3f).toInt64)), .second, .val (.long ((q2 &&& (-((128 : Int64) <<< (((8 : Int32) * (p3 &&& (7 : Int32))) &&& 0x3f).toInt64))) ||| ((128 : Int64) <<< (((8 : Int32) * (p3 &&& (7 : Int32))) &&& 0x3f).toInt64))), .second, .val (.long (0 : Int64)), .second] [(.long ((q2 &&& (-((128 : Int64) <<< (((8 : Int32) * (p3 &&& (7 : Int32))) &&& 0x3f).toInt64))) ||| ((128 : Int64) <<< (((8 : Int32) * (p3 &&& (7 : Int32))) &&& 0x3f).toInt64))), (.long q1)])) rfl (by rw [hml]; rfl) (argsL := [(.long q1), (.long ((q2 &&& (-((128 : Int64) <<< (((8 : Int32) * (p3 &&& (7 : Int32))) &&& 0x3f).toInt64))) ||| ((128 : Int64) <<< (((8 : Int32) * (p3 &&& (7 : Int32))) &&& 0x3f).toInt64)))]) (rest := []) (lenOf pd_0_0 rfl) rfl (by show 2 * 0 + _ ≤ _; exact Nat.le_of_eq rfl) (hb hby at_58) (fun _ _ => ⟨rfl, e0, (by decide : 0 + 0 ≤ _), (by decide : 0 + 0 ≤ _)⟩)
  dsimp only [Pt.U, Pt.locs, Pt.cells, Pt.slots] at X4 l4 y4 z4 st4 hQ4
  subst l4 y4 z4
  obtain ⟨rfl, N4q, e4q⟩ := hQ4      -- what it returned, that it wrote nothing old, and the rest of your Q1
  have N4 := Fr.app N0 N4q
  obtain ⟨fs, hr, hrun, hended, hW, hsame⟩ := X4.leave (v := some (.int (1 : Int32))) (fun h => by rw [Bd.returns] at h; cases h)
  refine ⟨_, _, pre0 _ ?_, hrun, hended, _, _, rfl, ?_, ⟨_, rfl⟩, hW, hsame.mono (by decide) (by decide)⟩
  · show Steps p.tables e below (s₁.setTop (mkF m 0 #[.val (.long q1), .second, .val (.long q2), .second, .val (.int p3), .unset, .unset, .unset, .unset, .unset, .unset, .unset] [])) _
    refine XS.iload X0.here hx rfl (hb hby at_0) rfl ?_
    show Steps p.tables e below (s₁.setTop (mkF m 2 #[.val (.long q1), .second, .val (.long q2), .second, .val (.int p3), .unset, .unset, .unset, .unset, .unset, .unset, .unset] [(.int p3)])) _
    refine XS.bipush X0.here hx rfl (hb hby at_2) ?_
    show Steps p.tables e below (s₁.setTop (mkF m 4 #[.val (.long q1), .second, .val (.long q2), .second, .val (.int p3), .unset, .unset, .unset, .unset, .unset, .unset, .unset] [(.int (7 : Int32)), (.int p3)])) _
    refine XS.iand X0.here hx rfl (hb hby at_4) rfl ?_
    show Steps p.tables e below (s₁.setTop (mkF m 5 #[.val (.long q1), .second, .val (.long q2), .second, .val (.int p3), .unset, .unset, .unset, .unset, .unset, .unset, .unset] [(.int (p3 &&& (7 : Int32)))])) _
    refine XS.istore X0.here hx rfl (hb hby at_5) rfl (l' := #[.val (.long q1), .second, .val (.long q2), .second, .val (.int p3), .val (.int (p3 &&& (7 : Int32))), .unset, .unset, .unset, .unset, .unset, .unset]) rfl ?_
    show Steps p.tables e below (s₁.setTop (mkF m 7 #[.val (.long q1), .second, .val (.long q2), .second, .val (.int p3), .val (.int (p3 &&& (7 : Int32))), .unset, .unset, .unset, .unset, .unset, .unset] [])) _
    refine X0.ldc2Long hx hown (mvT hZ (hw _ (List.mem_of_getElem? (i := 0) rfl))) (g := (mkF m 7 #[.val (.long q1), .second, .val (.long q2), .second, .val (.int p3), .val (.int (p3 &&& (7 : Int32))), .unset, .unset, .unset, .unset, .unset, .unset] [])) rfl (hb hby at_7) _ ?_
    show Steps p.tables e below (s₁.setTop (mkF m 10 #[.val (.long q1), .second, .val (.long q2), .second, .val (.int p3), .val (.int (p3 &&& (7 : Int32))), .unset, .unset, .unset, .unset, .unset, .unset] [(.long (128 : Int64))])) _
    refine XS.bipush X0.here hx rfl (hb hby at_10) ?_
    show Steps p.tables e below (s₁.setTop (mkF m 12 #[.val (.long q1), .second, .val (.long q2), .second, .val (.int p3), .val (.int (p3 &&& (7 : Int32))), .unset, .unset, .unset, .unset, .unset, .unset] [(.int (8 : Int32)), (.long (128 : Int64))])) _
    refine XS.iload X0.here hx rfl (hb hby at_12) rfl ?_
    show Steps p.tables e below (s₁.setTop (mkF m 14 #[.val (.long q1), .second, .val (.long q2), .second, .val (.int p3), .val (.int (p3 &&& (7 : Int32))), .unset, .unset, .unset, .unset, .unset, .unset] [(.int (p3 &&& (7 : Int32))), (.int (8 : Int32)), (.long (128 : Int64))])) _
    refine XS.imul X0.here hx rfl (hb hby at_14) rfl ?_
    show Steps p.tables e below (s₁.setTop (mkF m 15 #[.val (.long q1), .second, .val (.long q2), .second, .val (.int p3), .val (.int (p3 &&& (7 : Int32))), .unset, .unset, .unset, .unset, .unset, .unset] [(.int ((8 : Int32) * (p3 &&& (7 : Int32)))), (.long (128 : Int64))])) _
    refine XS.lshl X0.here hx rfl (hb hby at_15) rfl ?_
    show Steps p.tables e below (s₁.setTop (mkF m 16 #[.val (.long q1), .second, .val (.long q2), .second, .val (.int p3), .val (.int (p3 &&& (7 : Int32))), .unset, .unset, .unset, .unset, .unset, .unset] [(.long ((128 : Int64) <<< (((8 : Int32) * (p3 &&& (7 : Int32))) &&& 0x3f).toInt64))])) _
    refine XS.lstore X0.here hx rfl (hb hby at_16) rfl (l' := #[.val (.long q1), .second, .val (.long q2), .second, .val (.int p3), .val (.int (p3 &&& (7 : Int32))), .val (.long ((128 : Int64) <<< (((8 : Int32) * (p3 &&& (7 : Int32))) &&& 0x3f).toInt64)), .second, .unset, .unset, .unset, .unset]) rfl ?_
    show Steps p.tables e below (s₁.setTop (mkF m 18 #[.val (.long q1), .second, .val (.long q2), .second, .val (.int p3), .val (.int (p3 &&& (7 : Int32))), .val (.long ((128 : Int64) <<< (((8 : Int32) * (p3 &&& (7 : Int32))) &&& 0x3f).toInt64)), .second, .unset, .unset, .unset, .unset] [])) _
    refine XS.lloadN X0.here hx rfl (hb hby at_18) rfl ?_
    show Steps p.tables e below (s₁.setTop (mkF m 19 #[.val (.long q1), .second, .val (.long q2), .second, .val (.int p3), .val (.int (p3 &&& (7 : Int32))), .val (.long ((128 : Int64) <<< (((8 : Int32) * (p3 &&& (7 : Int32))) &&& 0x3f).toInt64)), .second, .unset, .unset, .unset, .unset] [(.long q2)])) _
    refine XS.lload X0.here hx rfl (hb hby at_19) rfl ?_
    show Steps p.tables e below (s₁.setTop (mkF m 21 #[.val (.long q1), .second, .val (.long q2), .second, .val (.int p3), .val (.int (p3 &&& (7 : Int32))), .val (.long ((128 : Int64) <<< (((8 : Int32) * (p3 &&& (7 : Int32))) &&& 0x3f).toInt64)), .second, .unset, .unset, .unset, .unset] [(.long ((128 : Int64) <<< (((8 : Int32) * (p3 &&& (7 : Int32))) &&& 0x3f).toInt64)), (.long q2)])) _
    refine XS.lneg X0.here hx rfl (hb hby at_21) rfl ?_
    show Steps p.tables e below (s₁.setTop (mkF m 22 #[.val (.long q1), .second, .val (.long q2), .second, .val (.int p3), .val (.int (p3 &&& (7 : Int32))), .val (.long ((128 : Int64) <<< (((8 : Int32) * (p3 &&& (7 : Int32))) &&& 0x3f).toInt64)), .second, .unset, .unset, .unset, .unset] [(.long (-((128 : Int64) <<< (((8 : Int32) * (p3 &&& (7 : Int32))) &&& 0x3f).toInt64))), (.long q2)])) _
    refine XS.land X0.here hx rfl (hb hby at_22) rfl ?_
    show Steps p.tables e below (s₁.setTop (mkF m 23 #[.val (.long q1), .second, .val (.long q2), .second, .val (.int p3), .val (.int (p3 &&& (7 : Int32))), .val (.long ((128 : Int64) <<< (((8 : Int32) * (p3 &&& (7 : Int32))) &&& 0x3f).toInt64)), .second, .unset, .unset, .unset, .unset] [(.long (q2 &&& (-((128 : Int64) <<< (((8 : Int32) * (p3 &&& (7 : Int32))) &&& 0x3f).toInt64))))])) _
    refine XS.lload X0.here hx rfl (hb hby at_23) rfl ?_
    show Steps p.tables e below (s₁.setTop (mkF m 25 #[.val (.long q1), .second, .val (.long q2), .second, .val (.int p3), .val (.int (p3 &&& (7 : Int32))), .val (.long ((128 : Int64) <<< (((8 : Int32) * (p3 &&& (7 : Int32))) &&& 0x3f).toInt64)), .second, .unset, .unset, .unset, .unset] [(.long ((128 : Int64) <<< (((8 : Int32) * (p3 &&& (7 : Int32))) &&& 0x3f).toInt64)), (.long (q2 &&& (-((128 : Int64) <<< (((8 : Int32) * (p3 &&& (7 : Int32))) &&& 0x3f).toInt64))))])) _
    refine XS.lor X0.here hx rfl (hb hby at_25) rfl ?_
    show Steps p.tables e below (s₁.setTop (mkF m 26 #[.val (.long q1), .second, .val (.long q2), .second, .val (.int p3), .val (.int (p3 &&& (7 : Int32))), .val (.long ((128 : Int64) <<< (((8 : Int32) * (p3 &&& (7 : Int32))) &&& 0x3f).toInt64)), .second, .unset, .unset, .unset, .unset] [(.long ((q2 &&& (-((128 : Int64) <<< (((8 : Int32) * (p3 &&& (7 : Int32))) &&& 0x3f).toInt64))) ||| ((128 : Int64) <<< (((8 : Int32) * (p3 &&& (7 : Int32))) &&& 0x3f).toInt64)))])) _
    refine XS.lstore X0.here hx rfl (hb hby at_26) rfl (l' := #[.val (.long q1), .second, .val (.long q2), .second, .val (.int p3), .val (.int (p3 &&& (7 : Int32))), .val (.long ((128 : Int64) <<< (((8 : Int32) * (p3 &&& (7 : Int32))) &&& 0x3f).toInt64)), .second, .val (.long ((q2 &&& (-((128 : Int64) <<< (((8 : Int32) * (p3 &&& (7 : Int32))) &&& 0x3f).toInt64))) ||| ((128 : Int64) <<< (((8 : Int32) * (p3 &&& (7 : Int32))) &&& 0x3f).toInt64))), .second, .unset, .unset]) rfl ?_
    show Steps p.tables e below (s₁.setTop (mkF m 28 #[.val (.long q1), .second, .val (.long q2), .second, .val (.int p3), .val (.int (p3 &&& (7 : Int32))), .val (.long ((128 : Int64) <<< (((8 : Int32) * (p3 &&& (7 : Int32))) &&& 0x3f).toInt64)), .second, .val (.long ((q2 &&& (-((128 : Int64) <<< (((8 : Int32) * (p3 &&& (7 : Int32))) &&& 0x3f).toInt64))) ||| ((128 : Int64) <<< (((8 : Int32) * (p3 &&& (7 : Int32))) &&& 0x3f).toInt64))), .second, .unset, .unset] [])) _
    refine XS.iload X0.here hx rfl (hb hby at_28) rfl ?_
    show Steps p.tables e below (s₁.setTop (mkF m 30 #[.val (.long q1), .second, .val (.long q2), .second, .val (.int p3), .val (.int (p3 &&& (7 : Int32))), .val (.long ((128 : Int64) <<< (((8 : Int32) * (p3 &&& (7 : Int32))) &&& 0x3f).toInt64)), .second, .val (.long ((q2 &&& (-((128 : Int64) <<< (((8 : Int32) * (p3 &&& (7 : Int32))) &&& 0x3f).toInt64))) ||| ((128 : Int64) <<< (((8 : Int32) * (p3 &&& (7 : Int32))) &&& 0x3f).toInt64))), .second, .unset, .unset] [(.int (p3 &&& (7 : Int32)))])) _
    refine XS.ifNo X0.here hx rfl (hb hby at_30) rfl ((if0 _ _).trans (teq hc30).2) ?_
    show Steps p.tables e below (s₁.setTop (mkF m 33 #[.val (.long q1), .second, .val (.long q2), .second, .val (.int p3), .val (.int (p3 &&& (7 : Int32))), .val (.long ((128 : Int64) <<< (((8 : Int32) * (p3 &&& (7 : Int32))) &&& 0x3f).toInt64)), .second, .val (.long ((q2 &&& (-((128 : Int64) <<< (((8 : Int32) * (p3 &&& (7 : Int32))) &&& 0x3f).toInt64))) ||| ((128 : Int64) <<< (((8 : Int32) * (p3 &&& (7 : Int32))) &&& 0x3f).toInt64))), .second, .unset, .unset] [])) _
    refine XS.lconst X0.here hx rfl (hb hby at_33) ?_
    show Steps p.tables e below (s₁.setTop (mkF m 34 #[.val (.long q1), .second, .val (.long q2), .second, .val (.int p3), .val (.int (p3 &&& (7 : Int32))), .val (.long ((128 : Int64) <<< (((8 : Int32) * (p3 &&& (7 : Int32))) &&& 0x3f).toInt64)), .second, .val (.long ((q2 &&& (-((128 : Int64) <<< (((8 : Int32) * (p3 &&& (7 : Int32))) &&& 0x3f).toInt64))) ||| ((128 : Int64) <<< (((8 : Int32) * (p3 &&& (7 : Int32))) &&& 0x3f).toInt64))), .second, .unset, .unset] [(.long (0 : Int64))])) _
    refine XS.lstore X0.here hx rfl (hb hby at_34) rfl (l' := #[.val (.long q1), .second, .val (.long q2), .second, .val (.int p3), .val (.int (p3 &&& (7 : Int32))), .val (.long ((128 : Int64) <<< (((8 : Int32) * (p3 &&& (7 : Int32))) &&& 0x3f).toInt64)), .second, .val (.long ((q2 &&& (-((128 : Int64) <<< (((8 : Int32) * (p3 &&& (7 : Int32))) &&& 0x3f).toInt64))) ||| ((128 : Int64) <<< (((8 : Int32) * (p3 &&& (7 : Int32))) &&& 0x3f).toInt64))), .second, .val (.long (0 : Int64)), .second]) rfl ?_
    show Steps p.tables e below (s₁.setTop (mkF m 36 #[.val (.long q1), .second, .val (.long q2), .second, .val (.int p3), .val (.int (p3 &&& (7 : Int32))), .val (.long ((128 : Int64) <<< (((8 : Int32) * (p3 &&& (7 : Int32))) &&& 0x3f).toInt64)), .second, .val (.long ((q2 &&& (-((128 : Int64) <<< (((8 : Int32) * (p3 &&& (7 : Int32))) &&& 0x3f).toInt64))) ||| ((128 : Int64) <<< (((8 : Int32) * (p3 &&& (7 : Int32))) &&& 0x3f).toInt64))), .second, .val (.long (0 : Int64)), .second] [])) _
    refine XS.goto X0.here hx rfl (pc0 := 36) (pc' := 55) rfl (hb hby at_36) (by decide) (by decide) ?_
    show Steps p.tables e below (s₁.setTop (mkF m 55 #[.val (.long q1), .second, .val (.long q2), .second, .val (.int p3), .val (.int (p3 &&& (7 : Int32))), .val (.long ((128 : Int64) <<< (((8 : Int32) * (p3 &&& (7 : Int32))) &&& 0x3f).toInt64)), .second, .val (.long ((q2 &&& (-((128 : Int64) <<< (((8 : Int32) * (p3 &&& (7 : Int32))) &&& 0x3f).toInt64))) ||| ((128 : Int64) <<< (((8 : Int32) * (p3 &&& (7 : Int32))) &&& 0x3f).toInt64))), .second, .val (.long (0 : Int64)), .second] [])) _
    refine XS.lloadN X0.here hx rfl (hb hby at_55) rfl ?_
    show Steps p.tables e below (s₁.setTop (mkF m 56 #[.val (.long q1), .second, .val (.long q2), .second, .val (.int p3), .val (.int (p3 &&& (7 : Int32))), .val (.long ((128 : Int64) <<< (((8 : Int32) * (p3 &&& (7 : Int32))) &&& 0x3f).toInt64)), .second, .val (.long ((q2 &&& (-((128 : Int64) <<< (((8 : Int32) * (p3 &&& (7 : Int32))) &&& 0x3f).toInt64))) ||| ((128 : Int64) <<< (((8 : Int32) * (p3 &&& (7 : Int32))) &&& 0x3f).toInt64))), .second, .val (.long (0 : Int64)), .second] [(.long q1)])) _
    refine XS.lload X0.here hx rfl (hb hby at_56) rfl ?_
    show Steps p.tables e below (s₁.setTop (mkF m 58 #[.val (.long q1), .second, .val (.long q2), .second, .val (.int p3), .val (.int (p3 &&& (7 : Int32))), .val (.long ((128 : Int64) <<< (((8 : Int32) * (p3 &&& (7 : Int32))) &&& 0x3f).toInt64)), .second, .val (.long ((q2 &&& (-((128 : Int64) <<< (((8 : Int32) * (p3 &&& (7 : Int32))) &&& 0x3f).toInt64))) ||| ((128 : Int64) <<< (((8 : Int32) * (p3 &&& (7 : Int32))) &&& 0x3f).toInt64))), .second, .val (.long (0 : Int64)), .second] [(.long ((q2 &&& (-((128 : Int64) <<< (((8 : Int32) * (p3 &&& (7 : Int32))) &&& 0x3f).toInt64))) ||| ((128 : Int64) <<< (((8 : Int32) * (p3 &&& (7 : Int32))) &&& 0x3f).toInt64))), (.long q1)])) _
    refine st4 _ ?_
    show Steps p.tables e below (T4.setTop (mkF m 61 #[.val (.long q1), .second, .val (.long q2), .second, .val (.int p3), .val (.int (p3 &&& (7 : Int32))), .val (.long ((128 : Int64) <<< (((8 : Int32) * (p3 &&& (7 : Int32))) &&& 0x3f).toInt64)), .second, .val (.long ((q2 &&& (-((128 : Int64) <<< (((8 : Int32) * (p3 &&& (7 : Int32))) &&& 0x3f).toInt64))) ||| ((128 : Int64) <<< (((8 : Int32) * (p3 &&& (7 : Int32))) &&& 0x3f).toInt64))), .second, .val (.long (0 : Int64)), .second] [(.long (own_before q1 ((q2 &&& (-((128 : Int64) <<< (((8 : Int32) * (p3 &&& (7 : Int32))) &&& 0x3f).toInt64))) ||| ((128 : Int64) <<< (((8 : Int32) * (p3 &&& (7 : Int32))) &&& 0x3f).toInt64))))])) _
    refine XS.lload X4.here hx rfl (hb hby at_61) rfl ?_
    show Steps p.tables e below (T4.setTop (mkF m 63 #[.val (.long q1), .second, .val (.long q2), .second, .val (.int p3), .val (.int (p3 &&& (7 : Int32))), .val (.long ((128 : Int64) <<< (((8 : Int32) * (p3 &&& (7 : Int32))) &&& 0x3f).toInt64)), .second, .val (.long ((q2 &&& (-((128 : Int64) <<< (((8 : Int32) * (p3 &&& (7 : Int32))) &&& 0x3f).toInt64))) ||| ((128 : Int64) <<< (((8 : Int32) * (p3 &&& (7 : Int32))) &&& 0x3f).toInt64))), .second, .val (.long (0 : Int64)), .second] [(.long (0 : Int64)), (.long (own_before q1 ((q2 &&& (-((128 : Int64) <<< (((8 : Int32) * (p3 &&& (7 : Int32))) &&& 0x3f).toInt64))) ||| ((128 : Int64) <<< (((8 : Int32) * (p3 &&& (7 : Int32))) &&& 0x3f).toInt64))))])) _
    refine XS.lcmp X4.here hx rfl (hb hby at_63) rfl ?_
    show Steps p.tables e below (T4.setTop (mkF m 64 #[.val (.long q1), .second, .val (.long q2), .second, .val (.int p3), .val (.int (p3 &&& (7 : Int32))), .val (.long ((128 : Int64) <<< (((8 : Int32) * (p3 &&& (7 : Int32))) &&& 0x3f).toInt64)), .second, .val (.long ((q2 &&& (-((128 : Int64) <<< (((8 : Int32) * (p3 &&& (7 : Int32))) &&& 0x3f).toInt64))) ||| ((128 : Int64) <<< (((8 : Int32) * (p3 &&& (7 : Int32))) &&& 0x3f).toInt64))), .second, .val (.long (0 : Int64)), .second] [(.int (lcmpW (own_before q1 ((q2 &&& (-((128 : Int64) <<< (((8 : Int32) * (p3 &&& (7 : Int32))) &&& 0x3f).toInt64))) ||| ((128 : Int64) <<< (((8 : Int32) * (p3 &&& (7 : Int32))) &&& 0x3f).toInt64))) (0 : Int64)))])) _
    refine XS.ifNo X4.here hx rfl (hb hby at_64) rfl ((if0 _ _).trans (teq (own_zero q1 q2 _ hc30 : (lcmpW (own_before q1 ((q2 &&& (-((128 : Int64) <<< (((8 : Int32) * (p3 &&& (7 : Int32))) &&& 0x3f).toInt64))) ||| ((128 : Int64) <<< (((8 : Int32) * (p3 &&& (7 : Int32))) &&& 0x3f).toInt64))) (0 : Int64)) = (0 : Int32))).2) ?_
    show Steps p.tables e below (T4.setTop (mkF m 67 #[.val (.long q1), .second, .val (.long q2), .second, .val (.int p3), .val (.int (p3 &&& (7 : Int32))), .val (.long ((128 : Int64) <<< (((8 : Int32) * (p3 &&& (7 : Int32))) &&& 0x3f).toInt64)), .second, .val (.long ((q2 &&& (-((128 : Int64) <<< (((8 : Int32) * (p3 &&& (7 : Int32))) &&& 0x3f).toInt64))) ||| ((128 : Int64) <<< (((8 : Int32) * (p3 &&& (7 : Int32))) &&& 0x3f).toInt64))), .second, .val (.long (0 : Int64)), .second] [])) _
    refine XS.iconst X4.here hx rfl (hb hby at_67) ?_
    show Steps p.tables e below (T4.setTop (mkF m 68 #[.val (.long q1), .second, .val (.long q2), .second, .val (.int p3), .val (.int (p3 &&& (7 : Int32))), .val (.long ((128 : Int64) <<< (((8 : Int32) * (p3 &&& (7 : Int32))) &&& 0x3f).toInt64)), .second, .val (.long ((q2 &&& (-((128 : Int64) <<< (((8 : Int32) * (p3 &&& (7 : Int32))) &&& 0x3f).toInt64))) ||| ((128 : Int64) <<< (((8 : Int32) * (p3 &&& (7 : Int32))) &&& 0x3f).toInt64))), .second, .val (.long (0 : Int64)), .second] [(.int (1 : Int32))])) _
    refine XS.goto X4.here hx rfl (pc0 := 68) (pc' := 72) rfl (hb hby at_68) (by decide) (by decide) ?_
    show Steps p.tables e below (T4.setTop (mkF m 72 #[.val (.long q1), .second, .val (.long q2), .second, .val (.int p3), .val (.int (p3 &&& (7 : Int32))), .val (.long ((128 : Int64) <<< (((8 : Int32) * (p3 &&& (7 : Int32))) &&& 0x3f).toInt64)), .second, .val (.long ((q2 &&& (-((128 : Int64) <<< (((8 : Int32) * (p3 &&& (7 : Int32))) &&& 0x3f).toInt64))) ||| ((128 : Int64) <<< (((8 : Int32) * (p3 &&& (7 : Int32))) &&& 0x3f).toInt64))), .second, .val (.long (0 : Int64)), .second] [(.int (1 : Int32))])) _
    exact retN X4 hx (t := .boolean) Bd.returns (by simp) (hb hby at_72) hr
  · show Q0 Z q1 q2 p3 h0 n0 _ T4.heap _
    exact ⟨rfl, N4⟩
set_option maxRecDepth 65536 in
set_option maxHeartbeats 40000000 in
theorem rm0_s (l : Launch) (Z : State) (a0 : Array Value) (hw : ∀ d ∈ tables_1, d.before a0 Z = true) (ws : List Jvm.Cond) (q1 : Int64) (q2 : Int64) (p3 : Int32) (h0 : Heap) (n0 : Nat) (Z0 : n0 ≤ h0.size) (hc30 : ¬ ((p3 &&& (7 : Int32)) = (0 : Int32))) :
    MetFree l x (head1 (Jvm.Cond.code x code maxLocals ret :: ws) room_1) (fun a U => a = #[(.long q1), (.long q2), (.int p3)] ∧ Z.Warmed39 U.vm ∧ U.heap = h0) (fun _ _ _ _ _ => True) (fun _ U o U' => ∃ v L, o = .returned v ∧ Q0 Z q1 q2 p3 h0 n0 v U'.heap L ∧ FrameEnd U o U' L room_1.cells room_1.slots) := by
  refine MetFree.of_bodySF (plainFor_of_name pn_0) hisR ?_
  intro p e s m args below meth c s₁ Bd hml0 hP hK
  obtain ⟨rfl, hZ, hh⟩ := hP
  have hx := Bd.exec
  have hby := Bd.bytes
  have hml : c.maxLocals = 12 := hml0
  have hown : s.vm.findClass "com/example/packtally/packtally/WordsBeforePinLaw" = some m.cls := findClass_of_methodNamed Bd.named
  have hnm := (name_of_methodNamed Bd.named Bd.method).1
  have X0 : Stand p l e room_1 s m #[(.long q1), (.long q2), (.int p3)] below meth c s₁ [] 0 0 := Stand.of_body Bd
  have e0 : s₁.heap = h0 := by rw [← hh, Bd.state]; rfl
  have N0 := Fr.nil n0
  have pre0 : ∀ t, Steps p.tables e below (s₁.setTop (mkF m 0 #[.val (.long q1), .second, .val (.long q2), .second, .val (.int p3), .unset, .unset, .unset, .unset, .unset, .unset, .unset] [])) t → Steps p.tables e below (s₁.setTop (entryFrame m #[(.long q1), (.long q2), (.int p3)] maxLocals)) t := fun t k => castTop (ef_0 m q1 q2 p3) k
  -- pc 58: com/example/packtally/packtally/Words.before by its contract rm1
  obtain ⟨_, _, ⟨T4, L4, k4, n4⟩, -, X4, ⟨Lc4, hQ4, l4, y4, z4⟩, st4⟩ := Jvm.LawKit.callS X0 hx (y := (⟨"com/example/packtally/packtally/Words", "before", "(JJ)J"⟩ : MethodName)) hown (mvT hZ (hw _ (List.mem_of_getElem? (i := 1) rfl))) (mvT hZ (hw _ (List.mem_of_getElem? (i := 2) rfl))) (mvT hZ (hw _ (List.mem_of_getElem? (i := 3) rfl))) (mvT hZ (hw _ (List.mem_of_getElem? (i := 4) rfl))) (by decide) (backOf (W := 0) (rm1 l Z a0 hw [] q1 ((q2 &&& (-((128 : Int64) <<< (((8 : Int32) * (p3 &&& (7 : Int32))) &&& 0x3f).toInt64))) ||| ((128 : Int64) <<< (((8 : Int32) * (p3 &&& (7 : Int32))) &&& 0x3f).toInt64)) h0 n0 Z0) hZ (hw _ (List.mem_of_getElem? (i := 4) rfl)) (hw _ (List.mem_of_getElem? (i := 3) rfl)) (by decide) (by decide)) (g := (mkF m 58 #[.val (.long q1), .second, .val (.long q2), .second, .val (.int p3), .val (.int (p3 &&& (7 : Int32))), .val (.long ((128 : Int64) <<< (((8 : Int32) * (p3 &&& (7 : Int32))) &&& 0x3f).toInt64)), .second, .val (.long ((q2 &&& (-((128 : Int64) <<< (((8 : Int32) * (p3 &&& (7 : Int32))) &&& 0x3f).toInt64))) ||| ((128 : Int64) <<< (((8 : Int32) * (p3 &&& (7 : Int32))) &&& 0x3f).toInt64))), .second, .val (.long (q1 &&& (((-1 : Int64).toUInt64 >>> (((64 : Int32) - ((8 : Int32) * (p3 &&& (7 : Int32)))) &&& 0x3f).toInt64.toUInt64).toInt64))), .second] [(.long ((q2 &&& (-((128 : Int64) <<< (((8 : Int32) * (p3 &&& (7 : Int32))) &&& 0x3f).toInt64))) ||| ((128 : Int64) <<< (((8 : Int32) * (p3 &&& (7 : Int32))) &&& 0x3f).toInt64))), (.long q1)])) rfl (by rw [hml]; rfl) (argsL := [(.long q1), (.long ((q2 &&& (-((128 : Int64) <<< (((8 : Int32) * (p3 &&& (7 : Int32))) &&& 0x3f).toInt64))) ||| ((128 : Int64) <<< (((8 : Int32) * (p3 &&& (7 : Int32))) &&& 0x3f).toInt64)))]) (rest := []) (lenOf pd_0_0 rfl) rfl (by show 2 * 0 + _ ≤ _; exact Nat.le_of_eq rfl) (hb hby at_58) (fun _ _ => ⟨rfl, e0, (by decide : 0 + 0 ≤ _), (by decide : 0 + 0 ≤ _)⟩)
  dsimp only [Pt.U, Pt.locs, Pt.cells, Pt.slots] at X4 l4 y4 z4 st4 hQ4
  subst l4 y4 z4
  obtain ⟨rfl, N4q, e4q⟩ := hQ4      -- what it returned, that it wrote nothing old, and the rest of your Q1
  have N4 := Fr.app N0 N4q
  obtain ⟨fs, hr, hrun, hended, hW, hsame⟩ := X4.leave (v := some (.int (1 : Int32))) (fun h => by rw [Bd.returns] at h; cases h)
  refine ⟨_, _, pre0 _ ?_, hrun, hended, _, _, rfl, ?_, ⟨_, rfl⟩, hW, hsame.mono (by decide) (by decide)⟩
  · show Steps p.tables e below (s₁.setTop (mkF m 0 #[.val (.long q1), .second, .val (.long q2), .second, .val (.int p3), .unset, .unset, .unset, .unset, .unset, .unset, .unset] [])) _
    refine XS.iload X0.here hx rfl (hb hby at_0) rfl ?_
    show Steps p.tables e below (s₁.setTop (mkF m 2 #[.val (.long q1), .second, .val (.long q2), .second, .val (.int p3), .unset, .unset, .unset, .unset, .unset, .unset, .unset] [(.int p3)])) _
    refine XS.bipush X0.here hx rfl (hb hby at_2) ?_
    show Steps p.tables e below (s₁.setTop (mkF m 4 #[.val (.long q1), .second, .val (.long q2), .second, .val (.int p3), .unset, .unset, .unset, .unset, .unset, .unset, .unset] [(.int (7 : Int32)), (.int p3)])) _
    refine XS.iand X0.here hx rfl (hb hby at_4) rfl ?_
    show Steps p.tables e below (s₁.setTop (mkF m 5 #[.val (.long q1), .second, .val (.long q2), .second, .val (.int p3), .unset, .unset, .unset, .unset, .unset, .unset, .unset] [(.int (p3 &&& (7 : Int32)))])) _
    refine XS.istore X0.here hx rfl (hb hby at_5) rfl (l' := #[.val (.long q1), .second, .val (.long q2), .second, .val (.int p3), .val (.int (p3 &&& (7 : Int32))), .unset, .unset, .unset, .unset, .unset, .unset]) rfl ?_
    show Steps p.tables e below (s₁.setTop (mkF m 7 #[.val (.long q1), .second, .val (.long q2), .second, .val (.int p3), .val (.int (p3 &&& (7 : Int32))), .unset, .unset, .unset, .unset, .unset, .unset] [])) _
    refine X0.ldc2Long hx hown (mvT hZ (hw _ (List.mem_of_getElem? (i := 0) rfl))) (g := (mkF m 7 #[.val (.long q1), .second, .val (.long q2), .second, .val (.int p3), .val (.int (p3 &&& (7 : Int32))), .unset, .unset, .unset, .unset, .unset, .unset] [])) rfl (hb hby at_7) _ ?_
    show Steps p.tables e below (s₁.setTop (mkF m 10 #[.val (.long q1), .second, .val (.long q2), .second, .val (.int p3), .val (.int (p3 &&& (7 : Int32))), .unset, .unset, .unset, .unset, .unset, .unset] [(.long (128 : Int64))])) _
    refine XS.bipush X0.here hx rfl (hb hby at_10) ?_
    show Steps p.tables e below (s₁.setTop (mkF m 12 #[.val (.long q1), .second, .val (.long q2), .second, .val (.int p3), .val (.int (p3 &&& (7 : Int32))), .unset, .unset, .unset, .unset, .unset, .unset] [(.int (8 : Int32)), (.long (128 : Int64))])) _
    refine XS.iload X0.here hx rfl (hb hby at_12) rfl ?_
    show Steps p.tables e below (s₁.setTop (mkF m 14 #[.val (.long q1), .second, .val (.long q2), .second, .val (.int p3), .val (.int (p3 &&& (7 : Int32))), .unset, .unset, .unset, .unset, .unset, .unset] [(.int (p3 &&& (7 : Int32))), (.int (8 : Int32)), (.long (128 : Int64))])) _
    refine XS.imul X0.here hx rfl (hb hby at_14) rfl ?_
    show Steps p.tables e below (s₁.setTop (mkF m 15 #[.val (.long q1), .second, .val (.long q2), .second, .val (.int p3), .val (.int (p3 &&& (7 : Int32))), .unset, .unset, .unset, .unset, .unset, .unset] [(.int ((8 : Int32) * (p3 &&& (7 : Int32)))), (.long (128 : Int64))])) _
    refine XS.lshl X0.here hx rfl (hb hby at_15) rfl ?_
    show Steps p.tables e below (s₁.setTop (mkF m 16 #[.val (.long q1), .second, .val (.long q2), .second, .val (.int p3), .val (.int (p3 &&& (7 : Int32))), .unset, .unset, .unset, .unset, .unset, .unset] [(.long ((128 : Int64) <<< (((8 : Int32) * (p3 &&& (7 : Int32))) &&& 0x3f).toInt64))])) _
    refine XS.lstore X0.here hx rfl (hb hby at_16) rfl (l' := #[.val (.long q1), .second, .val (.long q2), .second, .val (.int p3), .val (.int (p3 &&& (7 : Int32))), .val (.long ((128 : Int64) <<< (((8 : Int32) * (p3 &&& (7 : Int32))) &&& 0x3f).toInt64)), .second, .unset, .unset, .unset, .unset]) rfl ?_
    show Steps p.tables e below (s₁.setTop (mkF m 18 #[.val (.long q1), .second, .val (.long q2), .second, .val (.int p3), .val (.int (p3 &&& (7 : Int32))), .val (.long ((128 : Int64) <<< (((8 : Int32) * (p3 &&& (7 : Int32))) &&& 0x3f).toInt64)), .second, .unset, .unset, .unset, .unset] [])) _
    refine XS.lloadN X0.here hx rfl (hb hby at_18) rfl ?_
    show Steps p.tables e below (s₁.setTop (mkF m 19 #[.val (.long q1), .second, .val (.long q2), .second, .val (.int p3), .val (.int (p3 &&& (7 : Int32))), .val (.long ((128 : Int64) <<< (((8 : Int32) * (p3 &&& (7 : Int32))) &&& 0x3f).toInt64)), .second, .unset, .unset, .unset, .unset] [(.long q2)])) _
    refine XS.lload X0.here hx rfl (hb hby at_19) rfl ?_
    show Steps p.tables e below (s₁.setTop (mkF m 21 #[.val (.long q1), .second, .val (.long q2), .second, .val (.int p3), .val (.int (p3 &&& (7 : Int32))), .val (.long ((128 : Int64) <<< (((8 : Int32) * (p3 &&& (7 : Int32))) &&& 0x3f).toInt64)), .second, .unset, .unset, .unset, .unset] [(.long ((128 : Int64) <<< (((8 : Int32) * (p3 &&& (7 : Int32))) &&& 0x3f).toInt64)), (.long q2)])) _
    refine XS.lneg X0.here hx rfl (hb hby at_21) rfl ?_
    show Steps p.tables e below (s₁.setTop (mkF m 22 #[.val (.long q1), .second, .val (.long q2), .second, .val (.int p3), .val (.int (p3 &&& (7 : Int32))), .val (.long ((128 : Int64) <<< (((8 : Int32) * (p3 &&& (7 : Int32))) &&& 0x3f).toInt64)), .second, .unset, .unset, .unset, .unset] [(.long (-((128 : Int64) <<< (((8 : Int32) * (p3 &&& (7 : Int32))) &&& 0x3f).toInt64))), (.long q2)])) _
    refine XS.land X0.here hx rfl (hb hby at_22) rfl ?_
    show Steps p.tables e below (s₁.setTop (mkF m 23 #[.val (.long q1), .second, .val (.long q2), .second, .val (.int p3), .val (.int (p3 &&& (7 : Int32))), .val (.long ((128 : Int64) <<< (((8 : Int32) * (p3 &&& (7 : Int32))) &&& 0x3f).toInt64)), .second, .unset, .unset, .unset, .unset] [(.long (q2 &&& (-((128 : Int64) <<< (((8 : Int32) * (p3 &&& (7 : Int32))) &&& 0x3f).toInt64))))])) _
    refine XS.lload X0.here hx rfl (hb hby at_23) rfl ?_
    show Steps p.tables e below (s₁.setTop (mkF m 25 #[.val (.long q1), .second, .val (.long q2), .second, .val (.int p3), .val (.int (p3 &&& (7 : Int32))), .val (.long ((128 : Int64) <<< (((8 : Int32) * (p3 &&& (7 : Int32))) &&& 0x3f).toInt64)), .second, .unset, .unset, .unset, .unset] [(.long ((128 : Int64) <<< (((8 : Int32) * (p3 &&& (7 : Int32))) &&& 0x3f).toInt64)), (.long (q2 &&& (-((128 : Int64) <<< (((8 : Int32) * (p3 &&& (7 : Int32))) &&& 0x3f).toInt64))))])) _
    refine XS.lor X0.here hx rfl (hb hby at_25) rfl ?_
    show Steps p.tables e below (s₁.setTop (mkF m 26 #[.val (.long q1), .second, .val (.long q2), .second, .val (.int p3), .val (.int (p3 &&& (7 : Int32))), .val (.long ((128 : Int64) <<< (((8 : Int32) * (p3 &&& (7 : Int32))) &&& 0x3f).toInt64)), .second, .unset, .unset, .unset, .unset] [(.long ((q2 &&& (-((128 : Int64) <<< (((8 : Int32) * (p3 &&& (7 : Int32))) &&& 0x3f).toInt64))) ||| ((128 : Int64) <<< (((8 : Int32) * (p3 &&& (7 : Int32))) &&& 0x3f).toInt64)))])) _
    refine XS.lstore X0.here hx rfl (hb hby at_26) rfl (l' := #[.val (.long q1), .second, .val (.long q2), .second, .val (.int p3), .val (.int (p3 &&& (7 : Int32))), .val (.long ((128 : Int64) <<< (((8 : Int32) * (p3 &&& (7 : Int32))) &&& 0x3f).toInt64)), .second, .val (.long ((q2 &&& (-((128 : Int64) <<< (((8 : Int32) * (p3 &&& (7 : Int32))) &&& 0x3f).toInt64))) ||| ((128 : Int64) <<< (((8 : Int32) * (p3 &&& (7 : Int32))) &&& 0x3f).toInt64))), .second, .unset, .unset]) rfl ?_
    show Steps p.tables e below (s₁.setTop (mkF m 28 #[.val (.long q1), .second, .val (.long q2), .second, .val (.int p3), .val (.int (p3 &&& (7 : Int32))), .val (.long ((128 : Int64) <<< (((8 : Int32) * (p3 &&& (7 : Int32))) &&& 0x3f).toInt64)), .second, .val (.long ((q2 &&& (-((128 : Int64) <<< (((8 : Int32) * (p3 &&& (7 : Int32))) &&& 0x3f).toInt64))) ||| ((128 : Int64) <<< (((8 : Int32) * (p3 &&& (7 : Int32))) &&& 0x3f).toInt64))), .second, .unset, .unset] [])) _
    refine XS.iload X0.here hx rfl (hb hby at_28) rfl ?_
    show Steps p.tables e below (s₁.setTop (mkF m 30 #[.val (.long q1), .second, .val (.long q2), .second, .val (.int p3), .val (.int (p3 &&& (7 : Int32))), .val (.long ((128 : Int64) <<< (((8 : Int32) * (p3 &&& (7 : Int32))) &&& 0x3f).toInt64)), .second, .val (.long ((q2 &&& (-((128 : Int64) <<< (((8 : Int32) * (p3 &&& (7 : Int32))) &&& 0x3f).toInt64))) ||| ((128 : Int64) <<< (((8 : Int32) * (p3 &&& (7 : Int32))) &&& 0x3f).toInt64))), .second, .unset, .unset] [(.int (p3 &&& (7 : Int32)))])) _
    refine XS.ifYes X0.here hx rfl (pc0 := 30) (pc' := 39) rfl (hb hby at_30) rfl ((if0 _ _).trans (feq hc30).2) (by decide) (by decide) ?_
    show Steps p.tables e below (s₁.setTop (mkF m 39 #[.val (.long q1), .second, .val (.long q2), .second, .val (.int p3), .val (.int (p3 &&& (7 : Int32))), .val (.long ((128 : Int64) <<< (((8 : Int32) * (p3 &&& (7 : Int32))) &&& 0x3f).toInt64)), .second, .val (.long ((q2 &&& (-((128 : Int64) <<< (((8 : Int32) * (p3 &&& (7 : Int32))) &&& 0x3f).toInt64))) ||| ((128 : Int64) <<< (((8 : Int32) * (p3 &&& (7 : Int32))) &&& 0x3f).toInt64))), .second, .unset, .unset] [])) _
    refine XS.lloadN X0.here hx rfl (hb hby at_39) rfl ?_
    show Steps p.tables e below (s₁.setTop (mkF m 40 #[.val (.long q1), .second, .val (.long q2), .second, .val (.int p3), .val (.int (p3 &&& (7 : Int32))), .val (.long ((128 : Int64) <<< (((8 : Int32) * (p3 &&& (7 : Int32))) &&& 0x3f).toInt64)), .second, .val (.long ((q2 &&& (-((128 : Int64) <<< (((8 : Int32) * (p3 &&& (7 : Int32))) &&& 0x3f).toInt64))) ||| ((128 : Int64) <<< (((8 : Int32) * (p3 &&& (7 : Int32))) &&& 0x3f).toInt64))), .second, .unset, .unset] [(.long q1)])) _
    refine X0.ldc2Long hx hown (mvT hZ (hw _ (List.mem_of_getElem? (i := 5) rfl))) (g := (mkF m 40 #[.val (.long q1), .second, .val (.long q2), .second, .val (.int p3), .val (.int (p3 &&& (7 : Int32))), .val (.long ((128 : Int64) <<< (((8 : Int32) * (p3 &&& (7 : Int32))) &&& 0x3f).toInt64)), .second, .val (.long ((q2 &&& (-((128 : Int64) <<< (((8 : Int32) * (p3 &&& (7 : Int32))) &&& 0x3f).toInt64))) ||| ((128 : Int64) <<< (((8 : Int32) * (p3 &&& (7 : Int32))) &&& 0x3f).toInt64))), .second, .unset, .unset] [(.long q1)])) rfl (hb hby at_40) _ ?_
    show Steps p.tables e below (s₁.setTop (mkF m 43 #[.val (.long q1), .second, .val (.long q2), .second, .val (.int p3), .val (.int (p3 &&& (7 : Int32))), .val (.long ((128 : Int64) <<< (((8 : Int32) * (p3 &&& (7 : Int32))) &&& 0x3f).toInt64)), .second, .val (.long ((q2 &&& (-((128 : Int64) <<< (((8 : Int32) * (p3 &&& (7 : Int32))) &&& 0x3f).toInt64))) ||| ((128 : Int64) <<< (((8 : Int32) * (p3 &&& (7 : Int32))) &&& 0x3f).toInt64))), .second, .unset, .unset] [(.long (-1 : Int64)), (.long q1)])) _
    refine XS.bipush X0.here hx rfl (hb hby at_43) ?_
    show Steps p.tables e below (s₁.setTop (mkF m 45 #[.val (.long q1), .second, .val (.long q2), .second, .val (.int p3), .val (.int (p3 &&& (7 : Int32))), .val (.long ((128 : Int64) <<< (((8 : Int32) * (p3 &&& (7 : Int32))) &&& 0x3f).toInt64)), .second, .val (.long ((q2 &&& (-((128 : Int64) <<< (((8 : Int32) * (p3 &&& (7 : Int32))) &&& 0x3f).toInt64))) ||| ((128 : Int64) <<< (((8 : Int32) * (p3 &&& (7 : Int32))) &&& 0x3f).toInt64))), .second, .unset, .unset] [(.int (64 : Int32)), (.long (-1 : Int64)), (.long q1)])) _
    refine XS.bipush X0.here hx rfl (hb hby at_45) ?_
    show Steps p.tables e below (s₁.setTop (mkF m 47 #[.val (.long q1), .second, .val (.long q2), .second, .val (.int p3), .val (.int (p3 &&& (7 : Int32))), .val (.long ((128 : Int64) <<< (((8 : Int32) * (p3 &&& (7 : Int32))) &&& 0x3f).toInt64)), .second, .val (.long ((q2 &&& (-((128 : Int64) <<< (((8 : Int32) * (p3 &&& (7 : Int32))) &&& 0x3f).toInt64))) ||| ((128 : Int64) <<< (((8 : Int32) * (p3 &&& (7 : Int32))) &&& 0x3f).toInt64))), .second, .unset, .unset] [(.int (8 : Int32)), (.int (64 : Int32)), (.long (-1 : Int64)), (.long q1)])) _
    refine XS.iload X0.here hx rfl (hb hby at_47) rfl ?_
    show Steps p.tables e below (s₁.setTop (mkF m 49 #[.val (.long q1), .second, .val (.long q2), .second, .val (.int p3), .val (.int (p3 &&& (7 : Int32))), .val (.long ((128 : Int64) <<< (((8 : Int32) * (p3 &&& (7 : Int32))) &&& 0x3f).toInt64)), .second, .val (.long ((q2 &&& (-((128 : Int64) <<< (((8 : Int32) * (p3 &&& (7 : Int32))) &&& 0x3f).toInt64))) ||| ((128 : Int64) <<< (((8 : Int32) * (p3 &&& (7 : Int32))) &&& 0x3f).toInt64))), .second, .unset, .unset] [(.int (p3 &&& (7 : Int32))), (.int (8 : Int32)), (.int (64 : Int32)), (.long (-1 : Int64)), (.long q1)])) _
    refine XS.imul X0.here hx rfl (hb hby at_49) rfl ?_
    show Steps p.tables e below (s₁.setTop (mkF m 50 #[.val (.long q1), .second, .val (.long q2), .second, .val (.int p3), .val (.int (p3 &&& (7 : Int32))), .val (.long ((128 : Int64) <<< (((8 : Int32) * (p3 &&& (7 : Int32))) &&& 0x3f).toInt64)), .second, .val (.long ((q2 &&& (-((128 : Int64) <<< (((8 : Int32) * (p3 &&& (7 : Int32))) &&& 0x3f).toInt64))) ||| ((128 : Int64) <<< (((8 : Int32) * (p3 &&& (7 : Int32))) &&& 0x3f).toInt64))), .second, .unset, .unset] [(.int ((8 : Int32) * (p3 &&& (7 : Int32)))), (.int (64 : Int32)), (.long (-1 : Int64)), (.long q1)])) _
    refine XS.isub X0.here hx rfl (hb hby at_50) rfl ?_
    show Steps p.tables e below (s₁.setTop (mkF m 51 #[.val (.long q1), .second, .val (.long q2), .second, .val (.int p3), .val (.int (p3 &&& (7 : Int32))), .val (.long ((128 : Int64) <<< (((8 : Int32) * (p3 &&& (7 : Int32))) &&& 0x3f).toInt64)), .second, .val (.long ((q2 &&& (-((128 : Int64) <<< (((8 : Int32) * (p3 &&& (7 : Int32))) &&& 0x3f).toInt64))) ||| ((128 : Int64) <<< (((8 : Int32) * (p3 &&& (7 : Int32))) &&& 0x3f).toInt64))), .second, .unset, .unset] [(.int ((64 : Int32) - ((8 : Int32) * (p3 &&& (7 : Int32))))), (.long (-1 : Int64)), (.long q1)])) _
    refine XS.lushr X0.here hx rfl (hb hby at_51) rfl ?_
    show Steps p.tables e below (s₁.setTop (mkF m 52 #[.val (.long q1), .second, .val (.long q2), .second, .val (.int p3), .val (.int (p3 &&& (7 : Int32))), .val (.long ((128 : Int64) <<< (((8 : Int32) * (p3 &&& (7 : Int32))) &&& 0x3f).toInt64)), .second, .val (.long ((q2 &&& (-((128 : Int64) <<< (((8 : Int32) * (p3 &&& (7 : Int32))) &&& 0x3f).toInt64))) ||| ((128 : Int64) <<< (((8 : Int32) * (p3 &&& (7 : Int32))) &&& 0x3f).toInt64))), .second, .unset, .unset] [(.long (((-1 : Int64).toUInt64 >>> (((64 : Int32) - ((8 : Int32) * (p3 &&& (7 : Int32)))) &&& 0x3f).toInt64.toUInt64).toInt64)), (.long q1)])) _
    refine XS.land X0.here hx rfl (hb hby at_52) rfl ?_
    show Steps p.tables e below (s₁.setTop (mkF m 53 #[.val (.long q1), .second, .val (.long q2), .second, .val (.int p3), .val (.int (p3 &&& (7 : Int32))), .val (.long ((128 : Int64) <<< (((8 : Int32) * (p3 &&& (7 : Int32))) &&& 0x3f).toInt64)), .second, .val (.long ((q2 &&& (-((128 : Int64) <<< (((8 : Int32) * (p3 &&& (7 : Int32))) &&& 0x3f).toInt64))) ||| ((128 : Int64) <<< (((8 : Int32) * (p3 &&& (7 : Int32))) &&& 0x3f).toInt64))), .second, .unset, .unset] [(.long (q1 &&& (((-1 : Int64).toUInt64 >>> (((64 : Int32) - ((8 : Int32) * (p3 &&& (7 : Int32)))) &&& 0x3f).toInt64.toUInt64).toInt64)))])) _
    refine XS.lstore X0.here hx rfl (hb hby at_53) rfl (l' := #[.val (.long q1), .second, .val (.long q2), .second, .val (.int p3), .val (.int (p3 &&& (7 : Int32))), .val (.long ((128 : Int64) <<< (((8 : Int32) * (p3 &&& (7 : Int32))) &&& 0x3f).toInt64)), .second, .val (.long ((q2 &&& (-((128 : Int64) <<< (((8 : Int32) * (p3 &&& (7 : Int32))) &&& 0x3f).toInt64))) ||| ((128 : Int64) <<< (((8 : Int32) * (p3 &&& (7 : Int32))) &&& 0x3f).toInt64))), .second, .val (.long (q1 &&& (((-1 : Int64).toUInt64 >>> (((64 : Int32) - ((8 : Int32) * (p3 &&& (7 : Int32)))) &&& 0x3f).toInt64.toUInt64).toInt64))), .second]) rfl ?_
    show Steps p.tables e below (s₁.setTop (mkF m 55 #[.val (.long q1), .second, .val (.long q2), .second, .val (.int p3), .val (.int (p3 &&& (7 : Int32))), .val (.long ((128 : Int64) <<< (((8 : Int32) * (p3 &&& (7 : Int32))) &&& 0x3f).toInt64)), .second, .val (.long ((q2 &&& (-((128 : Int64) <<< (((8 : Int32) * (p3 &&& (7 : Int32))) &&& 0x3f).toInt64))) ||| ((128 : Int64) <<< (((8 : Int32) * (p3 &&& (7 : Int32))) &&& 0x3f).toInt64))), .second, .val (.long (q1 &&& (((-1 : Int64).toUInt64 >>> (((64 : Int32) - ((8 : Int32) * (p3 &&& (7 : Int32)))) &&& 0x3f).toInt64.toUInt64).toInt64))), .second] [])) _
    refine XS.lloadN X0.here hx rfl (hb hby at_55) rfl ?_
    show Steps p.tables e below (s₁.setTop (mkF m 56 #[.val (.long q1), .second, .val (.long q2), .second, .val (.int p3), .val (.int (p3 &&& (7 : Int32))), .val (.long ((128 : Int64) <<< (((8 : Int32) * (p3 &&& (7 : Int32))) &&& 0x3f).toInt64)), .second, .val (.long ((q2 &&& (-((128 : Int64) <<< (((8 : Int32) * (p3 &&& (7 : Int32))) &&& 0x3f).toInt64))) ||| ((128 : Int64) <<< (((8 : Int32) * (p3 &&& (7 : Int32))) &&& 0x3f).toInt64))), .second, .val (.long (q1 &&& (((-1 : Int64).toUInt64 >>> (((64 : Int32) - ((8 : Int32) * (p3 &&& (7 : Int32)))) &&& 0x3f).toInt64.toUInt64).toInt64))), .second] [(.long q1)])) _
    refine XS.lload X0.here hx rfl (hb hby at_56) rfl ?_
    show Steps p.tables e below (s₁.setTop (mkF m 58 #[.val (.long q1), .second, .val (.long q2), .second, .val (.int p3), .val (.int (p3 &&& (7 : Int32))), .val (.long ((128 : Int64) <<< (((8 : Int32) * (p3 &&& (7 : Int32))) &&& 0x3f).toInt64)), .second, .val (.long ((q2 &&& (-((128 : Int64) <<< (((8 : Int32) * (p3 &&& (7 : Int32))) &&& 0x3f).toInt64))) ||| ((128 : Int64) <<< (((8 : Int32) * (p3 &&& (7 : Int32))) &&& 0x3f).toInt64))), .second, .val (.long (q1 &&& (((-1 : Int64).toUInt64 >>> (((64 : Int32) - ((8 : Int32) * (p3 &&& (7 : Int32)))) &&& 0x3f).toInt64.toUInt64).toInt64))), .second] [(.long ((q2 &&& (-((128 : Int64) <<< (((8 : Int32) * (p3 &&& (7 : Int32))) &&& 0x3f).toInt64))) ||| ((128 : Int64) <<< (((8 : Int32) * (p3 &&& (7 : Int32))) &&& 0x3f).toInt64))), (.long q1)])) _
    refine st4 _ ?_
    show Steps p.tables e below (T4.setTop (mkF m 61 #[.val (.long q1), .second, .val (.long q2), .second, .val (.int p3), .val (.int (p3 &&& (7 : Int32))), .val (.long ((128 : Int64) <<< (((8 : Int32) * (p3 &&& (7 : Int32))) &&& 0x3f).toInt64)), .second, .val (.long ((q2 &&& (-((128 : Int64) <<< (((8 : Int32) * (p3 &&& (7 : Int32))) &&& 0x3f).toInt64))) ||| ((128 : Int64) <<< (((8 : Int32) * (p3 &&& (7 : Int32))) &&& 0x3f).toInt64))), .second, .val (.long (q1 &&& (((-1 : Int64).toUInt64 >>> (((64 : Int32) - ((8 : Int32) * (p3 &&& (7 : Int32)))) &&& 0x3f).toInt64.toUInt64).toInt64))), .second] [(.long (own_before q1 ((q2 &&& (-((128 : Int64) <<< (((8 : Int32) * (p3 &&& (7 : Int32))) &&& 0x3f).toInt64))) ||| ((128 : Int64) <<< (((8 : Int32) * (p3 &&& (7 : Int32))) &&& 0x3f).toInt64))))])) _
    refine XS.lload X4.here hx rfl (hb hby at_61) rfl ?_
    show Steps p.tables e below (T4.setTop (mkF m 63 #[.val (.long q1), .second, .val (.long q2), .second, .val (.int p3), .val (.int (p3 &&& (7 : Int32))), .val (.long ((128 : Int64) <<< (((8 : Int32) * (p3 &&& (7 : Int32))) &&& 0x3f).toInt64)), .second, .val (.long ((q2 &&& (-((128 : Int64) <<< (((8 : Int32) * (p3 &&& (7 : Int32))) &&& 0x3f).toInt64))) ||| ((128 : Int64) <<< (((8 : Int32) * (p3 &&& (7 : Int32))) &&& 0x3f).toInt64))), .second, .val (.long (q1 &&& (((-1 : Int64).toUInt64 >>> (((64 : Int32) - ((8 : Int32) * (p3 &&& (7 : Int32)))) &&& 0x3f).toInt64.toUInt64).toInt64))), .second] [(.long (q1 &&& (((-1 : Int64).toUInt64 >>> (((64 : Int32) - ((8 : Int32) * (p3 &&& (7 : Int32)))) &&& 0x3f).toInt64.toUInt64).toInt64))), (.long (own_before q1 ((q2 &&& (-((128 : Int64) <<< (((8 : Int32) * (p3 &&& (7 : Int32))) &&& 0x3f).toInt64))) ||| ((128 : Int64) <<< (((8 : Int32) * (p3 &&& (7 : Int32))) &&& 0x3f).toInt64))))])) _
    refine XS.lcmp X4.here hx rfl (hb hby at_63) rfl ?_
    show Steps p.tables e below (T4.setTop (mkF m 64 #[.val (.long q1), .second, .val (.long q2), .second, .val (.int p3), .val (.int (p3 &&& (7 : Int32))), .val (.long ((128 : Int64) <<< (((8 : Int32) * (p3 &&& (7 : Int32))) &&& 0x3f).toInt64)), .second, .val (.long ((q2 &&& (-((128 : Int64) <<< (((8 : Int32) * (p3 &&& (7 : Int32))) &&& 0x3f).toInt64))) ||| ((128 : Int64) <<< (((8 : Int32) * (p3 &&& (7 : Int32))) &&& 0x3f).toInt64))), .second, .val (.long (q1 &&& (((-1 : Int64).toUInt64 >>> (((64 : Int32) - ((8 : Int32) * (p3 &&& (7 : Int32)))) &&& 0x3f).toInt64.toUInt64).toInt64))), .second] [(.int (lcmpW (own_before q1 ((q2 &&& (-((128 : Int64) <<< (((8 : Int32) * (p3 &&& (7 : Int32))) &&& 0x3f).toInt64))) ||| ((128 : Int64) <<< (((8 : Int32) * (p3 &&& (7 : Int32))) &&& 0x3f).toInt64))) (q1 &&& (((-1 : Int64).toUInt64 >>> (((64 : Int32) - ((8 : Int32) * (p3 &&& (7 : Int32)))) &&& 0x3f).toInt64.toUInt64).toInt64))))])) _
    refine XS.ifNo X4.here hx rfl (hb hby at_64) rfl ((if0 _ _).trans (teq (own_some q1 q2 p3 hc30 : (lcmpW (own_before q1 ((q2 &&& (-((128 : Int64) <<< (((8 : Int32) * (p3 &&& (7 : Int32))) &&& 0x3f).toInt64))) ||| ((128 : Int64) <<< (((8 : Int32) * (p3 &&& (7 : Int32))) &&& 0x3f).toInt64))) (q1 &&& (((-1 : Int64).toUInt64 >>> (((64 : Int32) - ((8 : Int32) * (p3 &&& (7 : Int32)))) &&& 0x3f).toInt64.toUInt64).toInt64))) = (0 : Int32))).2) ?_
    show Steps p.tables e below (T4.setTop (mkF m 67 #[.val (.long q1), .second, .val (.long q2), .second, .val (.int p3), .val (.int (p3 &&& (7 : Int32))), .val (.long ((128 : Int64) <<< (((8 : Int32) * (p3 &&& (7 : Int32))) &&& 0x3f).toInt64)), .second, .val (.long ((q2 &&& (-((128 : Int64) <<< (((8 : Int32) * (p3 &&& (7 : Int32))) &&& 0x3f).toInt64))) ||| ((128 : Int64) <<< (((8 : Int32) * (p3 &&& (7 : Int32))) &&& 0x3f).toInt64))), .second, .val (.long (q1 &&& (((-1 : Int64).toUInt64 >>> (((64 : Int32) - ((8 : Int32) * (p3 &&& (7 : Int32)))) &&& 0x3f).toInt64.toUInt64).toInt64))), .second] [])) _
    refine XS.iconst X4.here hx rfl (hb hby at_67) ?_
    show Steps p.tables e below (T4.setTop (mkF m 68 #[.val (.long q1), .second, .val (.long q2), .second, .val (.int p3), .val (.int (p3 &&& (7 : Int32))), .val (.long ((128 : Int64) <<< (((8 : Int32) * (p3 &&& (7 : Int32))) &&& 0x3f).toInt64)), .second, .val (.long ((q2 &&& (-((128 : Int64) <<< (((8 : Int32) * (p3 &&& (7 : Int32))) &&& 0x3f).toInt64))) ||| ((128 : Int64) <<< (((8 : Int32) * (p3 &&& (7 : Int32))) &&& 0x3f).toInt64))), .second, .val (.long (q1 &&& (((-1 : Int64).toUInt64 >>> (((64 : Int32) - ((8 : Int32) * (p3 &&& (7 : Int32)))) &&& 0x3f).toInt64.toUInt64).toInt64))), .second] [(.int (1 : Int32))])) _
    refine XS.goto X4.here hx rfl (pc0 := 68) (pc' := 72) rfl (hb hby at_68) (by decide) (by decide) ?_
    show Steps p.tables e below (T4.setTop (mkF m 72 #[.val (.long q1), .second, .val (.long q2), .second, .val (.int p3), .val (.int (p3 &&& (7 : Int32))), .val (.long ((128 : Int64) <<< (((8 : Int32) * (p3 &&& (7 : Int32))) &&& 0x3f).toInt64)), .second, .val (.long ((q2 &&& (-((128 : Int64) <<< (((8 : Int32) * (p3 &&& (7 : Int32))) &&& 0x3f).toInt64))) ||| ((128 : Int64) <<< (((8 : Int32) * (p3 &&& (7 : Int32))) &&& 0x3f).toInt64))), .second, .val (.long (q1 &&& (((-1 : Int64).toUInt64 >>> (((64 : Int32) - ((8 : Int32) * (p3 &&& (7 : Int32)))) &&& 0x3f).toInt64.toUInt64).toInt64))), .second] [(.int (1 : Int32))])) _
    exact retN X4 hx (t := .boolean) Bd.returns (by simp) (hb hby at_72) hr
  · show Q0 Z q1 q2 p3 h0 n0 _ T4.heap _
    exact ⟨rfl, N4⟩

theorem rm0 (l : Launch) (Z : State) (a0 : Array Value) (hw : ∀ d ∈ tables_1, d.before a0 Z = true) (ws : List Jvm.Cond) (q1 : Int64) (q2 : Int64) (p3 : Int32) (h0 : Heap) (n0 : Nat) (Z0 : n0 ≤ h0.size) :
    MetFree l x (head1 (Jvm.Cond.code x code maxLocals ret :: ws) room_1) (fun a U => a = #[(.long q1), (.long q2), (.int p3)] ∧ Z.Warmed39 U.vm ∧ U.heap = h0) (fun _ _ _ _ _ => True) (fun _ U o U' => ∃ v L, o = .returned v ∧ Q0 Z q1 q2 p3 h0 n0 v U'.heap L ∧ FrameEnd U o U' L room_1.cells room_1.slots) := by
  by_cases h : (p3 &&& (7 : Int32)) = (0 : Int32)
  · exact rm0_z l Z a0 hw ws q1 q2 p3 h0 n0 Z0 h
  · exact rm0_s l Z a0 hw ws q1 q2 p3 h0 n0 Z0 h
set_option maxRecDepth 65536 in
set_option maxHeartbeats 40000000 in
theorem comes_1 {Post : Tables → Env → Array Value → State → Outcome → State → Prop} (hpost : ∀ tb e args s v u, (limb_1_1.after args s (.returned v) u = true ∧ limb_1_2.after args s (.returned v) u = true ∧ True) → FrameEnd s (.returned v) u (Jvm.fieldLocs frame_1_writes args s ++ Jvm.arrayLocs frame_1_arrays args s ++ Jvm.staticLocs frame_1_statics s) 0 0 → Post tb e args s (.returned v) u) :
    ArmFor flags0 classFile x code maxLocals ret World_1 tables_1 room_1 Calls_1 rest_1 Pre_1 Post := by
  intro l hfl _ _ p e ha hc hk s m args below hf hA hF happ hP
  obtain ⟨hcalls, hrest, hpre⟩ := hP
  obtain ⟨-, -, -, hnamed, -, -, -, hat⟩ := (Spec.applies_iff hf).mp happ
  obtain ⟨hg, hn⟩ := and_e (Cond.before_iff.mp (show (Jvm.Cond.and given_1 narrow_1).before args s = true from hpre))
  obtain ⟨g5, g6⟩ := and_e hg
  obtain ⟨g7, g8⟩ := and_e g6
  obtain ⟨g9, g10⟩ := and_e g8
  obtain ⟨w0, w1, w2, rfl⟩ : ∃ w0 w1 w2 : Value, args = #[w0, w1, w2] := by
    have hs : args.size = 3 := by simpa [Cond.value, given_1] using g5
    obtain ⟨L⟩ := args
    match L, hs with
    | [w0, w1, w2], _ => exact ⟨w0, w1, w2, rfl⟩
  have hw := fun d (hd : d ∈ tables_1) => atoms_spec (ws := Jvm.Cond.code x code maxLocals ret :: tables_1) hat d (List.mem_cons_of_mem _ hd)
  have hfit : Fit s := fun {y c} hc i hi => by
    obtain ⟨ha, rfl⟩ := Array.getElem?_eq_some_iff.mp hc
    have q := List.all_eq_true.mp ((Array.all_eq_true_iff_forall_mem.mp hF) _ (Array.getElem_mem ha)) i (List.mem_range.mpr hi)
    simpa [Array.getElem?_eq_getElem hi] using q
  obtain ⟨i0, ei0⟩ := isL_v g7
  obtain rfl : w0 = (.long i0) := Option.some.inj ei0
  obtain ⟨i1, ei1⟩ := isL_v g9
  obtain rfl : w1 = (.long i1) := Option.some.inj ei1
  obtain ⟨i2, ei2⟩ := is_v g10
  obtain rfl : w2 = (.int i2) := Option.some.inj ei2
  obtain ⟨n, o, h1, h2, h3, _, L, rfl, ⟨rfl, N⟩, hq⟩ := rm0 l s _ hw tables_1 i0 i1 i2 s.heap s.heap.size (Nat.le_refl _) p e ha hc hk s m _ below hf ((Spec.applies_iff_loose hf).mp happ).1 ⟨rfl, State.Warmed39.refl s, rfl⟩ trivial
  refine ⟨n, _, h1, h2, h3, hpost _ _ _ _ _ _ ⟨Cond.after_iff.mpr rfl, Cond.after_iff.mpr (eq_i res_at (Term.int_eval (1)) rfl), trivial⟩ ⟨hq.1, hq.2.1, (hq.2.2.sift fun y hy => Or.inr (N y hy)).mono (by decide) (by decide)⟩⟩
theorem main_1_1 : Claimed_1_1 := comes_1 fun _ _ _ _ _ _ h hF => ⟨h.1, hF⟩
theorem main_1_2 : Claimed_1_2 := comes_1 fun _ _ _ _ _ _ h hF => ⟨h.2.1, hF⟩
end Jvm.Pilot.@@N@@
namespace Jvm.Pilot.@@N@@
open Jvm Jvm.ClassFile Sem Op Lib Jvm.Free Jvm.Stand Jvm.Pilot.@@N@@.Jvm.D
/-! MADE BY PROGRAM (witnessworld.py) out of the Statement's table words and the real class files: 9 classes; the members and pool entries that the words name. The judged class is class 1, her method 1. -/
namespace start1
open Jvm.ClassFile
def u (s : String) : CpInfo := .utf8 (stringToUtf16 s)
/-- a pool by its gaps: so many unusable entries, then the entry; so many at the end -/
def gap : Nat → List CpInfo → List CpInfo
  | 0, r => r
  | n + 1, r => .unusable :: gap n r
def poolList (es : List (Nat × CpInfo)) (last : Nat) : List CpInfo := es.foldr (fun e r => gap e.1 (e.2 :: r)) (gap last [])
def pool (es : List (Nat × CpInfo)) (last : Nat) : Array CpInfo := ⟨poolList es last⟩
def fileOf (pool : Array CpInfo) (this : Nat) (attrs : Array Attribute := #[]) (ms : Array MethodInfo := #[]) (fl : Nat := 33) (sup : Nat := 0) (ifs : Array Nat := #[]) (fds : Array FieldInfo := #[]) : ClassFile where
  minorVersion := 0
  majorVersion := 65
  constantPool := pool
  accessFlags := fl
  thisClass := this
  superClass := sup
  interfaces := ifs
  fields := fds
  methods := ms
  attributes := attrs
def plain (name : String) (sup : Option ClassId) : Class where
  name := name
  kind := .ordinary
  loader := none
  accessFlags := 33
  super := sup
  interfaces := #[]
  cf := none
  fields := #[]
  methods := #[]
  instanceTypes := #[]
  staticTypes := #[]
  resolved := #[]
  callSites := []
  init := .initialized
  statics := none
  mirror := none

def pool0 : Array CpInfo := pool [(5, u "<init>"), (0, u "()V"), (1, .class_ 10), (1, u "java/lang/Object")] 113

def k0m0 : Method := { name := "<init>", desc := "()V", sig := { parameters := [], returnType := none }, accessFlags := 1, code := none }
/-- java/lang/Object -/
def k0 : Class := { plain "java/lang/Object" none with
  accessFlags := 33
  interfaces := #[]
  cf := some (fileOf pool0 8 #[] #[{ accessFlags := 1, nameIndex := 5, descriptorIndex := 6, attributes := #[] }] 33 0 #[] #[])
  fields := #[]
  methods := #[k0m0]
  instanceTypes := #[]
  staticTypes := #[]
  resolved := Array.replicate 124 none
  statics := none }

def pool1 : Array CpInfo := pool [(2, .class_ 4), (1, u "java/lang/Object"), (0, u "<init>"), (0, u "()V"), (0, .long 128), (1, .long 18446744073709551615), (1, .methodref 12 13), (0, .class_ 14), (0, .nameAndType 15 16), (0, u "com/example/packtally/packtally/Words"), (0, u "before"), (0, u "(JJ)J"), (0, .class_ 18), (0, u "com/example/packtally/packtally/WordsBeforePinLaw"), (2, u "law"), (0, u "(JJI)Z")] 3

def k1m0 : Method := { name := "<init>", desc := "()V", sig := { parameters := [], returnType := none }, accessFlags := 2, code := none }
def k1c1 : Code := { maxStack := 7, maxLocals := 12, code := code, exceptionTable := #[], attributes := #[] }
def k1m1 : Method := { name := "law", desc := "(JJI)Z", sig := { parameters := [.long, .long, .int], returnType := some .boolean }, accessFlags := 9, code := some k1c1 }
/-- com/example/packtally/packtally/WordsBeforePinLaw -/
def k1 : Class := { plain "com/example/packtally/packtally/WordsBeforePinLaw" (some 0) with
  accessFlags := 49
  interfaces := #[]
  cf := some (fileOf pool1 17 #[] #[{ accessFlags := 2, nameIndex := 5, descriptorIndex := 6, attributes := #[] }, { accessFlags := 9, nameIndex := 21, descriptorIndex := 22, attributes := #[] }] 49 2 #[] #[])
  fields := #[]
  methods := #[k1m0, k1m1]
  instanceTypes := #[]
  staticTypes := #[]
  resolved := Array.replicate 26 none
  statics := none }

def pool2 : Array CpInfo := pool [(2, .class_ 4), (1, u "java/lang/Object"), (0, u "<init>"), (0, u "()V"), (1, .class_ 10), (1, u "com/example/packtally/packtally/Words"), (0, u "WORDS"), (0, u "Ljava/lang/invoke/VarHandle;"), (40, u "HIGH_BITS"), (0, u "J"), (1, u "LOW_BITS"), (6, u "(JJ)J"), (3, u "before")] 3

def k2m0 : Method := { name := "<init>", desc := "()V", sig := { parameters := [], returnType := none }, accessFlags := 2, code := none }
def k2c1 : Code := { maxStack := 6, maxLocals := 6, code := prog_20_method_7_code, exceptionTable := #[], attributes := #[] }
def k2m1 : Method := { name := "before", desc := "(JJ)J", sig := { parameters := [.long, .long], returnType := some .long }, accessFlags := 8, code := some k2c1 }
/-- com/example/packtally/packtally/Words -/
def k2 : Class := { plain "com/example/packtally/packtally/Words" (some 0) with
  accessFlags := 48
  interfaces := #[]
  cf := some (fileOf pool2 8 #[] #[{ accessFlags := 2, nameIndex := 5, descriptorIndex := 6, attributes := #[] }, { accessFlags := 8, nameIndex := 67, descriptorIndex := 63, attributes := #[] }] 48 2 #[] #[{ accessFlags := 24, nameIndex := 53, descriptorIndex := 54, attributes := #[] }, { accessFlags := 26, nameIndex := 56, descriptorIndex := 54, attributes := #[] }, { accessFlags := 26, nameIndex := 11, descriptorIndex := 12, attributes := #[] }])
  fields := #[{ name := "HIGH_BITS", type := .long, accessFlags := 24, slot := 0, constantValue := 0 }, { name := "LOW_BITS", type := .long, accessFlags := 26, slot := 1, constantValue := 0 }, { name := "WORDS", type := (.object "java/lang/invoke/VarHandle"), accessFlags := 26, slot := 2, constantValue := 0 }]
  methods := #[k2m0, k2m1]
  instanceTypes := #[]
  staticTypes := #[.long, .long, (.object "java/lang/invoke/VarHandle")]
  resolved := Array.replicate 71 none
  statics := none }

def pool3 : Array CpInfo := pool [(1, u "java/lang/Cloneable"), (0, .class_ 1), (0, u "java/lang/Object"), (0, .class_ 3)] 3

/-- java/lang/Cloneable -/
def k3 : Class := { plain "java/lang/Cloneable" (some 0) with
  accessFlags := 1537
  interfaces := #[]
  cf := some (fileOf pool3 2 #[] #[] 1537 4 #[] #[])
  fields := #[]
  methods := #[]
  instanceTypes := #[]
  staticTypes := #[]
  resolved := Array.replicate 8 none
  statics := none }

def pool4 : Array CpInfo := pool [(1, u "java/io/Serializable"), (0, .class_ 1), (0, u "java/lang/Object"), (0, .class_ 3)] 3

/-- java/io/Serializable -/
def k4 : Class := { plain "java/io/Serializable" (some 0) with
  accessFlags := 1537
  interfaces := #[]
  cf := some (fileOf pool4 2 #[] #[] 1537 4 #[] #[])
  fields := #[]
  methods := #[]
  instanceTypes := #[]
  staticTypes := #[]
  resolved := Array.replicate 8 none
  statics := none }

/-- the primitive byte -/
def k5 : Class := { plain "byte" none with kind := .primitive 'B', accessFlags := 0x411 }
/-- [B -/
def k6 : Class := { plain "[B" (some 0) with kind := .array 5 .byte, interfaces := #[3, 4], accessFlags := 1041 }

/-- the primitive int -/
def k7 : Class := { plain "int" none with kind := .primitive 'I', accessFlags := 0x411 }
/-- [I -/
def k8 : Class := { plain "[I" (some 0) with kind := .array 7 .int, interfaces := #[3, 4], accessFlags := 1041 }

def heap : Heap := #[]
def classes : Array Class := #[k0, k1, k2, k3, k4, k5, k6, k7, k8]
def interned : List (Array UInt16 × Addr) := []
def slotsUsed : Nat := 0
def theMethod : MethodId := ⟨1, 1⟩
def args0 : Array Value := #[.long 5, .long 300, .int 7]
def aboutOver (below : List Frame) : State where
  vm := { classes := classes, interned := interned.toArray }
  heap := heap
  slotsUsed := slotsUsed
  threads := #[{ frames := .invoking theMethod args0 :: below }]
def below0 : List Frame := [.native { method := ⟨0, 0⟩, args := #[] }]
def about1 : State := aboutOver below0
def p0 : Program := .bare "" "" ""
def e0 : Env := launch0.env 0 0 0
theorem w_frames : about1.frames = Frame.invoking theMethod args0 :: below0 := rfl
set_option maxRecDepth 65536 in
theorem w_args : argsFit about1.vm theMethod args0 = true := by decide +kernel
set_option maxRecDepth 65536 in
theorem w_heap : heapFits about1 = true := by decide +kernel
set_option maxRecDepth 65536 in
theorem w_runnable : about1.curStatus? = some .runnable := by decide +kernel
set_option maxRecDepth 65536 in
theorem w_alone : about1.alone = true := by decide +kernel
set_option maxRecDepth 65536 in
theorem w_named : about1.methodNamed? x = some theMethod := by decide +kernel
set_option maxRecDepth 65536 in
theorem w_hears : about1.hears theMethod below0 = true := by decide +kernel
set_option maxRecDepth 65536 in
theorem w_ripe : about1.ripe theMethod args0 below0 = true := by decide +kernel
theorem w_running : about1.status = .running := rfl
set_option maxRecDepth 65536 in
theorem w_room : about1.hasRoom e0.platform room_1 = true :=
  launch0.hasRoom_least _ room_1 (by decide +kernel) (by decide +kernel) (by decide +kernel) (by decide +kernel) (by decide +kernel) (by decide +kernel)
theorem allAtoms_all (ts : List Jvm.Cond) (a : Array Jvm.Value) (st : Jvm.State) : (allAtoms ts).before a st = ts.all (fun c => c.before a st) := by
  induction ts with
  | nil => rfl
  | cons c t ih =>
    show (Jvm.Cond.and c (allAtoms t)).before a st = _
    rw [Jvm.Cond.before_and, ih, List.all_cons]
def words1 : List Jvm.Cond := Jvm.Cond.code x code maxLocals ret :: tables_1
/-- a 'code' word, met by the world's own term for the bytes: nothing is compared byte by byte -/
theorem code_word {y : MethodName} {bytes : ByteArray} {mx : Nat} {rt : Option FieldType} {a : Array Value} {s : State} {m : MethodId} {meth : Method} {c : Code} (h1 : s.methodNamed? y = some m) (h2 : s.vm.method? m = some meth) (h3 : meth.code = some c) (h4 : c.code = bytes)
    (h5 : (c.maxLocals == mx && c.exceptionTable.isEmpty && decide (c.maxStack ≤ mostOperands) && decide (meth.sig.returnType = rt) && !meth.locks && decide (parseMethodDescriptor y.desc = some meth.sig)) = true) : (Jvm.Cond.code y bytes mx rt).before a s = true := by
  simp only [Bool.and_eq_true, beq_iff_eq, Bool.not_eq_true', decide_eq_true_eq] at h5
  obtain ⟨⟨⟨⟨⟨g1, g2⟩, g3⟩, g4⟩, g5⟩, g6⟩ := h5
  simp [Cond.before, Cond.holds, Cond.value, h1, h2, h3, h4, g1, g2, g3, g4, g5, g6]
def isCode : Jvm.Cond → Bool
  | .code _ _ _ _ => true
  | _ => false
theorem all_split {L : List Jvm.Cond} {P : Jvm.Cond → Bool} (h1 : L.all (fun c => isCode c || P c) = true) (h2 : ∀ c ∈ L.filter isCode, P c = true) : L.all P = true := by
  refine List.all_eq_true.mpr fun c hc => ?_
  have h := List.all_eq_true.mp h1 c hc
  rcases Bool.eq_false_or_eq_true (isCode c) with hi | hi
  · exact h2 c (List.mem_filter.mpr ⟨hc, hi⟩)
  · simpa [hi] using h
set_option maxRecDepth 65536 in
theorem w_c0 : (Jvm.Cond.code x code maxLocals ret).before args0 about1 = true := code_word (m := ⟨1, 1⟩) (meth := k1m1) (c := k1c1) (by decide +kernel) rfl rfl rfl (by decide +kernel)
set_option maxRecDepth 65536 in
theorem w_c1 : (Jvm.Cond.code ({ cls := "com/example/packtally/packtally/Words", name := "before", desc := "(JJ)J" } : Jvm.MethodName) prog_20_method_7_code (6 : Nat) (Option.some Jvm.ClassFile.FieldType.long)).before args0 about1 = true := code_word (m := ⟨2, 1⟩) (meth := k2m1) (c := k2c1) (by decide +kernel) rfl rfl rfl (by decide +kernel)
def codes1 : List Jvm.Cond := [Jvm.Cond.code x code maxLocals ret, Jvm.Cond.code ({ cls := "com/example/packtally/packtally/Words", name := "before", desc := "(JJ)J" } : Jvm.MethodName) prog_20_method_7_code (6 : Nat) (Option.some Jvm.ClassFile.FieldType.long)]
set_option maxRecDepth 65536 in
theorem codes_eq : words1.filter isCode = codes1 := rfl
theorem w_codes : ∀ c ∈ words1.filter isCode, c.before args0 about1 = true := by
  rw [codes_eq]
  intro c hc
  simp only [codes1, List.mem_cons, List.not_mem_nil, or_false] at hc
  rcases hc with rfl | rfl
  · exact w_c0
  · exact w_c1
set_option maxRecDepth 65536 in
theorem w_t1 : words1.all (fun c => isCode c || c.before args0 about1) = true := by decide +kernel
theorem w_tables : (allAtoms (Jvm.Cond.code x code maxLocals ret :: tables_1)).before args0 about1 = true := by
  rw [allAtoms_all]
  show words1.all (fun c => c.before args0 about1) = true
  refine all_split ?_ w_codes
  rw [w_t1]
set_option maxRecDepth 65536 in
theorem w_case : (Jvm.Cond.and given_1 narrow_1).before args0 about1 = true := by decide +kernel
theorem w_applies : (headSpec (Jvm.Cond.code x code maxLocals ret :: tables_1) room_1).applies x e0.platform about1 = true :=
  (Spec.applies_iff w_frames).mpr ⟨w_running, w_runnable, w_alone, w_named, w_hears, w_ripe, w_room, w_tables⟩
theorem atStart : AtStart classFile x code maxLocals ret World_1 tables_1 room_1 Calls_1 rest_1 Pre_1 launch0 p0 e0 about1 theMethod args0 below0 :=
  ⟨lists_1, trivial, launch0.admits_env _ _ _, launch0.least_env, fairChoices_fair.cas, fairChoices_fair.clock, w_frames, w_args, w_heap, w_applies, trivial, trivial, w_case⟩
end start1
theorem witness_1 : WitnessClaimed_1 := ⟨start1.p0, start1.e0, start1.about1, start1.theMethod, start1.args0, start1.below0, start1.atStart⟩
end Jvm.Pilot.@@N@@
