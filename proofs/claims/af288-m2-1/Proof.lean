import JvmDerived
import JvmDerived.Pilot.@@N@@Statement
import JvmDerived.Pilot.@@N@@Code
set_option linter.unusedVariables false
set_option linter.unusedSimpArgs false
namespace Jvm.RoadKit
open Sem ClassFile Op Lib Jvm.Stand Jvm.Free Jvm.LawKit
section New
variable {p : Program} {l : Launch} {e : Env} {R : Room} {s : State} {m : MethodId} {args : Array Value} {below : List Frame} {meth : Method} {c : Code} {T : State} {locs : List Loc} {cells slots : Nat}
theorem retI (X : Stand p l e R s m args below meth c T locs cells slots) (hx : p.tables.exec = Jvm.exec) {pc : Nat} {Ls : Array Slot} {z : Int32} {rest : List Value} (hret : meth.sig.returnType = some .int) (hd : decode c.code pc = .ok (.ireturn, 1)) {fs : List Frame}
    (hl : ∀ (f : JFrame) (acts : List Action), f.method = m → f.locked = none → f.entered = [] → (doReturn e (T.setTop f) acts (some (.int z))).1 = T.setFrames fs) : Steps p.tables e below (T.setTop (mkF m pc Ls (.int z :: rest))) (T.setFrames fs) := by
  have hm' : T.vm.method? m = some meth := X.method'
  have hn : narrow .int (.int z) = .int z := rfl
  show Steps p.tables e below (T.setTop { method := m, pc := pc, locals := Ls, stack := _ :: rest, locked := none }) _
  jvm_step X.here [X.here.top, hx, hd, hm', hret, hn]
  first | (intro acts; rw [hl _ acts rfl rfl rfl]) | rw [hl _ _ rfl rfl rfl]
  exact Steps.refl _
end New
end Jvm.RoadKit
namespace Jvm.Pilot.@@N@@
open Jvm Jvm.ClassFile Sem Op Lib Jvm.Free Jvm.Stand Jvm.LawKit Jvm.RoadKit Bundle Jvm.Pilot.@@N@@.Jvm.D
theorem d1_0 : decode prog_23_method_4_code 0 = .ok (.aload_n 0, 1) := by decide +kernel
theorem d1_1 : decode prog_23_method_4_code 1 = .ok (.getstatic 13, 3) := by decide +kernel
theorem d1_4 : decode prog_23_method_4_code 4 = .ok (.if_acmp .eq 14, 3) := by decide +kernel
theorem d1_7 : decode prog_23_method_4_code 7 = .ok (.aload_n 0, 1) := by decide +kernel
theorem d1_8 : decode prog_23_method_4_code 8 = .ok (.getstatic 16, 3) := by decide +kernel
theorem d1_11 : decode prog_23_method_4_code 11 = .ok (.if_acmp .eq 7, 3) := by decide +kernel
theorem d1_14 : decode prog_23_method_4_code 14 = .ok (.iconst 1, 1) := by decide +kernel
theorem d1_15 : decode prog_23_method_4_code 15 = .ok (.goto 4, 3) := by decide +kernel
theorem d1_18 : decode prog_23_method_4_code 18 = .ok (.iconst 0, 1) := by decide +kernel
theorem d1_19 : decode prog_23_method_4_code 19 = .ok (.ireturn, 1) := by decide +kernel
theorem pn_com_example_factline_factline_model_Duplicates_Kind : plainName "com/example/factline/factline/model/Duplicates$Kind" = true := by first | (simp [plainName, overriddenIn]; done) | decide +kernel
theorem ef_1 (r0 : Addr) (w3 w4 : Addr) (m : MethodId) : entryFrame m #[(.ref r0)] 1 = mkF m 0 #[.val (.ref r0)] [] := by first | (simp [entryFrame, mkF, argsToLocals, Value.category]; done) | rfl
def F1 (r0 : Addr) (w3 w4 : Addr) : Int32 := (if r0 = w3 then (0 : Int32) else (if r0 = w4 then (0 : Int32) else (1 : Int32)))
def Q1 (Z : State) (r0 : Addr) (w3 w4 : Addr) (h0 : Heap) (n0 : Nat) (v : Option Value) (h : Heap) (L : List Loc) : Prop := v = some (.int (F1 r0 w3 w4)) ∧ Fr n0 L ∧ h = h0
set_option maxRecDepth 65536 in
set_option maxHeartbeats 40000000 in
theorem rm1 (l : Launch) (Z : State) (a0 : Array Value) (hw : ∀ d ∈ tables_1, d.before a0 Z = true) (ws : List Jvm.Cond) (r0 : Addr) (w3 w4 : Addr) (h0 : Heap) (n0 : Nat) (Z0 : n0 ≤ h0.size) (S_MULTI_LANGUAGE : Sta Z h0 "com/example/factline/factline/model/Duplicates$Kind" "MULTI_LANGUAGE" "Lcom/example/factline/factline/model/Duplicates$Kind;" (.ref w3)) (S_MULTI_UNIT : Sta Z h0 "com/example/factline/factline/model/Duplicates$Kind" "MULTI_UNIT" "Lcom/example/factline/factline/model/Duplicates$Kind;" (.ref w4)) :
    MetFree l (⟨"com/example/factline/factline/model/Duplicates$Kind", "isDuplicate", "()Z"⟩ : MethodName) (head1 (Jvm.Cond.code (⟨"com/example/factline/factline/model/Duplicates$Kind", "isDuplicate", "()Z"⟩ : MethodName) prog_23_method_4_code 1 (some .boolean) :: ws) ({ frames := 0, cells := 0, slots := 0, locals := 0 } : Room)) (fun a U => a = #[(.ref r0)] ∧ Z.Warmed39 U.vm ∧ U.heap = h0) (fun _ _ _ _ _ => True) (fun _ U o U' => ∃ v L, o = .returned v ∧ Q1 Z r0 w3 w4 h0 n0 v U'.heap L ∧ FrameEnd U o U' L ({ frames := 0, cells := 0, slots := 0, locals := 0 } : Room).cells ({ frames := 0, cells := 0, slots := 0, locals := 0 } : Room).slots) := by
  refine MetFree.of_bodySF (plainFor_of_name pn_com_example_factline_factline_model_Duplicates_Kind) hisR ?_
  intro p e s m args below meth c s₁ Bd hml0 hP hK
  obtain ⟨rfl, hZ, hh⟩ := hP
  have hx := Bd.exec
  have hby := Bd.bytes
  have hml : c.maxLocals = 1 := hml0
  have hown : s.vm.findClass "com/example/factline/factline/model/Duplicates$Kind" = some m.cls := findClass_of_methodNamed Bd.named
  have hnm := (name_of_methodNamed Bd.named Bd.method).1
  have X0 : Stand p l e ({ frames := 0, cells := 0, slots := 0, locals := 0 } : Room) s m #[(.ref r0)] below meth c s₁ [] 0 0 := Stand.of_body Bd
  have e0 : s₁.heap = h0 := by rw [← hh, Bd.state]; rfl
  have N0 := Fr.nil n0
  have pre0 : ∀ t, Steps p.tables e below (s₁.setTop (mkF m 0 #[.val (.ref r0)] [])) t → Steps p.tables e below (s₁.setTop (entryFrame m #[(.ref r0)] 1)) t := fun t k => castTop (ef_1 r0 w3 w4 m) k
  obtain ⟨T1, X1, e1, st1⟩ := getS2 X0 hx hZ hown (host := "") (Or.inl (hw _ (List.mem_of_getElem? (i := 20) rfl))) Via.refl e0 S_MULTI_LANGUAGE (g := (mkF m 1 #[.val (.ref r0)] [(.ref r0)])) rfl (hb hby d1_1)
  have pre2 : ∀ t, Steps p.tables e below (T1.setTop (mkF m 4 #[.val (.ref r0)] [(.ref w3), (.ref r0)])) t → Steps p.tables e below (s₁.setTop (entryFrame m #[(.ref r0)] 1)) t := fun t kt => pre0 t (by
    show Steps p.tables e below (s₁.setTop (mkF m 0 #[.val (.ref r0)] [])) _
    refine XS.aloadN X0.here hx rfl (hb hby d1_0) rfl rfl ?_
    show Steps p.tables e below (s₁.setTop (mkF m 1 #[.val (.ref r0)] [(.ref r0)])) _
    refine st1 _ ?_
    exact kt)
  by_cases ha4 : r0 = w3
  · obtain ⟨fs, hr, hrun, hended, hW, hsame⟩ := X1.leave (v := some (.int (0 : Int32))) (fun h => by rw [Bd.returns] at h; cases h)
    refine ⟨_, _, pre2 _ ?_, hrun, hended, _, _, rfl, ?_, ⟨_, rfl⟩, hW, hsame.mono (by decide) (by decide)⟩
    · show Steps p.tables e below (T1.setTop (mkF m 4 #[.val (.ref r0)] [(.ref w3), (.ref r0)])) _
      refine Jvm.RoadKit.acmp (g := (mkF m 4 #[.val (.ref r0)] [(.ref w3), (.ref r0)])) X1 hx rfl rfl rfl (pc0 := 4) (pc' := 18) (same := true) rfl (hb hby d1_4) rfl (decide_eq_true (congrArg Value.ref ha4)) (by decide) (by decide) ?_
      show Steps p.tables e below (T1.setTop (mkF m 18 #[.val (.ref r0)] [])) _
      refine XS.iconst X1.here hx rfl (hb hby d1_18) ?_
      show Steps p.tables e below (T1.setTop (mkF m 19 #[.val (.ref r0)] [(.int (0 : Int32))])) _
      exact retN X1 hx (t := .boolean) Bd.returns (by simp) (hb hby d1_19) hr
    · show Q1 Z r0 w3 w4 h0 n0 _ T1.heap _
      rw [e1]
      exact ⟨(by unfold F1; simp only [if_pos ha4]), N0, rfl⟩
  · obtain ⟨T3, X3, e3, st3⟩ := getS2 X1 hx hZ hown (host := "") (Or.inl (hw _ (List.mem_of_getElem? (i := 21) rfl))) Via.refl e1 S_MULTI_UNIT (g := (mkF m 8 #[.val (.ref r0)] [(.ref r0)])) rfl (hb hby d1_8)
    have pre4 : ∀ t, Steps p.tables e below (T3.setTop (mkF m 11 #[.val (.ref r0)] [(.ref w4), (.ref r0)])) t → Steps p.tables e below (s₁.setTop (entryFrame m #[(.ref r0)] 1)) t := fun t kt => pre2 t (by
      show Steps p.tables e below (T1.setTop (mkF m 4 #[.val (.ref r0)] [(.ref w3), (.ref r0)])) _
      refine Jvm.RoadKit.acmp (g := (mkF m 4 #[.val (.ref r0)] [(.ref w3), (.ref r0)])) X1 hx rfl rfl rfl (pc0 := 4) (pc' := 7) (same := false) rfl (hb hby d1_4) rfl (decide_eq_false fun q => ha4 (Value.ref.inj q)) (by decide) (by decide) ?_
      show Steps p.tables e below (T1.setTop (mkF m 7 #[.val (.ref r0)] [])) _
      refine XS.aloadN X1.here hx rfl (hb hby d1_7) rfl rfl ?_
      show Steps p.tables e below (T1.setTop (mkF m 8 #[.val (.ref r0)] [(.ref r0)])) _
      refine st3 _ ?_
      exact kt)
    by_cases ha11 : r0 = w4
    · obtain ⟨fs, hr, hrun, hended, hW, hsame⟩ := X3.leave (v := some (.int (0 : Int32))) (fun h => by rw [Bd.returns] at h; cases h)
      refine ⟨_, _, pre4 _ ?_, hrun, hended, _, _, rfl, ?_, ⟨_, rfl⟩, hW, hsame.mono (by decide) (by decide)⟩
      · show Steps p.tables e below (T3.setTop (mkF m 11 #[.val (.ref r0)] [(.ref w4), (.ref r0)])) _
        refine Jvm.RoadKit.acmp (g := (mkF m 11 #[.val (.ref r0)] [(.ref w4), (.ref r0)])) X3 hx rfl rfl rfl (pc0 := 11) (pc' := 18) (same := true) rfl (hb hby d1_11) rfl (decide_eq_true (congrArg Value.ref ha11)) (by decide) (by decide) ?_
        show Steps p.tables e below (T3.setTop (mkF m 18 #[.val (.ref r0)] [])) _
        refine XS.iconst X3.here hx rfl (hb hby d1_18) ?_
        show Steps p.tables e below (T3.setTop (mkF m 19 #[.val (.ref r0)] [(.int (0 : Int32))])) _
        exact retN X3 hx (t := .boolean) Bd.returns (by simp) (hb hby d1_19) hr
      · show Q1 Z r0 w3 w4 h0 n0 _ T3.heap _
        rw [e3]
        exact ⟨(by unfold F1; simp only [if_neg ha4, if_pos ha11]), N0, rfl⟩
    · obtain ⟨fs, hr, hrun, hended, hW, hsame⟩ := X3.leave (v := some (.int (1 : Int32))) (fun h => by rw [Bd.returns] at h; cases h)
      refine ⟨_, _, pre4 _ ?_, hrun, hended, _, _, rfl, ?_, ⟨_, rfl⟩, hW, hsame.mono (by decide) (by decide)⟩
      · show Steps p.tables e below (T3.setTop (mkF m 11 #[.val (.ref r0)] [(.ref w4), (.ref r0)])) _
        refine Jvm.RoadKit.acmp (g := (mkF m 11 #[.val (.ref r0)] [(.ref w4), (.ref r0)])) X3 hx rfl rfl rfl (pc0 := 11) (pc' := 14) (same := false) rfl (hb hby d1_11) rfl (decide_eq_false fun q => ha11 (Value.ref.inj q)) (by decide) (by decide) ?_
        show Steps p.tables e below (T3.setTop (mkF m 14 #[.val (.ref r0)] [])) _
        refine XS.iconst X3.here hx rfl (hb hby d1_14) ?_
        show Steps p.tables e below (T3.setTop (mkF m 15 #[.val (.ref r0)] [(.int (1 : Int32))])) _
        refine XS.goto X3.here hx rfl (pc0 := 15) (pc' := 19) rfl (hb hby d1_15) (by decide) (by decide) ?_
        show Steps p.tables e below (T3.setTop (mkF m 19 #[.val (.ref r0)] [(.int (1 : Int32))])) _
        exact retN X3 hx (t := .boolean) Bd.returns (by simp) (hb hby d1_19) hr
      · show Q1 Z r0 w3 w4 h0 n0 _ T3.heap _
        rw [e3]
        exact ⟨(by unfold F1; simp only [if_neg ha4, if_neg ha11]), N0, rfl⟩
def A0_41 (p0 : Int32) (w0 w1 w2 w3 w4 : Addr) : Int32 := ((p0 &&& (2147483647 : Int32)) % (5 : Int32))
theorem own_five (p0 : Int32) : (p0 &&& (2147483647 : Int32)) % (5 : Int32) = 0 ∨ (p0 &&& (2147483647 : Int32)) % (5 : Int32) = 1 ∨ (p0 &&& (2147483647 : Int32)) % (5 : Int32) = 2 ∨ (p0 &&& (2147483647 : Int32)) % (5 : Int32) = 3 ∨ (p0 &&& (2147483647 : Int32)) % (5 : Int32) = 4 := by
  have m := c_mask p0 2147483647 31 (by decide) (by decide)
  have r := (c_irem (p0 &&& (2147483647 : Int32)) 5 5 (by decide)).1 (by omega)
  simp only [← Int32.toInt_inj]
  show _ = (0 : Int) ∨ _ = (1 : Int) ∨ _ = (2 : Int) ∨ _ = (3 : Int) ∨ _ = (4 : Int)
  omega
theorem pn_com_example_factline_factline_model_KindIsDuplicatePinLaw : plainName "com/example/factline/factline/model/KindIsDuplicatePinLaw" = true := by first | (simp [plainName, overriddenIn]; done) | decide +kernel
theorem pd___Z : parseMethodDescriptor "()Z" = some ⟨[], some .boolean⟩ := by decide +kernel
theorem ef_0 (p0 : Int32) (w0 w1 w2 w3 w4 : Addr) (m : MethodId) : entryFrame m #[(.int p0)] maxLocals = mkF m 0 #[.val (.int p0), .unset, .unset, .unset] [] := by first | (simp [entryFrame, mkF, argsToLocals, Value.category, maxLocals]; done) | rfl
def F0 (p0 : Int32) (w0 w1 w2 w3 w4 : Addr) : Int32 := (if (A0_41 p0 w0 w1 w2 w3 w4) = (0 : Int32) then (if (F1 w0 w3 w4) = (1 : Int32) then (1 : Int32) else (0 : Int32)) else (if (A0_41 p0 w0 w1 w2 w3 w4) = (1 : Int32) then (if (F1 w1 w3 w4) = (1 : Int32) then (1 : Int32) else (0 : Int32)) else (if (A0_41 p0 w0 w1 w2 w3 w4) = (2 : Int32) then (if (F1 w2 w3 w4) = (1 : Int32) then (1 : Int32) else (0 : Int32)) else (if (A0_41 p0 w0 w1 w2 w3 w4) = (3 : Int32) then (if (F1 w3 w3 w4) = (0 : Int32) then (1 : Int32) else (0 : Int32)) else (if (F1 w4 w3 w4) = (0 : Int32) then (1 : Int32) else (0 : Int32))))))
def Q0 (Z : State) (p0 : Int32) (w0 w1 w2 w3 w4 : Addr) (h0 : Heap) (n0 : Nat) (v : Option Value) (h : Heap) (L : List Loc) : Prop := v = some (.int (F0 p0 w0 w1 w2 w3 w4)) ∧ Fr n0 L
set_option maxRecDepth 65536 in
set_option maxHeartbeats 40000000 in
theorem rm0 (l : Launch) (Z : State) (a0 : Array Value) (hw : ∀ d ∈ tables_1, d.before a0 Z = true) (ws : List Jvm.Cond) (p0 : Int32) (w0 w1 w2 w3 w4 : Addr) (h0 : Heap) (n0 : Nat) (Z0 : n0 ≤ h0.size) (S_COMPLETE : Sta Z h0 "com/example/factline/factline/model/Duplicates$Kind" "COMPLETE" "Lcom/example/factline/factline/model/Duplicates$Kind;" (.ref w0)) (S_CONSISTENT : Sta Z h0 "com/example/factline/factline/model/Duplicates$Kind" "CONSISTENT" "Lcom/example/factline/factline/model/Duplicates$Kind;" (.ref w1)) (S_INCONSISTENT : Sta Z h0 "com/example/factline/factline/model/Duplicates$Kind" "INCONSISTENT" "Lcom/example/factline/factline/model/Duplicates$Kind;" (.ref w2)) (S_MULTI_LANGUAGE : Sta Z h0 "com/example/factline/factline/model/Duplicates$Kind" "MULTI_LANGUAGE" "Lcom/example/factline/factline/model/Duplicates$Kind;" (.ref w3)) (S_MULTI_UNIT : Sta Z h0 "com/example/factline/factline/model/Duplicates$Kind" "MULTI_UNIT" "Lcom/example/factline/factline/model/Duplicates$Kind;" (.ref w4)) (E_COMPLETE : Exa Z h0 w0 "com/example/factline/factline/model/Duplicates$Kind") (E_CONSISTENT : Exa Z h0 w1 "com/example/factline/factline/model/Duplicates$Kind") (E_INCONSISTENT : Exa Z h0 w2 "com/example/factline/factline/model/Duplicates$Kind") (E_MULTI_LANGUAGE : Exa Z h0 w3 "com/example/factline/factline/model/Duplicates$Kind") (E_MULTI_UNIT : Exa Z h0 w4 "com/example/factline/factline/model/Duplicates$Kind") (ne_w0_w3 : w0 ≠ w3) (ne_w0_w4 : w0 ≠ w4) (ne_w1_w3 : w1 ≠ w3) (ne_w1_w4 : w1 ≠ w4) (ne_w2_w3 : w2 ≠ w3) (ne_w2_w4 : w2 ≠ w4) :
    MetFree l x (head1 (Jvm.Cond.code x code maxLocals ret :: ws) room_1) (fun a U => a = #[(.int p0)] ∧ Z.Warmed39 U.vm ∧ U.heap = h0) (fun _ _ _ _ _ => True) (fun _ U o U' => ∃ v L, o = .returned v ∧ Q0 Z p0 w0 w1 w2 w3 w4 h0 n0 v U'.heap L ∧ FrameEnd U o U' L room_1.cells room_1.slots) := by
  refine MetFree.of_bodySF (plainFor_of_name pn_com_example_factline_factline_model_KindIsDuplicatePinLaw) hisR ?_
  intro p e s m args below meth c s₁ Bd hml0 hP hK
  obtain ⟨rfl, hZ, hh⟩ := hP
  have hx := Bd.exec
  have hby := Bd.bytes
  have hml : c.maxLocals = 4 := hml0
  have hown : s.vm.findClass "com/example/factline/factline/model/KindIsDuplicatePinLaw" = some m.cls := findClass_of_methodNamed Bd.named
  have hnm := (name_of_methodNamed Bd.named Bd.method).1
  have X0 : Stand p l e room_1 s m #[(.int p0)] below meth c s₁ [] 0 0 := Stand.of_body Bd
  have e0 : s₁.heap = h0 := by rw [← hh, Bd.state]; rfl
  have N0 := Fr.nil n0
  have pre0 : ∀ t, Steps p.tables e below (s₁.setTop (mkF m 0 #[.val (.int p0), .unset, .unset, .unset] [])) t → Steps p.tables e below (s₁.setTop (entryFrame m #[(.int p0)] maxLocals)) t := fun t k => castTop (ef_0 p0 w0 w1 w2 w3 w4 m) k
  obtain ⟨T1, h1, k1, X1, e1, E1, A1, O1, st1⟩ := newR X0 hx hZ hown (hw _ (List.mem_of_getElem? (i := 0) rfl)) (hw _ (List.mem_of_getElem? (i := 1) rfl)) e0 (g := (mkF m 1 #[.val (.int p0), .unset, .unset, .unset] [(.int (5 : Int32))])) rfl (hb hby at_1) rfl (by decide) (cap := 5) (by decide) (by decide) (by decide) (by decide)
  obtain ⟨b1, g1⟩ : ∃ z, z = h0.size := ⟨_, rfl⟩
  rw [← g1] at A1 st1
  have ne2 : w0 ≠ b1 := Nat.ne_of_lt (Nat.lt_of_lt_of_le E_COMPLETE.lt (Nat.le_of_eq g1.symm))
  have ne3 : w1 ≠ b1 := Nat.ne_of_lt (Nat.lt_of_lt_of_le E_CONSISTENT.lt (Nat.le_of_eq g1.symm))
  have ne4 : w2 ≠ b1 := Nat.ne_of_lt (Nat.lt_of_lt_of_le E_INCONSISTENT.lt (Nat.le_of_eq g1.symm))
  have ne5 : w3 ≠ b1 := Nat.ne_of_lt (Nat.lt_of_lt_of_le E_MULTI_LANGUAGE.lt (Nat.le_of_eq g1.symm))
  have ne6 : w4 ≠ b1 := Nat.ne_of_lt (Nat.lt_of_lt_of_le E_MULTI_UNIT.lt (Nat.le_of_eq g1.symm))
  have g_b1 : n0 ≤ b1 := Nat.le_trans Z0 (Nat.le_of_eq g1.symm)
  have sz_b1 : h0.size ≤ b1 := Nat.le_trans (Keep.refl h0 []).1 (Nat.le_of_eq g1.symm)
  have V_b1 : Arv Z h1 b1 k1 (.object "com/example/factline/factline/model/Duplicates$Kind") (5 : Int32) [.null, .null, .null, .null, .null] .null := (Arv.new A1 (by decide)).pad (pad_rep [] .null 5)
  have K1 : Keep h0 h1 [] := (Keep.refl h0 []).ext E1
  obtain ⟨T7, X7, e7, st7⟩ := getS2 X1 hx hZ hown (host := "") (Or.inl (hw _ (List.mem_of_getElem? (i := 2) rfl))) Via.refl e1 (Sta.ext E1 S_COMPLETE) (g := (mkF m 6 #[.val (.int p0), .unset, .unset, .unset] [(.int (0 : Int32)), (.ref b1), (.ref b1)])) rfl (hb hby at_6)
  obtain ⟨cl8, Ar8, qa8, S8, Nl8, H8, G8⟩ := V_b1
  have hin8 : ¬ ((0 : Int32) < 0 ∨ cl8.slots.size ≤ ((0 : Int32)).toNatClampNeg) := inb_of S8 ⟨by decide, by decide⟩
  obtain ⟨T8, h8, X8, e8, W8, st8⟩ := stR X7 hx hZ e7 Ar8 (j := (0 : Int32)) hin8 rfl (Sto.ofV Ar8 qa8 O1 (Ins.self (Exa.ext E1 E_COMPLETE))) (g := (mkF m 9 #[.val (.int p0), .unset, .unset, .unset] [(.ref w0), (.int (0 : Int32)), (.ref b1), (.ref b1)])) rfl rfl (hb hby at_9)
  have V8 : Arv Z h8 b1 k1 (.object "com/example/factline/factline/model/Duplicates$Kind") (5 : Int32) [(.ref w0), .null, .null, .null, .null] .null := Arv.set Ar8 qa8 S8 Nl8 H8 G8 rfl W8 0 rfl (Nat.le_of_ble_eq_true rfl)
  have K8 : Keep h0 h8 [] := K1.wr W8 (Or.inr sz_b1)
  have N8 := Fr.snoc X8 N0 g_b1
  obtain ⟨T9, X9, e9, st9⟩ := getS2 X8 hx hZ hown (host := "") (Or.inl (hw _ (List.mem_of_getElem? (i := 6) rfl))) Via.refl e8 (Sta.wr W8 (Sta.ext E1 S_CONSISTENT)) (g := (mkF m 12 #[.val (.int p0), .unset, .unset, .unset] [(.int (1 : Int32)), (.ref b1), (.ref b1)])) rfl (hb hby at_12)
  obtain ⟨cl10, Ar10, qa10, S10, Nl10, H10, G10⟩ := V8
  have hin10 : ¬ ((1 : Int32) < 0 ∨ cl10.slots.size ≤ ((1 : Int32)).toNatClampNeg) := inb_of S10 ⟨by decide, by decide⟩
  obtain ⟨T10, h10, X10, e10, W10, st10⟩ := stR X9 hx hZ e9 Ar10 (j := (1 : Int32)) hin10 rfl (Sto.ofV Ar10 qa10 O1 (Ins.self (Exa.wr W8 (Exa.ext E1 E_CONSISTENT)))) (g := (mkF m 15 #[.val (.int p0), .unset, .unset, .unset] [(.ref w1), (.int (1 : Int32)), (.ref b1), (.ref b1)])) rfl rfl (hb hby at_15)
  have V10 : Arv Z h10 b1 k1 (.object "com/example/factline/factline/model/Duplicates$Kind") (5 : Int32) [(.ref w0), (.ref w1), .null, .null, .null] .null := Arv.set Ar10 qa10 S10 Nl10 H10 G10 rfl W10 1 rfl (Nat.le_of_ble_eq_true rfl)
  have K10 : Keep h0 h10 [] := K8.wr W10 (Or.inr sz_b1)
  have N10 := Fr.snoc X10 N8 g_b1
  obtain ⟨T11, X11, e11, st11⟩ := getS2 X10 hx hZ hown (host := "") (Or.inl (hw _ (List.mem_of_getElem? (i := 8) rfl))) Via.refl e10 (Sta.wr W10 (Sta.wr W8 (Sta.ext E1 S_INCONSISTENT))) (g := (mkF m 18 #[.val (.int p0), .unset, .unset, .unset] [(.int (2 : Int32)), (.ref b1), (.ref b1)])) rfl (hb hby at_18)
  obtain ⟨cl12, Ar12, qa12, S12, Nl12, H12, G12⟩ := V10
  have hin12 : ¬ ((2 : Int32) < 0 ∨ cl12.slots.size ≤ ((2 : Int32)).toNatClampNeg) := inb_of S12 ⟨by decide, by decide⟩
  obtain ⟨T12, h12, X12, e12, W12, st12⟩ := stR X11 hx hZ e11 Ar12 (j := (2 : Int32)) hin12 rfl (Sto.ofV Ar12 qa12 O1 (Ins.self (Exa.wr W10 (Exa.wr W8 (Exa.ext E1 E_INCONSISTENT))))) (g := (mkF m 21 #[.val (.int p0), .unset, .unset, .unset] [(.ref w2), (.int (2 : Int32)), (.ref b1), (.ref b1)])) rfl rfl (hb hby at_21)
  have V12 : Arv Z h12 b1 k1 (.object "com/example/factline/factline/model/Duplicates$Kind") (5 : Int32) [(.ref w0), (.ref w1), (.ref w2), .null, .null] .null := Arv.set Ar12 qa12 S12 Nl12 H12 G12 rfl W12 2 rfl (Nat.le_of_ble_eq_true rfl)
  have K12 : Keep h0 h12 [] := K10.wr W12 (Or.inr sz_b1)
  have N12 := Fr.snoc X12 N10 g_b1
  obtain ⟨T13, X13, e13, st13⟩ := getS2 X12 hx hZ hown (host := "") (Or.inl (hw _ (List.mem_of_getElem? (i := 10) rfl))) Via.refl e12 (Sta.wr W12 (Sta.wr W10 (Sta.wr W8 (Sta.ext E1 S_MULTI_LANGUAGE)))) (g := (mkF m 24 #[.val (.int p0), .unset, .unset, .unset] [(.int (3 : Int32)), (.ref b1), (.ref b1)])) rfl (hb hby at_24)
  obtain ⟨cl14, Ar14, qa14, S14, Nl14, H14, G14⟩ := V12
  have hin14 : ¬ ((3 : Int32) < 0 ∨ cl14.slots.size ≤ ((3 : Int32)).toNatClampNeg) := inb_of S14 ⟨by decide, by decide⟩
  obtain ⟨T14, h14, X14, e14, W14, st14⟩ := stR X13 hx hZ e13 Ar14 (j := (3 : Int32)) hin14 rfl (Sto.ofV Ar14 qa14 O1 (Ins.self (Exa.wr W12 (Exa.wr W10 (Exa.wr W8 (Exa.ext E1 E_MULTI_LANGUAGE)))))) (g := (mkF m 27 #[.val (.int p0), .unset, .unset, .unset] [(.ref w3), (.int (3 : Int32)), (.ref b1), (.ref b1)])) rfl rfl (hb hby at_27)
  have V14 : Arv Z h14 b1 k1 (.object "com/example/factline/factline/model/Duplicates$Kind") (5 : Int32) [(.ref w0), (.ref w1), (.ref w2), (.ref w3), .null] .null := Arv.set Ar14 qa14 S14 Nl14 H14 G14 rfl W14 3 rfl (Nat.le_of_ble_eq_true rfl)
  have K14 : Keep h0 h14 [] := K12.wr W14 (Or.inr sz_b1)
  have N14 := Fr.snoc X14 N12 g_b1
  obtain ⟨T15, X15, e15, st15⟩ := getS2 X14 hx hZ hown (host := "") (Or.inl (hw _ (List.mem_of_getElem? (i := 12) rfl))) Via.refl e14 (Sta.wr W14 (Sta.wr W12 (Sta.wr W10 (Sta.wr W8 (Sta.ext E1 S_MULTI_UNIT))))) (g := (mkF m 30 #[.val (.int p0), .unset, .unset, .unset] [(.int (4 : Int32)), (.ref b1), (.ref b1)])) rfl (hb hby at_30)
  obtain ⟨cl16, Ar16, qa16, S16, Nl16, H16, G16⟩ := V14
  have hin16 : ¬ ((4 : Int32) < 0 ∨ cl16.slots.size ≤ ((4 : Int32)).toNatClampNeg) := inb_of S16 ⟨by decide, by decide⟩
  obtain ⟨T16, h16, X16, e16, W16, st16⟩ := stR X15 hx hZ e15 Ar16 (j := (4 : Int32)) hin16 rfl (Sto.ofV Ar16 qa16 O1 (Ins.self (Exa.wr W14 (Exa.wr W12 (Exa.wr W10 (Exa.wr W8 (Exa.ext E1 E_MULTI_UNIT))))))) (g := (mkF m 33 #[.val (.int p0), .unset, .unset, .unset] [(.ref w4), (.int (4 : Int32)), (.ref b1), (.ref b1)])) rfl rfl (hb hby at_33)
  have V16 : Arv Z h16 b1 k1 (.object "com/example/factline/factline/model/Duplicates$Kind") (5 : Int32) [(.ref w0), (.ref w1), (.ref w2), (.ref w3), (.ref w4)] .null := Arv.set Ar16 qa16 S16 Nl16 H16 G16 rfl W16 4 rfl (Nat.le_of_ble_eq_true rfl)
  have K16 : Keep h0 h16 [] := K14.wr W16 (Or.inr sz_b1)
  have N16 := Fr.snoc X16 N14 g_b1
  have pre17 : ∀ t, Steps p.tables e below (T16.setTop (mkF m 42 #[.val (.int p0), .val (.ref b1), .val (.int (A0_41 p0 w0 w1 w2 w3 w4)), .unset] [])) t → Steps p.tables e below (s₁.setTop (entryFrame m #[(.int p0)] maxLocals)) t := fun t kt => pre0 t (by
    show Steps p.tables e below (s₁.setTop (mkF m 0 #[.val (.int p0), .unset, .unset, .unset] [])) _
    refine XS.iconst X0.here hx rfl (hb hby at_0) ?_
    show Steps p.tables e below (s₁.setTop (mkF m 1 #[.val (.int p0), .unset, .unset, .unset] [(.int (5 : Int32))])) _
    refine st1 _ ?_
    show Steps p.tables e below (T1.setTop (mkF m 4 #[.val (.int p0), .unset, .unset, .unset] [(.ref b1)])) _
    refine XS.dup X1.here hx rfl (hb hby at_4) rfl rfl ?_
    show Steps p.tables e below (T1.setTop (mkF m 5 #[.val (.int p0), .unset, .unset, .unset] [(.ref b1), (.ref b1)])) _
    refine XS.iconst X1.here hx rfl (hb hby at_5) ?_
    show Steps p.tables e below (T1.setTop (mkF m 6 #[.val (.int p0), .unset, .unset, .unset] [(.int (0 : Int32)), (.ref b1), (.ref b1)])) _
    refine st7 _ ?_
    show Steps p.tables e below (T7.setTop (mkF m 9 #[.val (.int p0), .unset, .unset, .unset] [(.ref w0), (.int (0 : Int32)), (.ref b1), (.ref b1)])) _
    refine st8 _ ?_
    show Steps p.tables e below (T8.setTop (mkF m 10 #[.val (.int p0), .unset, .unset, .unset] [(.ref b1)])) _
    refine XS.dup X8.here hx rfl (hb hby at_10) rfl rfl ?_
    show Steps p.tables e below (T8.setTop (mkF m 11 #[.val (.int p0), .unset, .unset, .unset] [(.ref b1), (.ref b1)])) _
    refine XS.iconst X8.here hx rfl (hb hby at_11) ?_
    show Steps p.tables e below (T8.setTop (mkF m 12 #[.val (.int p0), .unset, .unset, .unset] [(.int (1 : Int32)), (.ref b1), (.ref b1)])) _
    refine st9 _ ?_
    show Steps p.tables e below (T9.setTop (mkF m 15 #[.val (.int p0), .unset, .unset, .unset] [(.ref w1), (.int (1 : Int32)), (.ref b1), (.ref b1)])) _
    refine st10 _ ?_
    show Steps p.tables e below (T10.setTop (mkF m 16 #[.val (.int p0), .unset, .unset, .unset] [(.ref b1)])) _
    refine XS.dup X10.here hx rfl (hb hby at_16) rfl rfl ?_
    show Steps p.tables e below (T10.setTop (mkF m 17 #[.val (.int p0), .unset, .unset, .unset] [(.ref b1), (.ref b1)])) _
    refine XS.iconst X10.here hx rfl (hb hby at_17) ?_
    show Steps p.tables e below (T10.setTop (mkF m 18 #[.val (.int p0), .unset, .unset, .unset] [(.int (2 : Int32)), (.ref b1), (.ref b1)])) _
    refine st11 _ ?_
    show Steps p.tables e below (T11.setTop (mkF m 21 #[.val (.int p0), .unset, .unset, .unset] [(.ref w2), (.int (2 : Int32)), (.ref b1), (.ref b1)])) _
    refine st12 _ ?_
    show Steps p.tables e below (T12.setTop (mkF m 22 #[.val (.int p0), .unset, .unset, .unset] [(.ref b1)])) _
    refine XS.dup X12.here hx rfl (hb hby at_22) rfl rfl ?_
    show Steps p.tables e below (T12.setTop (mkF m 23 #[.val (.int p0), .unset, .unset, .unset] [(.ref b1), (.ref b1)])) _
    refine XS.iconst X12.here hx rfl (hb hby at_23) ?_
    show Steps p.tables e below (T12.setTop (mkF m 24 #[.val (.int p0), .unset, .unset, .unset] [(.int (3 : Int32)), (.ref b1), (.ref b1)])) _
    refine st13 _ ?_
    show Steps p.tables e below (T13.setTop (mkF m 27 #[.val (.int p0), .unset, .unset, .unset] [(.ref w3), (.int (3 : Int32)), (.ref b1), (.ref b1)])) _
    refine st14 _ ?_
    show Steps p.tables e below (T14.setTop (mkF m 28 #[.val (.int p0), .unset, .unset, .unset] [(.ref b1)])) _
    refine XS.dup X14.here hx rfl (hb hby at_28) rfl rfl ?_
    show Steps p.tables e below (T14.setTop (mkF m 29 #[.val (.int p0), .unset, .unset, .unset] [(.ref b1), (.ref b1)])) _
    refine XS.iconst X14.here hx rfl (hb hby at_29) ?_
    show Steps p.tables e below (T14.setTop (mkF m 30 #[.val (.int p0), .unset, .unset, .unset] [(.int (4 : Int32)), (.ref b1), (.ref b1)])) _
    refine st15 _ ?_
    show Steps p.tables e below (T15.setTop (mkF m 33 #[.val (.int p0), .unset, .unset, .unset] [(.ref w4), (.int (4 : Int32)), (.ref b1), (.ref b1)])) _
    refine st16 _ ?_
    show Steps p.tables e below (T16.setTop (mkF m 34 #[.val (.int p0), .unset, .unset, .unset] [(.ref b1)])) _
    refine XS.astoreN X16.here hx rfl (hb hby at_34) rfl rfl (l' := #[.val (.int p0), .val (.ref b1), .unset, .unset]) rfl ?_
    show Steps p.tables e below (T16.setTop (mkF m 35 #[.val (.int p0), .val (.ref b1), .unset, .unset] [])) _
    refine XS.iloadN X16.here hx rfl (hb hby at_35) rfl ?_
    show Steps p.tables e below (T16.setTop (mkF m 36 #[.val (.int p0), .val (.ref b1), .unset, .unset] [(.int p0)])) _
    refine X16.ldcInt hx hown (mvT hZ (hw _ (List.mem_of_getElem? (i := 14) rfl))) (g := (mkF m 36 #[.val (.int p0), .val (.ref b1), .unset, .unset] [(.int p0)])) rfl (hb hby at_36) _ ?_
    show Steps p.tables e below (T16.setTop (mkF m 38 #[.val (.int p0), .val (.ref b1), .unset, .unset] [(.int (2147483647 : Int32)), (.int p0)])) _
    refine XS.iand X16.here hx rfl (hb hby at_38) rfl ?_
    show Steps p.tables e below (T16.setTop (mkF m 39 #[.val (.int p0), .val (.ref b1), .unset, .unset] [(.int (p0 &&& (2147483647 : Int32)))])) _
    refine XS.iconst X16.here hx rfl (hb hby at_39) ?_
    show Steps p.tables e below (T16.setTop (mkF m 40 #[.val (.int p0), .val (.ref b1), .unset, .unset] [(.int (5 : Int32)), (.int (p0 &&& (2147483647 : Int32)))])) _
    refine iremM X16 hx rfl (hb hby at_40) rfl (by decide) ?_
    show Steps p.tables e below (T16.setTop (mkF m 41 #[.val (.int p0), .val (.ref b1), .unset, .unset] [(.int ((p0 &&& (2147483647 : Int32)) % (5 : Int32)))])) _
    refine XS.istoreN X16.here hx rfl (hb hby at_41) rfl (l' := #[.val (.int p0), .val (.ref b1), .val (.int ((p0 &&& (2147483647 : Int32)) % (5 : Int32))), .unset]) rfl ?_
    exact kt)
  by_cases hi0 : (A0_41 p0 w0 w1 w2 w3 w4) = (0 : Int32)
  · have qr18 : (A0_41 p0 w0 w1 w2 w3 w4) = (0 : Int32) := hi0
    have pre19 : ∀ t, Steps p.tables e below (T16.setTop (mkF m 42 #[.val (.int p0), .val (.ref b1), .val (.int (0 : Int32)), .unset] [])) t → Steps p.tables e below (s₁.setTop (entryFrame m #[(.int p0)] maxLocals)) t := fun t kt => pre17 t (by rw [qr18]; exact kt)
    obtain ⟨cl20, Ar20, qa20, S20, Nl20, H20, G20⟩ := V16
    have hin20 : ¬ ((0 : Int32) < 0 ∨ cl20.slots.size ≤ ((0 : Int32)).toNatClampNeg) := inb_of S20 ⟨by decide, by decide⟩
    have hat20 : cl20.slots[((0 : Int32)).toNatClampNeg]? = some (.ref w0) := Has.at H20 hin20 rfl
    obtain ⟨cq21, kq21, q21a, q21b, q21c⟩ := isOf hZ e16 (Exa.wr W16 (Exa.wr W14 (Exa.wr W12 (Exa.wr W10 (Exa.wr W8 (Exa.ext E1 E_COMPLETE))))))
    obtain ⟨_, _, ⟨T21, L21, k21, n21⟩, -, X21, ⟨Lc21, hQ21, ll21, ly21, lz21⟩, st21⟩ := X16.virtualBack hx (y := (⟨"com/example/factline/factline/model/Duplicates$Kind", "isDuplicate", "()Z"⟩ : MethodName)) (z := (⟨"com/example/factline/factline/model/Duplicates$Kind", "isDuplicate", "()Z"⟩ : MethodName)) hown (mvT hZ (hw _ (List.mem_of_getElem? (i := 15) rfl))) (mvT hZ (hw _ (List.mem_of_getElem? (i := 16) rfl))) (notFace_of_selects (args := #[]) (mvT hZ (hw _ (List.mem_of_getElem? (i := 18) rfl)))) (mvT hZ (hw _ (List.mem_of_getElem? (i := 18) rfl))) (mvT hZ (hw _ (List.mem_of_getElem? (i := 17) rfl))) (by decide) (backOf (W := 0) (rm1 l Z a0 hw [] w0 w3 w4 h16 n0 (Nat.le_trans (Nat.le_trans (Nat.le_trans (Nat.le_trans (Nat.le_trans (Nat.le_trans Z0 E1.1) (Keep.of_wr W8).1) (Keep.of_wr W10).1) (Keep.of_wr W12).1) (Keep.of_wr W14).1) (Keep.of_wr W16).1) (Sta.wr W16 (Sta.wr W14 (Sta.wr W12 (Sta.wr W10 (Sta.wr W8 (Sta.ext E1 S_MULTI_LANGUAGE)))))) (Sta.wr W16 (Sta.wr W14 (Sta.wr W12 (Sta.wr W10 (Sta.wr W8 (Sta.ext E1 S_MULTI_UNIT))))))) hZ (hw _ (List.mem_of_getElem? (i := 19) rfl)) (hw _ (List.mem_of_getElem? (i := 3) rfl)) (by decide) (by decide)) q21a q21c (g := (mkF m 76 #[.val (.int p0), .val (.ref b1), .val (.int (0 : Int32)), .val (.int (1 : Int32))] [(.ref w0)])) rfl (by rw [hml]; rfl) (Steps.refl _) (argsL := []) (rest := []) (lenOf pd___Z rfl) rfl (by show 2 * 0 + _ ≤ _; exact Nat.le_of_eq rfl) (hb hby at_76) (fun _ _ => ⟨rfl, e16, (by decide : 1 + 0 ≤ _), (by decide : 5 + 0 ≤ _)⟩)
    dsimp only [Pt.U, Pt.locs, Pt.cells, Pt.slots] at X21 ll21 ly21 lz21 st21 hQ21
    subst ll21 ly21 lz21
    obtain ⟨rfl, N21q, e21⟩ := hQ21
    have N21 := Fr.app N16 N21q
    have pre22 : ∀ t, Steps p.tables e below (T21.setTop (mkF m 80 #[.val (.int p0), .val (.ref b1), .val (.int (0 : Int32)), .val (.int (1 : Int32))] [(.int (1 : Int32)), (.int (F1 w0 w3 w4))])) t → Steps p.tables e below (s₁.setTop (entryFrame m #[(.int p0)] maxLocals)) t := fun t kt => pre19 t (by
      show Steps p.tables e below (T16.setTop (mkF m 42 #[.val (.int p0), .val (.ref b1), .val (.int (0 : Int32)), .unset] [])) _
      refine XS.iloadN X16.here hx rfl (hb hby at_42) rfl ?_
      show Steps p.tables e below (T16.setTop (mkF m 43 #[.val (.int p0), .val (.ref b1), .val (.int (0 : Int32)), .unset] [(.int (0 : Int32))])) _
      refine XS.ifNo X16.here hx rfl (hb hby at_43) rfl ((if0 _ _).trans (teq (by decide : (0 : Int32) = (0 : Int32))).2) ?_
      show Steps p.tables e below (T16.setTop (mkF m 46 #[.val (.int p0), .val (.ref b1), .val (.int (0 : Int32)), .unset] [])) _
      refine XS.iconst X16.here hx rfl (hb hby at_46) ?_
      show Steps p.tables e below (T16.setTop (mkF m 47 #[.val (.int p0), .val (.ref b1), .val (.int (0 : Int32)), .unset] [(.int (1 : Int32))])) _
      refine XS.istoreN X16.here hx rfl (hb hby at_47) rfl (l' := #[.val (.int p0), .val (.ref b1), .val (.int (0 : Int32)), .val (.int (1 : Int32))]) rfl ?_
      show Steps p.tables e below (T16.setTop (mkF m 48 #[.val (.int p0), .val (.ref b1), .val (.int (0 : Int32)), .val (.int (1 : Int32))] [])) _
      refine XS.goto X16.here hx rfl (pc0 := 48) (pc' := 73) rfl (hb hby at_48) (by decide) (by decide) ?_
      show Steps p.tables e below (T16.setTop (mkF m 73 #[.val (.int p0), .val (.ref b1), .val (.int (0 : Int32)), .val (.int (1 : Int32))] [])) _
      refine XS.aloadN X16.here hx rfl (hb hby at_73) rfl rfl ?_
      show Steps p.tables e below (T16.setTop (mkF m 74 #[.val (.int p0), .val (.ref b1), .val (.int (0 : Int32)), .val (.int (1 : Int32))] [(.ref b1)])) _
      refine XS.iloadN X16.here hx rfl (hb hby at_74) rfl ?_
      show Steps p.tables e below (T16.setTop (mkF m 75 #[.val (.int p0), .val (.ref b1), .val (.int (0 : Int32)), .val (.int (1 : Int32))] [(.int (0 : Int32)), (.ref b1)])) _
      refine X16.aaload hx (j := (0 : Int32)) (v := (.ref w0)) (by rw [e16]; exact Ar20.1) (State.isArrayOf_alike hZ.alike Ar20.2.1) rfl Ar20.2.2 hin20 hat20 (g := (mkF m 75 #[.val (.int p0), .val (.ref b1), .val (.int (0 : Int32)), .val (.int (1 : Int32))] [(.int (0 : Int32)), (.ref b1)])) rfl rfl (hb hby at_75) _ ?_
      show Steps p.tables e below (T16.setTop (mkF m 76 #[.val (.int p0), .val (.ref b1), .val (.int (0 : Int32)), .val (.int (1 : Int32))] [(.ref w0)])) _
      refine st21.trans ?_
      show Steps p.tables e below (T21.setTop (mkF m 79 #[.val (.int p0), .val (.ref b1), .val (.int (0 : Int32)), .val (.int (1 : Int32))] [(.int (F1 w0 w3 w4))])) _
      refine XS.iloadN X21.here hx rfl (hb hby at_79) rfl ?_
      exact kt)
    by_cases hc80 : (F1 w0 w3 w4) = (1 : Int32)
    · obtain ⟨fs, hr, hrun, hended, hW, hsame⟩ := X21.leave (v := some (.int (1 : Int32))) (fun h => by rw [Bd.returns] at h; cases h)
      refine ⟨_, _, pre22 _ ?_, hrun, hended, _, _, rfl, ?_, ⟨_, rfl⟩, hW, hsame.mono (by decide) (by decide)⟩
      · show Steps p.tables e below (T21.setTop (mkF m 80 #[.val (.int p0), .val (.ref b1), .val (.int (0 : Int32)), .val (.int (1 : Int32))] [(.int (1 : Int32)), (.int (F1 w0 w3 w4))])) _
        refine XS.icmpNo X21.here hx rfl (hb hby at_80) rfl (teq hc80).2 ?_
        show Steps p.tables e below (T21.setTop (mkF m 83 #[.val (.int p0), .val (.ref b1), .val (.int (0 : Int32)), .val (.int (1 : Int32))] [])) _
        refine XS.iconst X21.here hx rfl (hb hby at_83) ?_
        show Steps p.tables e below (T21.setTop (mkF m 84 #[.val (.int p0), .val (.ref b1), .val (.int (0 : Int32)), .val (.int (1 : Int32))] [(.int (1 : Int32))])) _
        refine XS.goto X21.here hx rfl (pc0 := 84) (pc' := 88) rfl (hb hby at_84) (by decide) (by decide) ?_
        show Steps p.tables e below (T21.setTop (mkF m 88 #[.val (.int p0), .val (.ref b1), .val (.int (0 : Int32)), .val (.int (1 : Int32))] [(.int (1 : Int32))])) _
        exact retN X21 hx (t := .boolean) Bd.returns (by simp) (hb hby at_88) hr
      · show Q0 Z p0 w0 w1 w2 w3 w4 h0 n0 _ T21.heap _
        rw [e21]
        exact ⟨(by unfold F0; simp only [if_pos hi0, if_pos hc80]), N21⟩
    · obtain ⟨fs, hr, hrun, hended, hW, hsame⟩ := X21.leave (v := some (.int (0 : Int32))) (fun h => by rw [Bd.returns] at h; cases h)
      refine ⟨_, _, pre22 _ ?_, hrun, hended, _, _, rfl, ?_, ⟨_, rfl⟩, hW, hsame.mono (by decide) (by decide)⟩
      · show Steps p.tables e below (T21.setTop (mkF m 80 #[.val (.int p0), .val (.ref b1), .val (.int (0 : Int32)), .val (.int (1 : Int32))] [(.int (1 : Int32)), (.int (F1 w0 w3 w4))])) _
        refine XS.icmpYes X21.here hx rfl (pc0 := 80) (pc' := 87) rfl (hb hby at_80) rfl (feq hc80).2 (by decide) (by decide) ?_
        show Steps p.tables e below (T21.setTop (mkF m 87 #[.val (.int p0), .val (.ref b1), .val (.int (0 : Int32)), .val (.int (1 : Int32))] [])) _
        refine XS.iconst X21.here hx rfl (hb hby at_87) ?_
        show Steps p.tables e below (T21.setTop (mkF m 88 #[.val (.int p0), .val (.ref b1), .val (.int (0 : Int32)), .val (.int (1 : Int32))] [(.int (0 : Int32))])) _
        exact retN X21 hx (t := .boolean) Bd.returns (by simp) (hb hby at_88) hr
      · show Q0 Z p0 w0 w1 w2 w3 w4 h0 n0 _ T21.heap _
        rw [e21]
        exact ⟨(by unfold F0; simp only [if_pos hi0, if_neg hc80]), N21⟩
  · by_cases hi1 : (A0_41 p0 w0 w1 w2 w3 w4) = (1 : Int32)
    · have qr23 : (A0_41 p0 w0 w1 w2 w3 w4) = (1 : Int32) := hi1
      have pre24 : ∀ t, Steps p.tables e below (T16.setTop (mkF m 42 #[.val (.int p0), .val (.ref b1), .val (.int (1 : Int32)), .unset] [])) t → Steps p.tables e below (s₁.setTop (entryFrame m #[(.int p0)] maxLocals)) t := fun t kt => pre17 t (by rw [qr23]; exact kt)
      obtain ⟨cl25, Ar25, qa25, S25, Nl25, H25, G25⟩ := V16
      have hin25 : ¬ ((1 : Int32) < 0 ∨ cl25.slots.size ≤ ((1 : Int32)).toNatClampNeg) := inb_of S25 ⟨by decide, by decide⟩
      have hat25 : cl25.slots[((1 : Int32)).toNatClampNeg]? = some (.ref w1) := Has.at H25 hin25 rfl
      obtain ⟨cq26, kq26, q26a, q26b, q26c⟩ := isOf hZ e16 (Exa.wr W16 (Exa.wr W14 (Exa.wr W12 (Exa.wr W10 (Exa.wr W8 (Exa.ext E1 E_CONSISTENT))))))
      obtain ⟨_, _, ⟨T26, L26, k26, n26⟩, -, X26, ⟨Lc26, hQ26, ll26, ly26, lz26⟩, st26⟩ := X16.virtualBack hx (y := (⟨"com/example/factline/factline/model/Duplicates$Kind", "isDuplicate", "()Z"⟩ : MethodName)) (z := (⟨"com/example/factline/factline/model/Duplicates$Kind", "isDuplicate", "()Z"⟩ : MethodName)) hown (mvT hZ (hw _ (List.mem_of_getElem? (i := 15) rfl))) (mvT hZ (hw _ (List.mem_of_getElem? (i := 16) rfl))) (notFace_of_selects (args := #[]) (mvT hZ (hw _ (List.mem_of_getElem? (i := 18) rfl)))) (mvT hZ (hw _ (List.mem_of_getElem? (i := 18) rfl))) (mvT hZ (hw _ (List.mem_of_getElem? (i := 17) rfl))) (by decide) (backOf (W := 0) (rm1 l Z a0 hw [] w1 w3 w4 h16 n0 (Nat.le_trans (Nat.le_trans (Nat.le_trans (Nat.le_trans (Nat.le_trans (Nat.le_trans Z0 E1.1) (Keep.of_wr W8).1) (Keep.of_wr W10).1) (Keep.of_wr W12).1) (Keep.of_wr W14).1) (Keep.of_wr W16).1) (Sta.wr W16 (Sta.wr W14 (Sta.wr W12 (Sta.wr W10 (Sta.wr W8 (Sta.ext E1 S_MULTI_LANGUAGE)))))) (Sta.wr W16 (Sta.wr W14 (Sta.wr W12 (Sta.wr W10 (Sta.wr W8 (Sta.ext E1 S_MULTI_UNIT))))))) hZ (hw _ (List.mem_of_getElem? (i := 19) rfl)) (hw _ (List.mem_of_getElem? (i := 3) rfl)) (by decide) (by decide)) q26a q26c (g := (mkF m 76 #[.val (.int p0), .val (.ref b1), .val (.int (1 : Int32)), .val (.int (1 : Int32))] [(.ref w1)])) rfl (by rw [hml]; rfl) (Steps.refl _) (argsL := []) (rest := []) (lenOf pd___Z rfl) rfl (by show 2 * 0 + _ ≤ _; exact Nat.le_of_eq rfl) (hb hby at_76) (fun _ _ => ⟨rfl, e16, (by decide : 1 + 0 ≤ _), (by decide : 5 + 0 ≤ _)⟩)
      dsimp only [Pt.U, Pt.locs, Pt.cells, Pt.slots] at X26 ll26 ly26 lz26 st26 hQ26
      subst ll26 ly26 lz26
      obtain ⟨rfl, N26q, e26⟩ := hQ26
      have N26 := Fr.app N16 N26q
      have pre27 : ∀ t, Steps p.tables e below (T26.setTop (mkF m 80 #[.val (.int p0), .val (.ref b1), .val (.int (1 : Int32)), .val (.int (1 : Int32))] [(.int (1 : Int32)), (.int (F1 w1 w3 w4))])) t → Steps p.tables e below (s₁.setTop (entryFrame m #[(.int p0)] maxLocals)) t := fun t kt => pre24 t (by
        show Steps p.tables e below (T16.setTop (mkF m 42 #[.val (.int p0), .val (.ref b1), .val (.int (1 : Int32)), .unset] [])) _
        refine XS.iloadN X16.here hx rfl (hb hby at_42) rfl ?_
        show Steps p.tables e below (T16.setTop (mkF m 43 #[.val (.int p0), .val (.ref b1), .val (.int (1 : Int32)), .unset] [(.int (1 : Int32))])) _
        refine XS.ifYes X16.here hx rfl (pc0 := 43) (pc' := 51) rfl (hb hby at_43) rfl ((if0 _ _).trans (feq (by decide : ¬ ((1 : Int32) = (0 : Int32)))).2) (by decide) (by decide) ?_
        show Steps p.tables e below (T16.setTop (mkF m 51 #[.val (.int p0), .val (.ref b1), .val (.int (1 : Int32)), .unset] [])) _
        refine XS.iloadN X16.here hx rfl (hb hby at_51) rfl ?_
        show Steps p.tables e below (T16.setTop (mkF m 52 #[.val (.int p0), .val (.ref b1), .val (.int (1 : Int32)), .unset] [(.int (1 : Int32))])) _
        refine XS.iconst X16.here hx rfl (hb hby at_52) ?_
        show Steps p.tables e below (T16.setTop (mkF m 53 #[.val (.int p0), .val (.ref b1), .val (.int (1 : Int32)), .unset] [(.int (1 : Int32)), (.int (1 : Int32))])) _
        refine XS.icmpNo X16.here hx rfl (hb hby at_53) rfl (teq (by decide : (1 : Int32) = (1 : Int32))).2 ?_
        show Steps p.tables e below (T16.setTop (mkF m 56 #[.val (.int p0), .val (.ref b1), .val (.int (1 : Int32)), .unset] [])) _
        refine XS.iconst X16.here hx rfl (hb hby at_56) ?_
        show Steps p.tables e below (T16.setTop (mkF m 57 #[.val (.int p0), .val (.ref b1), .val (.int (1 : Int32)), .unset] [(.int (1 : Int32))])) _
        refine XS.istoreN X16.here hx rfl (hb hby at_57) rfl (l' := #[.val (.int p0), .val (.ref b1), .val (.int (1 : Int32)), .val (.int (1 : Int32))]) rfl ?_
        show Steps p.tables e below (T16.setTop (mkF m 58 #[.val (.int p0), .val (.ref b1), .val (.int (1 : Int32)), .val (.int (1 : Int32))] [])) _
        refine XS.goto X16.here hx rfl (pc0 := 58) (pc' := 73) rfl (hb hby at_58) (by decide) (by decide) ?_
        show Steps p.tables e below (T16.setTop (mkF m 73 #[.val (.int p0), .val (.ref b1), .val (.int (1 : Int32)), .val (.int (1 : Int32))] [])) _
        refine XS.aloadN X16.here hx rfl (hb hby at_73) rfl rfl ?_
        show Steps p.tables e below (T16.setTop (mkF m 74 #[.val (.int p0), .val (.ref b1), .val (.int (1 : Int32)), .val (.int (1 : Int32))] [(.ref b1)])) _
        refine XS.iloadN X16.here hx rfl (hb hby at_74) rfl ?_
        show Steps p.tables e below (T16.setTop (mkF m 75 #[.val (.int p0), .val (.ref b1), .val (.int (1 : Int32)), .val (.int (1 : Int32))] [(.int (1 : Int32)), (.ref b1)])) _
        refine X16.aaload hx (j := (1 : Int32)) (v := (.ref w1)) (by rw [e16]; exact Ar25.1) (State.isArrayOf_alike hZ.alike Ar25.2.1) rfl Ar25.2.2 hin25 hat25 (g := (mkF m 75 #[.val (.int p0), .val (.ref b1), .val (.int (1 : Int32)), .val (.int (1 : Int32))] [(.int (1 : Int32)), (.ref b1)])) rfl rfl (hb hby at_75) _ ?_
        show Steps p.tables e below (T16.setTop (mkF m 76 #[.val (.int p0), .val (.ref b1), .val (.int (1 : Int32)), .val (.int (1 : Int32))] [(.ref w1)])) _
        refine st26.trans ?_
        show Steps p.tables e below (T26.setTop (mkF m 79 #[.val (.int p0), .val (.ref b1), .val (.int (1 : Int32)), .val (.int (1 : Int32))] [(.int (F1 w1 w3 w4))])) _
        refine XS.iloadN X26.here hx rfl (hb hby at_79) rfl ?_
        exact kt)
      by_cases hc80 : (F1 w1 w3 w4) = (1 : Int32)
      · obtain ⟨fs, hr, hrun, hended, hW, hsame⟩ := X26.leave (v := some (.int (1 : Int32))) (fun h => by rw [Bd.returns] at h; cases h)
        refine ⟨_, _, pre27 _ ?_, hrun, hended, _, _, rfl, ?_, ⟨_, rfl⟩, hW, hsame.mono (by decide) (by decide)⟩
        · show Steps p.tables e below (T26.setTop (mkF m 80 #[.val (.int p0), .val (.ref b1), .val (.int (1 : Int32)), .val (.int (1 : Int32))] [(.int (1 : Int32)), (.int (F1 w1 w3 w4))])) _
          refine XS.icmpNo X26.here hx rfl (hb hby at_80) rfl (teq hc80).2 ?_
          show Steps p.tables e below (T26.setTop (mkF m 83 #[.val (.int p0), .val (.ref b1), .val (.int (1 : Int32)), .val (.int (1 : Int32))] [])) _
          refine XS.iconst X26.here hx rfl (hb hby at_83) ?_
          show Steps p.tables e below (T26.setTop (mkF m 84 #[.val (.int p0), .val (.ref b1), .val (.int (1 : Int32)), .val (.int (1 : Int32))] [(.int (1 : Int32))])) _
          refine XS.goto X26.here hx rfl (pc0 := 84) (pc' := 88) rfl (hb hby at_84) (by decide) (by decide) ?_
          show Steps p.tables e below (T26.setTop (mkF m 88 #[.val (.int p0), .val (.ref b1), .val (.int (1 : Int32)), .val (.int (1 : Int32))] [(.int (1 : Int32))])) _
          exact retN X26 hx (t := .boolean) Bd.returns (by simp) (hb hby at_88) hr
        · show Q0 Z p0 w0 w1 w2 w3 w4 h0 n0 _ T26.heap _
          rw [e26]
          exact ⟨(by unfold F0; simp only [if_neg hi0, if_pos hi1, if_pos hc80]), N26⟩
      · obtain ⟨fs, hr, hrun, hended, hW, hsame⟩ := X26.leave (v := some (.int (0 : Int32))) (fun h => by rw [Bd.returns] at h; cases h)
        refine ⟨_, _, pre27 _ ?_, hrun, hended, _, _, rfl, ?_, ⟨_, rfl⟩, hW, hsame.mono (by decide) (by decide)⟩
        · show Steps p.tables e below (T26.setTop (mkF m 80 #[.val (.int p0), .val (.ref b1), .val (.int (1 : Int32)), .val (.int (1 : Int32))] [(.int (1 : Int32)), (.int (F1 w1 w3 w4))])) _
          refine XS.icmpYes X26.here hx rfl (pc0 := 80) (pc' := 87) rfl (hb hby at_80) rfl (feq hc80).2 (by decide) (by decide) ?_
          show Steps p.tables e below (T26.setTop (mkF m 87 #[.val (.int p0), .val (.ref b1), .val (.int (1 : Int32)), .val (.int (1 : Int32))] [])) _
          refine XS.iconst X26.here hx rfl (hb hby at_87) ?_
          show Steps p.tables e below (T26.setTop (mkF m 88 #[.val (.int p0), .val (.ref b1), .val (.int (1 : Int32)), .val (.int (1 : Int32))] [(.int (0 : Int32))])) _
          exact retN X26 hx (t := .boolean) Bd.returns (by simp) (hb hby at_88) hr
        · show Q0 Z p0 w0 w1 w2 w3 w4 h0 n0 _ T26.heap _
          rw [e26]
          exact ⟨(by unfold F0; simp only [if_neg hi0, if_pos hi1, if_neg hc80]), N26⟩
    · by_cases hi2 : (A0_41 p0 w0 w1 w2 w3 w4) = (2 : Int32)
      · have qr28 : (A0_41 p0 w0 w1 w2 w3 w4) = (2 : Int32) := hi2
        have pre29 : ∀ t, Steps p.tables e below (T16.setTop (mkF m 42 #[.val (.int p0), .val (.ref b1), .val (.int (2 : Int32)), .unset] [])) t → Steps p.tables e below (s₁.setTop (entryFrame m #[(.int p0)] maxLocals)) t := fun t kt => pre17 t (by rw [qr28]; exact kt)
        obtain ⟨cl30, Ar30, qa30, S30, Nl30, H30, G30⟩ := V16
        have hin30 : ¬ ((2 : Int32) < 0 ∨ cl30.slots.size ≤ ((2 : Int32)).toNatClampNeg) := inb_of S30 ⟨by decide, by decide⟩
        have hat30 : cl30.slots[((2 : Int32)).toNatClampNeg]? = some (.ref w2) := Has.at H30 hin30 rfl
        obtain ⟨cq31, kq31, q31a, q31b, q31c⟩ := isOf hZ e16 (Exa.wr W16 (Exa.wr W14 (Exa.wr W12 (Exa.wr W10 (Exa.wr W8 (Exa.ext E1 E_INCONSISTENT))))))
        obtain ⟨_, _, ⟨T31, L31, k31, n31⟩, -, X31, ⟨Lc31, hQ31, ll31, ly31, lz31⟩, st31⟩ := X16.virtualBack hx (y := (⟨"com/example/factline/factline/model/Duplicates$Kind", "isDuplicate", "()Z"⟩ : MethodName)) (z := (⟨"com/example/factline/factline/model/Duplicates$Kind", "isDuplicate", "()Z"⟩ : MethodName)) hown (mvT hZ (hw _ (List.mem_of_getElem? (i := 15) rfl))) (mvT hZ (hw _ (List.mem_of_getElem? (i := 16) rfl))) (notFace_of_selects (args := #[]) (mvT hZ (hw _ (List.mem_of_getElem? (i := 18) rfl)))) (mvT hZ (hw _ (List.mem_of_getElem? (i := 18) rfl))) (mvT hZ (hw _ (List.mem_of_getElem? (i := 17) rfl))) (by decide) (backOf (W := 0) (rm1 l Z a0 hw [] w2 w3 w4 h16 n0 (Nat.le_trans (Nat.le_trans (Nat.le_trans (Nat.le_trans (Nat.le_trans (Nat.le_trans Z0 E1.1) (Keep.of_wr W8).1) (Keep.of_wr W10).1) (Keep.of_wr W12).1) (Keep.of_wr W14).1) (Keep.of_wr W16).1) (Sta.wr W16 (Sta.wr W14 (Sta.wr W12 (Sta.wr W10 (Sta.wr W8 (Sta.ext E1 S_MULTI_LANGUAGE)))))) (Sta.wr W16 (Sta.wr W14 (Sta.wr W12 (Sta.wr W10 (Sta.wr W8 (Sta.ext E1 S_MULTI_UNIT))))))) hZ (hw _ (List.mem_of_getElem? (i := 19) rfl)) (hw _ (List.mem_of_getElem? (i := 3) rfl)) (by decide) (by decide)) q31a q31c (g := (mkF m 76 #[.val (.int p0), .val (.ref b1), .val (.int (2 : Int32)), .val (.int (1 : Int32))] [(.ref w2)])) rfl (by rw [hml]; rfl) (Steps.refl _) (argsL := []) (rest := []) (lenOf pd___Z rfl) rfl (by show 2 * 0 + _ ≤ _; exact Nat.le_of_eq rfl) (hb hby at_76) (fun _ _ => ⟨rfl, e16, (by decide : 1 + 0 ≤ _), (by decide : 5 + 0 ≤ _)⟩)
        dsimp only [Pt.U, Pt.locs, Pt.cells, Pt.slots] at X31 ll31 ly31 lz31 st31 hQ31
        subst ll31 ly31 lz31
        obtain ⟨rfl, N31q, e31⟩ := hQ31
        have N31 := Fr.app N16 N31q
        have pre32 : ∀ t, Steps p.tables e below (T31.setTop (mkF m 80 #[.val (.int p0), .val (.ref b1), .val (.int (2 : Int32)), .val (.int (1 : Int32))] [(.int (1 : Int32)), (.int (F1 w2 w3 w4))])) t → Steps p.tables e below (s₁.setTop (entryFrame m #[(.int p0)] maxLocals)) t := fun t kt => pre29 t (by
          show Steps p.tables e below (T16.setTop (mkF m 42 #[.val (.int p0), .val (.ref b1), .val (.int (2 : Int32)), .unset] [])) _
          refine XS.iloadN X16.here hx rfl (hb hby at_42) rfl ?_
          show Steps p.tables e below (T16.setTop (mkF m 43 #[.val (.int p0), .val (.ref b1), .val (.int (2 : Int32)), .unset] [(.int (2 : Int32))])) _
          refine XS.ifYes X16.here hx rfl (pc0 := 43) (pc' := 51) rfl (hb hby at_43) rfl ((if0 _ _).trans (feq (by decide : ¬ ((2 : Int32) = (0 : Int32)))).2) (by decide) (by decide) ?_
          show Steps p.tables e below (T16.setTop (mkF m 51 #[.val (.int p0), .val (.ref b1), .val (.int (2 : Int32)), .unset] [])) _
          refine XS.iloadN X16.here hx rfl (hb hby at_51) rfl ?_
          show Steps p.tables e below (T16.setTop (mkF m 52 #[.val (.int p0), .val (.ref b1), .val (.int (2 : Int32)), .unset] [(.int (2 : Int32))])) _
          refine XS.iconst X16.here hx rfl (hb hby at_52) ?_
          show Steps p.tables e below (T16.setTop (mkF m 53 #[.val (.int p0), .val (.ref b1), .val (.int (2 : Int32)), .unset] [(.int (1 : Int32)), (.int (2 : Int32))])) _
          refine XS.icmpYes X16.here hx rfl (pc0 := 53) (pc' := 61) rfl (hb hby at_53) rfl (feq (by decide : ¬ ((2 : Int32) = (1 : Int32)))).2 (by decide) (by decide) ?_
          show Steps p.tables e below (T16.setTop (mkF m 61 #[.val (.int p0), .val (.ref b1), .val (.int (2 : Int32)), .unset] [])) _
          refine XS.iloadN X16.here hx rfl (hb hby at_61) rfl ?_
          show Steps p.tables e below (T16.setTop (mkF m 62 #[.val (.int p0), .val (.ref b1), .val (.int (2 : Int32)), .unset] [(.int (2 : Int32))])) _
          refine XS.iconst X16.here hx rfl (hb hby at_62) ?_
          show Steps p.tables e below (T16.setTop (mkF m 63 #[.val (.int p0), .val (.ref b1), .val (.int (2 : Int32)), .unset] [(.int (2 : Int32)), (.int (2 : Int32))])) _
          refine XS.icmpNo X16.here hx rfl (hb hby at_63) rfl (teq (by decide : (2 : Int32) = (2 : Int32))).2 ?_
          show Steps p.tables e below (T16.setTop (mkF m 66 #[.val (.int p0), .val (.ref b1), .val (.int (2 : Int32)), .unset] [])) _
          refine XS.iconst X16.here hx rfl (hb hby at_66) ?_
          show Steps p.tables e below (T16.setTop (mkF m 67 #[.val (.int p0), .val (.ref b1), .val (.int (2 : Int32)), .unset] [(.int (1 : Int32))])) _
          refine XS.istoreN X16.here hx rfl (hb hby at_67) rfl (l' := #[.val (.int p0), .val (.ref b1), .val (.int (2 : Int32)), .val (.int (1 : Int32))]) rfl ?_
          show Steps p.tables e below (T16.setTop (mkF m 68 #[.val (.int p0), .val (.ref b1), .val (.int (2 : Int32)), .val (.int (1 : Int32))] [])) _
          refine XS.goto X16.here hx rfl (pc0 := 68) (pc' := 73) rfl (hb hby at_68) (by decide) (by decide) ?_
          show Steps p.tables e below (T16.setTop (mkF m 73 #[.val (.int p0), .val (.ref b1), .val (.int (2 : Int32)), .val (.int (1 : Int32))] [])) _
          refine XS.aloadN X16.here hx rfl (hb hby at_73) rfl rfl ?_
          show Steps p.tables e below (T16.setTop (mkF m 74 #[.val (.int p0), .val (.ref b1), .val (.int (2 : Int32)), .val (.int (1 : Int32))] [(.ref b1)])) _
          refine XS.iloadN X16.here hx rfl (hb hby at_74) rfl ?_
          show Steps p.tables e below (T16.setTop (mkF m 75 #[.val (.int p0), .val (.ref b1), .val (.int (2 : Int32)), .val (.int (1 : Int32))] [(.int (2 : Int32)), (.ref b1)])) _
          refine X16.aaload hx (j := (2 : Int32)) (v := (.ref w2)) (by rw [e16]; exact Ar30.1) (State.isArrayOf_alike hZ.alike Ar30.2.1) rfl Ar30.2.2 hin30 hat30 (g := (mkF m 75 #[.val (.int p0), .val (.ref b1), .val (.int (2 : Int32)), .val (.int (1 : Int32))] [(.int (2 : Int32)), (.ref b1)])) rfl rfl (hb hby at_75) _ ?_
          show Steps p.tables e below (T16.setTop (mkF m 76 #[.val (.int p0), .val (.ref b1), .val (.int (2 : Int32)), .val (.int (1 : Int32))] [(.ref w2)])) _
          refine st31.trans ?_
          show Steps p.tables e below (T31.setTop (mkF m 79 #[.val (.int p0), .val (.ref b1), .val (.int (2 : Int32)), .val (.int (1 : Int32))] [(.int (F1 w2 w3 w4))])) _
          refine XS.iloadN X31.here hx rfl (hb hby at_79) rfl ?_
          exact kt)
        by_cases hc80 : (F1 w2 w3 w4) = (1 : Int32)
        · obtain ⟨fs, hr, hrun, hended, hW, hsame⟩ := X31.leave (v := some (.int (1 : Int32))) (fun h => by rw [Bd.returns] at h; cases h)
          refine ⟨_, _, pre32 _ ?_, hrun, hended, _, _, rfl, ?_, ⟨_, rfl⟩, hW, hsame.mono (by decide) (by decide)⟩
          · show Steps p.tables e below (T31.setTop (mkF m 80 #[.val (.int p0), .val (.ref b1), .val (.int (2 : Int32)), .val (.int (1 : Int32))] [(.int (1 : Int32)), (.int (F1 w2 w3 w4))])) _
            refine XS.icmpNo X31.here hx rfl (hb hby at_80) rfl (teq hc80).2 ?_
            show Steps p.tables e below (T31.setTop (mkF m 83 #[.val (.int p0), .val (.ref b1), .val (.int (2 : Int32)), .val (.int (1 : Int32))] [])) _
            refine XS.iconst X31.here hx rfl (hb hby at_83) ?_
            show Steps p.tables e below (T31.setTop (mkF m 84 #[.val (.int p0), .val (.ref b1), .val (.int (2 : Int32)), .val (.int (1 : Int32))] [(.int (1 : Int32))])) _
            refine XS.goto X31.here hx rfl (pc0 := 84) (pc' := 88) rfl (hb hby at_84) (by decide) (by decide) ?_
            show Steps p.tables e below (T31.setTop (mkF m 88 #[.val (.int p0), .val (.ref b1), .val (.int (2 : Int32)), .val (.int (1 : Int32))] [(.int (1 : Int32))])) _
            exact retN X31 hx (t := .boolean) Bd.returns (by simp) (hb hby at_88) hr
          · show Q0 Z p0 w0 w1 w2 w3 w4 h0 n0 _ T31.heap _
            rw [e31]
            exact ⟨(by unfold F0; simp only [if_neg hi0, if_neg hi1, if_pos hi2, if_pos hc80]), N31⟩
        · obtain ⟨fs, hr, hrun, hended, hW, hsame⟩ := X31.leave (v := some (.int (0 : Int32))) (fun h => by rw [Bd.returns] at h; cases h)
          refine ⟨_, _, pre32 _ ?_, hrun, hended, _, _, rfl, ?_, ⟨_, rfl⟩, hW, hsame.mono (by decide) (by decide)⟩
          · show Steps p.tables e below (T31.setTop (mkF m 80 #[.val (.int p0), .val (.ref b1), .val (.int (2 : Int32)), .val (.int (1 : Int32))] [(.int (1 : Int32)), (.int (F1 w2 w3 w4))])) _
            refine XS.icmpYes X31.here hx rfl (pc0 := 80) (pc' := 87) rfl (hb hby at_80) rfl (feq hc80).2 (by decide) (by decide) ?_
            show Steps p.tables e below (T31.setTop (mkF m 87 #[.val (.int p0), .val (.ref b1), .val (.int (2 : Int32)), .val (.int (1 : Int32))] [])) _
            refine XS.iconst X31.here hx rfl (hb hby at_87) ?_
            show Steps p.tables e below (T31.setTop (mkF m 88 #[.val (.int p0), .val (.ref b1), .val (.int (2 : Int32)), .val (.int (1 : Int32))] [(.int (0 : Int32))])) _
            exact retN X31 hx (t := .boolean) Bd.returns (by simp) (hb hby at_88) hr
          · show Q0 Z p0 w0 w1 w2 w3 w4 h0 n0 _ T31.heap _
            rw [e31]
            exact ⟨(by unfold F0; simp only [if_neg hi0, if_neg hi1, if_pos hi2, if_neg hc80]), N31⟩
      · by_cases hi3 : (A0_41 p0 w0 w1 w2 w3 w4) = (3 : Int32)
        · have qr33 : (A0_41 p0 w0 w1 w2 w3 w4) = (3 : Int32) := hi3
          have pre34 : ∀ t, Steps p.tables e below (T16.setTop (mkF m 42 #[.val (.int p0), .val (.ref b1), .val (.int (3 : Int32)), .unset] [])) t → Steps p.tables e below (s₁.setTop (entryFrame m #[(.int p0)] maxLocals)) t := fun t kt => pre17 t (by rw [qr33]; exact kt)
          obtain ⟨cl35, Ar35, qa35, S35, Nl35, H35, G35⟩ := V16
          have hin35 : ¬ ((3 : Int32) < 0 ∨ cl35.slots.size ≤ ((3 : Int32)).toNatClampNeg) := inb_of S35 ⟨by decide, by decide⟩
          have hat35 : cl35.slots[((3 : Int32)).toNatClampNeg]? = some (.ref w3) := Has.at H35 hin35 rfl
          obtain ⟨cq36, kq36, q36a, q36b, q36c⟩ := isOf hZ e16 (Exa.wr W16 (Exa.wr W14 (Exa.wr W12 (Exa.wr W10 (Exa.wr W8 (Exa.ext E1 E_MULTI_LANGUAGE))))))
          obtain ⟨_, _, ⟨T36, L36, k36, n36⟩, -, X36, ⟨Lc36, hQ36, ll36, ly36, lz36⟩, st36⟩ := X16.virtualBack hx (y := (⟨"com/example/factline/factline/model/Duplicates$Kind", "isDuplicate", "()Z"⟩ : MethodName)) (z := (⟨"com/example/factline/factline/model/Duplicates$Kind", "isDuplicate", "()Z"⟩ : MethodName)) hown (mvT hZ (hw _ (List.mem_of_getElem? (i := 15) rfl))) (mvT hZ (hw _ (List.mem_of_getElem? (i := 16) rfl))) (notFace_of_selects (args := #[]) (mvT hZ (hw _ (List.mem_of_getElem? (i := 18) rfl)))) (mvT hZ (hw _ (List.mem_of_getElem? (i := 18) rfl))) (mvT hZ (hw _ (List.mem_of_getElem? (i := 17) rfl))) (by decide) (backOf (W := 0) (rm1 l Z a0 hw [] w3 w3 w4 h16 n0 (Nat.le_trans (Nat.le_trans (Nat.le_trans (Nat.le_trans (Nat.le_trans (Nat.le_trans Z0 E1.1) (Keep.of_wr W8).1) (Keep.of_wr W10).1) (Keep.of_wr W12).1) (Keep.of_wr W14).1) (Keep.of_wr W16).1) (Sta.wr W16 (Sta.wr W14 (Sta.wr W12 (Sta.wr W10 (Sta.wr W8 (Sta.ext E1 S_MULTI_LANGUAGE)))))) (Sta.wr W16 (Sta.wr W14 (Sta.wr W12 (Sta.wr W10 (Sta.wr W8 (Sta.ext E1 S_MULTI_UNIT))))))) hZ (hw _ (List.mem_of_getElem? (i := 19) rfl)) (hw _ (List.mem_of_getElem? (i := 3) rfl)) (by decide) (by decide)) q36a q36c (g := (mkF m 76 #[.val (.int p0), .val (.ref b1), .val (.int (3 : Int32)), .val (.int (0 : Int32))] [(.ref w3)])) rfl (by rw [hml]; rfl) (Steps.refl _) (argsL := []) (rest := []) (lenOf pd___Z rfl) rfl (by show 2 * 0 + _ ≤ _; exact Nat.le_of_eq rfl) (hb hby at_76) (fun _ _ => ⟨rfl, e16, (by decide : 1 + 0 ≤ _), (by decide : 5 + 0 ≤ _)⟩)
          dsimp only [Pt.U, Pt.locs, Pt.cells, Pt.slots] at X36 ll36 ly36 lz36 st36 hQ36
          subst ll36 ly36 lz36
          obtain ⟨rfl, N36q, e36⟩ := hQ36
          have N36 := Fr.app N16 N36q
          have pre37 : ∀ t, Steps p.tables e below (T36.setTop (mkF m 80 #[.val (.int p0), .val (.ref b1), .val (.int (3 : Int32)), .val (.int (0 : Int32))] [(.int (0 : Int32)), (.int (F1 w3 w3 w4))])) t → Steps p.tables e below (s₁.setTop (entryFrame m #[(.int p0)] maxLocals)) t := fun t kt => pre34 t (by
            show Steps p.tables e below (T16.setTop (mkF m 42 #[.val (.int p0), .val (.ref b1), .val (.int (3 : Int32)), .unset] [])) _
            refine XS.iloadN X16.here hx rfl (hb hby at_42) rfl ?_
            show Steps p.tables e below (T16.setTop (mkF m 43 #[.val (.int p0), .val (.ref b1), .val (.int (3 : Int32)), .unset] [(.int (3 : Int32))])) _
            refine XS.ifYes X16.here hx rfl (pc0 := 43) (pc' := 51) rfl (hb hby at_43) rfl ((if0 _ _).trans (feq (by decide : ¬ ((3 : Int32) = (0 : Int32)))).2) (by decide) (by decide) ?_
            show Steps p.tables e below (T16.setTop (mkF m 51 #[.val (.int p0), .val (.ref b1), .val (.int (3 : Int32)), .unset] [])) _
            refine XS.iloadN X16.here hx rfl (hb hby at_51) rfl ?_
            show Steps p.tables e below (T16.setTop (mkF m 52 #[.val (.int p0), .val (.ref b1), .val (.int (3 : Int32)), .unset] [(.int (3 : Int32))])) _
            refine XS.iconst X16.here hx rfl (hb hby at_52) ?_
            show Steps p.tables e below (T16.setTop (mkF m 53 #[.val (.int p0), .val (.ref b1), .val (.int (3 : Int32)), .unset] [(.int (1 : Int32)), (.int (3 : Int32))])) _
            refine XS.icmpYes X16.here hx rfl (pc0 := 53) (pc' := 61) rfl (hb hby at_53) rfl (feq (by decide : ¬ ((3 : Int32) = (1 : Int32)))).2 (by decide) (by decide) ?_
            show Steps p.tables e below (T16.setTop (mkF m 61 #[.val (.int p0), .val (.ref b1), .val (.int (3 : Int32)), .unset] [])) _
            refine XS.iloadN X16.here hx rfl (hb hby at_61) rfl ?_
            show Steps p.tables e below (T16.setTop (mkF m 62 #[.val (.int p0), .val (.ref b1), .val (.int (3 : Int32)), .unset] [(.int (3 : Int32))])) _
            refine XS.iconst X16.here hx rfl (hb hby at_62) ?_
            show Steps p.tables e below (T16.setTop (mkF m 63 #[.val (.int p0), .val (.ref b1), .val (.int (3 : Int32)), .unset] [(.int (2 : Int32)), (.int (3 : Int32))])) _
            refine XS.icmpYes X16.here hx rfl (pc0 := 63) (pc' := 71) rfl (hb hby at_63) rfl (feq (by decide : ¬ ((3 : Int32) = (2 : Int32)))).2 (by decide) (by decide) ?_
            show Steps p.tables e below (T16.setTop (mkF m 71 #[.val (.int p0), .val (.ref b1), .val (.int (3 : Int32)), .unset] [])) _
            refine XS.iconst X16.here hx rfl (hb hby at_71) ?_
            show Steps p.tables e below (T16.setTop (mkF m 72 #[.val (.int p0), .val (.ref b1), .val (.int (3 : Int32)), .unset] [(.int (0 : Int32))])) _
            refine XS.istoreN X16.here hx rfl (hb hby at_72) rfl (l' := #[.val (.int p0), .val (.ref b1), .val (.int (3 : Int32)), .val (.int (0 : Int32))]) rfl ?_
            show Steps p.tables e below (T16.setTop (mkF m 73 #[.val (.int p0), .val (.ref b1), .val (.int (3 : Int32)), .val (.int (0 : Int32))] [])) _
            refine XS.aloadN X16.here hx rfl (hb hby at_73) rfl rfl ?_
            show Steps p.tables e below (T16.setTop (mkF m 74 #[.val (.int p0), .val (.ref b1), .val (.int (3 : Int32)), .val (.int (0 : Int32))] [(.ref b1)])) _
            refine XS.iloadN X16.here hx rfl (hb hby at_74) rfl ?_
            show Steps p.tables e below (T16.setTop (mkF m 75 #[.val (.int p0), .val (.ref b1), .val (.int (3 : Int32)), .val (.int (0 : Int32))] [(.int (3 : Int32)), (.ref b1)])) _
            refine X16.aaload hx (j := (3 : Int32)) (v := (.ref w3)) (by rw [e16]; exact Ar35.1) (State.isArrayOf_alike hZ.alike Ar35.2.1) rfl Ar35.2.2 hin35 hat35 (g := (mkF m 75 #[.val (.int p0), .val (.ref b1), .val (.int (3 : Int32)), .val (.int (0 : Int32))] [(.int (3 : Int32)), (.ref b1)])) rfl rfl (hb hby at_75) _ ?_
            show Steps p.tables e below (T16.setTop (mkF m 76 #[.val (.int p0), .val (.ref b1), .val (.int (3 : Int32)), .val (.int (0 : Int32))] [(.ref w3)])) _
            refine st36.trans ?_
            show Steps p.tables e below (T36.setTop (mkF m 79 #[.val (.int p0), .val (.ref b1), .val (.int (3 : Int32)), .val (.int (0 : Int32))] [(.int (F1 w3 w3 w4))])) _
            refine XS.iloadN X36.here hx rfl (hb hby at_79) rfl ?_
            exact kt)
          by_cases hc80 : (F1 w3 w3 w4) = (0 : Int32)
          · obtain ⟨fs, hr, hrun, hended, hW, hsame⟩ := X36.leave (v := some (.int (1 : Int32))) (fun h => by rw [Bd.returns] at h; cases h)
            refine ⟨_, _, pre37 _ ?_, hrun, hended, _, _, rfl, ?_, ⟨_, rfl⟩, hW, hsame.mono (by decide) (by decide)⟩
            · show Steps p.tables e below (T36.setTop (mkF m 80 #[.val (.int p0), .val (.ref b1), .val (.int (3 : Int32)), .val (.int (0 : Int32))] [(.int (0 : Int32)), (.int (F1 w3 w3 w4))])) _
              refine XS.icmpNo X36.here hx rfl (hb hby at_80) rfl (teq hc80).2 ?_
              show Steps p.tables e below (T36.setTop (mkF m 83 #[.val (.int p0), .val (.ref b1), .val (.int (3 : Int32)), .val (.int (0 : Int32))] [])) _
              refine XS.iconst X36.here hx rfl (hb hby at_83) ?_
              show Steps p.tables e below (T36.setTop (mkF m 84 #[.val (.int p0), .val (.ref b1), .val (.int (3 : Int32)), .val (.int (0 : Int32))] [(.int (1 : Int32))])) _
              refine XS.goto X36.here hx rfl (pc0 := 84) (pc' := 88) rfl (hb hby at_84) (by decide) (by decide) ?_
              show Steps p.tables e below (T36.setTop (mkF m 88 #[.val (.int p0), .val (.ref b1), .val (.int (3 : Int32)), .val (.int (0 : Int32))] [(.int (1 : Int32))])) _
              exact retN X36 hx (t := .boolean) Bd.returns (by simp) (hb hby at_88) hr
            · show Q0 Z p0 w0 w1 w2 w3 w4 h0 n0 _ T36.heap _
              rw [e36]
              exact ⟨(by unfold F0; simp only [if_neg hi0, if_neg hi1, if_neg hi2, if_pos hi3, if_pos hc80]), N36⟩
          · obtain ⟨fs, hr, hrun, hended, hW, hsame⟩ := X36.leave (v := some (.int (0 : Int32))) (fun h => by rw [Bd.returns] at h; cases h)
            refine ⟨_, _, pre37 _ ?_, hrun, hended, _, _, rfl, ?_, ⟨_, rfl⟩, hW, hsame.mono (by decide) (by decide)⟩
            · show Steps p.tables e below (T36.setTop (mkF m 80 #[.val (.int p0), .val (.ref b1), .val (.int (3 : Int32)), .val (.int (0 : Int32))] [(.int (0 : Int32)), (.int (F1 w3 w3 w4))])) _
              refine XS.icmpYes X36.here hx rfl (pc0 := 80) (pc' := 87) rfl (hb hby at_80) rfl (feq hc80).2 (by decide) (by decide) ?_
              show Steps p.tables e below (T36.setTop (mkF m 87 #[.val (.int p0), .val (.ref b1), .val (.int (3 : Int32)), .val (.int (0 : Int32))] [])) _
              refine XS.iconst X36.here hx rfl (hb hby at_87) ?_
              show Steps p.tables e below (T36.setTop (mkF m 88 #[.val (.int p0), .val (.ref b1), .val (.int (3 : Int32)), .val (.int (0 : Int32))] [(.int (0 : Int32))])) _
              exact retN X36 hx (t := .boolean) Bd.returns (by simp) (hb hby at_88) hr
            · show Q0 Z p0 w0 w1 w2 w3 w4 h0 n0 _ T36.heap _
              rw [e36]
              exact ⟨(by unfold F0; simp only [if_neg hi0, if_neg hi1, if_neg hi2, if_pos hi3, if_neg hc80]), N36⟩
        · by_cases hi4 : (A0_41 p0 w0 w1 w2 w3 w4) = (4 : Int32)
          · have qr38 : (A0_41 p0 w0 w1 w2 w3 w4) = (4 : Int32) := hi4
            have pre39 : ∀ t, Steps p.tables e below (T16.setTop (mkF m 42 #[.val (.int p0), .val (.ref b1), .val (.int (4 : Int32)), .unset] [])) t → Steps p.tables e below (s₁.setTop (entryFrame m #[(.int p0)] maxLocals)) t := fun t kt => pre17 t (by rw [qr38]; exact kt)
            obtain ⟨cl40, Ar40, qa40, S40, Nl40, H40, G40⟩ := V16
            have hin40 : ¬ ((4 : Int32) < 0 ∨ cl40.slots.size ≤ ((4 : Int32)).toNatClampNeg) := inb_of S40 ⟨by decide, by decide⟩
            have hat40 : cl40.slots[((4 : Int32)).toNatClampNeg]? = some (.ref w4) := Has.at H40 hin40 rfl
            obtain ⟨cq41, kq41, q41a, q41b, q41c⟩ := isOf hZ e16 (Exa.wr W16 (Exa.wr W14 (Exa.wr W12 (Exa.wr W10 (Exa.wr W8 (Exa.ext E1 E_MULTI_UNIT))))))
            obtain ⟨_, _, ⟨T41, L41, k41, n41⟩, -, X41, ⟨Lc41, hQ41, ll41, ly41, lz41⟩, st41⟩ := X16.virtualBack hx (y := (⟨"com/example/factline/factline/model/Duplicates$Kind", "isDuplicate", "()Z"⟩ : MethodName)) (z := (⟨"com/example/factline/factline/model/Duplicates$Kind", "isDuplicate", "()Z"⟩ : MethodName)) hown (mvT hZ (hw _ (List.mem_of_getElem? (i := 15) rfl))) (mvT hZ (hw _ (List.mem_of_getElem? (i := 16) rfl))) (notFace_of_selects (args := #[]) (mvT hZ (hw _ (List.mem_of_getElem? (i := 18) rfl)))) (mvT hZ (hw _ (List.mem_of_getElem? (i := 18) rfl))) (mvT hZ (hw _ (List.mem_of_getElem? (i := 17) rfl))) (by decide) (backOf (W := 0) (rm1 l Z a0 hw [] w4 w3 w4 h16 n0 (Nat.le_trans (Nat.le_trans (Nat.le_trans (Nat.le_trans (Nat.le_trans (Nat.le_trans Z0 E1.1) (Keep.of_wr W8).1) (Keep.of_wr W10).1) (Keep.of_wr W12).1) (Keep.of_wr W14).1) (Keep.of_wr W16).1) (Sta.wr W16 (Sta.wr W14 (Sta.wr W12 (Sta.wr W10 (Sta.wr W8 (Sta.ext E1 S_MULTI_LANGUAGE)))))) (Sta.wr W16 (Sta.wr W14 (Sta.wr W12 (Sta.wr W10 (Sta.wr W8 (Sta.ext E1 S_MULTI_UNIT))))))) hZ (hw _ (List.mem_of_getElem? (i := 19) rfl)) (hw _ (List.mem_of_getElem? (i := 3) rfl)) (by decide) (by decide)) q41a q41c (g := (mkF m 76 #[.val (.int p0), .val (.ref b1), .val (.int (4 : Int32)), .val (.int (0 : Int32))] [(.ref w4)])) rfl (by rw [hml]; rfl) (Steps.refl _) (argsL := []) (rest := []) (lenOf pd___Z rfl) rfl (by show 2 * 0 + _ ≤ _; exact Nat.le_of_eq rfl) (hb hby at_76) (fun _ _ => ⟨rfl, e16, (by decide : 1 + 0 ≤ _), (by decide : 5 + 0 ≤ _)⟩)
            dsimp only [Pt.U, Pt.locs, Pt.cells, Pt.slots] at X41 ll41 ly41 lz41 st41 hQ41
            subst ll41 ly41 lz41
            obtain ⟨rfl, N41q, e41⟩ := hQ41
            have N41 := Fr.app N16 N41q
            have pre42 : ∀ t, Steps p.tables e below (T41.setTop (mkF m 80 #[.val (.int p0), .val (.ref b1), .val (.int (4 : Int32)), .val (.int (0 : Int32))] [(.int (0 : Int32)), (.int (F1 w4 w3 w4))])) t → Steps p.tables e below (s₁.setTop (entryFrame m #[(.int p0)] maxLocals)) t := fun t kt => pre39 t (by
              show Steps p.tables e below (T16.setTop (mkF m 42 #[.val (.int p0), .val (.ref b1), .val (.int (4 : Int32)), .unset] [])) _
              refine XS.iloadN X16.here hx rfl (hb hby at_42) rfl ?_
              show Steps p.tables e below (T16.setTop (mkF m 43 #[.val (.int p0), .val (.ref b1), .val (.int (4 : Int32)), .unset] [(.int (4 : Int32))])) _
              refine XS.ifYes X16.here hx rfl (pc0 := 43) (pc' := 51) rfl (hb hby at_43) rfl ((if0 _ _).trans (feq (by decide : ¬ ((4 : Int32) = (0 : Int32)))).2) (by decide) (by decide) ?_
              show Steps p.tables e below (T16.setTop (mkF m 51 #[.val (.int p0), .val (.ref b1), .val (.int (4 : Int32)), .unset] [])) _
              refine XS.iloadN X16.here hx rfl (hb hby at_51) rfl ?_
              show Steps p.tables e below (T16.setTop (mkF m 52 #[.val (.int p0), .val (.ref b1), .val (.int (4 : Int32)), .unset] [(.int (4 : Int32))])) _
              refine XS.iconst X16.here hx rfl (hb hby at_52) ?_
              show Steps p.tables e below (T16.setTop (mkF m 53 #[.val (.int p0), .val (.ref b1), .val (.int (4 : Int32)), .unset] [(.int (1 : Int32)), (.int (4 : Int32))])) _
              refine XS.icmpYes X16.here hx rfl (pc0 := 53) (pc' := 61) rfl (hb hby at_53) rfl (feq (by decide : ¬ ((4 : Int32) = (1 : Int32)))).2 (by decide) (by decide) ?_
              show Steps p.tables e below (T16.setTop (mkF m 61 #[.val (.int p0), .val (.ref b1), .val (.int (4 : Int32)), .unset] [])) _
              refine XS.iloadN X16.here hx rfl (hb hby at_61) rfl ?_
              show Steps p.tables e below (T16.setTop (mkF m 62 #[.val (.int p0), .val (.ref b1), .val (.int (4 : Int32)), .unset] [(.int (4 : Int32))])) _
              refine XS.iconst X16.here hx rfl (hb hby at_62) ?_
              show Steps p.tables e below (T16.setTop (mkF m 63 #[.val (.int p0), .val (.ref b1), .val (.int (4 : Int32)), .unset] [(.int (2 : Int32)), (.int (4 : Int32))])) _
              refine XS.icmpYes X16.here hx rfl (pc0 := 63) (pc' := 71) rfl (hb hby at_63) rfl (feq (by decide : ¬ ((4 : Int32) = (2 : Int32)))).2 (by decide) (by decide) ?_
              show Steps p.tables e below (T16.setTop (mkF m 71 #[.val (.int p0), .val (.ref b1), .val (.int (4 : Int32)), .unset] [])) _
              refine XS.iconst X16.here hx rfl (hb hby at_71) ?_
              show Steps p.tables e below (T16.setTop (mkF m 72 #[.val (.int p0), .val (.ref b1), .val (.int (4 : Int32)), .unset] [(.int (0 : Int32))])) _
              refine XS.istoreN X16.here hx rfl (hb hby at_72) rfl (l' := #[.val (.int p0), .val (.ref b1), .val (.int (4 : Int32)), .val (.int (0 : Int32))]) rfl ?_
              show Steps p.tables e below (T16.setTop (mkF m 73 #[.val (.int p0), .val (.ref b1), .val (.int (4 : Int32)), .val (.int (0 : Int32))] [])) _
              refine XS.aloadN X16.here hx rfl (hb hby at_73) rfl rfl ?_
              show Steps p.tables e below (T16.setTop (mkF m 74 #[.val (.int p0), .val (.ref b1), .val (.int (4 : Int32)), .val (.int (0 : Int32))] [(.ref b1)])) _
              refine XS.iloadN X16.here hx rfl (hb hby at_74) rfl ?_
              show Steps p.tables e below (T16.setTop (mkF m 75 #[.val (.int p0), .val (.ref b1), .val (.int (4 : Int32)), .val (.int (0 : Int32))] [(.int (4 : Int32)), (.ref b1)])) _
              refine X16.aaload hx (j := (4 : Int32)) (v := (.ref w4)) (by rw [e16]; exact Ar40.1) (State.isArrayOf_alike hZ.alike Ar40.2.1) rfl Ar40.2.2 hin40 hat40 (g := (mkF m 75 #[.val (.int p0), .val (.ref b1), .val (.int (4 : Int32)), .val (.int (0 : Int32))] [(.int (4 : Int32)), (.ref b1)])) rfl rfl (hb hby at_75) _ ?_
              show Steps p.tables e below (T16.setTop (mkF m 76 #[.val (.int p0), .val (.ref b1), .val (.int (4 : Int32)), .val (.int (0 : Int32))] [(.ref w4)])) _
              refine st41.trans ?_
              show Steps p.tables e below (T41.setTop (mkF m 79 #[.val (.int p0), .val (.ref b1), .val (.int (4 : Int32)), .val (.int (0 : Int32))] [(.int (F1 w4 w3 w4))])) _
              refine XS.iloadN X41.here hx rfl (hb hby at_79) rfl ?_
              exact kt)
            by_cases hc80 : (F1 w4 w3 w4) = (0 : Int32)
            · obtain ⟨fs, hr, hrun, hended, hW, hsame⟩ := X41.leave (v := some (.int (1 : Int32))) (fun h => by rw [Bd.returns] at h; cases h)
              refine ⟨_, _, pre42 _ ?_, hrun, hended, _, _, rfl, ?_, ⟨_, rfl⟩, hW, hsame.mono (by decide) (by decide)⟩
              · show Steps p.tables e below (T41.setTop (mkF m 80 #[.val (.int p0), .val (.ref b1), .val (.int (4 : Int32)), .val (.int (0 : Int32))] [(.int (0 : Int32)), (.int (F1 w4 w3 w4))])) _
                refine XS.icmpNo X41.here hx rfl (hb hby at_80) rfl (teq hc80).2 ?_
                show Steps p.tables e below (T41.setTop (mkF m 83 #[.val (.int p0), .val (.ref b1), .val (.int (4 : Int32)), .val (.int (0 : Int32))] [])) _
                refine XS.iconst X41.here hx rfl (hb hby at_83) ?_
                show Steps p.tables e below (T41.setTop (mkF m 84 #[.val (.int p0), .val (.ref b1), .val (.int (4 : Int32)), .val (.int (0 : Int32))] [(.int (1 : Int32))])) _
                refine XS.goto X41.here hx rfl (pc0 := 84) (pc' := 88) rfl (hb hby at_84) (by decide) (by decide) ?_
                show Steps p.tables e below (T41.setTop (mkF m 88 #[.val (.int p0), .val (.ref b1), .val (.int (4 : Int32)), .val (.int (0 : Int32))] [(.int (1 : Int32))])) _
                exact retN X41 hx (t := .boolean) Bd.returns (by simp) (hb hby at_88) hr
              · show Q0 Z p0 w0 w1 w2 w3 w4 h0 n0 _ T41.heap _
                rw [e41]
                exact ⟨(by unfold F0; simp only [if_neg hi0, if_neg hi1, if_neg hi2, if_neg hi3, if_pos hi4, if_pos hc80]), N41⟩
            · obtain ⟨fs, hr, hrun, hended, hW, hsame⟩ := X41.leave (v := some (.int (0 : Int32))) (fun h => by rw [Bd.returns] at h; cases h)
              refine ⟨_, _, pre42 _ ?_, hrun, hended, _, _, rfl, ?_, ⟨_, rfl⟩, hW, hsame.mono (by decide) (by decide)⟩
              · show Steps p.tables e below (T41.setTop (mkF m 80 #[.val (.int p0), .val (.ref b1), .val (.int (4 : Int32)), .val (.int (0 : Int32))] [(.int (0 : Int32)), (.int (F1 w4 w3 w4))])) _
                refine XS.icmpYes X41.here hx rfl (pc0 := 80) (pc' := 87) rfl (hb hby at_80) rfl (feq hc80).2 (by decide) (by decide) ?_
                show Steps p.tables e below (T41.setTop (mkF m 87 #[.val (.int p0), .val (.ref b1), .val (.int (4 : Int32)), .val (.int (0 : Int32))] [])) _
                refine XS.iconst X41.here hx rfl (hb hby at_87) ?_
                show Steps p.tables e below (T41.setTop (mkF m 88 #[.val (.int p0), .val (.ref b1), .val (.int (4 : Int32)), .val (.int (0 : Int32))] [(.int (0 : Int32))])) _
                exact retN X41 hx (t := .boolean) Bd.returns (by simp) (hb hby at_88) hr
              · show Q0 Z p0 w0 w1 w2 w3 w4 h0 n0 _ T41.heap _
                rw [e41]
                exact ⟨(by unfold F0; simp only [if_neg hi0, if_neg hi1, if_neg hi2, if_neg hi3, if_pos hi4, if_neg hc80]), N41⟩
          · exact absurd (own_five p0) (by unfold A0_41 at *; simp_all)
/-! THE PLAIN LAW -/
theorem own_ni {x y : Int32} (h : x ≠ y) : Value.int x ≠ Value.int y := fun q => h (Value.int.inj q)
theorem own_d1 {a w3 w4 : Addr} (h1 : a ≠ w3) (h2 : a ≠ w4) : F1 a w3 w4 = 1 := by unfold F1; rw [if_neg h1, if_neg h2]
theorem own_law (p0 : Int32) (w0 w1 w2 w3 w4 : Addr) (a1 : w0 ≠ w3) (a2 : w0 ≠ w4) (b1 : w1 ≠ w3) (b2 : w1 ≠ w4) (c1 : w2 ≠ w3) (c2 : w2 ≠ w4) : F0 p0 w0 w1 w2 w3 w4 = 1 := by
  have e3 : F1 w3 w3 w4 = 0 := by unfold F1; rw [if_pos rfl]
  have e4 : F1 w4 w3 w4 = 0 := by
    unfold F1
    by_cases h : w4 = w3
    · rw [if_pos h]
    · rw [if_neg h, if_pos rfl]
  unfold F0
  rw [own_d1 a1 a2, own_d1 b1 b2, own_d1 c1 c2, e3, e4]
  simp
set_option maxRecDepth 65536 in
set_option maxHeartbeats 40000000 in
theorem comes_1 {Post : Tables → Env → Array Value → State → Outcome → State → Prop} (hpost : ∀ tb e args s v u, (limb_1_1.after args s (.returned v) u = true ∧ limb_1_2.after args s (.returned v) u = true ∧ True) → FrameEnd s (.returned v) u (Jvm.fieldLocs frame_1_writes args s ++ Jvm.arrayLocs frame_1_arrays args s ++ Jvm.staticLocs frame_1_statics s) 16 128 → Post tb e args s (.returned v) u) :
    ArmFor flags0 classFile x code maxLocals ret World_1 tables_1 room_1 Calls_1 rest_1 Pre_1 Post := by
  intro l hfl _ _ p e ha hc hk s m args below hf hA hF happ hP
  obtain ⟨hcalls, hrest, hpre⟩ := hP
  obtain ⟨-, -, -, hnamed, -, -, -, hat⟩ := (Spec.applies_iff hf).mp happ
  obtain ⟨hg, hn⟩ := and_e (Cond.before_iff.mp (show (Jvm.Cond.and given_1 narrow_1).before args s = true from hpre))
  obtain ⟨g1, g2⟩ := and_e hg
  obtain ⟨g3, g4⟩ := and_e hn
  obtain ⟨g5, g6⟩ := and_e g4
  obtain ⟨g7, g8⟩ := and_e g6
  obtain ⟨g9, g10⟩ := and_e g8
  obtain ⟨g11, g12⟩ := and_e g10
  obtain ⟨g13, g14⟩ := and_e g12
  obtain ⟨g15, g16⟩ := and_e g14
  obtain ⟨g17, g18⟩ := and_e g16
  obtain ⟨g19, g20⟩ := and_e g18
  obtain ⟨w0, rfl⟩ : ∃ w0 : Value, args = #[w0] := by
    have hs : args.size = 1 := by simpa [Cond.value, given_1] using g1
    obtain ⟨L⟩ := args
    match L, hs with
    | [w0], _ => exact ⟨w0, rfl⟩
  have hw := fun d (hd : d ∈ tables_1) => atoms_spec (ws := Jvm.Cond.code x code maxLocals ret :: tables_1) hat d (List.mem_cons_of_mem _ hd)
  have hfit : Fit s := fun {y c} hc i hi => by
    obtain ⟨ha, rfl⟩ := Array.getElem?_eq_some_iff.mp hc
    have q := List.all_eq_true.mp ((Array.all_eq_true_iff_forall_mem.mp hF) _ (Array.getElem_mem ha)) i (List.mem_range.mpr hi)
    simpa [Array.getElem?_eq_getElem hi] using q
  obtain ⟨i0, ei0⟩ := is_v g2
  obtain rfl : w0 = (.int i0) := Option.some.inj ei0
  obtain ⟨a_Duplicates_Kind_COMPLETE, ev_Duplicates_Kind_COMPLETE⟩ := exa_v g3
  have S_Duplicates_Kind_COMPLETE := Sta.start ev_Duplicates_Kind_COMPLETE (Or.inr ⟨(hw _ (List.mem_of_getElem? (i := 3) rfl)), (hw _ (List.mem_of_getElem? (i := 4) rfl))⟩)
  have E_Duplicates_Kind_COMPLETE := Exa.start ev_Duplicates_Kind_COMPLETE g3
  obtain ⟨a_Duplicates_Kind_CONSISTENT, ev_Duplicates_Kind_CONSISTENT⟩ := exa_v g5
  have S_Duplicates_Kind_CONSISTENT := Sta.start ev_Duplicates_Kind_CONSISTENT (Or.inr ⟨(hw _ (List.mem_of_getElem? (i := 3) rfl)), (hw _ (List.mem_of_getElem? (i := 7) rfl))⟩)
  have E_Duplicates_Kind_CONSISTENT := Exa.start ev_Duplicates_Kind_CONSISTENT g5
  obtain ⟨a_Duplicates_Kind_INCONSISTENT, ev_Duplicates_Kind_INCONSISTENT⟩ := exa_v g7
  have S_Duplicates_Kind_INCONSISTENT := Sta.start ev_Duplicates_Kind_INCONSISTENT (Or.inr ⟨(hw _ (List.mem_of_getElem? (i := 3) rfl)), (hw _ (List.mem_of_getElem? (i := 9) rfl))⟩)
  have E_Duplicates_Kind_INCONSISTENT := Exa.start ev_Duplicates_Kind_INCONSISTENT g7
  obtain ⟨a_Duplicates_Kind_MULTI_LANGUAGE, ev_Duplicates_Kind_MULTI_LANGUAGE⟩ := exa_v g9
  have S_Duplicates_Kind_MULTI_LANGUAGE := Sta.start ev_Duplicates_Kind_MULTI_LANGUAGE (Or.inr ⟨(hw _ (List.mem_of_getElem? (i := 3) rfl)), (hw _ (List.mem_of_getElem? (i := 11) rfl))⟩)
  have E_Duplicates_Kind_MULTI_LANGUAGE := Exa.start ev_Duplicates_Kind_MULTI_LANGUAGE g9
  obtain ⟨a_Duplicates_Kind_MULTI_UNIT, ev_Duplicates_Kind_MULTI_UNIT⟩ := exa_v g11
  have S_Duplicates_Kind_MULTI_UNIT := Sta.start ev_Duplicates_Kind_MULTI_UNIT (Or.inr ⟨(hw _ (List.mem_of_getElem? (i := 3) rfl)), (hw _ (List.mem_of_getElem? (i := 13) rfl))⟩)
  have E_Duplicates_Kind_MULTI_UNIT := Exa.start ev_Duplicates_Kind_MULTI_UNIT g11
  have O_Duplicates_Kind_COMPLETE : Fld s s.heap a_Duplicates_Kind_COMPLETE "java/lang/Enum" "ordinal" "I" (.int (0 : Int32)) := by
    obtain ⟨vx, vy, hvx, hvy, hk1, hk2⟩ := cmp_v (Or.inl g13)
    obtain rfl : Value.int (0 : Int32) = vy := Option.some.inj ((Term.int_eval (0 : Int32)).symm.trans hvy)
    obtain ⟨z, rfl⟩ : ∃ z, vx = Value.int z := hk2
    have hz := gotT (Cond.eq_ints hvx (Term.int_eval (0 : Int32))) g13
    subst hz; exact Fld.start ((fld_at ev_Duplicates_Kind_COMPLETE).symm.trans hvx)
  have O_Duplicates_Kind_MULTI_LANGUAGE : Fld s s.heap a_Duplicates_Kind_MULTI_LANGUAGE "java/lang/Enum" "ordinal" "I" (.int (3 : Int32)) := by
    obtain ⟨vx, vy, hvx, hvy, hk1, hk2⟩ := cmp_v (Or.inl g15)
    obtain rfl : Value.int (3 : Int32) = vy := Option.some.inj ((Term.int_eval (3 : Int32)).symm.trans hvy)
    obtain ⟨z, rfl⟩ : ∃ z, vx = Value.int z := hk2
    have hz := gotT (Cond.eq_ints hvx (Term.int_eval (3 : Int32))) g15
    subst hz; exact Fld.start ((fld_at ev_Duplicates_Kind_MULTI_LANGUAGE).symm.trans hvx)
  have O_Duplicates_Kind_MULTI_UNIT : Fld s s.heap a_Duplicates_Kind_MULTI_UNIT "java/lang/Enum" "ordinal" "I" (.int (4 : Int32)) := by
    obtain ⟨vx, vy, hvx, hvy, hk1, hk2⟩ := cmp_v (Or.inl g17)
    obtain rfl : Value.int (4 : Int32) = vy := Option.some.inj ((Term.int_eval (4 : Int32)).symm.trans hvy)
    obtain ⟨z, rfl⟩ : ∃ z, vx = Value.int z := hk2
    have hz := gotT (Cond.eq_ints hvx (Term.int_eval (4 : Int32))) g17
    subst hz; exact Fld.start ((fld_at ev_Duplicates_Kind_MULTI_UNIT).symm.trans hvx)
  have O_Duplicates_Kind_CONSISTENT : Fld s s.heap a_Duplicates_Kind_CONSISTENT "java/lang/Enum" "ordinal" "I" (.int (1 : Int32)) := by
    obtain ⟨vx, vy, hvx, hvy, hk1, hk2⟩ := cmp_v (Or.inl g19)
    obtain rfl : Value.int (1 : Int32) = vy := Option.some.inj ((Term.int_eval (1 : Int32)).symm.trans hvy)
    obtain ⟨z, rfl⟩ : ∃ z, vx = Value.int z := hk2
    have hz := gotT (Cond.eq_ints hvx (Term.int_eval (1 : Int32))) g19
    subst hz; exact Fld.start ((fld_at ev_Duplicates_Kind_CONSISTENT).symm.trans hvx)
  have O_Duplicates_Kind_INCONSISTENT : Fld s s.heap a_Duplicates_Kind_INCONSISTENT "java/lang/Enum" "ordinal" "I" (.int (2 : Int32)) := by
    obtain ⟨vx, vy, hvx, hvy, hk1, hk2⟩ := cmp_v (Or.inl g20)
    obtain rfl : Value.int (2 : Int32) = vy := Option.some.inj ((Term.int_eval (2 : Int32)).symm.trans hvy)
    obtain ⟨z, rfl⟩ : ∃ z, vx = Value.int z := hk2
    have hz := gotT (Cond.eq_ints hvx (Term.int_eval (2 : Int32))) g20
    subst hz; exact Fld.start ((fld_at ev_Duplicates_Kind_INCONSISTENT).symm.trans hvx)
  obtain ⟨n, o, h1, h2, h3, _, L, rfl, ⟨rfl, N⟩, hq⟩ := rm0 l s _ hw tables_1 i0 a_Duplicates_Kind_COMPLETE a_Duplicates_Kind_CONSISTENT a_Duplicates_Kind_INCONSISTENT a_Duplicates_Kind_MULTI_LANGUAGE a_Duplicates_Kind_MULTI_UNIT s.heap s.heap.size (Nat.le_refl _) S_Duplicates_Kind_COMPLETE S_Duplicates_Kind_CONSISTENT S_Duplicates_Kind_INCONSISTENT S_Duplicates_Kind_MULTI_LANGUAGE S_Duplicates_Kind_MULTI_UNIT E_Duplicates_Kind_COMPLETE E_Duplicates_Kind_CONSISTENT E_Duplicates_Kind_INCONSISTENT E_Duplicates_Kind_MULTI_LANGUAGE E_Duplicates_Kind_MULTI_UNIT (Fld.ne O_Duplicates_Kind_COMPLETE O_Duplicates_Kind_MULTI_LANGUAGE (own_ni (by decide))) (Fld.ne O_Duplicates_Kind_COMPLETE O_Duplicates_Kind_MULTI_UNIT (own_ni (by decide))) (Fld.ne O_Duplicates_Kind_CONSISTENT O_Duplicates_Kind_MULTI_LANGUAGE (own_ni (by decide))) (Fld.ne O_Duplicates_Kind_CONSISTENT O_Duplicates_Kind_MULTI_UNIT (own_ni (by decide))) (Fld.ne O_Duplicates_Kind_INCONSISTENT O_Duplicates_Kind_MULTI_LANGUAGE (own_ni (by decide))) (Fld.ne O_Duplicates_Kind_INCONSISTENT O_Duplicates_Kind_MULTI_UNIT (own_ni (by decide))) p e ha hc hk s m _ below hf ((Spec.applies_iff_loose hf).mp happ).1 ⟨rfl, State.Warmed39.refl s, rfl⟩ trivial
  refine ⟨n, _, h1, h2, h3, hpost _ _ _ _ _ _ ⟨Cond.after_iff.mpr rfl, Cond.after_iff.mpr (eq_i res_at (Term.int_eval (1)) (congrArg Value.int (own_law i0 a_Duplicates_Kind_COMPLETE a_Duplicates_Kind_CONSISTENT a_Duplicates_Kind_INCONSISTENT a_Duplicates_Kind_MULTI_LANGUAGE a_Duplicates_Kind_MULTI_UNIT (Fld.ne O_Duplicates_Kind_COMPLETE O_Duplicates_Kind_MULTI_LANGUAGE (own_ni (by decide))) (Fld.ne O_Duplicates_Kind_COMPLETE O_Duplicates_Kind_MULTI_UNIT (own_ni (by decide))) (Fld.ne O_Duplicates_Kind_CONSISTENT O_Duplicates_Kind_MULTI_LANGUAGE (own_ni (by decide))) (Fld.ne O_Duplicates_Kind_CONSISTENT O_Duplicates_Kind_MULTI_UNIT (own_ni (by decide))) (Fld.ne O_Duplicates_Kind_INCONSISTENT O_Duplicates_Kind_MULTI_LANGUAGE (own_ni (by decide))) (Fld.ne O_Duplicates_Kind_INCONSISTENT O_Duplicates_Kind_MULTI_UNIT (own_ni (by decide)))))), trivial⟩ ⟨hq.1, hq.2.1, (hq.2.2.sift fun y hy => Or.inr (N y hy)).mono (by decide) (by decide)⟩⟩
theorem main_1_1 : Claimed_1_1 := comes_1 fun _ _ _ _ _ _ h hF => ⟨h.1, hF⟩
theorem main_1_2 : Claimed_1_2 := comes_1 fun _ _ _ _ _ _ h hF => ⟨h.2.1, hF⟩
end Jvm.Pilot.@@N@@
namespace Jvm.Pilot.@@N@@
open Jvm Jvm.ClassFile Sem Op Lib Jvm.Free Jvm.Stand Jvm.Pilot.@@N@@.Jvm.D
/-! MADE BY PROGRAM (witnessworld.py) out of the Statement's table words and the real class files: 13 classes; the members and pool entries that the words name. The judged class is class 1, her method 1. -/
namespace start1
open Jvm.ClassFile
def u (s : String) : CpInfo := .utf8 (stringToUtf16 s)
/-- a pool by its gaps: so many unusable entries, then the entry; so many at the end -/
def gap : Nat → List CpInfo → List CpInfo
  | 0, r => r
  | n + 1, r => .unusable :: gap n r
def poolList (es : List (Nat × CpInfo)) (last : Nat) : List CpInfo := es.foldr (fun e r => gap e.1 (e.2 :: r)) (gap last [])
def pool (es : List (Nat × CpInfo)) (last : Nat) : Array CpInfo := ⟨poolList es last⟩
def fileOf (pool : Array CpInfo) (this : Nat) (attrs : Array Attribute := #[]) (ms : Array MethodInfo := #[]) (fl : Nat := 33) (sup : Nat := 0) (ifs : Array Nat := #[]) (fds : Array FieldInfo := #[]) : ClassFile where
  minorVersion := 0
  majorVersion := 65
  constantPool := pool
  accessFlags := fl
  thisClass := this
  superClass := sup
  interfaces := ifs
  fields := fds
  methods := ms
  attributes := attrs
def plain (name : String) (sup : Option ClassId) : Class where
  name := name
  kind := .ordinary
  loader := none
  accessFlags := 33
  super := sup
  interfaces := #[]
  cf := none
  fields := #[]
  methods := #[]
  instanceTypes := #[]
  staticTypes := #[]
  resolved := #[]
  callSites := []
  init := .initialized
  statics := none
  mirror := none

def pool0 : Array CpInfo := pool [(5, u "<init>"), (0, u "()V"), (1, .class_ 10), (1, u "java/lang/Object")] 113

def k0m0 : Method := { name := "<init>", desc := "()V", sig := { parameters := [], returnType := none }, accessFlags := 1, code := none }
/-- java/lang/Object -/
def k0 : Class := { plain "java/lang/Object" none with
  accessFlags := 33
  interfaces := #[]
  cf := some (fileOf pool0 8 #[] #[{ accessFlags := 1, nameIndex := 5, descriptorIndex := 6, attributes := #[] }] 33 0 #[] #[])
  fields := #[]
  methods := #[k0m0]
  instanceTypes := #[]
  staticTypes := #[]
  resolved := Array.replicate 124 none
  statics := none }

def pool1 : Array CpInfo := pool [(2, .class_ 4), (1, u "java/lang/Object"), (0, u "<init>"), (0, u "()V"), (0, .class_ 8), (0, u "com/example/factline/factline/model/Duplicates$Kind"), (0, .fieldref 7 10), (0, .nameAndType 11 12), (0, u "COMPLETE"), (0, u "Lcom/example/factline/factline/model/Duplicates$Kind;"), (0, .fieldref 7 14), (0, .nameAndType 15 12), (0, u "CONSISTENT"), (0, .fieldref 7 17), (0, .nameAndType 18 12), (0, u "INCONSISTENT"), (0, .fieldref 7 20), (0, .nameAndType 21 12), (0, u "MULTI_LANGUAGE"), (0, .fieldref 7 23), (0, .nameAndType 24 12), (0, u "MULTI_UNIT"), (0, .integer 2147483647), (0, .methodref 7 27), (0, .nameAndType 28 29), (0, u "isDuplicate"), (0, u "()Z"), (0, .class_ 31), (0, u "com/example/factline/factline/model/KindIsDuplicatePinLaw"), (2, u "law"), (0, u "(I)Z")] 9

def k1m0 : Method := { name := "<init>", desc := "()V", sig := { parameters := [], returnType := none }, accessFlags := 2, code := none }
def k1c1 : Code := { maxStack := 4, maxLocals := 4, code := code, exceptionTable := #[], attributes := #[] }
def k1m1 : Method := { name := "law", desc := "(I)Z", sig := { parameters := [.int], returnType := some .boolean }, accessFlags := 9, code := some k1c1 }
/-- com/example/factline/factline/model/KindIsDuplicatePinLaw -/
def k1 : Class := { plain "com/example/factline/factline/model/KindIsDuplicatePinLaw" (some 0) with
  accessFlags := 49
  interfaces := #[]
  cf := some (fileOf pool1 30 #[] #[{ accessFlags := 2, nameIndex := 5, descriptorIndex := 6, attributes := #[] }, { accessFlags := 9, nameIndex := 34, descriptorIndex := 35, attributes := #[] }] 49 2 #[] #[])
  fields := #[]
  methods := #[k1m0, k1m1]
  instanceTypes := #[]
  staticTypes := #[]
  resolved := Array.replicate 45 none
  statics := none }

def pool2 : Array CpInfo := pool [(1, .class_ 2), (0, u "java/lang/constant/Constable"), (0, .class_ 4), (0, u "java/lang/Object")] 6

/-- java/lang/constant/Constable -/
def k2 : Class := { plain "java/lang/constant/Constable" (some 0) with
  accessFlags := 1537
  interfaces := #[]
  cf := some (fileOf pool2 1 #[] #[] 1537 3 #[] #[])
  fields := #[]
  methods := #[]
  instanceTypes := #[]
  staticTypes := #[]
  resolved := Array.replicate 11 none
  statics := none }

def pool3 : Array CpInfo := pool [(1, .class_ 2), (0, u "java/lang/Comparable"), (0, .class_ 4), (0, u "java/lang/Object")] 7

/-- java/lang/Comparable -/
def k3 : Class := { plain "java/lang/Comparable" (some 0) with
  accessFlags := 1537
  interfaces := #[]
  cf := some (fileOf pool3 1 #[] #[] 1537 3 #[] #[])
  fields := #[]
  methods := #[]
  instanceTypes := #[]
  staticTypes := #[]
  resolved := Array.replicate 12 none
  statics := none }

def pool4 : Array CpInfo := pool [(1, .class_ 2), (0, u "java/io/Serializable"), (0, .class_ 4), (0, u "java/lang/Object")] 2

/-- java/io/Serializable -/
def k4 : Class := { plain "java/io/Serializable" (some 0) with
  accessFlags := 1537
  interfaces := #[]
  cf := some (fileOf pool4 1 #[] #[] 1537 3 #[] #[])
  fields := #[]
  methods := #[]
  instanceTypes := #[]
  staticTypes := #[]
  resolved := Array.replicate 7 none
  statics := none }

def pool5 : Array CpInfo := pool [(2, .class_ 4), (1, u "java/lang/Enum"), (0, u "name"), (0, u "Ljava/lang/String;"), (2, u "ordinal"), (0, u "I"), (1, .class_ 14), (1, u "java/lang/Object"), (4, u "hash"), (86, .class_ 108), (1, u "java/lang/Enum$EnumDesc"), (2, .class_ 112), (0, u "java/lang/constant/Constable"), (0, .class_ 114), (0, u "java/lang/Comparable"), (0, .class_ 116), (0, u "java/io/Serializable")] 87

/-- java/lang/Enum -/
def k5 : Class := { plain "java/lang/Enum" (some 0) with
  accessFlags := 1057
  interfaces := #[2, 3, 4]
  cf := some (fileOf pool5 2 #[.nestMembers #[106]] #[] 1057 12 #[111, 113, 115] #[{ accessFlags := 18, nameIndex := 5, descriptorIndex := 6, attributes := #[] }, { accessFlags := 18, nameIndex := 9, descriptorIndex := 10, attributes := #[] }, { accessFlags := 2, nameIndex := 19, descriptorIndex := 10, attributes := #[] }])
  fields := #[{ name := "name", type := (.object "java/lang/String"), accessFlags := 18, slot := 0, constantValue := 0 }, { name := "ordinal", type := .int, accessFlags := 18, slot := 1, constantValue := 0 }, { name := "hash", type := .int, accessFlags := 2, slot := 2, constantValue := 0 }]
  methods := #[]
  instanceTypes := #[(.object "java/lang/String"), .int, .int]
  staticTypes := #[]
  resolved := Array.replicate 204 none
  statics := none }

def pool6 : Array CpInfo := pool [(1, .class_ 2), (0, u "com/example/factline/factline/model/Duplicates$Kind"), (2, u "COMPLETE"), (0, u "Lcom/example/factline/factline/model/Duplicates$Kind;"), (2, u "CONSISTENT"), (2, u "INCONSISTENT"), (0, .fieldref 1 14), (0, .nameAndType 15 6), (0, u "MULTI_LANGUAGE"), (0, .fieldref 1 17), (0, .nameAndType 18 6), (0, u "MULTI_UNIT"), (2, u "$VALUES"), (0, u "[Lcom/example/factline/factline/model/Duplicates$Kind;"), (6, .class_ 31), (1, u "java/lang/Enum"), (43, u "isDuplicate"), (0, u "()Z"), (7, .class_ 85), (0, u "com/example/factline/factline/model/Duplicates")] 2

def k6c0 : Code := { maxStack := 2, maxLocals := 1, code := prog_23_method_4_code, exceptionTable := #[], attributes := #[] }
def k6m0 : Method := { name := "isDuplicate", desc := "()Z", sig := { parameters := [], returnType := some .boolean }, accessFlags := 1, code := some k6c0 }
/-- com/example/factline/factline/model/Duplicates$Kind -/
def k6 : Class := { plain "com/example/factline/factline/model/Duplicates$Kind" (some 5) with
  accessFlags := 16433
  interfaces := #[]
  cf := some (fileOf pool6 1 #[.nestHost 84] #[{ accessFlags := 1, nameIndex := 75, descriptorIndex := 76, attributes := #[] }] 16433 29 #[] #[{ accessFlags := 16409, nameIndex := 5, descriptorIndex := 6, attributes := #[] }, { accessFlags := 16409, nameIndex := 9, descriptorIndex := 6, attributes := #[] }, { accessFlags := 16409, nameIndex := 12, descriptorIndex := 6, attributes := #[] }, { accessFlags := 16409, nameIndex := 15, descriptorIndex := 6, attributes := #[] }, { accessFlags := 16409, nameIndex := 18, descriptorIndex := 6, attributes := #[] }, { accessFlags := 4122, nameIndex := 21, descriptorIndex := 22, attributes := #[] }])
  fields := #[{ name := "COMPLETE", type := (.object "com/example/factline/factline/model/Duplicates$Kind"), accessFlags := 16409, slot := 0, constantValue := 0 }, { name := "CONSISTENT", type := (.object "com/example/factline/factline/model/Duplicates$Kind"), accessFlags := 16409, slot := 1, constantValue := 0 }, { name := "INCONSISTENT", type := (.object "com/example/factline/factline/model/Duplicates$Kind"), accessFlags := 16409, slot := 2, constantValue := 0 }, { name := "MULTI_LANGUAGE", type := (.object "com/example/factline/factline/model/Duplicates$Kind"), accessFlags := 16409, slot := 3, constantValue := 0 }, { name := "MULTI_UNIT", type := (.object "com/example/factline/factline/model/Duplicates$Kind"), accessFlags := 16409, slot := 4, constantValue := 0 }, { name := "$VALUES", type := (.array (.object "com/example/factline/factline/model/Duplicates$Kind")), accessFlags := 4122, slot := 5, constantValue := 0 }]
  methods := #[k6m0]
  instanceTypes := #[(.object "java/lang/String"), .int, .int]
  staticTypes := #[(.object "com/example/factline/factline/model/Duplicates$Kind"), (.object "com/example/factline/factline/model/Duplicates$Kind"), (.object "com/example/factline/factline/model/Duplicates$Kind"), (.object "com/example/factline/factline/model/Duplicates$Kind"), (.object "com/example/factline/factline/model/Duplicates$Kind"), (.array (.object "com/example/factline/factline/model/Duplicates$Kind"))]
  resolved := Array.replicate 88 none
  statics := some 0 }

def pool7 : Array CpInfo := pool [(1, u "java/lang/Cloneable"), (0, .class_ 1), (0, u "java/lang/Object"), (0, .class_ 3)] 3

/-- java/lang/Cloneable -/
def k7 : Class := { plain "java/lang/Cloneable" (some 0) with
  accessFlags := 1537
  interfaces := #[]
  cf := some (fileOf pool7 2 #[] #[] 1537 4 #[] #[])
  fields := #[]
  methods := #[]
  instanceTypes := #[]
  staticTypes := #[]
  resolved := Array.replicate 8 none
  statics := none }

/-- the primitive byte -/
def k8 : Class := { plain "byte" none with kind := .primitive 'B', accessFlags := 0x411 }
/-- [B -/
def k9 : Class := { plain "[B" (some 0) with kind := .array 8 .byte, interfaces := #[7, 4], accessFlags := 1041 }

/-- the primitive int -/
def k10 : Class := { plain "int" none with kind := .primitive 'I', accessFlags := 0x411 }
/-- [I -/
def k11 : Class := { plain "[I" (some 0) with kind := .array 10 .int, interfaces := #[7, 4], accessFlags := 1041 }

/-- [Lcom/example/factline/factline/model/Duplicates$Kind; -/
def k12 : Class := { plain "[Lcom/example/factline/factline/model/Duplicates$Kind;" (some 0) with kind := .array 6 (.object "com/example/factline/factline/model/Duplicates$Kind"), interfaces := #[7, 4], accessFlags := 1041 }

def heap : Heap := #[{ cls := 6, slots := #[.ref 1, .ref 2, .ref 3, .ref 4, .ref 5, .null], vm := .statics 6 },
  { cls := 6, slots := #[.null, .int 0, .int 0], vm := .none },
  { cls := 6, slots := #[.null, .int 1, .int 0], vm := .none },
  { cls := 6, slots := #[.null, .int 2, .int 0], vm := .none },
  { cls := 6, slots := #[.null, .int 3, .int 0], vm := .none },
  { cls := 6, slots := #[.null, .int 4, .int 0], vm := .none }]
def classes : Array Class := #[k0, k1, k2, k3, k4, k5, k6, k7, k8, k9, k10, k11, k12]
def interned : List (Array UInt16 × Addr) := []
def slotsUsed : Nat := 21
def theMethod : MethodId := ⟨1, 1⟩
def args0 : Array Value := #[.int 5]
def aboutOver (below : List Frame) : State where
  vm := { classes := classes, interned := interned.toArray }
  heap := heap
  slotsUsed := slotsUsed
  threads := #[{ frames := .invoking theMethod args0 :: below }]
def below0 : List Frame := [.native { method := ⟨0, 0⟩, args := #[] }]
def about1 : State := aboutOver below0
def p0 : Program := .bare "" "" ""
def e0 : Env := launch0.env 0 0 0
theorem w_frames : about1.frames = Frame.invoking theMethod args0 :: below0 := rfl
set_option maxRecDepth 65536 in
theorem w_args : argsFit about1.vm theMethod args0 = true := by decide +kernel
set_option maxRecDepth 65536 in
theorem w_heap : heapFits about1 = true := by decide +kernel
set_option maxRecDepth 65536 in
theorem w_runnable : about1.curStatus? = some .runnable := by decide +kernel
set_option maxRecDepth 65536 in
theorem w_alone : about1.alone = true := by decide +kernel
set_option maxRecDepth 65536 in
theorem w_named : about1.methodNamed? x = some theMethod := by decide +kernel
set_option maxRecDepth 65536 in
theorem w_hears : about1.hears theMethod below0 = true := by decide +kernel
set_option maxRecDepth 65536 in
theorem w_ripe : about1.ripe theMethod args0 below0 = true := by decide +kernel
theorem w_running : about1.status = .running := rfl
set_option maxRecDepth 65536 in
theorem w_room : about1.hasRoom e0.platform room_1 = true :=
  launch0.hasRoom_least _ room_1 (by decide +kernel) (by decide +kernel) (by decide +kernel) (by decide +kernel) (by decide +kernel) (by decide +kernel)
theorem allAtoms_all (ts : List Jvm.Cond) (a : Array Jvm.Value) (st : Jvm.State) : (allAtoms ts).before a st = ts.all (fun c => c.before a st) := by
  induction ts with
  | nil => rfl
  | cons c t ih =>
    show (Jvm.Cond.and c (allAtoms t)).before a st = _
    rw [Jvm.Cond.before_and, ih, List.all_cons]
def words1 : List Jvm.Cond := Jvm.Cond.code x code maxLocals ret :: tables_1
/-- a 'code' word, met by the world's own term for the bytes: nothing is compared byte by byte -/
theorem code_word {y : MethodName} {bytes : ByteArray} {mx : Nat} {rt : Option FieldType} {a : Array Value} {s : State} {m : MethodId} {meth : Method} {c : Code} (h1 : s.methodNamed? y = some m) (h2 : s.vm.method? m = some meth) (h3 : meth.code = some c) (h4 : c.code = bytes)
    (h5 : (c.maxLocals == mx && c.exceptionTable.isEmpty && decide (c.maxStack ≤ mostOperands) && decide (meth.sig.returnType = rt) && !meth.locks && decide (parseMethodDescriptor y.desc = some meth.sig)) = true) : (Jvm.Cond.code y bytes mx rt).before a s = true := by
  simp only [Bool.and_eq_true, beq_iff_eq, Bool.not_eq_true', decide_eq_true_eq] at h5
  obtain ⟨⟨⟨⟨⟨g1, g2⟩, g3⟩, g4⟩, g5⟩, g6⟩ := h5
  simp [Cond.before, Cond.holds, Cond.value, h1, h2, h3, h4, g1, g2, g3, g4, g5, g6]
def isCode : Jvm.Cond → Bool
  | .code _ _ _ _ => true
  | _ => false
theorem all_split {L : List Jvm.Cond} {P : Jvm.Cond → Bool} (h1 : L.all (fun c => isCode c || P c) = true) (h2 : ∀ c ∈ L.filter isCode, P c = true) : L.all P = true := by
  refine List.all_eq_true.mpr fun c hc => ?_
  have h := List.all_eq_true.mp h1 c hc
  rcases Bool.eq_false_or_eq_true (isCode c) with hi | hi
  · exact h2 c (List.mem_filter.mpr ⟨hc, hi⟩)
  · simpa [hi] using h
set_option maxRecDepth 65536 in
theorem w_c0 : (Jvm.Cond.code x code maxLocals ret).before args0 about1 = true := code_word (m := ⟨1, 1⟩) (meth := k1m1) (c := k1c1) (by decide +kernel) rfl rfl rfl (by decide +kernel)
set_option maxRecDepth 65536 in
theorem w_c1 : (Jvm.Cond.code ({ cls := "com/example/factline/factline/model/Duplicates$Kind", name := "isDuplicate", desc := "()Z" } : Jvm.MethodName) prog_23_method_4_code (1 : Nat) (Option.some Jvm.ClassFile.FieldType.boolean)).before args0 about1 = true := code_word (m := ⟨6, 0⟩) (meth := k6m0) (c := k6c0) (by decide +kernel) rfl rfl rfl (by decide +kernel)
def codes1 : List Jvm.Cond := [Jvm.Cond.code x code maxLocals ret, Jvm.Cond.code ({ cls := "com/example/factline/factline/model/Duplicates$Kind", name := "isDuplicate", desc := "()Z" } : Jvm.MethodName) prog_23_method_4_code (1 : Nat) (Option.some Jvm.ClassFile.FieldType.boolean)]
set_option maxRecDepth 65536 in
theorem codes_eq : words1.filter isCode = codes1 := rfl
theorem w_codes : ∀ c ∈ words1.filter isCode, c.before args0 about1 = true := by
  rw [codes_eq]
  intro c hc
  simp only [codes1, List.mem_cons, List.not_mem_nil, or_false] at hc
  rcases hc with rfl | rfl
  · exact w_c0
  · exact w_c1
set_option maxRecDepth 65536 in
theorem w_t1 : words1.all (fun c => isCode c || c.before args0 about1) = true := by decide +kernel
theorem w_tables : (allAtoms (Jvm.Cond.code x code maxLocals ret :: tables_1)).before args0 about1 = true := by
  rw [allAtoms_all]
  show words1.all (fun c => c.before args0 about1) = true
  refine all_split ?_ w_codes
  rw [w_t1]
set_option maxRecDepth 65536 in
theorem w_case : (Jvm.Cond.and given_1 narrow_1).before args0 about1 = true := by decide +kernel
theorem w_applies : (headSpec (Jvm.Cond.code x code maxLocals ret :: tables_1) room_1).applies x e0.platform about1 = true :=
  (Spec.applies_iff w_frames).mpr ⟨w_running, w_runnable, w_alone, w_named, w_hears, w_ripe, w_room, w_tables⟩
theorem atStart : AtStart classFile x code maxLocals ret World_1 tables_1 room_1 Calls_1 rest_1 Pre_1 launch0 p0 e0 about1 theMethod args0 below0 :=
  ⟨lists_1, trivial, launch0.admits_env _ _ _, launch0.least_env, fairChoices_fair.cas, fairChoices_fair.clock, w_frames, w_args, w_heap, w_applies, trivial, trivial, w_case⟩
end start1
theorem witness_1 : WitnessClaimed_1 := ⟨start1.p0, start1.e0, start1.about1, start1.theMethod, start1.args0, start1.below0, start1.atStart⟩
end Jvm.Pilot.@@N@@
