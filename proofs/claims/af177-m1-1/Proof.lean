import JvmDerived
import JvmDerived.Pilot.@@N@@Statement
import JvmDerived.Pilot.@@N@@Code
set_option linter.unusedVariables false
set_option linter.unusedSimpArgs false
namespace Jvm.RoadKit
open Sem ClassFile Op Lib Jvm.Stand Jvm.Free Jvm.LawKit
section New
variable {p : Program} {l : Launch} {e : Env} {R : Room} {s : State} {m : MethodId} {args : Array Value} {below : List Frame} {meth : Method} {c : Code} {T : State} {locs : List Loc} {cells slots : Nat}
theorem retI (X : Stand p l e R s m args below meth c T locs cells slots) (hx : p.tables.exec = Jvm.exec) {pc : Nat} {Ls : Array Slot} {z : Int32} {rest : List Value} (hret : meth.sig.returnType = some .int) (hd : decode c.code pc = .ok (.ireturn, 1)) {fs : List Frame}
    (hl : ∀ (f : JFrame) (acts : List Action), f.method = m → f.locked = none → f.entered = [] → (doReturn e (T.setTop f) acts (some (.int z))).1 = T.setFrames fs) : Steps p.tables e below (T.setTop (mkF m pc Ls (.int z :: rest))) (T.setFrames fs) := by
  have hm' : T.vm.method? m = some meth := X.method'
  have hn : narrow .int (.int z) = .int z := rfl
  show Steps p.tables e below (T.setTop { method := m, pc := pc, locals := Ls, stack := _ :: rest, locked := none }) _
  jvm_step X.here [X.here.top, hx, hd, hm', hret, hn]
  first | (intro acts; rw [hl _ acts rfl rfl rfl]) | rw [hl _ _ rfl rfl rfl]
  exact Steps.refl _
end New
end Jvm.RoadKit
namespace Jvm.Pilot.@@N@@
open Jvm Jvm.ClassFile Sem Op Lib Jvm.Free Jvm.Stand Jvm.LawKit Jvm.RoadKit Bundle Jvm.Pilot.@@N@@.Jvm.D
theorem d1_0 : decode method_2_code 0 = .ok (.iload_n 0, 1) := by decide +kernel
theorem d1_1 : decode method_2_code 1 = .ok (.ifCond .ne 7, 3) := by decide +kernel
theorem d1_4 : decode method_2_code 4 = .ok (.getstatic 7, 3) := by decide +kernel
theorem d1_7 : decode method_2_code 7 = .ok (.areturn, 1) := by decide +kernel
theorem d1_8 : decode method_2_code 8 = .ok (.iload_n 0, 1) := by decide +kernel
theorem d1_9 : decode method_2_code 9 = .ok (.iconst 1, 1) := by decide +kernel
theorem d1_10 : decode method_2_code 10 = .ok (.if_icmp .ne 7, 3) := by decide +kernel
theorem d1_13 : decode method_2_code 13 = .ok (.getstatic 13, 3) := by decide +kernel
theorem d1_16 : decode method_2_code 16 = .ok (.areturn, 1) := by decide +kernel
theorem d1_17 : decode method_2_code 17 = .ok (.iload_n 0, 1) := by decide +kernel
theorem d1_18 : decode method_2_code 18 = .ok (.iconst 2, 1) := by decide +kernel
theorem d1_19 : decode method_2_code 19 = .ok (.if_icmp .ne 7, 3) := by decide +kernel
theorem d1_22 : decode method_2_code 22 = .ok (.getstatic 16, 3) := by decide +kernel
theorem d1_25 : decode method_2_code 25 = .ok (.areturn, 1) := by decide +kernel
theorem d1_26 : decode method_2_code 26 = .ok (.iload_n 0, 1) := by decide +kernel
theorem d1_27 : decode method_2_code 27 = .ok (.iconst 3, 1) := by decide +kernel
theorem d1_28 : decode method_2_code 28 = .ok (.if_icmp .ne 7, 3) := by decide +kernel
theorem d1_31 : decode method_2_code 31 = .ok (.getstatic 19, 3) := by decide +kernel
theorem d1_34 : decode method_2_code 34 = .ok (.areturn, 1) := by decide +kernel
theorem d1_35 : decode method_2_code 35 = .ok (.iload_n 0, 1) := by decide +kernel
theorem d1_36 : decode method_2_code 36 = .ok (.iconst 4, 1) := by decide +kernel
theorem d1_37 : decode method_2_code 37 = .ok (.if_icmp .ne 7, 3) := by decide +kernel
theorem d1_40 : decode method_2_code 40 = .ok (.getstatic 22, 3) := by decide +kernel
theorem d1_43 : decode method_2_code 43 = .ok (.areturn, 1) := by decide +kernel
theorem d1_44 : decode method_2_code 44 = .ok (.getstatic 25, 3) := by decide +kernel
theorem d1_47 : decode method_2_code 47 = .ok (.areturn, 1) := by decide +kernel
theorem pn_com_example_groundweave_groundweave_protocol_pdu_FormIsListPinLaw : plainName "com/example/groundweave/groundweave/protocol/pdu/FormIsListPinLaw" = true := by first | (simp [plainName, overriddenIn]; done) | decide +kernel
theorem ef_1 (p0 : Int32) (wD wN wL wM wR wS : Addr) (m : MethodId) : entryFrame m #[(.int p0)] 1 = mkF m 0 #[.val (.int p0)] [] := by first | (simp [entryFrame, mkF, argsToLocals, Value.category]; done) | rfl
def F1 (p0 : Int32) (wD wN wL wM wR wS : Addr) : Addr := (if p0 = (0 : Int32) then wD else (if p0 = (1 : Int32) then wN else (if p0 = (2 : Int32) then wL else (if p0 = (3 : Int32) then wM else (if p0 = (4 : Int32) then wR else wS)))))
def Q1 (Z : State) (p0 : Int32) (wD wN wL wM wR wS : Addr) (h0 : Heap) (n0 : Nat) (v : Option Value) (h : Heap) (L : List Loc) : Prop := v = some (.ref (F1 p0 wD wN wL wM wR wS)) ∧ Fr n0 L ∧ h = h0
set_option maxRecDepth 65536 in
set_option maxHeartbeats 40000000 in
theorem rm1 (l : Launch) (Z : State) (a0 : Array Value) (hw : ∀ d ∈ tables_1, d.before a0 Z = true) (ws : List Jvm.Cond) (p0 : Int32) (wD wN wL wM wR wS : Addr) (h0 : Heap) (n0 : Nat) (Z0 : n0 ≤ h0.size) (S_DEFAULT : Sta Z h0 "com/example/groundweave/groundweave/protocol/pdu/Selection$Form" "DEFAULT" "Lcom/example/groundweave/groundweave/protocol/pdu/Selection$Form;" (.ref wD)) (S_NAMES : Sta Z h0 "com/example/groundweave/groundweave/protocol/pdu/Selection$Form" "NAMES" "Lcom/example/groundweave/groundweave/protocol/pdu/Selection$Form;" (.ref wN)) (S_LABELS : Sta Z h0 "com/example/groundweave/groundweave/protocol/pdu/Selection$Form" "LABELS" "Lcom/example/groundweave/groundweave/protocol/pdu/Selection$Form;" (.ref wL)) (S_LIST_NAME : Sta Z h0 "com/example/groundweave/groundweave/protocol/pdu/Selection$Form" "LIST_NAME" "Lcom/example/groundweave/groundweave/protocol/pdu/Selection$Form;" (.ref wM)) (S_RESOURCE_NAME : Sta Z h0 "com/example/groundweave/groundweave/protocol/pdu/Selection$Form" "RESOURCE_NAME" "Lcom/example/groundweave/groundweave/protocol/pdu/Selection$Form;" (.ref wR)) (S_RESOURCE_TYPE : Sta Z h0 "com/example/groundweave/groundweave/protocol/pdu/Selection$Form" "RESOURCE_TYPE" "Lcom/example/groundweave/groundweave/protocol/pdu/Selection$Form;" (.ref wS)) :
    MetFree l (⟨"com/example/groundweave/groundweave/protocol/pdu/FormIsListPinLaw", "pick", "(I)Lcom/example/groundweave/groundweave/protocol/pdu/Selection$Form;"⟩ : MethodName) (head1 (Jvm.Cond.code (⟨"com/example/groundweave/groundweave/protocol/pdu/FormIsListPinLaw", "pick", "(I)Lcom/example/groundweave/groundweave/protocol/pdu/Selection$Form;"⟩ : MethodName) method_2_code 1 (some (.object "com/example/groundweave/groundweave/protocol/pdu/Selection$Form")) :: ws) ({ frames := 0, cells := 0, slots := 0, locals := 0 } : Room)) (fun a U => a = #[(.int p0)] ∧ Z.Warmed39 U.vm ∧ U.heap = h0) (fun _ _ _ _ _ => True) (fun _ U o U' => ∃ v L, o = .returned v ∧ Q1 Z p0 wD wN wL wM wR wS h0 n0 v U'.heap L ∧ FrameEnd U o U' L ({ frames := 0, cells := 0, slots := 0, locals := 0 } : Room).cells ({ frames := 0, cells := 0, slots := 0, locals := 0 } : Room).slots) := by
  refine MetFree.of_bodySF (plainFor_of_name pn_com_example_groundweave_groundweave_protocol_pdu_FormIsListPinLaw) hisR ?_
  intro p e s m args below meth c s₁ Bd hml0 hP hK
  obtain ⟨rfl, hZ, hh⟩ := hP
  have hx := Bd.exec
  have hby := Bd.bytes
  have hml : c.maxLocals = 1 := hml0
  have hown : s.vm.findClass "com/example/groundweave/groundweave/protocol/pdu/FormIsListPinLaw" = some m.cls := findClass_of_methodNamed Bd.named
  have hnm := (name_of_methodNamed Bd.named Bd.method).1
  have X0 : Stand p l e ({ frames := 0, cells := 0, slots := 0, locals := 0 } : Room) s m #[(.int p0)] below meth c s₁ [] 0 0 := Stand.of_body Bd
  have e0 : s₁.heap = h0 := by rw [← hh, Bd.state]; rfl
  have N0 := Fr.nil n0
  have pre0 : ∀ t, Steps p.tables e below (s₁.setTop (mkF m 0 #[.val (.int p0)] [])) t → Steps p.tables e below (s₁.setTop (entryFrame m #[(.int p0)] 1)) t := fun t k => castTop (ef_1 p0 wD wN wL wM wR wS m) k
  have pre1 : ∀ t, Steps p.tables e below (s₁.setTop (mkF m 1 #[.val (.int p0)] [(.int p0)])) t → Steps p.tables e below (s₁.setTop (entryFrame m #[(.int p0)] 1)) t := fun t kt => pre0 t (by
    show Steps p.tables e below (s₁.setTop (mkF m 0 #[.val (.int p0)] [])) _
    refine XS.iloadN X0.here hx rfl (hb hby d1_0) rfl ?_
    exact kt)
  by_cases hc1 : p0 = (0 : Int32)
  · obtain ⟨T2, X2, e2, st2⟩ := getS2 X0 hx hZ hown (host := "") (Or.inl (hw _ (List.mem_of_getElem? (i := 5) rfl))) Via.refl e0 S_DEFAULT (g := (mkF m 4 #[.val (.int p0)] [])) rfl (hb hby d1_4)
    obtain ⟨fs, hr, hrun, hended, hW, hsame⟩ := X2.leave (v := some (.ref wD)) (fun h => by rw [Bd.returns] at h; cases h)
    refine ⟨_, _, pre1 _ ?_, hrun, hended, _, _, rfl, ?_, ⟨_, rfl⟩, hW, hsame.mono (by decide) (by decide)⟩
    · show Steps p.tables e below (s₁.setTop (mkF m 1 #[.val (.int p0)] [(.int p0)])) _
      refine XS.ifNo X0.here hx rfl (hb hby d1_1) rfl ((if0 _ _).trans (teq hc1).2) ?_
      show Steps p.tables e below (s₁.setTop (mkF m 4 #[.val (.int p0)] [])) _
      refine st2 _ ?_
      show Steps p.tables e below (T2.setTop (mkF m 7 #[.val (.int p0)] [(.ref wD)])) _
      exact retOut X2 hx Bd.returns rfl (Or.inr (Or.inr (Or.inr (Or.inr ⟨rfl, rfl, rfl⟩)))) (hb hby d1_7) hr
    · show Q1 Z p0 wD wN wL wM wR wS h0 n0 _ T2.heap _
      rw [e2]
      exact ⟨(by unfold F1; simp only [if_pos hc1]), N0, rfl⟩
  · have pre3 : ∀ t, Steps p.tables e below (s₁.setTop (mkF m 10 #[.val (.int p0)] [(.int (1 : Int32)), (.int p0)])) t → Steps p.tables e below (s₁.setTop (entryFrame m #[(.int p0)] 1)) t := fun t kt => pre1 t (by
      show Steps p.tables e below (s₁.setTop (mkF m 1 #[.val (.int p0)] [(.int p0)])) _
      refine XS.ifYes X0.here hx rfl (pc0 := 1) (pc' := 8) rfl (hb hby d1_1) rfl ((if0 _ _).trans (feq hc1).2) (by decide) (by decide) ?_
      show Steps p.tables e below (s₁.setTop (mkF m 8 #[.val (.int p0)] [])) _
      refine XS.iloadN X0.here hx rfl (hb hby d1_8) rfl ?_
      show Steps p.tables e below (s₁.setTop (mkF m 9 #[.val (.int p0)] [(.int p0)])) _
      refine XS.iconst X0.here hx rfl (hb hby d1_9) ?_
      exact kt)
    by_cases hc10 : p0 = (1 : Int32)
    · obtain ⟨T4, X4, e4, st4⟩ := getS2 X0 hx hZ hown (host := "") (Or.inl (hw _ (List.mem_of_getElem? (i := 32) rfl))) Via.refl e0 S_NAMES (g := (mkF m 13 #[.val (.int p0)] [])) rfl (hb hby d1_13)
      obtain ⟨fs, hr, hrun, hended, hW, hsame⟩ := X4.leave (v := some (.ref wN)) (fun h => by rw [Bd.returns] at h; cases h)
      refine ⟨_, _, pre3 _ ?_, hrun, hended, _, _, rfl, ?_, ⟨_, rfl⟩, hW, hsame.mono (by decide) (by decide)⟩
      · show Steps p.tables e below (s₁.setTop (mkF m 10 #[.val (.int p0)] [(.int (1 : Int32)), (.int p0)])) _
        refine XS.icmpNo X0.here hx rfl (hb hby d1_10) rfl (teq hc10).2 ?_
        show Steps p.tables e below (s₁.setTop (mkF m 13 #[.val (.int p0)] [])) _
        refine st4 _ ?_
        show Steps p.tables e below (T4.setTop (mkF m 16 #[.val (.int p0)] [(.ref wN)])) _
        exact retOut X4 hx Bd.returns rfl (Or.inr (Or.inr (Or.inr (Or.inr ⟨rfl, rfl, rfl⟩)))) (hb hby d1_16) hr
      · show Q1 Z p0 wD wN wL wM wR wS h0 n0 _ T4.heap _
        rw [e4]
        exact ⟨(by unfold F1; simp only [if_neg hc1, if_pos hc10]), N0, rfl⟩
    · have pre5 : ∀ t, Steps p.tables e below (s₁.setTop (mkF m 19 #[.val (.int p0)] [(.int (2 : Int32)), (.int p0)])) t → Steps p.tables e below (s₁.setTop (entryFrame m #[(.int p0)] 1)) t := fun t kt => pre3 t (by
        show Steps p.tables e below (s₁.setTop (mkF m 10 #[.val (.int p0)] [(.int (1 : Int32)), (.int p0)])) _
        refine XS.icmpYes X0.here hx rfl (pc0 := 10) (pc' := 17) rfl (hb hby d1_10) rfl (feq hc10).2 (by decide) (by decide) ?_
        show Steps p.tables e below (s₁.setTop (mkF m 17 #[.val (.int p0)] [])) _
        refine XS.iloadN X0.here hx rfl (hb hby d1_17) rfl ?_
        show Steps p.tables e below (s₁.setTop (mkF m 18 #[.val (.int p0)] [(.int p0)])) _
        refine XS.iconst X0.here hx rfl (hb hby d1_18) ?_
        exact kt)
      by_cases hc19 : p0 = (2 : Int32)
      · obtain ⟨T6, X6, e6, st6⟩ := getS2 X0 hx hZ hown (host := "") (Or.inl (hw _ (List.mem_of_getElem? (i := 31) rfl))) Via.refl e0 S_LABELS (g := (mkF m 22 #[.val (.int p0)] [])) rfl (hb hby d1_22)
        obtain ⟨fs, hr, hrun, hended, hW, hsame⟩ := X6.leave (v := some (.ref wL)) (fun h => by rw [Bd.returns] at h; cases h)
        refine ⟨_, _, pre5 _ ?_, hrun, hended, _, _, rfl, ?_, ⟨_, rfl⟩, hW, hsame.mono (by decide) (by decide)⟩
        · show Steps p.tables e below (s₁.setTop (mkF m 19 #[.val (.int p0)] [(.int (2 : Int32)), (.int p0)])) _
          refine XS.icmpNo X0.here hx rfl (hb hby d1_19) rfl (teq hc19).2 ?_
          show Steps p.tables e below (s₁.setTop (mkF m 22 #[.val (.int p0)] [])) _
          refine st6 _ ?_
          show Steps p.tables e below (T6.setTop (mkF m 25 #[.val (.int p0)] [(.ref wL)])) _
          exact retOut X6 hx Bd.returns rfl (Or.inr (Or.inr (Or.inr (Or.inr ⟨rfl, rfl, rfl⟩)))) (hb hby d1_25) hr
        · show Q1 Z p0 wD wN wL wM wR wS h0 n0 _ T6.heap _
          rw [e6]
          exact ⟨(by unfold F1; simp only [if_neg hc1, if_neg hc10, if_pos hc19]), N0, rfl⟩
      · have pre7 : ∀ t, Steps p.tables e below (s₁.setTop (mkF m 28 #[.val (.int p0)] [(.int (3 : Int32)), (.int p0)])) t → Steps p.tables e below (s₁.setTop (entryFrame m #[(.int p0)] 1)) t := fun t kt => pre5 t (by
          show Steps p.tables e below (s₁.setTop (mkF m 19 #[.val (.int p0)] [(.int (2 : Int32)), (.int p0)])) _
          refine XS.icmpYes X0.here hx rfl (pc0 := 19) (pc' := 26) rfl (hb hby d1_19) rfl (feq hc19).2 (by decide) (by decide) ?_
          show Steps p.tables e below (s₁.setTop (mkF m 26 #[.val (.int p0)] [])) _
          refine XS.iloadN X0.here hx rfl (hb hby d1_26) rfl ?_
          show Steps p.tables e below (s₁.setTop (mkF m 27 #[.val (.int p0)] [(.int p0)])) _
          refine XS.iconst X0.here hx rfl (hb hby d1_27) ?_
          exact kt)
        by_cases hc28 : p0 = (3 : Int32)
        · obtain ⟨T8, X8, e8, st8⟩ := getS2 X0 hx hZ hown (host := "") (Or.inl (hw _ (List.mem_of_getElem? (i := 29) rfl))) Via.refl e0 S_LIST_NAME (g := (mkF m 31 #[.val (.int p0)] [])) rfl (hb hby d1_31)
          obtain ⟨fs, hr, hrun, hended, hW, hsame⟩ := X8.leave (v := some (.ref wM)) (fun h => by rw [Bd.returns] at h; cases h)
          refine ⟨_, _, pre7 _ ?_, hrun, hended, _, _, rfl, ?_, ⟨_, rfl⟩, hW, hsame.mono (by decide) (by decide)⟩
          · show Steps p.tables e below (s₁.setTop (mkF m 28 #[.val (.int p0)] [(.int (3 : Int32)), (.int p0)])) _
            refine XS.icmpNo X0.here hx rfl (hb hby d1_28) rfl (teq hc28).2 ?_
            show Steps p.tables e below (s₁.setTop (mkF m 31 #[.val (.int p0)] [])) _
            refine st8 _ ?_
            show Steps p.tables e below (T8.setTop (mkF m 34 #[.val (.int p0)] [(.ref wM)])) _
            exact retOut X8 hx Bd.returns rfl (Or.inr (Or.inr (Or.inr (Or.inr ⟨rfl, rfl, rfl⟩)))) (hb hby d1_34) hr
          · show Q1 Z p0 wD wN wL wM wR wS h0 n0 _ T8.heap _
            rw [e8]
            exact ⟨(by unfold F1; simp only [if_neg hc1, if_neg hc10, if_neg hc19, if_pos hc28]), N0, rfl⟩
        · have pre9 : ∀ t, Steps p.tables e below (s₁.setTop (mkF m 37 #[.val (.int p0)] [(.int (4 : Int32)), (.int p0)])) t → Steps p.tables e below (s₁.setTop (entryFrame m #[(.int p0)] 1)) t := fun t kt => pre7 t (by
            show Steps p.tables e below (s₁.setTop (mkF m 28 #[.val (.int p0)] [(.int (3 : Int32)), (.int p0)])) _
            refine XS.icmpYes X0.here hx rfl (pc0 := 28) (pc' := 35) rfl (hb hby d1_28) rfl (feq hc28).2 (by decide) (by decide) ?_
            show Steps p.tables e below (s₁.setTop (mkF m 35 #[.val (.int p0)] [])) _
            refine XS.iloadN X0.here hx rfl (hb hby d1_35) rfl ?_
            show Steps p.tables e below (s₁.setTop (mkF m 36 #[.val (.int p0)] [(.int p0)])) _
            refine XS.iconst X0.here hx rfl (hb hby d1_36) ?_
            exact kt)
          by_cases hc37 : p0 = (4 : Int32)
          · obtain ⟨T10, X10, e10, st10⟩ := getS2 X0 hx hZ hown (host := "") (Or.inl (hw _ (List.mem_of_getElem? (i := 36) rfl))) Via.refl e0 S_RESOURCE_NAME (g := (mkF m 40 #[.val (.int p0)] [])) rfl (hb hby d1_40)
            obtain ⟨fs, hr, hrun, hended, hW, hsame⟩ := X10.leave (v := some (.ref wR)) (fun h => by rw [Bd.returns] at h; cases h)
            refine ⟨_, _, pre9 _ ?_, hrun, hended, _, _, rfl, ?_, ⟨_, rfl⟩, hW, hsame.mono (by decide) (by decide)⟩
            · show Steps p.tables e below (s₁.setTop (mkF m 37 #[.val (.int p0)] [(.int (4 : Int32)), (.int p0)])) _
              refine XS.icmpNo X0.here hx rfl (hb hby d1_37) rfl (teq hc37).2 ?_
              show Steps p.tables e below (s₁.setTop (mkF m 40 #[.val (.int p0)] [])) _
              refine st10 _ ?_
              show Steps p.tables e below (T10.setTop (mkF m 43 #[.val (.int p0)] [(.ref wR)])) _
              exact retOut X10 hx Bd.returns rfl (Or.inr (Or.inr (Or.inr (Or.inr ⟨rfl, rfl, rfl⟩)))) (hb hby d1_43) hr
            · show Q1 Z p0 wD wN wL wM wR wS h0 n0 _ T10.heap _
              rw [e10]
              exact ⟨(by unfold F1; simp only [if_neg hc1, if_neg hc10, if_neg hc19, if_neg hc28, if_pos hc37]), N0, rfl⟩
          · obtain ⟨T11, X11, e11, st11⟩ := getS2 X0 hx hZ hown (host := "") (Or.inl (hw _ (List.mem_of_getElem? (i := 33) rfl))) Via.refl e0 S_RESOURCE_TYPE (g := (mkF m 44 #[.val (.int p0)] [])) rfl (hb hby d1_44)
            obtain ⟨fs, hr, hrun, hended, hW, hsame⟩ := X11.leave (v := some (.ref wS)) (fun h => by rw [Bd.returns] at h; cases h)
            refine ⟨_, _, pre9 _ ?_, hrun, hended, _, _, rfl, ?_, ⟨_, rfl⟩, hW, hsame.mono (by decide) (by decide)⟩
            · show Steps p.tables e below (s₁.setTop (mkF m 37 #[.val (.int p0)] [(.int (4 : Int32)), (.int p0)])) _
              refine XS.icmpYes X0.here hx rfl (pc0 := 37) (pc' := 44) rfl (hb hby d1_37) rfl (feq hc37).2 (by decide) (by decide) ?_
              show Steps p.tables e below (s₁.setTop (mkF m 44 #[.val (.int p0)] [])) _
              refine st11 _ ?_
              show Steps p.tables e below (T11.setTop (mkF m 47 #[.val (.int p0)] [(.ref wS)])) _
              exact retOut X11 hx Bd.returns rfl (Or.inr (Or.inr (Or.inr (Or.inr ⟨rfl, rfl, rfl⟩)))) (hb hby d1_47) hr
            · show Q1 Z p0 wD wN wL wM wR wS h0 n0 _ T11.heap _
              rw [e11]
              exact ⟨(by unfold F1; simp only [if_neg hc1, if_neg hc10, if_neg hc19, if_neg hc28, if_neg hc37]), N0, rfl⟩
theorem d2_0 : decode prog_78_method_4_code 0 = .ok (.aload_n 0, 1) := by decide +kernel
theorem d2_1 : decode prog_78_method_4_code 1 = .ok (.getfield 41, 3) := by decide +kernel
theorem d2_4 : decode prog_78_method_4_code 4 = .ok (.areturn, 1) := by decide +kernel
theorem pn_com_example_groundweave_groundweave_protocol_pdu_Selection_Form : plainName "com/example/groundweave/groundweave/protocol/pdu/Selection$Form" = true := by first | (simp [plainName, overriddenIn]; done) | decide +kernel
theorem ef_2n (r0 : Addr)  (m : MethodId) : entryFrame m #[(.ref r0)] 1 = mkF m 0 #[.val (.ref r0)] [] := by first | (simp [entryFrame, mkF, argsToLocals, Value.category]; done) | rfl
def Q2n (Z : State) (r0 : Addr)  (h0 : Heap) (n0 : Nat) (v : Option Value) (h : Heap) (L : List Loc) : Prop := v = some .null ∧ Fr n0 L ∧ h = h0
set_option maxRecDepth 65536 in
set_option maxHeartbeats 40000000 in
theorem rm2n (l : Launch) (Z : State) (a0 : Array Value) (hw : ∀ d ∈ tables_1, d.before a0 Z = true) (ws : List Jvm.Cond) (r0 : Addr)  (h0 : Heap) (n0 : Nat) (Z0 : n0 ≤ h0.size) (F_i : Fld Z h0 r0 "com/example/groundweave/groundweave/protocol/pdu/Selection$Form" "itemForm" "Lcom/example/groundweave/groundweave/protocol/pdu/ItemPath$Form;" .null) :
    MetFree l (⟨"com/example/groundweave/groundweave/protocol/pdu/Selection$Form", "itemForm", "()Lcom/example/groundweave/groundweave/protocol/pdu/ItemPath$Form;"⟩ : MethodName) (head1 (Jvm.Cond.code (⟨"com/example/groundweave/groundweave/protocol/pdu/Selection$Form", "itemForm", "()Lcom/example/groundweave/groundweave/protocol/pdu/ItemPath$Form;"⟩ : MethodName) prog_78_method_4_code 1 (some (.object "com/example/groundweave/groundweave/protocol/pdu/ItemPath$Form")) :: ws) ({ frames := 0, cells := 0, slots := 0, locals := 0 } : Room)) (fun a U => a = #[(.ref r0)] ∧ Z.Warmed39 U.vm ∧ U.heap = h0) (fun _ _ _ _ _ => True) (fun _ U o U' => ∃ v L, o = .returned v ∧ Q2n Z r0 h0 n0 v U'.heap L ∧ FrameEnd U o U' L ({ frames := 0, cells := 0, slots := 0, locals := 0 } : Room).cells ({ frames := 0, cells := 0, slots := 0, locals := 0 } : Room).slots) := by
  refine MetFree.of_bodySF (plainFor_of_name pn_com_example_groundweave_groundweave_protocol_pdu_Selection_Form) hisR ?_
  intro p e s m args below meth c s₁ Bd hml0 hP hK
  obtain ⟨rfl, hZ, hh⟩ := hP
  have hx := Bd.exec
  have hby := Bd.bytes
  have hml : c.maxLocals = 1 := hml0
  have hown : s.vm.findClass "com/example/groundweave/groundweave/protocol/pdu/Selection$Form" = some m.cls := findClass_of_methodNamed Bd.named
  have hnm := (name_of_methodNamed Bd.named Bd.method).1
  have X0 : Stand p l e ({ frames := 0, cells := 0, slots := 0, locals := 0 } : Room) s m #[(.ref r0)] below meth c s₁ [] 0 0 := Stand.of_body Bd
  have e0 : s₁.heap = h0 := by rw [← hh, Bd.state]; rfl
  have N0 := Fr.nil n0
  have pre0 : ∀ t, Steps p.tables e below (s₁.setTop (mkF m 0 #[.val (.ref r0)] [])) t → Steps p.tables e below (s₁.setTop (entryFrame m #[(.ref r0)] 1)) t := fun t k => castTop (ef_2n r0 m) k
  obtain ⟨T1, X1, e1, st1⟩ := getF X0 hx hZ hown (host := "") (Or.inl (hw _ (List.mem_of_getElem? (i := 13) rfl))) Via.refl e0 F_i (g := (mkF m 1 #[.val (.ref r0)] [(.ref r0)])) rfl rfl (hb hby d2_1)
  obtain ⟨fs, hr, hrun, hended, hW, hsame⟩ := X1.leave (v := some .null) (fun h => by rw [Bd.returns] at h; cases h)
  refine ⟨_, _, pre0 _ ?_, hrun, hended, _, _, rfl, ?_, ⟨_, rfl⟩, hW, hsame.mono (by decide) (by decide)⟩
  · show Steps p.tables e below (s₁.setTop (mkF m 0 #[.val (.ref r0)] [])) _
    refine XS.aloadN X0.here hx rfl (hb hby d2_0) rfl rfl ?_
    show Steps p.tables e below (s₁.setTop (mkF m 1 #[.val (.ref r0)] [(.ref r0)])) _
    refine st1 _ ?_
    show Steps p.tables e below (T1.setTop (mkF m 4 #[.val (.ref r0)] [.null])) _
    exact retOut X1 hx Bd.returns rfl (Or.inr (Or.inr (Or.inr (Or.inr ⟨rfl, rfl, rfl⟩)))) (hb hby d2_4) hr
  · show Q2n Z r0 h0 n0 _ T1.heap _
    rw [e1]
    exact ⟨rfl, N0, rfl⟩
theorem ef_2r (r0 : Addr) (w : Addr) (m : MethodId) : entryFrame m #[(.ref r0)] 1 = mkF m 0 #[.val (.ref r0)] [] := by first | (simp [entryFrame, mkF, argsToLocals, Value.category]; done) | rfl
def Q2r (Z : State) (r0 : Addr) (w : Addr) (h0 : Heap) (n0 : Nat) (v : Option Value) (h : Heap) (L : List Loc) : Prop := v = some (.ref w) ∧ Fr n0 L ∧ h = h0
set_option maxRecDepth 65536 in
set_option maxHeartbeats 40000000 in
theorem rm2r (l : Launch) (Z : State) (a0 : Array Value) (hw : ∀ d ∈ tables_1, d.before a0 Z = true) (ws : List Jvm.Cond) (r0 : Addr) (w : Addr) (h0 : Heap) (n0 : Nat) (Z0 : n0 ≤ h0.size) (F_i : Fld Z h0 r0 "com/example/groundweave/groundweave/protocol/pdu/Selection$Form" "itemForm" "Lcom/example/groundweave/groundweave/protocol/pdu/ItemPath$Form;" (.ref w)) :
    MetFree l (⟨"com/example/groundweave/groundweave/protocol/pdu/Selection$Form", "itemForm", "()Lcom/example/groundweave/groundweave/protocol/pdu/ItemPath$Form;"⟩ : MethodName) (head1 (Jvm.Cond.code (⟨"com/example/groundweave/groundweave/protocol/pdu/Selection$Form", "itemForm", "()Lcom/example/groundweave/groundweave/protocol/pdu/ItemPath$Form;"⟩ : MethodName) prog_78_method_4_code 1 (some (.object "com/example/groundweave/groundweave/protocol/pdu/ItemPath$Form")) :: ws) ({ frames := 0, cells := 0, slots := 0, locals := 0 } : Room)) (fun a U => a = #[(.ref r0)] ∧ Z.Warmed39 U.vm ∧ U.heap = h0) (fun _ _ _ _ _ => True) (fun _ U o U' => ∃ v L, o = .returned v ∧ Q2r Z r0 w h0 n0 v U'.heap L ∧ FrameEnd U o U' L ({ frames := 0, cells := 0, slots := 0, locals := 0 } : Room).cells ({ frames := 0, cells := 0, slots := 0, locals := 0 } : Room).slots) := by
  refine MetFree.of_bodySF (plainFor_of_name pn_com_example_groundweave_groundweave_protocol_pdu_Selection_Form) hisR ?_
  intro p e s m args below meth c s₁ Bd hml0 hP hK
  obtain ⟨rfl, hZ, hh⟩ := hP
  have hx := Bd.exec
  have hby := Bd.bytes
  have hml : c.maxLocals = 1 := hml0
  have hown : s.vm.findClass "com/example/groundweave/groundweave/protocol/pdu/Selection$Form" = some m.cls := findClass_of_methodNamed Bd.named
  have hnm := (name_of_methodNamed Bd.named Bd.method).1
  have X0 : Stand p l e ({ frames := 0, cells := 0, slots := 0, locals := 0 } : Room) s m #[(.ref r0)] below meth c s₁ [] 0 0 := Stand.of_body Bd
  have e0 : s₁.heap = h0 := by rw [← hh, Bd.state]; rfl
  have N0 := Fr.nil n0
  have pre0 : ∀ t, Steps p.tables e below (s₁.setTop (mkF m 0 #[.val (.ref r0)] [])) t → Steps p.tables e below (s₁.setTop (entryFrame m #[(.ref r0)] 1)) t := fun t k => castTop (ef_2r r0 w m) k
  obtain ⟨T1, X1, e1, st1⟩ := getF X0 hx hZ hown (host := "") (Or.inl (hw _ (List.mem_of_getElem? (i := 13) rfl))) Via.refl e0 F_i (g := (mkF m 1 #[.val (.ref r0)] [(.ref r0)])) rfl rfl (hb hby d2_1)
  obtain ⟨fs, hr, hrun, hended, hW, hsame⟩ := X1.leave (v := some (.ref w)) (fun h => by rw [Bd.returns] at h; cases h)
  refine ⟨_, _, pre0 _ ?_, hrun, hended, _, _, rfl, ?_, ⟨_, rfl⟩, hW, hsame.mono (by decide) (by decide)⟩
  · show Steps p.tables e below (s₁.setTop (mkF m 0 #[.val (.ref r0)] [])) _
    refine XS.aloadN X0.here hx rfl (hb hby d2_0) rfl rfl ?_
    show Steps p.tables e below (s₁.setTop (mkF m 1 #[.val (.ref r0)] [(.ref r0)])) _
    refine st1 _ ?_
    show Steps p.tables e below (T1.setTop (mkF m 4 #[.val (.ref r0)] [(.ref w)])) _
    exact retOut X1 hx Bd.returns rfl (Or.inr (Or.inr (Or.inr (Or.inr ⟨rfl, rfl, rfl⟩)))) (hb hby d2_4) hr
  · show Q2r Z r0 w h0 n0 _ T1.heap _
    rw [e1]
    exact ⟨rfl, N0, rfl⟩
theorem d3_0 : decode prog_78_method_5_code 0 = .ok (.aload_n 0, 1) := by decide +kernel
theorem d3_1 : decode prog_78_method_5_code 1 = .ok (.getstatic 7, 3) := by decide +kernel
theorem d3_4 : decode prog_78_method_5_code 4 = .ok (.if_acmp .eq 10, 3) := by decide +kernel
theorem d3_7 : decode prog_78_method_5_code 7 = .ok (.aload_n 0, 1) := by decide +kernel
theorem d3_8 : decode prog_78_method_5_code 8 = .ok (.getstatic 10, 3) := by decide +kernel
theorem d3_11 : decode prog_78_method_5_code 11 = .ok (.if_acmp .ne 7, 3) := by decide +kernel
theorem d3_14 : decode prog_78_method_5_code 14 = .ok (.iconst 1, 1) := by decide +kernel
theorem d3_15 : decode prog_78_method_5_code 15 = .ok (.goto 4, 3) := by decide +kernel
theorem d3_18 : decode prog_78_method_5_code 18 = .ok (.iconst 0, 1) := by decide +kernel
theorem d3_19 : decode prog_78_method_5_code 19 = .ok (.ireturn, 1) := by decide +kernel
theorem ef_3 (r0 : Addr) (wN wL : Addr) (m : MethodId) : entryFrame m #[(.ref r0)] 1 = mkF m 0 #[.val (.ref r0)] [] := by first | (simp [entryFrame, mkF, argsToLocals, Value.category]; done) | rfl
def F3 (r0 : Addr) (wN wL : Addr) : Int32 := (if r0 = wN then (1 : Int32) else (if r0 = wL then (1 : Int32) else (0 : Int32)))
def Q3 (Z : State) (r0 : Addr) (wN wL : Addr) (h0 : Heap) (n0 : Nat) (v : Option Value) (h : Heap) (L : List Loc) : Prop := v = some (.int (F3 r0 wN wL)) ∧ Fr n0 L ∧ h = h0
set_option maxRecDepth 65536 in
set_option maxHeartbeats 40000000 in
theorem rm3 (l : Launch) (Z : State) (a0 : Array Value) (hw : ∀ d ∈ tables_1, d.before a0 Z = true) (ws : List Jvm.Cond) (r0 : Addr) (wN wL : Addr) (h0 : Heap) (n0 : Nat) (Z0 : n0 ≤ h0.size) (S_NAMES : Sta Z h0 "com/example/groundweave/groundweave/protocol/pdu/Selection$Form" "NAMES" "Lcom/example/groundweave/groundweave/protocol/pdu/Selection$Form;" (.ref wN)) (S_LABELS : Sta Z h0 "com/example/groundweave/groundweave/protocol/pdu/Selection$Form" "LABELS" "Lcom/example/groundweave/groundweave/protocol/pdu/Selection$Form;" (.ref wL)) :
    MetFree l (⟨"com/example/groundweave/groundweave/protocol/pdu/Selection$Form", "isList", "()Z"⟩ : MethodName) (head1 (Jvm.Cond.code (⟨"com/example/groundweave/groundweave/protocol/pdu/Selection$Form", "isList", "()Z"⟩ : MethodName) prog_78_method_5_code 1 (some .boolean) :: ws) ({ frames := 0, cells := 0, slots := 0, locals := 0 } : Room)) (fun a U => a = #[(.ref r0)] ∧ Z.Warmed39 U.vm ∧ U.heap = h0) (fun _ _ _ _ _ => True) (fun _ U o U' => ∃ v L, o = .returned v ∧ Q3 Z r0 wN wL h0 n0 v U'.heap L ∧ FrameEnd U o U' L ({ frames := 0, cells := 0, slots := 0, locals := 0 } : Room).cells ({ frames := 0, cells := 0, slots := 0, locals := 0 } : Room).slots) := by
  refine MetFree.of_bodySF (plainFor_of_name pn_com_example_groundweave_groundweave_protocol_pdu_Selection_Form) hisR ?_
  intro p e s m args below meth c s₁ Bd hml0 hP hK
  obtain ⟨rfl, hZ, hh⟩ := hP
  have hx := Bd.exec
  have hby := Bd.bytes
  have hml : c.maxLocals = 1 := hml0
  have hown : s.vm.findClass "com/example/groundweave/groundweave/protocol/pdu/Selection$Form" = some m.cls := findClass_of_methodNamed Bd.named
  have hnm := (name_of_methodNamed Bd.named Bd.method).1
  have X0 : Stand p l e ({ frames := 0, cells := 0, slots := 0, locals := 0 } : Room) s m #[(.ref r0)] below meth c s₁ [] 0 0 := Stand.of_body Bd
  have e0 : s₁.heap = h0 := by rw [← hh, Bd.state]; rfl
  have N0 := Fr.nil n0
  have pre0 : ∀ t, Steps p.tables e below (s₁.setTop (mkF m 0 #[.val (.ref r0)] [])) t → Steps p.tables e below (s₁.setTop (entryFrame m #[(.ref r0)] 1)) t := fun t k => castTop (ef_3 r0 wN wL m) k
  obtain ⟨T1, X1, e1, st1⟩ := getS2 X0 hx hZ hown (host := "") (Or.inl (hw _ (List.mem_of_getElem? (i := 25) rfl))) Via.refl e0 S_NAMES (g := (mkF m 1 #[.val (.ref r0)] [(.ref r0)])) rfl (hb hby d3_1)
  have pre2 : ∀ t, Steps p.tables e below (T1.setTop (mkF m 4 #[.val (.ref r0)] [(.ref wN), (.ref r0)])) t → Steps p.tables e below (s₁.setTop (entryFrame m #[(.ref r0)] 1)) t := fun t kt => pre0 t (by
    show Steps p.tables e below (s₁.setTop (mkF m 0 #[.val (.ref r0)] [])) _
    refine XS.aloadN X0.here hx rfl (hb hby d3_0) rfl rfl ?_
    show Steps p.tables e below (s₁.setTop (mkF m 1 #[.val (.ref r0)] [(.ref r0)])) _
    refine st1 _ ?_
    exact kt)
  by_cases ha4 : r0 = wN
  · obtain ⟨fs, hr, hrun, hended, hW, hsame⟩ := X1.leave (v := some (.int (1 : Int32))) (fun h => by rw [Bd.returns] at h; cases h)
    refine ⟨_, _, pre2 _ ?_, hrun, hended, _, _, rfl, ?_, ⟨_, rfl⟩, hW, hsame.mono (by decide) (by decide)⟩
    · show Steps p.tables e below (T1.setTop (mkF m 4 #[.val (.ref r0)] [(.ref wN), (.ref r0)])) _
      refine Jvm.RoadKit.acmp (g := (mkF m 4 #[.val (.ref r0)] [(.ref wN), (.ref r0)])) X1 hx rfl rfl rfl (pc0 := 4) (pc' := 14) (same := true) rfl (hb hby d3_4) rfl (decide_eq_true (congrArg Value.ref ha4)) (by decide) (by decide) ?_
      show Steps p.tables e below (T1.setTop (mkF m 14 #[.val (.ref r0)] [])) _
      refine XS.iconst X1.here hx rfl (hb hby d3_14) ?_
      show Steps p.tables e below (T1.setTop (mkF m 15 #[.val (.ref r0)] [(.int (1 : Int32))])) _
      refine XS.goto X1.here hx rfl (pc0 := 15) (pc' := 19) rfl (hb hby d3_15) (by decide) (by decide) ?_
      show Steps p.tables e below (T1.setTop (mkF m 19 #[.val (.ref r0)] [(.int (1 : Int32))])) _
      exact retN X1 hx (t := .boolean) Bd.returns (by simp) (hb hby d3_19) hr
    · show Q3 Z r0 wN wL h0 n0 _ T1.heap _
      rw [e1]
      exact ⟨(by unfold F3; simp only [if_pos ha4]), N0, rfl⟩
  · obtain ⟨T3, X3, e3, st3⟩ := getS2 X1 hx hZ hown (host := "") (Or.inl (hw _ (List.mem_of_getElem? (i := 27) rfl))) Via.refl e1 S_LABELS (g := (mkF m 8 #[.val (.ref r0)] [(.ref r0)])) rfl (hb hby d3_8)
    have pre4 : ∀ t, Steps p.tables e below (T3.setTop (mkF m 11 #[.val (.ref r0)] [(.ref wL), (.ref r0)])) t → Steps p.tables e below (s₁.setTop (entryFrame m #[(.ref r0)] 1)) t := fun t kt => pre2 t (by
      show Steps p.tables e below (T1.setTop (mkF m 4 #[.val (.ref r0)] [(.ref wN), (.ref r0)])) _
      refine Jvm.RoadKit.acmp (g := (mkF m 4 #[.val (.ref r0)] [(.ref wN), (.ref r0)])) X1 hx rfl rfl rfl (pc0 := 4) (pc' := 7) (same := false) rfl (hb hby d3_4) rfl (decide_eq_false fun q => ha4 (Value.ref.inj q)) (by decide) (by decide) ?_
      show Steps p.tables e below (T1.setTop (mkF m 7 #[.val (.ref r0)] [])) _
      refine XS.aloadN X1.here hx rfl (hb hby d3_7) rfl rfl ?_
      show Steps p.tables e below (T1.setTop (mkF m 8 #[.val (.ref r0)] [(.ref r0)])) _
      refine st3 _ ?_
      exact kt)
    by_cases ha11 : r0 = wL
    · obtain ⟨fs, hr, hrun, hended, hW, hsame⟩ := X3.leave (v := some (.int (1 : Int32))) (fun h => by rw [Bd.returns] at h; cases h)
      refine ⟨_, _, pre4 _ ?_, hrun, hended, _, _, rfl, ?_, ⟨_, rfl⟩, hW, hsame.mono (by decide) (by decide)⟩
      · show Steps p.tables e below (T3.setTop (mkF m 11 #[.val (.ref r0)] [(.ref wL), (.ref r0)])) _
        refine Jvm.RoadKit.acmp (g := (mkF m 11 #[.val (.ref r0)] [(.ref wL), (.ref r0)])) X3 hx rfl rfl rfl (pc0 := 11) (pc' := 14) (same := true) rfl (hb hby d3_11) rfl (decide_eq_true (congrArg Value.ref ha11)) (by decide) (by decide) ?_
        show Steps p.tables e below (T3.setTop (mkF m 14 #[.val (.ref r0)] [])) _
        refine XS.iconst X3.here hx rfl (hb hby d3_14) ?_
        show Steps p.tables e below (T3.setTop (mkF m 15 #[.val (.ref r0)] [(.int (1 : Int32))])) _
        refine XS.goto X3.here hx rfl (pc0 := 15) (pc' := 19) rfl (hb hby d3_15) (by decide) (by decide) ?_
        show Steps p.tables e below (T3.setTop (mkF m 19 #[.val (.ref r0)] [(.int (1 : Int32))])) _
        exact retN X3 hx (t := .boolean) Bd.returns (by simp) (hb hby d3_19) hr
      · show Q3 Z r0 wN wL h0 n0 _ T3.heap _
        rw [e3]
        exact ⟨(by unfold F3; simp only [if_neg ha4, if_pos ha11]), N0, rfl⟩
    · obtain ⟨fs, hr, hrun, hended, hW, hsame⟩ := X3.leave (v := some (.int (0 : Int32))) (fun h => by rw [Bd.returns] at h; cases h)
      refine ⟨_, _, pre4 _ ?_, hrun, hended, _, _, rfl, ?_, ⟨_, rfl⟩, hW, hsame.mono (by decide) (by decide)⟩
      · show Steps p.tables e below (T3.setTop (mkF m 11 #[.val (.ref r0)] [(.ref wL), (.ref r0)])) _
        refine Jvm.RoadKit.acmp (g := (mkF m 11 #[.val (.ref r0)] [(.ref wL), (.ref r0)])) X3 hx rfl rfl rfl (pc0 := 11) (pc' := 18) (same := false) rfl (hb hby d3_11) rfl (decide_eq_false fun q => ha11 (Value.ref.inj q)) (by decide) (by decide) ?_
        show Steps p.tables e below (T3.setTop (mkF m 18 #[.val (.ref r0)] [])) _
        refine XS.iconst X3.here hx rfl (hb hby d3_18) ?_
        show Steps p.tables e below (T3.setTop (mkF m 19 #[.val (.ref r0)] [(.int (0 : Int32))])) _
        exact retN X3 hx (t := .boolean) Bd.returns (by simp) (hb hby d3_19) hr
      · show Q3 Z r0 wN wL h0 n0 _ T3.heap _
        rw [e3]
        exact ⟨(by unfold F3; simp only [if_neg ha4, if_neg ha11]), N0, rfl⟩
def A0_7 (p0 : Int32) (wD wN wL wM wR wS nN nL nR nS : Addr) : Int32 := ((p0 &&& (2147483647 : Int32)) % (6 : Int32))
theorem own_six (p0 : Int32) : (p0 &&& (2147483647 : Int32)) % (6 : Int32) = 0 ∨ (p0 &&& (2147483647 : Int32)) % (6 : Int32) = 1 ∨ (p0 &&& (2147483647 : Int32)) % (6 : Int32) = 2 ∨ (p0 &&& (2147483647 : Int32)) % (6 : Int32) = 3 ∨ (p0 &&& (2147483647 : Int32)) % (6 : Int32) = 4 ∨ (p0 &&& (2147483647 : Int32)) % (6 : Int32) = 5 := by
  have m := c_mask p0 2147483647 31 (by decide) (by decide)
  have r := (c_irem (p0 &&& (2147483647 : Int32)) 6 6 (by decide)).1 (by omega)
  simp only [← Int32.toInt_inj]
  show _ = (0 : Int) ∨ _ = (1 : Int) ∨ _ = (2 : Int) ∨ _ = (3 : Int) ∨ _ = (4 : Int) ∨ _ = (5 : Int)
  omega
theorem pd__I_Lcom_example_groundweave_groundweave_protocol_pdu_Selection_Form_ : parseMethodDescriptor "(I)Lcom/example/groundweave/groundweave/protocol/pdu/Selection$Form;" = some ⟨[.int], some (.object "com/example/groundweave/groundweave/protocol/pdu/Selection$Form")⟩ := by decide +kernel
theorem pd___Lcom_example_groundweave_groundweave_protocol_pdu_ItemPath_Form_ : parseMethodDescriptor "()Lcom/example/groundweave/groundweave/protocol/pdu/ItemPath$Form;" = some ⟨[], some (.object "com/example/groundweave/groundweave/protocol/pdu/ItemPath$Form")⟩ := by decide +kernel
theorem pd___Z : parseMethodDescriptor "()Z" = some ⟨[], some .boolean⟩ := by decide +kernel
theorem ef_0 (p0 : Int32) (wD wN wL wM wR wS nN nL nR nS : Addr) (m : MethodId) : entryFrame m #[(.int p0)] maxLocals = mkF m 0 #[.val (.int p0), .unset, .unset, .unset, .unset, .unset, .unset] [] := by first | (simp [entryFrame, mkF, argsToLocals, Value.category, maxLocals]; done) | rfl
def F0 (p0 : Int32) (wD wN wL wM wR wS nN nL nR nS : Addr) : Int32 := (if (A0_7 p0 wD wN wL wM wR wS nN nL nR nS) = (0 : Int32) then (if (F3 wD wN wL) = (0 : Int32) then (1 : Int32) else (0 : Int32)) else (if (A0_7 p0 wD wN wL wM wR wS nN nL nR nS) = (1 : Int32) then (if (F3 wN wN wL) = (1 : Int32) then (1 : Int32) else (0 : Int32)) else (if (A0_7 p0 wD wN wL wM wR wS nN nL nR nS) = (2 : Int32) then (if (F3 wL wN wL) = (1 : Int32) then (1 : Int32) else (0 : Int32)) else (if (A0_7 p0 wD wN wL wM wR wS nN nL nR nS) = (3 : Int32) then (if (F3 wM wN wL) = (0 : Int32) then (1 : Int32) else (0 : Int32)) else (if (A0_7 p0 wD wN wL wM wR wS nN nL nR nS) = (4 : Int32) then (if (F3 wR wN wL) = (0 : Int32) then (1 : Int32) else (0 : Int32)) else (if (F3 wS wN wL) = (0 : Int32) then (1 : Int32) else (0 : Int32)))))))
def Q0 (Z : State) (p0 : Int32) (wD wN wL wM wR wS nN nL nR nS : Addr) (h0 : Heap) (n0 : Nat) (v : Option Value) (h : Heap) (L : List Loc) : Prop := v = some (.int (F0 p0 wD wN wL wM wR wS nN nL nR nS)) ∧ Fr n0 L
set_option maxRecDepth 65536 in
set_option maxHeartbeats 40000000 in
theorem rm0 (l : Launch) (Z : State) (a0 : Array Value) (hw : ∀ d ∈ tables_1, d.before a0 Z = true) (ws : List Jvm.Cond) (p0 : Int32) (wD wN wL wM wR wS nN nL nR nS : Addr) (h0 : Heap) (n0 : Nat) (Z0 : n0 ≤ h0.size) (S_DEFAULT : Sta Z h0 "com/example/groundweave/groundweave/protocol/pdu/Selection$Form" "DEFAULT" "Lcom/example/groundweave/groundweave/protocol/pdu/Selection$Form;" (.ref wD)) (S_NAMES : Sta Z h0 "com/example/groundweave/groundweave/protocol/pdu/Selection$Form" "NAMES" "Lcom/example/groundweave/groundweave/protocol/pdu/Selection$Form;" (.ref wN)) (S_LABELS : Sta Z h0 "com/example/groundweave/groundweave/protocol/pdu/Selection$Form" "LABELS" "Lcom/example/groundweave/groundweave/protocol/pdu/Selection$Form;" (.ref wL)) (S_LIST_NAME : Sta Z h0 "com/example/groundweave/groundweave/protocol/pdu/Selection$Form" "LIST_NAME" "Lcom/example/groundweave/groundweave/protocol/pdu/Selection$Form;" (.ref wM)) (S_RESOURCE_NAME : Sta Z h0 "com/example/groundweave/groundweave/protocol/pdu/Selection$Form" "RESOURCE_NAME" "Lcom/example/groundweave/groundweave/protocol/pdu/Selection$Form;" (.ref wR)) (S_RESOURCE_TYPE : Sta Z h0 "com/example/groundweave/groundweave/protocol/pdu/Selection$Form" "RESOURCE_TYPE" "Lcom/example/groundweave/groundweave/protocol/pdu/Selection$Form;" (.ref wS)) (S2_NAME : Sta Z h0 "com/example/groundweave/groundweave/protocol/pdu/ItemPath$Form" "NAME" "Lcom/example/groundweave/groundweave/protocol/pdu/ItemPath$Form;" (.ref nN)) (S2_LABEL : Sta Z h0 "com/example/groundweave/groundweave/protocol/pdu/ItemPath$Form" "LABEL" "Lcom/example/groundweave/groundweave/protocol/pdu/ItemPath$Form;" (.ref nL)) (E_DEFAULT : Exa Z h0 wD "com/example/groundweave/groundweave/protocol/pdu/Selection$Form") (I_DEFAULT : Fld Z h0 wD "com/example/groundweave/groundweave/protocol/pdu/Selection$Form" "itemForm" "Lcom/example/groundweave/groundweave/protocol/pdu/ItemPath$Form;" .null) (E_NAMES : Exa Z h0 wN "com/example/groundweave/groundweave/protocol/pdu/Selection$Form") (I_NAMES : Fld Z h0 wN "com/example/groundweave/groundweave/protocol/pdu/Selection$Form" "itemForm" "Lcom/example/groundweave/groundweave/protocol/pdu/ItemPath$Form;" (.ref nN)) (E_LABELS : Exa Z h0 wL "com/example/groundweave/groundweave/protocol/pdu/Selection$Form") (I_LABELS : Fld Z h0 wL "com/example/groundweave/groundweave/protocol/pdu/Selection$Form" "itemForm" "Lcom/example/groundweave/groundweave/protocol/pdu/ItemPath$Form;" (.ref nL)) (E_LIST_NAME : Exa Z h0 wM "com/example/groundweave/groundweave/protocol/pdu/Selection$Form") (I_LIST_NAME : Fld Z h0 wM "com/example/groundweave/groundweave/protocol/pdu/Selection$Form" "itemForm" "Lcom/example/groundweave/groundweave/protocol/pdu/ItemPath$Form;" .null) (E_RESOURCE_NAME : Exa Z h0 wR "com/example/groundweave/groundweave/protocol/pdu/Selection$Form") (I_RESOURCE_NAME : Fld Z h0 wR "com/example/groundweave/groundweave/protocol/pdu/Selection$Form" "itemForm" "Lcom/example/groundweave/groundweave/protocol/pdu/ItemPath$Form;" (.ref nR)) (E_RESOURCE_TYPE : Exa Z h0 wS "com/example/groundweave/groundweave/protocol/pdu/Selection$Form") (I_RESOURCE_TYPE : Fld Z h0 wS "com/example/groundweave/groundweave/protocol/pdu/Selection$Form" "itemForm" "Lcom/example/groundweave/groundweave/protocol/pdu/ItemPath$Form;" (.ref nS)) (ne_nN_nL : nN ≠ nL) (ne_nN_nR : nN ≠ nR) (ne_nN_nS : nN ≠ nS) (ne_nL_nR : nL ≠ nR) (ne_nL_nS : nL ≠ nS) (ne_wN_wD : wN ≠ wD) (ne_wN_wL : wN ≠ wL) (ne_wN_wM : wN ≠ wM) (ne_wN_wR : wN ≠ wR) (ne_wN_wS : wN ≠ wS) (ne_wL_wD : wL ≠ wD) (ne_wL_wN : wL ≠ wN) (ne_wL_wM : wL ≠ wM) (ne_wL_wR : wL ≠ wR) (ne_wL_wS : wL ≠ wS) :
    MetFree l x (head1 (Jvm.Cond.code x code maxLocals ret :: ws) room_1) (fun a U => a = #[(.int p0)] ∧ Z.Warmed39 U.vm ∧ U.heap = h0) (fun _ _ _ _ _ => True) (fun _ U o U' => ∃ v L, o = .returned v ∧ Q0 Z p0 wD wN wL wM wR wS nN nL nR nS h0 n0 v U'.heap L ∧ FrameEnd U o U' L room_1.cells room_1.slots) := by
  refine MetFree.of_bodySF (plainFor_of_name pn_com_example_groundweave_groundweave_protocol_pdu_FormIsListPinLaw) hisR ?_
  intro p e s m args below meth c s₁ Bd hml0 hP hK
  obtain ⟨rfl, hZ, hh⟩ := hP
  have hx := Bd.exec
  have hby := Bd.bytes
  have hml : c.maxLocals = 7 := hml0
  have hown : s.vm.findClass "com/example/groundweave/groundweave/protocol/pdu/FormIsListPinLaw" = some m.cls := findClass_of_methodNamed Bd.named
  have hnm := (name_of_methodNamed Bd.named Bd.method).1
  have X0 : Stand p l e room_1 s m #[(.int p0)] below meth c s₁ [] 0 0 := Stand.of_body Bd
  have e0 : s₁.heap = h0 := by rw [← hh, Bd.state]; rfl
  have N0 := Fr.nil n0
  have pre0 : ∀ t, Steps p.tables e below (s₁.setTop (mkF m 0 #[.val (.int p0), .unset, .unset, .unset, .unset, .unset, .unset] [])) t → Steps p.tables e below (s₁.setTop (entryFrame m #[(.int p0)] maxLocals)) t := fun t k => castTop (ef_0 p0 wD wN wL wM wR wS nN nL nR nS m) k
  obtain ⟨_, _, ⟨T1, L1, k1, n1⟩, -, X1, ⟨Lc1, hQ1, ll1, ly1, lz1⟩, st1⟩ := Jvm.LawKit.callS X0 hx (y := (⟨"com/example/groundweave/groundweave/protocol/pdu/FormIsListPinLaw", "pick", "(I)Lcom/example/groundweave/groundweave/protocol/pdu/Selection$Form;"⟩ : MethodName)) hown (mvT hZ (hw _ (List.mem_of_getElem? (i := 1) rfl))) (mvT hZ (hw _ (List.mem_of_getElem? (i := 2) rfl))) (mvT hZ (hw _ (List.mem_of_getElem? (i := 3) rfl))) (mvT hZ (hw _ (List.mem_of_getElem? (i := 4) rfl))) (by decide) (backOf (W := 0) (rm1 l Z a0 hw [] (A0_7 p0 wD wN wL wM wR wS nN nL nR nS) wD wN wL wM wR wS h0 n0 Z0 S_DEFAULT S_NAMES S_LABELS S_LIST_NAME S_RESOURCE_NAME S_RESOURCE_TYPE) hZ (hw _ (List.mem_of_getElem? (i := 4) rfl)) (hw _ (List.mem_of_getElem? (i := 3) rfl)) (by decide) (by decide)) (g := (mkF m 9 #[.val (.int p0), .val (.int (A0_7 p0 wD wN wL wM wR wS nN nL nR nS)), .unset, .unset, .unset, .unset, .unset] [(.int (A0_7 p0 wD wN wL wM wR wS nN nL nR nS))])) rfl (by rw [hml]; rfl) (argsL := [(.int (A0_7 p0 wD wN wL wM wR wS nN nL nR nS))]) (rest := []) (lenOf pd__I_Lcom_example_groundweave_groundweave_protocol_pdu_Selection_Form_ rfl) rfl (by show 2 * 0 + _ ≤ _; exact Nat.le_of_eq rfl) (hb hby at_9) (fun _ _ => ⟨rfl, e0, (by decide : 0 + 0 ≤ _), (by decide : 0 + 0 ≤ _)⟩)
  dsimp only [Pt.U, Pt.locs, Pt.cells, Pt.slots] at X1 ll1 ly1 lz1 st1 hQ1
  subst ll1 ly1 lz1
  obtain ⟨rfl, N1q, e1⟩ := hQ1
  have N1 := Fr.app N0 N1q
  have pre2 : ∀ t, Steps p.tables e below (T1.setTop (mkF m 13 #[.val (.int p0), .val (.int (A0_7 p0 wD wN wL wM wR wS nN nL nR nS)), .val (.ref (F1 (A0_7 p0 wD wN wL wM wR wS nN nL nR nS) wD wN wL wM wR wS)), .unset, .unset, .unset, .unset] [])) t → Steps p.tables e below (s₁.setTop (entryFrame m #[(.int p0)] maxLocals)) t := fun t kt => pre0 t (by
    show Steps p.tables e below (s₁.setTop (mkF m 0 #[.val (.int p0), .unset, .unset, .unset, .unset, .unset, .unset] [])) _
    refine XS.iloadN X0.here hx rfl (hb hby at_0) rfl ?_
    show Steps p.tables e below (s₁.setTop (mkF m 1 #[.val (.int p0), .unset, .unset, .unset, .unset, .unset, .unset] [(.int p0)])) _
    refine X0.ldcInt hx hown (mvT hZ (hw _ (List.mem_of_getElem? (i := 0) rfl))) (g := (mkF m 1 #[.val (.int p0), .unset, .unset, .unset, .unset, .unset, .unset] [(.int p0)])) rfl (hb hby at_1) _ ?_
    show Steps p.tables e below (s₁.setTop (mkF m 3 #[.val (.int p0), .unset, .unset, .unset, .unset, .unset, .unset] [(.int (2147483647 : Int32)), (.int p0)])) _
    refine XS.iand X0.here hx rfl (hb hby at_3) rfl ?_
    show Steps p.tables e below (s₁.setTop (mkF m 4 #[.val (.int p0), .unset, .unset, .unset, .unset, .unset, .unset] [(.int (p0 &&& (2147483647 : Int32)))])) _
    refine XS.bipush X0.here hx rfl (hb hby at_4) ?_
    show Steps p.tables e below (s₁.setTop (mkF m 6 #[.val (.int p0), .unset, .unset, .unset, .unset, .unset, .unset] [(.int (6 : Int32)), (.int (p0 &&& (2147483647 : Int32)))])) _
    refine iremM X0 hx rfl (hb hby at_6) rfl (by decide) ?_
    show Steps p.tables e below (s₁.setTop (mkF m 7 #[.val (.int p0), .unset, .unset, .unset, .unset, .unset, .unset] [(.int ((p0 &&& (2147483647 : Int32)) % (6 : Int32)))])) _
    refine XS.istoreN X0.here hx rfl (hb hby at_7) rfl (l' := #[.val (.int p0), .val (.int ((p0 &&& (2147483647 : Int32)) % (6 : Int32))), .unset, .unset, .unset, .unset, .unset]) rfl ?_
    show Steps p.tables e below (s₁.setTop (mkF m 8 #[.val (.int p0), .val (.int (A0_7 p0 wD wN wL wM wR wS nN nL nR nS)), .unset, .unset, .unset, .unset, .unset] [])) _
    refine XS.iloadN X0.here hx rfl (hb hby at_8) rfl ?_
    show Steps p.tables e below (s₁.setTop (mkF m 9 #[.val (.int p0), .val (.int (A0_7 p0 wD wN wL wM wR wS nN nL nR nS)), .unset, .unset, .unset, .unset, .unset] [(.int (A0_7 p0 wD wN wL wM wR wS nN nL nR nS))])) _
    refine st1 _ ?_
    show Steps p.tables e below (T1.setTop (mkF m 12 #[.val (.int p0), .val (.int (A0_7 p0 wD wN wL wM wR wS nN nL nR nS)), .unset, .unset, .unset, .unset, .unset] [(.ref (F1 (A0_7 p0 wD wN wL wM wR wS nN nL nR nS) wD wN wL wM wR wS))])) _
    refine XS.astoreN X1.here hx rfl (hb hby at_12) rfl rfl (l' := #[.val (.int p0), .val (.int (A0_7 p0 wD wN wL wM wR wS nN nL nR nS)), .val (.ref (F1 (A0_7 p0 wD wN wL wM wR wS nN nL nR nS) wD wN wL wM wR wS)), .unset, .unset, .unset, .unset]) rfl ?_
    exact kt)
  by_cases hi0 : (A0_7 p0 wD wN wL wM wR wS nN nL nR nS) = (0 : Int32)
  · have qr3 : (F1 (A0_7 p0 wD wN wL wM wR wS nN nL nR nS) wD wN wL wM wR wS) = wD := by unfold F1; simp only [if_pos hi0]
    have pre4 : ∀ t, Steps p.tables e below (T1.setTop (mkF m 13 #[.val (.int p0), .val (.int (A0_7 p0 wD wN wL wM wR wS nN nL nR nS)), .val (.ref wD), .unset, .unset, .unset, .unset] [])) t → Steps p.tables e below (s₁.setTop (entryFrame m #[(.int p0)] maxLocals)) t := fun t kt => pre2 t (by rw [qr3]; exact kt)
    obtain ⟨cq5, kq5, q5a, q5b, q5c⟩ := isOf hZ e1 E_DEFAULT
    obtain ⟨_, _, ⟨T5, L5, k5, n5⟩, -, X5, ⟨Lc5, hQ5, ll5, ly5, lz5⟩, st5⟩ := X1.virtualBack hx (y := (⟨"com/example/groundweave/groundweave/protocol/pdu/Selection$Form", "itemForm", "()Lcom/example/groundweave/groundweave/protocol/pdu/ItemPath$Form;"⟩ : MethodName)) (z := (⟨"com/example/groundweave/groundweave/protocol/pdu/Selection$Form", "itemForm", "()Lcom/example/groundweave/groundweave/protocol/pdu/ItemPath$Form;"⟩ : MethodName)) hown (mvT hZ (hw _ (List.mem_of_getElem? (i := 8) rfl))) (mvT hZ (hw _ (List.mem_of_getElem? (i := 9) rfl))) (notFace_of_selects (args := #[]) (mvT hZ (hw _ (List.mem_of_getElem? (i := 11) rfl)))) (mvT hZ (hw _ (List.mem_of_getElem? (i := 11) rfl))) (mvT hZ (hw _ (List.mem_of_getElem? (i := 10) rfl))) (by decide) (backOf (W := 0) (rm2n l Z a0 hw [] wD h0 n0 Z0 I_DEFAULT) hZ (hw _ (List.mem_of_getElem? (i := 12) rfl)) (hw _ (List.mem_of_getElem? (i := 6) rfl)) (by decide) (by decide)) q5a q5c (g := (mkF m 30 #[.val (.int p0), .val (.int (A0_7 p0 wD wN wL wM wR wS nN nL nR nS)), .val (.ref wD), .val (.int (0 : Int32)), .unset, .unset, .unset] [(.ref wD)])) rfl (by rw [hml]; rfl) (Steps.refl _) (argsL := []) (rest := []) (lenOf pd___Lcom_example_groundweave_groundweave_protocol_pdu_ItemPath_Form_ rfl) rfl (by show 2 * 0 + _ ≤ _; exact Nat.le_of_eq rfl) (hb hby at_30) (fun _ _ => ⟨rfl, e1, (by decide : 0 + 0 ≤ _), (by decide : 0 + 0 ≤ _)⟩)
    dsimp only [Pt.U, Pt.locs, Pt.cells, Pt.slots] at X5 ll5 ly5 lz5 st5 hQ5
    subst ll5 ly5 lz5
    obtain ⟨rfl, N5q, e5⟩ := hQ5
    have N5 := Fr.app N1 N5q
    obtain ⟨T6, X6, e6, st6⟩ := getS2 X5 hx hZ hown (host := "") (Or.inl (hw _ (List.mem_of_getElem? (i := 15) rfl))) Via.refl e5 S2_NAME (g := (mkF m 37 #[.val (.int p0), .val (.int (A0_7 p0 wD wN wL wM wR wS nN nL nR nS)), .val (.ref wD), .val (.int (0 : Int32)), .val .null, .unset, .unset] [.null])) rfl (hb hby at_37)
    obtain ⟨T7, X7, e7, st7⟩ := getS2 X6 hx hZ hown (host := "") (Or.inl (hw _ (List.mem_of_getElem? (i := 18) rfl))) Via.refl e6 S2_LABEL (g := (mkF m 45 #[.val (.int p0), .val (.int (A0_7 p0 wD wN wL wM wR wS nN nL nR nS)), .val (.ref wD), .val (.int (0 : Int32)), .val .null, .unset, .unset] [.null])) rfl (hb hby at_45)
    obtain ⟨cq8, kq8, q8a, q8b, q8c⟩ := isOf hZ e7 E_DEFAULT
    obtain ⟨_, _, ⟨T8, L8, k8, n8⟩, -, X8, ⟨Lc8, hQ8, ll8, ly8, lz8⟩, st8⟩ := X7.virtualBack hx (y := (⟨"com/example/groundweave/groundweave/protocol/pdu/Selection$Form", "isList", "()Z"⟩ : MethodName)) (z := (⟨"com/example/groundweave/groundweave/protocol/pdu/Selection$Form", "isList", "()Z"⟩ : MethodName)) hown (mvT hZ (hw _ (List.mem_of_getElem? (i := 20) rfl))) (mvT hZ (hw _ (List.mem_of_getElem? (i := 21) rfl))) (notFace_of_selects (args := #[]) (mvT hZ (hw _ (List.mem_of_getElem? (i := 23) rfl)))) (mvT hZ (hw _ (List.mem_of_getElem? (i := 23) rfl))) (mvT hZ (hw _ (List.mem_of_getElem? (i := 22) rfl))) (by decide) (backOf (W := 0) (rm3 l Z a0 hw [] wD wN wL h0 n0 Z0 S_NAMES S_LABELS) hZ (hw _ (List.mem_of_getElem? (i := 24) rfl)) (hw _ (List.mem_of_getElem? (i := 6) rfl)) (by decide) (by decide)) q8a q8c (g := (mkF m 59 #[.val (.int p0), .val (.int (A0_7 p0 wD wN wL wM wR wS nN nL nR nS)), .val (.ref wD), .val (.int (0 : Int32)), .val .null, .val (.int (0 : Int32)), .unset] [(.ref wD)])) rfl (by rw [hml]; rfl) (Steps.refl _) (argsL := []) (rest := []) (lenOf pd___Z rfl) rfl (by show 2 * 0 + _ ≤ _; exact Nat.le_of_eq rfl) (hb hby at_59) (fun _ _ => ⟨rfl, e7, (by decide : 0 + 0 ≤ _), (by decide : 0 + 0 ≤ _)⟩)
    dsimp only [Pt.U, Pt.locs, Pt.cells, Pt.slots] at X8 ll8 ly8 lz8 st8 hQ8
    subst ll8 ly8 lz8
    obtain ⟨rfl, N8q, e8⟩ := hQ8
    have N8 := Fr.app N5 N8q
    have pre9 : ∀ t, Steps p.tables e below (T8.setTop (mkF m 67 #[.val (.int p0), .val (.int (A0_7 p0 wD wN wL wM wR wS nN nL nR nS)), .val (.ref wD), .val (.int (0 : Int32)), .val .null, .val (.int (0 : Int32)), .val (.int (F3 wD wN wL))] [(.int (0 : Int32)), (.int (F3 wD wN wL))])) t → Steps p.tables e below (s₁.setTop (entryFrame m #[(.int p0)] maxLocals)) t := fun t kt => pre4 t (by
      show Steps p.tables e below (T1.setTop (mkF m 13 #[.val (.int p0), .val (.int (A0_7 p0 wD wN wL wM wR wS nN nL nR nS)), .val (.ref wD), .unset, .unset, .unset, .unset] [])) _
      refine XS.iloadN X1.here hx rfl (hb hby at_13) rfl ?_
      show Steps p.tables e below (T1.setTop (mkF m 14 #[.val (.int p0), .val (.int (A0_7 p0 wD wN wL wM wR wS nN nL nR nS)), .val (.ref wD), .unset, .unset, .unset, .unset] [(.int (A0_7 p0 wD wN wL wM wR wS nN nL nR nS))])) _
      refine XS.iconst X1.here hx rfl (hb hby at_14) ?_
      show Steps p.tables e below (T1.setTop (mkF m 15 #[.val (.int p0), .val (.int (A0_7 p0 wD wN wL wM wR wS nN nL nR nS)), .val (.ref wD), .unset, .unset, .unset, .unset] [(.int (1 : Int32)), (.int (A0_7 p0 wD wN wL wM wR wS nN nL nR nS))])) _
      refine XS.icmpNo X1.here hx rfl (hb hby at_15) rfl (feq (fun q => absurd (hi0.symm.trans q) (by decide))).1 ?_
      show Steps p.tables e below (T1.setTop (mkF m 18 #[.val (.int p0), .val (.int (A0_7 p0 wD wN wL wM wR wS nN nL nR nS)), .val (.ref wD), .unset, .unset, .unset, .unset] [])) _
      refine XS.iloadN X1.here hx rfl (hb hby at_18) rfl ?_
      show Steps p.tables e below (T1.setTop (mkF m 19 #[.val (.int p0), .val (.int (A0_7 p0 wD wN wL wM wR wS nN nL nR nS)), .val (.ref wD), .unset, .unset, .unset, .unset] [(.int (A0_7 p0 wD wN wL wM wR wS nN nL nR nS))])) _
      refine XS.iconst X1.here hx rfl (hb hby at_19) ?_
      show Steps p.tables e below (T1.setTop (mkF m 20 #[.val (.int p0), .val (.int (A0_7 p0 wD wN wL wM wR wS nN nL nR nS)), .val (.ref wD), .unset, .unset, .unset, .unset] [(.int (2 : Int32)), (.int (A0_7 p0 wD wN wL wM wR wS nN nL nR nS))])) _
      refine XS.icmpYes X1.here hx rfl (pc0 := 20) (pc' := 27) rfl (hb hby at_20) rfl (feq (fun q => absurd (hi0.symm.trans q) (by decide))).2 (by decide) (by decide) ?_
      show Steps p.tables e below (T1.setTop (mkF m 27 #[.val (.int p0), .val (.int (A0_7 p0 wD wN wL wM wR wS nN nL nR nS)), .val (.ref wD), .unset, .unset, .unset, .unset] [])) _
      refine XS.iconst X1.here hx rfl (hb hby at_27) ?_
      show Steps p.tables e below (T1.setTop (mkF m 28 #[.val (.int p0), .val (.int (A0_7 p0 wD wN wL wM wR wS nN nL nR nS)), .val (.ref wD), .unset, .unset, .unset, .unset] [(.int (0 : Int32))])) _
      refine XS.istoreN X1.here hx rfl (hb hby at_28) rfl (l' := #[.val (.int p0), .val (.int (A0_7 p0 wD wN wL wM wR wS nN nL nR nS)), .val (.ref wD), .val (.int (0 : Int32)), .unset, .unset, .unset]) rfl ?_
      show Steps p.tables e below (T1.setTop (mkF m 29 #[.val (.int p0), .val (.int (A0_7 p0 wD wN wL wM wR wS nN nL nR nS)), .val (.ref wD), .val (.int (0 : Int32)), .unset, .unset, .unset] [])) _
      refine XS.aloadN X1.here hx rfl (hb hby at_29) rfl rfl ?_
      show Steps p.tables e below (T1.setTop (mkF m 30 #[.val (.int p0), .val (.int (A0_7 p0 wD wN wL wM wR wS nN nL nR nS)), .val (.ref wD), .val (.int (0 : Int32)), .unset, .unset, .unset] [(.ref wD)])) _
      refine st5.trans ?_
      show Steps p.tables e below (T5.setTop (mkF m 33 #[.val (.int p0), .val (.int (A0_7 p0 wD wN wL wM wR wS nN nL nR nS)), .val (.ref wD), .val (.int (0 : Int32)), .unset, .unset, .unset] [.null])) _
      refine XS.astore X5.here hx rfl (hb hby at_33) rfl rfl (l' := #[.val (.int p0), .val (.int (A0_7 p0 wD wN wL wM wR wS nN nL nR nS)), .val (.ref wD), .val (.int (0 : Int32)), .val .null, .unset, .unset]) rfl ?_
      show Steps p.tables e below (T5.setTop (mkF m 35 #[.val (.int p0), .val (.int (A0_7 p0 wD wN wL wM wR wS nN nL nR nS)), .val (.ref wD), .val (.int (0 : Int32)), .val .null, .unset, .unset] [])) _
      refine XS.aload X5.here hx rfl (hb hby at_35) rfl rfl ?_
      show Steps p.tables e below (T5.setTop (mkF m 37 #[.val (.int p0), .val (.int (A0_7 p0 wD wN wL wM wR wS nN nL nR nS)), .val (.ref wD), .val (.int (0 : Int32)), .val .null, .unset, .unset] [.null])) _
      refine st6 _ ?_
      show Steps p.tables e below (T6.setTop (mkF m 40 #[.val (.int p0), .val (.int (A0_7 p0 wD wN wL wM wR wS nN nL nR nS)), .val (.ref wD), .val (.int (0 : Int32)), .val .null, .unset, .unset] [(.ref nN), .null])) _
      refine Jvm.RoadKit.acmp (g := (mkF m 40 #[.val (.int p0), .val (.int (A0_7 p0 wD wN wL wM wR wS nN nL nR nS)), .val (.ref wD), .val (.int (0 : Int32)), .val .null, .unset, .unset] [(.ref nN), .null])) X6 hx rfl rfl rfl (pc0 := 40) (pc' := 43) (same := false) rfl (hb hby at_40) rfl (decide_eq_false nofun) (by decide) (by decide) ?_
      show Steps p.tables e below (T6.setTop (mkF m 43 #[.val (.int p0), .val (.int (A0_7 p0 wD wN wL wM wR wS nN nL nR nS)), .val (.ref wD), .val (.int (0 : Int32)), .val .null, .unset, .unset] [])) _
      refine XS.aload X6.here hx rfl (hb hby at_43) rfl rfl ?_
      show Steps p.tables e below (T6.setTop (mkF m 45 #[.val (.int p0), .val (.int (A0_7 p0 wD wN wL wM wR wS nN nL nR nS)), .val (.ref wD), .val (.int (0 : Int32)), .val .null, .unset, .unset] [.null])) _
      refine st7 _ ?_
      show Steps p.tables e below (T7.setTop (mkF m 48 #[.val (.int p0), .val (.int (A0_7 p0 wD wN wL wM wR wS nN nL nR nS)), .val (.ref wD), .val (.int (0 : Int32)), .val .null, .unset, .unset] [(.ref nL), .null])) _
      refine Jvm.RoadKit.acmp (g := (mkF m 48 #[.val (.int p0), .val (.int (A0_7 p0 wD wN wL wM wR wS nN nL nR nS)), .val (.ref wD), .val (.int (0 : Int32)), .val .null, .unset, .unset] [(.ref nL), .null])) X7 hx rfl rfl rfl (pc0 := 48) (pc' := 55) (same := false) rfl (hb hby at_48) rfl (decide_eq_false nofun) (by decide) (by decide) ?_
      show Steps p.tables e below (T7.setTop (mkF m 55 #[.val (.int p0), .val (.int (A0_7 p0 wD wN wL wM wR wS nN nL nR nS)), .val (.ref wD), .val (.int (0 : Int32)), .val .null, .unset, .unset] [])) _
      refine XS.iconst X7.here hx rfl (hb hby at_55) ?_
      show Steps p.tables e below (T7.setTop (mkF m 56 #[.val (.int p0), .val (.int (A0_7 p0 wD wN wL wM wR wS nN nL nR nS)), .val (.ref wD), .val (.int (0 : Int32)), .val .null, .unset, .unset] [(.int (0 : Int32))])) _
      refine XS.istore X7.here hx rfl (hb hby at_56) rfl (l' := #[.val (.int p0), .val (.int (A0_7 p0 wD wN wL wM wR wS nN nL nR nS)), .val (.ref wD), .val (.int (0 : Int32)), .val .null, .val (.int (0 : Int32)), .unset]) rfl ?_
      show Steps p.tables e below (T7.setTop (mkF m 58 #[.val (.int p0), .val (.int (A0_7 p0 wD wN wL wM wR wS nN nL nR nS)), .val (.ref wD), .val (.int (0 : Int32)), .val .null, .val (.int (0 : Int32)), .unset] [])) _
      refine XS.aloadN X7.here hx rfl (hb hby at_58) rfl rfl ?_
      show Steps p.tables e below (T7.setTop (mkF m 59 #[.val (.int p0), .val (.int (A0_7 p0 wD wN wL wM wR wS nN nL nR nS)), .val (.ref wD), .val (.int (0 : Int32)), .val .null, .val (.int (0 : Int32)), .unset] [(.ref wD)])) _
      refine st8.trans ?_
      show Steps p.tables e below (T8.setTop (mkF m 62 #[.val (.int p0), .val (.int (A0_7 p0 wD wN wL wM wR wS nN nL nR nS)), .val (.ref wD), .val (.int (0 : Int32)), .val .null, .val (.int (0 : Int32)), .unset] [(.int (F3 wD wN wL))])) _
      refine XS.istore X8.here hx rfl (hb hby at_62) rfl (l' := #[.val (.int p0), .val (.int (A0_7 p0 wD wN wL wM wR wS nN nL nR nS)), .val (.ref wD), .val (.int (0 : Int32)), .val .null, .val (.int (0 : Int32)), .val (.int (F3 wD wN wL))]) rfl ?_
      show Steps p.tables e below (T8.setTop (mkF m 64 #[.val (.int p0), .val (.int (A0_7 p0 wD wN wL wM wR wS nN nL nR nS)), .val (.ref wD), .val (.int (0 : Int32)), .val .null, .val (.int (0 : Int32)), .val (.int (F3 wD wN wL))] [])) _
      refine XS.iload X8.here hx rfl (hb hby at_64) rfl ?_
      show Steps p.tables e below (T8.setTop (mkF m 66 #[.val (.int p0), .val (.int (A0_7 p0 wD wN wL wM wR wS nN nL nR nS)), .val (.ref wD), .val (.int (0 : Int32)), .val .null, .val (.int (0 : Int32)), .val (.int (F3 wD wN wL))] [(.int (F3 wD wN wL))])) _
      refine XS.iloadN X8.here hx rfl (hb hby at_66) rfl ?_
      exact kt)
    by_cases hc67 : (F3 wD wN wL) = (0 : Int32)
    · obtain ⟨fs, hr, hrun, hended, hW, hsame⟩ := X8.leave (v := some (.int (1 : Int32))) (fun h => by rw [Bd.returns] at h; cases h)
      refine ⟨_, _, pre9 _ ?_, hrun, hended, _, _, rfl, ?_, ⟨_, rfl⟩, hW, hsame.mono (by decide) (by decide)⟩
      · show Steps p.tables e below (T8.setTop (mkF m 67 #[.val (.int p0), .val (.int (A0_7 p0 wD wN wL wM wR wS nN nL nR nS)), .val (.ref wD), .val (.int (0 : Int32)), .val .null, .val (.int (0 : Int32)), .val (.int (F3 wD wN wL))] [(.int (0 : Int32)), (.int (F3 wD wN wL))])) _
        refine XS.icmpNo X8.here hx rfl (hb hby at_67) rfl (teq hc67).2 ?_
        show Steps p.tables e below (T8.setTop (mkF m 70 #[.val (.int p0), .val (.int (A0_7 p0 wD wN wL wM wR wS nN nL nR nS)), .val (.ref wD), .val (.int (0 : Int32)), .val .null, .val (.int (0 : Int32)), .val (.int (F3 wD wN wL))] [])) _
        refine XS.iload X8.here hx rfl (hb hby at_70) rfl ?_
        show Steps p.tables e below (T8.setTop (mkF m 72 #[.val (.int p0), .val (.int (A0_7 p0 wD wN wL wM wR wS nN nL nR nS)), .val (.ref wD), .val (.int (0 : Int32)), .val .null, .val (.int (0 : Int32)), .val (.int (F3 wD wN wL))] [(.int (F3 wD wN wL))])) _
        refine XS.iload X8.here hx rfl (hb hby at_72) rfl ?_
        show Steps p.tables e below (T8.setTop (mkF m 74 #[.val (.int p0), .val (.int (A0_7 p0 wD wN wL wM wR wS nN nL nR nS)), .val (.ref wD), .val (.int (0 : Int32)), .val .null, .val (.int (0 : Int32)), .val (.int (F3 wD wN wL))] [(.int (0 : Int32)), (.int (F3 wD wN wL))])) _
        refine XS.icmpNo X8.here hx rfl (hb hby at_74) rfl (teq hc67).2 ?_
        show Steps p.tables e below (T8.setTop (mkF m 77 #[.val (.int p0), .val (.int (A0_7 p0 wD wN wL wM wR wS nN nL nR nS)), .val (.ref wD), .val (.int (0 : Int32)), .val .null, .val (.int (0 : Int32)), .val (.int (F3 wD wN wL))] [])) _
        refine XS.iconst X8.here hx rfl (hb hby at_77) ?_
        show Steps p.tables e below (T8.setTop (mkF m 78 #[.val (.int p0), .val (.int (A0_7 p0 wD wN wL wM wR wS nN nL nR nS)), .val (.ref wD), .val (.int (0 : Int32)), .val .null, .val (.int (0 : Int32)), .val (.int (F3 wD wN wL))] [(.int (1 : Int32))])) _
        refine XS.goto X8.here hx rfl (pc0 := 78) (pc' := 82) rfl (hb hby at_78) (by decide) (by decide) ?_
        show Steps p.tables e below (T8.setTop (mkF m 82 #[.val (.int p0), .val (.int (A0_7 p0 wD wN wL wM wR wS nN nL nR nS)), .val (.ref wD), .val (.int (0 : Int32)), .val .null, .val (.int (0 : Int32)), .val (.int (F3 wD wN wL))] [(.int (1 : Int32))])) _
        exact retN X8 hx (t := .boolean) Bd.returns (by simp) (hb hby at_82) hr
      · show Q0 Z p0 wD wN wL wM wR wS nN nL nR nS h0 n0 _ T8.heap _
        rw [e8]
        exact ⟨(by unfold F0; simp only [if_pos hi0, if_pos hc67]), N8⟩
    · obtain ⟨fs, hr, hrun, hended, hW, hsame⟩ := X8.leave (v := some (.int (0 : Int32))) (fun h => by rw [Bd.returns] at h; cases h)
      refine ⟨_, _, pre9 _ ?_, hrun, hended, _, _, rfl, ?_, ⟨_, rfl⟩, hW, hsame.mono (by decide) (by decide)⟩
      · show Steps p.tables e below (T8.setTop (mkF m 67 #[.val (.int p0), .val (.int (A0_7 p0 wD wN wL wM wR wS nN nL nR nS)), .val (.ref wD), .val (.int (0 : Int32)), .val .null, .val (.int (0 : Int32)), .val (.int (F3 wD wN wL))] [(.int (0 : Int32)), (.int (F3 wD wN wL))])) _
        refine XS.icmpYes X8.here hx rfl (pc0 := 67) (pc' := 81) rfl (hb hby at_67) rfl (feq hc67).2 (by decide) (by decide) ?_
        show Steps p.tables e below (T8.setTop (mkF m 81 #[.val (.int p0), .val (.int (A0_7 p0 wD wN wL wM wR wS nN nL nR nS)), .val (.ref wD), .val (.int (0 : Int32)), .val .null, .val (.int (0 : Int32)), .val (.int (F3 wD wN wL))] [])) _
        refine XS.iconst X8.here hx rfl (hb hby at_81) ?_
        show Steps p.tables e below (T8.setTop (mkF m 82 #[.val (.int p0), .val (.int (A0_7 p0 wD wN wL wM wR wS nN nL nR nS)), .val (.ref wD), .val (.int (0 : Int32)), .val .null, .val (.int (0 : Int32)), .val (.int (F3 wD wN wL))] [(.int (0 : Int32))])) _
        exact retN X8 hx (t := .boolean) Bd.returns (by simp) (hb hby at_82) hr
      · show Q0 Z p0 wD wN wL wM wR wS nN nL nR nS h0 n0 _ T8.heap _
        rw [e8]
        exact ⟨(by unfold F0; simp only [if_pos hi0, if_neg hc67]), N8⟩
  · by_cases hi1 : (A0_7 p0 wD wN wL wM wR wS nN nL nR nS) = (1 : Int32)
    · have qr10 : (F1 (A0_7 p0 wD wN wL wM wR wS nN nL nR nS) wD wN wL wM wR wS) = wN := by unfold F1; simp only [if_neg hi0, if_pos hi1]
      have pre11 : ∀ t, Steps p.tables e below (T1.setTop (mkF m 13 #[.val (.int p0), .val (.int (A0_7 p0 wD wN wL wM wR wS nN nL nR nS)), .val (.ref wN), .unset, .unset, .unset, .unset] [])) t → Steps p.tables e below (s₁.setTop (entryFrame m #[(.int p0)] maxLocals)) t := fun t kt => pre2 t (by rw [qr10]; exact kt)
      obtain ⟨cq12, kq12, q12a, q12b, q12c⟩ := isOf hZ e1 E_NAMES
      obtain ⟨_, _, ⟨T12, L12, k12, n12⟩, -, X12, ⟨Lc12, hQ12, ll12, ly12, lz12⟩, st12⟩ := X1.virtualBack hx (y := (⟨"com/example/groundweave/groundweave/protocol/pdu/Selection$Form", "itemForm", "()Lcom/example/groundweave/groundweave/protocol/pdu/ItemPath$Form;"⟩ : MethodName)) (z := (⟨"com/example/groundweave/groundweave/protocol/pdu/Selection$Form", "itemForm", "()Lcom/example/groundweave/groundweave/protocol/pdu/ItemPath$Form;"⟩ : MethodName)) hown (mvT hZ (hw _ (List.mem_of_getElem? (i := 8) rfl))) (mvT hZ (hw _ (List.mem_of_getElem? (i := 9) rfl))) (notFace_of_selects (args := #[]) (mvT hZ (hw _ (List.mem_of_getElem? (i := 11) rfl)))) (mvT hZ (hw _ (List.mem_of_getElem? (i := 11) rfl))) (mvT hZ (hw _ (List.mem_of_getElem? (i := 10) rfl))) (by decide) (backOf (W := 0) (rm2r l Z a0 hw [] wN nN h0 n0 Z0 I_NAMES) hZ (hw _ (List.mem_of_getElem? (i := 12) rfl)) (hw _ (List.mem_of_getElem? (i := 6) rfl)) (by decide) (by decide)) q12a q12c (g := (mkF m 30 #[.val (.int p0), .val (.int (A0_7 p0 wD wN wL wM wR wS nN nL nR nS)), .val (.ref wN), .val (.int (1 : Int32)), .unset, .unset, .unset] [(.ref wN)])) rfl (by rw [hml]; rfl) (Steps.refl _) (argsL := []) (rest := []) (lenOf pd___Lcom_example_groundweave_groundweave_protocol_pdu_ItemPath_Form_ rfl) rfl (by show 2 * 0 + _ ≤ _; exact Nat.le_of_eq rfl) (hb hby at_30) (fun _ _ => ⟨rfl, e1, (by decide : 0 + 0 ≤ _), (by decide : 0 + 0 ≤ _)⟩)
      dsimp only [Pt.U, Pt.locs, Pt.cells, Pt.slots] at X12 ll12 ly12 lz12 st12 hQ12
      subst ll12 ly12 lz12
      obtain ⟨rfl, N12q, e12⟩ := hQ12
      have N12 := Fr.app N1 N12q
      obtain ⟨T13, X13, e13, st13⟩ := getS2 X12 hx hZ hown (host := "") (Or.inl (hw _ (List.mem_of_getElem? (i := 15) rfl))) Via.refl e12 S2_NAME (g := (mkF m 37 #[.val (.int p0), .val (.int (A0_7 p0 wD wN wL wM wR wS nN nL nR nS)), .val (.ref wN), .val (.int (1 : Int32)), .val (.ref nN), .unset, .unset] [(.ref nN)])) rfl (hb hby at_37)
      obtain ⟨cq14, kq14, q14a, q14b, q14c⟩ := isOf hZ e13 E_NAMES
      obtain ⟨_, _, ⟨T14, L14, k14, n14⟩, -, X14, ⟨Lc14, hQ14, ll14, ly14, lz14⟩, st14⟩ := X13.virtualBack hx (y := (⟨"com/example/groundweave/groundweave/protocol/pdu/Selection$Form", "isList", "()Z"⟩ : MethodName)) (z := (⟨"com/example/groundweave/groundweave/protocol/pdu/Selection$Form", "isList", "()Z"⟩ : MethodName)) hown (mvT hZ (hw _ (List.mem_of_getElem? (i := 20) rfl))) (mvT hZ (hw _ (List.mem_of_getElem? (i := 21) rfl))) (notFace_of_selects (args := #[]) (mvT hZ (hw _ (List.mem_of_getElem? (i := 23) rfl)))) (mvT hZ (hw _ (List.mem_of_getElem? (i := 23) rfl))) (mvT hZ (hw _ (List.mem_of_getElem? (i := 22) rfl))) (by decide) (backOf (W := 0) (rm3 l Z a0 hw [] wN wN wL h0 n0 Z0 S_NAMES S_LABELS) hZ (hw _ (List.mem_of_getElem? (i := 24) rfl)) (hw _ (List.mem_of_getElem? (i := 6) rfl)) (by decide) (by decide)) q14a q14c (g := (mkF m 59 #[.val (.int p0), .val (.int (A0_7 p0 wD wN wL wM wR wS nN nL nR nS)), .val (.ref wN), .val (.int (1 : Int32)), .val (.ref nN), .val (.int (1 : Int32)), .unset] [(.ref wN)])) rfl (by rw [hml]; rfl) (Steps.refl _) (argsL := []) (rest := []) (lenOf pd___Z rfl) rfl (by show 2 * 0 + _ ≤ _; exact Nat.le_of_eq rfl) (hb hby at_59) (fun _ _ => ⟨rfl, e13, (by decide : 0 + 0 ≤ _), (by decide : 0 + 0 ≤ _)⟩)
      dsimp only [Pt.U, Pt.locs, Pt.cells, Pt.slots] at X14 ll14 ly14 lz14 st14 hQ14
      subst ll14 ly14 lz14
      obtain ⟨rfl, N14q, e14⟩ := hQ14
      have N14 := Fr.app N12 N14q
      have pre15 : ∀ t, Steps p.tables e below (T14.setTop (mkF m 67 #[.val (.int p0), .val (.int (A0_7 p0 wD wN wL wM wR wS nN nL nR nS)), .val (.ref wN), .val (.int (1 : Int32)), .val (.ref nN), .val (.int (1 : Int32)), .val (.int (F3 wN wN wL))] [(.int (1 : Int32)), (.int (F3 wN wN wL))])) t → Steps p.tables e below (s₁.setTop (entryFrame m #[(.int p0)] maxLocals)) t := fun t kt => pre11 t (by
        show Steps p.tables e below (T1.setTop (mkF m 13 #[.val (.int p0), .val (.int (A0_7 p0 wD wN wL wM wR wS nN nL nR nS)), .val (.ref wN), .unset, .unset, .unset, .unset] [])) _
        refine XS.iloadN X1.here hx rfl (hb hby at_13) rfl ?_
        show Steps p.tables e below (T1.setTop (mkF m 14 #[.val (.int p0), .val (.int (A0_7 p0 wD wN wL wM wR wS nN nL nR nS)), .val (.ref wN), .unset, .unset, .unset, .unset] [(.int (A0_7 p0 wD wN wL wM wR wS nN nL nR nS))])) _
        refine XS.iconst X1.here hx rfl (hb hby at_14) ?_
        show Steps p.tables e below (T1.setTop (mkF m 15 #[.val (.int p0), .val (.int (A0_7 p0 wD wN wL wM wR wS nN nL nR nS)), .val (.ref wN), .unset, .unset, .unset, .unset] [(.int (1 : Int32)), (.int (A0_7 p0 wD wN wL wM wR wS nN nL nR nS))])) _
        refine XS.icmpYes X1.here hx rfl (pc0 := 15) (pc' := 23) rfl (hb hby at_15) rfl (teq hi1).1 (by decide) (by decide) ?_
        show Steps p.tables e below (T1.setTop (mkF m 23 #[.val (.int p0), .val (.int (A0_7 p0 wD wN wL wM wR wS nN nL nR nS)), .val (.ref wN), .unset, .unset, .unset, .unset] [])) _
        refine XS.iconst X1.here hx rfl (hb hby at_23) ?_
        show Steps p.tables e below (T1.setTop (mkF m 24 #[.val (.int p0), .val (.int (A0_7 p0 wD wN wL wM wR wS nN nL nR nS)), .val (.ref wN), .unset, .unset, .unset, .unset] [(.int (1 : Int32))])) _
        refine XS.goto X1.here hx rfl (pc0 := 24) (pc' := 28) rfl (hb hby at_24) (by decide) (by decide) ?_
        show Steps p.tables e below (T1.setTop (mkF m 28 #[.val (.int p0), .val (.int (A0_7 p0 wD wN wL wM wR wS nN nL nR nS)), .val (.ref wN), .unset, .unset, .unset, .unset] [(.int (1 : Int32))])) _
        refine XS.istoreN X1.here hx rfl (hb hby at_28) rfl (l' := #[.val (.int p0), .val (.int (A0_7 p0 wD wN wL wM wR wS nN nL nR nS)), .val (.ref wN), .val (.int (1 : Int32)), .unset, .unset, .unset]) rfl ?_
        show Steps p.tables e below (T1.setTop (mkF m 29 #[.val (.int p0), .val (.int (A0_7 p0 wD wN wL wM wR wS nN nL nR nS)), .val (.ref wN), .val (.int (1 : Int32)), .unset, .unset, .unset] [])) _
        refine XS.aloadN X1.here hx rfl (hb hby at_29) rfl rfl ?_
        show Steps p.tables e below (T1.setTop (mkF m 30 #[.val (.int p0), .val (.int (A0_7 p0 wD wN wL wM wR wS nN nL nR nS)), .val (.ref wN), .val (.int (1 : Int32)), .unset, .unset, .unset] [(.ref wN)])) _
        refine st12.trans ?_
        show Steps p.tables e below (T12.setTop (mkF m 33 #[.val (.int p0), .val (.int (A0_7 p0 wD wN wL wM wR wS nN nL nR nS)), .val (.ref wN), .val (.int (1 : Int32)), .unset, .unset, .unset] [(.ref nN)])) _
        refine XS.astore X12.here hx rfl (hb hby at_33) rfl rfl (l' := #[.val (.int p0), .val (.int (A0_7 p0 wD wN wL wM wR wS nN nL nR nS)), .val (.ref wN), .val (.int (1 : Int32)), .val (.ref nN), .unset, .unset]) rfl ?_
        show Steps p.tables e below (T12.setTop (mkF m 35 #[.val (.int p0), .val (.int (A0_7 p0 wD wN wL wM wR wS nN nL nR nS)), .val (.ref wN), .val (.int (1 : Int32)), .val (.ref nN), .unset, .unset] [])) _
        refine XS.aload X12.here hx rfl (hb hby at_35) rfl rfl ?_
        show Steps p.tables e below (T12.setTop (mkF m 37 #[.val (.int p0), .val (.int (A0_7 p0 wD wN wL wM wR wS nN nL nR nS)), .val (.ref wN), .val (.int (1 : Int32)), .val (.ref nN), .unset, .unset] [(.ref nN)])) _
        refine st13 _ ?_
        show Steps p.tables e below (T13.setTop (mkF m 40 #[.val (.int p0), .val (.int (A0_7 p0 wD wN wL wM wR wS nN nL nR nS)), .val (.ref wN), .val (.int (1 : Int32)), .val (.ref nN), .unset, .unset] [(.ref nN), (.ref nN)])) _
        refine Jvm.RoadKit.acmp (g := (mkF m 40 #[.val (.int p0), .val (.int (A0_7 p0 wD wN wL wM wR wS nN nL nR nS)), .val (.ref wN), .val (.int (1 : Int32)), .val (.ref nN), .unset, .unset] [(.ref nN), (.ref nN)])) X13 hx rfl rfl rfl (pc0 := 40) (pc' := 51) (same := true) rfl (hb hby at_40) rfl (decide_eq_true rfl) (by decide) (by decide) ?_
        show Steps p.tables e below (T13.setTop (mkF m 51 #[.val (.int p0), .val (.int (A0_7 p0 wD wN wL wM wR wS nN nL nR nS)), .val (.ref wN), .val (.int (1 : Int32)), .val (.ref nN), .unset, .unset] [])) _
        refine XS.iconst X13.here hx rfl (hb hby at_51) ?_
        show Steps p.tables e below (T13.setTop (mkF m 52 #[.val (.int p0), .val (.int (A0_7 p0 wD wN wL wM wR wS nN nL nR nS)), .val (.ref wN), .val (.int (1 : Int32)), .val (.ref nN), .unset, .unset] [(.int (1 : Int32))])) _
        refine XS.goto X13.here hx rfl (pc0 := 52) (pc' := 56) rfl (hb hby at_52) (by decide) (by decide) ?_
        show Steps p.tables e below (T13.setTop (mkF m 56 #[.val (.int p0), .val (.int (A0_7 p0 wD wN wL wM wR wS nN nL nR nS)), .val (.ref wN), .val (.int (1 : Int32)), .val (.ref nN), .unset, .unset] [(.int (1 : Int32))])) _
        refine XS.istore X13.here hx rfl (hb hby at_56) rfl (l' := #[.val (.int p0), .val (.int (A0_7 p0 wD wN wL wM wR wS nN nL nR nS)), .val (.ref wN), .val (.int (1 : Int32)), .val (.ref nN), .val (.int (1 : Int32)), .unset]) rfl ?_
        show Steps p.tables e below (T13.setTop (mkF m 58 #[.val (.int p0), .val (.int (A0_7 p0 wD wN wL wM wR wS nN nL nR nS)), .val (.ref wN), .val (.int (1 : Int32)), .val (.ref nN), .val (.int (1 : Int32)), .unset] [])) _
        refine XS.aloadN X13.here hx rfl (hb hby at_58) rfl rfl ?_
        show Steps p.tables e below (T13.setTop (mkF m 59 #[.val (.int p0), .val (.int (A0_7 p0 wD wN wL wM wR wS nN nL nR nS)), .val (.ref wN), .val (.int (1 : Int32)), .val (.ref nN), .val (.int (1 : Int32)), .unset] [(.ref wN)])) _
        refine st14.trans ?_
        show Steps p.tables e below (T14.setTop (mkF m 62 #[.val (.int p0), .val (.int (A0_7 p0 wD wN wL wM wR wS nN nL nR nS)), .val (.ref wN), .val (.int (1 : Int32)), .val (.ref nN), .val (.int (1 : Int32)), .unset] [(.int (F3 wN wN wL))])) _
        refine XS.istore X14.here hx rfl (hb hby at_62) rfl (l' := #[.val (.int p0), .val (.int (A0_7 p0 wD wN wL wM wR wS nN nL nR nS)), .val (.ref wN), .val (.int (1 : Int32)), .val (.ref nN), .val (.int (1 : Int32)), .val (.int (F3 wN wN wL))]) rfl ?_
        show Steps p.tables e below (T14.setTop (mkF m 64 #[.val (.int p0), .val (.int (A0_7 p0 wD wN wL wM wR wS nN nL nR nS)), .val (.ref wN), .val (.int (1 : Int32)), .val (.ref nN), .val (.int (1 : Int32)), .val (.int (F3 wN wN wL))] [])) _
        refine XS.iload X14.here hx rfl (hb hby at_64) rfl ?_
        show Steps p.tables e below (T14.setTop (mkF m 66 #[.val (.int p0), .val (.int (A0_7 p0 wD wN wL wM wR wS nN nL nR nS)), .val (.ref wN), .val (.int (1 : Int32)), .val (.ref nN), .val (.int (1 : Int32)), .val (.int (F3 wN wN wL))] [(.int (F3 wN wN wL))])) _
        refine XS.iloadN X14.here hx rfl (hb hby at_66) rfl ?_
        exact kt)
      by_cases hc67 : (F3 wN wN wL) = (1 : Int32)
      · obtain ⟨fs, hr, hrun, hended, hW, hsame⟩ := X14.leave (v := some (.int (1 : Int32))) (fun h => by rw [Bd.returns] at h; cases h)
        refine ⟨_, _, pre15 _ ?_, hrun, hended, _, _, rfl, ?_, ⟨_, rfl⟩, hW, hsame.mono (by decide) (by decide)⟩
        · show Steps p.tables e below (T14.setTop (mkF m 67 #[.val (.int p0), .val (.int (A0_7 p0 wD wN wL wM wR wS nN nL nR nS)), .val (.ref wN), .val (.int (1 : Int32)), .val (.ref nN), .val (.int (1 : Int32)), .val (.int (F3 wN wN wL))] [(.int (1 : Int32)), (.int (F3 wN wN wL))])) _
          refine XS.icmpNo X14.here hx rfl (hb hby at_67) rfl (teq hc67).2 ?_
          show Steps p.tables e below (T14.setTop (mkF m 70 #[.val (.int p0), .val (.int (A0_7 p0 wD wN wL wM wR wS nN nL nR nS)), .val (.ref wN), .val (.int (1 : Int32)), .val (.ref nN), .val (.int (1 : Int32)), .val (.int (F3 wN wN wL))] [])) _
          refine XS.iload X14.here hx rfl (hb hby at_70) rfl ?_
          show Steps p.tables e below (T14.setTop (mkF m 72 #[.val (.int p0), .val (.int (A0_7 p0 wD wN wL wM wR wS nN nL nR nS)), .val (.ref wN), .val (.int (1 : Int32)), .val (.ref nN), .val (.int (1 : Int32)), .val (.int (F3 wN wN wL))] [(.int (F3 wN wN wL))])) _
          refine XS.iload X14.here hx rfl (hb hby at_72) rfl ?_
          show Steps p.tables e below (T14.setTop (mkF m 74 #[.val (.int p0), .val (.int (A0_7 p0 wD wN wL wM wR wS nN nL nR nS)), .val (.ref wN), .val (.int (1 : Int32)), .val (.ref nN), .val (.int (1 : Int32)), .val (.int (F3 wN wN wL))] [(.int (1 : Int32)), (.int (F3 wN wN wL))])) _
          refine XS.icmpNo X14.here hx rfl (hb hby at_74) rfl (teq hc67).2 ?_
          show Steps p.tables e below (T14.setTop (mkF m 77 #[.val (.int p0), .val (.int (A0_7 p0 wD wN wL wM wR wS nN nL nR nS)), .val (.ref wN), .val (.int (1 : Int32)), .val (.ref nN), .val (.int (1 : Int32)), .val (.int (F3 wN wN wL))] [])) _
          refine XS.iconst X14.here hx rfl (hb hby at_77) ?_
          show Steps p.tables e below (T14.setTop (mkF m 78 #[.val (.int p0), .val (.int (A0_7 p0 wD wN wL wM wR wS nN nL nR nS)), .val (.ref wN), .val (.int (1 : Int32)), .val (.ref nN), .val (.int (1 : Int32)), .val (.int (F3 wN wN wL))] [(.int (1 : Int32))])) _
          refine XS.goto X14.here hx rfl (pc0 := 78) (pc' := 82) rfl (hb hby at_78) (by decide) (by decide) ?_
          show Steps p.tables e below (T14.setTop (mkF m 82 #[.val (.int p0), .val (.int (A0_7 p0 wD wN wL wM wR wS nN nL nR nS)), .val (.ref wN), .val (.int (1 : Int32)), .val (.ref nN), .val (.int (1 : Int32)), .val (.int (F3 wN wN wL))] [(.int (1 : Int32))])) _
          exact retN X14 hx (t := .boolean) Bd.returns (by simp) (hb hby at_82) hr
        · show Q0 Z p0 wD wN wL wM wR wS nN nL nR nS h0 n0 _ T14.heap _
          rw [e14]
          exact ⟨(by unfold F0; simp only [if_neg hi0, if_pos hi1, if_pos hc67]), N14⟩
      · obtain ⟨fs, hr, hrun, hended, hW, hsame⟩ := X14.leave (v := some (.int (0 : Int32))) (fun h => by rw [Bd.returns] at h; cases h)
        refine ⟨_, _, pre15 _ ?_, hrun, hended, _, _, rfl, ?_, ⟨_, rfl⟩, hW, hsame.mono (by decide) (by decide)⟩
        · show Steps p.tables e below (T14.setTop (mkF m 67 #[.val (.int p0), .val (.int (A0_7 p0 wD wN wL wM wR wS nN nL nR nS)), .val (.ref wN), .val (.int (1 : Int32)), .val (.ref nN), .val (.int (1 : Int32)), .val (.int (F3 wN wN wL))] [(.int (1 : Int32)), (.int (F3 wN wN wL))])) _
          refine XS.icmpYes X14.here hx rfl (pc0 := 67) (pc' := 81) rfl (hb hby at_67) rfl (feq hc67).2 (by decide) (by decide) ?_
          show Steps p.tables e below (T14.setTop (mkF m 81 #[.val (.int p0), .val (.int (A0_7 p0 wD wN wL wM wR wS nN nL nR nS)), .val (.ref wN), .val (.int (1 : Int32)), .val (.ref nN), .val (.int (1 : Int32)), .val (.int (F3 wN wN wL))] [])) _
          refine XS.iconst X14.here hx rfl (hb hby at_81) ?_
          show Steps p.tables e below (T14.setTop (mkF m 82 #[.val (.int p0), .val (.int (A0_7 p0 wD wN wL wM wR wS nN nL nR nS)), .val (.ref wN), .val (.int (1 : Int32)), .val (.ref nN), .val (.int (1 : Int32)), .val (.int (F3 wN wN wL))] [(.int (0 : Int32))])) _
          exact retN X14 hx (t := .boolean) Bd.returns (by simp) (hb hby at_82) hr
        · show Q0 Z p0 wD wN wL wM wR wS nN nL nR nS h0 n0 _ T14.heap _
          rw [e14]
          exact ⟨(by unfold F0; simp only [if_neg hi0, if_pos hi1, if_neg hc67]), N14⟩
    · by_cases hi2 : (A0_7 p0 wD wN wL wM wR wS nN nL nR nS) = (2 : Int32)
      · have qr16 : (F1 (A0_7 p0 wD wN wL wM wR wS nN nL nR nS) wD wN wL wM wR wS) = wL := by unfold F1; simp only [if_neg hi0, if_neg hi1, if_pos hi2]
        have pre17 : ∀ t, Steps p.tables e below (T1.setTop (mkF m 13 #[.val (.int p0), .val (.int (A0_7 p0 wD wN wL wM wR wS nN nL nR nS)), .val (.ref wL), .unset, .unset, .unset, .unset] [])) t → Steps p.tables e below (s₁.setTop (entryFrame m #[(.int p0)] maxLocals)) t := fun t kt => pre2 t (by rw [qr16]; exact kt)
        obtain ⟨cq18, kq18, q18a, q18b, q18c⟩ := isOf hZ e1 E_LABELS
        obtain ⟨_, _, ⟨T18, L18, k18, n18⟩, -, X18, ⟨Lc18, hQ18, ll18, ly18, lz18⟩, st18⟩ := X1.virtualBack hx (y := (⟨"com/example/groundweave/groundweave/protocol/pdu/Selection$Form", "itemForm", "()Lcom/example/groundweave/groundweave/protocol/pdu/ItemPath$Form;"⟩ : MethodName)) (z := (⟨"com/example/groundweave/groundweave/protocol/pdu/Selection$Form", "itemForm", "()Lcom/example/groundweave/groundweave/protocol/pdu/ItemPath$Form;"⟩ : MethodName)) hown (mvT hZ (hw _ (List.mem_of_getElem? (i := 8) rfl))) (mvT hZ (hw _ (List.mem_of_getElem? (i := 9) rfl))) (notFace_of_selects (args := #[]) (mvT hZ (hw _ (List.mem_of_getElem? (i := 11) rfl)))) (mvT hZ (hw _ (List.mem_of_getElem? (i := 11) rfl))) (mvT hZ (hw _ (List.mem_of_getElem? (i := 10) rfl))) (by decide) (backOf (W := 0) (rm2r l Z a0 hw [] wL nL h0 n0 Z0 I_LABELS) hZ (hw _ (List.mem_of_getElem? (i := 12) rfl)) (hw _ (List.mem_of_getElem? (i := 6) rfl)) (by decide) (by decide)) q18a q18c (g := (mkF m 30 #[.val (.int p0), .val (.int (A0_7 p0 wD wN wL wM wR wS nN nL nR nS)), .val (.ref wL), .val (.int (1 : Int32)), .unset, .unset, .unset] [(.ref wL)])) rfl (by rw [hml]; rfl) (Steps.refl _) (argsL := []) (rest := []) (lenOf pd___Lcom_example_groundweave_groundweave_protocol_pdu_ItemPath_Form_ rfl) rfl (by show 2 * 0 + _ ≤ _; exact Nat.le_of_eq rfl) (hb hby at_30) (fun _ _ => ⟨rfl, e1, (by decide : 0 + 0 ≤ _), (by decide : 0 + 0 ≤ _)⟩)
        dsimp only [Pt.U, Pt.locs, Pt.cells, Pt.slots] at X18 ll18 ly18 lz18 st18 hQ18
        subst ll18 ly18 lz18
        obtain ⟨rfl, N18q, e18⟩ := hQ18
        have N18 := Fr.app N1 N18q
        obtain ⟨T19, X19, e19, st19⟩ := getS2 X18 hx hZ hown (host := "") (Or.inl (hw _ (List.mem_of_getElem? (i := 15) rfl))) Via.refl e18 S2_NAME (g := (mkF m 37 #[.val (.int p0), .val (.int (A0_7 p0 wD wN wL wM wR wS nN nL nR nS)), .val (.ref wL), .val (.int (1 : Int32)), .val (.ref nL), .unset, .unset] [(.ref nL)])) rfl (hb hby at_37)
        obtain ⟨T20, X20, e20, st20⟩ := getS2 X19 hx hZ hown (host := "") (Or.inl (hw _ (List.mem_of_getElem? (i := 18) rfl))) Via.refl e19 S2_LABEL (g := (mkF m 45 #[.val (.int p0), .val (.int (A0_7 p0 wD wN wL wM wR wS nN nL nR nS)), .val (.ref wL), .val (.int (1 : Int32)), .val (.ref nL), .unset, .unset] [(.ref nL)])) rfl (hb hby at_45)
        obtain ⟨cq21, kq21, q21a, q21b, q21c⟩ := isOf hZ e20 E_LABELS
        obtain ⟨_, _, ⟨T21, L21, k21, n21⟩, -, X21, ⟨Lc21, hQ21, ll21, ly21, lz21⟩, st21⟩ := X20.virtualBack hx (y := (⟨"com/example/groundweave/groundweave/protocol/pdu/Selection$Form", "isList", "()Z"⟩ : MethodName)) (z := (⟨"com/example/groundweave/groundweave/protocol/pdu/Selection$Form", "isList", "()Z"⟩ : MethodName)) hown (mvT hZ (hw _ (List.mem_of_getElem? (i := 20) rfl))) (mvT hZ (hw _ (List.mem_of_getElem? (i := 21) rfl))) (notFace_of_selects (args := #[]) (mvT hZ (hw _ (List.mem_of_getElem? (i := 23) rfl)))) (mvT hZ (hw _ (List.mem_of_getElem? (i := 23) rfl))) (mvT hZ (hw _ (List.mem_of_getElem? (i := 22) rfl))) (by decide) (backOf (W := 0) (rm3 l Z a0 hw [] wL wN wL h0 n0 Z0 S_NAMES S_LABELS) hZ (hw _ (List.mem_of_getElem? (i := 24) rfl)) (hw _ (List.mem_of_getElem? (i := 6) rfl)) (by decide) (by decide)) q21a q21c (g := (mkF m 59 #[.val (.int p0), .val (.int (A0_7 p0 wD wN wL wM wR wS nN nL nR nS)), .val (.ref wL), .val (.int (1 : Int32)), .val (.ref nL), .val (.int (1 : Int32)), .unset] [(.ref wL)])) rfl (by rw [hml]; rfl) (Steps.refl _) (argsL := []) (rest := []) (lenOf pd___Z rfl) rfl (by show 2 * 0 + _ ≤ _; exact Nat.le_of_eq rfl) (hb hby at_59) (fun _ _ => ⟨rfl, e20, (by decide : 0 + 0 ≤ _), (by decide : 0 + 0 ≤ _)⟩)
        dsimp only [Pt.U, Pt.locs, Pt.cells, Pt.slots] at X21 ll21 ly21 lz21 st21 hQ21
        subst ll21 ly21 lz21
        obtain ⟨rfl, N21q, e21⟩ := hQ21
        have N21 := Fr.app N18 N21q
        have pre22 : ∀ t, Steps p.tables e below (T21.setTop (mkF m 67 #[.val (.int p0), .val (.int (A0_7 p0 wD wN wL wM wR wS nN nL nR nS)), .val (.ref wL), .val (.int (1 : Int32)), .val (.ref nL), .val (.int (1 : Int32)), .val (.int (F3 wL wN wL))] [(.int (1 : Int32)), (.int (F3 wL wN wL))])) t → Steps p.tables e below (s₁.setTop (entryFrame m #[(.int p0)] maxLocals)) t := fun t kt => pre17 t (by
          show Steps p.tables e below (T1.setTop (mkF m 13 #[.val (.int p0), .val (.int (A0_7 p0 wD wN wL wM wR wS nN nL nR nS)), .val (.ref wL), .unset, .unset, .unset, .unset] [])) _
          refine XS.iloadN X1.here hx rfl (hb hby at_13) rfl ?_
          show Steps p.tables e below (T1.setTop (mkF m 14 #[.val (.int p0), .val (.int (A0_7 p0 wD wN wL wM wR wS nN nL nR nS)), .val (.ref wL), .unset, .unset, .unset, .unset] [(.int (A0_7 p0 wD wN wL wM wR wS nN nL nR nS))])) _
          refine XS.iconst X1.here hx rfl (hb hby at_14) ?_
          show Steps p.tables e below (T1.setTop (mkF m 15 #[.val (.int p0), .val (.int (A0_7 p0 wD wN wL wM wR wS nN nL nR nS)), .val (.ref wL), .unset, .unset, .unset, .unset] [(.int (1 : Int32)), (.int (A0_7 p0 wD wN wL wM wR wS nN nL nR nS))])) _
          refine XS.icmpNo X1.here hx rfl (hb hby at_15) rfl (feq hi1).1 ?_
          show Steps p.tables e below (T1.setTop (mkF m 18 #[.val (.int p0), .val (.int (A0_7 p0 wD wN wL wM wR wS nN nL nR nS)), .val (.ref wL), .unset, .unset, .unset, .unset] [])) _
          refine XS.iloadN X1.here hx rfl (hb hby at_18) rfl ?_
          show Steps p.tables e below (T1.setTop (mkF m 19 #[.val (.int p0), .val (.int (A0_7 p0 wD wN wL wM wR wS nN nL nR nS)), .val (.ref wL), .unset, .unset, .unset, .unset] [(.int (A0_7 p0 wD wN wL wM wR wS nN nL nR nS))])) _
          refine XS.iconst X1.here hx rfl (hb hby at_19) ?_
          show Steps p.tables e below (T1.setTop (mkF m 20 #[.val (.int p0), .val (.int (A0_7 p0 wD wN wL wM wR wS nN nL nR nS)), .val (.ref wL), .unset, .unset, .unset, .unset] [(.int (2 : Int32)), (.int (A0_7 p0 wD wN wL wM wR wS nN nL nR nS))])) _
          refine XS.icmpNo X1.here hx rfl (hb hby at_20) rfl (teq hi2).2 ?_
          show Steps p.tables e below (T1.setTop (mkF m 23 #[.val (.int p0), .val (.int (A0_7 p0 wD wN wL wM wR wS nN nL nR nS)), .val (.ref wL), .unset, .unset, .unset, .unset] [])) _
          refine XS.iconst X1.here hx rfl (hb hby at_23) ?_
          show Steps p.tables e below (T1.setTop (mkF m 24 #[.val (.int p0), .val (.int (A0_7 p0 wD wN wL wM wR wS nN nL nR nS)), .val (.ref wL), .unset, .unset, .unset, .unset] [(.int (1 : Int32))])) _
          refine XS.goto X1.here hx rfl (pc0 := 24) (pc' := 28) rfl (hb hby at_24) (by decide) (by decide) ?_
          show Steps p.tables e below (T1.setTop (mkF m 28 #[.val (.int p0), .val (.int (A0_7 p0 wD wN wL wM wR wS nN nL nR nS)), .val (.ref wL), .unset, .unset, .unset, .unset] [(.int (1 : Int32))])) _
          refine XS.istoreN X1.here hx rfl (hb hby at_28) rfl (l' := #[.val (.int p0), .val (.int (A0_7 p0 wD wN wL wM wR wS nN nL nR nS)), .val (.ref wL), .val (.int (1 : Int32)), .unset, .unset, .unset]) rfl ?_
          show Steps p.tables e below (T1.setTop (mkF m 29 #[.val (.int p0), .val (.int (A0_7 p0 wD wN wL wM wR wS nN nL nR nS)), .val (.ref wL), .val (.int (1 : Int32)), .unset, .unset, .unset] [])) _
          refine XS.aloadN X1.here hx rfl (hb hby at_29) rfl rfl ?_
          show Steps p.tables e below (T1.setTop (mkF m 30 #[.val (.int p0), .val (.int (A0_7 p0 wD wN wL wM wR wS nN nL nR nS)), .val (.ref wL), .val (.int (1 : Int32)), .unset, .unset, .unset] [(.ref wL)])) _
          refine st18.trans ?_
          show Steps p.tables e below (T18.setTop (mkF m 33 #[.val (.int p0), .val (.int (A0_7 p0 wD wN wL wM wR wS nN nL nR nS)), .val (.ref wL), .val (.int (1 : Int32)), .unset, .unset, .unset] [(.ref nL)])) _
          refine XS.astore X18.here hx rfl (hb hby at_33) rfl rfl (l' := #[.val (.int p0), .val (.int (A0_7 p0 wD wN wL wM wR wS nN nL nR nS)), .val (.ref wL), .val (.int (1 : Int32)), .val (.ref nL), .unset, .unset]) rfl ?_
          show Steps p.tables e below (T18.setTop (mkF m 35 #[.val (.int p0), .val (.int (A0_7 p0 wD wN wL wM wR wS nN nL nR nS)), .val (.ref wL), .val (.int (1 : Int32)), .val (.ref nL), .unset, .unset] [])) _
          refine XS.aload X18.here hx rfl (hb hby at_35) rfl rfl ?_
          show Steps p.tables e below (T18.setTop (mkF m 37 #[.val (.int p0), .val (.int (A0_7 p0 wD wN wL wM wR wS nN nL nR nS)), .val (.ref wL), .val (.int (1 : Int32)), .val (.ref nL), .unset, .unset] [(.ref nL)])) _
          refine st19 _ ?_
          show Steps p.tables e below (T19.setTop (mkF m 40 #[.val (.int p0), .val (.int (A0_7 p0 wD wN wL wM wR wS nN nL nR nS)), .val (.ref wL), .val (.int (1 : Int32)), .val (.ref nL), .unset, .unset] [(.ref nN), (.ref nL)])) _
          refine Jvm.RoadKit.acmp (g := (mkF m 40 #[.val (.int p0), .val (.int (A0_7 p0 wD wN wL wM wR wS nN nL nR nS)), .val (.ref wL), .val (.int (1 : Int32)), .val (.ref nL), .unset, .unset] [(.ref nN), (.ref nL)])) X19 hx rfl rfl rfl (pc0 := 40) (pc' := 43) (same := false) rfl (hb hby at_40) rfl (decide_eq_false fun q => (Ne.symm ne_nN_nL) (Value.ref.inj q)) (by decide) (by decide) ?_
          show Steps p.tables e below (T19.setTop (mkF m 43 #[.val (.int p0), .val (.int (A0_7 p0 wD wN wL wM wR wS nN nL nR nS)), .val (.ref wL), .val (.int (1 : Int32)), .val (.ref nL), .unset, .unset] [])) _
          refine XS.aload X19.here hx rfl (hb hby at_43) rfl rfl ?_
          show Steps p.tables e below (T19.setTop (mkF m 45 #[.val (.int p0), .val (.int (A0_7 p0 wD wN wL wM wR wS nN nL nR nS)), .val (.ref wL), .val (.int (1 : Int32)), .val (.ref nL), .unset, .unset] [(.ref nL)])) _
          refine st20 _ ?_
          show Steps p.tables e below (T20.setTop (mkF m 48 #[.val (.int p0), .val (.int (A0_7 p0 wD wN wL wM wR wS nN nL nR nS)), .val (.ref wL), .val (.int (1 : Int32)), .val (.ref nL), .unset, .unset] [(.ref nL), (.ref nL)])) _
          refine Jvm.RoadKit.acmp (g := (mkF m 48 #[.val (.int p0), .val (.int (A0_7 p0 wD wN wL wM wR wS nN nL nR nS)), .val (.ref wL), .val (.int (1 : Int32)), .val (.ref nL), .unset, .unset] [(.ref nL), (.ref nL)])) X20 hx rfl rfl rfl (pc0 := 48) (pc' := 51) (same := true) rfl (hb hby at_48) rfl (decide_eq_true rfl) (by decide) (by decide) ?_
          show Steps p.tables e below (T20.setTop (mkF m 51 #[.val (.int p0), .val (.int (A0_7 p0 wD wN wL wM wR wS nN nL nR nS)), .val (.ref wL), .val (.int (1 : Int32)), .val (.ref nL), .unset, .unset] [])) _
          refine XS.iconst X20.here hx rfl (hb hby at_51) ?_
          show Steps p.tables e below (T20.setTop (mkF m 52 #[.val (.int p0), .val (.int (A0_7 p0 wD wN wL wM wR wS nN nL nR nS)), .val (.ref wL), .val (.int (1 : Int32)), .val (.ref nL), .unset, .unset] [(.int (1 : Int32))])) _
          refine XS.goto X20.here hx rfl (pc0 := 52) (pc' := 56) rfl (hb hby at_52) (by decide) (by decide) ?_
          show Steps p.tables e below (T20.setTop (mkF m 56 #[.val (.int p0), .val (.int (A0_7 p0 wD wN wL wM wR wS nN nL nR nS)), .val (.ref wL), .val (.int (1 : Int32)), .val (.ref nL), .unset, .unset] [(.int (1 : Int32))])) _
          refine XS.istore X20.here hx rfl (hb hby at_56) rfl (l' := #[.val (.int p0), .val (.int (A0_7 p0 wD wN wL wM wR wS nN nL nR nS)), .val (.ref wL), .val (.int (1 : Int32)), .val (.ref nL), .val (.int (1 : Int32)), .unset]) rfl ?_
          show Steps p.tables e below (T20.setTop (mkF m 58 #[.val (.int p0), .val (.int (A0_7 p0 wD wN wL wM wR wS nN nL nR nS)), .val (.ref wL), .val (.int (1 : Int32)), .val (.ref nL), .val (.int (1 : Int32)), .unset] [])) _
          refine XS.aloadN X20.here hx rfl (hb hby at_58) rfl rfl ?_
          show Steps p.tables e below (T20.setTop (mkF m 59 #[.val (.int p0), .val (.int (A0_7 p0 wD wN wL wM wR wS nN nL nR nS)), .val (.ref wL), .val (.int (1 : Int32)), .val (.ref nL), .val (.int (1 : Int32)), .unset] [(.ref wL)])) _
          refine st21.trans ?_
          show Steps p.tables e below (T21.setTop (mkF m 62 #[.val (.int p0), .val (.int (A0_7 p0 wD wN wL wM wR wS nN nL nR nS)), .val (.ref wL), .val (.int (1 : Int32)), .val (.ref nL), .val (.int (1 : Int32)), .unset] [(.int (F3 wL wN wL))])) _
          refine XS.istore X21.here hx rfl (hb hby at_62) rfl (l' := #[.val (.int p0), .val (.int (A0_7 p0 wD wN wL wM wR wS nN nL nR nS)), .val (.ref wL), .val (.int (1 : Int32)), .val (.ref nL), .val (.int (1 : Int32)), .val (.int (F3 wL wN wL))]) rfl ?_
          show Steps p.tables e below (T21.setTop (mkF m 64 #[.val (.int p0), .val (.int (A0_7 p0 wD wN wL wM wR wS nN nL nR nS)), .val (.ref wL), .val (.int (1 : Int32)), .val (.ref nL), .val (.int (1 : Int32)), .val (.int (F3 wL wN wL))] [])) _
          refine XS.iload X21.here hx rfl (hb hby at_64) rfl ?_
          show Steps p.tables e below (T21.setTop (mkF m 66 #[.val (.int p0), .val (.int (A0_7 p0 wD wN wL wM wR wS nN nL nR nS)), .val (.ref wL), .val (.int (1 : Int32)), .val (.ref nL), .val (.int (1 : Int32)), .val (.int (F3 wL wN wL))] [(.int (F3 wL wN wL))])) _
          refine XS.iloadN X21.here hx rfl (hb hby at_66) rfl ?_
          exact kt)
        by_cases hc67 : (F3 wL wN wL) = (1 : Int32)
        · obtain ⟨fs, hr, hrun, hended, hW, hsame⟩ := X21.leave (v := some (.int (1 : Int32))) (fun h => by rw [Bd.returns] at h; cases h)
          refine ⟨_, _, pre22 _ ?_, hrun, hended, _, _, rfl, ?_, ⟨_, rfl⟩, hW, hsame.mono (by decide) (by decide)⟩
          · show Steps p.tables e below (T21.setTop (mkF m 67 #[.val (.int p0), .val (.int (A0_7 p0 wD wN wL wM wR wS nN nL nR nS)), .val (.ref wL), .val (.int (1 : Int32)), .val (.ref nL), .val (.int (1 : Int32)), .val (.int (F3 wL wN wL))] [(.int (1 : Int32)), (.int (F3 wL wN wL))])) _
            refine XS.icmpNo X21.here hx rfl (hb hby at_67) rfl (teq hc67).2 ?_
            show Steps p.tables e below (T21.setTop (mkF m 70 #[.val (.int p0), .val (.int (A0_7 p0 wD wN wL wM wR wS nN nL nR nS)), .val (.ref wL), .val (.int (1 : Int32)), .val (.ref nL), .val (.int (1 : Int32)), .val (.int (F3 wL wN wL))] [])) _
            refine XS.iload X21.here hx rfl (hb hby at_70) rfl ?_
            show Steps p.tables e below (T21.setTop (mkF m 72 #[.val (.int p0), .val (.int (A0_7 p0 wD wN wL wM wR wS nN nL nR nS)), .val (.ref wL), .val (.int (1 : Int32)), .val (.ref nL), .val (.int (1 : Int32)), .val (.int (F3 wL wN wL))] [(.int (F3 wL wN wL))])) _
            refine XS.iload X21.here hx rfl (hb hby at_72) rfl ?_
            show Steps p.tables e below (T21.setTop (mkF m 74 #[.val (.int p0), .val (.int (A0_7 p0 wD wN wL wM wR wS nN nL nR nS)), .val (.ref wL), .val (.int (1 : Int32)), .val (.ref nL), .val (.int (1 : Int32)), .val (.int (F3 wL wN wL))] [(.int (1 : Int32)), (.int (F3 wL wN wL))])) _
            refine XS.icmpNo X21.here hx rfl (hb hby at_74) rfl (teq hc67).2 ?_
            show Steps p.tables e below (T21.setTop (mkF m 77 #[.val (.int p0), .val (.int (A0_7 p0 wD wN wL wM wR wS nN nL nR nS)), .val (.ref wL), .val (.int (1 : Int32)), .val (.ref nL), .val (.int (1 : Int32)), .val (.int (F3 wL wN wL))] [])) _
            refine XS.iconst X21.here hx rfl (hb hby at_77) ?_
            show Steps p.tables e below (T21.setTop (mkF m 78 #[.val (.int p0), .val (.int (A0_7 p0 wD wN wL wM wR wS nN nL nR nS)), .val (.ref wL), .val (.int (1 : Int32)), .val (.ref nL), .val (.int (1 : Int32)), .val (.int (F3 wL wN wL))] [(.int (1 : Int32))])) _
            refine XS.goto X21.here hx rfl (pc0 := 78) (pc' := 82) rfl (hb hby at_78) (by decide) (by decide) ?_
            show Steps p.tables e below (T21.setTop (mkF m 82 #[.val (.int p0), .val (.int (A0_7 p0 wD wN wL wM wR wS nN nL nR nS)), .val (.ref wL), .val (.int (1 : Int32)), .val (.ref nL), .val (.int (1 : Int32)), .val (.int (F3 wL wN wL))] [(.int (1 : Int32))])) _
            exact retN X21 hx (t := .boolean) Bd.returns (by simp) (hb hby at_82) hr
          · show Q0 Z p0 wD wN wL wM wR wS nN nL nR nS h0 n0 _ T21.heap _
            rw [e21]
            exact ⟨(by unfold F0; simp only [if_neg hi0, if_neg hi1, if_pos hi2, if_pos hc67]), N21⟩
        · obtain ⟨fs, hr, hrun, hended, hW, hsame⟩ := X21.leave (v := some (.int (0 : Int32))) (fun h => by rw [Bd.returns] at h; cases h)
          refine ⟨_, _, pre22 _ ?_, hrun, hended, _, _, rfl, ?_, ⟨_, rfl⟩, hW, hsame.mono (by decide) (by decide)⟩
          · show Steps p.tables e below (T21.setTop (mkF m 67 #[.val (.int p0), .val (.int (A0_7 p0 wD wN wL wM wR wS nN nL nR nS)), .val (.ref wL), .val (.int (1 : Int32)), .val (.ref nL), .val (.int (1 : Int32)), .val (.int (F3 wL wN wL))] [(.int (1 : Int32)), (.int (F3 wL wN wL))])) _
            refine XS.icmpYes X21.here hx rfl (pc0 := 67) (pc' := 81) rfl (hb hby at_67) rfl (feq hc67).2 (by decide) (by decide) ?_
            show Steps p.tables e below (T21.setTop (mkF m 81 #[.val (.int p0), .val (.int (A0_7 p0 wD wN wL wM wR wS nN nL nR nS)), .val (.ref wL), .val (.int (1 : Int32)), .val (.ref nL), .val (.int (1 : Int32)), .val (.int (F3 wL wN wL))] [])) _
            refine XS.iconst X21.here hx rfl (hb hby at_81) ?_
            show Steps p.tables e below (T21.setTop (mkF m 82 #[.val (.int p0), .val (.int (A0_7 p0 wD wN wL wM wR wS nN nL nR nS)), .val (.ref wL), .val (.int (1 : Int32)), .val (.ref nL), .val (.int (1 : Int32)), .val (.int (F3 wL wN wL))] [(.int (0 : Int32))])) _
            exact retN X21 hx (t := .boolean) Bd.returns (by simp) (hb hby at_82) hr
          · show Q0 Z p0 wD wN wL wM wR wS nN nL nR nS h0 n0 _ T21.heap _
            rw [e21]
            exact ⟨(by unfold F0; simp only [if_neg hi0, if_neg hi1, if_pos hi2, if_neg hc67]), N21⟩
      · by_cases hi3 : (A0_7 p0 wD wN wL wM wR wS nN nL nR nS) = (3 : Int32)
        · have qr23 : (F1 (A0_7 p0 wD wN wL wM wR wS nN nL nR nS) wD wN wL wM wR wS) = wM := by unfold F1; simp only [if_neg hi0, if_neg hi1, if_neg hi2, if_pos hi3]
          have pre24 : ∀ t, Steps p.tables e below (T1.setTop (mkF m 13 #[.val (.int p0), .val (.int (A0_7 p0 wD wN wL wM wR wS nN nL nR nS)), .val (.ref wM), .unset, .unset, .unset, .unset] [])) t → Steps p.tables e below (s₁.setTop (entryFrame m #[(.int p0)] maxLocals)) t := fun t kt => pre2 t (by rw [qr23]; exact kt)
          obtain ⟨cq25, kq25, q25a, q25b, q25c⟩ := isOf hZ e1 E_LIST_NAME
          obtain ⟨_, _, ⟨T25, L25, k25, n25⟩, -, X25, ⟨Lc25, hQ25, ll25, ly25, lz25⟩, st25⟩ := X1.virtualBack hx (y := (⟨"com/example/groundweave/groundweave/protocol/pdu/Selection$Form", "itemForm", "()Lcom/example/groundweave/groundweave/protocol/pdu/ItemPath$Form;"⟩ : MethodName)) (z := (⟨"com/example/groundweave/groundweave/protocol/pdu/Selection$Form", "itemForm", "()Lcom/example/groundweave/groundweave/protocol/pdu/ItemPath$Form;"⟩ : MethodName)) hown (mvT hZ (hw _ (List.mem_of_getElem? (i := 8) rfl))) (mvT hZ (hw _ (List.mem_of_getElem? (i := 9) rfl))) (notFace_of_selects (args := #[]) (mvT hZ (hw _ (List.mem_of_getElem? (i := 11) rfl)))) (mvT hZ (hw _ (List.mem_of_getElem? (i := 11) rfl))) (mvT hZ (hw _ (List.mem_of_getElem? (i := 10) rfl))) (by decide) (backOf (W := 0) (rm2n l Z a0 hw [] wM h0 n0 Z0 I_LIST_NAME) hZ (hw _ (List.mem_of_getElem? (i := 12) rfl)) (hw _ (List.mem_of_getElem? (i := 6) rfl)) (by decide) (by decide)) q25a q25c (g := (mkF m 30 #[.val (.int p0), .val (.int (A0_7 p0 wD wN wL wM wR wS nN nL nR nS)), .val (.ref wM), .val (.int (0 : Int32)), .unset, .unset, .unset] [(.ref wM)])) rfl (by rw [hml]; rfl) (Steps.refl _) (argsL := []) (rest := []) (lenOf pd___Lcom_example_groundweave_groundweave_protocol_pdu_ItemPath_Form_ rfl) rfl (by show 2 * 0 + _ ≤ _; exact Nat.le_of_eq rfl) (hb hby at_30) (fun _ _ => ⟨rfl, e1, (by decide : 0 + 0 ≤ _), (by decide : 0 + 0 ≤ _)⟩)
          dsimp only [Pt.U, Pt.locs, Pt.cells, Pt.slots] at X25 ll25 ly25 lz25 st25 hQ25
          subst ll25 ly25 lz25
          obtain ⟨rfl, N25q, e25⟩ := hQ25
          have N25 := Fr.app N1 N25q
          obtain ⟨T26, X26, e26, st26⟩ := getS2 X25 hx hZ hown (host := "") (Or.inl (hw _ (List.mem_of_getElem? (i := 15) rfl))) Via.refl e25 S2_NAME (g := (mkF m 37 #[.val (.int p0), .val (.int (A0_7 p0 wD wN wL wM wR wS nN nL nR nS)), .val (.ref wM), .val (.int (0 : Int32)), .val .null, .unset, .unset] [.null])) rfl (hb hby at_37)
          obtain ⟨T27, X27, e27, st27⟩ := getS2 X26 hx hZ hown (host := "") (Or.inl (hw _ (List.mem_of_getElem? (i := 18) rfl))) Via.refl e26 S2_LABEL (g := (mkF m 45 #[.val (.int p0), .val (.int (A0_7 p0 wD wN wL wM wR wS nN nL nR nS)), .val (.ref wM), .val (.int (0 : Int32)), .val .null, .unset, .unset] [.null])) rfl (hb hby at_45)
          obtain ⟨cq28, kq28, q28a, q28b, q28c⟩ := isOf hZ e27 E_LIST_NAME
          obtain ⟨_, _, ⟨T28, L28, k28, n28⟩, -, X28, ⟨Lc28, hQ28, ll28, ly28, lz28⟩, st28⟩ := X27.virtualBack hx (y := (⟨"com/example/groundweave/groundweave/protocol/pdu/Selection$Form", "isList", "()Z"⟩ : MethodName)) (z := (⟨"com/example/groundweave/groundweave/protocol/pdu/Selection$Form", "isList", "()Z"⟩ : MethodName)) hown (mvT hZ (hw _ (List.mem_of_getElem? (i := 20) rfl))) (mvT hZ (hw _ (List.mem_of_getElem? (i := 21) rfl))) (notFace_of_selects (args := #[]) (mvT hZ (hw _ (List.mem_of_getElem? (i := 23) rfl)))) (mvT hZ (hw _ (List.mem_of_getElem? (i := 23) rfl))) (mvT hZ (hw _ (List.mem_of_getElem? (i := 22) rfl))) (by decide) (backOf (W := 0) (rm3 l Z a0 hw [] wM wN wL h0 n0 Z0 S_NAMES S_LABELS) hZ (hw _ (List.mem_of_getElem? (i := 24) rfl)) (hw _ (List.mem_of_getElem? (i := 6) rfl)) (by decide) (by decide)) q28a q28c (g := (mkF m 59 #[.val (.int p0), .val (.int (A0_7 p0 wD wN wL wM wR wS nN nL nR nS)), .val (.ref wM), .val (.int (0 : Int32)), .val .null, .val (.int (0 : Int32)), .unset] [(.ref wM)])) rfl (by rw [hml]; rfl) (Steps.refl _) (argsL := []) (rest := []) (lenOf pd___Z rfl) rfl (by show 2 * 0 + _ ≤ _; exact Nat.le_of_eq rfl) (hb hby at_59) (fun _ _ => ⟨rfl, e27, (by decide : 0 + 0 ≤ _), (by decide : 0 + 0 ≤ _)⟩)
          dsimp only [Pt.U, Pt.locs, Pt.cells, Pt.slots] at X28 ll28 ly28 lz28 st28 hQ28
          subst ll28 ly28 lz28
          obtain ⟨rfl, N28q, e28⟩ := hQ28
          have N28 := Fr.app N25 N28q
          have pre29 : ∀ t, Steps p.tables e below (T28.setTop (mkF m 67 #[.val (.int p0), .val (.int (A0_7 p0 wD wN wL wM wR wS nN nL nR nS)), .val (.ref wM), .val (.int (0 : Int32)), .val .null, .val (.int (0 : Int32)), .val (.int (F3 wM wN wL))] [(.int (0 : Int32)), (.int (F3 wM wN wL))])) t → Steps p.tables e below (s₁.setTop (entryFrame m #[(.int p0)] maxLocals)) t := fun t kt => pre24 t (by
            show Steps p.tables e below (T1.setTop (mkF m 13 #[.val (.int p0), .val (.int (A0_7 p0 wD wN wL wM wR wS nN nL nR nS)), .val (.ref wM), .unset, .unset, .unset, .unset] [])) _
            refine XS.iloadN X1.here hx rfl (hb hby at_13) rfl ?_
            show Steps p.tables e below (T1.setTop (mkF m 14 #[.val (.int p0), .val (.int (A0_7 p0 wD wN wL wM wR wS nN nL nR nS)), .val (.ref wM), .unset, .unset, .unset, .unset] [(.int (A0_7 p0 wD wN wL wM wR wS nN nL nR nS))])) _
            refine XS.iconst X1.here hx rfl (hb hby at_14) ?_
            show Steps p.tables e below (T1.setTop (mkF m 15 #[.val (.int p0), .val (.int (A0_7 p0 wD wN wL wM wR wS nN nL nR nS)), .val (.ref wM), .unset, .unset, .unset, .unset] [(.int (1 : Int32)), (.int (A0_7 p0 wD wN wL wM wR wS nN nL nR nS))])) _
            refine XS.icmpNo X1.here hx rfl (hb hby at_15) rfl (feq hi1).1 ?_
            show Steps p.tables e below (T1.setTop (mkF m 18 #[.val (.int p0), .val (.int (A0_7 p0 wD wN wL wM wR wS nN nL nR nS)), .val (.ref wM), .unset, .unset, .unset, .unset] [])) _
            refine XS.iloadN X1.here hx rfl (hb hby at_18) rfl ?_
            show Steps p.tables e below (T1.setTop (mkF m 19 #[.val (.int p0), .val (.int (A0_7 p0 wD wN wL wM wR wS nN nL nR nS)), .val (.ref wM), .unset, .unset, .unset, .unset] [(.int (A0_7 p0 wD wN wL wM wR wS nN nL nR nS))])) _
            refine XS.iconst X1.here hx rfl (hb hby at_19) ?_
            show Steps p.tables e below (T1.setTop (mkF m 20 #[.val (.int p0), .val (.int (A0_7 p0 wD wN wL wM wR wS nN nL nR nS)), .val (.ref wM), .unset, .unset, .unset, .unset] [(.int (2 : Int32)), (.int (A0_7 p0 wD wN wL wM wR wS nN nL nR nS))])) _
            refine XS.icmpYes X1.here hx rfl (pc0 := 20) (pc' := 27) rfl (hb hby at_20) rfl (feq hi2).2 (by decide) (by decide) ?_
            show Steps p.tables e below (T1.setTop (mkF m 27 #[.val (.int p0), .val (.int (A0_7 p0 wD wN wL wM wR wS nN nL nR nS)), .val (.ref wM), .unset, .unset, .unset, .unset] [])) _
            refine XS.iconst X1.here hx rfl (hb hby at_27) ?_
            show Steps p.tables e below (T1.setTop (mkF m 28 #[.val (.int p0), .val (.int (A0_7 p0 wD wN wL wM wR wS nN nL nR nS)), .val (.ref wM), .unset, .unset, .unset, .unset] [(.int (0 : Int32))])) _
            refine XS.istoreN X1.here hx rfl (hb hby at_28) rfl (l' := #[.val (.int p0), .val (.int (A0_7 p0 wD wN wL wM wR wS nN nL nR nS)), .val (.ref wM), .val (.int (0 : Int32)), .unset, .unset, .unset]) rfl ?_
            show Steps p.tables e below (T1.setTop (mkF m 29 #[.val (.int p0), .val (.int (A0_7 p0 wD wN wL wM wR wS nN nL nR nS)), .val (.ref wM), .val (.int (0 : Int32)), .unset, .unset, .unset] [])) _
            refine XS.aloadN X1.here hx rfl (hb hby at_29) rfl rfl ?_
            show Steps p.tables e below (T1.setTop (mkF m 30 #[.val (.int p0), .val (.int (A0_7 p0 wD wN wL wM wR wS nN nL nR nS)), .val (.ref wM), .val (.int (0 : Int32)), .unset, .unset, .unset] [(.ref wM)])) _
            refine st25.trans ?_
            show Steps p.tables e below (T25.setTop (mkF m 33 #[.val (.int p0), .val (.int (A0_7 p0 wD wN wL wM wR wS nN nL nR nS)), .val (.ref wM), .val (.int (0 : Int32)), .unset, .unset, .unset] [.null])) _
            refine XS.astore X25.here hx rfl (hb hby at_33) rfl rfl (l' := #[.val (.int p0), .val (.int (A0_7 p0 wD wN wL wM wR wS nN nL nR nS)), .val (.ref wM), .val (.int (0 : Int32)), .val .null, .unset, .unset]) rfl ?_
            show Steps p.tables e below (T25.setTop (mkF m 35 #[.val (.int p0), .val (.int (A0_7 p0 wD wN wL wM wR wS nN nL nR nS)), .val (.ref wM), .val (.int (0 : Int32)), .val .null, .unset, .unset] [])) _
            refine XS.aload X25.here hx rfl (hb hby at_35) rfl rfl ?_
            show Steps p.tables e below (T25.setTop (mkF m 37 #[.val (.int p0), .val (.int (A0_7 p0 wD wN wL wM wR wS nN nL nR nS)), .val (.ref wM), .val (.int (0 : Int32)), .val .null, .unset, .unset] [.null])) _
            refine st26 _ ?_
            show Steps p.tables e below (T26.setTop (mkF m 40 #[.val (.int p0), .val (.int (A0_7 p0 wD wN wL wM wR wS nN nL nR nS)), .val (.ref wM), .val (.int (0 : Int32)), .val .null, .unset, .unset] [(.ref nN), .null])) _
            refine Jvm.RoadKit.acmp (g := (mkF m 40 #[.val (.int p0), .val (.int (A0_7 p0 wD wN wL wM wR wS nN nL nR nS)), .val (.ref wM), .val (.int (0 : Int32)), .val .null, .unset, .unset] [(.ref nN), .null])) X26 hx rfl rfl rfl (pc0 := 40) (pc' := 43) (same := false) rfl (hb hby at_40) rfl (decide_eq_false nofun) (by decide) (by decide) ?_
            show Steps p.tables e below (T26.setTop (mkF m 43 #[.val (.int p0), .val (.int (A0_7 p0 wD wN wL wM wR wS nN nL nR nS)), .val (.ref wM), .val (.int (0 : Int32)), .val .null, .unset, .unset] [])) _
            refine XS.aload X26.here hx rfl (hb hby at_43) rfl rfl ?_
            show Steps p.tables e below (T26.setTop (mkF m 45 #[.val (.int p0), .val (.int (A0_7 p0 wD wN wL wM wR wS nN nL nR nS)), .val (.ref wM), .val (.int (0 : Int32)), .val .null, .unset, .unset] [.null])) _
            refine st27 _ ?_
            show Steps p.tables e below (T27.setTop (mkF m 48 #[.val (.int p0), .val (.int (A0_7 p0 wD wN wL wM wR wS nN nL nR nS)), .val (.ref wM), .val (.int (0 : Int32)), .val .null, .unset, .unset] [(.ref nL), .null])) _
            refine Jvm.RoadKit.acmp (g := (mkF m 48 #[.val (.int p0), .val (.int (A0_7 p0 wD wN wL wM wR wS nN nL nR nS)), .val (.ref wM), .val (.int (0 : Int32)), .val .null, .unset, .unset] [(.ref nL), .null])) X27 hx rfl rfl rfl (pc0 := 48) (pc' := 55) (same := false) rfl (hb hby at_48) rfl (decide_eq_false nofun) (by decide) (by decide) ?_
            show Steps p.tables e below (T27.setTop (mkF m 55 #[.val (.int p0), .val (.int (A0_7 p0 wD wN wL wM wR wS nN nL nR nS)), .val (.ref wM), .val (.int (0 : Int32)), .val .null, .unset, .unset] [])) _
            refine XS.iconst X27.here hx rfl (hb hby at_55) ?_
            show Steps p.tables e below (T27.setTop (mkF m 56 #[.val (.int p0), .val (.int (A0_7 p0 wD wN wL wM wR wS nN nL nR nS)), .val (.ref wM), .val (.int (0 : Int32)), .val .null, .unset, .unset] [(.int (0 : Int32))])) _
            refine XS.istore X27.here hx rfl (hb hby at_56) rfl (l' := #[.val (.int p0), .val (.int (A0_7 p0 wD wN wL wM wR wS nN nL nR nS)), .val (.ref wM), .val (.int (0 : Int32)), .val .null, .val (.int (0 : Int32)), .unset]) rfl ?_
            show Steps p.tables e below (T27.setTop (mkF m 58 #[.val (.int p0), .val (.int (A0_7 p0 wD wN wL wM wR wS nN nL nR nS)), .val (.ref wM), .val (.int (0 : Int32)), .val .null, .val (.int (0 : Int32)), .unset] [])) _
            refine XS.aloadN X27.here hx rfl (hb hby at_58) rfl rfl ?_
            show Steps p.tables e below (T27.setTop (mkF m 59 #[.val (.int p0), .val (.int (A0_7 p0 wD wN wL wM wR wS nN nL nR nS)), .val (.ref wM), .val (.int (0 : Int32)), .val .null, .val (.int (0 : Int32)), .unset] [(.ref wM)])) _
            refine st28.trans ?_
            show Steps p.tables e below (T28.setTop (mkF m 62 #[.val (.int p0), .val (.int (A0_7 p0 wD wN wL wM wR wS nN nL nR nS)), .val (.ref wM), .val (.int (0 : Int32)), .val .null, .val (.int (0 : Int32)), .unset] [(.int (F3 wM wN wL))])) _
            refine XS.istore X28.here hx rfl (hb hby at_62) rfl (l' := #[.val (.int p0), .val (.int (A0_7 p0 wD wN wL wM wR wS nN nL nR nS)), .val (.ref wM), .val (.int (0 : Int32)), .val .null, .val (.int (0 : Int32)), .val (.int (F3 wM wN wL))]) rfl ?_
            show Steps p.tables e below (T28.setTop (mkF m 64 #[.val (.int p0), .val (.int (A0_7 p0 wD wN wL wM wR wS nN nL nR nS)), .val (.ref wM), .val (.int (0 : Int32)), .val .null, .val (.int (0 : Int32)), .val (.int (F3 wM wN wL))] [])) _
            refine XS.iload X28.here hx rfl (hb hby at_64) rfl ?_
            show Steps p.tables e below (T28.setTop (mkF m 66 #[.val (.int p0), .val (.int (A0_7 p0 wD wN wL wM wR wS nN nL nR nS)), .val (.ref wM), .val (.int (0 : Int32)), .val .null, .val (.int (0 : Int32)), .val (.int (F3 wM wN wL))] [(.int (F3 wM wN wL))])) _
            refine XS.iloadN X28.here hx rfl (hb hby at_66) rfl ?_
            exact kt)
          by_cases hc67 : (F3 wM wN wL) = (0 : Int32)
          · obtain ⟨fs, hr, hrun, hended, hW, hsame⟩ := X28.leave (v := some (.int (1 : Int32))) (fun h => by rw [Bd.returns] at h; cases h)
            refine ⟨_, _, pre29 _ ?_, hrun, hended, _, _, rfl, ?_, ⟨_, rfl⟩, hW, hsame.mono (by decide) (by decide)⟩
            · show Steps p.tables e below (T28.setTop (mkF m 67 #[.val (.int p0), .val (.int (A0_7 p0 wD wN wL wM wR wS nN nL nR nS)), .val (.ref wM), .val (.int (0 : Int32)), .val .null, .val (.int (0 : Int32)), .val (.int (F3 wM wN wL))] [(.int (0 : Int32)), (.int (F3 wM wN wL))])) _
              refine XS.icmpNo X28.here hx rfl (hb hby at_67) rfl (teq hc67).2 ?_
              show Steps p.tables e below (T28.setTop (mkF m 70 #[.val (.int p0), .val (.int (A0_7 p0 wD wN wL wM wR wS nN nL nR nS)), .val (.ref wM), .val (.int (0 : Int32)), .val .null, .val (.int (0 : Int32)), .val (.int (F3 wM wN wL))] [])) _
              refine XS.iload X28.here hx rfl (hb hby at_70) rfl ?_
              show Steps p.tables e below (T28.setTop (mkF m 72 #[.val (.int p0), .val (.int (A0_7 p0 wD wN wL wM wR wS nN nL nR nS)), .val (.ref wM), .val (.int (0 : Int32)), .val .null, .val (.int (0 : Int32)), .val (.int (F3 wM wN wL))] [(.int (F3 wM wN wL))])) _
              refine XS.iload X28.here hx rfl (hb hby at_72) rfl ?_
              show Steps p.tables e below (T28.setTop (mkF m 74 #[.val (.int p0), .val (.int (A0_7 p0 wD wN wL wM wR wS nN nL nR nS)), .val (.ref wM), .val (.int (0 : Int32)), .val .null, .val (.int (0 : Int32)), .val (.int (F3 wM wN wL))] [(.int (0 : Int32)), (.int (F3 wM wN wL))])) _
              refine XS.icmpNo X28.here hx rfl (hb hby at_74) rfl (teq hc67).2 ?_
              show Steps p.tables e below (T28.setTop (mkF m 77 #[.val (.int p0), .val (.int (A0_7 p0 wD wN wL wM wR wS nN nL nR nS)), .val (.ref wM), .val (.int (0 : Int32)), .val .null, .val (.int (0 : Int32)), .val (.int (F3 wM wN wL))] [])) _
              refine XS.iconst X28.here hx rfl (hb hby at_77) ?_
              show Steps p.tables e below (T28.setTop (mkF m 78 #[.val (.int p0), .val (.int (A0_7 p0 wD wN wL wM wR wS nN nL nR nS)), .val (.ref wM), .val (.int (0 : Int32)), .val .null, .val (.int (0 : Int32)), .val (.int (F3 wM wN wL))] [(.int (1 : Int32))])) _
              refine XS.goto X28.here hx rfl (pc0 := 78) (pc' := 82) rfl (hb hby at_78) (by decide) (by decide) ?_
              show Steps p.tables e below (T28.setTop (mkF m 82 #[.val (.int p0), .val (.int (A0_7 p0 wD wN wL wM wR wS nN nL nR nS)), .val (.ref wM), .val (.int (0 : Int32)), .val .null, .val (.int (0 : Int32)), .val (.int (F3 wM wN wL))] [(.int (1 : Int32))])) _
              exact retN X28 hx (t := .boolean) Bd.returns (by simp) (hb hby at_82) hr
            · show Q0 Z p0 wD wN wL wM wR wS nN nL nR nS h0 n0 _ T28.heap _
              rw [e28]
              exact ⟨(by unfold F0; simp only [if_neg hi0, if_neg hi1, if_neg hi2, if_pos hi3, if_pos hc67]), N28⟩
          · obtain ⟨fs, hr, hrun, hended, hW, hsame⟩ := X28.leave (v := some (.int (0 : Int32))) (fun h => by rw [Bd.returns] at h; cases h)
            refine ⟨_, _, pre29 _ ?_, hrun, hended, _, _, rfl, ?_, ⟨_, rfl⟩, hW, hsame.mono (by decide) (by decide)⟩
            · show Steps p.tables e below (T28.setTop (mkF m 67 #[.val (.int p0), .val (.int (A0_7 p0 wD wN wL wM wR wS nN nL nR nS)), .val (.ref wM), .val (.int (0 : Int32)), .val .null, .val (.int (0 : Int32)), .val (.int (F3 wM wN wL))] [(.int (0 : Int32)), (.int (F3 wM wN wL))])) _
              refine XS.icmpYes X28.here hx rfl (pc0 := 67) (pc' := 81) rfl (hb hby at_67) rfl (feq hc67).2 (by decide) (by decide) ?_
              show Steps p.tables e below (T28.setTop (mkF m 81 #[.val (.int p0), .val (.int (A0_7 p0 wD wN wL wM wR wS nN nL nR nS)), .val (.ref wM), .val (.int (0 : Int32)), .val .null, .val (.int (0 : Int32)), .val (.int (F3 wM wN wL))] [])) _
              refine XS.iconst X28.here hx rfl (hb hby at_81) ?_
              show Steps p.tables e below (T28.setTop (mkF m 82 #[.val (.int p0), .val (.int (A0_7 p0 wD wN wL wM wR wS nN nL nR nS)), .val (.ref wM), .val (.int (0 : Int32)), .val .null, .val (.int (0 : Int32)), .val (.int (F3 wM wN wL))] [(.int (0 : Int32))])) _
              exact retN X28 hx (t := .boolean) Bd.returns (by simp) (hb hby at_82) hr
            · show Q0 Z p0 wD wN wL wM wR wS nN nL nR nS h0 n0 _ T28.heap _
              rw [e28]
              exact ⟨(by unfold F0; simp only [if_neg hi0, if_neg hi1, if_neg hi2, if_pos hi3, if_neg hc67]), N28⟩
        · by_cases hi4 : (A0_7 p0 wD wN wL wM wR wS nN nL nR nS) = (4 : Int32)
          · have qr30 : (F1 (A0_7 p0 wD wN wL wM wR wS nN nL nR nS) wD wN wL wM wR wS) = wR := by unfold F1; simp only [if_neg hi0, if_neg hi1, if_neg hi2, if_neg hi3, if_pos hi4]
            have pre31 : ∀ t, Steps p.tables e below (T1.setTop (mkF m 13 #[.val (.int p0), .val (.int (A0_7 p0 wD wN wL wM wR wS nN nL nR nS)), .val (.ref wR), .unset, .unset, .unset, .unset] [])) t → Steps p.tables e below (s₁.setTop (entryFrame m #[(.int p0)] maxLocals)) t := fun t kt => pre2 t (by rw [qr30]; exact kt)
            obtain ⟨cq32, kq32, q32a, q32b, q32c⟩ := isOf hZ e1 E_RESOURCE_NAME
            obtain ⟨_, _, ⟨T32, L32, k32, n32⟩, -, X32, ⟨Lc32, hQ32, ll32, ly32, lz32⟩, st32⟩ := X1.virtualBack hx (y := (⟨"com/example/groundweave/groundweave/protocol/pdu/Selection$Form", "itemForm", "()Lcom/example/groundweave/groundweave/protocol/pdu/ItemPath$Form;"⟩ : MethodName)) (z := (⟨"com/example/groundweave/groundweave/protocol/pdu/Selection$Form", "itemForm", "()Lcom/example/groundweave/groundweave/protocol/pdu/ItemPath$Form;"⟩ : MethodName)) hown (mvT hZ (hw _ (List.mem_of_getElem? (i := 8) rfl))) (mvT hZ (hw _ (List.mem_of_getElem? (i := 9) rfl))) (notFace_of_selects (args := #[]) (mvT hZ (hw _ (List.mem_of_getElem? (i := 11) rfl)))) (mvT hZ (hw _ (List.mem_of_getElem? (i := 11) rfl))) (mvT hZ (hw _ (List.mem_of_getElem? (i := 10) rfl))) (by decide) (backOf (W := 0) (rm2r l Z a0 hw [] wR nR h0 n0 Z0 I_RESOURCE_NAME) hZ (hw _ (List.mem_of_getElem? (i := 12) rfl)) (hw _ (List.mem_of_getElem? (i := 6) rfl)) (by decide) (by decide)) q32a q32c (g := (mkF m 30 #[.val (.int p0), .val (.int (A0_7 p0 wD wN wL wM wR wS nN nL nR nS)), .val (.ref wR), .val (.int (0 : Int32)), .unset, .unset, .unset] [(.ref wR)])) rfl (by rw [hml]; rfl) (Steps.refl _) (argsL := []) (rest := []) (lenOf pd___Lcom_example_groundweave_groundweave_protocol_pdu_ItemPath_Form_ rfl) rfl (by show 2 * 0 + _ ≤ _; exact Nat.le_of_eq rfl) (hb hby at_30) (fun _ _ => ⟨rfl, e1, (by decide : 0 + 0 ≤ _), (by decide : 0 + 0 ≤ _)⟩)
            dsimp only [Pt.U, Pt.locs, Pt.cells, Pt.slots] at X32 ll32 ly32 lz32 st32 hQ32
            subst ll32 ly32 lz32
            obtain ⟨rfl, N32q, e32⟩ := hQ32
            have N32 := Fr.app N1 N32q
            obtain ⟨T33, X33, e33, st33⟩ := getS2 X32 hx hZ hown (host := "") (Or.inl (hw _ (List.mem_of_getElem? (i := 15) rfl))) Via.refl e32 S2_NAME (g := (mkF m 37 #[.val (.int p0), .val (.int (A0_7 p0 wD wN wL wM wR wS nN nL nR nS)), .val (.ref wR), .val (.int (0 : Int32)), .val (.ref nR), .unset, .unset] [(.ref nR)])) rfl (hb hby at_37)
            obtain ⟨T34, X34, e34, st34⟩ := getS2 X33 hx hZ hown (host := "") (Or.inl (hw _ (List.mem_of_getElem? (i := 18) rfl))) Via.refl e33 S2_LABEL (g := (mkF m 45 #[.val (.int p0), .val (.int (A0_7 p0 wD wN wL wM wR wS nN nL nR nS)), .val (.ref wR), .val (.int (0 : Int32)), .val (.ref nR), .unset, .unset] [(.ref nR)])) rfl (hb hby at_45)
            obtain ⟨cq35, kq35, q35a, q35b, q35c⟩ := isOf hZ e34 E_RESOURCE_NAME
            obtain ⟨_, _, ⟨T35, L35, k35, n35⟩, -, X35, ⟨Lc35, hQ35, ll35, ly35, lz35⟩, st35⟩ := X34.virtualBack hx (y := (⟨"com/example/groundweave/groundweave/protocol/pdu/Selection$Form", "isList", "()Z"⟩ : MethodName)) (z := (⟨"com/example/groundweave/groundweave/protocol/pdu/Selection$Form", "isList", "()Z"⟩ : MethodName)) hown (mvT hZ (hw _ (List.mem_of_getElem? (i := 20) rfl))) (mvT hZ (hw _ (List.mem_of_getElem? (i := 21) rfl))) (notFace_of_selects (args := #[]) (mvT hZ (hw _ (List.mem_of_getElem? (i := 23) rfl)))) (mvT hZ (hw _ (List.mem_of_getElem? (i := 23) rfl))) (mvT hZ (hw _ (List.mem_of_getElem? (i := 22) rfl))) (by decide) (backOf (W := 0) (rm3 l Z a0 hw [] wR wN wL h0 n0 Z0 S_NAMES S_LABELS) hZ (hw _ (List.mem_of_getElem? (i := 24) rfl)) (hw _ (List.mem_of_getElem? (i := 6) rfl)) (by decide) (by decide)) q35a q35c (g := (mkF m 59 #[.val (.int p0), .val (.int (A0_7 p0 wD wN wL wM wR wS nN nL nR nS)), .val (.ref wR), .val (.int (0 : Int32)), .val (.ref nR), .val (.int (0 : Int32)), .unset] [(.ref wR)])) rfl (by rw [hml]; rfl) (Steps.refl _) (argsL := []) (rest := []) (lenOf pd___Z rfl) rfl (by show 2 * 0 + _ ≤ _; exact Nat.le_of_eq rfl) (hb hby at_59) (fun _ _ => ⟨rfl, e34, (by decide : 0 + 0 ≤ _), (by decide : 0 + 0 ≤ _)⟩)
            dsimp only [Pt.U, Pt.locs, Pt.cells, Pt.slots] at X35 ll35 ly35 lz35 st35 hQ35
            subst ll35 ly35 lz35
            obtain ⟨rfl, N35q, e35⟩ := hQ35
            have N35 := Fr.app N32 N35q
            have pre36 : ∀ t, Steps p.tables e below (T35.setTop (mkF m 67 #[.val (.int p0), .val (.int (A0_7 p0 wD wN wL wM wR wS nN nL nR nS)), .val (.ref wR), .val (.int (0 : Int32)), .val (.ref nR), .val (.int (0 : Int32)), .val (.int (F3 wR wN wL))] [(.int (0 : Int32)), (.int (F3 wR wN wL))])) t → Steps p.tables e below (s₁.setTop (entryFrame m #[(.int p0)] maxLocals)) t := fun t kt => pre31 t (by
              show Steps p.tables e below (T1.setTop (mkF m 13 #[.val (.int p0), .val (.int (A0_7 p0 wD wN wL wM wR wS nN nL nR nS)), .val (.ref wR), .unset, .unset, .unset, .unset] [])) _
              refine XS.iloadN X1.here hx rfl (hb hby at_13) rfl ?_
              show Steps p.tables e below (T1.setTop (mkF m 14 #[.val (.int p0), .val (.int (A0_7 p0 wD wN wL wM wR wS nN nL nR nS)), .val (.ref wR), .unset, .unset, .unset, .unset] [(.int (A0_7 p0 wD wN wL wM wR wS nN nL nR nS))])) _
              refine XS.iconst X1.here hx rfl (hb hby at_14) ?_
              show Steps p.tables e below (T1.setTop (mkF m 15 #[.val (.int p0), .val (.int (A0_7 p0 wD wN wL wM wR wS nN nL nR nS)), .val (.ref wR), .unset, .unset, .unset, .unset] [(.int (1 : Int32)), (.int (A0_7 p0 wD wN wL wM wR wS nN nL nR nS))])) _
              refine XS.icmpNo X1.here hx rfl (hb hby at_15) rfl (feq hi1).1 ?_
              show Steps p.tables e below (T1.setTop (mkF m 18 #[.val (.int p0), .val (.int (A0_7 p0 wD wN wL wM wR wS nN nL nR nS)), .val (.ref wR), .unset, .unset, .unset, .unset] [])) _
              refine XS.iloadN X1.here hx rfl (hb hby at_18) rfl ?_
              show Steps p.tables e below (T1.setTop (mkF m 19 #[.val (.int p0), .val (.int (A0_7 p0 wD wN wL wM wR wS nN nL nR nS)), .val (.ref wR), .unset, .unset, .unset, .unset] [(.int (A0_7 p0 wD wN wL wM wR wS nN nL nR nS))])) _
              refine XS.iconst X1.here hx rfl (hb hby at_19) ?_
              show Steps p.tables e below (T1.setTop (mkF m 20 #[.val (.int p0), .val (.int (A0_7 p0 wD wN wL wM wR wS nN nL nR nS)), .val (.ref wR), .unset, .unset, .unset, .unset] [(.int (2 : Int32)), (.int (A0_7 p0 wD wN wL wM wR wS nN nL nR nS))])) _
              refine XS.icmpYes X1.here hx rfl (pc0 := 20) (pc' := 27) rfl (hb hby at_20) rfl (feq hi2).2 (by decide) (by decide) ?_
              show Steps p.tables e below (T1.setTop (mkF m 27 #[.val (.int p0), .val (.int (A0_7 p0 wD wN wL wM wR wS nN nL nR nS)), .val (.ref wR), .unset, .unset, .unset, .unset] [])) _
              refine XS.iconst X1.here hx rfl (hb hby at_27) ?_
              show Steps p.tables e below (T1.setTop (mkF m 28 #[.val (.int p0), .val (.int (A0_7 p0 wD wN wL wM wR wS nN nL nR nS)), .val (.ref wR), .unset, .unset, .unset, .unset] [(.int (0 : Int32))])) _
              refine XS.istoreN X1.here hx rfl (hb hby at_28) rfl (l' := #[.val (.int p0), .val (.int (A0_7 p0 wD wN wL wM wR wS nN nL nR nS)), .val (.ref wR), .val (.int (0 : Int32)), .unset, .unset, .unset]) rfl ?_
              show Steps p.tables e below (T1.setTop (mkF m 29 #[.val (.int p0), .val (.int (A0_7 p0 wD wN wL wM wR wS nN nL nR nS)), .val (.ref wR), .val (.int (0 : Int32)), .unset, .unset, .unset] [])) _
              refine XS.aloadN X1.here hx rfl (hb hby at_29) rfl rfl ?_
              show Steps p.tables e below (T1.setTop (mkF m 30 #[.val (.int p0), .val (.int (A0_7 p0 wD wN wL wM wR wS nN nL nR nS)), .val (.ref wR), .val (.int (0 : Int32)), .unset, .unset, .unset] [(.ref wR)])) _
              refine st32.trans ?_
              show Steps p.tables e below (T32.setTop (mkF m 33 #[.val (.int p0), .val (.int (A0_7 p0 wD wN wL wM wR wS nN nL nR nS)), .val (.ref wR), .val (.int (0 : Int32)), .unset, .unset, .unset] [(.ref nR)])) _
              refine XS.astore X32.here hx rfl (hb hby at_33) rfl rfl (l' := #[.val (.int p0), .val (.int (A0_7 p0 wD wN wL wM wR wS nN nL nR nS)), .val (.ref wR), .val (.int (0 : Int32)), .val (.ref nR), .unset, .unset]) rfl ?_
              show Steps p.tables e below (T32.setTop (mkF m 35 #[.val (.int p0), .val (.int (A0_7 p0 wD wN wL wM wR wS nN nL nR nS)), .val (.ref wR), .val (.int (0 : Int32)), .val (.ref nR), .unset, .unset] [])) _
              refine XS.aload X32.here hx rfl (hb hby at_35) rfl rfl ?_
              show Steps p.tables e below (T32.setTop (mkF m 37 #[.val (.int p0), .val (.int (A0_7 p0 wD wN wL wM wR wS nN nL nR nS)), .val (.ref wR), .val (.int (0 : Int32)), .val (.ref nR), .unset, .unset] [(.ref nR)])) _
              refine st33 _ ?_
              show Steps p.tables e below (T33.setTop (mkF m 40 #[.val (.int p0), .val (.int (A0_7 p0 wD wN wL wM wR wS nN nL nR nS)), .val (.ref wR), .val (.int (0 : Int32)), .val (.ref nR), .unset, .unset] [(.ref nN), (.ref nR)])) _
              refine Jvm.RoadKit.acmp (g := (mkF m 40 #[.val (.int p0), .val (.int (A0_7 p0 wD wN wL wM wR wS nN nL nR nS)), .val (.ref wR), .val (.int (0 : Int32)), .val (.ref nR), .unset, .unset] [(.ref nN), (.ref nR)])) X33 hx rfl rfl rfl (pc0 := 40) (pc' := 43) (same := false) rfl (hb hby at_40) rfl (decide_eq_false fun q => (Ne.symm ne_nN_nR) (Value.ref.inj q)) (by decide) (by decide) ?_
              show Steps p.tables e below (T33.setTop (mkF m 43 #[.val (.int p0), .val (.int (A0_7 p0 wD wN wL wM wR wS nN nL nR nS)), .val (.ref wR), .val (.int (0 : Int32)), .val (.ref nR), .unset, .unset] [])) _
              refine XS.aload X33.here hx rfl (hb hby at_43) rfl rfl ?_
              show Steps p.tables e below (T33.setTop (mkF m 45 #[.val (.int p0), .val (.int (A0_7 p0 wD wN wL wM wR wS nN nL nR nS)), .val (.ref wR), .val (.int (0 : Int32)), .val (.ref nR), .unset, .unset] [(.ref nR)])) _
              refine st34 _ ?_
              show Steps p.tables e below (T34.setTop (mkF m 48 #[.val (.int p0), .val (.int (A0_7 p0 wD wN wL wM wR wS nN nL nR nS)), .val (.ref wR), .val (.int (0 : Int32)), .val (.ref nR), .unset, .unset] [(.ref nL), (.ref nR)])) _
              refine Jvm.RoadKit.acmp (g := (mkF m 48 #[.val (.int p0), .val (.int (A0_7 p0 wD wN wL wM wR wS nN nL nR nS)), .val (.ref wR), .val (.int (0 : Int32)), .val (.ref nR), .unset, .unset] [(.ref nL), (.ref nR)])) X34 hx rfl rfl rfl (pc0 := 48) (pc' := 55) (same := false) rfl (hb hby at_48) rfl (decide_eq_false fun q => (Ne.symm ne_nL_nR) (Value.ref.inj q)) (by decide) (by decide) ?_
              show Steps p.tables e below (T34.setTop (mkF m 55 #[.val (.int p0), .val (.int (A0_7 p0 wD wN wL wM wR wS nN nL nR nS)), .val (.ref wR), .val (.int (0 : Int32)), .val (.ref nR), .unset, .unset] [])) _
              refine XS.iconst X34.here hx rfl (hb hby at_55) ?_
              show Steps p.tables e below (T34.setTop (mkF m 56 #[.val (.int p0), .val (.int (A0_7 p0 wD wN wL wM wR wS nN nL nR nS)), .val (.ref wR), .val (.int (0 : Int32)), .val (.ref nR), .unset, .unset] [(.int (0 : Int32))])) _
              refine XS.istore X34.here hx rfl (hb hby at_56) rfl (l' := #[.val (.int p0), .val (.int (A0_7 p0 wD wN wL wM wR wS nN nL nR nS)), .val (.ref wR), .val (.int (0 : Int32)), .val (.ref nR), .val (.int (0 : Int32)), .unset]) rfl ?_
              show Steps p.tables e below (T34.setTop (mkF m 58 #[.val (.int p0), .val (.int (A0_7 p0 wD wN wL wM wR wS nN nL nR nS)), .val (.ref wR), .val (.int (0 : Int32)), .val (.ref nR), .val (.int (0 : Int32)), .unset] [])) _
              refine XS.aloadN X34.here hx rfl (hb hby at_58) rfl rfl ?_
              show Steps p.tables e below (T34.setTop (mkF m 59 #[.val (.int p0), .val (.int (A0_7 p0 wD wN wL wM wR wS nN nL nR nS)), .val (.ref wR), .val (.int (0 : Int32)), .val (.ref nR), .val (.int (0 : Int32)), .unset] [(.ref wR)])) _
              refine st35.trans ?_
              show Steps p.tables e below (T35.setTop (mkF m 62 #[.val (.int p0), .val (.int (A0_7 p0 wD wN wL wM wR wS nN nL nR nS)), .val (.ref wR), .val (.int (0 : Int32)), .val (.ref nR), .val (.int (0 : Int32)), .unset] [(.int (F3 wR wN wL))])) _
              refine XS.istore X35.here hx rfl (hb hby at_62) rfl (l' := #[.val (.int p0), .val (.int (A0_7 p0 wD wN wL wM wR wS nN nL nR nS)), .val (.ref wR), .val (.int (0 : Int32)), .val (.ref nR), .val (.int (0 : Int32)), .val (.int (F3 wR wN wL))]) rfl ?_
              show Steps p.tables e below (T35.setTop (mkF m 64 #[.val (.int p0), .val (.int (A0_7 p0 wD wN wL wM wR wS nN nL nR nS)), .val (.ref wR), .val (.int (0 : Int32)), .val (.ref nR), .val (.int (0 : Int32)), .val (.int (F3 wR wN wL))] [])) _
              refine XS.iload X35.here hx rfl (hb hby at_64) rfl ?_
              show Steps p.tables e below (T35.setTop (mkF m 66 #[.val (.int p0), .val (.int (A0_7 p0 wD wN wL wM wR wS nN nL nR nS)), .val (.ref wR), .val (.int (0 : Int32)), .val (.ref nR), .val (.int (0 : Int32)), .val (.int (F3 wR wN wL))] [(.int (F3 wR wN wL))])) _
              refine XS.iloadN X35.here hx rfl (hb hby at_66) rfl ?_
              exact kt)
            by_cases hc67 : (F3 wR wN wL) = (0 : Int32)
            · obtain ⟨fs, hr, hrun, hended, hW, hsame⟩ := X35.leave (v := some (.int (1 : Int32))) (fun h => by rw [Bd.returns] at h; cases h)
              refine ⟨_, _, pre36 _ ?_, hrun, hended, _, _, rfl, ?_, ⟨_, rfl⟩, hW, hsame.mono (by decide) (by decide)⟩
              · show Steps p.tables e below (T35.setTop (mkF m 67 #[.val (.int p0), .val (.int (A0_7 p0 wD wN wL wM wR wS nN nL nR nS)), .val (.ref wR), .val (.int (0 : Int32)), .val (.ref nR), .val (.int (0 : Int32)), .val (.int (F3 wR wN wL))] [(.int (0 : Int32)), (.int (F3 wR wN wL))])) _
                refine XS.icmpNo X35.here hx rfl (hb hby at_67) rfl (teq hc67).2 ?_
                show Steps p.tables e below (T35.setTop (mkF m 70 #[.val (.int p0), .val (.int (A0_7 p0 wD wN wL wM wR wS nN nL nR nS)), .val (.ref wR), .val (.int (0 : Int32)), .val (.ref nR), .val (.int (0 : Int32)), .val (.int (F3 wR wN wL))] [])) _
                refine XS.iload X35.here hx rfl (hb hby at_70) rfl ?_
                show Steps p.tables e below (T35.setTop (mkF m 72 #[.val (.int p0), .val (.int (A0_7 p0 wD wN wL wM wR wS nN nL nR nS)), .val (.ref wR), .val (.int (0 : Int32)), .val (.ref nR), .val (.int (0 : Int32)), .val (.int (F3 wR wN wL))] [(.int (F3 wR wN wL))])) _
                refine XS.iload X35.here hx rfl (hb hby at_72) rfl ?_
                show Steps p.tables e below (T35.setTop (mkF m 74 #[.val (.int p0), .val (.int (A0_7 p0 wD wN wL wM wR wS nN nL nR nS)), .val (.ref wR), .val (.int (0 : Int32)), .val (.ref nR), .val (.int (0 : Int32)), .val (.int (F3 wR wN wL))] [(.int (0 : Int32)), (.int (F3 wR wN wL))])) _
                refine XS.icmpNo X35.here hx rfl (hb hby at_74) rfl (teq hc67).2 ?_
                show Steps p.tables e below (T35.setTop (mkF m 77 #[.val (.int p0), .val (.int (A0_7 p0 wD wN wL wM wR wS nN nL nR nS)), .val (.ref wR), .val (.int (0 : Int32)), .val (.ref nR), .val (.int (0 : Int32)), .val (.int (F3 wR wN wL))] [])) _
                refine XS.iconst X35.here hx rfl (hb hby at_77) ?_
                show Steps p.tables e below (T35.setTop (mkF m 78 #[.val (.int p0), .val (.int (A0_7 p0 wD wN wL wM wR wS nN nL nR nS)), .val (.ref wR), .val (.int (0 : Int32)), .val (.ref nR), .val (.int (0 : Int32)), .val (.int (F3 wR wN wL))] [(.int (1 : Int32))])) _
                refine XS.goto X35.here hx rfl (pc0 := 78) (pc' := 82) rfl (hb hby at_78) (by decide) (by decide) ?_
                show Steps p.tables e below (T35.setTop (mkF m 82 #[.val (.int p0), .val (.int (A0_7 p0 wD wN wL wM wR wS nN nL nR nS)), .val (.ref wR), .val (.int (0 : Int32)), .val (.ref nR), .val (.int (0 : Int32)), .val (.int (F3 wR wN wL))] [(.int (1 : Int32))])) _
                exact retN X35 hx (t := .boolean) Bd.returns (by simp) (hb hby at_82) hr
              · show Q0 Z p0 wD wN wL wM wR wS nN nL nR nS h0 n0 _ T35.heap _
                rw [e35]
                exact ⟨(by unfold F0; simp only [if_neg hi0, if_neg hi1, if_neg hi2, if_neg hi3, if_pos hi4, if_pos hc67]), N35⟩
            · obtain ⟨fs, hr, hrun, hended, hW, hsame⟩ := X35.leave (v := some (.int (0 : Int32))) (fun h => by rw [Bd.returns] at h; cases h)
              refine ⟨_, _, pre36 _ ?_, hrun, hended, _, _, rfl, ?_, ⟨_, rfl⟩, hW, hsame.mono (by decide) (by decide)⟩
              · show Steps p.tables e below (T35.setTop (mkF m 67 #[.val (.int p0), .val (.int (A0_7 p0 wD wN wL wM wR wS nN nL nR nS)), .val (.ref wR), .val (.int (0 : Int32)), .val (.ref nR), .val (.int (0 : Int32)), .val (.int (F3 wR wN wL))] [(.int (0 : Int32)), (.int (F3 wR wN wL))])) _
                refine XS.icmpYes X35.here hx rfl (pc0 := 67) (pc' := 81) rfl (hb hby at_67) rfl (feq hc67).2 (by decide) (by decide) ?_
                show Steps p.tables e below (T35.setTop (mkF m 81 #[.val (.int p0), .val (.int (A0_7 p0 wD wN wL wM wR wS nN nL nR nS)), .val (.ref wR), .val (.int (0 : Int32)), .val (.ref nR), .val (.int (0 : Int32)), .val (.int (F3 wR wN wL))] [])) _
                refine XS.iconst X35.here hx rfl (hb hby at_81) ?_
                show Steps p.tables e below (T35.setTop (mkF m 82 #[.val (.int p0), .val (.int (A0_7 p0 wD wN wL wM wR wS nN nL nR nS)), .val (.ref wR), .val (.int (0 : Int32)), .val (.ref nR), .val (.int (0 : Int32)), .val (.int (F3 wR wN wL))] [(.int (0 : Int32))])) _
                exact retN X35 hx (t := .boolean) Bd.returns (by simp) (hb hby at_82) hr
              · show Q0 Z p0 wD wN wL wM wR wS nN nL nR nS h0 n0 _ T35.heap _
                rw [e35]
                exact ⟨(by unfold F0; simp only [if_neg hi0, if_neg hi1, if_neg hi2, if_neg hi3, if_pos hi4, if_neg hc67]), N35⟩
          · by_cases hi5 : (A0_7 p0 wD wN wL wM wR wS nN nL nR nS) = (5 : Int32)
            · have qr37 : (F1 (A0_7 p0 wD wN wL wM wR wS nN nL nR nS) wD wN wL wM wR wS) = wS := by unfold F1; simp only [if_neg hi0, if_neg hi1, if_neg hi2, if_neg hi3, if_neg hi4]
              have pre38 : ∀ t, Steps p.tables e below (T1.setTop (mkF m 13 #[.val (.int p0), .val (.int (A0_7 p0 wD wN wL wM wR wS nN nL nR nS)), .val (.ref wS), .unset, .unset, .unset, .unset] [])) t → Steps p.tables e below (s₁.setTop (entryFrame m #[(.int p0)] maxLocals)) t := fun t kt => pre2 t (by rw [qr37]; exact kt)
              obtain ⟨cq39, kq39, q39a, q39b, q39c⟩ := isOf hZ e1 E_RESOURCE_TYPE
              obtain ⟨_, _, ⟨T39, L39, k39, n39⟩, -, X39, ⟨Lc39, hQ39, ll39, ly39, lz39⟩, st39⟩ := X1.virtualBack hx (y := (⟨"com/example/groundweave/groundweave/protocol/pdu/Selection$Form", "itemForm", "()Lcom/example/groundweave/groundweave/protocol/pdu/ItemPath$Form;"⟩ : MethodName)) (z := (⟨"com/example/groundweave/groundweave/protocol/pdu/Selection$Form", "itemForm", "()Lcom/example/groundweave/groundweave/protocol/pdu/ItemPath$Form;"⟩ : MethodName)) hown (mvT hZ (hw _ (List.mem_of_getElem? (i := 8) rfl))) (mvT hZ (hw _ (List.mem_of_getElem? (i := 9) rfl))) (notFace_of_selects (args := #[]) (mvT hZ (hw _ (List.mem_of_getElem? (i := 11) rfl)))) (mvT hZ (hw _ (List.mem_of_getElem? (i := 11) rfl))) (mvT hZ (hw _ (List.mem_of_getElem? (i := 10) rfl))) (by decide) (backOf (W := 0) (rm2r l Z a0 hw [] wS nS h0 n0 Z0 I_RESOURCE_TYPE) hZ (hw _ (List.mem_of_getElem? (i := 12) rfl)) (hw _ (List.mem_of_getElem? (i := 6) rfl)) (by decide) (by decide)) q39a q39c (g := (mkF m 30 #[.val (.int p0), .val (.int (A0_7 p0 wD wN wL wM wR wS nN nL nR nS)), .val (.ref wS), .val (.int (0 : Int32)), .unset, .unset, .unset] [(.ref wS)])) rfl (by rw [hml]; rfl) (Steps.refl _) (argsL := []) (rest := []) (lenOf pd___Lcom_example_groundweave_groundweave_protocol_pdu_ItemPath_Form_ rfl) rfl (by show 2 * 0 + _ ≤ _; exact Nat.le_of_eq rfl) (hb hby at_30) (fun _ _ => ⟨rfl, e1, (by decide : 0 + 0 ≤ _), (by decide : 0 + 0 ≤ _)⟩)
              dsimp only [Pt.U, Pt.locs, Pt.cells, Pt.slots] at X39 ll39 ly39 lz39 st39 hQ39
              subst ll39 ly39 lz39
              obtain ⟨rfl, N39q, e39⟩ := hQ39
              have N39 := Fr.app N1 N39q
              obtain ⟨T40, X40, e40, st40⟩ := getS2 X39 hx hZ hown (host := "") (Or.inl (hw _ (List.mem_of_getElem? (i := 15) rfl))) Via.refl e39 S2_NAME (g := (mkF m 37 #[.val (.int p0), .val (.int (A0_7 p0 wD wN wL wM wR wS nN nL nR nS)), .val (.ref wS), .val (.int (0 : Int32)), .val (.ref nS), .unset, .unset] [(.ref nS)])) rfl (hb hby at_37)
              obtain ⟨T41, X41, e41, st41⟩ := getS2 X40 hx hZ hown (host := "") (Or.inl (hw _ (List.mem_of_getElem? (i := 18) rfl))) Via.refl e40 S2_LABEL (g := (mkF m 45 #[.val (.int p0), .val (.int (A0_7 p0 wD wN wL wM wR wS nN nL nR nS)), .val (.ref wS), .val (.int (0 : Int32)), .val (.ref nS), .unset, .unset] [(.ref nS)])) rfl (hb hby at_45)
              obtain ⟨cq42, kq42, q42a, q42b, q42c⟩ := isOf hZ e41 E_RESOURCE_TYPE
              obtain ⟨_, _, ⟨T42, L42, k42, n42⟩, -, X42, ⟨Lc42, hQ42, ll42, ly42, lz42⟩, st42⟩ := X41.virtualBack hx (y := (⟨"com/example/groundweave/groundweave/protocol/pdu/Selection$Form", "isList", "()Z"⟩ : MethodName)) (z := (⟨"com/example/groundweave/groundweave/protocol/pdu/Selection$Form", "isList", "()Z"⟩ : MethodName)) hown (mvT hZ (hw _ (List.mem_of_getElem? (i := 20) rfl))) (mvT hZ (hw _ (List.mem_of_getElem? (i := 21) rfl))) (notFace_of_selects (args := #[]) (mvT hZ (hw _ (List.mem_of_getElem? (i := 23) rfl)))) (mvT hZ (hw _ (List.mem_of_getElem? (i := 23) rfl))) (mvT hZ (hw _ (List.mem_of_getElem? (i := 22) rfl))) (by decide) (backOf (W := 0) (rm3 l Z a0 hw [] wS wN wL h0 n0 Z0 S_NAMES S_LABELS) hZ (hw _ (List.mem_of_getElem? (i := 24) rfl)) (hw _ (List.mem_of_getElem? (i := 6) rfl)) (by decide) (by decide)) q42a q42c (g := (mkF m 59 #[.val (.int p0), .val (.int (A0_7 p0 wD wN wL wM wR wS nN nL nR nS)), .val (.ref wS), .val (.int (0 : Int32)), .val (.ref nS), .val (.int (0 : Int32)), .unset] [(.ref wS)])) rfl (by rw [hml]; rfl) (Steps.refl _) (argsL := []) (rest := []) (lenOf pd___Z rfl) rfl (by show 2 * 0 + _ ≤ _; exact Nat.le_of_eq rfl) (hb hby at_59) (fun _ _ => ⟨rfl, e41, (by decide : 0 + 0 ≤ _), (by decide : 0 + 0 ≤ _)⟩)
              dsimp only [Pt.U, Pt.locs, Pt.cells, Pt.slots] at X42 ll42 ly42 lz42 st42 hQ42
              subst ll42 ly42 lz42
              obtain ⟨rfl, N42q, e42⟩ := hQ42
              have N42 := Fr.app N39 N42q
              have pre43 : ∀ t, Steps p.tables e below (T42.setTop (mkF m 67 #[.val (.int p0), .val (.int (A0_7 p0 wD wN wL wM wR wS nN nL nR nS)), .val (.ref wS), .val (.int (0 : Int32)), .val (.ref nS), .val (.int (0 : Int32)), .val (.int (F3 wS wN wL))] [(.int (0 : Int32)), (.int (F3 wS wN wL))])) t → Steps p.tables e below (s₁.setTop (entryFrame m #[(.int p0)] maxLocals)) t := fun t kt => pre38 t (by
                show Steps p.tables e below (T1.setTop (mkF m 13 #[.val (.int p0), .val (.int (A0_7 p0 wD wN wL wM wR wS nN nL nR nS)), .val (.ref wS), .unset, .unset, .unset, .unset] [])) _
                refine XS.iloadN X1.here hx rfl (hb hby at_13) rfl ?_
                show Steps p.tables e below (T1.setTop (mkF m 14 #[.val (.int p0), .val (.int (A0_7 p0 wD wN wL wM wR wS nN nL nR nS)), .val (.ref wS), .unset, .unset, .unset, .unset] [(.int (A0_7 p0 wD wN wL wM wR wS nN nL nR nS))])) _
                refine XS.iconst X1.here hx rfl (hb hby at_14) ?_
                show Steps p.tables e below (T1.setTop (mkF m 15 #[.val (.int p0), .val (.int (A0_7 p0 wD wN wL wM wR wS nN nL nR nS)), .val (.ref wS), .unset, .unset, .unset, .unset] [(.int (1 : Int32)), (.int (A0_7 p0 wD wN wL wM wR wS nN nL nR nS))])) _
                refine XS.icmpNo X1.here hx rfl (hb hby at_15) rfl (feq hi1).1 ?_
                show Steps p.tables e below (T1.setTop (mkF m 18 #[.val (.int p0), .val (.int (A0_7 p0 wD wN wL wM wR wS nN nL nR nS)), .val (.ref wS), .unset, .unset, .unset, .unset] [])) _
                refine XS.iloadN X1.here hx rfl (hb hby at_18) rfl ?_
                show Steps p.tables e below (T1.setTop (mkF m 19 #[.val (.int p0), .val (.int (A0_7 p0 wD wN wL wM wR wS nN nL nR nS)), .val (.ref wS), .unset, .unset, .unset, .unset] [(.int (A0_7 p0 wD wN wL wM wR wS nN nL nR nS))])) _
                refine XS.iconst X1.here hx rfl (hb hby at_19) ?_
                show Steps p.tables e below (T1.setTop (mkF m 20 #[.val (.int p0), .val (.int (A0_7 p0 wD wN wL wM wR wS nN nL nR nS)), .val (.ref wS), .unset, .unset, .unset, .unset] [(.int (2 : Int32)), (.int (A0_7 p0 wD wN wL wM wR wS nN nL nR nS))])) _
                refine XS.icmpYes X1.here hx rfl (pc0 := 20) (pc' := 27) rfl (hb hby at_20) rfl (feq hi2).2 (by decide) (by decide) ?_
                show Steps p.tables e below (T1.setTop (mkF m 27 #[.val (.int p0), .val (.int (A0_7 p0 wD wN wL wM wR wS nN nL nR nS)), .val (.ref wS), .unset, .unset, .unset, .unset] [])) _
                refine XS.iconst X1.here hx rfl (hb hby at_27) ?_
                show Steps p.tables e below (T1.setTop (mkF m 28 #[.val (.int p0), .val (.int (A0_7 p0 wD wN wL wM wR wS nN nL nR nS)), .val (.ref wS), .unset, .unset, .unset, .unset] [(.int (0 : Int32))])) _
                refine XS.istoreN X1.here hx rfl (hb hby at_28) rfl (l' := #[.val (.int p0), .val (.int (A0_7 p0 wD wN wL wM wR wS nN nL nR nS)), .val (.ref wS), .val (.int (0 : Int32)), .unset, .unset, .unset]) rfl ?_
                show Steps p.tables e below (T1.setTop (mkF m 29 #[.val (.int p0), .val (.int (A0_7 p0 wD wN wL wM wR wS nN nL nR nS)), .val (.ref wS), .val (.int (0 : Int32)), .unset, .unset, .unset] [])) _
                refine XS.aloadN X1.here hx rfl (hb hby at_29) rfl rfl ?_
                show Steps p.tables e below (T1.setTop (mkF m 30 #[.val (.int p0), .val (.int (A0_7 p0 wD wN wL wM wR wS nN nL nR nS)), .val (.ref wS), .val (.int (0 : Int32)), .unset, .unset, .unset] [(.ref wS)])) _
                refine st39.trans ?_
                show Steps p.tables e below (T39.setTop (mkF m 33 #[.val (.int p0), .val (.int (A0_7 p0 wD wN wL wM wR wS nN nL nR nS)), .val (.ref wS), .val (.int (0 : Int32)), .unset, .unset, .unset] [(.ref nS)])) _
                refine XS.astore X39.here hx rfl (hb hby at_33) rfl rfl (l' := #[.val (.int p0), .val (.int (A0_7 p0 wD wN wL wM wR wS nN nL nR nS)), .val (.ref wS), .val (.int (0 : Int32)), .val (.ref nS), .unset, .unset]) rfl ?_
                show Steps p.tables e below (T39.setTop (mkF m 35 #[.val (.int p0), .val (.int (A0_7 p0 wD wN wL wM wR wS nN nL nR nS)), .val (.ref wS), .val (.int (0 : Int32)), .val (.ref nS), .unset, .unset] [])) _
                refine XS.aload X39.here hx rfl (hb hby at_35) rfl rfl ?_
                show Steps p.tables e below (T39.setTop (mkF m 37 #[.val (.int p0), .val (.int (A0_7 p0 wD wN wL wM wR wS nN nL nR nS)), .val (.ref wS), .val (.int (0 : Int32)), .val (.ref nS), .unset, .unset] [(.ref nS)])) _
                refine st40 _ ?_
                show Steps p.tables e below (T40.setTop (mkF m 40 #[.val (.int p0), .val (.int (A0_7 p0 wD wN wL wM wR wS nN nL nR nS)), .val (.ref wS), .val (.int (0 : Int32)), .val (.ref nS), .unset, .unset] [(.ref nN), (.ref nS)])) _
                refine Jvm.RoadKit.acmp (g := (mkF m 40 #[.val (.int p0), .val (.int (A0_7 p0 wD wN wL wM wR wS nN nL nR nS)), .val (.ref wS), .val (.int (0 : Int32)), .val (.ref nS), .unset, .unset] [(.ref nN), (.ref nS)])) X40 hx rfl rfl rfl (pc0 := 40) (pc' := 43) (same := false) rfl (hb hby at_40) rfl (decide_eq_false fun q => (Ne.symm ne_nN_nS) (Value.ref.inj q)) (by decide) (by decide) ?_
                show Steps p.tables e below (T40.setTop (mkF m 43 #[.val (.int p0), .val (.int (A0_7 p0 wD wN wL wM wR wS nN nL nR nS)), .val (.ref wS), .val (.int (0 : Int32)), .val (.ref nS), .unset, .unset] [])) _
                refine XS.aload X40.here hx rfl (hb hby at_43) rfl rfl ?_
                show Steps p.tables e below (T40.setTop (mkF m 45 #[.val (.int p0), .val (.int (A0_7 p0 wD wN wL wM wR wS nN nL nR nS)), .val (.ref wS), .val (.int (0 : Int32)), .val (.ref nS), .unset, .unset] [(.ref nS)])) _
                refine st41 _ ?_
                show Steps p.tables e below (T41.setTop (mkF m 48 #[.val (.int p0), .val (.int (A0_7 p0 wD wN wL wM wR wS nN nL nR nS)), .val (.ref wS), .val (.int (0 : Int32)), .val (.ref nS), .unset, .unset] [(.ref nL), (.ref nS)])) _
                refine Jvm.RoadKit.acmp (g := (mkF m 48 #[.val (.int p0), .val (.int (A0_7 p0 wD wN wL wM wR wS nN nL nR nS)), .val (.ref wS), .val (.int (0 : Int32)), .val (.ref nS), .unset, .unset] [(.ref nL), (.ref nS)])) X41 hx rfl rfl rfl (pc0 := 48) (pc' := 55) (same := false) rfl (hb hby at_48) rfl (decide_eq_false fun q => (Ne.symm ne_nL_nS) (Value.ref.inj q)) (by decide) (by decide) ?_
                show Steps p.tables e below (T41.setTop (mkF m 55 #[.val (.int p0), .val (.int (A0_7 p0 wD wN wL wM wR wS nN nL nR nS)), .val (.ref wS), .val (.int (0 : Int32)), .val (.ref nS), .unset, .unset] [])) _
                refine XS.iconst X41.here hx rfl (hb hby at_55) ?_
                show Steps p.tables e below (T41.setTop (mkF m 56 #[.val (.int p0), .val (.int (A0_7 p0 wD wN wL wM wR wS nN nL nR nS)), .val (.ref wS), .val (.int (0 : Int32)), .val (.ref nS), .unset, .unset] [(.int (0 : Int32))])) _
                refine XS.istore X41.here hx rfl (hb hby at_56) rfl (l' := #[.val (.int p0), .val (.int (A0_7 p0 wD wN wL wM wR wS nN nL nR nS)), .val (.ref wS), .val (.int (0 : Int32)), .val (.ref nS), .val (.int (0 : Int32)), .unset]) rfl ?_
                show Steps p.tables e below (T41.setTop (mkF m 58 #[.val (.int p0), .val (.int (A0_7 p0 wD wN wL wM wR wS nN nL nR nS)), .val (.ref wS), .val (.int (0 : Int32)), .val (.ref nS), .val (.int (0 : Int32)), .unset] [])) _
                refine XS.aloadN X41.here hx rfl (hb hby at_58) rfl rfl ?_
                show Steps p.tables e below (T41.setTop (mkF m 59 #[.val (.int p0), .val (.int (A0_7 p0 wD wN wL wM wR wS nN nL nR nS)), .val (.ref wS), .val (.int (0 : Int32)), .val (.ref nS), .val (.int (0 : Int32)), .unset] [(.ref wS)])) _
                refine st42.trans ?_
                show Steps p.tables e below (T42.setTop (mkF m 62 #[.val (.int p0), .val (.int (A0_7 p0 wD wN wL wM wR wS nN nL nR nS)), .val (.ref wS), .val (.int (0 : Int32)), .val (.ref nS), .val (.int (0 : Int32)), .unset] [(.int (F3 wS wN wL))])) _
                refine XS.istore X42.here hx rfl (hb hby at_62) rfl (l' := #[.val (.int p0), .val (.int (A0_7 p0 wD wN wL wM wR wS nN nL nR nS)), .val (.ref wS), .val (.int (0 : Int32)), .val (.ref nS), .val (.int (0 : Int32)), .val (.int (F3 wS wN wL))]) rfl ?_
                show Steps p.tables e below (T42.setTop (mkF m 64 #[.val (.int p0), .val (.int (A0_7 p0 wD wN wL wM wR wS nN nL nR nS)), .val (.ref wS), .val (.int (0 : Int32)), .val (.ref nS), .val (.int (0 : Int32)), .val (.int (F3 wS wN wL))] [])) _
                refine XS.iload X42.here hx rfl (hb hby at_64) rfl ?_
                show Steps p.tables e below (T42.setTop (mkF m 66 #[.val (.int p0), .val (.int (A0_7 p0 wD wN wL wM wR wS nN nL nR nS)), .val (.ref wS), .val (.int (0 : Int32)), .val (.ref nS), .val (.int (0 : Int32)), .val (.int (F3 wS wN wL))] [(.int (F3 wS wN wL))])) _
                refine XS.iloadN X42.here hx rfl (hb hby at_66) rfl ?_
                exact kt)
              by_cases hc67 : (F3 wS wN wL) = (0 : Int32)
              · obtain ⟨fs, hr, hrun, hended, hW, hsame⟩ := X42.leave (v := some (.int (1 : Int32))) (fun h => by rw [Bd.returns] at h; cases h)
                refine ⟨_, _, pre43 _ ?_, hrun, hended, _, _, rfl, ?_, ⟨_, rfl⟩, hW, hsame.mono (by decide) (by decide)⟩
                · show Steps p.tables e below (T42.setTop (mkF m 67 #[.val (.int p0), .val (.int (A0_7 p0 wD wN wL wM wR wS nN nL nR nS)), .val (.ref wS), .val (.int (0 : Int32)), .val (.ref nS), .val (.int (0 : Int32)), .val (.int (F3 wS wN wL))] [(.int (0 : Int32)), (.int (F3 wS wN wL))])) _
                  refine XS.icmpNo X42.here hx rfl (hb hby at_67) rfl (teq hc67).2 ?_
                  show Steps p.tables e below (T42.setTop (mkF m 70 #[.val (.int p0), .val (.int (A0_7 p0 wD wN wL wM wR wS nN nL nR nS)), .val (.ref wS), .val (.int (0 : Int32)), .val (.ref nS), .val (.int (0 : Int32)), .val (.int (F3 wS wN wL))] [])) _
                  refine XS.iload X42.here hx rfl (hb hby at_70) rfl ?_
                  show Steps p.tables e below (T42.setTop (mkF m 72 #[.val (.int p0), .val (.int (A0_7 p0 wD wN wL wM wR wS nN nL nR nS)), .val (.ref wS), .val (.int (0 : Int32)), .val (.ref nS), .val (.int (0 : Int32)), .val (.int (F3 wS wN wL))] [(.int (F3 wS wN wL))])) _
                  refine XS.iload X42.here hx rfl (hb hby at_72) rfl ?_
                  show Steps p.tables e below (T42.setTop (mkF m 74 #[.val (.int p0), .val (.int (A0_7 p0 wD wN wL wM wR wS nN nL nR nS)), .val (.ref wS), .val (.int (0 : Int32)), .val (.ref nS), .val (.int (0 : Int32)), .val (.int (F3 wS wN wL))] [(.int (0 : Int32)), (.int (F3 wS wN wL))])) _
                  refine XS.icmpNo X42.here hx rfl (hb hby at_74) rfl (teq hc67).2 ?_
                  show Steps p.tables e below (T42.setTop (mkF m 77 #[.val (.int p0), .val (.int (A0_7 p0 wD wN wL wM wR wS nN nL nR nS)), .val (.ref wS), .val (.int (0 : Int32)), .val (.ref nS), .val (.int (0 : Int32)), .val (.int (F3 wS wN wL))] [])) _
                  refine XS.iconst X42.here hx rfl (hb hby at_77) ?_
                  show Steps p.tables e below (T42.setTop (mkF m 78 #[.val (.int p0), .val (.int (A0_7 p0 wD wN wL wM wR wS nN nL nR nS)), .val (.ref wS), .val (.int (0 : Int32)), .val (.ref nS), .val (.int (0 : Int32)), .val (.int (F3 wS wN wL))] [(.int (1 : Int32))])) _
                  refine XS.goto X42.here hx rfl (pc0 := 78) (pc' := 82) rfl (hb hby at_78) (by decide) (by decide) ?_
                  show Steps p.tables e below (T42.setTop (mkF m 82 #[.val (.int p0), .val (.int (A0_7 p0 wD wN wL wM wR wS nN nL nR nS)), .val (.ref wS), .val (.int (0 : Int32)), .val (.ref nS), .val (.int (0 : Int32)), .val (.int (F3 wS wN wL))] [(.int (1 : Int32))])) _
                  exact retN X42 hx (t := .boolean) Bd.returns (by simp) (hb hby at_82) hr
                · show Q0 Z p0 wD wN wL wM wR wS nN nL nR nS h0 n0 _ T42.heap _
                  rw [e42]
                  exact ⟨(by unfold F0; simp only [if_neg hi0, if_neg hi1, if_neg hi2, if_neg hi3, if_neg hi4, if_pos hi5, if_pos hc67]), N42⟩
              · obtain ⟨fs, hr, hrun, hended, hW, hsame⟩ := X42.leave (v := some (.int (0 : Int32))) (fun h => by rw [Bd.returns] at h; cases h)
                refine ⟨_, _, pre43 _ ?_, hrun, hended, _, _, rfl, ?_, ⟨_, rfl⟩, hW, hsame.mono (by decide) (by decide)⟩
                · show Steps p.tables e below (T42.setTop (mkF m 67 #[.val (.int p0), .val (.int (A0_7 p0 wD wN wL wM wR wS nN nL nR nS)), .val (.ref wS), .val (.int (0 : Int32)), .val (.ref nS), .val (.int (0 : Int32)), .val (.int (F3 wS wN wL))] [(.int (0 : Int32)), (.int (F3 wS wN wL))])) _
                  refine XS.icmpYes X42.here hx rfl (pc0 := 67) (pc' := 81) rfl (hb hby at_67) rfl (feq hc67).2 (by decide) (by decide) ?_
                  show Steps p.tables e below (T42.setTop (mkF m 81 #[.val (.int p0), .val (.int (A0_7 p0 wD wN wL wM wR wS nN nL nR nS)), .val (.ref wS), .val (.int (0 : Int32)), .val (.ref nS), .val (.int (0 : Int32)), .val (.int (F3 wS wN wL))] [])) _
                  refine XS.iconst X42.here hx rfl (hb hby at_81) ?_
                  show Steps p.tables e below (T42.setTop (mkF m 82 #[.val (.int p0), .val (.int (A0_7 p0 wD wN wL wM wR wS nN nL nR nS)), .val (.ref wS), .val (.int (0 : Int32)), .val (.ref nS), .val (.int (0 : Int32)), .val (.int (F3 wS wN wL))] [(.int (0 : Int32))])) _
                  exact retN X42 hx (t := .boolean) Bd.returns (by simp) (hb hby at_82) hr
                · show Q0 Z p0 wD wN wL wM wR wS nN nL nR nS h0 n0 _ T42.heap _
                  rw [e42]
                  exact ⟨(by unfold F0; simp only [if_neg hi0, if_neg hi1, if_neg hi2, if_neg hi3, if_neg hi4, if_pos hi5, if_neg hc67]), N42⟩
            · exact absurd (own_six p0) (by unfold A0_7 at *; simp_all)
/-! THE PLAIN LAW -/
theorem own_ni {x y : Int32} (h : x ≠ y) : Value.int x ≠ Value.int y := fun q => h (Value.int.inj q)
theorem own_f0 {a wN wL : Addr} (h1 : wN ≠ a) (h2 : wL ≠ a) : F3 a wN wL = 0 := by unfold F3; rw [if_neg (Ne.symm h1), if_neg (Ne.symm h2)]
theorem own_law (p0 : Int32) (wD wN wL wM wR wS nN nL nR nS : Addr) (_ : nN ≠ nL) (_ : nN ≠ nR) (_ : nN ≠ nS) (_ : nL ≠ nR) (_ : nL ≠ nS)
    (a1 : wN ≠ wD) (a2 : wN ≠ wL) (a3 : wN ≠ wM) (a4 : wN ≠ wR) (a5 : wN ≠ wS) (b1 : wL ≠ wD) (b2 : wL ≠ wN) (b3 : wL ≠ wM) (b4 : wL ≠ wR) (b5 : wL ≠ wS) : F0 p0 wD wN wL wM wR wS nN nL nR nS = 1 := by
  have e1 : F3 wN wN wL = 1 := by unfold F3; rw [if_pos rfl]
  have e2 : F3 wL wN wL = 1 := by unfold F3; rw [if_neg b2, if_pos rfl]
  unfold F0
  rw [own_f0 a1 b1, own_f0 a3 b3, own_f0 a4 b4, own_f0 a5 b5, e1, e2]
  simp
set_option maxRecDepth 65536 in
set_option maxHeartbeats 40000000 in
theorem comes_1 {Post : Tables → Env → Array Value → State → Outcome → State → Prop} (hpost : ∀ tb e args s v u, (limb_1_1.after args s (.returned v) u = true ∧ limb_1_2.after args s (.returned v) u = true ∧ True) → FrameEnd s (.returned v) u (Jvm.fieldLocs frame_1_writes args s ++ Jvm.arrayLocs frame_1_arrays args s ++ Jvm.staticLocs frame_1_statics s) 0 0 → Post tb e args s (.returned v) u) :
    ArmFor flags0 classFile x code maxLocals ret World_1 tables_1 room_1 Calls_1 rest_1 Pre_1 Post := by
  intro l hfl _ _ p e ha hc hk s m args below hf hA hF happ hP
  obtain ⟨hcalls, hrest, hpre⟩ := hP
  obtain ⟨-, -, -, hnamed, -, -, -, hat⟩ := (Spec.applies_iff hf).mp happ
  obtain ⟨hg, hn⟩ := and_e (Cond.before_iff.mp (show (Jvm.Cond.and given_1 narrow_1).before args s = true from hpre))
  obtain ⟨g1, g2⟩ := and_e hg
  obtain ⟨g3, g4⟩ := and_e hn
  obtain ⟨g5, g6⟩ := and_e g4
  obtain ⟨g7, g8⟩ := and_e g6
  obtain ⟨g9, g10⟩ := and_e g8
  obtain ⟨g11, g12⟩ := and_e g10
  obtain ⟨g13, g14⟩ := and_e g12
  obtain ⟨g15, g16⟩ := and_e g14
  obtain ⟨g17, g18⟩ := and_e g16
  obtain ⟨g19, g20⟩ := and_e g18
  obtain ⟨g21, g22⟩ := and_e g20
  obtain ⟨g23, g24⟩ := and_e g22
  obtain ⟨g25, g26⟩ := and_e g24
  obtain ⟨g27, g28⟩ := and_e g26
  obtain ⟨g29, g30⟩ := and_e g28
  obtain ⟨g31, g32⟩ := and_e g30
  obtain ⟨g33, g34⟩ := and_e g32
  obtain ⟨g35, g36⟩ := and_e g34
  obtain ⟨g37, g38⟩ := and_e g36
  obtain ⟨g39, g40⟩ := and_e g38
  obtain ⟨g41, g42⟩ := and_e g40
  obtain ⟨g43, g44⟩ := and_e g42
  obtain ⟨g45, g46⟩ := and_e g44
  obtain ⟨g47, g48⟩ := and_e g46
  obtain ⟨g49, g50⟩ := and_e g48
  obtain ⟨g51, g52⟩ := and_e g50
  obtain ⟨w0, rfl⟩ : ∃ w0 : Value, args = #[w0] := by
    have hs : args.size = 1 := by simpa [Cond.value, given_1] using g1
    obtain ⟨L⟩ := args
    match L, hs with
    | [w0], _ => exact ⟨w0, rfl⟩
  have hw := fun d (hd : d ∈ tables_1) => atoms_spec (ws := Jvm.Cond.code x code maxLocals ret :: tables_1) hat d (List.mem_cons_of_mem _ hd)
  have hfit : Fit s := fun {y c} hc i hi => by
    obtain ⟨ha, rfl⟩ := Array.getElem?_eq_some_iff.mp hc
    have q := List.all_eq_true.mp ((Array.all_eq_true_iff_forall_mem.mp hF) _ (Array.getElem_mem ha)) i (List.mem_range.mpr hi)
    simpa [Array.getElem?_eq_getElem hi] using q
  obtain ⟨i0, ei0⟩ := is_v g2
  obtain rfl : w0 = (.int i0) := Option.some.inj ei0
  obtain ⟨a_Selection_Form_DEFAULT, ev_Selection_Form_DEFAULT⟩ := exa_v g3
  have S_Selection_Form_DEFAULT := Sta.start ev_Selection_Form_DEFAULT (Or.inr ⟨(hw _ (List.mem_of_getElem? (i := 6) rfl)), (hw _ (List.mem_of_getElem? (i := 7) rfl))⟩)
  have E_Selection_Form_DEFAULT := Exa.start ev_Selection_Form_DEFAULT g3
  obtain ⟨a_ItemPath_Form_NAME, ev_ItemPath_Form_NAME⟩ := exa_v g7
  have S_ItemPath_Form_NAME := Sta.start ev_ItemPath_Form_NAME (Or.inr ⟨(hw _ (List.mem_of_getElem? (i := 16) rfl)), (hw _ (List.mem_of_getElem? (i := 17) rfl))⟩)
  have E_ItemPath_Form_NAME := Exa.start ev_ItemPath_Form_NAME g7
  obtain ⟨a_ItemPath_Form_LABEL, ev_ItemPath_Form_LABEL⟩ := exa_v g9
  have S_ItemPath_Form_LABEL := Sta.start ev_ItemPath_Form_LABEL (Or.inr ⟨(hw _ (List.mem_of_getElem? (i := 16) rfl)), (hw _ (List.mem_of_getElem? (i := 19) rfl))⟩)
  have E_ItemPath_Form_LABEL := Exa.start ev_ItemPath_Form_LABEL g9
  obtain ⟨a_Selection_Form_NAMES, ev_Selection_Form_NAMES⟩ := exa_v g11
  have S_Selection_Form_NAMES := Sta.start ev_Selection_Form_NAMES (Or.inr ⟨(hw _ (List.mem_of_getElem? (i := 6) rfl)), (hw _ (List.mem_of_getElem? (i := 26) rfl))⟩)
  have E_Selection_Form_NAMES := Exa.start ev_Selection_Form_NAMES g11
  obtain ⟨a_Selection_Form_LABELS, ev_Selection_Form_LABELS⟩ := exa_v g17
  have S_Selection_Form_LABELS := Sta.start ev_Selection_Form_LABELS (Or.inr ⟨(hw _ (List.mem_of_getElem? (i := 6) rfl)), (hw _ (List.mem_of_getElem? (i := 28) rfl))⟩)
  have E_Selection_Form_LABELS := Exa.start ev_Selection_Form_LABELS g17
  obtain ⟨a_Selection_Form_LIST_NAME, ev_Selection_Form_LIST_NAME⟩ := exa_v g21
  have S_Selection_Form_LIST_NAME := Sta.start ev_Selection_Form_LIST_NAME (Or.inr ⟨(hw _ (List.mem_of_getElem? (i := 6) rfl)), (hw _ (List.mem_of_getElem? (i := 30) rfl))⟩)
  have E_Selection_Form_LIST_NAME := Exa.start ev_Selection_Form_LIST_NAME g21
  obtain ⟨a_Selection_Form_RESOURCE_TYPE, ev_Selection_Form_RESOURCE_TYPE⟩ := exa_v g35
  have S_Selection_Form_RESOURCE_TYPE := Sta.start ev_Selection_Form_RESOURCE_TYPE (Or.inr ⟨(hw _ (List.mem_of_getElem? (i := 6) rfl)), (hw _ (List.mem_of_getElem? (i := 34) rfl))⟩)
  have E_Selection_Form_RESOURCE_TYPE := Exa.start ev_Selection_Form_RESOURCE_TYPE g35
  obtain ⟨a_ItemPath_Form_RESOURCE_TYPE, ev_ItemPath_Form_RESOURCE_TYPE⟩ := exa_v g37
  have S_ItemPath_Form_RESOURCE_TYPE := Sta.start ev_ItemPath_Form_RESOURCE_TYPE (Or.inr ⟨(hw _ (List.mem_of_getElem? (i := 16) rfl)), (hw _ (List.mem_of_getElem? (i := 35) rfl))⟩)
  have E_ItemPath_Form_RESOURCE_TYPE := Exa.start ev_ItemPath_Form_RESOURCE_TYPE g37
  obtain ⟨a_Selection_Form_RESOURCE_NAME, ev_Selection_Form_RESOURCE_NAME⟩ := exa_v g45
  have S_Selection_Form_RESOURCE_NAME := Sta.start ev_Selection_Form_RESOURCE_NAME (Or.inr ⟨(hw _ (List.mem_of_getElem? (i := 6) rfl)), (hw _ (List.mem_of_getElem? (i := 37) rfl))⟩)
  have E_Selection_Form_RESOURCE_NAME := Exa.start ev_Selection_Form_RESOURCE_NAME g45
  obtain ⟨a_ItemPath_Form_RESOURCE_NAME, ev_ItemPath_Form_RESOURCE_NAME⟩ := exa_v g47
  have S_ItemPath_Form_RESOURCE_NAME := Sta.start ev_ItemPath_Form_RESOURCE_NAME (Or.inr ⟨(hw _ (List.mem_of_getElem? (i := 16) rfl)), (hw _ (List.mem_of_getElem? (i := 38) rfl))⟩)
  have E_ItemPath_Form_RESOURCE_NAME := Exa.start ev_ItemPath_Form_RESOURCE_NAME g47
  have O_Selection_Form_DEFAULT : Fld s s.heap a_Selection_Form_DEFAULT "java/lang/Enum" "ordinal" "I" (.int (0 : Int32)) := by
    obtain ⟨vx, vy, hvx, hvy, hk1, hk2⟩ := cmp_v (Or.inl g13)
    obtain rfl : Value.int (0 : Int32) = vy := Option.some.inj ((Term.int_eval (0 : Int32)).symm.trans hvy)
    obtain ⟨z, rfl⟩ : ∃ z, vx = Value.int z := hk2
    have hz := gotT (Cond.eq_ints hvx (Term.int_eval (0 : Int32))) g13
    subst hz; exact Fld.start ((fld_at ev_Selection_Form_DEFAULT).symm.trans hvx)
  have O_Selection_Form_NAMES : Fld s s.heap a_Selection_Form_NAMES "java/lang/Enum" "ordinal" "I" (.int (1 : Int32)) := by
    obtain ⟨vx, vy, hvx, hvy, hk1, hk2⟩ := cmp_v (Or.inl g15)
    obtain rfl : Value.int (1 : Int32) = vy := Option.some.inj ((Term.int_eval (1 : Int32)).symm.trans hvy)
    obtain ⟨z, rfl⟩ : ∃ z, vx = Value.int z := hk2
    have hz := gotT (Cond.eq_ints hvx (Term.int_eval (1 : Int32))) g15
    subst hz; exact Fld.start ((fld_at ev_Selection_Form_NAMES).symm.trans hvx)
  have O_Selection_Form_LABELS : Fld s s.heap a_Selection_Form_LABELS "java/lang/Enum" "ordinal" "I" (.int (2 : Int32)) := by
    obtain ⟨vx, vy, hvx, hvy, hk1, hk2⟩ := cmp_v (Or.inl g19)
    obtain rfl : Value.int (2 : Int32) = vy := Option.some.inj ((Term.int_eval (2 : Int32)).symm.trans hvy)
    obtain ⟨z, rfl⟩ : ∃ z, vx = Value.int z := hk2
    have hz := gotT (Cond.eq_ints hvx (Term.int_eval (2 : Int32))) g19
    subst hz; exact Fld.start ((fld_at ev_Selection_Form_LABELS).symm.trans hvx)
  have O_Selection_Form_LIST_NAME : Fld s s.heap a_Selection_Form_LIST_NAME "java/lang/Enum" "ordinal" "I" (.int (3 : Int32)) := by
    obtain ⟨vx, vy, hvx, hvy, hk1, hk2⟩ := cmp_v (Or.inl g25)
    obtain rfl : Value.int (3 : Int32) = vy := Option.some.inj ((Term.int_eval (3 : Int32)).symm.trans hvy)
    obtain ⟨z, rfl⟩ : ∃ z, vx = Value.int z := hk2
    have hz := gotT (Cond.eq_ints hvx (Term.int_eval (3 : Int32))) g25
    subst hz; exact Fld.start ((fld_at ev_Selection_Form_LIST_NAME).symm.trans hvx)
  have O_ItemPath_Form_LABEL : Fld s s.heap a_ItemPath_Form_LABEL "java/lang/Enum" "ordinal" "I" (.int (2 : Int32)) := by
    obtain ⟨vx, vy, hvx, hvy, hk1, hk2⟩ := cmp_v (Or.inl g29)
    obtain rfl : Value.int (2 : Int32) = vy := Option.some.inj ((Term.int_eval (2 : Int32)).symm.trans hvy)
    obtain ⟨z, rfl⟩ : ∃ z, vx = Value.int z := hk2
    have hz := gotT (Cond.eq_ints hvx (Term.int_eval (2 : Int32))) g29
    subst hz; exact Fld.start ((fld_at ev_ItemPath_Form_LABEL).symm.trans hvx)
  have O_ItemPath_Form_NAME : Fld s s.heap a_ItemPath_Form_NAME "java/lang/Enum" "ordinal" "I" (.int (3 : Int32)) := by
    obtain ⟨vx, vy, hvx, hvy, hk1, hk2⟩ := cmp_v (Or.inl g31)
    obtain rfl : Value.int (3 : Int32) = vy := Option.some.inj ((Term.int_eval (3 : Int32)).symm.trans hvy)
    obtain ⟨z, rfl⟩ : ∃ z, vx = Value.int z := hk2
    have hz := gotT (Cond.eq_ints hvx (Term.int_eval (3 : Int32))) g31
    subst hz; exact Fld.start ((fld_at ev_ItemPath_Form_NAME).symm.trans hvx)
  have O_ItemPath_Form_RESOURCE_TYPE : Fld s s.heap a_ItemPath_Form_RESOURCE_TYPE "java/lang/Enum" "ordinal" "I" (.int (0 : Int32)) := by
    obtain ⟨vx, vy, hvx, hvy, hk1, hk2⟩ := cmp_v (Or.inl g41)
    obtain rfl : Value.int (0 : Int32) = vy := Option.some.inj ((Term.int_eval (0 : Int32)).symm.trans hvy)
    obtain ⟨z, rfl⟩ : ∃ z, vx = Value.int z := hk2
    have hz := gotT (Cond.eq_ints hvx (Term.int_eval (0 : Int32))) g41
    subst hz; exact Fld.start ((fld_at ev_ItemPath_Form_RESOURCE_TYPE).symm.trans hvx)
  have O_Selection_Form_RESOURCE_TYPE : Fld s s.heap a_Selection_Form_RESOURCE_TYPE "java/lang/Enum" "ordinal" "I" (.int (5 : Int32)) := by
    obtain ⟨vx, vy, hvx, hvy, hk1, hk2⟩ := cmp_v (Or.inl g43)
    obtain rfl : Value.int (5 : Int32) = vy := Option.some.inj ((Term.int_eval (5 : Int32)).symm.trans hvy)
    obtain ⟨z, rfl⟩ : ∃ z, vx = Value.int z := hk2
    have hz := gotT (Cond.eq_ints hvx (Term.int_eval (5 : Int32))) g43
    subst hz; exact Fld.start ((fld_at ev_Selection_Form_RESOURCE_TYPE).symm.trans hvx)
  have O_ItemPath_Form_RESOURCE_NAME : Fld s s.heap a_ItemPath_Form_RESOURCE_NAME "java/lang/Enum" "ordinal" "I" (.int (1 : Int32)) := by
    obtain ⟨vx, vy, hvx, hvy, hk1, hk2⟩ := cmp_v (Or.inl g51)
    obtain rfl : Value.int (1 : Int32) = vy := Option.some.inj ((Term.int_eval (1 : Int32)).symm.trans hvy)
    obtain ⟨z, rfl⟩ : ∃ z, vx = Value.int z := hk2
    have hz := gotT (Cond.eq_ints hvx (Term.int_eval (1 : Int32))) g51
    subst hz; exact Fld.start ((fld_at ev_ItemPath_Form_RESOURCE_NAME).symm.trans hvx)
  have O_Selection_Form_RESOURCE_NAME : Fld s s.heap a_Selection_Form_RESOURCE_NAME "java/lang/Enum" "ordinal" "I" (.int (4 : Int32)) := by
    obtain ⟨vx, vy, hvx, hvy, hk1, hk2⟩ := cmp_v (Or.inl g52)
    obtain rfl : Value.int (4 : Int32) = vy := Option.some.inj ((Term.int_eval (4 : Int32)).symm.trans hvy)
    obtain ⟨z, rfl⟩ : ∃ z, vx = Value.int z := hk2
    have hz := gotT (Cond.eq_ints hvx (Term.int_eval (4 : Int32))) g52
    subst hz; exact Fld.start ((fld_at ev_Selection_Form_RESOURCE_NAME).symm.trans hvx)
  have I_Selection_Form_DEFAULT : Fld s s.heap a_Selection_Form_DEFAULT "com/example/groundweave/groundweave/protocol/pdu/Selection$Form" "itemForm" "Lcom/example/groundweave/groundweave/protocol/pdu/ItemPath$Form;" .null := Fld.start ((fld_at ev_Selection_Form_DEFAULT).symm.trans (null_v g5))
  have I_Selection_Form_LIST_NAME : Fld s s.heap a_Selection_Form_LIST_NAME "com/example/groundweave/groundweave/protocol/pdu/Selection$Form" "itemForm" "Lcom/example/groundweave/groundweave/protocol/pdu/ItemPath$Form;" .null := Fld.start ((fld_at ev_Selection_Form_LIST_NAME).symm.trans (null_v g23))
  have I_Selection_Form_LABELS : Fld s s.heap a_Selection_Form_LABELS "com/example/groundweave/groundweave/protocol/pdu/Selection$Form" "itemForm" "Lcom/example/groundweave/groundweave/protocol/pdu/ItemPath$Form;" (.ref a_ItemPath_Form_LABEL) := by
    obtain ⟨vx, vy, hvx, hvy, hk1, hk2⟩ := cmp_v (Or.inl g27)
    obtain rfl : Value.ref a_ItemPath_Form_LABEL = vy := Option.some.inj (ev_ItemPath_Form_LABEL.symm.trans hvy)
    have hr : vx.isRef = true := hk2.2
    have hz := gotT (eq_R hvx hvy hr rfl) g27
    subst hz; exact Fld.start ((fld_at ev_Selection_Form_LABELS).symm.trans hvx)
  have I_Selection_Form_NAMES : Fld s s.heap a_Selection_Form_NAMES "com/example/groundweave/groundweave/protocol/pdu/Selection$Form" "itemForm" "Lcom/example/groundweave/groundweave/protocol/pdu/ItemPath$Form;" (.ref a_ItemPath_Form_NAME) := by
    obtain ⟨vx, vy, hvx, hvy, hk1, hk2⟩ := cmp_v (Or.inl g33)
    obtain rfl : Value.ref a_ItemPath_Form_NAME = vy := Option.some.inj (ev_ItemPath_Form_NAME.symm.trans hvy)
    have hr : vx.isRef = true := hk2.2
    have hz := gotT (eq_R hvx hvy hr rfl) g33
    subst hz; exact Fld.start ((fld_at ev_Selection_Form_NAMES).symm.trans hvx)
  have I_Selection_Form_RESOURCE_TYPE : Fld s s.heap a_Selection_Form_RESOURCE_TYPE "com/example/groundweave/groundweave/protocol/pdu/Selection$Form" "itemForm" "Lcom/example/groundweave/groundweave/protocol/pdu/ItemPath$Form;" (.ref a_ItemPath_Form_RESOURCE_TYPE) := by
    obtain ⟨vx, vy, hvx, hvy, hk1, hk2⟩ := cmp_v (Or.inl g39)
    obtain rfl : Value.ref a_ItemPath_Form_RESOURCE_TYPE = vy := Option.some.inj (ev_ItemPath_Form_RESOURCE_TYPE.symm.trans hvy)
    have hr : vx.isRef = true := hk2.2
    have hz := gotT (eq_R hvx hvy hr rfl) g39
    subst hz; exact Fld.start ((fld_at ev_Selection_Form_RESOURCE_TYPE).symm.trans hvx)
  have I_Selection_Form_RESOURCE_NAME : Fld s s.heap a_Selection_Form_RESOURCE_NAME "com/example/groundweave/groundweave/protocol/pdu/Selection$Form" "itemForm" "Lcom/example/groundweave/groundweave/protocol/pdu/ItemPath$Form;" (.ref a_ItemPath_Form_RESOURCE_NAME) := by
    obtain ⟨vx, vy, hvx, hvy, hk1, hk2⟩ := cmp_v (Or.inl g49)
    obtain rfl : Value.ref a_ItemPath_Form_RESOURCE_NAME = vy := Option.some.inj (ev_ItemPath_Form_RESOURCE_NAME.symm.trans hvy)
    have hr : vx.isRef = true := hk2.2
    have hz := gotT (eq_R hvx hvy hr rfl) g49
    subst hz; exact Fld.start ((fld_at ev_Selection_Form_RESOURCE_NAME).symm.trans hvx)
  obtain ⟨n, o, h1, h2, h3, _, L, rfl, ⟨rfl, N⟩, hq⟩ := rm0 l s _ hw tables_1 i0 a_Selection_Form_DEFAULT a_Selection_Form_NAMES a_Selection_Form_LABELS a_Selection_Form_LIST_NAME a_Selection_Form_RESOURCE_NAME a_Selection_Form_RESOURCE_TYPE a_ItemPath_Form_NAME a_ItemPath_Form_LABEL a_ItemPath_Form_RESOURCE_NAME a_ItemPath_Form_RESOURCE_TYPE s.heap s.heap.size (Nat.le_refl _) S_Selection_Form_DEFAULT S_Selection_Form_NAMES S_Selection_Form_LABELS S_Selection_Form_LIST_NAME S_Selection_Form_RESOURCE_NAME S_Selection_Form_RESOURCE_TYPE S_ItemPath_Form_NAME S_ItemPath_Form_LABEL E_Selection_Form_DEFAULT I_Selection_Form_DEFAULT E_Selection_Form_NAMES I_Selection_Form_NAMES E_Selection_Form_LABELS I_Selection_Form_LABELS E_Selection_Form_LIST_NAME I_Selection_Form_LIST_NAME E_Selection_Form_RESOURCE_NAME I_Selection_Form_RESOURCE_NAME E_Selection_Form_RESOURCE_TYPE I_Selection_Form_RESOURCE_TYPE (Fld.ne O_ItemPath_Form_NAME O_ItemPath_Form_LABEL (own_ni (by decide))) (Fld.ne O_ItemPath_Form_NAME O_ItemPath_Form_RESOURCE_NAME (own_ni (by decide))) (Fld.ne O_ItemPath_Form_NAME O_ItemPath_Form_RESOURCE_TYPE (own_ni (by decide))) (Fld.ne O_ItemPath_Form_LABEL O_ItemPath_Form_RESOURCE_NAME (own_ni (by decide))) (Fld.ne O_ItemPath_Form_LABEL O_ItemPath_Form_RESOURCE_TYPE (own_ni (by decide))) (Fld.ne O_Selection_Form_NAMES O_Selection_Form_DEFAULT (own_ni (by decide))) (Fld.ne O_Selection_Form_NAMES O_Selection_Form_LABELS (own_ni (by decide))) (Fld.ne O_Selection_Form_NAMES O_Selection_Form_LIST_NAME (own_ni (by decide))) (Fld.ne O_Selection_Form_NAMES O_Selection_Form_RESOURCE_NAME (own_ni (by decide))) (Fld.ne O_Selection_Form_NAMES O_Selection_Form_RESOURCE_TYPE (own_ni (by decide))) (Fld.ne O_Selection_Form_LABELS O_Selection_Form_DEFAULT (own_ni (by decide))) (Fld.ne O_Selection_Form_LABELS O_Selection_Form_NAMES (own_ni (by decide))) (Fld.ne O_Selection_Form_LABELS O_Selection_Form_LIST_NAME (own_ni (by decide))) (Fld.ne O_Selection_Form_LABELS O_Selection_Form_RESOURCE_NAME (own_ni (by decide))) (Fld.ne O_Selection_Form_LABELS O_Selection_Form_RESOURCE_TYPE (own_ni (by decide))) p e ha hc hk s m _ below hf ((Spec.applies_iff_loose hf).mp happ).1 ⟨rfl, State.Warmed39.refl s, rfl⟩ trivial
  refine ⟨n, _, h1, h2, h3, hpost _ _ _ _ _ _ ⟨Cond.after_iff.mpr rfl, Cond.after_iff.mpr (eq_i res_at (Term.int_eval (1)) (congrArg Value.int (own_law i0 a_Selection_Form_DEFAULT a_Selection_Form_NAMES a_Selection_Form_LABELS a_Selection_Form_LIST_NAME a_Selection_Form_RESOURCE_NAME a_Selection_Form_RESOURCE_TYPE a_ItemPath_Form_NAME a_ItemPath_Form_LABEL a_ItemPath_Form_RESOURCE_NAME a_ItemPath_Form_RESOURCE_TYPE (Fld.ne O_ItemPath_Form_NAME O_ItemPath_Form_LABEL (own_ni (by decide))) (Fld.ne O_ItemPath_Form_NAME O_ItemPath_Form_RESOURCE_NAME (own_ni (by decide))) (Fld.ne O_ItemPath_Form_NAME O_ItemPath_Form_RESOURCE_TYPE (own_ni (by decide))) (Fld.ne O_ItemPath_Form_LABEL O_ItemPath_Form_RESOURCE_NAME (own_ni (by decide))) (Fld.ne O_ItemPath_Form_LABEL O_ItemPath_Form_RESOURCE_TYPE (own_ni (by decide))) (Fld.ne O_Selection_Form_NAMES O_Selection_Form_DEFAULT (own_ni (by decide))) (Fld.ne O_Selection_Form_NAMES O_Selection_Form_LABELS (own_ni (by decide))) (Fld.ne O_Selection_Form_NAMES O_Selection_Form_LIST_NAME (own_ni (by decide))) (Fld.ne O_Selection_Form_NAMES O_Selection_Form_RESOURCE_NAME (own_ni (by decide))) (Fld.ne O_Selection_Form_NAMES O_Selection_Form_RESOURCE_TYPE (own_ni (by decide))) (Fld.ne O_Selection_Form_LABELS O_Selection_Form_DEFAULT (own_ni (by decide))) (Fld.ne O_Selection_Form_LABELS O_Selection_Form_NAMES (own_ni (by decide))) (Fld.ne O_Selection_Form_LABELS O_Selection_Form_LIST_NAME (own_ni (by decide))) (Fld.ne O_Selection_Form_LABELS O_Selection_Form_RESOURCE_NAME (own_ni (by decide))) (Fld.ne O_Selection_Form_LABELS O_Selection_Form_RESOURCE_TYPE (own_ni (by decide)))))), trivial⟩ ⟨hq.1, hq.2.1, (hq.2.2.sift fun y hy => Or.inr (N y hy)).mono (by decide) (by decide)⟩⟩
theorem main_1_1 : Claimed_1_1 := comes_1 fun _ _ _ _ _ _ h hF => ⟨h.1, hF⟩
theorem main_1_2 : Claimed_1_2 := comes_1 fun _ _ _ _ _ _ h hF => ⟨h.2.1, hF⟩
end Jvm.Pilot.@@N@@
namespace Jvm.Pilot.@@N@@
open Jvm Jvm.ClassFile Sem Op Lib Jvm.Free Jvm.Stand Jvm.Pilot.@@N@@.Jvm.D
/-! MADE BY PROGRAM (witnessworld.py) out of the Statement's table words and the real class files: 13 classes; the members and pool entries that the words name. The judged class is class 1, her method 2. -/
namespace start1
open Jvm.ClassFile
def u (s : String) : CpInfo := .utf8 (stringToUtf16 s)
/-- a pool by its gaps: so many unusable entries, then the entry; so many at the end -/
def gap : Nat → List CpInfo → List CpInfo
  | 0, r => r
  | n + 1, r => .unusable :: gap n r
def poolList (es : List (Nat × CpInfo)) (last : Nat) : List CpInfo := es.foldr (fun e r => gap e.1 (e.2 :: r)) (gap last [])
def pool (es : List (Nat × CpInfo)) (last : Nat) : Array CpInfo := ⟨poolList es last⟩
def fileOf (pool : Array CpInfo) (this : Nat) (attrs : Array Attribute := #[]) (ms : Array MethodInfo := #[]) (fl : Nat := 33) (sup : Nat := 0) (ifs : Array Nat := #[]) (fds : Array FieldInfo := #[]) : ClassFile where
  minorVersion := 0
  majorVersion := 65
  constantPool := pool
  accessFlags := fl
  thisClass := this
  superClass := sup
  interfaces := ifs
  fields := fds
  methods := ms
  attributes := attrs
def plain (name : String) (sup : Option ClassId) : Class where
  name := name
  kind := .ordinary
  loader := none
  accessFlags := 33
  super := sup
  interfaces := #[]
  cf := none
  fields := #[]
  methods := #[]
  instanceTypes := #[]
  staticTypes := #[]
  resolved := #[]
  callSites := []
  init := .initialized
  statics := none
  mirror := none

def pool0 : Array CpInfo := pool [(5, u "<init>"), (0, u "()V"), (1, .class_ 10), (1, u "java/lang/Object")] 113

def k0m0 : Method := { name := "<init>", desc := "()V", sig := { parameters := [], returnType := none }, accessFlags := 1, code := none }
/-- java/lang/Object -/
def k0 : Class := { plain "java/lang/Object" none with
  accessFlags := 33
  interfaces := #[]
  cf := some (fileOf pool0 8 #[] #[{ accessFlags := 1, nameIndex := 5, descriptorIndex := 6, attributes := #[] }] 33 0 #[] #[])
  fields := #[]
  methods := #[k0m0]
  instanceTypes := #[]
  staticTypes := #[]
  resolved := Array.replicate 124 none
  statics := none }

def pool1 : Array CpInfo := pool [(2, .class_ 4), (1, u "java/lang/Object"), (0, u "<init>"), (0, u "()V"), (0, .fieldref 8 9), (0, .class_ 10), (0, .nameAndType 11 12), (0, u "com/example/groundweave/groundweave/protocol/pdu/Selection$Form"), (0, u "DEFAULT"), (0, u "Lcom/example/groundweave/groundweave/protocol/pdu/Selection$Form;"), (0, .fieldref 8 14), (0, .nameAndType 15 12), (0, u "NAMES"), (0, .fieldref 8 17), (0, .nameAndType 18 12), (0, u "LABELS"), (0, .fieldref 8 20), (0, .nameAndType 21 12), (0, u "LIST_NAME"), (0, .fieldref 8 23), (0, .nameAndType 24 12), (0, u "RESOURCE_NAME"), (0, .fieldref 8 26), (0, .nameAndType 27 12), (0, u "RESOURCE_TYPE"), (0, .integer 2147483647), (0, .methodref 30 31), (0, .class_ 32), (0, .nameAndType 33 34), (0, u "com/example/groundweave/groundweave/protocol/pdu/FormIsListPinLaw"), (0, u "pick"), (0, u "(I)Lcom/example/groundweave/groundweave/protocol/pdu/Selection$Form;"), (0, .methodref 8 36), (0, .nameAndType 37 38), (0, u "itemForm"), (0, u "()Lcom/example/groundweave/groundweave/protocol/pdu/ItemPath$Form;"), (0, .fieldref 40 41), (0, .class_ 42), (0, .nameAndType 43 44), (0, u "com/example/groundweave/groundweave/protocol/pdu/ItemPath$Form"), (0, u "NAME"), (0, u "Lcom/example/groundweave/groundweave/protocol/pdu/ItemPath$Form;"), (0, .fieldref 40 46), (0, .nameAndType 47 44), (0, u "LABEL"), (0, .methodref 8 49), (0, .nameAndType 50 51), (0, u "isList"), (0, u "()Z"), (3, u "law"), (0, u "(I)Z")] 8

def k1m0 : Method := { name := "<init>", desc := "()V", sig := { parameters := [], returnType := none }, accessFlags := 2, code := none }
def k1c1 : Code := { maxStack := 2, maxLocals := 1, code := method_2_code, exceptionTable := #[], attributes := #[] }
def k1m1 : Method := { name := "pick", desc := "(I)Lcom/example/groundweave/groundweave/protocol/pdu/Selection$Form;", sig := { parameters := [.int], returnType := some (.object "com/example/groundweave/groundweave/protocol/pdu/Selection$Form") }, accessFlags := 10, code := some k1c1 }
def k1c2 : Code := { maxStack := 2, maxLocals := 7, code := code, exceptionTable := #[], attributes := #[] }
def k1m2 : Method := { name := "law", desc := "(I)Z", sig := { parameters := [.int], returnType := some .boolean }, accessFlags := 9, code := some k1c2 }
/-- com/example/groundweave/groundweave/protocol/pdu/FormIsListPinLaw -/
def k1 : Class := { plain "com/example/groundweave/groundweave/protocol/pdu/FormIsListPinLaw" (some 0) with
  accessFlags := 49
  interfaces := #[]
  cf := some (fileOf pool1 30 #[] #[{ accessFlags := 2, nameIndex := 5, descriptorIndex := 6, attributes := #[] }, { accessFlags := 10, nameIndex := 33, descriptorIndex := 34, attributes := #[] }, { accessFlags := 9, nameIndex := 55, descriptorIndex := 56, attributes := #[] }] 49 2 #[] #[])
  fields := #[]
  methods := #[k1m0, k1m1, k1m2]
  instanceTypes := #[]
  staticTypes := #[]
  resolved := Array.replicate 65 none
  statics := none }

def pool2 : Array CpInfo := pool [(1, .class_ 2), (0, u "java/lang/constant/Constable"), (0, .class_ 4), (0, u "java/lang/Object")] 6

/-- java/lang/constant/Constable -/
def k2 : Class := { plain "java/lang/constant/Constable" (some 0) with
  accessFlags := 1537
  interfaces := #[]
  cf := some (fileOf pool2 1 #[] #[] 1537 3 #[] #[])
  fields := #[]
  methods := #[]
  instanceTypes := #[]
  staticTypes := #[]
  resolved := Array.replicate 11 none
  statics := none }

def pool3 : Array CpInfo := pool [(1, .class_ 2), (0, u "java/lang/Comparable"), (0, .class_ 4), (0, u "java/lang/Object")] 7

/-- java/lang/Comparable -/
def k3 : Class := { plain "java/lang/Comparable" (some 0) with
  accessFlags := 1537
  interfaces := #[]
  cf := some (fileOf pool3 1 #[] #[] 1537 3 #[] #[])
  fields := #[]
  methods := #[]
  instanceTypes := #[]
  staticTypes := #[]
  resolved := Array.replicate 12 none
  statics := none }

def pool4 : Array CpInfo := pool [(1, .class_ 2), (0, u "java/io/Serializable"), (0, .class_ 4), (0, u "java/lang/Object")] 2

/-- java/io/Serializable -/
def k4 : Class := { plain "java/io/Serializable" (some 0) with
  accessFlags := 1537
  interfaces := #[]
  cf := some (fileOf pool4 1 #[] #[] 1537 3 #[] #[])
  fields := #[]
  methods := #[]
  instanceTypes := #[]
  staticTypes := #[]
  resolved := Array.replicate 7 none
  statics := none }

def pool5 : Array CpInfo := pool [(2, .class_ 4), (1, u "java/lang/Enum"), (0, u "name"), (0, u "Ljava/lang/String;"), (2, u "ordinal"), (0, u "I"), (1, .class_ 14), (1, u "java/lang/Object"), (4, u "hash"), (86, .class_ 108), (1, u "java/lang/Enum$EnumDesc"), (2, .class_ 112), (0, u "java/lang/constant/Constable"), (0, .class_ 114), (0, u "java/lang/Comparable"), (0, .class_ 116), (0, u "java/io/Serializable")] 87

/-- java/lang/Enum -/
def k5 : Class := { plain "java/lang/Enum" (some 0) with
  accessFlags := 1057
  interfaces := #[2, 3, 4]
  cf := some (fileOf pool5 2 #[.nestMembers #[106]] #[] 1057 12 #[111, 113, 115] #[{ accessFlags := 18, nameIndex := 5, descriptorIndex := 6, attributes := #[] }, { accessFlags := 18, nameIndex := 9, descriptorIndex := 10, attributes := #[] }, { accessFlags := 2, nameIndex := 19, descriptorIndex := 10, attributes := #[] }])
  fields := #[{ name := "name", type := (.object "java/lang/String"), accessFlags := 18, slot := 0, constantValue := 0 }, { name := "ordinal", type := .int, accessFlags := 18, slot := 1, constantValue := 0 }, { name := "hash", type := .int, accessFlags := 2, slot := 2, constantValue := 0 }]
  methods := #[]
  instanceTypes := #[(.object "java/lang/String"), .int, .int]
  staticTypes := #[]
  resolved := Array.replicate 204 none
  statics := none }

def pool6 : Array CpInfo := pool [(1, .class_ 2), (0, u "com/example/groundweave/groundweave/protocol/pdu/Selection$Form"), (2, u "DEFAULT"), (0, u "Lcom/example/groundweave/groundweave/protocol/pdu/Selection$Form;"), (0, .fieldref 1 8), (0, .nameAndType 9 6), (0, u "NAMES"), (0, .fieldref 1 11), (0, .nameAndType 12 6), (0, u "LABELS"), (2, u "LIST_NAME"), (2, u "RESOURCE_NAME"), (2, u "RESOURCE_TYPE"), (2, u "$VALUES"), (0, u "[Lcom/example/groundweave/groundweave/protocol/pdu/Selection$Form;"), (6, .class_ 34), (1, u "java/lang/Enum"), (6, .fieldref 1 42), (0, .nameAndType 43 44), (0, u "itemForm"), (0, u "Lcom/example/groundweave/groundweave/protocol/pdu/ItemPath$Form;"), (34, u "()Lcom/example/groundweave/groundweave/protocol/pdu/ItemPath$Form;"), (0, u "isList"), (0, u "()Z"), (9, .class_ 92), (0, u "com/example/groundweave/groundweave/protocol/pdu/Selection")] 4

def k6c0 : Code := { maxStack := 1, maxLocals := 1, code := prog_78_method_4_code, exceptionTable := #[], attributes := #[] }
def k6m0 : Method := { name := "itemForm", desc := "()Lcom/example/groundweave/groundweave/protocol/pdu/ItemPath$Form;", sig := { parameters := [], returnType := some (.object "com/example/groundweave/groundweave/protocol/pdu/ItemPath$Form") }, accessFlags := 0, code := some k6c0 }
def k6c1 : Code := { maxStack := 2, maxLocals := 1, code := prog_78_method_5_code, exceptionTable := #[], attributes := #[] }
def k6m1 : Method := { name := "isList", desc := "()Z", sig := { parameters := [], returnType := some .boolean }, accessFlags := 0, code := some k6c1 }
/-- com/example/groundweave/groundweave/protocol/pdu/Selection$Form -/
def k6 : Class := { plain "com/example/groundweave/groundweave/protocol/pdu/Selection$Form" (some 5) with
  accessFlags := 16433
  interfaces := #[]
  cf := some (fileOf pool6 1 #[.nestHost 91] #[{ accessFlags := 0, nameIndex := 43, descriptorIndex := 79, attributes := #[] }, { accessFlags := 0, nameIndex := 80, descriptorIndex := 81, attributes := #[] }] 16433 32 #[] #[{ accessFlags := 16409, nameIndex := 5, descriptorIndex := 6, attributes := #[] }, { accessFlags := 16409, nameIndex := 9, descriptorIndex := 6, attributes := #[] }, { accessFlags := 16409, nameIndex := 12, descriptorIndex := 6, attributes := #[] }, { accessFlags := 16409, nameIndex := 15, descriptorIndex := 6, attributes := #[] }, { accessFlags := 16409, nameIndex := 18, descriptorIndex := 6, attributes := #[] }, { accessFlags := 16409, nameIndex := 21, descriptorIndex := 6, attributes := #[] }, { accessFlags := 18, nameIndex := 43, descriptorIndex := 44, attributes := #[] }, { accessFlags := 4122, nameIndex := 24, descriptorIndex := 25, attributes := #[] }])
  fields := #[{ name := "DEFAULT", type := (.object "com/example/groundweave/groundweave/protocol/pdu/Selection$Form"), accessFlags := 16409, slot := 0, constantValue := 0 }, { name := "NAMES", type := (.object "com/example/groundweave/groundweave/protocol/pdu/Selection$Form"), accessFlags := 16409, slot := 1, constantValue := 0 }, { name := "LABELS", type := (.object "com/example/groundweave/groundweave/protocol/pdu/Selection$Form"), accessFlags := 16409, slot := 2, constantValue := 0 }, { name := "LIST_NAME", type := (.object "com/example/groundweave/groundweave/protocol/pdu/Selection$Form"), accessFlags := 16409, slot := 3, constantValue := 0 }, { name := "RESOURCE_NAME", type := (.object "com/example/groundweave/groundweave/protocol/pdu/Selection$Form"), accessFlags := 16409, slot := 4, constantValue := 0 }, { name := "RESOURCE_TYPE", type := (.object "com/example/groundweave/groundweave/protocol/pdu/Selection$Form"), accessFlags := 16409, slot := 5, constantValue := 0 }, { name := "itemForm", type := (.object "com/example/groundweave/groundweave/protocol/pdu/ItemPath$Form"), accessFlags := 18, slot := 3, constantValue := 0 }, { name := "$VALUES", type := (.array (.object "com/example/groundweave/groundweave/protocol/pdu/Selection$Form")), accessFlags := 4122, slot := 6, constantValue := 0 }]
  methods := #[k6m0, k6m1]
  instanceTypes := #[(.object "java/lang/String"), .int, .int, (.object "com/example/groundweave/groundweave/protocol/pdu/ItemPath$Form")]
  staticTypes := #[(.object "com/example/groundweave/groundweave/protocol/pdu/Selection$Form"), (.object "com/example/groundweave/groundweave/protocol/pdu/Selection$Form"), (.object "com/example/groundweave/groundweave/protocol/pdu/Selection$Form"), (.object "com/example/groundweave/groundweave/protocol/pdu/Selection$Form"), (.object "com/example/groundweave/groundweave/protocol/pdu/Selection$Form"), (.object "com/example/groundweave/groundweave/protocol/pdu/Selection$Form"), (.array (.object "com/example/groundweave/groundweave/protocol/pdu/Selection$Form"))]
  resolved := Array.replicate 97 none
  statics := some 0 }

def pool7 : Array CpInfo := pool [(1, .class_ 2), (0, u "com/example/groundweave/groundweave/protocol/pdu/ItemPath$Form"), (2, u "RESOURCE_TYPE"), (0, u "Lcom/example/groundweave/groundweave/protocol/pdu/ItemPath$Form;"), (2, u "RESOURCE_NAME"), (2, u "LABEL"), (2, u "NAME"), (2, u "$VALUES"), (0, u "[Lcom/example/groundweave/groundweave/protocol/pdu/ItemPath$Form;"), (6, .class_ 28), (1, u "java/lang/Enum"), (27, .class_ 57), (0, u "com/example/groundweave/groundweave/protocol/pdu/ItemPath")] 2

/-- com/example/groundweave/groundweave/protocol/pdu/ItemPath$Form -/
def k7 : Class := { plain "com/example/groundweave/groundweave/protocol/pdu/ItemPath$Form" (some 5) with
  accessFlags := 16433
  interfaces := #[]
  cf := some (fileOf pool7 1 #[.nestHost 56] #[] 16433 26 #[] #[{ accessFlags := 16409, nameIndex := 5, descriptorIndex := 6, attributes := #[] }, { accessFlags := 16409, nameIndex := 9, descriptorIndex := 6, attributes := #[] }, { accessFlags := 16409, nameIndex := 12, descriptorIndex := 6, attributes := #[] }, { accessFlags := 16409, nameIndex := 15, descriptorIndex := 6, attributes := #[] }, { accessFlags := 4122, nameIndex := 18, descriptorIndex := 19, attributes := #[] }])
  fields := #[{ name := "RESOURCE_TYPE", type := (.object "com/example/groundweave/groundweave/protocol/pdu/ItemPath$Form"), accessFlags := 16409, slot := 0, constantValue := 0 }, { name := "RESOURCE_NAME", type := (.object "com/example/groundweave/groundweave/protocol/pdu/ItemPath$Form"), accessFlags := 16409, slot := 1, constantValue := 0 }, { name := "LABEL", type := (.object "com/example/groundweave/groundweave/protocol/pdu/ItemPath$Form"), accessFlags := 16409, slot := 2, constantValue := 0 }, { name := "NAME", type := (.object "com/example/groundweave/groundweave/protocol/pdu/ItemPath$Form"), accessFlags := 16409, slot := 3, constantValue := 0 }, { name := "$VALUES", type := (.array (.object "com/example/groundweave/groundweave/protocol/pdu/ItemPath$Form")), accessFlags := 4122, slot := 4, constantValue := 0 }]
  methods := #[]
  instanceTypes := #[(.object "java/lang/String"), .int, .int]
  staticTypes := #[(.object "com/example/groundweave/groundweave/protocol/pdu/ItemPath$Form"), (.object "com/example/groundweave/groundweave/protocol/pdu/ItemPath$Form"), (.object "com/example/groundweave/groundweave/protocol/pdu/ItemPath$Form"), (.object "com/example/groundweave/groundweave/protocol/pdu/ItemPath$Form"), (.array (.object "com/example/groundweave/groundweave/protocol/pdu/ItemPath$Form"))]
  resolved := Array.replicate 60 none
  statics := some 1 }

def pool8 : Array CpInfo := pool [(1, u "java/lang/Cloneable"), (0, .class_ 1), (0, u "java/lang/Object"), (0, .class_ 3)] 3

/-- java/lang/Cloneable -/
def k8 : Class := { plain "java/lang/Cloneable" (some 0) with
  accessFlags := 1537
  interfaces := #[]
  cf := some (fileOf pool8 2 #[] #[] 1537 4 #[] #[])
  fields := #[]
  methods := #[]
  instanceTypes := #[]
  staticTypes := #[]
  resolved := Array.replicate 8 none
  statics := none }

/-- the primitive byte -/
def k9 : Class := { plain "byte" none with kind := .primitive 'B', accessFlags := 0x411 }
/-- [B -/
def k10 : Class := { plain "[B" (some 0) with kind := .array 9 .byte, interfaces := #[8, 4], accessFlags := 1041 }

/-- the primitive int -/
def k11 : Class := { plain "int" none with kind := .primitive 'I', accessFlags := 0x411 }
/-- [I -/
def k12 : Class := { plain "[I" (some 0) with kind := .array 11 .int, interfaces := #[8, 4], accessFlags := 1041 }

def heap : Heap := #[{ cls := 6, slots := #[.ref 6, .ref 7, .ref 8, .ref 9, .ref 10, .ref 11, .null], vm := .statics 6 },
  { cls := 7, slots := #[.ref 2, .ref 3, .ref 4, .ref 5, .null], vm := .statics 7 },
  { cls := 7, slots := #[.null, .int 0, .int 0], vm := .none },
  { cls := 7, slots := #[.null, .int 1, .int 0], vm := .none },
  { cls := 7, slots := #[.null, .int 2, .int 0], vm := .none },
  { cls := 7, slots := #[.null, .int 3, .int 0], vm := .none },
  { cls := 6, slots := #[.null, .int 0, .int 0, .null], vm := .none },
  { cls := 6, slots := #[.null, .int 1, .int 0, .ref 5], vm := .none },
  { cls := 6, slots := #[.null, .int 2, .int 0, .ref 4], vm := .none },
  { cls := 6, slots := #[.null, .int 3, .int 0, .null], vm := .none },
  { cls := 6, slots := #[.null, .int 4, .int 0, .ref 3], vm := .none },
  { cls := 6, slots := #[.null, .int 5, .int 0, .ref 2], vm := .none }]
def classes : Array Class := #[k0, k1, k2, k3, k4, k5, k6, k7, k8, k9, k10, k11, k12]
def interned : List (Array UInt16 × Addr) := []
def slotsUsed : Nat := 48
def theMethod : MethodId := ⟨1, 2⟩
def args0 : Array Value := #[.int 5]
def aboutOver (below : List Frame) : State where
  vm := { classes := classes, interned := interned.toArray }
  heap := heap
  slotsUsed := slotsUsed
  threads := #[{ frames := .invoking theMethod args0 :: below }]
def below0 : List Frame := [.native { method := ⟨0, 0⟩, args := #[] }]
def about1 : State := aboutOver below0
def p0 : Program := .bare "" "" ""
def e0 : Env := launch0.env 0 0 0
theorem w_frames : about1.frames = Frame.invoking theMethod args0 :: below0 := rfl
set_option maxRecDepth 65536 in
theorem w_args : argsFit about1.vm theMethod args0 = true := by decide +kernel
set_option maxRecDepth 65536 in
theorem w_heap : heapFits about1 = true := by decide +kernel
set_option maxRecDepth 65536 in
theorem w_runnable : about1.curStatus? = some .runnable := by decide +kernel
set_option maxRecDepth 65536 in
theorem w_alone : about1.alone = true := by decide +kernel
set_option maxRecDepth 65536 in
theorem w_named : about1.methodNamed? x = some theMethod := by decide +kernel
set_option maxRecDepth 65536 in
theorem w_hears : about1.hears theMethod below0 = true := by decide +kernel
set_option maxRecDepth 65536 in
theorem w_ripe : about1.ripe theMethod args0 below0 = true := by decide +kernel
theorem w_running : about1.status = .running := rfl
set_option maxRecDepth 65536 in
theorem w_room : about1.hasRoom e0.platform room_1 = true :=
  launch0.hasRoom_least _ room_1 (by decide +kernel) (by decide +kernel) (by decide +kernel) (by decide +kernel) (by decide +kernel) (by decide +kernel)
theorem allAtoms_all (ts : List Jvm.Cond) (a : Array Jvm.Value) (st : Jvm.State) : (allAtoms ts).before a st = ts.all (fun c => c.before a st) := by
  induction ts with
  | nil => rfl
  | cons c t ih =>
    show (Jvm.Cond.and c (allAtoms t)).before a st = _
    rw [Jvm.Cond.before_and, ih, List.all_cons]
def words1 : List Jvm.Cond := Jvm.Cond.code x code maxLocals ret :: tables_1
/-- a 'code' word, met by the world's own term for the bytes: nothing is compared byte by byte -/
theorem code_word {y : MethodName} {bytes : ByteArray} {mx : Nat} {rt : Option FieldType} {a : Array Value} {s : State} {m : MethodId} {meth : Method} {c : Code} (h1 : s.methodNamed? y = some m) (h2 : s.vm.method? m = some meth) (h3 : meth.code = some c) (h4 : c.code = bytes)
    (h5 : (c.maxLocals == mx && c.exceptionTable.isEmpty && decide (c.maxStack ≤ mostOperands) && decide (meth.sig.returnType = rt) && !meth.locks && decide (parseMethodDescriptor y.desc = some meth.sig)) = true) : (Jvm.Cond.code y bytes mx rt).before a s = true := by
  simp only [Bool.and_eq_true, beq_iff_eq, Bool.not_eq_true', decide_eq_true_eq] at h5
  obtain ⟨⟨⟨⟨⟨g1, g2⟩, g3⟩, g4⟩, g5⟩, g6⟩ := h5
  simp [Cond.before, Cond.holds, Cond.value, h1, h2, h3, h4, g1, g2, g3, g4, g5, g6]
def isCode : Jvm.Cond → Bool
  | .code _ _ _ _ => true
  | _ => false
theorem all_split {L : List Jvm.Cond} {P : Jvm.Cond → Bool} (h1 : L.all (fun c => isCode c || P c) = true) (h2 : ∀ c ∈ L.filter isCode, P c = true) : L.all P = true := by
  refine List.all_eq_true.mpr fun c hc => ?_
  have h := List.all_eq_true.mp h1 c hc
  rcases Bool.eq_false_or_eq_true (isCode c) with hi | hi
  · exact h2 c (List.mem_filter.mpr ⟨hc, hi⟩)
  · simpa [hi] using h
set_option maxRecDepth 65536 in
theorem w_c0 : (Jvm.Cond.code x code maxLocals ret).before args0 about1 = true := code_word (m := ⟨1, 2⟩) (meth := k1m2) (c := k1c2) (by decide +kernel) rfl rfl rfl (by decide +kernel)
set_option maxRecDepth 65536 in
theorem w_c1 : (Jvm.Cond.code ({ cls := "com/example/groundweave/groundweave/protocol/pdu/FormIsListPinLaw", name := "pick", desc := "(I)Lcom/example/groundweave/groundweave/protocol/pdu/Selection$Form;" } : Jvm.MethodName) method_2_code (1 : Nat) (Option.some (Jvm.ClassFile.FieldType.object "com/example/groundweave/groundweave/protocol/pdu/Selection$Form"))).before args0 about1 = true := code_word (m := ⟨1, 1⟩) (meth := k1m1) (c := k1c1) (by decide +kernel) rfl rfl rfl (by decide +kernel)
set_option maxRecDepth 65536 in
theorem w_c2 : (Jvm.Cond.code ({ cls := "com/example/groundweave/groundweave/protocol/pdu/Selection$Form", name := "itemForm", desc := "()Lcom/example/groundweave/groundweave/protocol/pdu/ItemPath$Form;" } : Jvm.MethodName) prog_78_method_4_code (1 : Nat) (Option.some (Jvm.ClassFile.FieldType.object "com/example/groundweave/groundweave/protocol/pdu/ItemPath$Form"))).before args0 about1 = true := code_word (m := ⟨6, 0⟩) (meth := k6m0) (c := k6c0) (by decide +kernel) rfl rfl rfl (by decide +kernel)
set_option maxRecDepth 65536 in
theorem w_c3 : (Jvm.Cond.code ({ cls := "com/example/groundweave/groundweave/protocol/pdu/Selection$Form", name := "isList", desc := "()Z" } : Jvm.MethodName) prog_78_method_5_code (1 : Nat) (Option.some Jvm.ClassFile.FieldType.boolean)).before args0 about1 = true := code_word (m := ⟨6, 1⟩) (meth := k6m1) (c := k6c1) (by decide +kernel) rfl rfl rfl (by decide +kernel)
def codes1 : List Jvm.Cond := [Jvm.Cond.code x code maxLocals ret, Jvm.Cond.code ({ cls := "com/example/groundweave/groundweave/protocol/pdu/FormIsListPinLaw", name := "pick", desc := "(I)Lcom/example/groundweave/groundweave/protocol/pdu/Selection$Form;" } : Jvm.MethodName) method_2_code (1 : Nat) (Option.some (Jvm.ClassFile.FieldType.object "com/example/groundweave/groundweave/protocol/pdu/Selection$Form")), Jvm.Cond.code ({ cls := "com/example/groundweave/groundweave/protocol/pdu/Selection$Form", name := "itemForm", desc := "()Lcom/example/groundweave/groundweave/protocol/pdu/ItemPath$Form;" } : Jvm.MethodName) prog_78_method_4_code (1 : Nat) (Option.some (Jvm.ClassFile.FieldType.object "com/example/groundweave/groundweave/protocol/pdu/ItemPath$Form")), Jvm.Cond.code ({ cls := "com/example/groundweave/groundweave/protocol/pdu/Selection$Form", name := "isList", desc := "()Z" } : Jvm.MethodName) prog_78_method_5_code (1 : Nat) (Option.some Jvm.ClassFile.FieldType.boolean)]
set_option maxRecDepth 65536 in
theorem codes_eq : words1.filter isCode = codes1 := rfl
theorem w_codes : ∀ c ∈ words1.filter isCode, c.before args0 about1 = true := by
  rw [codes_eq]
  intro c hc
  simp only [codes1, List.mem_cons, List.not_mem_nil, or_false] at hc
  rcases hc with rfl | rfl | rfl | rfl
  · exact w_c0
  · exact w_c1
  · exact w_c2
  · exact w_c3
set_option maxRecDepth 65536 in
theorem w_t1 : (words1.take 24).all (fun c => isCode c || c.before args0 about1) = true := by decide +kernel
set_option maxRecDepth 65536 in
theorem w_t2 : (words1.drop 24).all (fun c => isCode c || c.before args0 about1) = true := by decide +kernel
theorem w_tables : (allAtoms (Jvm.Cond.code x code maxLocals ret :: tables_1)).before args0 about1 = true := by
  rw [allAtoms_all]
  show words1.all (fun c => c.before args0 about1) = true
  refine all_split ?_ w_codes
  rw [← List.take_append_drop 24 words1, List.all_append, w_t1, w_t2]
  rfl
set_option maxRecDepth 65536 in
theorem w_case : (Jvm.Cond.and given_1 narrow_1).before args0 about1 = true := by decide +kernel
theorem w_applies : (headSpec (Jvm.Cond.code x code maxLocals ret :: tables_1) room_1).applies x e0.platform about1 = true :=
  (Spec.applies_iff w_frames).mpr ⟨w_running, w_runnable, w_alone, w_named, w_hears, w_ripe, w_room, w_tables⟩
theorem atStart : AtStart classFile x code maxLocals ret World_1 tables_1 room_1 Calls_1 rest_1 Pre_1 launch0 p0 e0 about1 theMethod args0 below0 :=
  ⟨lists_1, trivial, launch0.admits_env _ _ _, launch0.least_env, fairChoices_fair.cas, fairChoices_fair.clock, w_frames, w_args, w_heap, w_applies, trivial, trivial, w_case⟩
end start1
theorem witness_1 : WitnessClaimed_1 := ⟨start1.p0, start1.e0, start1.about1, start1.theMethod, start1.args0, start1.below0, start1.atStart⟩
end Jvm.Pilot.@@N@@
