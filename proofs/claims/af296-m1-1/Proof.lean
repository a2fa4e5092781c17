import JvmDerived
import JvmDerived.Pilot.@@N@@Statement
import JvmDerived.Pilot.@@N@@Code
set_option linter.unusedVariables false
set_option linter.unusedSimpArgs false
namespace Jvm.RoadKit
open Sem ClassFile Op Lib Jvm.Stand Jvm.Free Jvm.LawKit
section New
variable {p : Program} {l : Launch} {e : Env} {R : Room} {s : State} {m : MethodId} {args : Array Value} {below : List Frame} {meth : Method} {c : Code} {T : State} {locs : List Loc} {cells slots : Nat}
theorem retI (X : Stand p l e R s m args below meth c T locs cells slots) (hx : p.tables.exec = Jvm.exec) {pc : Nat} {Ls : Array Slot} {z : Int32} {rest : List Value} (hret : meth.sig.returnType = some .int) (hd : decode c.code pc = .ok (.ireturn, 1)) {fs : List Frame}
    (hl : ∀ (f : JFrame) (acts : List Action), f.method = m → f.locked = none → f.entered = [] → (doReturn e (T.setTop f) acts (some (.int z))).1 = T.setFrames fs) : Steps p.tables e below (T.setTop (mkF m pc Ls (.int z :: rest))) (T.setFrames fs) := by
  have hm' : T.vm.method? m = some meth := X.method'
  have hn : narrow .int (.int z) = .int z := rfl
  show Steps p.tables e below (T.setTop { method := m, pc := pc, locals := Ls, stack := _ :: rest, locked := none }) _
  jvm_step X.here [X.here.top, hx, hd, hm', hret, hn]
  first | (intro acts; rw [hl _ acts rfl rfl rfl]) | rw [hl _ _ rfl rfl rfl]
  exact Steps.refl _
end New
end Jvm.RoadKit
namespace Jvm.Pilot.@@N@@
open Jvm Jvm.ClassFile Sem Op Lib Jvm.Free Jvm.Stand Jvm.LawKit Jvm.RoadKit Bundle Jvm.Pilot.@@N@@.Jvm.D
theorem d1_0 : decode method_2_code 0 = .ok (.iload_n 0, 1) := by decide +kernel
theorem d1_1 : decode method_2_code 1 = .ok (.ifCond .ne 7, 3) := by decide +kernel
theorem d1_4 : decode method_2_code 4 = .ok (.getstatic 7, 3) := by decide +kernel
theorem d1_7 : decode method_2_code 7 = .ok (.areturn, 1) := by decide +kernel
theorem d1_8 : decode method_2_code 8 = .ok (.iload_n 0, 1) := by decide +kernel
theorem d1_9 : decode method_2_code 9 = .ok (.iconst 1, 1) := by decide +kernel
theorem d1_10 : decode method_2_code 10 = .ok (.if_icmp .ne 7, 3) := by decide +kernel
theorem d1_13 : decode method_2_code 13 = .ok (.getstatic 13, 3) := by decide +kernel
theorem d1_16 : decode method_2_code 16 = .ok (.areturn, 1) := by decide +kernel
theorem d1_17 : decode method_2_code 17 = .ok (.iload_n 0, 1) := by decide +kernel
theorem d1_18 : decode method_2_code 18 = .ok (.iconst 2, 1) := by decide +kernel
theorem d1_19 : decode method_2_code 19 = .ok (.if_icmp .ne 7, 3) := by decide +kernel
theorem d1_22 : decode method_2_code 22 = .ok (.getstatic 16, 3) := by decide +kernel
theorem d1_25 : decode method_2_code 25 = .ok (.areturn, 1) := by decide +kernel
theorem d1_26 : decode method_2_code 26 = .ok (.getstatic 19, 3) := by decide +kernel
theorem d1_29 : decode method_2_code 29 = .ok (.areturn, 1) := by decide +kernel
theorem pn_com_example_event_to_verdict_eventtoverdict_engine_TruthAndPinLaw : plainName "com/example/event_to_verdict/eventtoverdict/engine/TruthAndPinLaw" = true := by first | (simp [plainName, overriddenIn]; done) | decide +kernel
theorem ef_1 (p0 : Int32) (wT wF wB wE : Addr) (m : MethodId) : entryFrame m #[(.int p0)] 1 = mkF m 0 #[.val (.int p0)] [] := by first | (simp [entryFrame, mkF, argsToLocals, Value.category]; done) | rfl
def F1 (p0 : Int32) (wT wF wB wE : Addr) : Addr := (if p0 = (0 : Int32) then wT else (if p0 = (1 : Int32) then wF else (if p0 = (2 : Int32) then wB else wE)))
def Q1 (Z : State) (p0 : Int32) (wT wF wB wE : Addr) (h0 : Heap) (n0 : Nat) (v : Option Value) (h : Heap) (L : List Loc) : Prop := v = some (.ref (F1 p0 wT wF wB wE)) ∧ Fr n0 L ∧ h = h0
set_option maxRecDepth 65536 in
set_option maxHeartbeats 40000000 in
theorem rm1 (l : Launch) (Z : State) (a0 : Array Value) (hw : ∀ d ∈ tables_1, d.before a0 Z = true) (ws : List Jvm.Cond) (p0 : Int32) (wT wF wB wE : Addr) (h0 : Heap) (n0 : Nat) (Z0 : n0 ≤ h0.size) (S_TRUE : Sta Z h0 "com/example/event_to_verdict/eventtoverdict/engine/Truth" "TRUE" "Lcom/example/event_to_verdict/eventtoverdict/engine/Truth;" (.ref wT)) (S_FALSE : Sta Z h0 "com/example/event_to_verdict/eventtoverdict/engine/Truth" "FALSE" "Lcom/example/event_to_verdict/eventtoverdict/engine/Truth;" (.ref wF)) (S_BOTTOM : Sta Z h0 "com/example/event_to_verdict/eventtoverdict/engine/Truth" "BOTTOM" "Lcom/example/event_to_verdict/eventtoverdict/engine/Truth;" (.ref wB)) (S_ERROR : Sta Z h0 "com/example/event_to_verdict/eventtoverdict/engine/Truth" "ERROR" "Lcom/example/event_to_verdict/eventtoverdict/engine/Truth;" (.ref wE)) :
    MetFree l (⟨"com/example/event_to_verdict/eventtoverdict/engine/TruthAndPinLaw", "pick", "(I)Lcom/example/event_to_verdict/eventtoverdict/engine/Truth;"⟩ : MethodName) (head1 (Jvm.Cond.code (⟨"com/example/event_to_verdict/eventtoverdict/engine/TruthAndPinLaw", "pick", "(I)Lcom/example/event_to_verdict/eventtoverdict/engine/Truth;"⟩ : MethodName) method_2_code 1 (some (.object "com/example/event_to_verdict/eventtoverdict/engine/Truth")) :: ws) ({ frames := 0, cells := 0, slots := 0, locals := 0 } : Room)) (fun a U => a = #[(.int p0)] ∧ Z.Warmed39 U.vm ∧ U.heap = h0) (fun _ _ _ _ _ => True) (fun _ U o U' => ∃ v L, o = .returned v ∧ Q1 Z p0 wT wF wB wE h0 n0 v U'.heap L ∧ FrameEnd U o U' L ({ frames := 0, cells := 0, slots := 0, locals := 0 } : Room).cells ({ frames := 0, cells := 0, slots := 0, locals := 0 } : Room).slots) := by
  refine MetFree.of_bodySF (plainFor_of_name pn_com_example_event_to_verdict_eventtoverdict_engine_TruthAndPinLaw) hisR ?_
  intro p e s m args below meth c s₁ Bd hml0 hP hK
  obtain ⟨rfl, hZ, hh⟩ := hP
  have hx := Bd.exec
  have hby := Bd.bytes
  have hml : c.maxLocals = 1 := hml0
  have hown : s.vm.findClass "com/example/event_to_verdict/eventtoverdict/engine/TruthAndPinLaw" = some m.cls := findClass_of_methodNamed Bd.named
  have hnm := (name_of_methodNamed Bd.named Bd.method).1
  have X0 : Stand p l e ({ frames := 0, cells := 0, slots := 0, locals := 0 } : Room) s m #[(.int p0)] below meth c s₁ [] 0 0 := Stand.of_body Bd
  have e0 : s₁.heap = h0 := by rw [← hh, Bd.state]; rfl
  have N0 := Fr.nil n0
  have pre0 : ∀ t, Steps p.tables e below (s₁.setTop (mkF m 0 #[.val (.int p0)] [])) t → Steps p.tables e below (s₁.setTop (entryFrame m #[(.int p0)] 1)) t := fun t k => castTop (ef_1 p0 wT wF wB wE m) k
  have pre1 : ∀ t, Steps p.tables e below (s₁.setTop (mkF m 1 #[.val (.int p0)] [(.int p0)])) t → Steps p.tables e below (s₁.setTop (entryFrame m #[(.int p0)] 1)) t := fun t kt => pre0 t (by
    show Steps p.tables e below (s₁.setTop (mkF m 0 #[.val (.int p0)] [])) _
    refine XS.iloadN X0.here hx rfl (hb hby d1_0) rfl ?_
    exact kt)
  by_cases hc1 : p0 = (0 : Int32)
  · obtain ⟨T2, X2, e2, st2⟩ := getS2 X0 hx hZ hown (host := "") (Or.inl (hw _ (List.mem_of_getElem? (i := 4) rfl))) Via.refl e0 S_TRUE (g := (mkF m 4 #[.val (.int p0)] [])) rfl (hb hby d1_4)
    obtain ⟨fs, hr, hrun, hended, hW, hsame⟩ := X2.leave (v := some (.ref wT)) (fun h => by rw [Bd.returns] at h; cases h)
    refine ⟨_, _, pre1 _ ?_, hrun, hended, _, _, rfl, ?_, ⟨_, rfl⟩, hW, hsame.mono (by decide) (by decide)⟩
    · show Steps p.tables e below (s₁.setTop (mkF m 1 #[.val (.int p0)] [(.int p0)])) _
      refine XS.ifNo X0.here hx rfl (hb hby d1_1) rfl ((if0 _ _).trans (teq hc1).2) ?_
      show Steps p.tables e below (s₁.setTop (mkF m 4 #[.val (.int p0)] [])) _
      refine st2 _ ?_
      show Steps p.tables e below (T2.setTop (mkF m 7 #[.val (.int p0)] [(.ref wT)])) _
      exact retOut X2 hx Bd.returns rfl (Or.inr (Or.inr (Or.inr (Or.inr ⟨rfl, rfl, rfl⟩)))) (hb hby d1_7) hr
    · show Q1 Z p0 wT wF wB wE h0 n0 _ T2.heap _
      rw [e2]
      exact ⟨(by unfold F1; simp only [if_pos hc1]), N0, rfl⟩
  · have pre3 : ∀ t, Steps p.tables e below (s₁.setTop (mkF m 10 #[.val (.int p0)] [(.int (1 : Int32)), (.int p0)])) t → Steps p.tables e below (s₁.setTop (entryFrame m #[(.int p0)] 1)) t := fun t kt => pre1 t (by
      show Steps p.tables e below (s₁.setTop (mkF m 1 #[.val (.int p0)] [(.int p0)])) _
      refine XS.ifYes X0.here hx rfl (pc0 := 1) (pc' := 8) rfl (hb hby d1_1) rfl ((if0 _ _).trans (feq hc1).2) (by decide) (by decide) ?_
      show Steps p.tables e below (s₁.setTop (mkF m 8 #[.val (.int p0)] [])) _
      refine XS.iloadN X0.here hx rfl (hb hby d1_8) rfl ?_
      show Steps p.tables e below (s₁.setTop (mkF m 9 #[.val (.int p0)] [(.int p0)])) _
      refine XS.iconst X0.here hx rfl (hb hby d1_9) ?_
      exact kt)
    by_cases hc10 : p0 = (1 : Int32)
    · obtain ⟨T4, X4, e4, st4⟩ := getS2 X0 hx hZ hown (host := "") (Or.inl (hw _ (List.mem_of_getElem? (i := 20) rfl))) Via.refl e0 S_FALSE (g := (mkF m 13 #[.val (.int p0)] [])) rfl (hb hby d1_13)
      obtain ⟨fs, hr, hrun, hended, hW, hsame⟩ := X4.leave (v := some (.ref wF)) (fun h => by rw [Bd.returns] at h; cases h)
      refine ⟨_, _, pre3 _ ?_, hrun, hended, _, _, rfl, ?_, ⟨_, rfl⟩, hW, hsame.mono (by decide) (by decide)⟩
      · show Steps p.tables e below (s₁.setTop (mkF m 10 #[.val (.int p0)] [(.int (1 : Int32)), (.int p0)])) _
        refine XS.icmpNo X0.here hx rfl (hb hby d1_10) rfl (teq hc10).2 ?_
        show Steps p.tables e below (s₁.setTop (mkF m 13 #[.val (.int p0)] [])) _
        refine st4 _ ?_
        show Steps p.tables e below (T4.setTop (mkF m 16 #[.val (.int p0)] [(.ref wF)])) _
        exact retOut X4 hx Bd.returns rfl (Or.inr (Or.inr (Or.inr (Or.inr ⟨rfl, rfl, rfl⟩)))) (hb hby d1_16) hr
      · show Q1 Z p0 wT wF wB wE h0 n0 _ T4.heap _
        rw [e4]
        exact ⟨(by unfold F1; simp only [if_neg hc1, if_pos hc10]), N0, rfl⟩
    · have pre5 : ∀ t, Steps p.tables e below (s₁.setTop (mkF m 19 #[.val (.int p0)] [(.int (2 : Int32)), (.int p0)])) t → Steps p.tables e below (s₁.setTop (entryFrame m #[(.int p0)] 1)) t := fun t kt => pre3 t (by
        show Steps p.tables e below (s₁.setTop (mkF m 10 #[.val (.int p0)] [(.int (1 : Int32)), (.int p0)])) _
        refine XS.icmpYes X0.here hx rfl (pc0 := 10) (pc' := 17) rfl (hb hby d1_10) rfl (feq hc10).2 (by decide) (by decide) ?_
        show Steps p.tables e below (s₁.setTop (mkF m 17 #[.val (.int p0)] [])) _
        refine XS.iloadN X0.here hx rfl (hb hby d1_17) rfl ?_
        show Steps p.tables e below (s₁.setTop (mkF m 18 #[.val (.int p0)] [(.int p0)])) _
        refine XS.iconst X0.here hx rfl (hb hby d1_18) ?_
        exact kt)
      by_cases hc19 : p0 = (2 : Int32)
      · obtain ⟨T6, X6, e6, st6⟩ := getS2 X0 hx hZ hown (host := "") (Or.inl (hw _ (List.mem_of_getElem? (i := 21) rfl))) Via.refl e0 S_BOTTOM (g := (mkF m 22 #[.val (.int p0)] [])) rfl (hb hby d1_22)
        obtain ⟨fs, hr, hrun, hended, hW, hsame⟩ := X6.leave (v := some (.ref wB)) (fun h => by rw [Bd.returns] at h; cases h)
        refine ⟨_, _, pre5 _ ?_, hrun, hended, _, _, rfl, ?_, ⟨_, rfl⟩, hW, hsame.mono (by decide) (by decide)⟩
        · show Steps p.tables e below (s₁.setTop (mkF m 19 #[.val (.int p0)] [(.int (2 : Int32)), (.int p0)])) _
          refine XS.icmpNo X0.here hx rfl (hb hby d1_19) rfl (teq hc19).2 ?_
          show Steps p.tables e below (s₁.setTop (mkF m 22 #[.val (.int p0)] [])) _
          refine st6 _ ?_
          show Steps p.tables e below (T6.setTop (mkF m 25 #[.val (.int p0)] [(.ref wB)])) _
          exact retOut X6 hx Bd.returns rfl (Or.inr (Or.inr (Or.inr (Or.inr ⟨rfl, rfl, rfl⟩)))) (hb hby d1_25) hr
        · show Q1 Z p0 wT wF wB wE h0 n0 _ T6.heap _
          rw [e6]
          exact ⟨(by unfold F1; simp only [if_neg hc1, if_neg hc10, if_pos hc19]), N0, rfl⟩
      · obtain ⟨T7, X7, e7, st7⟩ := getS2 X0 hx hZ hown (host := "") (Or.inl (hw _ (List.mem_of_getElem? (i := 7) rfl))) Via.refl e0 S_ERROR (g := (mkF m 26 #[.val (.int p0)] [])) rfl (hb hby d1_26)
        obtain ⟨fs, hr, hrun, hended, hW, hsame⟩ := X7.leave (v := some (.ref wE)) (fun h => by rw [Bd.returns] at h; cases h)
        refine ⟨_, _, pre5 _ ?_, hrun, hended, _, _, rfl, ?_, ⟨_, rfl⟩, hW, hsame.mono (by decide) (by decide)⟩
        · show Steps p.tables e below (s₁.setTop (mkF m 19 #[.val (.int p0)] [(.int (2 : Int32)), (.int p0)])) _
          refine XS.icmpYes X0.here hx rfl (pc0 := 19) (pc' := 26) rfl (hb hby d1_19) rfl (feq hc19).2 (by decide) (by decide) ?_
          show Steps p.tables e below (s₁.setTop (mkF m 26 #[.val (.int p0)] [])) _
          refine st7 _ ?_
          show Steps p.tables e below (T7.setTop (mkF m 29 #[.val (.int p0)] [(.ref wE)])) _
          exact retOut X7 hx Bd.returns rfl (Or.inr (Or.inr (Or.inr (Or.inr ⟨rfl, rfl, rfl⟩)))) (hb hby d1_29) hr
        · show Q1 Z p0 wT wF wB wE h0 n0 _ T7.heap _
          rw [e7]
          exact ⟨(by unfold F1; simp only [if_neg hc1, if_neg hc10, if_neg hc19]), N0, rfl⟩
theorem d2_0 : decode prog_24_method_6_code 0 = .ok (.aload_n 0, 1) := by decide +kernel
theorem d2_1 : decode prog_24_method_6_code 1 = .ok (.getstatic 7, 3) := by decide +kernel
theorem d2_4 : decode prog_24_method_6_code 4 = .ok (.if_acmp .eq 10, 3) := by decide +kernel
theorem d2_7 : decode prog_24_method_6_code 7 = .ok (.aload_n 1, 1) := by decide +kernel
theorem d2_8 : decode prog_24_method_6_code 8 = .ok (.getstatic 7, 3) := by decide +kernel
theorem d2_11 : decode prog_24_method_6_code 11 = .ok (.if_acmp .ne 7, 3) := by decide +kernel
theorem d2_14 : decode prog_24_method_6_code 14 = .ok (.getstatic 7, 3) := by decide +kernel
theorem d2_17 : decode prog_24_method_6_code 17 = .ok (.areturn, 1) := by decide +kernel
theorem d2_18 : decode prog_24_method_6_code 18 = .ok (.aload_n 0, 1) := by decide +kernel
theorem d2_19 : decode prog_24_method_6_code 19 = .ok (.getstatic 13, 3) := by decide +kernel
theorem d2_22 : decode prog_24_method_6_code 22 = .ok (.if_acmp .eq 10, 3) := by decide +kernel
theorem d2_25 : decode prog_24_method_6_code 25 = .ok (.aload_n 1, 1) := by decide +kernel
theorem d2_26 : decode prog_24_method_6_code 26 = .ok (.getstatic 13, 3) := by decide +kernel
theorem d2_29 : decode prog_24_method_6_code 29 = .ok (.if_acmp .ne 7, 3) := by decide +kernel
theorem d2_32 : decode prog_24_method_6_code 32 = .ok (.getstatic 13, 3) := by decide +kernel
theorem d2_35 : decode prog_24_method_6_code 35 = .ok (.areturn, 1) := by decide +kernel
theorem d2_36 : decode prog_24_method_6_code 36 = .ok (.aload_n 0, 1) := by decide +kernel
theorem d2_37 : decode prog_24_method_6_code 37 = .ok (.getstatic 10, 3) := by decide +kernel
theorem d2_40 : decode prog_24_method_6_code 40 = .ok (.if_acmp .eq 10, 3) := by decide +kernel
theorem d2_43 : decode prog_24_method_6_code 43 = .ok (.aload_n 1, 1) := by decide +kernel
theorem d2_44 : decode prog_24_method_6_code 44 = .ok (.getstatic 10, 3) := by decide +kernel
theorem d2_47 : decode prog_24_method_6_code 47 = .ok (.if_acmp .ne 9, 3) := by decide +kernel
theorem d2_50 : decode prog_24_method_6_code 50 = .ok (.getstatic 10, 3) := by decide +kernel
theorem d2_53 : decode prog_24_method_6_code 53 = .ok (.goto 6, 3) := by decide +kernel
theorem d2_56 : decode prog_24_method_6_code 56 = .ok (.getstatic 3, 3) := by decide +kernel
theorem d2_59 : decode prog_24_method_6_code 59 = .ok (.areturn, 1) := by decide +kernel
theorem pn_com_example_event_to_verdict_eventtoverdict_engine_Truth : plainName "com/example/event_to_verdict/eventtoverdict/engine/Truth" = true := by first | (simp [plainName, overriddenIn]; done) | decide +kernel
theorem ef_2 (r0 : Addr) (r1 : Addr) (wT wF wB wE : Addr) (m : MethodId) : entryFrame m #[(.ref r0), (.ref r1)] 2 = mkF m 0 #[.val (.ref r0), .val (.ref r1)] [] := by first | (simp [entryFrame, mkF, argsToLocals, Value.category]; done) | rfl
def F2 (r0 : Addr) (r1 : Addr) (wT wF wB wE : Addr) : Addr := (if r0 = wF then wF else (if r1 = wF then wF else (if r0 = wE then wE else (if r1 = wE then wE else (if r0 = wB then wB else (if r1 = wB then wB else wT))))))
def Q2 (Z : State) (r0 : Addr) (r1 : Addr) (wT wF wB wE : Addr) (h0 : Heap) (n0 : Nat) (v : Option Value) (h : Heap) (L : List Loc) : Prop := v = some (.ref (F2 r0 r1 wT wF wB wE)) ∧ Fr n0 L ∧ h = h0
set_option maxRecDepth 65536 in
set_option maxHeartbeats 40000000 in
theorem rm2 (l : Launch) (Z : State) (a0 : Array Value) (hw : ∀ d ∈ tables_1, d.before a0 Z = true) (ws : List Jvm.Cond) (r0 : Addr) (r1 : Addr) (wT wF wB wE : Addr) (h0 : Heap) (n0 : Nat) (Z0 : n0 ≤ h0.size) (S_TRUE : Sta Z h0 "com/example/event_to_verdict/eventtoverdict/engine/Truth" "TRUE" "Lcom/example/event_to_verdict/eventtoverdict/engine/Truth;" (.ref wT)) (S_FALSE : Sta Z h0 "com/example/event_to_verdict/eventtoverdict/engine/Truth" "FALSE" "Lcom/example/event_to_verdict/eventtoverdict/engine/Truth;" (.ref wF)) (S_BOTTOM : Sta Z h0 "com/example/event_to_verdict/eventtoverdict/engine/Truth" "BOTTOM" "Lcom/example/event_to_verdict/eventtoverdict/engine/Truth;" (.ref wB)) (S_ERROR : Sta Z h0 "com/example/event_to_verdict/eventtoverdict/engine/Truth" "ERROR" "Lcom/example/event_to_verdict/eventtoverdict/engine/Truth;" (.ref wE)) :
    MetFree l (⟨"com/example/event_to_verdict/eventtoverdict/engine/Truth", "and", "(Lcom/example/event_to_verdict/eventtoverdict/engine/Truth;)Lcom/example/event_to_verdict/eventtoverdict/engine/Truth;"⟩ : MethodName) (head1 (Jvm.Cond.code (⟨"com/example/event_to_verdict/eventtoverdict/engine/Truth", "and", "(Lcom/example/event_to_verdict/eventtoverdict/engine/Truth;)Lcom/example/event_to_verdict/eventtoverdict/engine/Truth;"⟩ : MethodName) prog_24_method_6_code 2 (some (.object "com/example/event_to_verdict/eventtoverdict/engine/Truth")) :: ws) ({ frames := 0, cells := 0, slots := 0, locals := 0 } : Room)) (fun a U => a = #[(.ref r0), (.ref r1)] ∧ Z.Warmed39 U.vm ∧ U.heap = h0) (fun _ _ _ _ _ => True) (fun _ U o U' => ∃ v L, o = .returned v ∧ Q2 Z r0 r1 wT wF wB wE h0 n0 v U'.heap L ∧ FrameEnd U o U' L ({ frames := 0, cells := 0, slots := 0, locals := 0 } : Room).cells ({ frames := 0, cells := 0, slots := 0, locals := 0 } : Room).slots) := by
  refine MetFree.of_bodySF (plainFor_of_name pn_com_example_event_to_verdict_eventtoverdict_engine_Truth) hisR ?_
  intro p e s m args below meth c s₁ Bd hml0 hP hK
  obtain ⟨rfl, hZ, hh⟩ := hP
  have hx := Bd.exec
  have hby := Bd.bytes
  have hml : c.maxLocals = 2 := hml0
  have hown : s.vm.findClass "com/example/event_to_verdict/eventtoverdict/engine/Truth" = some m.cls := findClass_of_methodNamed Bd.named
  have hnm := (name_of_methodNamed Bd.named Bd.method).1
  have X0 : Stand p l e ({ frames := 0, cells := 0, slots := 0, locals := 0 } : Room) s m #[(.ref r0), (.ref r1)] below meth c s₁ [] 0 0 := Stand.of_body Bd
  have e0 : s₁.heap = h0 := by rw [← hh, Bd.state]; rfl
  have N0 := Fr.nil n0
  have pre0 : ∀ t, Steps p.tables e below (s₁.setTop (mkF m 0 #[.val (.ref r0), .val (.ref r1)] [])) t → Steps p.tables e below (s₁.setTop (entryFrame m #[(.ref r0), (.ref r1)] 2)) t := fun t k => castTop (ef_2 r0 r1 wT wF wB wE m) k
  obtain ⟨T1, X1, e1, st1⟩ := getS2 X0 hx hZ hown (host := "") (Or.inl (hw _ (List.mem_of_getElem? (i := 14) rfl))) Via.refl e0 S_FALSE (g := (mkF m 1 #[.val (.ref r0), .val (.ref r1)] [(.ref r0)])) rfl (hb hby d2_1)
  have pre2 : ∀ t, Steps p.tables e below (T1.setTop (mkF m 4 #[.val (.ref r0), .val (.ref r1)] [(.ref wF), (.ref r0)])) t → Steps p.tables e below (s₁.setTop (entryFrame m #[(.ref r0), (.ref r1)] 2)) t := fun t kt => pre0 t (by
    show Steps p.tables e below (s₁.setTop (mkF m 0 #[.val (.ref r0), .val (.ref r1)] [])) _
    refine XS.aloadN X0.here hx rfl (hb hby d2_0) rfl rfl ?_
    show Steps p.tables e below (s₁.setTop (mkF m 1 #[.val (.ref r0), .val (.ref r1)] [(.ref r0)])) _
    refine st1 _ ?_
    exact kt)
  by_cases ha4 : r0 = wF
  · obtain ⟨T3, X3, e3, st3⟩ := getS2 X1 hx hZ hown (host := "") (Or.inl (hw _ (List.mem_of_getElem? (i := 14) rfl))) Via.refl e1 S_FALSE (g := (mkF m 14 #[.val (.ref r0), .val (.ref r1)] [])) rfl (hb hby d2_14)
    obtain ⟨fs, hr, hrun, hended, hW, hsame⟩ := X3.leave (v := some (.ref wF)) (fun h => by rw [Bd.returns] at h; cases h)
    refine ⟨_, _, pre2 _ ?_, hrun, hended, _, _, rfl, ?_, ⟨_, rfl⟩, hW, hsame.mono (by decide) (by decide)⟩
    · show Steps p.tables e below (T1.setTop (mkF m 4 #[.val (.ref r0), .val (.ref r1)] [(.ref wF), (.ref r0)])) _
      refine Jvm.RoadKit.acmp (g := (mkF m 4 #[.val (.ref r0), .val (.ref r1)] [(.ref wF), (.ref r0)])) X1 hx rfl rfl rfl (pc0 := 4) (pc' := 14) (same := true) rfl (hb hby d2_4) rfl (decide_eq_true (congrArg Value.ref ha4)) (by decide) (by decide) ?_
      show Steps p.tables e below (T1.setTop (mkF m 14 #[.val (.ref r0), .val (.ref r1)] [])) _
      refine st3 _ ?_
      show Steps p.tables e below (T3.setTop (mkF m 17 #[.val (.ref r0), .val (.ref r1)] [(.ref wF)])) _
      exact retOut X3 hx Bd.returns rfl (Or.inr (Or.inr (Or.inr (Or.inr ⟨rfl, rfl, rfl⟩)))) (hb hby d2_17) hr
    · show Q2 Z r0 r1 wT wF wB wE h0 n0 _ T3.heap _
      rw [e3]
      exact ⟨(by unfold F2; simp only [if_pos ha4]), N0, rfl⟩
  · obtain ⟨T4, X4, e4, st4⟩ := getS2 X1 hx hZ hown (host := "") (Or.inl (hw _ (List.mem_of_getElem? (i := 14) rfl))) Via.refl e1 S_FALSE (g := (mkF m 8 #[.val (.ref r0), .val (.ref r1)] [(.ref r1)])) rfl (hb hby d2_8)
    have pre5 : ∀ t, Steps p.tables e below (T4.setTop (mkF m 11 #[.val (.ref r0), .val (.ref r1)] [(.ref wF), (.ref r1)])) t → Steps p.tables e below (s₁.setTop (entryFrame m #[(.ref r0), (.ref r1)] 2)) t := fun t kt => pre2 t (by
      show Steps p.tables e below (T1.setTop (mkF m 4 #[.val (.ref r0), .val (.ref r1)] [(.ref wF), (.ref r0)])) _
      refine Jvm.RoadKit.acmp (g := (mkF m 4 #[.val (.ref r0), .val (.ref r1)] [(.ref wF), (.ref r0)])) X1 hx rfl rfl rfl (pc0 := 4) (pc' := 7) (same := false) rfl (hb hby d2_4) rfl (decide_eq_false fun q => ha4 (Value.ref.inj q)) (by decide) (by decide) ?_
      show Steps p.tables e below (T1.setTop (mkF m 7 #[.val (.ref r0), .val (.ref r1)] [])) _
      refine XS.aloadN X1.here hx rfl (hb hby d2_7) rfl rfl ?_
      show Steps p.tables e below (T1.setTop (mkF m 8 #[.val (.ref r0), .val (.ref r1)] [(.ref r1)])) _
      refine st4 _ ?_
      exact kt)
    by_cases ha11 : r1 = wF
    · obtain ⟨T6, X6, e6, st6⟩ := getS2 X4 hx hZ hown (host := "") (Or.inl (hw _ (List.mem_of_getElem? (i := 14) rfl))) Via.refl e4 S_FALSE (g := (mkF m 14 #[.val (.ref r0), .val (.ref r1)] [])) rfl (hb hby d2_14)
      obtain ⟨fs, hr, hrun, hended, hW, hsame⟩ := X6.leave (v := some (.ref wF)) (fun h => by rw [Bd.returns] at h; cases h)
      refine ⟨_, _, pre5 _ ?_, hrun, hended, _, _, rfl, ?_, ⟨_, rfl⟩, hW, hsame.mono (by decide) (by decide)⟩
      · show Steps p.tables e below (T4.setTop (mkF m 11 #[.val (.ref r0), .val (.ref r1)] [(.ref wF), (.ref r1)])) _
        refine Jvm.RoadKit.acmp (g := (mkF m 11 #[.val (.ref r0), .val (.ref r1)] [(.ref wF), (.ref r1)])) X4 hx rfl rfl rfl (pc0 := 11) (pc' := 14) (same := true) rfl (hb hby d2_11) rfl (decide_eq_true (congrArg Value.ref ha11)) (by decide) (by decide) ?_
        show Steps p.tables e below (T4.setTop (mkF m 14 #[.val (.ref r0), .val (.ref r1)] [])) _
        refine st6 _ ?_
        show Steps p.tables e below (T6.setTop (mkF m 17 #[.val (.ref r0), .val (.ref r1)] [(.ref wF)])) _
        exact retOut X6 hx Bd.returns rfl (Or.inr (Or.inr (Or.inr (Or.inr ⟨rfl, rfl, rfl⟩)))) (hb hby d2_17) hr
      · show Q2 Z r0 r1 wT wF wB wE h0 n0 _ T6.heap _
        rw [e6]
        exact ⟨(by unfold F2; simp only [if_neg ha4, if_pos ha11]), N0, rfl⟩
    · obtain ⟨T7, X7, e7, st7⟩ := getS2 X4 hx hZ hown (host := "") (Or.inl (hw _ (List.mem_of_getElem? (i := 16) rfl))) Via.refl e4 S_ERROR (g := (mkF m 19 #[.val (.ref r0), .val (.ref r1)] [(.ref r0)])) rfl (hb hby d2_19)
      have pre8 : ∀ t, Steps p.tables e below (T7.setTop (mkF m 22 #[.val (.ref r0), .val (.ref r1)] [(.ref wE), (.ref r0)])) t → Steps p.tables e below (s₁.setTop (entryFrame m #[(.ref r0), (.ref r1)] 2)) t := fun t kt => pre5 t (by
        show Steps p.tables e below (T4.setTop (mkF m 11 #[.val (.ref r0), .val (.ref r1)] [(.ref wF), (.ref r1)])) _
        refine Jvm.RoadKit.acmp (g := (mkF m 11 #[.val (.ref r0), .val (.ref r1)] [(.ref wF), (.ref r1)])) X4 hx rfl rfl rfl (pc0 := 11) (pc' := 18) (same := false) rfl (hb hby d2_11) rfl (decide_eq_false fun q => ha11 (Value.ref.inj q)) (by decide) (by decide) ?_
        show Steps p.tables e below (T4.setTop (mkF m 18 #[.val (.ref r0), .val (.ref r1)] [])) _
        refine XS.aloadN X4.here hx rfl (hb hby d2_18) rfl rfl ?_
        show Steps p.tables e below (T4.setTop (mkF m 19 #[.val (.ref r0), .val (.ref r1)] [(.ref r0)])) _
        refine st7 _ ?_
        exact kt)
      by_cases ha22 : r0 = wE
      · obtain ⟨T9, X9, e9, st9⟩ := getS2 X7 hx hZ hown (host := "") (Or.inl (hw _ (List.mem_of_getElem? (i := 16) rfl))) Via.refl e7 S_ERROR (g := (mkF m 32 #[.val (.ref r0), .val (.ref r1)] [])) rfl (hb hby d2_32)
        obtain ⟨fs, hr, hrun, hended, hW, hsame⟩ := X9.leave (v := some (.ref wE)) (fun h => by rw [Bd.returns] at h; cases h)
        refine ⟨_, _, pre8 _ ?_, hrun, hended, _, _, rfl, ?_, ⟨_, rfl⟩, hW, hsame.mono (by decide) (by decide)⟩
        · show Steps p.tables e below (T7.setTop (mkF m 22 #[.val (.ref r0), .val (.ref r1)] [(.ref wE), (.ref r0)])) _
          refine Jvm.RoadKit.acmp (g := (mkF m 22 #[.val (.ref r0), .val (.ref r1)] [(.ref wE), (.ref r0)])) X7 hx rfl rfl rfl (pc0 := 22) (pc' := 32) (same := true) rfl (hb hby d2_22) rfl (decide_eq_true (congrArg Value.ref ha22)) (by decide) (by decide) ?_
          show Steps p.tables e below (T7.setTop (mkF m 32 #[.val (.ref r0), .val (.ref r1)] [])) _
          refine st9 _ ?_
          show Steps p.tables e below (T9.setTop (mkF m 35 #[.val (.ref r0), .val (.ref r1)] [(.ref wE)])) _
          exact retOut X9 hx Bd.returns rfl (Or.inr (Or.inr (Or.inr (Or.inr ⟨rfl, rfl, rfl⟩)))) (hb hby d2_35) hr
        · show Q2 Z r0 r1 wT wF wB wE h0 n0 _ T9.heap _
          rw [e9]
          exact ⟨(by unfold F2; simp only [if_neg ha4, if_neg ha11, if_pos ha22]), N0, rfl⟩
      · obtain ⟨T10, X10, e10, st10⟩ := getS2 X7 hx hZ hown (host := "") (Or.inl (hw _ (List.mem_of_getElem? (i := 16) rfl))) Via.refl e7 S_ERROR (g := (mkF m 26 #[.val (.ref r0), .val (.ref r1)] [(.ref r1)])) rfl (hb hby d2_26)
        have pre11 : ∀ t, Steps p.tables e below (T10.setTop (mkF m 29 #[.val (.ref r0), .val (.ref r1)] [(.ref wE), (.ref r1)])) t → Steps p.tables e below (s₁.setTop (entryFrame m #[(.ref r0), (.ref r1)] 2)) t := fun t kt => pre8 t (by
          show Steps p.tables e below (T7.setTop (mkF m 22 #[.val (.ref r0), .val (.ref r1)] [(.ref wE), (.ref r0)])) _
          refine Jvm.RoadKit.acmp (g := (mkF m 22 #[.val (.ref r0), .val (.ref r1)] [(.ref wE), (.ref r0)])) X7 hx rfl rfl rfl (pc0 := 22) (pc' := 25) (same := false) rfl (hb hby d2_22) rfl (decide_eq_false fun q => ha22 (Value.ref.inj q)) (by decide) (by decide) ?_
          show Steps p.tables e below (T7.setTop (mkF m 25 #[.val (.ref r0), .val (.ref r1)] [])) _
          refine XS.aloadN X7.here hx rfl (hb hby d2_25) rfl rfl ?_
          show Steps p.tables e below (T7.setTop (mkF m 26 #[.val (.ref r0), .val (.ref r1)] [(.ref r1)])) _
          refine st10 _ ?_
          exact kt)
        by_cases ha29 : r1 = wE
        · obtain ⟨T12, X12, e12, st12⟩ := getS2 X10 hx hZ hown (host := "") (Or.inl (hw _ (List.mem_of_getElem? (i := 16) rfl))) Via.refl e10 S_ERROR (g := (mkF m 32 #[.val (.ref r0), .val (.ref r1)] [])) rfl (hb hby d2_32)
          obtain ⟨fs, hr, hrun, hended, hW, hsame⟩ := X12.leave (v := some (.ref wE)) (fun h => by rw [Bd.returns] at h; cases h)
          refine ⟨_, _, pre11 _ ?_, hrun, hended, _, _, rfl, ?_, ⟨_, rfl⟩, hW, hsame.mono (by decide) (by decide)⟩
          · show Steps p.tables e below (T10.setTop (mkF m 29 #[.val (.ref r0), .val (.ref r1)] [(.ref wE), (.ref r1)])) _
            refine Jvm.RoadKit.acmp (g := (mkF m 29 #[.val (.ref r0), .val (.ref r1)] [(.ref wE), (.ref r1)])) X10 hx rfl rfl rfl (pc0 := 29) (pc' := 32) (same := true) rfl (hb hby d2_29) rfl (decide_eq_true (congrArg Value.ref ha29)) (by decide) (by decide) ?_
            show Steps p.tables e below (T10.setTop (mkF m 32 #[.val (.ref r0), .val (.ref r1)] [])) _
            refine st12 _ ?_
            show Steps p.tables e below (T12.setTop (mkF m 35 #[.val (.ref r0), .val (.ref r1)] [(.ref wE)])) _
            exact retOut X12 hx Bd.returns rfl (Or.inr (Or.inr (Or.inr (Or.inr ⟨rfl, rfl, rfl⟩)))) (hb hby d2_35) hr
          · show Q2 Z r0 r1 wT wF wB wE h0 n0 _ T12.heap _
            rw [e12]
            exact ⟨(by unfold F2; simp only [if_neg ha4, if_neg ha11, if_neg ha22, if_pos ha29]), N0, rfl⟩
        · obtain ⟨T13, X13, e13, st13⟩ := getS2 X10 hx hZ hown (host := "") (Or.inl (hw _ (List.mem_of_getElem? (i := 27) rfl))) Via.refl e10 S_BOTTOM (g := (mkF m 37 #[.val (.ref r0), .val (.ref r1)] [(.ref r0)])) rfl (hb hby d2_37)
          have pre14 : ∀ t, Steps p.tables e below (T13.setTop (mkF m 40 #[.val (.ref r0), .val (.ref r1)] [(.ref wB), (.ref r0)])) t → Steps p.tables e below (s₁.setTop (entryFrame m #[(.ref r0), (.ref r1)] 2)) t := fun t kt => pre11 t (by
            show Steps p.tables e below (T10.setTop (mkF m 29 #[.val (.ref r0), .val (.ref r1)] [(.ref wE), (.ref r1)])) _
            refine Jvm.RoadKit.acmp (g := (mkF m 29 #[.val (.ref r0), .val (.ref r1)] [(.ref wE), (.ref r1)])) X10 hx rfl rfl rfl (pc0 := 29) (pc' := 36) (same := false) rfl (hb hby d2_29) rfl (decide_eq_false fun q => ha29 (Value.ref.inj q)) (by decide) (by decide) ?_
            show Steps p.tables e below (T10.setTop (mkF m 36 #[.val (.ref r0), .val (.ref r1)] [])) _
            refine XS.aloadN X10.here hx rfl (hb hby d2_36) rfl rfl ?_
            show Steps p.tables e below (T10.setTop (mkF m 37 #[.val (.ref r0), .val (.ref r1)] [(.ref r0)])) _
            refine st13 _ ?_
            exact kt)
          by_cases ha40 : r0 = wB
          · obtain ⟨T15, X15, e15, st15⟩ := getS2 X13 hx hZ hown (host := "") (Or.inl (hw _ (List.mem_of_getElem? (i := 27) rfl))) Via.refl e13 S_BOTTOM (g := (mkF m 50 #[.val (.ref r0), .val (.ref r1)] [])) rfl (hb hby d2_50)
            obtain ⟨fs, hr, hrun, hended, hW, hsame⟩ := X15.leave (v := some (.ref wB)) (fun h => by rw [Bd.returns] at h; cases h)
            refine ⟨_, _, pre14 _ ?_, hrun, hended, _, _, rfl, ?_, ⟨_, rfl⟩, hW, hsame.mono (by decide) (by decide)⟩
            · show Steps p.tables e below (T13.setTop (mkF m 40 #[.val (.ref r0), .val (.ref r1)] [(.ref wB), (.ref r0)])) _
              refine Jvm.RoadKit.acmp (g := (mkF m 40 #[.val (.ref r0), .val (.ref r1)] [(.ref wB), (.ref r0)])) X13 hx rfl rfl rfl (pc0 := 40) (pc' := 50) (same := true) rfl (hb hby d2_40) rfl (decide_eq_true (congrArg Value.ref ha40)) (by decide) (by decide) ?_
              show Steps p.tables e below (T13.setTop (mkF m 50 #[.val (.ref r0), .val (.ref r1)] [])) _
              refine st15 _ ?_
              show Steps p.tables e below (T15.setTop (mkF m 53 #[.val (.ref r0), .val (.ref r1)] [(.ref wB)])) _
              refine XS.goto X15.here hx rfl (pc0 := 53) (pc' := 59) rfl (hb hby d2_53) (by decide) (by decide) ?_
              show Steps p.tables e below (T15.setTop (mkF m 59 #[.val (.ref r0), .val (.ref r1)] [(.ref wB)])) _
              exact retOut X15 hx Bd.returns rfl (Or.inr (Or.inr (Or.inr (Or.inr ⟨rfl, rfl, rfl⟩)))) (hb hby d2_59) hr
            · show Q2 Z r0 r1 wT wF wB wE h0 n0 _ T15.heap _
              rw [e15]
              exact ⟨(by unfold F2; simp only [if_neg ha4, if_neg ha11, if_neg ha22, if_neg ha29, if_pos ha40]), N0, rfl⟩
          · obtain ⟨T16, X16, e16, st16⟩ := getS2 X13 hx hZ hown (host := "") (Or.inl (hw _ (List.mem_of_getElem? (i := 27) rfl))) Via.refl e13 S_BOTTOM (g := (mkF m 44 #[.val (.ref r0), .val (.ref r1)] [(.ref r1)])) rfl (hb hby d2_44)
            have pre17 : ∀ t, Steps p.tables e below (T16.setTop (mkF m 47 #[.val (.ref r0), .val (.ref r1)] [(.ref wB), (.ref r1)])) t → Steps p.tables e below (s₁.setTop (entryFrame m #[(.ref r0), (.ref r1)] 2)) t := fun t kt => pre14 t (by
              show Steps p.tables e below (T13.setTop (mkF m 40 #[.val (.ref r0), .val (.ref r1)] [(.ref wB), (.ref r0)])) _
              refine Jvm.RoadKit.acmp (g := (mkF m 40 #[.val (.ref r0), .val (.ref r1)] [(.ref wB), (.ref r0)])) X13 hx rfl rfl rfl (pc0 := 40) (pc' := 43) (same := false) rfl (hb hby d2_40) rfl (decide_eq_false fun q => ha40 (Value.ref.inj q)) (by decide) (by decide) ?_
              show Steps p.tables e below (T13.setTop (mkF m 43 #[.val (.ref r0), .val (.ref r1)] [])) _
              refine XS.aloadN X13.here hx rfl (hb hby d2_43) rfl rfl ?_
              show Steps p.tables e below (T13.setTop (mkF m 44 #[.val (.ref r0), .val (.ref r1)] [(.ref r1)])) _
              refine st16 _ ?_
              exact kt)
            by_cases ha47 : r1 = wB
            · obtain ⟨T18, X18, e18, st18⟩ := getS2 X16 hx hZ hown (host := "") (Or.inl (hw _ (List.mem_of_getElem? (i := 27) rfl))) Via.refl e16 S_BOTTOM (g := (mkF m 50 #[.val (.ref r0), .val (.ref r1)] [])) rfl (hb hby d2_50)
              obtain ⟨fs, hr, hrun, hended, hW, hsame⟩ := X18.leave (v := some (.ref wB)) (fun h => by rw [Bd.returns] at h; cases h)
              refine ⟨_, _, pre17 _ ?_, hrun, hended, _, _, rfl, ?_, ⟨_, rfl⟩, hW, hsame.mono (by decide) (by decide)⟩
              · show Steps p.tables e below (T16.setTop (mkF m 47 #[.val (.ref r0), .val (.ref r1)] [(.ref wB), (.ref r1)])) _
                refine Jvm.RoadKit.acmp (g := (mkF m 47 #[.val (.ref r0), .val (.ref r1)] [(.ref wB), (.ref r1)])) X16 hx rfl rfl rfl (pc0 := 47) (pc' := 50) (same := true) rfl (hb hby d2_47) rfl (decide_eq_true (congrArg Value.ref ha47)) (by decide) (by decide) ?_
                show Steps p.tables e below (T16.setTop (mkF m 50 #[.val (.ref r0), .val (.ref r1)] [])) _
                refine st18 _ ?_
                show Steps p.tables e below (T18.setTop (mkF m 53 #[.val (.ref r0), .val (.ref r1)] [(.ref wB)])) _
                refine XS.goto X18.here hx rfl (pc0 := 53) (pc' := 59) rfl (hb hby d2_53) (by decide) (by decide) ?_
                show Steps p.tables e below (T18.setTop (mkF m 59 #[.val (.ref r0), .val (.ref r1)] [(.ref wB)])) _
                exact retOut X18 hx Bd.returns rfl (Or.inr (Or.inr (Or.inr (Or.inr ⟨rfl, rfl, rfl⟩)))) (hb hby d2_59) hr
              · show Q2 Z r0 r1 wT wF wB wE h0 n0 _ T18.heap _
                rw [e18]
                exact ⟨(by unfold F2; simp only [if_neg ha4, if_neg ha11, if_neg ha22, if_neg ha29, if_neg ha40, if_pos ha47]), N0, rfl⟩
            · obtain ⟨T19, X19, e19, st19⟩ := getS2 X16 hx hZ hown (host := "") (Or.inl (hw _ (List.mem_of_getElem? (i := 28) rfl))) Via.refl e16 S_TRUE (g := (mkF m 56 #[.val (.ref r0), .val (.ref r1)] [])) rfl (hb hby d2_56)
              obtain ⟨fs, hr, hrun, hended, hW, hsame⟩ := X19.leave (v := some (.ref wT)) (fun h => by rw [Bd.returns] at h; cases h)
              refine ⟨_, _, pre17 _ ?_, hrun, hended, _, _, rfl, ?_, ⟨_, rfl⟩, hW, hsame.mono (by decide) (by decide)⟩
              · show Steps p.tables e below (T16.setTop (mkF m 47 #[.val (.ref r0), .val (.ref r1)] [(.ref wB), (.ref r1)])) _
                refine Jvm.RoadKit.acmp (g := (mkF m 47 #[.val (.ref r0), .val (.ref r1)] [(.ref wB), (.ref r1)])) X16 hx rfl rfl rfl (pc0 := 47) (pc' := 56) (same := false) rfl (hb hby d2_47) rfl (decide_eq_false fun q => ha47 (Value.ref.inj q)) (by decide) (by decide) ?_
                show Steps p.tables e below (T16.setTop (mkF m 56 #[.val (.ref r0), .val (.ref r1)] [])) _
                refine st19 _ ?_
                show Steps p.tables e below (T19.setTop (mkF m 59 #[.val (.ref r0), .val (.ref r1)] [(.ref wT)])) _
                exact retOut X19 hx Bd.returns rfl (Or.inr (Or.inr (Or.inr (Or.inr ⟨rfl, rfl, rfl⟩)))) (hb hby d2_59) hr
              · show Q2 Z r0 r1 wT wF wB wE h0 n0 _ T19.heap _
                rw [e19]
                exact ⟨(by unfold F2; simp only [if_neg ha4, if_neg ha11, if_neg ha22, if_neg ha29, if_neg ha40, if_neg ha47]), N0, rfl⟩
theorem d3_0 : decode method_3_code 0 = .ok (.aload_n 0, 1) := by decide +kernel
theorem d3_1 : decode method_3_code 1 = .ok (.getstatic 13, 3) := by decide +kernel
theorem d3_4 : decode method_3_code 4 = .ok (.if_acmp .ne 5, 3) := by decide +kernel
theorem d3_7 : decode method_3_code 7 = .ok (.iconst 0, 1) := by decide +kernel
theorem d3_8 : decode method_3_code 8 = .ok (.ireturn, 1) := by decide +kernel
theorem d3_9 : decode method_3_code 9 = .ok (.aload_n 0, 1) := by decide +kernel
theorem d3_10 : decode method_3_code 10 = .ok (.getstatic 19, 3) := by decide +kernel
theorem d3_13 : decode method_3_code 13 = .ok (.if_acmp .ne 5, 3) := by decide +kernel
theorem d3_16 : decode method_3_code 16 = .ok (.iconst 1, 1) := by decide +kernel
theorem d3_17 : decode method_3_code 17 = .ok (.ireturn, 1) := by decide +kernel
theorem d3_18 : decode method_3_code 18 = .ok (.aload_n 0, 1) := by decide +kernel
theorem d3_19 : decode method_3_code 19 = .ok (.getstatic 16, 3) := by decide +kernel
theorem d3_22 : decode method_3_code 22 = .ok (.if_acmp .ne 5, 3) := by decide +kernel
theorem d3_25 : decode method_3_code 25 = .ok (.iconst 2, 1) := by decide +kernel
theorem d3_26 : decode method_3_code 26 = .ok (.ireturn, 1) := by decide +kernel
theorem d3_27 : decode method_3_code 27 = .ok (.aload_n 0, 1) := by decide +kernel
theorem d3_28 : decode method_3_code 28 = .ok (.getstatic 7, 3) := by decide +kernel
theorem d3_31 : decode method_3_code 31 = .ok (.if_acmp .ne 5, 3) := by decide +kernel
theorem d3_34 : decode method_3_code 34 = .ok (.iconst 3, 1) := by decide +kernel
theorem d3_35 : decode method_3_code 35 = .ok (.ireturn, 1) := by decide +kernel
theorem d3_36 : decode method_3_code 36 = .ok (.iconst (-1), 1) := by decide +kernel
theorem d3_37 : decode method_3_code 37 = .ok (.ireturn, 1) := by decide +kernel
theorem ef_3 (r0 : Addr) (wT wF wB wE : Addr) (m : MethodId) : entryFrame m #[(.ref r0)] 1 = mkF m 0 #[.val (.ref r0)] [] := by first | (simp [entryFrame, mkF, argsToLocals, Value.category]; done) | rfl
def F3 (r0 : Addr) (wT wF wB wE : Addr) : Int32 := (if r0 = wF then (0 : Int32) else (if r0 = wE then (1 : Int32) else (if r0 = wB then (2 : Int32) else (if r0 = wT then (3 : Int32) else (-1 : Int32)))))
def Q3 (Z : State) (r0 : Addr) (wT wF wB wE : Addr) (h0 : Heap) (n0 : Nat) (v : Option Value) (h : Heap) (L : List Loc) : Prop := v = some (.int (F3 r0 wT wF wB wE)) ∧ Fr n0 L ∧ h = h0
set_option maxRecDepth 65536 in
set_option maxHeartbeats 40000000 in
theorem rm3 (l : Launch) (Z : State) (a0 : Array Value) (hw : ∀ d ∈ tables_1, d.before a0 Z = true) (ws : List Jvm.Cond) (r0 : Addr) (wT wF wB wE : Addr) (h0 : Heap) (n0 : Nat) (Z0 : n0 ≤ h0.size) (S_TRUE : Sta Z h0 "com/example/event_to_verdict/eventtoverdict/engine/Truth" "TRUE" "Lcom/example/event_to_verdict/eventtoverdict/engine/Truth;" (.ref wT)) (S_FALSE : Sta Z h0 "com/example/event_to_verdict/eventtoverdict/engine/Truth" "FALSE" "Lcom/example/event_to_verdict/eventtoverdict/engine/Truth;" (.ref wF)) (S_BOTTOM : Sta Z h0 "com/example/event_to_verdict/eventtoverdict/engine/Truth" "BOTTOM" "Lcom/example/event_to_verdict/eventtoverdict/engine/Truth;" (.ref wB)) (S_ERROR : Sta Z h0 "com/example/event_to_verdict/eventtoverdict/engine/Truth" "ERROR" "Lcom/example/event_to_verdict/eventtoverdict/engine/Truth;" (.ref wE)) :
    MetFree l (⟨"com/example/event_to_verdict/eventtoverdict/engine/TruthAndPinLaw", "rank", "(Lcom/example/event_to_verdict/eventtoverdict/engine/Truth;)I"⟩ : MethodName) (head1 (Jvm.Cond.code (⟨"com/example/event_to_verdict/eventtoverdict/engine/TruthAndPinLaw", "rank", "(Lcom/example/event_to_verdict/eventtoverdict/engine/Truth;)I"⟩ : MethodName) method_3_code 1 (some .int) :: ws) ({ frames := 0, cells := 0, slots := 0, locals := 0 } : Room)) (fun a U => a = #[(.ref r0)] ∧ Z.Warmed39 U.vm ∧ U.heap = h0) (fun _ _ _ _ _ => True) (fun _ U o U' => ∃ v L, o = .returned v ∧ Q3 Z r0 wT wF wB wE h0 n0 v U'.heap L ∧ FrameEnd U o U' L ({ frames := 0, cells := 0, slots := 0, locals := 0 } : Room).cells ({ frames := 0, cells := 0, slots := 0, locals := 0 } : Room).slots) := by
  refine MetFree.of_bodySF (plainFor_of_name pn_com_example_event_to_verdict_eventtoverdict_engine_TruthAndPinLaw) hisR ?_
  intro p e s m args below meth c s₁ Bd hml0 hP hK
  obtain ⟨rfl, hZ, hh⟩ := hP
  have hx := Bd.exec
  have hby := Bd.bytes
  have hml : c.maxLocals = 1 := hml0
  have hown : s.vm.findClass "com/example/event_to_verdict/eventtoverdict/engine/TruthAndPinLaw" = some m.cls := findClass_of_methodNamed Bd.named
  have hnm := (name_of_methodNamed Bd.named Bd.method).1
  have X0 : Stand p l e ({ frames := 0, cells := 0, slots := 0, locals := 0 } : Room) s m #[(.ref r0)] below meth c s₁ [] 0 0 := Stand.of_body Bd
  have e0 : s₁.heap = h0 := by rw [← hh, Bd.state]; rfl
  have N0 := Fr.nil n0
  have pre0 : ∀ t, Steps p.tables e below (s₁.setTop (mkF m 0 #[.val (.ref r0)] [])) t → Steps p.tables e below (s₁.setTop (entryFrame m #[(.ref r0)] 1)) t := fun t k => castTop (ef_3 r0 wT wF wB wE m) k
  obtain ⟨T1, X1, e1, st1⟩ := getS2 X0 hx hZ hown (host := "") (Or.inl (hw _ (List.mem_of_getElem? (i := 20) rfl))) Via.refl e0 S_FALSE (g := (mkF m 1 #[.val (.ref r0)] [(.ref r0)])) rfl (hb hby d3_1)
  have pre2 : ∀ t, Steps p.tables e below (T1.setTop (mkF m 4 #[.val (.ref r0)] [(.ref wF), (.ref r0)])) t → Steps p.tables e below (s₁.setTop (entryFrame m #[(.ref r0)] 1)) t := fun t kt => pre0 t (by
    show Steps p.tables e below (s₁.setTop (mkF m 0 #[.val (.ref r0)] [])) _
    refine XS.aloadN X0.here hx rfl (hb hby d3_0) rfl rfl ?_
    show Steps p.tables e below (s₁.setTop (mkF m 1 #[.val (.ref r0)] [(.ref r0)])) _
    refine st1 _ ?_
    exact kt)
  by_cases ha4 : r0 = wF
  · obtain ⟨fs, hr, hrun, hended, hW, hsame⟩ := X1.leave (v := some (.int (0 : Int32))) (fun h => by rw [Bd.returns] at h; cases h)
    refine ⟨_, _, pre2 _ ?_, hrun, hended, _, _, rfl, ?_, ⟨_, rfl⟩, hW, hsame.mono (by decide) (by decide)⟩
    · show Steps p.tables e below (T1.setTop (mkF m 4 #[.val (.ref r0)] [(.ref wF), (.ref r0)])) _
      refine Jvm.RoadKit.acmp (g := (mkF m 4 #[.val (.ref r0)] [(.ref wF), (.ref r0)])) X1 hx rfl rfl rfl (pc0 := 4) (pc' := 7) (same := true) rfl (hb hby d3_4) rfl (decide_eq_true (congrArg Value.ref ha4)) (by decide) (by decide) ?_
      show Steps p.tables e below (T1.setTop (mkF m 7 #[.val (.ref r0)] [])) _
      refine XS.iconst X1.here hx rfl (hb hby d3_7) ?_
      show Steps p.tables e below (T1.setTop (mkF m 8 #[.val (.ref r0)] [(.int (0 : Int32))])) _
      exact retI X1 hx Bd.returns (hb hby d3_8) hr
    · show Q3 Z r0 wT wF wB wE h0 n0 _ T1.heap _
      rw [e1]
      exact ⟨(by unfold F3; simp only [if_pos ha4]), N0, rfl⟩
  · obtain ⟨T3, X3, e3, st3⟩ := getS2 X1 hx hZ hown (host := "") (Or.inl (hw _ (List.mem_of_getElem? (i := 7) rfl))) Via.refl e1 S_ERROR (g := (mkF m 10 #[.val (.ref r0)] [(.ref r0)])) rfl (hb hby d3_10)
    have pre4 : ∀ t, Steps p.tables e below (T3.setTop (mkF m 13 #[.val (.ref r0)] [(.ref wE), (.ref r0)])) t → Steps p.tables e below (s₁.setTop (entryFrame m #[(.ref r0)] 1)) t := fun t kt => pre2 t (by
      show Steps p.tables e below (T1.setTop (mkF m 4 #[.val (.ref r0)] [(.ref wF), (.ref r0)])) _
      refine Jvm.RoadKit.acmp (g := (mkF m 4 #[.val (.ref r0)] [(.ref wF), (.ref r0)])) X1 hx rfl rfl rfl (pc0 := 4) (pc' := 9) (same := false) rfl (hb hby d3_4) rfl (decide_eq_false fun q => ha4 (Value.ref.inj q)) (by decide) (by decide) ?_
      show Steps p.tables e below (T1.setTop (mkF m 9 #[.val (.ref r0)] [])) _
      refine XS.aloadN X1.here hx rfl (hb hby d3_9) rfl rfl ?_
      show Steps p.tables e below (T1.setTop (mkF m 10 #[.val (.ref r0)] [(.ref r0)])) _
      refine st3 _ ?_
      exact kt)
    by_cases ha13 : r0 = wE
    · obtain ⟨fs, hr, hrun, hended, hW, hsame⟩ := X3.leave (v := some (.int (1 : Int32))) (fun h => by rw [Bd.returns] at h; cases h)
      refine ⟨_, _, pre4 _ ?_, hrun, hended, _, _, rfl, ?_, ⟨_, rfl⟩, hW, hsame.mono (by decide) (by decide)⟩
      · show Steps p.tables e below (T3.setTop (mkF m 13 #[.val (.ref r0)] [(.ref wE), (.ref r0)])) _
        refine Jvm.RoadKit.acmp (g := (mkF m 13 #[.val (.ref r0)] [(.ref wE), (.ref r0)])) X3 hx rfl rfl rfl (pc0 := 13) (pc' := 16) (same := true) rfl (hb hby d3_13) rfl (decide_eq_true (congrArg Value.ref ha13)) (by decide) (by decide) ?_
        show Steps p.tables e below (T3.setTop (mkF m 16 #[.val (.ref r0)] [])) _
        refine XS.iconst X3.here hx rfl (hb hby d3_16) ?_
        show Steps p.tables e below (T3.setTop (mkF m 17 #[.val (.ref r0)] [(.int (1 : Int32))])) _
        exact retI X3 hx Bd.returns (hb hby d3_17) hr
      · show Q3 Z r0 wT wF wB wE h0 n0 _ T3.heap _
        rw [e3]
        exact ⟨(by unfold F3; simp only [if_neg ha4, if_pos ha13]), N0, rfl⟩
    · obtain ⟨T5, X5, e5, st5⟩ := getS2 X3 hx hZ hown (host := "") (Or.inl (hw _ (List.mem_of_getElem? (i := 21) rfl))) Via.refl e3 S_BOTTOM (g := (mkF m 19 #[.val (.ref r0)] [(.ref r0)])) rfl (hb hby d3_19)
      have pre6 : ∀ t, Steps p.tables e below (T5.setTop (mkF m 22 #[.val (.ref r0)] [(.ref wB), (.ref r0)])) t → Steps p.tables e below (s₁.setTop (entryFrame m #[(.ref r0)] 1)) t := fun t kt => pre4 t (by
        show Steps p.tables e below (T3.setTop (mkF m 13 #[.val (.ref r0)] [(.ref wE), (.ref r0)])) _
        refine Jvm.RoadKit.acmp (g := (mkF m 13 #[.val (.ref r0)] [(.ref wE), (.ref r0)])) X3 hx rfl rfl rfl (pc0 := 13) (pc' := 18) (same := false) rfl (hb hby d3_13) rfl (decide_eq_false fun q => ha13 (Value.ref.inj q)) (by decide) (by decide) ?_
        show Steps p.tables e below (T3.setTop (mkF m 18 #[.val (.ref r0)] [])) _
        refine XS.aloadN X3.here hx rfl (hb hby d3_18) rfl rfl ?_
        show Steps p.tables e below (T3.setTop (mkF m 19 #[.val (.ref r0)] [(.ref r0)])) _
        refine st5 _ ?_
        exact kt)
      by_cases ha22 : r0 = wB
      · obtain ⟨fs, hr, hrun, hended, hW, hsame⟩ := X5.leave (v := some (.int (2 : Int32))) (fun h => by rw [Bd.returns] at h; cases h)
        refine ⟨_, _, pre6 _ ?_, hrun, hended, _, _, rfl, ?_, ⟨_, rfl⟩, hW, hsame.mono (by decide) (by decide)⟩
        · show Steps p.tables e below (T5.setTop (mkF m 22 #[.val (.ref r0)] [(.ref wB), (.ref r0)])) _
          refine Jvm.RoadKit.acmp (g := (mkF m 22 #[.val (.ref r0)] [(.ref wB), (.ref r0)])) X5 hx rfl rfl rfl (pc0 := 22) (pc' := 25) (same := true) rfl (hb hby d3_22) rfl (decide_eq_true (congrArg Value.ref ha22)) (by decide) (by decide) ?_
          show Steps p.tables e below (T5.setTop (mkF m 25 #[.val (.ref r0)] [])) _
          refine XS.iconst X5.here hx rfl (hb hby d3_25) ?_
          show Steps p.tables e below (T5.setTop (mkF m 26 #[.val (.ref r0)] [(.int (2 : Int32))])) _
          exact retI X5 hx Bd.returns (hb hby d3_26) hr
        · show Q3 Z r0 wT wF wB wE h0 n0 _ T5.heap _
          rw [e5]
          exact ⟨(by unfold F3; simp only [if_neg ha4, if_neg ha13, if_pos ha22]), N0, rfl⟩
      · obtain ⟨T7, X7, e7, st7⟩ := getS2 X5 hx hZ hown (host := "") (Or.inl (hw _ (List.mem_of_getElem? (i := 4) rfl))) Via.refl e5 S_TRUE (g := (mkF m 28 #[.val (.ref r0)] [(.ref r0)])) rfl (hb hby d3_28)
        have pre8 : ∀ t, Steps p.tables e below (T7.setTop (mkF m 31 #[.val (.ref r0)] [(.ref wT), (.ref r0)])) t → Steps p.tables e below (s₁.setTop (entryFrame m #[(.ref r0)] 1)) t := fun t kt => pre6 t (by
          show Steps p.tables e below (T5.setTop (mkF m 22 #[.val (.ref r0)] [(.ref wB), (.ref r0)])) _
          refine Jvm.RoadKit.acmp (g := (mkF m 22 #[.val (.ref r0)] [(.ref wB), (.ref r0)])) X5 hx rfl rfl rfl (pc0 := 22) (pc' := 27) (same := false) rfl (hb hby d3_22) rfl (decide_eq_false fun q => ha22 (Value.ref.inj q)) (by decide) (by decide) ?_
          show Steps p.tables e below (T5.setTop (mkF m 27 #[.val (.ref r0)] [])) _
          refine XS.aloadN X5.here hx rfl (hb hby d3_27) rfl rfl ?_
          show Steps p.tables e below (T5.setTop (mkF m 28 #[.val (.ref r0)] [(.ref r0)])) _
          refine st7 _ ?_
          exact kt)
        by_cases ha31 : r0 = wT
        · obtain ⟨fs, hr, hrun, hended, hW, hsame⟩ := X7.leave (v := some (.int (3 : Int32))) (fun h => by rw [Bd.returns] at h; cases h)
          refine ⟨_, _, pre8 _ ?_, hrun, hended, _, _, rfl, ?_, ⟨_, rfl⟩, hW, hsame.mono (by decide) (by decide)⟩
          · show Steps p.tables e below (T7.setTop (mkF m 31 #[.val (.ref r0)] [(.ref wT), (.ref r0)])) _
            refine Jvm.RoadKit.acmp (g := (mkF m 31 #[.val (.ref r0)] [(.ref wT), (.ref r0)])) X7 hx rfl rfl rfl (pc0 := 31) (pc' := 34) (same := true) rfl (hb hby d3_31) rfl (decide_eq_true (congrArg Value.ref ha31)) (by decide) (by decide) ?_
            show Steps p.tables e below (T7.setTop (mkF m 34 #[.val (.ref r0)] [])) _
            refine XS.iconst X7.here hx rfl (hb hby d3_34) ?_
            show Steps p.tables e below (T7.setTop (mkF m 35 #[.val (.ref r0)] [(.int (3 : Int32))])) _
            exact retI X7 hx Bd.returns (hb hby d3_35) hr
          · show Q3 Z r0 wT wF wB wE h0 n0 _ T7.heap _
            rw [e7]
            exact ⟨(by unfold F3; simp only [if_neg ha4, if_neg ha13, if_neg ha22, if_pos ha31]), N0, rfl⟩
        · obtain ⟨fs, hr, hrun, hended, hW, hsame⟩ := X7.leave (v := some (.int (-1 : Int32))) (fun h => by rw [Bd.returns] at h; cases h)
          refine ⟨_, _, pre8 _ ?_, hrun, hended, _, _, rfl, ?_, ⟨_, rfl⟩, hW, hsame.mono (by decide) (by decide)⟩
          · show Steps p.tables e below (T7.setTop (mkF m 31 #[.val (.ref r0)] [(.ref wT), (.ref r0)])) _
            refine Jvm.RoadKit.acmp (g := (mkF m 31 #[.val (.ref r0)] [(.ref wT), (.ref r0)])) X7 hx rfl rfl rfl (pc0 := 31) (pc' := 36) (same := false) rfl (hb hby d3_31) rfl (decide_eq_false fun q => ha31 (Value.ref.inj q)) (by decide) (by decide) ?_
            show Steps p.tables e below (T7.setTop (mkF m 36 #[.val (.ref r0)] [])) _
            refine XS.iconst X7.here hx rfl (hb hby d3_36) ?_
            show Steps p.tables e below (T7.setTop (mkF m 37 #[.val (.ref r0)] [(.int (-1 : Int32))])) _
            exact retI X7 hx Bd.returns (hb hby d3_37) hr
          · show Q3 Z r0 wT wF wB wE h0 n0 _ T7.heap _
            rw [e7]
            exact ⟨(by unfold F3; simp only [if_neg ha4, if_neg ha13, if_neg ha22, if_neg ha31]), N0, rfl⟩
theorem d4_0 : decode jdk_29_method_69_code 0 = .ok (.iload_n 0, 1) := by decide +kernel
theorem d4_1 : decode jdk_29_method_69_code 1 = .ok (.iload_n 1, 1) := by decide +kernel
theorem d4_2 : decode jdk_29_method_69_code 2 = .ok (.if_icmp .gt 7, 3) := by decide +kernel
theorem d4_5 : decode jdk_29_method_69_code 5 = .ok (.iload_n 0, 1) := by decide +kernel
theorem d4_6 : decode jdk_29_method_69_code 6 = .ok (.goto 4, 3) := by decide +kernel
theorem d4_9 : decode jdk_29_method_69_code 9 = .ok (.iload_n 1, 1) := by decide +kernel
theorem d4_10 : decode jdk_29_method_69_code 10 = .ok (.ireturn, 1) := by decide +kernel
theorem ef_4 (p0 : Int32) (p1 : Int32)  (m : MethodId) : entryFrame m #[(.int p0), (.int p1)] 2 = mkF m 0 #[.val (.int p0), .val (.int p1)] [] := by first | (simp [entryFrame, mkF, argsToLocals, Value.category]; done) | rfl
def F4 (p0 : Int32) (p1 : Int32) : Int32 := (if p1 < p0 then p1 else p0)
def Q4 (Z : State) (p0 : Int32) (p1 : Int32)  (h0 : Heap) (n0 : Nat) (v : Option Value) (h : Heap) (L : List Loc) : Prop := v = some (.int (F4 p0 p1)) ∧ Fr n0 L ∧ h = h0
set_option maxRecDepth 65536 in
set_option maxHeartbeats 40000000 in
theorem rm4 (l : Launch) (Z : State) (a0 : Array Value) (hw : ∀ d ∈ tables_1, d.before a0 Z = true) (ws : List Jvm.Cond) (p0 : Int32) (p1 : Int32)  (h0 : Heap) (n0 : Nat) (Z0 : n0 ≤ h0.size) :
    MetFree l (⟨"java/lang/Math", "min", "(II)I"⟩ : MethodName) (head1 (Jvm.Cond.code (⟨"java/lang/Math", "min", "(II)I"⟩ : MethodName) jdk_29_method_69_code 2 (some .int) :: ws) ({ frames := 0, cells := 0, slots := 0, locals := 0 } : Room)) (fun a U => a = #[(.int p0), (.int p1)] ∧ Z.Warmed39 U.vm ∧ U.heap = h0) (fun _ _ _ _ _ => True) (fun _ U o U' => ∃ v L, o = .returned v ∧ Q4 Z p0 p1 h0 n0 v U'.heap L ∧ FrameEnd U o U' L ({ frames := 0, cells := 0, slots := 0, locals := 0 } : Room).cells ({ frames := 0, cells := 0, slots := 0, locals := 0 } : Room).slots) := by
  refine MetFree.of_bodySF (Jvm.Free.JP.mathPlain rfl (by decide +kernel)) hisR ?_
  intro p e s m args below meth c s₁ Bd hml0 hP hK
  obtain ⟨rfl, hZ, hh⟩ := hP
  have hx := Bd.exec
  have hby := Bd.bytes
  have hml : c.maxLocals = 2 := hml0
  have hown : s.vm.findClass "java/lang/Math" = some m.cls := findClass_of_methodNamed Bd.named
  have hnm := (name_of_methodNamed Bd.named Bd.method).1
  have X0 : Stand p l e ({ frames := 0, cells := 0, slots := 0, locals := 0 } : Room) s m #[(.int p0), (.int p1)] below meth c s₁ [] 0 0 := Stand.of_body Bd
  have e0 : s₁.heap = h0 := by rw [← hh, Bd.state]; rfl
  have N0 := Fr.nil n0
  have pre0 : ∀ t, Steps p.tables e below (s₁.setTop (mkF m 0 #[.val (.int p0), .val (.int p1)] [])) t → Steps p.tables e below (s₁.setTop (entryFrame m #[(.int p0), (.int p1)] 2)) t := fun t k => castTop (ef_4 p0 p1 m) k
  have pre1 : ∀ t, Steps p.tables e below (s₁.setTop (mkF m 2 #[.val (.int p0), .val (.int p1)] [(.int p1), (.int p0)])) t → Steps p.tables e below (s₁.setTop (entryFrame m #[(.int p0), (.int p1)] 2)) t := fun t kt => pre0 t (by
    show Steps p.tables e below (s₁.setTop (mkF m 0 #[.val (.int p0), .val (.int p1)] [])) _
    refine XS.iloadN X0.here hx rfl (hb hby d4_0) rfl ?_
    show Steps p.tables e below (s₁.setTop (mkF m 1 #[.val (.int p0), .val (.int p1)] [(.int p0)])) _
    refine XS.iloadN X0.here hx rfl (hb hby d4_1) rfl ?_
    exact kt)
  by_cases hc2 : p1 < p0
  · obtain ⟨fs, hr, hrun, hended, hW, hsame⟩ := X0.leave (v := some (.int p1)) (fun h => by rw [Bd.returns] at h; cases h)
    refine ⟨_, _, pre1 _ ?_, hrun, hended, _, _, rfl, ?_, ⟨_, rfl⟩, hW, hsame.mono (by decide) (by decide)⟩
    · show Steps p.tables e below (s₁.setTop (mkF m 2 #[.val (.int p0), .val (.int p1)] [(.int p1), (.int p0)])) _
      refine XS.icmpYes X0.here hx rfl (pc0 := 2) (pc' := 9) rfl (hb hby d4_2) rfl (tlt hc2).2.2.1 (by decide) (by decide) ?_
      show Steps p.tables e below (s₁.setTop (mkF m 9 #[.val (.int p0), .val (.int p1)] [])) _
      refine XS.iloadN X0.here hx rfl (hb hby d4_9) rfl ?_
      show Steps p.tables e below (s₁.setTop (mkF m 10 #[.val (.int p0), .val (.int p1)] [(.int p1)])) _
      exact retI X0 hx Bd.returns (hb hby d4_10) hr
    · show Q4 Z p0 p1 h0 n0 _ s₁.heap _
      rw [e0]
      exact ⟨(by unfold F4; simp only [if_pos hc2]), N0, rfl⟩
  · obtain ⟨fs, hr, hrun, hended, hW, hsame⟩ := X0.leave (v := some (.int p0)) (fun h => by rw [Bd.returns] at h; cases h)
    refine ⟨_, _, pre1 _ ?_, hrun, hended, _, _, rfl, ?_, ⟨_, rfl⟩, hW, hsame.mono (by decide) (by decide)⟩
    · show Steps p.tables e below (s₁.setTop (mkF m 2 #[.val (.int p0), .val (.int p1)] [(.int p1), (.int p0)])) _
      refine XS.icmpNo X0.here hx rfl (hb hby d4_2) rfl (flt hc2).2.2.1 ?_
      show Steps p.tables e below (s₁.setTop (mkF m 5 #[.val (.int p0), .val (.int p1)] [])) _
      refine XS.iloadN X0.here hx rfl (hb hby d4_5) rfl ?_
      show Steps p.tables e below (s₁.setTop (mkF m 6 #[.val (.int p0), .val (.int p1)] [(.int p0)])) _
      refine XS.goto X0.here hx rfl (pc0 := 6) (pc' := 10) rfl (hb hby d4_6) (by decide) (by decide) ?_
      show Steps p.tables e below (s₁.setTop (mkF m 10 #[.val (.int p0), .val (.int p1)] [(.int p0)])) _
      exact retI X0 hx Bd.returns (hb hby d4_10) hr
    · show Q4 Z p0 p1 h0 n0 _ s₁.heap _
      rw [e0]
      exact ⟨(by unfold F4; simp only [if_neg hc2]), N0, rfl⟩
theorem own_E {Z : State} {h : Heap} {wT wF wB wE : Addr} (k : Int32) (ET : Exa Z h wT "com/example/event_to_verdict/eventtoverdict/engine/Truth") (EF : Exa Z h wF "com/example/event_to_verdict/eventtoverdict/engine/Truth") (EB : Exa Z h wB "com/example/event_to_verdict/eventtoverdict/engine/Truth") (EE : Exa Z h wE "com/example/event_to_verdict/eventtoverdict/engine/Truth") : Exa Z h (F1 k wT wF wB wE) "com/example/event_to_verdict/eventtoverdict/engine/Truth" := by
  unfold F1; repeat' split
  all_goals assumption
theorem pd__I_Lcom_example_event_to_verdict_eventtoverdict_engine_Truth_ : parseMethodDescriptor "(I)Lcom/example/event_to_verdict/eventtoverdict/engine/Truth;" = some ⟨[.int], some (.object "com/example/event_to_verdict/eventtoverdict/engine/Truth")⟩ := by decide +kernel
theorem pd__Lcom_example_event_to_verdict_eventtoverdict_engine_Truth__Lcom_example_event_to_verdict_eventtoverdict_engine_Truth_ : parseMethodDescriptor "(Lcom/example/event_to_verdict/eventtoverdict/engine/Truth;)Lcom/example/event_to_verdict/eventtoverdict/engine/Truth;" = some ⟨[(.object "com/example/event_to_verdict/eventtoverdict/engine/Truth")], some (.object "com/example/event_to_verdict/eventtoverdict/engine/Truth")⟩ := by decide +kernel
theorem pd__Lcom_example_event_to_verdict_eventtoverdict_engine_Truth__I : parseMethodDescriptor "(Lcom/example/event_to_verdict/eventtoverdict/engine/Truth;)I" = some ⟨[(.object "com/example/event_to_verdict/eventtoverdict/engine/Truth")], some .int⟩ := by decide +kernel
theorem pd__II_I : parseMethodDescriptor "(II)I" = some ⟨[.int, .int], some .int⟩ := by decide +kernel
theorem ef_0 (p0 : Int32) (p1 : Int32) (wT wF wB wE : Addr) (m : MethodId) : entryFrame m #[(.int p0), (.int p1)] maxLocals = mkF m 0 #[.val (.int p0), .val (.int p1), .unset, .unset, .unset, .unset] [] := by first | (simp [entryFrame, mkF, argsToLocals, Value.category, maxLocals]; done) | rfl
def F0 (p0 : Int32) (p1 : Int32) (wT wF wB wE : Addr) : Int32 := (if (F3 (F2 (F1 (p0 &&& (3 : Int32)) wT wF wB wE) (F1 (p1 &&& (3 : Int32)) wT wF wB wE) wT wF wB wE) wT wF wB wE) = (F4 (F3 (F1 (p0 &&& (3 : Int32)) wT wF wB wE) wT wF wB wE) (F3 (F1 (p1 &&& (3 : Int32)) wT wF wB wE) wT wF wB wE)) then (1 : Int32) else (0 : Int32))
def Q0 (Z : State) (p0 : Int32) (p1 : Int32) (wT wF wB wE : Addr) (h0 : Heap) (n0 : Nat) (v : Option Value) (h : Heap) (L : List Loc) : Prop := v = some (.int (F0 p0 p1 wT wF wB wE)) ∧ Fr n0 L
set_option maxRecDepth 65536 in
set_option maxHeartbeats 40000000 in
theorem rm0 (l : Launch) (Z : State) (a0 : Array Value) (hw : ∀ d ∈ tables_1, d.before a0 Z = true) (ws : List Jvm.Cond) (p0 : Int32) (p1 : Int32) (wT wF wB wE : Addr) (h0 : Heap) (n0 : Nat) (Z0 : n0 ≤ h0.size) (S_TRUE : Sta Z h0 "com/example/event_to_verdict/eventtoverdict/engine/Truth" "TRUE" "Lcom/example/event_to_verdict/eventtoverdict/engine/Truth;" (.ref wT)) (S_FALSE : Sta Z h0 "com/example/event_to_verdict/eventtoverdict/engine/Truth" "FALSE" "Lcom/example/event_to_verdict/eventtoverdict/engine/Truth;" (.ref wF)) (S_BOTTOM : Sta Z h0 "com/example/event_to_verdict/eventtoverdict/engine/Truth" "BOTTOM" "Lcom/example/event_to_verdict/eventtoverdict/engine/Truth;" (.ref wB)) (S_ERROR : Sta Z h0 "com/example/event_to_verdict/eventtoverdict/engine/Truth" "ERROR" "Lcom/example/event_to_verdict/eventtoverdict/engine/Truth;" (.ref wE)) (E_TRUE : Exa Z h0 wT "com/example/event_to_verdict/eventtoverdict/engine/Truth") (E_FALSE : Exa Z h0 wF "com/example/event_to_verdict/eventtoverdict/engine/Truth") (E_BOTTOM : Exa Z h0 wB "com/example/event_to_verdict/eventtoverdict/engine/Truth") (E_ERROR : Exa Z h0 wE "com/example/event_to_verdict/eventtoverdict/engine/Truth") :
    MetFree l x (head1 (Jvm.Cond.code x code maxLocals ret :: ws) room_1) (fun a U => a = #[(.int p0), (.int p1)] ∧ Z.Warmed39 U.vm ∧ U.heap = h0) (fun _ _ _ _ _ => True) (fun _ U o U' => ∃ v L, o = .returned v ∧ Q0 Z p0 p1 wT wF wB wE h0 n0 v U'.heap L ∧ FrameEnd U o U' L room_1.cells room_1.slots) := by
  refine MetFree.of_bodySF (plainFor_of_name pn_com_example_event_to_verdict_eventtoverdict_engine_TruthAndPinLaw) hisR ?_
  intro p e s m args below meth c s₁ Bd hml0 hP hK
  obtain ⟨rfl, hZ, hh⟩ := hP
  have hx := Bd.exec
  have hby := Bd.bytes
  have hml : c.maxLocals = 6 := hml0
  have hown : s.vm.findClass "com/example/event_to_verdict/eventtoverdict/engine/TruthAndPinLaw" = some m.cls := findClass_of_methodNamed Bd.named
  have hnm := (name_of_methodNamed Bd.named Bd.method).1
  have X0 : Stand p l e room_1 s m #[(.int p0), (.int p1)] below meth c s₁ [] 0 0 := Stand.of_body Bd
  have e0 : s₁.heap = h0 := by rw [← hh, Bd.state]; rfl
  have N0 := Fr.nil n0
  have pre0 : ∀ t, Steps p.tables e below (s₁.setTop (mkF m 0 #[.val (.int p0), .val (.int p1), .unset, .unset, .unset, .unset] [])) t → Steps p.tables e below (s₁.setTop (entryFrame m #[(.int p0), (.int p1)] maxLocals)) t := fun t k => castTop (ef_0 p0 p1 wT wF wB wE m) k
  obtain ⟨_, _, ⟨T1, L1, k1, n1⟩, -, X1, ⟨Lc1, hQ1, ll1, ly1, lz1⟩, st1⟩ := Jvm.LawKit.callS X0 hx (y := (⟨"com/example/event_to_verdict/eventtoverdict/engine/TruthAndPinLaw", "pick", "(I)Lcom/example/event_to_verdict/eventtoverdict/engine/Truth;"⟩ : MethodName)) hown (mvT hZ (hw _ (List.mem_of_getElem? (i := 0) rfl))) (mvT hZ (hw _ (List.mem_of_getElem? (i := 1) rfl))) (mvT hZ (hw _ (List.mem_of_getElem? (i := 2) rfl))) (mvT hZ (hw _ (List.mem_of_getElem? (i := 3) rfl))) (by decide) (backOf (W := 0) (rm1 l Z a0 hw [] (p0 &&& (3 : Int32)) wT wF wB wE h0 n0 Z0 S_TRUE S_FALSE S_BOTTOM S_ERROR) hZ (hw _ (List.mem_of_getElem? (i := 3) rfl)) (hw _ (List.mem_of_getElem? (i := 2) rfl)) (by decide) (by decide)) (g := (mkF m 3 #[.val (.int p0), .val (.int p1), .unset, .unset, .unset, .unset] [(.int (p0 &&& (3 : Int32)))])) rfl (by rw [hml]; rfl) (argsL := [(.int (p0 &&& (3 : Int32)))]) (rest := []) (lenOf pd__I_Lcom_example_event_to_verdict_eventtoverdict_engine_Truth_ rfl) rfl (by show 2 * 0 + _ ≤ _; exact Nat.le_of_eq rfl) (hb hby at_3) (fun _ _ => ⟨rfl, e0, (by decide : 0 + 0 ≤ _), (by decide : 0 + 0 ≤ _)⟩)
  dsimp only [Pt.U, Pt.locs, Pt.cells, Pt.slots] at X1 ll1 ly1 lz1 st1 hQ1
  subst ll1 ly1 lz1
  obtain ⟨rfl, N1q, e1⟩ := hQ1
  have N1 := Fr.app N0 N1q
  obtain ⟨_, _, ⟨T2, L2, k2, n2⟩, -, X2, ⟨Lc2, hQ2, ll2, ly2, lz2⟩, st2⟩ := Jvm.LawKit.callS X1 hx (y := (⟨"com/example/event_to_verdict/eventtoverdict/engine/TruthAndPinLaw", "pick", "(I)Lcom/example/event_to_verdict/eventtoverdict/engine/Truth;"⟩ : MethodName)) hown (mvT hZ (hw _ (List.mem_of_getElem? (i := 0) rfl))) (mvT hZ (hw _ (List.mem_of_getElem? (i := 1) rfl))) (mvT hZ (hw _ (List.mem_of_getElem? (i := 2) rfl))) (mvT hZ (hw _ (List.mem_of_getElem? (i := 3) rfl))) (by decide) (backOf (W := 0) (rm1 l Z a0 hw [] (p1 &&& (3 : Int32)) wT wF wB wE h0 n0 Z0 S_TRUE S_FALSE S_BOTTOM S_ERROR) hZ (hw _ (List.mem_of_getElem? (i := 3) rfl)) (hw _ (List.mem_of_getElem? (i := 2) rfl)) (by decide) (by decide)) (g := (mkF m 10 #[.val (.int p0), .val (.int p1), .val (.ref (F1 (p0 &&& (3 : Int32)) wT wF wB wE)), .unset, .unset, .unset] [(.int (p1 &&& (3 : Int32)))])) rfl (by rw [hml]; rfl) (argsL := [(.int (p1 &&& (3 : Int32)))]) (rest := []) (lenOf pd__I_Lcom_example_event_to_verdict_eventtoverdict_engine_Truth_ rfl) rfl (by show 2 * 0 + _ ≤ _; exact Nat.le_of_eq rfl) (hb hby at_10) (fun _ _ => ⟨rfl, e1, (by decide : 0 + 0 ≤ _), (by decide : 0 + 0 ≤ _)⟩)
  dsimp only [Pt.U, Pt.locs, Pt.cells, Pt.slots] at X2 ll2 ly2 lz2 st2 hQ2
  subst ll2 ly2 lz2
  obtain ⟨rfl, N2q, e2⟩ := hQ2
  have N2 := Fr.app N1 N2q
  obtain ⟨cq3, kq3, q3a, q3b, q3c⟩ := isOf hZ e2 (own_E (p0 &&& (3 : Int32)) E_TRUE E_FALSE E_BOTTOM E_ERROR)
  obtain ⟨_, _, ⟨T3, L3, k3, n3⟩, -, X3, ⟨Lc3, hQ3, ll3, ly3, lz3⟩, st3⟩ := X2.virtualBack hx (y := (⟨"com/example/event_to_verdict/eventtoverdict/engine/Truth", "and", "(Lcom/example/event_to_verdict/eventtoverdict/engine/Truth;)Lcom/example/event_to_verdict/eventtoverdict/engine/Truth;"⟩ : MethodName)) (z := (⟨"com/example/event_to_verdict/eventtoverdict/engine/Truth", "and", "(Lcom/example/event_to_verdict/eventtoverdict/engine/Truth;)Lcom/example/event_to_verdict/eventtoverdict/engine/Truth;"⟩ : MethodName)) hown (mvT hZ (hw _ (List.mem_of_getElem? (i := 9) rfl))) (mvT hZ (hw _ (List.mem_of_getElem? (i := 10) rfl))) (notFace_of_selects (args := #[]) (mvT hZ (hw _ (List.mem_of_getElem? (i := 12) rfl)))) (mvT hZ (hw _ (List.mem_of_getElem? (i := 12) rfl))) (mvT hZ (hw _ (List.mem_of_getElem? (i := 11) rfl))) (by decide) (backOf (W := 0) (rm2 l Z a0 hw [] (F1 (p0 &&& (3 : Int32)) wT wF wB wE) (F1 (p1 &&& (3 : Int32)) wT wF wB wE) wT wF wB wE h0 n0 Z0 S_TRUE S_FALSE S_BOTTOM S_ERROR) hZ (hw _ (List.mem_of_getElem? (i := 13) rfl)) (hw _ (List.mem_of_getElem? (i := 5) rfl)) (by decide) (by decide)) q3a q3c (g := (mkF m 16 #[.val (.int p0), .val (.int p1), .val (.ref (F1 (p0 &&& (3 : Int32)) wT wF wB wE)), .val (.ref (F1 (p1 &&& (3 : Int32)) wT wF wB wE)), .unset, .unset] [(.ref (F1 (p1 &&& (3 : Int32)) wT wF wB wE)), (.ref (F1 (p0 &&& (3 : Int32)) wT wF wB wE))])) rfl (by rw [hml]; rfl) (Steps.refl _) (argsL := [(.ref (F1 (p1 &&& (3 : Int32)) wT wF wB wE))]) (rest := []) (lenOf pd__Lcom_example_event_to_verdict_eventtoverdict_engine_Truth__Lcom_example_event_to_verdict_eventtoverdict_engine_Truth_ rfl) rfl (by show 2 * 0 + _ ≤ _; exact Nat.le_of_eq rfl) (hb hby at_16) (fun _ _ => ⟨rfl, e2, (by decide : 0 + 0 ≤ _), (by decide : 0 + 0 ≤ _)⟩)
  dsimp only [Pt.U, Pt.locs, Pt.cells, Pt.slots] at X3 ll3 ly3 lz3 st3 hQ3
  subst ll3 ly3 lz3
  obtain ⟨rfl, N3q, e3⟩ := hQ3
  have N3 := Fr.app N2 N3q
  obtain ⟨_, _, ⟨T4, L4, k4, n4⟩, -, X4, ⟨Lc4, hQ4, ll4, ly4, lz4⟩, st4⟩ := Jvm.LawKit.callS X3 hx (y := (⟨"com/example/event_to_verdict/eventtoverdict/engine/TruthAndPinLaw", "rank", "(Lcom/example/event_to_verdict/eventtoverdict/engine/Truth;)I"⟩ : MethodName)) hown (mvT hZ (hw _ (List.mem_of_getElem? (i := 17) rfl))) (mvT hZ (hw _ (List.mem_of_getElem? (i := 18) rfl))) (mvT hZ (hw _ (List.mem_of_getElem? (i := 2) rfl))) (mvT hZ (hw _ (List.mem_of_getElem? (i := 19) rfl))) (by decide) (backOf (W := 0) (rm3 l Z a0 hw [] (F1 (p0 &&& (3 : Int32)) wT wF wB wE) wT wF wB wE h0 n0 Z0 S_TRUE S_FALSE S_BOTTOM S_ERROR) hZ (hw _ (List.mem_of_getElem? (i := 19) rfl)) (hw _ (List.mem_of_getElem? (i := 2) rfl)) (by decide) (by decide)) (g := (mkF m 22 #[.val (.int p0), .val (.int p1), .val (.ref (F1 (p0 &&& (3 : Int32)) wT wF wB wE)), .val (.ref (F1 (p1 &&& (3 : Int32)) wT wF wB wE)), .val (.ref (F2 (F1 (p0 &&& (3 : Int32)) wT wF wB wE) (F1 (p1 &&& (3 : Int32)) wT wF wB wE) wT wF wB wE)), .unset] [(.ref (F1 (p0 &&& (3 : Int32)) wT wF wB wE))])) rfl (by rw [hml]; rfl) (argsL := [(.ref (F1 (p0 &&& (3 : Int32)) wT wF wB wE))]) (rest := []) (lenOf pd__Lcom_example_event_to_verdict_eventtoverdict_engine_Truth__I rfl) rfl (by show 2 * 0 + _ ≤ _; exact Nat.le_of_eq rfl) (hb hby at_22) (fun _ _ => ⟨rfl, e3, (by decide : 0 + 0 ≤ _), (by decide : 0 + 0 ≤ _)⟩)
  dsimp only [Pt.U, Pt.locs, Pt.cells, Pt.slots] at X4 ll4 ly4 lz4 st4 hQ4
  subst ll4 ly4 lz4
  obtain ⟨rfl, N4q, e4⟩ := hQ4
  have N4 := Fr.app N3 N4q
  obtain ⟨_, _, ⟨T5, L5, k5, n5⟩, -, X5, ⟨Lc5, hQ5, ll5, ly5, lz5⟩, st5⟩ := Jvm.LawKit.callS X4 hx (y := (⟨"com/example/event_to_verdict/eventtoverdict/engine/TruthAndPinLaw", "rank", "(Lcom/example/event_to_verdict/eventtoverdict/engine/Truth;)I"⟩ : MethodName)) hown (mvT hZ (hw _ (List.mem_of_getElem? (i := 17) rfl))) (mvT hZ (hw _ (List.mem_of_getElem? (i := 18) rfl))) (mvT hZ (hw _ (List.mem_of_getElem? (i := 2) rfl))) (mvT hZ (hw _ (List.mem_of_getElem? (i := 19) rfl))) (by decide) (backOf (W := 1) (rm3 l Z a0 hw [] (F1 (p1 &&& (3 : Int32)) wT wF wB wE) wT wF wB wE h0 n0 Z0 S_TRUE S_FALSE S_BOTTOM S_ERROR) hZ (hw _ (List.mem_of_getElem? (i := 19) rfl)) (hw _ (List.mem_of_getElem? (i := 2) rfl)) (by decide) (by decide)) (g := (mkF m 26 #[.val (.int p0), .val (.int p1), .val (.ref (F1 (p0 &&& (3 : Int32)) wT wF wB wE)), .val (.ref (F1 (p1 &&& (3 : Int32)) wT wF wB wE)), .val (.ref (F2 (F1 (p0 &&& (3 : Int32)) wT wF wB wE) (F1 (p1 &&& (3 : Int32)) wT wF wB wE) wT wF wB wE)), .unset] [(.ref (F1 (p1 &&& (3 : Int32)) wT wF wB wE)), (.int (F3 (F1 (p0 &&& (3 : Int32)) wT wF wB wE) wT wF wB wE))])) rfl (by rw [hml]; rfl) (argsL := [(.ref (F1 (p1 &&& (3 : Int32)) wT wF wB wE))]) (rest := [(.int (F3 (F1 (p0 &&& (3 : Int32)) wT wF wB wE) wT wF wB wE))]) (lenOf pd__Lcom_example_event_to_verdict_eventtoverdict_engine_Truth__I rfl) rfl (by show 2 * 0 + _ ≤ _; exact Nat.le_of_eq rfl) (hb hby at_26) (fun _ _ => ⟨rfl, e4, (by decide : 0 + 0 ≤ _), (by decide : 0 + 0 ≤ _)⟩)
  dsimp only [Pt.U, Pt.locs, Pt.cells, Pt.slots] at X5 ll5 ly5 lz5 st5 hQ5
  subst ll5 ly5 lz5
  obtain ⟨rfl, N5q, e5⟩ := hQ5
  have N5 := Fr.app N4 N5q
  obtain ⟨_, _, ⟨T6, L6, k6, n6⟩, -, X6, ⟨Lc6, hQ6, ll6, ly6, lz6⟩, st6⟩ := Jvm.LawKit.callS X5 hx (y := (⟨"java/lang/Math", "min", "(II)I"⟩ : MethodName)) hown (mvT hZ (hw _ (List.mem_of_getElem? (i := 23) rfl))) (mvT hZ (hw _ (List.mem_of_getElem? (i := 24) rfl))) (mvT hZ (hw _ (List.mem_of_getElem? (i := 25) rfl))) (mvT hZ (hw _ (List.mem_of_getElem? (i := 26) rfl))) (by decide) (backOf (W := 0) (rm4 l Z a0 hw [] (F3 (F1 (p0 &&& (3 : Int32)) wT wF wB wE) wT wF wB wE) (F3 (F1 (p1 &&& (3 : Int32)) wT wF wB wE) wT wF wB wE) h0 n0 Z0 ) hZ (hw _ (List.mem_of_getElem? (i := 26) rfl)) (hw _ (List.mem_of_getElem? (i := 25) rfl)) (by decide) (by decide)) (g := (mkF m 29 #[.val (.int p0), .val (.int p1), .val (.ref (F1 (p0 &&& (3 : Int32)) wT wF wB wE)), .val (.ref (F1 (p1 &&& (3 : Int32)) wT wF wB wE)), .val (.ref (F2 (F1 (p0 &&& (3 : Int32)) wT wF wB wE) (F1 (p1 &&& (3 : Int32)) wT wF wB wE) wT wF wB wE)), .unset] [(.int (F3 (F1 (p1 &&& (3 : Int32)) wT wF wB wE) wT wF wB wE)), (.int (F3 (F1 (p0 &&& (3 : Int32)) wT wF wB wE) wT wF wB wE))])) rfl (by rw [hml]; rfl) (argsL := [(.int (F3 (F1 (p0 &&& (3 : Int32)) wT wF wB wE) wT wF wB wE)), (.int (F3 (F1 (p1 &&& (3 : Int32)) wT wF wB wE) wT wF wB wE))]) (rest := []) (lenOf pd__II_I rfl) rfl (by show 2 * 0 + _ ≤ _; exact Nat.le_of_eq rfl) (hb hby at_29) (fun _ _ => ⟨rfl, e5, (by decide : 0 + 0 ≤ _), (by decide : 0 + 0 ≤ _)⟩)
  dsimp only [Pt.U, Pt.locs, Pt.cells, Pt.slots] at X6 ll6 ly6 lz6 st6 hQ6
  subst ll6 ly6 lz6
  obtain ⟨rfl, N6q, e6⟩ := hQ6
  have N6 := Fr.app N5 N6q
  obtain ⟨_, _, ⟨T7, L7, k7, n7⟩, -, X7, ⟨Lc7, hQ7, ll7, ly7, lz7⟩, st7⟩ := Jvm.LawKit.callS X6 hx (y := (⟨"com/example/event_to_verdict/eventtoverdict/engine/TruthAndPinLaw", "rank", "(Lcom/example/event_to_verdict/eventtoverdict/engine/Truth;)I"⟩ : MethodName)) hown (mvT hZ (hw _ (List.mem_of_getElem? (i := 17) rfl))) (mvT hZ (hw _ (List.mem_of_getElem? (i := 18) rfl))) (mvT hZ (hw _ (List.mem_of_getElem? (i := 2) rfl))) (mvT hZ (hw _ (List.mem_of_getElem? (i := 19) rfl))) (by decide) (backOf (W := 0) (rm3 l Z a0 hw [] (F2 (F1 (p0 &&& (3 : Int32)) wT wF wB wE) (F1 (p1 &&& (3 : Int32)) wT wF wB wE) wT wF wB wE) wT wF wB wE h0 n0 Z0 S_TRUE S_FALSE S_BOTTOM S_ERROR) hZ (hw _ (List.mem_of_getElem? (i := 19) rfl)) (hw _ (List.mem_of_getElem? (i := 2) rfl)) (by decide) (by decide)) (g := (mkF m 36 #[.val (.int p0), .val (.int p1), .val (.ref (F1 (p0 &&& (3 : Int32)) wT wF wB wE)), .val (.ref (F1 (p1 &&& (3 : Int32)) wT wF wB wE)), .val (.ref (F2 (F1 (p0 &&& (3 : Int32)) wT wF wB wE) (F1 (p1 &&& (3 : Int32)) wT wF wB wE) wT wF wB wE)), .val (.int (F4 (F3 (F1 (p0 &&& (3 : Int32)) wT wF wB wE) wT wF wB wE) (F3 (F1 (p1 &&& (3 : Int32)) wT wF wB wE) wT wF wB wE)))] [(.ref (F2 (F1 (p0 &&& (3 : Int32)) wT wF wB wE) (F1 (p1 &&& (3 : Int32)) wT wF wB wE) wT wF wB wE))])) rfl (by rw [hml]; rfl) (argsL := [(.ref (F2 (F1 (p0 &&& (3 : Int32)) wT wF wB wE) (F1 (p1 &&& (3 : Int32)) wT wF wB wE) wT wF wB wE))]) (rest := []) (lenOf pd__Lcom_example_event_to_verdict_eventtoverdict_engine_Truth__I rfl) rfl (by show 2 * 0 + _ ≤ _; exact Nat.le_of_eq rfl) (hb hby at_36) (fun _ _ => ⟨rfl, e6, (by decide : 0 + 0 ≤ _), (by decide : 0 + 0 ≤ _)⟩)
  dsimp only [Pt.U, Pt.locs, Pt.cells, Pt.slots] at X7 ll7 ly7 lz7 st7 hQ7
  subst ll7 ly7 lz7
  obtain ⟨rfl, N7q, e7⟩ := hQ7
  have N7 := Fr.app N6 N7q
  have pre8 : ∀ t, Steps p.tables e below (T7.setTop (mkF m 41 #[.val (.int p0), .val (.int p1), .val (.ref (F1 (p0 &&& (3 : Int32)) wT wF wB wE)), .val (.ref (F1 (p1 &&& (3 : Int32)) wT wF wB wE)), .val (.ref (F2 (F1 (p0 &&& (3 : Int32)) wT wF wB wE) (F1 (p1 &&& (3 : Int32)) wT wF wB wE) wT wF wB wE)), .val (.int (F4 (F3 (F1 (p0 &&& (3 : Int32)) wT wF wB wE) wT wF wB wE) (F3 (F1 (p1 &&& (3 : Int32)) wT wF wB wE) wT wF wB wE)))] [(.int (F4 (F3 (F1 (p0 &&& (3 : Int32)) wT wF wB wE) wT wF wB wE) (F3 (F1 (p1 &&& (3 : Int32)) wT wF wB wE) wT wF wB wE))), (.int (F3 (F2 (F1 (p0 &&& (3 : Int32)) wT wF wB wE) (F1 (p1 &&& (3 : Int32)) wT wF wB wE) wT wF wB wE) wT wF wB wE))])) t → Steps p.tables e below (s₁.setTop (entryFrame m #[(.int p0), (.int p1)] maxLocals)) t := fun t kt => pre0 t (by
    show Steps p.tables e below (s₁.setTop (mkF m 0 #[.val (.int p0), .val (.int p1), .unset, .unset, .unset, .unset] [])) _
    refine XS.iloadN X0.here hx rfl (hb hby at_0) rfl ?_
    show Steps p.tables e below (s₁.setTop (mkF m 1 #[.val (.int p0), .val (.int p1), .unset, .unset, .unset, .unset] [(.int p0)])) _
    refine XS.iconst X0.here hx rfl (hb hby at_1) ?_
    show Steps p.tables e below (s₁.setTop (mkF m 2 #[.val (.int p0), .val (.int p1), .unset, .unset, .unset, .unset] [(.int (3 : Int32)), (.int p0)])) _
    refine XS.iand X0.here hx rfl (hb hby at_2) rfl ?_
    show Steps p.tables e below (s₁.setTop (mkF m 3 #[.val (.int p0), .val (.int p1), .unset, .unset, .unset, .unset] [(.int (p0 &&& (3 : Int32)))])) _
    refine st1 _ ?_
    show Steps p.tables e below (T1.setTop (mkF m 6 #[.val (.int p0), .val (.int p1), .unset, .unset, .unset, .unset] [(.ref (F1 (p0 &&& (3 : Int32)) wT wF wB wE))])) _
    refine XS.astoreN X1.here hx rfl (hb hby at_6) rfl rfl (l' := #[.val (.int p0), .val (.int p1), .val (.ref (F1 (p0 &&& (3 : Int32)) wT wF wB wE)), .unset, .unset, .unset]) rfl ?_
    show Steps p.tables e below (T1.setTop (mkF m 7 #[.val (.int p0), .val (.int p1), .val (.ref (F1 (p0 &&& (3 : Int32)) wT wF wB wE)), .unset, .unset, .unset] [])) _
    refine XS.iloadN X1.here hx rfl (hb hby at_7) rfl ?_
    show Steps p.tables e below (T1.setTop (mkF m 8 #[.val (.int p0), .val (.int p1), .val (.ref (F1 (p0 &&& (3 : Int32)) wT wF wB wE)), .unset, .unset, .unset] [(.int p1)])) _
    refine XS.iconst X1.here hx rfl (hb hby at_8) ?_
    show Steps p.tables e below (T1.setTop (mkF m 9 #[.val (.int p0), .val (.int p1), .val (.ref (F1 (p0 &&& (3 : Int32)) wT wF wB wE)), .unset, .unset, .unset] [(.int (3 : Int32)), (.int p1)])) _
    refine XS.iand X1.here hx rfl (hb hby at_9) rfl ?_
    show Steps p.tables e below (T1.setTop (mkF m 10 #[.val (.int p0), .val (.int p1), .val (.ref (F1 (p0 &&& (3 : Int32)) wT wF wB wE)), .unset, .unset, .unset] [(.int (p1 &&& (3 : Int32)))])) _
    refine st2 _ ?_
    show Steps p.tables e below (T2.setTop (mkF m 13 #[.val (.int p0), .val (.int p1), .val (.ref (F1 (p0 &&& (3 : Int32)) wT wF wB wE)), .unset, .unset, .unset] [(.ref (F1 (p1 &&& (3 : Int32)) wT wF wB wE))])) _
    refine XS.astoreN X2.here hx rfl (hb hby at_13) rfl rfl (l' := #[.val (.int p0), .val (.int p1), .val (.ref (F1 (p0 &&& (3 : Int32)) wT wF wB wE)), .val (.ref (F1 (p1 &&& (3 : Int32)) wT wF wB wE)), .unset, .unset]) rfl ?_
    show Steps p.tables e below (T2.setTop (mkF m 14 #[.val (.int p0), .val (.int p1), .val (.ref (F1 (p0 &&& (3 : Int32)) wT wF wB wE)), .val (.ref (F1 (p1 &&& (3 : Int32)) wT wF wB wE)), .unset, .unset] [])) _
    refine XS.aloadN X2.here hx rfl (hb hby at_14) rfl rfl ?_
    show Steps p.tables e below (T2.setTop (mkF m 15 #[.val (.int p0), .val (.int p1), .val (.ref (F1 (p0 &&& (3 : Int32)) wT wF wB wE)), .val (.ref (F1 (p1 &&& (3 : Int32)) wT wF wB wE)), .unset, .unset] [(.ref (F1 (p0 &&& (3 : Int32)) wT wF wB wE))])) _
    refine XS.aloadN X2.here hx rfl (hb hby at_15) rfl rfl ?_
    show Steps p.tables e below (T2.setTop (mkF m 16 #[.val (.int p0), .val (.int p1), .val (.ref (F1 (p0 &&& (3 : Int32)) wT wF wB wE)), .val (.ref (F1 (p1 &&& (3 : Int32)) wT wF wB wE)), .unset, .unset] [(.ref (F1 (p1 &&& (3 : Int32)) wT wF wB wE)), (.ref (F1 (p0 &&& (3 : Int32)) wT wF wB wE))])) _
    refine st3.trans ?_
    show Steps p.tables e below (T3.setTop (mkF m 19 #[.val (.int p0), .val (.int p1), .val (.ref (F1 (p0 &&& (3 : Int32)) wT wF wB wE)), .val (.ref (F1 (p1 &&& (3 : Int32)) wT wF wB wE)), .unset, .unset] [(.ref (F2 (F1 (p0 &&& (3 : Int32)) wT wF wB wE) (F1 (p1 &&& (3 : Int32)) wT wF wB wE) wT wF wB wE))])) _
    refine XS.astore X3.here hx rfl (hb hby at_19) rfl rfl (l' := #[.val (.int p0), .val (.int p1), .val (.ref (F1 (p0 &&& (3 : Int32)) wT wF wB wE)), .val (.ref (F1 (p1 &&& (3 : Int32)) wT wF wB wE)), .val (.ref (F2 (F1 (p0 &&& (3 : Int32)) wT wF wB wE) (F1 (p1 &&& (3 : Int32)) wT wF wB wE) wT wF wB wE)), .unset]) rfl ?_
    show Steps p.tables e below (T3.setTop (mkF m 21 #[.val (.int p0), .val (.int p1), .val (.ref (F1 (p0 &&& (3 : Int32)) wT wF wB wE)), .val (.ref (F1 (p1 &&& (3 : Int32)) wT wF wB wE)), .val (.ref (F2 (F1 (p0 &&& (3 : Int32)) wT wF wB wE) (F1 (p1 &&& (3 : Int32)) wT wF wB wE) wT wF wB wE)), .unset] [])) _
    refine XS.aloadN X3.here hx rfl (hb hby at_21) rfl rfl ?_
    show Steps p.tables e below (T3.setTop (mkF m 22 #[.val (.int p0), .val (.int p1), .val (.ref (F1 (p0 &&& (3 : Int32)) wT wF wB wE)), .val (.ref (F1 (p1 &&& (3 : Int32)) wT wF wB wE)), .val (.ref (F2 (F1 (p0 &&& (3 : Int32)) wT wF wB wE) (F1 (p1 &&& (3 : Int32)) wT wF wB wE) wT wF wB wE)), .unset] [(.ref (F1 (p0 &&& (3 : Int32)) wT wF wB wE))])) _
    refine st4 _ ?_
    show Steps p.tables e below (T4.setTop (mkF m 25 #[.val (.int p0), .val (.int p1), .val (.ref (F1 (p0 &&& (3 : Int32)) wT wF wB wE)), .val (.ref (F1 (p1 &&& (3 : Int32)) wT wF wB wE)), .val (.ref (F2 (F1 (p0 &&& (3 : Int32)) wT wF wB wE) (F1 (p1 &&& (3 : Int32)) wT wF wB wE) wT wF wB wE)), .unset] [(.int (F3 (F1 (p0 &&& (3 : Int32)) wT wF wB wE) wT wF wB wE))])) _
    refine XS.aloadN X4.here hx rfl (hb hby at_25) rfl rfl ?_
    show Steps p.tables e below (T4.setTop (mkF m 26 #[.val (.int p0), .val (.int p1), .val (.ref (F1 (p0 &&& (3 : Int32)) wT wF wB wE)), .val (.ref (F1 (p1 &&& (3 : Int32)) wT wF wB wE)), .val (.ref (F2 (F1 (p0 &&& (3 : Int32)) wT wF wB wE) (F1 (p1 &&& (3 : Int32)) wT wF wB wE) wT wF wB wE)), .unset] [(.ref (F1 (p1 &&& (3 : Int32)) wT wF wB wE)), (.int (F3 (F1 (p0 &&& (3 : Int32)) wT wF wB wE) wT wF wB wE))])) _
    refine st5 _ ?_
    show Steps p.tables e below (T5.setTop (mkF m 29 #[.val (.int p0), .val (.int p1), .val (.ref (F1 (p0 &&& (3 : Int32)) wT wF wB wE)), .val (.ref (F1 (p1 &&& (3 : Int32)) wT wF wB wE)), .val (.ref (F2 (F1 (p0 &&& (3 : Int32)) wT wF wB wE) (F1 (p1 &&& (3 : Int32)) wT wF wB wE) wT wF wB wE)), .unset] [(.int (F3 (F1 (p1 &&& (3 : Int32)) wT wF wB wE) wT wF wB wE)), (.int (F3 (F1 (p0 &&& (3 : Int32)) wT wF wB wE) wT wF wB wE))])) _
    refine st6 _ ?_
    show Steps p.tables e below (T6.setTop (mkF m 32 #[.val (.int p0), .val (.int p1), .val (.ref (F1 (p0 &&& (3 : Int32)) wT wF wB wE)), .val (.ref (F1 (p1 &&& (3 : Int32)) wT wF wB wE)), .val (.ref (F2 (F1 (p0 &&& (3 : Int32)) wT wF wB wE) (F1 (p1 &&& (3 : Int32)) wT wF wB wE) wT wF wB wE)), .unset] [(.int (F4 (F3 (F1 (p0 &&& (3 : Int32)) wT wF wB wE) wT wF wB wE) (F3 (F1 (p1 &&& (3 : Int32)) wT wF wB wE) wT wF wB wE)))])) _
    refine XS.istore X6.here hx rfl (hb hby at_32) rfl (l' := #[.val (.int p0), .val (.int p1), .val (.ref (F1 (p0 &&& (3 : Int32)) wT wF wB wE)), .val (.ref (F1 (p1 &&& (3 : Int32)) wT wF wB wE)), .val (.ref (F2 (F1 (p0 &&& (3 : Int32)) wT wF wB wE) (F1 (p1 &&& (3 : Int32)) wT wF wB wE) wT wF wB wE)), .val (.int (F4 (F3 (F1 (p0 &&& (3 : Int32)) wT wF wB wE) wT wF wB wE) (F3 (F1 (p1 &&& (3 : Int32)) wT wF wB wE) wT wF wB wE)))]) rfl ?_
    show Steps p.tables e below (T6.setTop (mkF m 34 #[.val (.int p0), .val (.int p1), .val (.ref (F1 (p0 &&& (3 : Int32)) wT wF wB wE)), .val (.ref (F1 (p1 &&& (3 : Int32)) wT wF wB wE)), .val (.ref (F2 (F1 (p0 &&& (3 : Int32)) wT wF wB wE) (F1 (p1 &&& (3 : Int32)) wT wF wB wE) wT wF wB wE)), .val (.int (F4 (F3 (F1 (p0 &&& (3 : Int32)) wT wF wB wE) wT wF wB wE) (F3 (F1 (p1 &&& (3 : Int32)) wT wF wB wE) wT wF wB wE)))] [])) _
    refine XS.aload X6.here hx rfl (hb hby at_34) rfl rfl ?_
    show Steps p.tables e below (T6.setTop (mkF m 36 #[.val (.int p0), .val (.int p1), .val (.ref (F1 (p0 &&& (3 : Int32)) wT wF wB wE)), .val (.ref (F1 (p1 &&& (3 : Int32)) wT wF wB wE)), .val (.ref (F2 (F1 (p0 &&& (3 : Int32)) wT wF wB wE) (F1 (p1 &&& (3 : Int32)) wT wF wB wE) wT wF wB wE)), .val (.int (F4 (F3 (F1 (p0 &&& (3 : Int32)) wT wF wB wE) wT wF wB wE) (F3 (F1 (p1 &&& (3 : Int32)) wT wF wB wE) wT wF wB wE)))] [(.ref (F2 (F1 (p0 &&& (3 : Int32)) wT wF wB wE) (F1 (p1 &&& (3 : Int32)) wT wF wB wE) wT wF wB wE))])) _
    refine st7 _ ?_
    show Steps p.tables e below (T7.setTop (mkF m 39 #[.val (.int p0), .val (.int p1), .val (.ref (F1 (p0 &&& (3 : Int32)) wT wF wB wE)), .val (.ref (F1 (p1 &&& (3 : Int32)) wT wF wB wE)), .val (.ref (F2 (F1 (p0 &&& (3 : Int32)) wT wF wB wE) (F1 (p1 &&& (3 : Int32)) wT wF wB wE) wT wF wB wE)), .val (.int (F4 (F3 (F1 (p0 &&& (3 : Int32)) wT wF wB wE) wT wF wB wE) (F3 (F1 (p1 &&& (3 : Int32)) wT wF wB wE) wT wF wB wE)))] [(.int (F3 (F2 (F1 (p0 &&& (3 : Int32)) wT wF wB wE) (F1 (p1 &&& (3 : Int32)) wT wF wB wE) wT wF wB wE) wT wF wB wE))])) _
    refine XS.iload X7.here hx rfl (hb hby at_39) rfl ?_
    exact kt)
  by_cases hc41 : (F3 (F2 (F1 (p0 &&& (3 : Int32)) wT wF wB wE) (F1 (p1 &&& (3 : Int32)) wT wF wB wE) wT wF wB wE) wT wF wB wE) = (F4 (F3 (F1 (p0 &&& (3 : Int32)) wT wF wB wE) wT wF wB wE) (F3 (F1 (p1 &&& (3 : Int32)) wT wF wB wE) wT wF wB wE))
  · obtain ⟨fs, hr, hrun, hended, hW, hsame⟩ := X7.leave (v := some (.int (1 : Int32))) (fun h => by rw [Bd.returns] at h; cases h)
    refine ⟨_, _, pre8 _ ?_, hrun, hended, _, _, rfl, ?_, ⟨_, rfl⟩, hW, hsame.mono (by decide) (by decide)⟩
    · show Steps p.tables e below (T7.setTop (mkF m 41 #[.val (.int p0), .val (.int p1), .val (.ref (F1 (p0 &&& (3 : Int32)) wT wF wB wE)), .val (.ref (F1 (p1 &&& (3 : Int32)) wT wF wB wE)), .val (.ref (F2 (F1 (p0 &&& (3 : Int32)) wT wF wB wE) (F1 (p1 &&& (3 : Int32)) wT wF wB wE) wT wF wB wE)), .val (.int (F4 (F3 (F1 (p0 &&& (3 : Int32)) wT wF wB wE) wT wF wB wE) (F3 (F1 (p1 &&& (3 : Int32)) wT wF wB wE) wT wF wB wE)))] [(.int (F4 (F3 (F1 (p0 &&& (3 : Int32)) wT wF wB wE) wT wF wB wE) (F3 (F1 (p1 &&& (3 : Int32)) wT wF wB wE) wT wF wB wE))), (.int (F3 (F2 (F1 (p0 &&& (3 : Int32)) wT wF wB wE) (F1 (p1 &&& (3 : Int32)) wT wF wB wE) wT wF wB wE) wT wF wB wE))])) _
      refine XS.icmpNo X7.here hx rfl (hb hby at_41) rfl (teq hc41).2 ?_
      show Steps p.tables e below (T7.setTop (mkF m 44 #[.val (.int p0), .val (.int p1), .val (.ref (F1 (p0 &&& (3 : Int32)) wT wF wB wE)), .val (.ref (F1 (p1 &&& (3 : Int32)) wT wF wB wE)), .val (.ref (F2 (F1 (p0 &&& (3 : Int32)) wT wF wB wE) (F1 (p1 &&& (3 : Int32)) wT wF wB wE) wT wF wB wE)), .val (.int (F4 (F3 (F1 (p0 &&& (3 : Int32)) wT wF wB wE) wT wF wB wE) (F3 (F1 (p1 &&& (3 : Int32)) wT wF wB wE) wT wF wB wE)))] [])) _
      refine XS.iconst X7.here hx rfl (hb hby at_44) ?_
      show Steps p.tables e below (T7.setTop (mkF m 45 #[.val (.int p0), .val (.int p1), .val (.ref (F1 (p0 &&& (3 : Int32)) wT wF wB wE)), .val (.ref (F1 (p1 &&& (3 : Int32)) wT wF wB wE)), .val (.ref (F2 (F1 (p0 &&& (3 : Int32)) wT wF wB wE) (F1 (p1 &&& (3 : Int32)) wT wF wB wE) wT wF wB wE)), .val (.int (F4 (F3 (F1 (p0 &&& (3 : Int32)) wT wF wB wE) wT wF wB wE) (F3 (F1 (p1 &&& (3 : Int32)) wT wF wB wE) wT wF wB wE)))] [(.int (1 : Int32))])) _
      refine XS.goto X7.here hx rfl (pc0 := 45) (pc' := 49) rfl (hb hby at_45) (by decide) (by decide) ?_
      show Steps p.tables e below (T7.setTop (mkF m 49 #[.val (.int p0), .val (.int p1), .val (.ref (F1 (p0 &&& (3 : Int32)) wT wF wB wE)), .val (.ref (F1 (p1 &&& (3 : Int32)) wT wF wB wE)), .val (.ref (F2 (F1 (p0 &&& (3 : Int32)) wT wF wB wE) (F1 (p1 &&& (3 : Int32)) wT wF wB wE) wT wF wB wE)), .val (.int (F4 (F3 (F1 (p0 &&& (3 : Int32)) wT wF wB wE) wT wF wB wE) (F3 (F1 (p1 &&& (3 : Int32)) wT wF wB wE) wT wF wB wE)))] [(.int (1 : Int32))])) _
      exact retN X7 hx (t := .boolean) Bd.returns (by simp) (hb hby at_49) hr
    · show Q0 Z p0 p1 wT wF wB wE h0 n0 _ T7.heap _
      rw [e7]
      exact ⟨(by unfold F0; simp only [if_pos hc41]), N7⟩
  · obtain ⟨fs, hr, hrun, hended, hW, hsame⟩ := X7.leave (v := some (.int (0 : Int32))) (fun h => by rw [Bd.returns] at h; cases h)
    refine ⟨_, _, pre8 _ ?_, hrun, hended, _, _, rfl, ?_, ⟨_, rfl⟩, hW, hsame.mono (by decide) (by decide)⟩
    · show Steps p.tables e below (T7.setTop (mkF m 41 #[.val (.int p0), .val (.int p1), .val (.ref (F1 (p0 &&& (3 : Int32)) wT wF wB wE)), .val (.ref (F1 (p1 &&& (3 : Int32)) wT wF wB wE)), .val (.ref (F2 (F1 (p0 &&& (3 : Int32)) wT wF wB wE) (F1 (p1 &&& (3 : Int32)) wT wF wB wE) wT wF wB wE)), .val (.int (F4 (F3 (F1 (p0 &&& (3 : Int32)) wT wF wB wE) wT wF wB wE) (F3 (F1 (p1 &&& (3 : Int32)) wT wF wB wE) wT wF wB wE)))] [(.int (F4 (F3 (F1 (p0 &&& (3 : Int32)) wT wF wB wE) wT wF wB wE) (F3 (F1 (p1 &&& (3 : Int32)) wT wF wB wE) wT wF wB wE))), (.int (F3 (F2 (F1 (p0 &&& (3 : Int32)) wT wF wB wE) (F1 (p1 &&& (3 : Int32)) wT wF wB wE) wT wF wB wE) wT wF wB wE))])) _
      refine XS.icmpYes X7.here hx rfl (pc0 := 41) (pc' := 48) rfl (hb hby at_41) rfl (feq hc41).2 (by decide) (by decide) ?_
      show Steps p.tables e below (T7.setTop (mkF m 48 #[.val (.int p0), .val (.int p1), .val (.ref (F1 (p0 &&& (3 : Int32)) wT wF wB wE)), .val (.ref (F1 (p1 &&& (3 : Int32)) wT wF wB wE)), .val (.ref (F2 (F1 (p0 &&& (3 : Int32)) wT wF wB wE) (F1 (p1 &&& (3 : Int32)) wT wF wB wE) wT wF wB wE)), .val (.int (F4 (F3 (F1 (p0 &&& (3 : Int32)) wT wF wB wE) wT wF wB wE) (F3 (F1 (p1 &&& (3 : Int32)) wT wF wB wE) wT wF wB wE)))] [])) _
      refine XS.iconst X7.here hx rfl (hb hby at_48) ?_
      show Steps p.tables e below (T7.setTop (mkF m 49 #[.val (.int p0), .val (.int p1), .val (.ref (F1 (p0 &&& (3 : Int32)) wT wF wB wE)), .val (.ref (F1 (p1 &&& (3 : Int32)) wT wF wB wE)), .val (.ref (F2 (F1 (p0 &&& (3 : Int32)) wT wF wB wE) (F1 (p1 &&& (3 : Int32)) wT wF wB wE) wT wF wB wE)), .val (.int (F4 (F3 (F1 (p0 &&& (3 : Int32)) wT wF wB wE) wT wF wB wE) (F3 (F1 (p1 &&& (3 : Int32)) wT wF wB wE) wT wF wB wE)))] [(.int (0 : Int32))])) _
      exact retN X7 hx (t := .boolean) Bd.returns (by simp) (hb hby at_49) hr
    · show Q0 Z p0 p1 wT wF wB wE h0 n0 _ T7.heap _
      rw [e7]
      exact ⟨(by unfold F0; simp only [if_neg hc41]), N7⟩
/-! THE PLAIN LAW -/
theorem own_ni {x y : Int32} (h : x ≠ y) : Value.int x ≠ Value.int y := fun q => h (Value.int.inj q)
theorem own_pick (k : Int32) (wT wF wB wE : Addr) : F1 k wT wF wB wE = wT ∨ F1 k wT wF wB wE = wF ∨ F1 k wT wF wB wE = wB ∨ F1 k wT wF wB wE = wE := by
  unfold F1; repeat' split
  all_goals simp
theorem own_rT {wT wF wB wE : Addr} (h1 : wT ≠ wF) (h2 : wT ≠ wB) (h3 : wT ≠ wE) : F3 wT wT wF wB wE = 3 := by simp [F3, h1, h2, h3]
theorem own_rF {wT wF wB wE : Addr} : F3 wF wT wF wB wE = 0 := by simp [F3]
theorem own_rB {wT wF wB wE : Addr} (h1 : wF ≠ wB) (h2 : wB ≠ wE) : F3 wB wT wF wB wE = 2 := by simp [F3, Ne.symm h1, h2]
theorem own_rE {wT wF wB wE : Addr} (h1 : wF ≠ wE) : F3 wE wT wF wB wE = 1 := by simp [F3, Ne.symm h1]
theorem own_law (p0 p1 : Int32) (wT wF wB wE : Addr) (h1 : wT ≠ wF) (h2 : wT ≠ wB) (h3 : wT ≠ wE) (h4 : wF ≠ wB) (h5 : wF ≠ wE) (h6 : wB ≠ wE) : F0 p0 p1 wT wF wB wE = 1 := by
  unfold F0
  refine if_pos ?_
  generalize hx : F1 (p0 &&& (3 : Int32)) wT wF wB wE = x
  generalize hy : F1 (p1 &&& (3 : Int32)) wT wF wB wE = y
  have cx := own_pick (p0 &&& (3 : Int32)) wT wF wB wE; rw [hx] at cx
  have cy := own_pick (p1 &&& (3 : Int32)) wT wF wB wE; rw [hy] at cy
  have rT := own_rT h1 h2 h3
  have rF : F3 wF wT wF wB wE = 0 := own_rF
  have rB : F3 wB wT wF wB wE = 2 := own_rB h4 h6
  have rE : F3 wE wT wF wB wE = 1 := own_rE h5
  clear hx hy
  rcases cx with rfl | rfl | rfl | rfl <;> rcases cy with rfl | rfl | rfl | rfl <;>
    simp [F2, rT, rF, rB, rE, h1, h2, h3, h4, h5, h6, Ne.symm h1, Ne.symm h2, Ne.symm h3, Ne.symm h4, Ne.symm h5, Ne.symm h6, F4]
set_option maxRecDepth 65536 in
set_option maxHeartbeats 40000000 in
theorem comes_1 {Post : Tables → Env → Array Value → State → Outcome → State → Prop} (hpost : ∀ tb e args s v u, (limb_1_1.after args s (.returned v) u = true ∧ limb_1_2.after args s (.returned v) u = true ∧ True) → FrameEnd s (.returned v) u (Jvm.fieldLocs frame_1_writes args s ++ Jvm.arrayLocs frame_1_arrays args s ++ Jvm.staticLocs frame_1_statics s) 0 0 → Post tb e args s (.returned v) u) :
    ArmFor flags0 classFile x code maxLocals ret World_1 tables_1 room_1 Calls_1 rest_1 Pre_1 Post := by
  intro l hfl _ _ p e ha hc hk s m args below hf hA hF happ hP
  obtain ⟨hcalls, hrest, hpre⟩ := hP
  obtain ⟨-, -, -, hnamed, -, -, -, hat⟩ := (Spec.applies_iff hf).mp happ
  obtain ⟨hg, hn⟩ := and_e (Cond.before_iff.mp (show (Jvm.Cond.and given_1 narrow_1).before args s = true from hpre))
  obtain ⟨g1, g2⟩ := and_e hg
  obtain ⟨g3, g4⟩ := and_e g2
  obtain ⟨g5, g6⟩ := and_e hn
  obtain ⟨g7, g8⟩ := and_e g6
  obtain ⟨g9, g10⟩ := and_e g8
  obtain ⟨g11, g12⟩ := and_e g10
  obtain ⟨g13, g14⟩ := and_e g12
  obtain ⟨g15, g16⟩ := and_e g14
  obtain ⟨g17, g18⟩ := and_e g16
  obtain ⟨w0, w1, rfl⟩ : ∃ w0 w1 : Value, args = #[w0, w1] := by
    have hs : args.size = 2 := by simpa [Cond.value, given_1] using g1
    obtain ⟨L⟩ := args
    match L, hs with
    | [w0, w1], _ => exact ⟨w0, w1, rfl⟩
  have hw := fun d (hd : d ∈ tables_1) => atoms_spec (ws := Jvm.Cond.code x code maxLocals ret :: tables_1) hat d (List.mem_cons_of_mem _ hd)
  have hfit : Fit s := fun {y c} hc i hi => by
    obtain ⟨ha, rfl⟩ := Array.getElem?_eq_some_iff.mp hc
    have q := List.all_eq_true.mp ((Array.all_eq_true_iff_forall_mem.mp hF) _ (Array.getElem_mem ha)) i (List.mem_range.mpr hi)
    simpa [Array.getElem?_eq_getElem hi] using q
  obtain ⟨i0, ei0⟩ := is_v g3
  obtain rfl : w0 = (.int i0) := Option.some.inj ei0
  obtain ⟨i1, ei1⟩ := is_v g4
  obtain rfl : w1 = (.int i1) := Option.some.inj ei1
  obtain ⟨a_Truth_TRUE, ev_Truth_TRUE⟩ := exa_v g5
  have S_Truth_TRUE := Sta.start ev_Truth_TRUE (Or.inr ⟨(hw _ (List.mem_of_getElem? (i := 5) rfl)), (hw _ (List.mem_of_getElem? (i := 6) rfl))⟩)
  have E_Truth_TRUE := Exa.start ev_Truth_TRUE g5
  obtain ⟨a_Truth_ERROR, ev_Truth_ERROR⟩ := exa_v g7
  have S_Truth_ERROR := Sta.start ev_Truth_ERROR (Or.inr ⟨(hw _ (List.mem_of_getElem? (i := 5) rfl)), (hw _ (List.mem_of_getElem? (i := 8) rfl))⟩)
  have E_Truth_ERROR := Exa.start ev_Truth_ERROR g7
  obtain ⟨a_Truth_FALSE, ev_Truth_FALSE⟩ := exa_v g9
  have S_Truth_FALSE := Sta.start ev_Truth_FALSE (Or.inr ⟨(hw _ (List.mem_of_getElem? (i := 5) rfl)), (hw _ (List.mem_of_getElem? (i := 15) rfl))⟩)
  have E_Truth_FALSE := Exa.start ev_Truth_FALSE g9
  obtain ⟨a_Truth_BOTTOM, ev_Truth_BOTTOM⟩ := exa_v g17
  have S_Truth_BOTTOM := Sta.start ev_Truth_BOTTOM (Or.inr ⟨(hw _ (List.mem_of_getElem? (i := 5) rfl)), (hw _ (List.mem_of_getElem? (i := 22) rfl))⟩)
  have E_Truth_BOTTOM := Exa.start ev_Truth_BOTTOM g17
  have O_Truth_TRUE : Fld s s.heap a_Truth_TRUE "java/lang/Enum" "ordinal" "I" (.int (0 : Int32)) := by
    obtain ⟨vx, vy, hvx, hvy, hk1, hk2⟩ := cmp_v (Or.inl g11)
    obtain rfl : Value.int (0 : Int32) = vy := Option.some.inj ((Term.int_eval (0 : Int32)).symm.trans hvy)
    obtain ⟨z, rfl⟩ : ∃ z, vx = Value.int z := hk2
    have hz := gotT (Cond.eq_ints hvx (Term.int_eval (0 : Int32))) g11
    subst hz; exact Fld.start ((fld_at ev_Truth_TRUE).symm.trans hvx)
  have O_Truth_FALSE : Fld s s.heap a_Truth_FALSE "java/lang/Enum" "ordinal" "I" (.int (1 : Int32)) := by
    obtain ⟨vx, vy, hvx, hvy, hk1, hk2⟩ := cmp_v (Or.inl g13)
    obtain rfl : Value.int (1 : Int32) = vy := Option.some.inj ((Term.int_eval (1 : Int32)).symm.trans hvy)
    obtain ⟨z, rfl⟩ : ∃ z, vx = Value.int z := hk2
    have hz := gotT (Cond.eq_ints hvx (Term.int_eval (1 : Int32))) g13
    subst hz; exact Fld.start ((fld_at ev_Truth_FALSE).symm.trans hvx)
  have O_Truth_ERROR : Fld s s.heap a_Truth_ERROR "java/lang/Enum" "ordinal" "I" (.int (3 : Int32)) := by
    obtain ⟨vx, vy, hvx, hvy, hk1, hk2⟩ := cmp_v (Or.inl g15)
    obtain rfl : Value.int (3 : Int32) = vy := Option.some.inj ((Term.int_eval (3 : Int32)).symm.trans hvy)
    obtain ⟨z, rfl⟩ : ∃ z, vx = Value.int z := hk2
    have hz := gotT (Cond.eq_ints hvx (Term.int_eval (3 : Int32))) g15
    subst hz; exact Fld.start ((fld_at ev_Truth_ERROR).symm.trans hvx)
  have O_Truth_BOTTOM : Fld s s.heap a_Truth_BOTTOM "java/lang/Enum" "ordinal" "I" (.int (2 : Int32)) := by
    obtain ⟨vx, vy, hvx, hvy, hk1, hk2⟩ := cmp_v (Or.inl g18)
    obtain rfl : Value.int (2 : Int32) = vy := Option.some.inj ((Term.int_eval (2 : Int32)).symm.trans hvy)
    obtain ⟨z, rfl⟩ : ∃ z, vx = Value.int z := hk2
    have hz := gotT (Cond.eq_ints hvx (Term.int_eval (2 : Int32))) g18
    subst hz; exact Fld.start ((fld_at ev_Truth_BOTTOM).symm.trans hvx)
  obtain ⟨n, o, h1, h2, h3, _, L, rfl, ⟨rfl, N⟩, hq⟩ := rm0 l s _ hw tables_1 i0 i1 a_Truth_TRUE a_Truth_FALSE a_Truth_BOTTOM a_Truth_ERROR s.heap s.heap.size (Nat.le_refl _) S_Truth_TRUE S_Truth_FALSE S_Truth_BOTTOM S_Truth_ERROR E_Truth_TRUE E_Truth_FALSE E_Truth_BOTTOM E_Truth_ERROR p e ha hc hk s m _ below hf ((Spec.applies_iff_loose hf).mp happ).1 ⟨rfl, State.Warmed39.refl s, rfl⟩ trivial
  refine ⟨n, _, h1, h2, h3, hpost _ _ _ _ _ _ ⟨Cond.after_iff.mpr rfl, Cond.after_iff.mpr (eq_i res_at (Term.int_eval (1)) (congrArg Value.int (own_law i0 i1 a_Truth_TRUE a_Truth_FALSE a_Truth_BOTTOM a_Truth_ERROR (Fld.ne O_Truth_TRUE O_Truth_FALSE (own_ni (by decide))) (Fld.ne O_Truth_TRUE O_Truth_BOTTOM (own_ni (by decide))) (Fld.ne O_Truth_TRUE O_Truth_ERROR (own_ni (by decide))) (Fld.ne O_Truth_FALSE O_Truth_BOTTOM (own_ni (by decide))) (Fld.ne O_Truth_FALSE O_Truth_ERROR (own_ni (by decide))) (Fld.ne O_Truth_BOTTOM O_Truth_ERROR (own_ni (by decide)))))), trivial⟩ ⟨hq.1, hq.2.1, (hq.2.2.sift fun y hy => Or.inr (N y hy)).mono (by decide) (by decide)⟩⟩
theorem main_1_1 : Claimed_1_1 := comes_1 fun _ _ _ _ _ _ h hF => ⟨h.1, hF⟩
theorem main_1_2 : Claimed_1_2 := comes_1 fun _ _ _ _ _ _ h hF => ⟨h.2.1, hF⟩
end Jvm.Pilot.@@N@@
namespace Jvm.Pilot.@@N@@
open Jvm Jvm.ClassFile Sem Op Lib Jvm.Free Jvm.Stand Jvm.Pilot.@@N@@.Jvm.D
/-! MADE BY PROGRAM (witnessworld.py) out of the Statement's table words and the real class files: 13 classes; the members and pool entries that the words name. The judged class is class 1, her method 3. -/
namespace start1
open Jvm.ClassFile
def u (s : String) : CpInfo := .utf8 (stringToUtf16 s)
/-- a pool by its gaps: so many unusable entries, then the entry; so many at the end -/
def gap : Nat → List CpInfo → List CpInfo
  | 0, r => r
  | n + 1, r => .unusable :: gap n r
def poolList (es : List (Nat × CpInfo)) (last : Nat) : List CpInfo := es.foldr (fun e r => gap e.1 (e.2 :: r)) (gap last [])
def pool (es : List (Nat × CpInfo)) (last : Nat) : Array CpInfo := ⟨poolList es last⟩
def fileOf (pool : Array CpInfo) (this : Nat) (attrs : Array Attribute := #[]) (ms : Array MethodInfo := #[]) (fl : Nat := 33) (sup : Nat := 0) (ifs : Array Nat := #[]) (fds : Array FieldInfo := #[]) : ClassFile where
  minorVersion := 0
  majorVersion := 65
  constantPool := pool
  accessFlags := fl
  thisClass := this
  superClass := sup
  interfaces := ifs
  fields := fds
  methods := ms
  attributes := attrs
def plain (name : String) (sup : Option ClassId) : Class where
  name := name
  kind := .ordinary
  loader := none
  accessFlags := 33
  super := sup
  interfaces := #[]
  cf := none
  fields := #[]
  methods := #[]
  instanceTypes := #[]
  staticTypes := #[]
  resolved := #[]
  callSites := []
  init := .initialized
  statics := none
  mirror := none

def pool0 : Array CpInfo := pool [(5, u "<init>"), (0, u "()V"), (1, .class_ 10), (1, u "java/lang/Object")] 113

def k0m0 : Method := { name := "<init>", desc := "()V", sig := { parameters := [], returnType := none }, accessFlags := 1, code := none }
/-- java/lang/Object -/
def k0 : Class := { plain "java/lang/Object" none with
  accessFlags := 33
  interfaces := #[]
  cf := some (fileOf pool0 8 #[] #[{ accessFlags := 1, nameIndex := 5, descriptorIndex := 6, attributes := #[] }] 33 0 #[] #[])
  fields := #[]
  methods := #[k0m0]
  instanceTypes := #[]
  staticTypes := #[]
  resolved := Array.replicate 124 none
  statics := none }

def pool1 : Array CpInfo := pool [(2, .class_ 4), (1, u "java/lang/Object"), (0, u "<init>"), (0, u "()V"), (0, .fieldref 8 9), (0, .class_ 10), (0, .nameAndType 11 12), (0, u "com/example/event_to_verdict/eventtoverdict/engine/Truth"), (0, u "TRUE"), (0, u "Lcom/example/event_to_verdict/eventtoverdict/engine/Truth;"), (0, .fieldref 8 14), (0, .nameAndType 15 12), (0, u "FALSE"), (0, .fieldref 8 17), (0, .nameAndType 18 12), (0, u "BOTTOM"), (0, .fieldref 8 20), (0, .nameAndType 21 12), (0, u "ERROR"), (0, .methodref 23 24), (0, .class_ 25), (0, .nameAndType 26 27), (0, u "com/example/event_to_verdict/eventtoverdict/engine/TruthAndPinLaw"), (0, u "pick"), (0, u "(I)Lcom/example/event_to_verdict/eventtoverdict/engine/Truth;"), (0, .methodref 8 29), (0, .nameAndType 30 31), (0, u "and"), (0, u "(Lcom/example/event_to_verdict/eventtoverdict/engine/Truth;)Lcom/example/event_to_verdict/eventtoverdict/engine/Truth;"), (0, .methodref 23 33), (0, .nameAndType 34 35), (0, u "rank"), (0, u "(Lcom/example/event_to_verdict/eventtoverdict/engine/Truth;)I"), (0, .methodref 37 38), (0, .class_ 39), (0, .nameAndType 40 41), (0, u "java/lang/Math"), (0, u "min"), (0, u "(II)I"), (3, u "law"), (0, u "(II)Z")] 2

def k1m0 : Method := { name := "<init>", desc := "()V", sig := { parameters := [], returnType := none }, accessFlags := 1, code := none }
def k1c1 : Code := { maxStack := 2, maxLocals := 1, code := method_2_code, exceptionTable := #[], attributes := #[] }
def k1m1 : Method := { name := "pick", desc := "(I)Lcom/example/event_to_verdict/eventtoverdict/engine/Truth;", sig := { parameters := [.int], returnType := some (.object "com/example/event_to_verdict/eventtoverdict/engine/Truth") }, accessFlags := 10, code := some k1c1 }
def k1c2 : Code := { maxStack := 2, maxLocals := 1, code := method_3_code, exceptionTable := #[], attributes := #[] }
def k1m2 : Method := { name := "rank", desc := "(Lcom/example/event_to_verdict/eventtoverdict/engine/Truth;)I", sig := { parameters := [(.object "com/example/event_to_verdict/eventtoverdict/engine/Truth")], returnType := some .int }, accessFlags := 10, code := some k1c2 }
def k1c3 : Code := { maxStack := 2, maxLocals := 6, code := code, exceptionTable := #[], attributes := #[] }
def k1m3 : Method := { name := "law", desc := "(II)Z", sig := { parameters := [.int, .int], returnType := some .boolean }, accessFlags := 9, code := some k1c3 }
/-- com/example/event_to_verdict/eventtoverdict/engine/TruthAndPinLaw -/
def k1 : Class := { plain "com/example/event_to_verdict/eventtoverdict/engine/TruthAndPinLaw" (some 0) with
  accessFlags := 49
  interfaces := #[]
  cf := some (fileOf pool1 23 #[] #[{ accessFlags := 1, nameIndex := 5, descriptorIndex := 6, attributes := #[] }, { accessFlags := 10, nameIndex := 26, descriptorIndex := 27, attributes := #[] }, { accessFlags := 10, nameIndex := 34, descriptorIndex := 35, attributes := #[] }, { accessFlags := 9, nameIndex := 45, descriptorIndex := 46, attributes := #[] }] 49 2 #[] #[])
  fields := #[]
  methods := #[k1m0, k1m1, k1m2, k1m3]
  instanceTypes := #[]
  staticTypes := #[]
  resolved := Array.replicate 49 none
  statics := none }

def pool2 : Array CpInfo := pool [(1, .class_ 2), (0, u "java/lang/constant/Constable"), (0, .class_ 4), (0, u "java/lang/Object")] 6

/-- java/lang/constant/Constable -/
def k2 : Class := { plain "java/lang/constant/Constable" (some 0) with
  accessFlags := 1537
  interfaces := #[]
  cf := some (fileOf pool2 1 #[] #[] 1537 3 #[] #[])
  fields := #[]
  methods := #[]
  instanceTypes := #[]
  staticTypes := #[]
  resolved := Array.replicate 11 none
  statics := none }

def pool3 : Array CpInfo := pool [(1, .class_ 2), (0, u "java/lang/Comparable"), (0, .class_ 4), (0, u "java/lang/Object")] 7

/-- java/lang/Comparable -/
def k3 : Class := { plain "java/lang/Comparable" (some 0) with
  accessFlags := 1537
  interfaces := #[]
  cf := some (fileOf pool3 1 #[] #[] 1537 3 #[] #[])
  fields := #[]
  methods := #[]
  instanceTypes := #[]
  staticTypes := #[]
  resolved := Array.replicate 12 none
  statics := none }

def pool4 : Array CpInfo := pool [(1, .class_ 2), (0, u "java/io/Serializable"), (0, .class_ 4), (0, u "java/lang/Object")] 2

/-- java/io/Serializable -/
def k4 : Class := { plain "java/io/Serializable" (some 0) with
  accessFlags := 1537
  interfaces := #[]
  cf := some (fileOf pool4 1 #[] #[] 1537 3 #[] #[])
  fields := #[]
  methods := #[]
  instanceTypes := #[]
  staticTypes := #[]
  resolved := Array.replicate 7 none
  statics := none }

def pool5 : Array CpInfo := pool [(2, .class_ 4), (1, u "java/lang/Enum"), (0, u "name"), (0, u "Ljava/lang/String;"), (2, u "ordinal"), (0, u "I"), (1, .class_ 14), (1, u "java/lang/Object"), (4, u "hash"), (86, .class_ 108), (1, u "java/lang/Enum$EnumDesc"), (2, .class_ 112), (0, u "java/lang/constant/Constable"), (0, .class_ 114), (0, u "java/lang/Comparable"), (0, .class_ 116), (0, u "java/io/Serializable")] 87

/-- java/lang/Enum -/
def k5 : Class := { plain "java/lang/Enum" (some 0) with
  accessFlags := 1057
  interfaces := #[2, 3, 4]
  cf := some (fileOf pool5 2 #[.nestMembers #[106]] #[] 1057 12 #[111, 113, 115] #[{ accessFlags := 18, nameIndex := 5, descriptorIndex := 6, attributes := #[] }, { accessFlags := 18, nameIndex := 9, descriptorIndex := 10, attributes := #[] }, { accessFlags := 2, nameIndex := 19, descriptorIndex := 10, attributes := #[] }])
  fields := #[{ name := "name", type := (.object "java/lang/String"), accessFlags := 18, slot := 0, constantValue := 0 }, { name := "ordinal", type := .int, accessFlags := 18, slot := 1, constantValue := 0 }, { name := "hash", type := .int, accessFlags := 2, slot := 2, constantValue := 0 }]
  methods := #[]
  instanceTypes := #[(.object "java/lang/String"), .int, .int]
  staticTypes := #[]
  resolved := Array.replicate 204 none
  statics := none }

def pool6 : Array CpInfo := pool [(1, .class_ 2), (0, u "com/example/event_to_verdict/eventtoverdict/engine/Truth"), (0, .fieldref 1 4), (0, .nameAndType 5 6), (0, u "TRUE"), (0, u "Lcom/example/event_to_verdict/eventtoverdict/engine/Truth;"), (0, .fieldref 1 8), (0, .nameAndType 9 6), (0, u "FALSE"), (0, .fieldref 1 11), (0, .nameAndType 12 6), (0, u "BOTTOM"), (0, .fieldref 1 14), (0, .nameAndType 15 6), (0, u "ERROR"), (2, u "$VALUES"), (0, u "[Lcom/example/event_to_verdict/eventtoverdict/engine/Truth;"), (6, .class_ 28), (1, u "java/lang/Enum"), (45, u "and"), (0, u "(Lcom/example/event_to_verdict/eventtoverdict/engine/Truth;)Lcom/example/event_to_verdict/eventtoverdict/engine/Truth;")] 32

def k6c0 : Code := { maxStack := 2, maxLocals := 2, code := prog_24_method_6_code, exceptionTable := #[], attributes := #[] }
def k6m0 : Method := { name := "and", desc := "(Lcom/example/event_to_verdict/eventtoverdict/engine/Truth;)Lcom/example/event_to_verdict/eventtoverdict/engine/Truth;", sig := { parameters := [(.object "com/example/event_to_verdict/eventtoverdict/engine/Truth")], returnType := some (.object "com/example/event_to_verdict/eventtoverdict/engine/Truth") }, accessFlags := 0, code := some k6c0 }
/-- com/example/event_to_verdict/eventtoverdict/engine/Truth -/
def k6 : Class := { plain "com/example/event_to_verdict/eventtoverdict/engine/Truth" (some 5) with
  accessFlags := 16432
  interfaces := #[]
  cf := some (fileOf pool6 1 #[] #[{ accessFlags := 0, nameIndex := 74, descriptorIndex := 75, attributes := #[] }] 16432 26 #[] #[{ accessFlags := 16409, nameIndex := 5, descriptorIndex := 6, attributes := #[] }, { accessFlags := 16409, nameIndex := 9, descriptorIndex := 6, attributes := #[] }, { accessFlags := 16409, nameIndex := 12, descriptorIndex := 6, attributes := #[] }, { accessFlags := 16409, nameIndex := 15, descriptorIndex := 6, attributes := #[] }, { accessFlags := 4122, nameIndex := 18, descriptorIndex := 19, attributes := #[] }])
  fields := #[{ name := "TRUE", type := (.object "com/example/event_to_verdict/eventtoverdict/engine/Truth"), accessFlags := 16409, slot := 0, constantValue := 0 }, { name := "FALSE", type := (.object "com/example/event_to_verdict/eventtoverdict/engine/Truth"), accessFlags := 16409, slot := 1, constantValue := 0 }, { name := "BOTTOM", type := (.object "com/example/event_to_verdict/eventtoverdict/engine/Truth"), accessFlags := 16409, slot := 2, constantValue := 0 }, { name := "ERROR", type := (.object "com/example/event_to_verdict/eventtoverdict/engine/Truth"), accessFlags := 16409, slot := 3, constantValue := 0 }, { name := "$VALUES", type := (.array (.object "com/example/event_to_verdict/eventtoverdict/engine/Truth")), accessFlags := 4122, slot := 4, constantValue := 0 }]
  methods := #[k6m0]
  instanceTypes := #[(.object "java/lang/String"), .int, .int]
  staticTypes := #[(.object "com/example/event_to_verdict/eventtoverdict/engine/Truth"), (.object "com/example/event_to_verdict/eventtoverdict/engine/Truth"), (.object "com/example/event_to_verdict/eventtoverdict/engine/Truth"), (.object "com/example/event_to_verdict/eventtoverdict/engine/Truth"), (.array (.object "com/example/event_to_verdict/eventtoverdict/engine/Truth"))]
  resolved := Array.replicate 108 none
  statics := some 0 }

def pool7 : Array CpInfo := pool [(1, .class_ 2), (0, u "java/lang/Math"), (1, .class_ 6), (1, u "java/lang/Object"), (0, u "<init>"), (0, u "()V"), (89, .class_ 100), (1, u "java/lang/Math$RandomNumberGeneratorHolder"), (71, u "negativeZeroFloatBits"), (0, u "J"), (2, u "negativeZeroDoubleBits"), (24, u "min"), (43, u "$assertionsDisabled"), (0, u "Z"), (88, u "(II)I"), (2, u "twoToTheDoubleScaleDown"), (0, u "D"), (4, u "twoToTheDoubleScaleUp"), (9, u "E"), (3, u "PI"), (2, u "TAU"), (2, u "DEGREES_TO_RADIANS"), (0, u "RADIANS_TO_DEGREES")] 94

def k7m0 : Method := { name := "<init>", desc := "()V", sig := { parameters := [], returnType := none }, accessFlags := 2, code := none }
def k7c1 : Code := { maxStack := 2, maxLocals := 2, code := jdk_29_method_69_code, exceptionTable := #[], attributes := #[] }
def k7m1 : Method := { name := "min", desc := "(II)I", sig := { parameters := [.int, .int], returnType := some .int }, accessFlags := 9, code := some k7c1 }
/-- java/lang/Math -/
def k7 : Class := { plain "java/lang/Math" (some 0) with
  accessFlags := 49
  interfaces := #[]
  cf := some (fileOf pool7 1 #[.nestMembers #[98]] #[{ accessFlags := 2, nameIndex := 7, descriptorIndex := 8, attributes := #[] }, { accessFlags := 9, nameIndex := 201, descriptorIndex := 335, attributes := #[] }] 49 4 #[] #[{ accessFlags := 25, nameIndex := 354, descriptorIndex := 339, attributes := #[] }, { accessFlags := 25, nameIndex := 358, descriptorIndex := 339, attributes := #[] }, { accessFlags := 25, nameIndex := 361, descriptorIndex := 339, attributes := #[] }, { accessFlags := 26, nameIndex := 364, descriptorIndex := 339, attributes := #[] }, { accessFlags := 26, nameIndex := 365, descriptorIndex := 339, attributes := #[] }, { accessFlags := 26, nameIndex := 172, descriptorIndex := 173, attributes := #[] }, { accessFlags := 26, nameIndex := 176, descriptorIndex := 173, attributes := #[] }, { accessFlags := 8, nameIndex := 344, descriptorIndex := 339, attributes := #[] }, { accessFlags := 8, nameIndex := 338, descriptorIndex := 339, attributes := #[] }, { accessFlags := 4120, nameIndex := 245, descriptorIndex := 246, attributes := #[] }])
  fields := #[{ name := "E", type := .double, accessFlags := 25, slot := 0, constantValue := 0 }, { name := "PI", type := .double, accessFlags := 25, slot := 1, constantValue := 0 }, { name := "TAU", type := .double, accessFlags := 25, slot := 2, constantValue := 0 }, { name := "DEGREES_TO_RADIANS", type := .double, accessFlags := 26, slot := 3, constantValue := 0 }, { name := "RADIANS_TO_DEGREES", type := .double, accessFlags := 26, slot := 4, constantValue := 0 }, { name := "negativeZeroFloatBits", type := .long, accessFlags := 26, slot := 5, constantValue := 0 }, { name := "negativeZeroDoubleBits", type := .long, accessFlags := 26, slot := 6, constantValue := 0 }, { name := "twoToTheDoubleScaleUp", type := .double, accessFlags := 8, slot := 7, constantValue := 0 }, { name := "twoToTheDoubleScaleDown", type := .double, accessFlags := 8, slot := 8, constantValue := 0 }, { name := "$assertionsDisabled", type := .boolean, accessFlags := 4120, slot := 9, constantValue := 0 }]
  methods := #[k7m0, k7m1]
  instanceTypes := #[]
  staticTypes := #[.double, .double, .double, .double, .double, .long, .long, .double, .double, .boolean]
  resolved := Array.replicate 460 none
  statics := none }

def pool8 : Array CpInfo := pool [(1, u "java/lang/Cloneable"), (0, .class_ 1), (0, u "java/lang/Object"), (0, .class_ 3)] 3

/-- java/lang/Cloneable -/
def k8 : Class := { plain "java/lang/Cloneable" (some 0) with
  accessFlags := 1537
  interfaces := #[]
  cf := some (fileOf pool8 2 #[] #[] 1537 4 #[] #[])
  fields := #[]
  methods := #[]
  instanceTypes := #[]
  staticTypes := #[]
  resolved := Array.replicate 8 none
  statics := none }

/-- the primitive byte -/
def k9 : Class := { plain "byte" none with kind := .primitive 'B', accessFlags := 0x411 }
/-- [B -/
def k10 : Class := { plain "[B" (some 0) with kind := .array 9 .byte, interfaces := #[8, 4], accessFlags := 1041 }

/-- the primitive int -/
def k11 : Class := { plain "int" none with kind := .primitive 'I', accessFlags := 0x411 }
/-- [I -/
def k12 : Class := { plain "[I" (some 0) with kind := .array 11 .int, interfaces := #[8, 4], accessFlags := 1041 }

def heap : Heap := #[{ cls := 6, slots := #[.ref 1, .ref 2, .ref 3, .ref 4, .null], vm := .statics 6 },
  { cls := 6, slots := #[.null, .int 0, .int 0], vm := .none },
  { cls := 6, slots := #[.null, .int 1, .int 0], vm := .none },
  { cls := 6, slots := #[.null, .int 2, .int 0], vm := .none },
  { cls := 6, slots := #[.null, .int 3, .int 0], vm := .none }]
def classes : Array Class := #[k0, k1, k2, k3, k4, k5, k6, k7, k8, k9, k10, k11, k12]
def interned : List (Array UInt16 × Addr) := []
def slotsUsed : Nat := 17
def theMethod : MethodId := ⟨1, 3⟩
def args0 : Array Value := #[.int 5, .int 6]
def aboutOver (below : List Frame) : State where
  vm := { classes := classes, interned := interned.toArray }
  heap := heap
  slotsUsed := slotsUsed
  threads := #[{ frames := .invoking theMethod args0 :: below }]
def below0 : List Frame := [.native { method := ⟨0, 0⟩, args := #[] }]
def about1 : State := aboutOver below0
def p0 : Program := .bare "" "" ""
def e0 : Env := launch0.env 0 0 0
theorem w_frames : about1.frames = Frame.invoking theMethod args0 :: below0 := rfl
set_option maxRecDepth 65536 in
theorem w_args : argsFit about1.vm theMethod args0 = true := by decide +kernel
set_option maxRecDepth 65536 in
theorem w_heap : heapFits about1 = true := by decide +kernel
set_option maxRecDepth 65536 in
theorem w_runnable : about1.curStatus? = some .runnable := by decide +kernel
set_option maxRecDepth 65536 in
theorem w_alone : about1.alone = true := by decide +kernel
set_option maxRecDepth 65536 in
theorem w_named : about1.methodNamed? x = some theMethod := by decide +kernel
set_option maxRecDepth 65536 in
theorem w_hears : about1.hears theMethod below0 = true := by decide +kernel
set_option maxRecDepth 65536 in
theorem w_ripe : about1.ripe theMethod args0 below0 = true := by decide +kernel
theorem w_running : about1.status = .running := rfl
set_option maxRecDepth 65536 in
theorem w_room : about1.hasRoom e0.platform room_1 = true :=
  launch0.hasRoom_least _ room_1 (by decide +kernel) (by decide +kernel) (by decide +kernel) (by decide +kernel) (by decide +kernel) (by decide +kernel)
theorem allAtoms_all (ts : List Jvm.Cond) (a : Array Jvm.Value) (st : Jvm.State) : (allAtoms ts).before a st = ts.all (fun c => c.before a st) := by
  induction ts with
  | nil => rfl
  | cons c t ih =>
    show (Jvm.Cond.and c (allAtoms t)).before a st = _
    rw [Jvm.Cond.before_and, ih, List.all_cons]
def words1 : List Jvm.Cond := Jvm.Cond.code x code maxLocals ret :: tables_1
/-- a 'code' word, met by the world's own term for the bytes: nothing is compared byte by byte -/
theorem code_word {y : MethodName} {bytes : ByteArray} {mx : Nat} {rt : Option FieldType} {a : Array Value} {s : State} {m : MethodId} {meth : Method} {c : Code} (h1 : s.methodNamed? y = some m) (h2 : s.vm.method? m = some meth) (h3 : meth.code = some c) (h4 : c.code = bytes)
    (h5 : (c.maxLocals == mx && c.exceptionTable.isEmpty && decide (c.maxStack ≤ mostOperands) && decide (meth.sig.returnType = rt) && !meth.locks && decide (parseMethodDescriptor y.desc = some meth.sig)) = true) : (Jvm.Cond.code y bytes mx rt).before a s = true := by
  simp only [Bool.and_eq_true, beq_iff_eq, Bool.not_eq_true', decide_eq_true_eq] at h5
  obtain ⟨⟨⟨⟨⟨g1, g2⟩, g3⟩, g4⟩, g5⟩, g6⟩ := h5
  simp [Cond.before, Cond.holds, Cond.value, h1, h2, h3, h4, g1, g2, g3, g4, g5, g6]
def isCode : Jvm.Cond → Bool
  | .code _ _ _ _ => true
  | _ => false
theorem all_split {L : List Jvm.Cond} {P : Jvm.Cond → Bool} (h1 : L.all (fun c => isCode c || P c) = true) (h2 : ∀ c ∈ L.filter isCode, P c = true) : L.all P = true := by
  refine List.all_eq_true.mpr fun c hc => ?_
  have h := List.all_eq_true.mp h1 c hc
  rcases Bool.eq_false_or_eq_true (isCode c) with hi | hi
  · exact h2 c (List.mem_filter.mpr ⟨hc, hi⟩)
  · simpa [hi] using h
set_option maxRecDepth 65536 in
theorem w_c0 : (Jvm.Cond.code x code maxLocals ret).before args0 about1 = true := code_word (m := ⟨1, 3⟩) (meth := k1m3) (c := k1c3) (by decide +kernel) rfl rfl rfl (by decide +kernel)
set_option maxRecDepth 65536 in
theorem w_c1 : (Jvm.Cond.code ({ cls := "com/example/event_to_verdict/eventtoverdict/engine/TruthAndPinLaw", name := "pick", desc := "(I)Lcom/example/event_to_verdict/eventtoverdict/engine/Truth;" } : Jvm.MethodName) method_2_code (1 : Nat) (Option.some (Jvm.ClassFile.FieldType.object "com/example/event_to_verdict/eventtoverdict/engine/Truth"))).before args0 about1 = true := code_word (m := ⟨1, 1⟩) (meth := k1m1) (c := k1c1) (by decide +kernel) rfl rfl rfl (by decide +kernel)
set_option maxRecDepth 65536 in
theorem w_c2 : (Jvm.Cond.code ({ cls := "com/example/event_to_verdict/eventtoverdict/engine/Truth", name := "and", desc := "(Lcom/example/event_to_verdict/eventtoverdict/engine/Truth;)Lcom/example/event_to_verdict/eventtoverdict/engine/Truth;" } : Jvm.MethodName) prog_24_method_6_code (2 : Nat) (Option.some (Jvm.ClassFile.FieldType.object "com/example/event_to_verdict/eventtoverdict/engine/Truth"))).before args0 about1 = true := code_word (m := ⟨6, 0⟩) (meth := k6m0) (c := k6c0) (by decide +kernel) rfl rfl rfl (by decide +kernel)
set_option maxRecDepth 65536 in
theorem w_c3 : (Jvm.Cond.code ({ cls := "com/example/event_to_verdict/eventtoverdict/engine/TruthAndPinLaw", name := "rank", desc := "(Lcom/example/event_to_verdict/eventtoverdict/engine/Truth;)I" } : Jvm.MethodName) method_3_code (1 : Nat) (Option.some Jvm.ClassFile.FieldType.int)).before args0 about1 = true := code_word (m := ⟨1, 2⟩) (meth := k1m2) (c := k1c2) (by decide +kernel) rfl rfl rfl (by decide +kernel)
set_option maxRecDepth 65536 in
theorem w_c4 : (Jvm.Cond.code ({ cls := "java/lang/Math", name := "min", desc := "(II)I" } : Jvm.MethodName) jdk_29_method_69_code (2 : Nat) (Option.some Jvm.ClassFile.FieldType.int)).before args0 about1 = true := code_word (m := ⟨7, 1⟩) (meth := k7m1) (c := k7c1) (by decide +kernel) rfl rfl rfl (by decide +kernel)
def codes1 : List Jvm.Cond := [Jvm.Cond.code x code maxLocals ret, Jvm.Cond.code ({ cls := "com/example/event_to_verdict/eventtoverdict/engine/TruthAndPinLaw", name := "pick", desc := "(I)Lcom/example/event_to_verdict/eventtoverdict/engine/Truth;" } : Jvm.MethodName) method_2_code (1 : Nat) (Option.some (Jvm.ClassFile.FieldType.object "com/example/event_to_verdict/eventtoverdict/engine/Truth")), Jvm.Cond.code ({ cls := "com/example/event_to_verdict/eventtoverdict/engine/Truth", name := "and", desc := "(Lcom/example/event_to_verdict/eventtoverdict/engine/Truth;)Lcom/example/event_to_verdict/eventtoverdict/engine/Truth;" } : Jvm.MethodName) prog_24_method_6_code (2 : Nat) (Option.some (Jvm.ClassFile.FieldType.object "com/example/event_to_verdict/eventtoverdict/engine/Truth")), Jvm.Cond.code ({ cls := "com/example/event_to_verdict/eventtoverdict/engine/TruthAndPinLaw", name := "rank", desc := "(Lcom/example/event_to_verdict/eventtoverdict/engine/Truth;)I" } : Jvm.MethodName) method_3_code (1 : Nat) (Option.some Jvm.ClassFile.FieldType.int), Jvm.Cond.code ({ cls := "java/lang/Math", name := "min", desc := "(II)I" } : Jvm.MethodName) jdk_29_method_69_code (2 : Nat) (Option.some Jvm.ClassFile.FieldType.int)]
set_option maxRecDepth 65536 in
theorem codes_eq : words1.filter isCode = codes1 := rfl
theorem w_codes : ∀ c ∈ words1.filter isCode, c.before args0 about1 = true := by
  rw [codes_eq]
  intro c hc
  simp only [codes1, List.mem_cons, List.not_mem_nil, or_false] at hc
  rcases hc with rfl | rfl | rfl | rfl | rfl
  · exact w_c0
  · exact w_c1
  · exact w_c2
  · exact w_c3
  · exact w_c4
set_option maxRecDepth 65536 in
theorem w_t1 : (words1.take 24).all (fun c => isCode c || c.before args0 about1) = true := by decide +kernel
set_option maxRecDepth 65536 in
theorem w_t2 : (words1.drop 24).all (fun c => isCode c || c.before args0 about1) = true := by decide +kernel
theorem w_tables : (allAtoms (Jvm.Cond.code x code maxLocals ret :: tables_1)).before args0 about1 = true := by
  rw [allAtoms_all]
  show words1.all (fun c => c.before args0 about1) = true
  refine all_split ?_ w_codes
  rw [← List.take_append_drop 24 words1, List.all_append, w_t1, w_t2]
  rfl
set_option maxRecDepth 65536 in
theorem w_case : (Jvm.Cond.and given_1 narrow_1).before args0 about1 = true := by decide +kernel
theorem w_applies : (headSpec (Jvm.Cond.code x code maxLocals ret :: tables_1) room_1).applies x e0.platform about1 = true :=
  (Spec.applies_iff w_frames).mpr ⟨w_running, w_runnable, w_alone, w_named, w_hears, w_ripe, w_room, w_tables⟩
theorem atStart : AtStart classFile x code maxLocals ret World_1 tables_1 room_1 Calls_1 rest_1 Pre_1 launch0 p0 e0 about1 theMethod args0 below0 :=
  ⟨lists_1, trivial, launch0.admits_env _ _ _, launch0.least_env, fairChoices_fair.cas, fairChoices_fair.clock, w_frames, w_args, w_heap, w_applies, trivial, trivial, w_case⟩
end start1
theorem witness_1 : WitnessClaimed_1 := ⟨start1.p0, start1.e0, start1.about1, start1.theMethod, start1.args0, start1.below0, start1.atStart⟩
end Jvm.Pilot.@@N@@
