import JvmDerived
import JvmDerived.Pilot.@@N@@Statement
import JvmDerived.Pilot.@@N@@Code
set_option linter.unusedVariables false
set_option linter.unusedSimpArgs false
namespace Jvm.RoadKit
open Sem ClassFile Op Lib Jvm.Stand Jvm.Free Jvm.LawKit
section New
variable {p : Program} {l : Launch} {e : Env} {R : Room} {s : State} {m : MethodId} {args : Array Value} {below : List Frame} {meth : Method} {c : Code} {T : State} {locs : List Loc} {cells slots : Nat}
theorem retI (X : Stand p l e R s m args below meth c T locs cells slots) (hx : p.tables.exec = Jvm.exec) {pc : Nat} {Ls : Array Slot} {z : Int32} {rest : List Value} (hret : meth.sig.returnType = some .int) (hd : decode c.code pc = .ok (.ireturn, 1)) {fs : List Frame}
    (hl : ∀ (f : JFrame) (acts : List Action), f.method = m → f.locked = none → f.entered = [] → (doReturn e (T.setTop f) acts (some (.int z))).1 = T.setFrames fs) : Steps p.tables e below (T.setTop (mkF m pc Ls (.int z :: rest))) (T.setFrames fs) := by
  have hm' : T.vm.method? m = some meth := X.method'
  have hn : narrow .int (.int z) = .int z := rfl
  show Steps p.tables e below (T.setTop { method := m, pc := pc, locals := Ls, stack := _ :: rest, locked := none }) _
  jvm_step X.here [X.here.top, hx, hd, hm', hret, hn]
  first | (intro acts; rw [hl _ acts rfl rfl rfl]) | rw [hl _ _ rfl rfl rfl]
  exact Steps.refl _
end New
end Jvm.RoadKit
namespace Jvm.Pilot.@@N@@
open Jvm Jvm.ClassFile Sem Op Lib Jvm.Free Jvm.Stand Jvm.LawKit Jvm.RoadKit Bundle Jvm.Pilot.@@N@@.Jvm.D
theorem own_staK {Z : State} {h h' : Heap} {ws : List Addr} {C n d : String} {v : Value} (F : Sta Z h C n d v) (K : Keep h h' ws) (q : ∀ x ∈ ws, ∀ c : Cell, h[x]? = some c → c.vm.isStatics = false) : Sta Z h' C n d v := by
  obtain ⟨cf, i, k, f, st, cell, h1, h2, h3, h4, h5, h6, h7⟩ := F
  exact ⟨cf, i, k, f, st, cell, h1, h2, h3, h4, K.2.1 st cell h5 (fun z => by have := q st z cell h5; rw [h6] at this; cases this), h6, h7⟩
theorem own_exaN {Z : State} {h : Heap} {a : Addr} {C : String} (E : Exa Z h a C) : ∀ c : Cell, h[a]? = some c → c.vm.isStatics = false := fun c hc => by
  obtain ⟨c', k, h1, -, -, h4, -⟩ := E
  cases h1.symm.trans hc; exact h4
def ELs : List (String × Nat) := [("com/example/admission_for_endpoints/admissionforendpoints/EndpointRequest", 212)]
theorem own_lit1 : (∀ c ∈ ("!#$%&'*+-.^_`|~" : String).toList, c.toNat < 256) ∧ ("!#$%&'*+-.^_`|~" : String).toList.map (fun c => Value.int (Jvm.Lit.byteI c.toNat.toUInt16)) = [(.int (33 : Int32)), (.int (35 : Int32)), (.int (36 : Int32)), (.int (37 : Int32)), (.int (38 : Int32)), (.int (39 : Int32)), (.int (42 : Int32)), (.int (43 : Int32)), (.int (45 : Int32)), (.int (46 : Int32)), (.int (94 : Int32)), (.int (95 : Int32)), (.int (96 : Int32)), (.int (124 : Int32)), (.int (126 : Int32))] := by decide +kernel
theorem own_EW {Z : State} {a0 : Array Value} (hw : ∀ d ∈ tables_1, d.before a0 Z = true) : EW Z a0 ELs := EW.cons (hw _ (List.mem_of_getElem? (i := 4) rfl)) own_lit1.1 EW.nil
theorem own_strW {Z : State} {a0 : Array Value} (hw : ∀ d ∈ tables_1, d.before a0 Z = true) : ∀ d ∈ Bundle.stringAtoms, d.before a0 Z = true := fun d hd => by
  simp only [Bundle.stringAtoms, List.mem_cons, List.not_mem_nil, or_false] at hd
  rcases hd with rfl | rfl | rfl | rfl | rfl | rfl | rfl
  all_goals first | exact (hw _ (List.mem_of_getElem? (i := 5) rfl)) | exact (hw _ (List.mem_of_getElem? (i := 6) rfl)) | exact (hw _ (List.mem_of_getElem? (i := 7) rfl)) | exact (hw _ (List.mem_of_getElem? (i := 8) rfl)) | exact (hw _ (List.mem_of_getElem? (i := 9) rfl)) | exact (hw _ (List.mem_of_getElem? (i := 10) rfl)) | exact (hw _ (List.mem_of_getElem? (i := 11) rfl))
theorem d4_0 : decode jdk_42_method_154_code 0 = .ok (.getstatic 38, 3) := by decide +kernel
theorem d4_3 : decode jdk_42_method_154_code 3 = .ok (.ifCond .eq 14, 3) := by decide +kernel
theorem d4_6 : decode jdk_42_method_154_code 6 = .ok (.aload_n 0, 1) := by decide +kernel
theorem d4_7 : decode jdk_42_method_154_code 7 = .ok (.getfield 15, 3) := by decide +kernel
theorem d4_10 : decode jdk_42_method_154_code 10 = .ok (.ifCond .ne 7, 3) := by decide +kernel
theorem d4_13 : decode jdk_42_method_154_code 13 = .ok (.iconst 1, 1) := by decide +kernel
theorem d4_14 : decode jdk_42_method_154_code 14 = .ok (.goto 4, 3) := by decide +kernel
theorem d4_18 : decode jdk_42_method_154_code 18 = .ok (.ireturn, 1) := by decide +kernel
theorem pn_java_lang_String : plainName "java/lang/String" = true := by first | (simp [plainName, overriddenIn]; done) | decide +kernel
theorem ef_4 (r0 : Addr) (vb : Addr) (kb : ClassId) (wc : Int32) (m : MethodId) : entryFrame m #[(.ref r0)] 1 = mkF m 0 #[.val (.ref r0)] [] := by first | (simp [entryFrame, mkF, argsToLocals, Value.category]; done) | rfl
def Q4 (Z : State) (r0 : Addr) (vb : Addr) (kb : ClassId) (wc : Int32) (h0 : Heap) (n0 : Nat) (v : Option Value) (h : Heap) (L : List Loc) : Prop := v = some (.int (1 : Int32)) ∧ Fr n0 L ∧ h = h0
set_option maxRecDepth 65536 in
set_option maxHeartbeats 40000000 in
theorem rm4 (l : Launch) (Z : State) (a0 : Array Value) (hw : ∀ d ∈ tables_1, d.before a0 Z = true) (ws : List Jvm.Cond) (r0 : Addr) (vb : Addr) (kb : ClassId) (wc : Int32) (h0 : Heap) (n0 : Nat) (Z0 : n0 ≤ h0.size) (E_r : Exa Z h0 r0 "java/lang/String") (F_c : Fld Z h0 r0 "java/lang/String" "coder" "B" (.int (0 : Int32))) (F_v : Fld Z h0 r0 "java/lang/String" "value" "[B" (.ref vb)) (V_b : Arv Z h0 vb kb .byte (15 : Int32) [(.int (33 : Int32)), (.int (35 : Int32)), (.int (36 : Int32)), (.int (37 : Int32)), (.int (38 : Int32)), (.int (39 : Int32)), (.int (42 : Int32)), (.int (43 : Int32)), (.int (45 : Int32)), (.int (46 : Int32)), (.int (94 : Int32)), (.int (95 : Int32)), (.int (96 : Int32)), (.int (124 : Int32)), (.int (126 : Int32))] (.int (0 : Int32))) (S_c : Sta Z h0 "java/lang/String" "COMPACT_STRINGS" "Z" (.int wc)) (hwc : ¬ (wc = (0 : Int32))) :
    MetFree l (⟨"java/lang/String", "isLatin1", "()Z"⟩ : MethodName) (head1 (Jvm.Cond.code (⟨"java/lang/String", "isLatin1", "()Z"⟩ : MethodName) jdk_42_method_154_code 1 (some .boolean) :: ws) ({ frames := 0, cells := 0, slots := 0, locals := 0 } : Room)) (fun a U => a = #[(.ref r0)] ∧ Z.Warmed39 U.vm ∧ U.heap = h0) (fun _ _ _ _ _ => True) (fun _ U o U' => ∃ v L, o = .returned v ∧ Q4 Z r0 vb kb wc h0 n0 v U'.heap L ∧ FrameEnd U o U' L ({ frames := 0, cells := 0, slots := 0, locals := 0 } : Room).cells ({ frames := 0, cells := 0, slots := 0, locals := 0 } : Room).slots) := by
  refine MetFree.of_bodySF (plainFor_of_name pn_java_lang_String) hisR ?_
  intro p e s m args below meth c s₁ Bd hml0 hP hK
  obtain ⟨rfl, hZ, hh⟩ := hP
  have hx := Bd.exec
  have hby := Bd.bytes
  have hml : c.maxLocals = 1 := hml0
  have hown : s.vm.findClass "java/lang/String" = some m.cls := findClass_of_methodNamed Bd.named
  have hnm := (name_of_methodNamed Bd.named Bd.method).1
  have X0 : Stand p l e ({ frames := 0, cells := 0, slots := 0, locals := 0 } : Room) s m #[(.ref r0)] below meth c s₁ [] 0 0 := Stand.of_body Bd
  have e0 : s₁.heap = h0 := by rw [← hh, Bd.state]; rfl
  have N0 := Fr.nil n0
  have pre0 : ∀ t, Steps p.tables e below (s₁.setTop (mkF m 0 #[.val (.ref r0)] [])) t → Steps p.tables e below (s₁.setTop (entryFrame m #[(.ref r0)] 1)) t := fun t k => castTop (ef_4 r0 vb kb wc m) k
  obtain ⟨T1, X1, e1, st1⟩ := getS2 X0 hx hZ hown (host := "") (Or.inl (hw _ (List.mem_of_getElem? (i := 27) rfl))) Via.refl e0 S_c (g := (mkF m 0 #[.val (.ref r0)] [])) rfl (hb hby d4_0)
  obtain ⟨T2, X2, e2, st2⟩ := getF X1 hx hZ hown (host := "") (Or.inl (hw _ (List.mem_of_getElem? (i := 28) rfl))) Via.refl e1 F_c (g := (mkF m 7 #[.val (.ref r0)] [(.ref r0)])) rfl rfl (hb hby d4_7)
  obtain ⟨fs, hr, hrun, hended, hW, hsame⟩ := X2.leave (v := some (.int (1 : Int32))) (fun h => by rw [Bd.returns] at h; cases h)
  refine ⟨_, _, pre0 _ ?_, hrun, hended, _, _, rfl, ?_, ⟨_, rfl⟩, hW, hsame.mono (by decide) (by decide)⟩
  · show Steps p.tables e below (s₁.setTop (mkF m 0 #[.val (.ref r0)] [])) _
    refine st1 _ ?_
    show Steps p.tables e below (T1.setTop (mkF m 3 #[.val (.ref r0)] [(.int wc)])) _
    refine XS.ifNo X1.here hx rfl (hb hby d4_3) rfl ((if0 _ _).trans (feq hwc).1) ?_
    show Steps p.tables e below (T1.setTop (mkF m 6 #[.val (.ref r0)] [])) _
    refine XS.aloadN X1.here hx rfl (hb hby d4_6) rfl rfl ?_
    show Steps p.tables e below (T1.setTop (mkF m 7 #[.val (.ref r0)] [(.ref r0)])) _
    refine st2 _ ?_
    show Steps p.tables e below (T2.setTop (mkF m 10 #[.val (.ref r0)] [(.int (0 : Int32))])) _
    refine XS.ifNo X2.here hx rfl (hb hby d4_10) rfl ((if0 _ _).trans (teq (by decide : (0 : Int32) = (0 : Int32))).2) ?_
    show Steps p.tables e below (T2.setTop (mkF m 13 #[.val (.ref r0)] [])) _
    refine XS.iconst X2.here hx rfl (hb hby d4_13) ?_
    show Steps p.tables e below (T2.setTop (mkF m 14 #[.val (.ref r0)] [(.int (1 : Int32))])) _
    refine XS.goto X2.here hx rfl (pc0 := 14) (pc' := 18) rfl (hb hby d4_14) (by decide) (by decide) ?_
    show Steps p.tables e below (T2.setTop (mkF m 18 #[.val (.ref r0)] [(.int (1 : Int32))])) _
    exact retN X2 hx (t := .boolean) Bd.returns (by simp) (hb hby d4_18) hr
  · show Q4 Z r0 vb kb wc h0 n0 _ T2.heap _
    rw [e2]
    exact ⟨rfl, N0, rfl⟩
theorem d6_0 : decode jdk_42_method_152_code 0 = .ok (.getstatic 38, 3) := by decide +kernel
theorem d6_3 : decode jdk_42_method_152_code 3 = .ok (.ifCond .eq 10, 3) := by decide +kernel
theorem d6_6 : decode jdk_42_method_152_code 6 = .ok (.aload_n 0, 1) := by decide +kernel
theorem d6_7 : decode jdk_42_method_152_code 7 = .ok (.getfield 15, 3) := by decide +kernel
theorem d6_10 : decode jdk_42_method_152_code 10 = .ok (.goto 4, 3) := by decide +kernel
theorem d6_14 : decode jdk_42_method_152_code 14 = .ok (.ireturn, 1) := by decide +kernel
theorem ef_6 (r0 : Addr) (vb : Addr) (kb : ClassId) (wc : Int32) (m : MethodId) : entryFrame m #[(.ref r0)] 1 = mkF m 0 #[.val (.ref r0)] [] := by first | (simp [entryFrame, mkF, argsToLocals, Value.category]; done) | rfl
def Q6 (Z : State) (r0 : Addr) (vb : Addr) (kb : ClassId) (wc : Int32) (h0 : Heap) (n0 : Nat) (v : Option Value) (h : Heap) (L : List Loc) : Prop := v = some (.int (0 : Int32)) ∧ Fr n0 L ∧ h = h0
set_option maxRecDepth 65536 in
set_option maxHeartbeats 40000000 in
theorem rm6 (l : Launch) (Z : State) (a0 : Array Value) (hw : ∀ d ∈ tables_1, d.before a0 Z = true) (ws : List Jvm.Cond) (r0 : Addr) (vb : Addr) (kb : ClassId) (wc : Int32) (h0 : Heap) (n0 : Nat) (Z0 : n0 ≤ h0.size) (E_r : Exa Z h0 r0 "java/lang/String") (F_c : Fld Z h0 r0 "java/lang/String" "coder" "B" (.int (0 : Int32))) (F_v : Fld Z h0 r0 "java/lang/String" "value" "[B" (.ref vb)) (V_b : Arv Z h0 vb kb .byte (15 : Int32) [(.int (33 : Int32)), (.int (35 : Int32)), (.int (36 : Int32)), (.int (37 : Int32)), (.int (38 : Int32)), (.int (39 : Int32)), (.int (42 : Int32)), (.int (43 : Int32)), (.int (45 : Int32)), (.int (46 : Int32)), (.int (94 : Int32)), (.int (95 : Int32)), (.int (96 : Int32)), (.int (124 : Int32)), (.int (126 : Int32))] (.int (0 : Int32))) (S_c : Sta Z h0 "java/lang/String" "COMPACT_STRINGS" "Z" (.int wc)) (hwc : ¬ (wc = (0 : Int32))) :
    MetFree l (⟨"java/lang/String", "coder", "()B"⟩ : MethodName) (head1 (Jvm.Cond.code (⟨"java/lang/String", "coder", "()B"⟩ : MethodName) jdk_42_method_152_code 1 (some .byte) :: ws) ({ frames := 0, cells := 0, slots := 0, locals := 0 } : Room)) (fun a U => a = #[(.ref r0)] ∧ Z.Warmed39 U.vm ∧ U.heap = h0) (fun _ _ _ _ _ => True) (fun _ U o U' => ∃ v L, o = .returned v ∧ Q6 Z r0 vb kb wc h0 n0 v U'.heap L ∧ FrameEnd U o U' L ({ frames := 0, cells := 0, slots := 0, locals := 0 } : Room).cells ({ frames := 0, cells := 0, slots := 0, locals := 0 } : Room).slots) := by
  refine MetFree.of_bodySF (plainFor_of_name pn_java_lang_String) hisR ?_
  intro p e s m args below meth c s₁ Bd hml0 hP hK
  obtain ⟨rfl, hZ, hh⟩ := hP
  have hx := Bd.exec
  have hby := Bd.bytes
  have hml : c.maxLocals = 1 := hml0
  have hown : s.vm.findClass "java/lang/String" = some m.cls := findClass_of_methodNamed Bd.named
  have hnm := (name_of_methodNamed Bd.named Bd.method).1
  have X0 : Stand p l e ({ frames := 0, cells := 0, slots := 0, locals := 0 } : Room) s m #[(.ref r0)] below meth c s₁ [] 0 0 := Stand.of_body Bd
  have e0 : s₁.heap = h0 := by rw [← hh, Bd.state]; rfl
  have N0 := Fr.nil n0
  have pre0 : ∀ t, Steps p.tables e below (s₁.setTop (mkF m 0 #[.val (.ref r0)] [])) t → Steps p.tables e below (s₁.setTop (entryFrame m #[(.ref r0)] 1)) t := fun t k => castTop (ef_6 r0 vb kb wc m) k
  obtain ⟨T1, X1, e1, st1⟩ := getS2 X0 hx hZ hown (host := "") (Or.inl (hw _ (List.mem_of_getElem? (i := 27) rfl))) Via.refl e0 S_c (g := (mkF m 0 #[.val (.ref r0)] [])) rfl (hb hby d6_0)
  obtain ⟨T2, X2, e2, st2⟩ := getF X1 hx hZ hown (host := "") (Or.inl (hw _ (List.mem_of_getElem? (i := 28) rfl))) Via.refl e1 F_c (g := (mkF m 7 #[.val (.ref r0)] [(.ref r0)])) rfl rfl (hb hby d6_7)
  obtain ⟨fs, hr, hrun, hended, hW, hsame⟩ := X2.leave (v := some (.int (0 : Int32))) (fun h => by rw [Bd.returns] at h; cases h)
  refine ⟨_, _, pre0 _ ?_, hrun, hended, _, _, rfl, ?_, ⟨_, rfl⟩, hW, hsame.mono (by decide) (by decide)⟩
  · show Steps p.tables e below (s₁.setTop (mkF m 0 #[.val (.ref r0)] [])) _
    refine st1 _ ?_
    show Steps p.tables e below (T1.setTop (mkF m 3 #[.val (.ref r0)] [(.int wc)])) _
    refine XS.ifNo X1.here hx rfl (hb hby d6_3) rfl ((if0 _ _).trans (feq hwc).1) ?_
    show Steps p.tables e below (T1.setTop (mkF m 6 #[.val (.ref r0)] [])) _
    refine XS.aloadN X1.here hx rfl (hb hby d6_6) rfl rfl ?_
    show Steps p.tables e below (T1.setTop (mkF m 7 #[.val (.ref r0)] [(.ref r0)])) _
    refine st2 _ ?_
    show Steps p.tables e below (T2.setTop (mkF m 10 #[.val (.ref r0)] [(.int (0 : Int32))])) _
    refine XS.goto X2.here hx rfl (pc0 := 10) (pc' := 14) rfl (hb hby d6_10) (by decide) (by decide) ?_
    show Steps p.tables e below (T2.setTop (mkF m 14 #[.val (.ref r0)] [(.int (0 : Int32))])) _
    exact retN X2 hx (t := .byte) Bd.returns (by simp) (hb hby d6_14) hr
  · show Q6 Z r0 vb kb wc h0 n0 _ T2.heap _
    rw [e2]
    exact ⟨rfl, N0, rfl⟩
theorem d5_0 : decode jdk_42_method_54_code 0 = .ok (.aload_n 0, 1) := by decide +kernel
theorem d5_1 : decode jdk_42_method_54_code 1 = .ok (.getfield 9, 3) := by decide +kernel
theorem d5_4 : decode jdk_42_method_54_code 4 = .ok (.arraylength, 1) := by decide +kernel
theorem d5_5 : decode jdk_42_method_54_code 5 = .ok (.aload_n 0, 1) := by decide +kernel
theorem d5_6 : decode jdk_42_method_54_code 6 = .ok (.invokevirtual 335, 3) := by decide +kernel
theorem d5_9 : decode jdk_42_method_54_code 9 = .ok (.ishr, 1) := by decide +kernel
theorem d5_10 : decode jdk_42_method_54_code 10 = .ok (.ireturn, 1) := by decide +kernel
theorem pd___B : parseMethodDescriptor "()B" = some ⟨[], some .byte⟩ := by decide +kernel
theorem ef_5 (r0 : Addr) (vb : Addr) (kb : ClassId) (wc : Int32) (m : MethodId) : entryFrame m #[(.ref r0)] 1 = mkF m 0 #[.val (.ref r0)] [] := by first | (simp [entryFrame, mkF, argsToLocals, Value.category]; done) | rfl
def Q5 (Z : State) (r0 : Addr) (vb : Addr) (kb : ClassId) (wc : Int32) (h0 : Heap) (n0 : Nat) (v : Option Value) (h : Heap) (L : List Loc) : Prop := v = some (.int (15 : Int32)) ∧ Fr n0 L ∧ h = h0
set_option maxRecDepth 65536 in
set_option maxHeartbeats 40000000 in
theorem rm5 (l : Launch) (Z : State) (a0 : Array Value) (hw : ∀ d ∈ tables_1, d.before a0 Z = true) (ws : List Jvm.Cond) (r0 : Addr) (vb : Addr) (kb : ClassId) (wc : Int32) (h0 : Heap) (n0 : Nat) (Z0 : n0 ≤ h0.size) (E_r : Exa Z h0 r0 "java/lang/String") (F_c : Fld Z h0 r0 "java/lang/String" "coder" "B" (.int (0 : Int32))) (F_v : Fld Z h0 r0 "java/lang/String" "value" "[B" (.ref vb)) (V_b : Arv Z h0 vb kb .byte (15 : Int32) [(.int (33 : Int32)), (.int (35 : Int32)), (.int (36 : Int32)), (.int (37 : Int32)), (.int (38 : Int32)), (.int (39 : Int32)), (.int (42 : Int32)), (.int (43 : Int32)), (.int (45 : Int32)), (.int (46 : Int32)), (.int (94 : Int32)), (.int (95 : Int32)), (.int (96 : Int32)), (.int (124 : Int32)), (.int (126 : Int32))] (.int (0 : Int32))) (S_c : Sta Z h0 "java/lang/String" "COMPACT_STRINGS" "Z" (.int wc)) (hwc : ¬ (wc = (0 : Int32))) :
    MetFree l (⟨"java/lang/String", "length", "()I"⟩ : MethodName) (head1 (Jvm.Cond.code (⟨"java/lang/String", "length", "()I"⟩ : MethodName) jdk_42_method_54_code 1 (some .int) :: ws) ({ frames := 1, cells := 0, slots := 0, locals := 13 } : Room)) (fun a U => a = #[(.ref r0)] ∧ Z.Warmed39 U.vm ∧ U.heap = h0) (fun _ _ _ _ _ => True) (fun _ U o U' => ∃ v L, o = .returned v ∧ Q5 Z r0 vb kb wc h0 n0 v U'.heap L ∧ FrameEnd U o U' L ({ frames := 1, cells := 0, slots := 0, locals := 13 } : Room).cells ({ frames := 1, cells := 0, slots := 0, locals := 13 } : Room).slots) := by
  refine MetFree.of_bodySF (plainFor_of_name pn_java_lang_String) hisR ?_
  intro p e s m args below meth c s₁ Bd hml0 hP hK
  obtain ⟨rfl, hZ, hh⟩ := hP
  have hx := Bd.exec
  have hby := Bd.bytes
  have hml : c.maxLocals = 1 := hml0
  have hown : s.vm.findClass "java/lang/String" = some m.cls := findClass_of_methodNamed Bd.named
  have hnm := (name_of_methodNamed Bd.named Bd.method).1
  have X0 : Stand p l e ({ frames := 1, cells := 0, slots := 0, locals := 13 } : Room) s m #[(.ref r0)] below meth c s₁ [] 0 0 := Stand.of_body Bd
  have e0 : s₁.heap = h0 := by rw [← hh, Bd.state]; rfl
  have N0 := Fr.nil n0
  have pre0 : ∀ t, Steps p.tables e below (s₁.setTop (mkF m 0 #[.val (.ref r0)] [])) t → Steps p.tables e below (s₁.setTop (entryFrame m #[(.ref r0)] 1)) t := fun t k => castTop (ef_5 r0 vb kb wc m) k
  obtain ⟨T1, X1, e1, st1⟩ := getF X0 hx hZ hown (host := "") (Or.inl (hw _ (List.mem_of_getElem? (i := 29) rfl))) Via.refl e0 F_v (g := (mkF m 1 #[.val (.ref r0)] [(.ref r0)])) rfl rfl (hb hby d5_1)
  obtain ⟨cl2, Ar2, -, S2, Nl2, -, -⟩ := id V_b
  obtain ⟨cq3, kq3, q3a, q3b, q3c⟩ := isOf hZ e1 E_r
  obtain ⟨_, _, ⟨T3, L3, k3, n3⟩, -, X3, ⟨Lc3, hQ3, ll3, ly3, lz3⟩, st3⟩ := X1.virtualBack hx (y := (⟨"java/lang/String", "coder", "()B"⟩ : MethodName)) (z := (⟨"java/lang/String", "coder", "()B"⟩ : MethodName)) hown (mvT hZ (hw _ (List.mem_of_getElem? (i := 35) rfl))) (mvT hZ (hw _ (List.mem_of_getElem? (i := 36) rfl))) (notFace_of_selects (args := #[]) (mvT hZ (hw _ (List.mem_of_getElem? (i := 38) rfl)))) (mvT hZ (hw _ (List.mem_of_getElem? (i := 38) rfl))) (mvT hZ (hw _ (List.mem_of_getElem? (i := 37) rfl))) (by decide) (backOf (W := 1) (rm6 l Z a0 hw [] r0 vb kb wc h0 n0 Z0 E_r F_c F_v V_b S_c hwc) hZ (hw _ (List.mem_of_getElem? (i := 39) rfl)) (hw _ (List.mem_of_getElem? (i := 5) rfl)) (by decide) (by decide)) q3a q3c (g := (mkF m 6 #[.val (.ref r0)] [(.ref r0), (.int (15 : Int32))])) rfl (by rw [hml]; rfl) (Steps.refl _) (argsL := []) (rest := [(.int (15 : Int32))]) (lenOf pd___B rfl) rfl (by show 2 * 0 + _ ≤ _; exact Nat.le_of_eq rfl) (hb hby d5_6) (fun _ _ => ⟨rfl, e1, (by decide : 0 + 0 ≤ _), (by decide : 0 + 0 ≤ _)⟩)
  dsimp only [Pt.U, Pt.locs, Pt.cells, Pt.slots] at X3 ll3 ly3 lz3 st3 hQ3
  subst ll3 ly3 lz3
  obtain ⟨rfl, N3q, e3⟩ := hQ3
  have N3 := Fr.app N0 N3q
  obtain ⟨fs, hr, hrun, hended, hW, hsame⟩ := X3.leave (v := some (.int (15 : Int32))) (fun h => by rw [Bd.returns] at h; cases h)
  refine ⟨_, _, pre0 _ ?_, hrun, hended, _, _, rfl, ?_, ⟨_, rfl⟩, hW, hsame.mono (by decide) (by decide)⟩
  · show Steps p.tables e below (s₁.setTop (mkF m 0 #[.val (.ref r0)] [])) _
    refine XS.aloadN X0.here hx rfl (hb hby d5_0) rfl rfl ?_
    show Steps p.tables e below (s₁.setTop (mkF m 1 #[.val (.ref r0)] [(.ref r0)])) _
    refine st1 _ ?_
    show Steps p.tables e below (T1.setTop (mkF m 4 #[.val (.ref r0)] [(.ref vb)])) _
    refine X1.arraylength hx (by rw [e1]; exact Ar2.1) (State.isArrayOf_alike hZ.alike Ar2.2.1) (g := (mkF m 4 #[.val (.ref r0)] [(.ref vb)])) rfl rfl (hb hby d5_4) _ ?_
    rw [len_of S2 Nl2]
    show Steps p.tables e below (T1.setTop (mkF m 5 #[.val (.ref r0)] [(.int (15 : Int32))])) _
    refine XS.aloadN X1.here hx rfl (hb hby d5_5) rfl rfl ?_
    show Steps p.tables e below (T1.setTop (mkF m 6 #[.val (.ref r0)] [(.ref r0), (.int (15 : Int32))])) _
    refine st3.trans ?_
    show Steps p.tables e below (T3.setTop (mkF m 9 #[.val (.ref r0)] [(.int (0 : Int32)), (.int (15 : Int32))])) _
    refine XS.ishr X3.here hx rfl (hb hby d5_9) rfl ?_
    show Steps p.tables e below (T3.setTop (mkF m 10 #[.val (.ref r0)] [(.int (15 : Int32))])) _
    exact retI X3 hx Bd.returns (hb hby d5_10) hr
  · show Q5 Z r0 vb kb wc h0 n0 _ T3.heap _
    rw [e3]
    exact ⟨rfl, N3, rfl⟩
theorem d8_0 : decode jdk_43_method_4_code 0 = .ok (.iload_n 0, 1) := by decide +kernel
theorem d8_1 : decode jdk_43_method_4_code 1 = .ok (.ifCond .lt 14, 3) := by decide +kernel
theorem d8_4 : decode jdk_43_method_4_code 4 = .ok (.iload_n 0, 1) := by decide +kernel
theorem d8_5 : decode jdk_43_method_4_code 5 = .ok (.sipush 255, 3) := by decide +kernel
theorem d8_8 : decode jdk_43_method_4_code 8 = .ok (.if_icmp .gt 7, 3) := by decide +kernel
theorem d8_11 : decode jdk_43_method_4_code 11 = .ok (.iconst 1, 1) := by decide +kernel
theorem d8_12 : decode jdk_43_method_4_code 12 = .ok (.goto 4, 3) := by decide +kernel
theorem d8_15 : decode jdk_43_method_4_code 15 = .ok (.iconst 0, 1) := by decide +kernel
theorem d8_16 : decode jdk_43_method_4_code 16 = .ok (.ireturn, 1) := by decide +kernel
theorem pn_java_lang_StringLatin1 : plainName "java/lang/StringLatin1" = true := by first | (simp [plainName, overriddenIn]; done) | decide +kernel
theorem ef_8 (p0 : Int32)  (m : MethodId) : entryFrame m #[(.int p0)] 1 = mkF m 0 #[.val (.int p0)] [] := by first | (simp [entryFrame, mkF, argsToLocals, Value.category]; done) | rfl
def F8 (p0 : Int32) : Int32 := (if p0 < (0 : Int32) then (0 : Int32) else (if (255 : Int32) < p0 then (0 : Int32) else (1 : Int32)))
def Q8 (Z : State) (p0 : Int32)  (h0 : Heap) (n0 : Nat) (v : Option Value) (h : Heap) (L : List Loc) : Prop := v = some (.int (F8 p0)) ∧ Fr n0 L ∧ h = h0
set_option maxRecDepth 65536 in
set_option maxHeartbeats 40000000 in
theorem rm8 (l : Launch) (Z : State) (a0 : Array Value) (hw : ∀ d ∈ tables_1, d.before a0 Z = true) (ws : List Jvm.Cond) (p0 : Int32)  (h0 : Heap) (n0 : Nat) (Z0 : n0 ≤ h0.size) :
    MetFree l (⟨"java/lang/StringLatin1", "canEncode", "(I)Z"⟩ : MethodName) (head1 (Jvm.Cond.code (⟨"java/lang/StringLatin1", "canEncode", "(I)Z"⟩ : MethodName) jdk_43_method_4_code 1 (some .boolean) :: ws) ({ frames := 0, cells := 0, slots := 0, locals := 0 } : Room)) (fun a U => a = #[(.int p0)] ∧ Z.Warmed39 U.vm ∧ U.heap = h0) (fun _ _ _ _ _ => True) (fun _ U o U' => ∃ v L, o = .returned v ∧ Q8 Z p0 h0 n0 v U'.heap L ∧ FrameEnd U o U' L ({ frames := 0, cells := 0, slots := 0, locals := 0 } : Room).cells ({ frames := 0, cells := 0, slots := 0, locals := 0 } : Room).slots) := by
  refine MetFree.of_bodySF (plainFor_of_name pn_java_lang_StringLatin1) hisR ?_
  intro p e s m args below meth c s₁ Bd hml0 hP hK
  obtain ⟨rfl, hZ, hh⟩ := hP
  have hx := Bd.exec
  have hby := Bd.bytes
  have hml : c.maxLocals = 1 := hml0
  have hown : s.vm.findClass "java/lang/StringLatin1" = some m.cls := findClass_of_methodNamed Bd.named
  have hnm := (name_of_methodNamed Bd.named Bd.method).1
  have X0 : Stand p l e ({ frames := 0, cells := 0, slots := 0, locals := 0 } : Room) s m #[(.int p0)] below meth c s₁ [] 0 0 := Stand.of_body Bd
  have e0 : s₁.heap = h0 := by rw [← hh, Bd.state]; rfl
  have N0 := Fr.nil n0
  have pre0 : ∀ t, Steps p.tables e below (s₁.setTop (mkF m 0 #[.val (.int p0)] [])) t → Steps p.tables e below (s₁.setTop (entryFrame m #[(.int p0)] 1)) t := fun t k => castTop (ef_8 p0 m) k
  have pre1 : ∀ t, Steps p.tables e below (s₁.setTop (mkF m 1 #[.val (.int p0)] [(.int p0)])) t → Steps p.tables e below (s₁.setTop (entryFrame m #[(.int p0)] 1)) t := fun t kt => pre0 t (by
    show Steps p.tables e below (s₁.setTop (mkF m 0 #[.val (.int p0)] [])) _
    refine XS.iloadN X0.here hx rfl (hb hby d8_0) rfl ?_
    exact kt)
  by_cases hc1 : p0 < (0 : Int32)
  · obtain ⟨fs, hr, hrun, hended, hW, hsame⟩ := X0.leave (v := some (.int (0 : Int32))) (fun h => by rw [Bd.returns] at h; cases h)
    refine ⟨_, _, pre1 _ ?_, hrun, hended, _, _, rfl, ?_, ⟨_, rfl⟩, hW, hsame.mono (by decide) (by decide)⟩
    · show Steps p.tables e below (s₁.setTop (mkF m 1 #[.val (.int p0)] [(.int p0)])) _
      refine XS.ifYes X0.here hx rfl (pc0 := 1) (pc' := 15) rfl (hb hby d8_1) rfl ((if0 _ _).trans (tlt hc1).1) (by decide) (by decide) ?_
      show Steps p.tables e below (s₁.setTop (mkF m 15 #[.val (.int p0)] [])) _
      refine XS.iconst X0.here hx rfl (hb hby d8_15) ?_
      show Steps p.tables e below (s₁.setTop (mkF m 16 #[.val (.int p0)] [(.int (0 : Int32))])) _
      exact retN X0 hx (t := .boolean) Bd.returns (by simp) (hb hby d8_16) hr
    · show Q8 Z p0 h0 n0 _ s₁.heap _
      rw [e0]
      exact ⟨(by unfold F8; simp only [if_pos hc1]), N0, rfl⟩
  · have pre2 : ∀ t, Steps p.tables e below (s₁.setTop (mkF m 8 #[.val (.int p0)] [(.int (255 : Int32)), (.int p0)])) t → Steps p.tables e below (s₁.setTop (entryFrame m #[(.int p0)] 1)) t := fun t kt => pre1 t (by
      show Steps p.tables e below (s₁.setTop (mkF m 1 #[.val (.int p0)] [(.int p0)])) _
      refine XS.ifNo X0.here hx rfl (hb hby d8_1) rfl ((if0 _ _).trans (flt hc1).1) ?_
      show Steps p.tables e below (s₁.setTop (mkF m 4 #[.val (.int p0)] [])) _
      refine XS.iloadN X0.here hx rfl (hb hby d8_4) rfl ?_
      show Steps p.tables e below (s₁.setTop (mkF m 5 #[.val (.int p0)] [(.int p0)])) _
      refine XS.sipush X0.here hx rfl (hb hby d8_5) ?_
      exact kt)
    by_cases hc8 : (255 : Int32) < p0
    · obtain ⟨fs, hr, hrun, hended, hW, hsame⟩ := X0.leave (v := some (.int (0 : Int32))) (fun h => by rw [Bd.returns] at h; cases h)
      refine ⟨_, _, pre2 _ ?_, hrun, hended, _, _, rfl, ?_, ⟨_, rfl⟩, hW, hsame.mono (by decide) (by decide)⟩
      · show Steps p.tables e below (s₁.setTop (mkF m 8 #[.val (.int p0)] [(.int (255 : Int32)), (.int p0)])) _
        refine XS.icmpYes X0.here hx rfl (pc0 := 8) (pc' := 15) rfl (hb hby d8_8) rfl (tlt hc8).2.2.1 (by decide) (by decide) ?_
        show Steps p.tables e below (s₁.setTop (mkF m 15 #[.val (.int p0)] [])) _
        refine XS.iconst X0.here hx rfl (hb hby d8_15) ?_
        show Steps p.tables e below (s₁.setTop (mkF m 16 #[.val (.int p0)] [(.int (0 : Int32))])) _
        exact retN X0 hx (t := .boolean) Bd.returns (by simp) (hb hby d8_16) hr
      · show Q8 Z p0 h0 n0 _ s₁.heap _
        rw [e0]
        exact ⟨(by unfold F8; simp only [if_neg hc1, if_pos hc8]), N0, rfl⟩
    · obtain ⟨fs, hr, hrun, hended, hW, hsame⟩ := X0.leave (v := some (.int (1 : Int32))) (fun h => by rw [Bd.returns] at h; cases h)
      refine ⟨_, _, pre2 _ ?_, hrun, hended, _, _, rfl, ?_, ⟨_, rfl⟩, hW, hsame.mono (by decide) (by decide)⟩
      · show Steps p.tables e below (s₁.setTop (mkF m 8 #[.val (.int p0)] [(.int (255 : Int32)), (.int p0)])) _
        refine XS.icmpNo X0.here hx rfl (hb hby d8_8) rfl (flt hc8).2.2.1 ?_
        show Steps p.tables e below (s₁.setTop (mkF m 11 #[.val (.int p0)] [])) _
        refine XS.iconst X0.here hx rfl (hb hby d8_11) ?_
        show Steps p.tables e below (s₁.setTop (mkF m 12 #[.val (.int p0)] [(.int (1 : Int32))])) _
        refine XS.goto X0.here hx rfl (pc0 := 12) (pc' := 16) rfl (hb hby d8_12) (by decide) (by decide) ?_
        show Steps p.tables e below (s₁.setTop (mkF m 16 #[.val (.int p0)] [(.int (1 : Int32))])) _
        exact retN X0 hx (t := .boolean) Bd.returns (by simp) (hb hby d8_16) hr
      · show Q8 Z p0 h0 n0 _ s₁.heap _
        rw [e0]
        exact ⟨(by unfold F8; simp only [if_neg hc1, if_neg hc8]), N0, rfl⟩
theorem d9_0 : decode jdk_29_method_65_code 0 = .ok (.iload_n 0, 1) := by decide +kernel
theorem d9_1 : decode jdk_29_method_65_code 1 = .ok (.iload_n 1, 1) := by decide +kernel
theorem d9_2 : decode jdk_29_method_65_code 2 = .ok (.if_icmp .lt 7, 3) := by decide +kernel
theorem d9_5 : decode jdk_29_method_65_code 5 = .ok (.iload_n 0, 1) := by decide +kernel
theorem d9_6 : decode jdk_29_method_65_code 6 = .ok (.goto 4, 3) := by decide +kernel
theorem d9_9 : decode jdk_29_method_65_code 9 = .ok (.iload_n 1, 1) := by decide +kernel
theorem d9_10 : decode jdk_29_method_65_code 10 = .ok (.ireturn, 1) := by decide +kernel
theorem ef_9 (p0 : Int32) (p1 : Int32)  (m : MethodId) : entryFrame m #[(.int p0), (.int p1)] 2 = mkF m 0 #[.val (.int p0), .val (.int p1)] [] := by first | (simp [entryFrame, mkF, argsToLocals, Value.category]; done) | rfl
def F9 (p0 : Int32) (p1 : Int32) : Int32 := (if p0 < p1 then p1 else p0)
def Q9 (Z : State) (p0 : Int32) (p1 : Int32)  (h0 : Heap) (n0 : Nat) (v : Option Value) (h : Heap) (L : List Loc) : Prop := v = some (.int (F9 p0 p1)) ∧ Fr n0 L ∧ h = h0
set_option maxRecDepth 65536 in
set_option maxHeartbeats 40000000 in
theorem rm9 (l : Launch) (Z : State) (a0 : Array Value) (hw : ∀ d ∈ tables_1, d.before a0 Z = true) (ws : List Jvm.Cond) (p0 : Int32) (p1 : Int32)  (h0 : Heap) (n0 : Nat) (Z0 : n0 ≤ h0.size) :
    MetFree l (⟨"java/lang/Math", "max", "(II)I"⟩ : MethodName) (head1 (Jvm.Cond.code (⟨"java/lang/Math", "max", "(II)I"⟩ : MethodName) jdk_29_method_65_code 2 (some .int) :: ws) ({ frames := 0, cells := 0, slots := 0, locals := 0 } : Room)) (fun a U => a = #[(.int p0), (.int p1)] ∧ Z.Warmed39 U.vm ∧ U.heap = h0) (fun _ _ _ _ _ => True) (fun _ U o U' => ∃ v L, o = .returned v ∧ Q9 Z p0 p1 h0 n0 v U'.heap L ∧ FrameEnd U o U' L ({ frames := 0, cells := 0, slots := 0, locals := 0 } : Room).cells ({ frames := 0, cells := 0, slots := 0, locals := 0 } : Room).slots) := by
  refine MetFree.of_bodySF (Jvm.Free.JP.mathPlain rfl (by decide +kernel)) hisR ?_
  intro p e s m args below meth c s₁ Bd hml0 hP hK
  obtain ⟨rfl, hZ, hh⟩ := hP
  have hx := Bd.exec
  have hby := Bd.bytes
  have hml : c.maxLocals = 2 := hml0
  have hown : s.vm.findClass "java/lang/Math" = some m.cls := findClass_of_methodNamed Bd.named
  have hnm := (name_of_methodNamed Bd.named Bd.method).1
  have X0 : Stand p l e ({ frames := 0, cells := 0, slots := 0, locals := 0 } : Room) s m #[(.int p0), (.int p1)] below meth c s₁ [] 0 0 := Stand.of_body Bd
  have e0 : s₁.heap = h0 := by rw [← hh, Bd.state]; rfl
  have N0 := Fr.nil n0
  have pre0 : ∀ t, Steps p.tables e below (s₁.setTop (mkF m 0 #[.val (.int p0), .val (.int p1)] [])) t → Steps p.tables e below (s₁.setTop (entryFrame m #[(.int p0), (.int p1)] 2)) t := fun t k => castTop (ef_9 p0 p1 m) k
  have pre1 : ∀ t, Steps p.tables e below (s₁.setTop (mkF m 2 #[.val (.int p0), .val (.int p1)] [(.int p1), (.int p0)])) t → Steps p.tables e below (s₁.setTop (entryFrame m #[(.int p0), (.int p1)] 2)) t := fun t kt => pre0 t (by
    show Steps p.tables e below (s₁.setTop (mkF m 0 #[.val (.int p0), .val (.int p1)] [])) _
    refine XS.iloadN X0.here hx rfl (hb hby d9_0) rfl ?_
    show Steps p.tables e below (s₁.setTop (mkF m 1 #[.val (.int p0), .val (.int p1)] [(.int p0)])) _
    refine XS.iloadN X0.here hx rfl (hb hby d9_1) rfl ?_
    exact kt)
  by_cases hc2 : p0 < p1
  · obtain ⟨fs, hr, hrun, hended, hW, hsame⟩ := X0.leave (v := some (.int p1)) (fun h => by rw [Bd.returns] at h; cases h)
    refine ⟨_, _, pre1 _ ?_, hrun, hended, _, _, rfl, ?_, ⟨_, rfl⟩, hW, hsame.mono (by decide) (by decide)⟩
    · show Steps p.tables e below (s₁.setTop (mkF m 2 #[.val (.int p0), .val (.int p1)] [(.int p1), (.int p0)])) _
      refine XS.icmpYes X0.here hx rfl (pc0 := 2) (pc' := 9) rfl (hb hby d9_2) rfl (tlt hc2).1 (by decide) (by decide) ?_
      show Steps p.tables e below (s₁.setTop (mkF m 9 #[.val (.int p0), .val (.int p1)] [])) _
      refine XS.iloadN X0.here hx rfl (hb hby d9_9) rfl ?_
      show Steps p.tables e below (s₁.setTop (mkF m 10 #[.val (.int p0), .val (.int p1)] [(.int p1)])) _
      exact retI X0 hx Bd.returns (hb hby d9_10) hr
    · show Q9 Z p0 p1 h0 n0 _ s₁.heap _
      rw [e0]
      exact ⟨(by unfold F9; simp only [if_pos hc2]), N0, rfl⟩
  · obtain ⟨fs, hr, hrun, hended, hW, hsame⟩ := X0.leave (v := some (.int p0)) (fun h => by rw [Bd.returns] at h; cases h)
    refine ⟨_, _, pre1 _ ?_, hrun, hended, _, _, rfl, ?_, ⟨_, rfl⟩, hW, hsame.mono (by decide) (by decide)⟩
    · show Steps p.tables e below (s₁.setTop (mkF m 2 #[.val (.int p0), .val (.int p1)] [(.int p1), (.int p0)])) _
      refine XS.icmpNo X0.here hx rfl (hb hby d9_2) rfl (flt hc2).1 ?_
      show Steps p.tables e below (s₁.setTop (mkF m 5 #[.val (.int p0), .val (.int p1)] [])) _
      refine XS.iloadN X0.here hx rfl (hb hby d9_5) rfl ?_
      show Steps p.tables e below (s₁.setTop (mkF m 6 #[.val (.int p0), .val (.int p1)] [(.int p0)])) _
      refine XS.goto X0.here hx rfl (pc0 := 6) (pc' := 10) rfl (hb hby d9_6) (by decide) (by decide) ?_
      show Steps p.tables e below (s₁.setTop (mkF m 10 #[.val (.int p0), .val (.int p1)] [(.int p0)])) _
      exact retI X0 hx Bd.returns (hb hby d9_10) hr
    · show Q9 Z p0 p1 h0 n0 _ s₁.heap _
      rw [e0]
      exact ⟨(by unfold F9; simp only [if_neg hc2]), N0, rfl⟩
theorem d10_0 : decode jdk_29_method_69_code 0 = .ok (.iload_n 0, 1) := by decide +kernel
theorem d10_1 : decode jdk_29_method_69_code 1 = .ok (.iload_n 1, 1) := by decide +kernel
theorem d10_2 : decode jdk_29_method_69_code 2 = .ok (.if_icmp .gt 7, 3) := by decide +kernel
theorem d10_5 : decode jdk_29_method_69_code 5 = .ok (.iload_n 0, 1) := by decide +kernel
theorem d10_6 : decode jdk_29_method_69_code 6 = .ok (.goto 4, 3) := by decide +kernel
theorem d10_9 : decode jdk_29_method_69_code 9 = .ok (.iload_n 1, 1) := by decide +kernel
theorem d10_10 : decode jdk_29_method_69_code 10 = .ok (.ireturn, 1) := by decide +kernel
theorem ef_10 (p0 : Int32) (p1 : Int32)  (m : MethodId) : entryFrame m #[(.int p0), (.int p1)] 2 = mkF m 0 #[.val (.int p0), .val (.int p1)] [] := by first | (simp [entryFrame, mkF, argsToLocals, Value.category]; done) | rfl
def F10 (p0 : Int32) (p1 : Int32) : Int32 := (if p1 < p0 then p1 else p0)
def Q10 (Z : State) (p0 : Int32) (p1 : Int32)  (h0 : Heap) (n0 : Nat) (v : Option Value) (h : Heap) (L : List Loc) : Prop := v = some (.int (F10 p0 p1)) ∧ Fr n0 L ∧ h = h0
set_option maxRecDepth 65536 in
set_option maxHeartbeats 40000000 in
theorem rm10 (l : Launch) (Z : State) (a0 : Array Value) (hw : ∀ d ∈ tables_1, d.before a0 Z = true) (ws : List Jvm.Cond) (p0 : Int32) (p1 : Int32)  (h0 : Heap) (n0 : Nat) (Z0 : n0 ≤ h0.size) :
    MetFree l (⟨"java/lang/Math", "min", "(II)I"⟩ : MethodName) (head1 (Jvm.Cond.code (⟨"java/lang/Math", "min", "(II)I"⟩ : MethodName) jdk_29_method_69_code 2 (some .int) :: ws) ({ frames := 0, cells := 0, slots := 0, locals := 0 } : Room)) (fun a U => a = #[(.int p0), (.int p1)] ∧ Z.Warmed39 U.vm ∧ U.heap = h0) (fun _ _ _ _ _ => True) (fun _ U o U' => ∃ v L, o = .returned v ∧ Q10 Z p0 p1 h0 n0 v U'.heap L ∧ FrameEnd U o U' L ({ frames := 0, cells := 0, slots := 0, locals := 0 } : Room).cells ({ frames := 0, cells := 0, slots := 0, locals := 0 } : Room).slots) := by
  refine MetFree.of_bodySF (Jvm.Free.JP.mathPlain rfl (by decide +kernel)) hisR ?_
  intro p e s m args below meth c s₁ Bd hml0 hP hK
  obtain ⟨rfl, hZ, hh⟩ := hP
  have hx := Bd.exec
  have hby := Bd.bytes
  have hml : c.maxLocals = 2 := hml0
  have hown : s.vm.findClass "java/lang/Math" = some m.cls := findClass_of_methodNamed Bd.named
  have hnm := (name_of_methodNamed Bd.named Bd.method).1
  have X0 : Stand p l e ({ frames := 0, cells := 0, slots := 0, locals := 0 } : Room) s m #[(.int p0), (.int p1)] below meth c s₁ [] 0 0 := Stand.of_body Bd
  have e0 : s₁.heap = h0 := by rw [← hh, Bd.state]; rfl
  have N0 := Fr.nil n0
  have pre0 : ∀ t, Steps p.tables e below (s₁.setTop (mkF m 0 #[.val (.int p0), .val (.int p1)] [])) t → Steps p.tables e below (s₁.setTop (entryFrame m #[(.int p0), (.int p1)] 2)) t := fun t k => castTop (ef_10 p0 p1 m) k
  have pre1 : ∀ t, Steps p.tables e below (s₁.setTop (mkF m 2 #[.val (.int p0), .val (.int p1)] [(.int p1), (.int p0)])) t → Steps p.tables e below (s₁.setTop (entryFrame m #[(.int p0), (.int p1)] 2)) t := fun t kt => pre0 t (by
    show Steps p.tables e below (s₁.setTop (mkF m 0 #[.val (.int p0), .val (.int p1)] [])) _
    refine XS.iloadN X0.here hx rfl (hb hby d10_0) rfl ?_
    show Steps p.tables e below (s₁.setTop (mkF m 1 #[.val (.int p0), .val (.int p1)] [(.int p0)])) _
    refine XS.iloadN X0.here hx rfl (hb hby d10_1) rfl ?_
    exact kt)
  by_cases hc2 : p1 < p0
  · obtain ⟨fs, hr, hrun, hended, hW, hsame⟩ := X0.leave (v := some (.int p1)) (fun h => by rw [Bd.returns] at h; cases h)
    refine ⟨_, _, pre1 _ ?_, hrun, hended, _, _, rfl, ?_, ⟨_, rfl⟩, hW, hsame.mono (by decide) (by decide)⟩
    · show Steps p.tables e below (s₁.setTop (mkF m 2 #[.val (.int p0), .val (.int p1)] [(.int p1), (.int p0)])) _
      refine XS.icmpYes X0.here hx rfl (pc0 := 2) (pc' := 9) rfl (hb hby d10_2) rfl (tlt hc2).2.2.1 (by decide) (by decide) ?_
      show Steps p.tables e below (s₁.setTop (mkF m 9 #[.val (.int p0), .val (.int p1)] [])) _
      refine XS.iloadN X0.here hx rfl (hb hby d10_9) rfl ?_
      show Steps p.tables e below (s₁.setTop (mkF m 10 #[.val (.int p0), .val (.int p1)] [(.int p1)])) _
      exact retI X0 hx Bd.returns (hb hby d10_10) hr
    · show Q10 Z p0 p1 h0 n0 _ s₁.heap _
      rw [e0]
      exact ⟨(by unfold F10; simp only [if_pos hc2]), N0, rfl⟩
  · obtain ⟨fs, hr, hrun, hended, hW, hsame⟩ := X0.leave (v := some (.int p0)) (fun h => by rw [Bd.returns] at h; cases h)
    refine ⟨_, _, pre1 _ ?_, hrun, hended, _, _, rfl, ?_, ⟨_, rfl⟩, hW, hsame.mono (by decide) (by decide)⟩
    · show Steps p.tables e below (s₁.setTop (mkF m 2 #[.val (.int p0), .val (.int p1)] [(.int p1), (.int p0)])) _
      refine XS.icmpNo X0.here hx rfl (hb hby d10_2) rfl (flt hc2).2.2.1 ?_
      show Steps p.tables e below (s₁.setTop (mkF m 5 #[.val (.int p0), .val (.int p1)] [])) _
      refine XS.iloadN X0.here hx rfl (hb hby d10_5) rfl ?_
      show Steps p.tables e below (s₁.setTop (mkF m 6 #[.val (.int p0), .val (.int p1)] [(.int p0)])) _
      refine XS.goto X0.here hx rfl (pc0 := 6) (pc' := 10) rfl (hb hby d10_6) (by decide) (by decide) ?_
      show Steps p.tables e below (s₁.setTop (mkF m 10 #[.val (.int p0), .val (.int p1)] [(.int p0)])) _
      exact retI X0 hx Bd.returns (hb hby d10_10) hr
    · show Q10 Z p0 p1 h0 n0 _ s₁.heap _
      rw [e0]
      exact ⟨(by unfold F10; simp only [if_neg hc2]), N0, rfl⟩
theorem d11_0 : decode jdk_43_method_23_code 0 = .ok (.iload_n 1, 1) := by decide +kernel
theorem d11_1 : decode jdk_43_method_23_code 1 = .ok (.i2b, 1) := by decide +kernel
theorem d11_2 : decode jdk_43_method_23_code 2 = .ok (.istore 4, 2) := by decide +kernel
theorem d11_4 : decode jdk_43_method_23_code 4 = .ok (.iload_n 2, 1) := by decide +kernel
theorem d11_5 : decode jdk_43_method_23_code 5 = .ok (.istore 5, 2) := by decide +kernel
theorem d11_7 : decode jdk_43_method_23_code 7 = .ok (.iload 5, 2) := by decide +kernel
theorem d11_9 : decode jdk_43_method_23_code 9 = .ok (.iload_n 3, 1) := by decide +kernel
theorem d11_10 : decode jdk_43_method_23_code 10 = .ok (.if_icmp .ge 21, 3) := by decide +kernel
theorem d11_13 : decode jdk_43_method_23_code 13 = .ok (.aload_n 0, 1) := by decide +kernel
theorem d11_14 : decode jdk_43_method_23_code 14 = .ok (.iload 5, 2) := by decide +kernel
theorem d11_16 : decode jdk_43_method_23_code 16 = .ok (.baload, 1) := by decide +kernel
theorem d11_17 : decode jdk_43_method_23_code 17 = .ok (.iload 4, 2) := by decide +kernel
theorem d11_19 : decode jdk_43_method_23_code 19 = .ok (.if_icmp .ne 6, 3) := by decide +kernel
theorem d11_22 : decode jdk_43_method_23_code 22 = .ok (.iload 5, 2) := by decide +kernel
theorem d11_24 : decode jdk_43_method_23_code 24 = .ok (.ireturn, 1) := by decide +kernel
theorem d11_25 : decode jdk_43_method_23_code 25 = .ok (.iinc 5 1, 3) := by decide +kernel
theorem d11_28 : decode jdk_43_method_23_code 28 = .ok (.goto (-21), 3) := by decide +kernel
theorem d11_31 : decode jdk_43_method_23_code 31 = .ok (.iconst (-1), 1) := by decide +kernel
theorem d11_32 : decode jdk_43_method_23_code 32 = .ok (.ireturn, 1) := by decide +kernel
theorem ef_11 (r0 : Addr) (p1 : Int32) (kb : ClassId) (m : MethodId) : entryFrame m #[(.ref r0), (.int p1), (.int (0 : Int32)), (.int (15 : Int32))] 6 = mkF m 0 #[.val (.ref r0), .val (.int p1), .val (.int (0 : Int32)), .val (.int (15 : Int32)), .unset, .unset] [] := by first | (simp [entryFrame, mkF, argsToLocals, Value.category]; done) | rfl
def F11 (p1 : Int32) : Int32 := (if (33 : Int32) = (p1.toInt8.toInt32) then (0 : Int32) else (if (35 : Int32) = (p1.toInt8.toInt32) then (1 : Int32) else (if (36 : Int32) = (p1.toInt8.toInt32) then (2 : Int32) else (if (37 : Int32) = (p1.toInt8.toInt32) then (3 : Int32) else (if (38 : Int32) = (p1.toInt8.toInt32) then (4 : Int32) else (if (39 : Int32) = (p1.toInt8.toInt32) then (5 : Int32) else (if (42 : Int32) = (p1.toInt8.toInt32) then (6 : Int32) else (if (43 : Int32) = (p1.toInt8.toInt32) then (7 : Int32) else (if (45 : Int32) = (p1.toInt8.toInt32) then (8 : Int32) else (if (46 : Int32) = (p1.toInt8.toInt32) then (9 : Int32) else (if (94 : Int32) = (p1.toInt8.toInt32) then (10 : Int32) else (if (95 : Int32) = (p1.toInt8.toInt32) then (11 : Int32) else (if (96 : Int32) = (p1.toInt8.toInt32) then (12 : Int32) else (if (124 : Int32) = (p1.toInt8.toInt32) then (13 : Int32) else (if (126 : Int32) = (p1.toInt8.toInt32) then (14 : Int32) else (-1 : Int32))))))))))))))))
def Q11 (Z : State) (r0 : Addr) (p1 : Int32) (kb : ClassId) (h0 : Heap) (n0 : Nat) (v : Option Value) (h : Heap) (L : List Loc) : Prop := v = some (.int (F11 p1)) ∧ Fr n0 L ∧ h = h0
set_option maxRecDepth 65536 in
set_option maxHeartbeats 40000000 in
theorem rm11 (l : Launch) (Z : State) (a0 : Array Value) (hw : ∀ d ∈ tables_1, d.before a0 Z = true) (ws : List Jvm.Cond) (r0 : Addr) (p1 : Int32) (kb : ClassId) (h0 : Heap) (n0 : Nat) (Z0 : n0 ≤ h0.size) (V_b : Arv Z h0 r0 kb .byte (15 : Int32) [(.int (33 : Int32)), (.int (35 : Int32)), (.int (36 : Int32)), (.int (37 : Int32)), (.int (38 : Int32)), (.int (39 : Int32)), (.int (42 : Int32)), (.int (43 : Int32)), (.int (45 : Int32)), (.int (46 : Int32)), (.int (94 : Int32)), (.int (95 : Int32)), (.int (96 : Int32)), (.int (124 : Int32)), (.int (126 : Int32))] (.int (0 : Int32))) :
    MetFree l (⟨"java/lang/StringLatin1", "indexOfChar", "([BIII)I"⟩ : MethodName) (head1 (Jvm.Cond.code (⟨"java/lang/StringLatin1", "indexOfChar", "([BIII)I"⟩ : MethodName) jdk_43_method_23_code 6 (some .int) :: ws) ({ frames := 0, cells := 0, slots := 0, locals := 0 } : Room)) (fun a U => a = #[(.ref r0), (.int p1), (.int (0 : Int32)), (.int (15 : Int32))] ∧ Z.Warmed39 U.vm ∧ U.heap = h0) (fun _ _ _ _ _ => True) (fun _ U o U' => ∃ v L, o = .returned v ∧ Q11 Z r0 p1 kb h0 n0 v U'.heap L ∧ FrameEnd U o U' L ({ frames := 0, cells := 0, slots := 0, locals := 0 } : Room).cells ({ frames := 0, cells := 0, slots := 0, locals := 0 } : Room).slots) := by
  refine MetFree.of_bodySF (plainFor_of_name pn_java_lang_StringLatin1) hisR ?_
  intro p e s m args below meth c s₁ Bd hml0 hP hK
  obtain ⟨rfl, hZ, hh⟩ := hP
  have hx := Bd.exec
  have hby := Bd.bytes
  have hml : c.maxLocals = 6 := hml0
  have hown : s.vm.findClass "java/lang/StringLatin1" = some m.cls := findClass_of_methodNamed Bd.named
  have hnm := (name_of_methodNamed Bd.named Bd.method).1
  have X0 : Stand p l e ({ frames := 0, cells := 0, slots := 0, locals := 0 } : Room) s m #[(.ref r0), (.int p1), (.int (0 : Int32)), (.int (15 : Int32))] below meth c s₁ [] 0 0 := Stand.of_body Bd
  have e0 : s₁.heap = h0 := by rw [← hh, Bd.state]; rfl
  have N0 := Fr.nil n0
  have pre0 : ∀ t, Steps p.tables e below (s₁.setTop (mkF m 0 #[.val (.ref r0), .val (.int p1), .val (.int (0 : Int32)), .val (.int (15 : Int32)), .unset, .unset] [])) t → Steps p.tables e below (s₁.setTop (entryFrame m #[(.ref r0), (.int p1), (.int (0 : Int32)), (.int (15 : Int32))] 6)) t := fun t k => castTop (ef_11 r0 p1 kb m) k
  obtain ⟨cl1, Ar1, qa1, S1, Nl1, H1, G1⟩ := id V_b
  have hin1 : ¬ ((0 : Int32) < 0 ∨ cl1.slots.size ≤ ((0 : Int32)).toNatClampNeg) := inb_of S1 ⟨by decide, by decide⟩
  have hat1 : cl1.slots[((0 : Int32)).toNatClampNeg]? = some (.int (33 : Int32)) := Has.at H1 hin1 rfl
  have pre2 : ∀ t, Steps p.tables e below (s₁.setTop (mkF m 19 #[.val (.ref r0), .val (.int p1), .val (.int (0 : Int32)), .val (.int (15 : Int32)), .val (.int (p1.toInt8.toInt32)), .val (.int (0 : Int32))] [(.int (p1.toInt8.toInt32)), (.int (33 : Int32))])) t → Steps p.tables e below (s₁.setTop (entryFrame m #[(.ref r0), (.int p1), (.int (0 : Int32)), (.int (15 : Int32))] 6)) t := fun t kt => pre0 t (by
    show Steps p.tables e below (s₁.setTop (mkF m 0 #[.val (.ref r0), .val (.int p1), .val (.int (0 : Int32)), .val (.int (15 : Int32)), .unset, .unset] [])) _
    refine XS.iloadN X0.here hx rfl (hb hby d11_0) rfl ?_
    show Steps p.tables e below (s₁.setTop (mkF m 1 #[.val (.ref r0), .val (.int p1), .val (.int (0 : Int32)), .val (.int (15 : Int32)), .unset, .unset] [(.int p1)])) _
    refine XS.i2b X0.here hx rfl (hb hby d11_1) rfl ?_
    show Steps p.tables e below (s₁.setTop (mkF m 2 #[.val (.ref r0), .val (.int p1), .val (.int (0 : Int32)), .val (.int (15 : Int32)), .unset, .unset] [(.int (p1.toInt8.toInt32))])) _
    refine XS.istore X0.here hx rfl (hb hby d11_2) rfl (l' := #[.val (.ref r0), .val (.int p1), .val (.int (0 : Int32)), .val (.int (15 : Int32)), .val (.int (p1.toInt8.toInt32)), .unset]) rfl ?_
    show Steps p.tables e below (s₁.setTop (mkF m 4 #[.val (.ref r0), .val (.int p1), .val (.int (0 : Int32)), .val (.int (15 : Int32)), .val (.int (p1.toInt8.toInt32)), .unset] [])) _
    refine XS.iloadN X0.here hx rfl (hb hby d11_4) rfl ?_
    show Steps p.tables e below (s₁.setTop (mkF m 5 #[.val (.ref r0), .val (.int p1), .val (.int (0 : Int32)), .val (.int (15 : Int32)), .val (.int (p1.toInt8.toInt32)), .unset] [(.int (0 : Int32))])) _
    refine XS.istore X0.here hx rfl (hb hby d11_5) rfl (l' := #[.val (.ref r0), .val (.int p1), .val (.int (0 : Int32)), .val (.int (15 : Int32)), .val (.int (p1.toInt8.toInt32)), .val (.int (0 : Int32))]) rfl ?_
    show Steps p.tables e below (s₁.setTop (mkF m 7 #[.val (.ref r0), .val (.int p1), .val (.int (0 : Int32)), .val (.int (15 : Int32)), .val (.int (p1.toInt8.toInt32)), .val (.int (0 : Int32))] [])) _
    refine XS.iload X0.here hx rfl (hb hby d11_7) rfl ?_
    show Steps p.tables e below (s₁.setTop (mkF m 9 #[.val (.ref r0), .val (.int p1), .val (.int (0 : Int32)), .val (.int (15 : Int32)), .val (.int (p1.toInt8.toInt32)), .val (.int (0 : Int32))] [(.int (0 : Int32))])) _
    refine XS.iloadN X0.here hx rfl (hb hby d11_9) rfl ?_
    show Steps p.tables e below (s₁.setTop (mkF m 10 #[.val (.ref r0), .val (.int p1), .val (.int (0 : Int32)), .val (.int (15 : Int32)), .val (.int (p1.toInt8.toInt32)), .val (.int (0 : Int32))] [(.int (15 : Int32)), (.int (0 : Int32))])) _
    refine XS.icmpNo X0.here hx rfl (hb hby d11_10) rfl (tlt (by decide : (0 : Int32) < (15 : Int32))).2.1 ?_
    show Steps p.tables e below (s₁.setTop (mkF m 13 #[.val (.ref r0), .val (.int p1), .val (.int (0 : Int32)), .val (.int (15 : Int32)), .val (.int (p1.toInt8.toInt32)), .val (.int (0 : Int32))] [])) _
    refine XS.aloadN X0.here hx rfl (hb hby d11_13) rfl rfl ?_
    show Steps p.tables e below (s₁.setTop (mkF m 14 #[.val (.ref r0), .val (.int p1), .val (.int (0 : Int32)), .val (.int (15 : Int32)), .val (.int (p1.toInt8.toInt32)), .val (.int (0 : Int32))] [(.ref r0)])) _
    refine XS.iload X0.here hx rfl (hb hby d11_14) rfl ?_
    show Steps p.tables e below (s₁.setTop (mkF m 16 #[.val (.ref r0), .val (.int p1), .val (.int (0 : Int32)), .val (.int (15 : Int32)), .val (.int (p1.toInt8.toInt32)), .val (.int (0 : Int32))] [(.int (0 : Int32)), (.ref r0)])) _
    refine X0.baloadBytes hx (j := (0 : Int32)) (v := (.int (33 : Int32))) (by rw [e0]; exact Ar1.1) (State.isArrayOf_alike hZ.alike Ar1.2.1) Ar1.2.2 hin1 hat1 (g := (mkF m 16 #[.val (.ref r0), .val (.int p1), .val (.int (0 : Int32)), .val (.int (15 : Int32)), .val (.int (p1.toInt8.toInt32)), .val (.int (0 : Int32))] [(.int (0 : Int32)), (.ref r0)])) rfl rfl (hb hby d11_16) _ ?_
    show Steps p.tables e below (s₁.setTop (mkF m 17 #[.val (.ref r0), .val (.int p1), .val (.int (0 : Int32)), .val (.int (15 : Int32)), .val (.int (p1.toInt8.toInt32)), .val (.int (0 : Int32))] [(.int (33 : Int32))])) _
    refine XS.iload X0.here hx rfl (hb hby d11_17) rfl ?_
    exact kt)
  by_cases hc19 : (33 : Int32) = (p1.toInt8.toInt32)
  · obtain ⟨fs, hr, hrun, hended, hW, hsame⟩ := X0.leave (v := some (.int (0 : Int32))) (fun h => by rw [Bd.returns] at h; cases h)
    refine ⟨_, _, pre2 _ ?_, hrun, hended, _, _, rfl, ?_, ⟨_, rfl⟩, hW, hsame.mono (by decide) (by decide)⟩
    · show Steps p.tables e below (s₁.setTop (mkF m 19 #[.val (.ref r0), .val (.int p1), .val (.int (0 : Int32)), .val (.int (15 : Int32)), .val (.int (p1.toInt8.toInt32)), .val (.int (0 : Int32))] [(.int (p1.toInt8.toInt32)), (.int (33 : Int32))])) _
      refine XS.icmpNo X0.here hx rfl (hb hby d11_19) rfl (teq hc19).2 ?_
      show Steps p.tables e below (s₁.setTop (mkF m 22 #[.val (.ref r0), .val (.int p1), .val (.int (0 : Int32)), .val (.int (15 : Int32)), .val (.int (p1.toInt8.toInt32)), .val (.int (0 : Int32))] [])) _
      refine XS.iload X0.here hx rfl (hb hby d11_22) rfl ?_
      show Steps p.tables e below (s₁.setTop (mkF m 24 #[.val (.ref r0), .val (.int p1), .val (.int (0 : Int32)), .val (.int (15 : Int32)), .val (.int (p1.toInt8.toInt32)), .val (.int (0 : Int32))] [(.int (0 : Int32))])) _
      exact retI X0 hx Bd.returns (hb hby d11_24) hr
    · show Q11 Z r0 p1 kb h0 n0 _ s₁.heap _
      rw [e0]
      exact ⟨(by unfold F11; simp only [if_pos hc19]), N0, rfl⟩
  · obtain ⟨cl3, Ar3, qa3, S3, Nl3, H3, G3⟩ := id V_b
    have hin3 : ¬ ((1 : Int32) < 0 ∨ cl3.slots.size ≤ ((1 : Int32)).toNatClampNeg) := inb_of S3 ⟨by decide, by decide⟩
    have hat3 : cl3.slots[((1 : Int32)).toNatClampNeg]? = some (.int (35 : Int32)) := Has.at H3 hin3 rfl
    have pre4 : ∀ t, Steps p.tables e below (s₁.setTop (mkF m 19 #[.val (.ref r0), .val (.int p1), .val (.int (0 : Int32)), .val (.int (15 : Int32)), .val (.int (p1.toInt8.toInt32)), .val (.int (1 : Int32))] [(.int (p1.toInt8.toInt32)), (.int (35 : Int32))])) t → Steps p.tables e below (s₁.setTop (entryFrame m #[(.ref r0), (.int p1), (.int (0 : Int32)), (.int (15 : Int32))] 6)) t := fun t kt => pre2 t (by
      show Steps p.tables e below (s₁.setTop (mkF m 19 #[.val (.ref r0), .val (.int p1), .val (.int (0 : Int32)), .val (.int (15 : Int32)), .val (.int (p1.toInt8.toInt32)), .val (.int (0 : Int32))] [(.int (p1.toInt8.toInt32)), (.int (33 : Int32))])) _
      refine XS.icmpYes X0.here hx rfl (pc0 := 19) (pc' := 25) rfl (hb hby d11_19) rfl (feq hc19).2 (by decide) (by decide) ?_
      show Steps p.tables e below (s₁.setTop (mkF m 25 #[.val (.ref r0), .val (.int p1), .val (.int (0 : Int32)), .val (.int (15 : Int32)), .val (.int (p1.toInt8.toInt32)), .val (.int (0 : Int32))] [])) _
      refine XS.iinc X0.here hx rfl (hb hby d11_25) rfl (l' := #[.val (.ref r0), .val (.int p1), .val (.int (0 : Int32)), .val (.int (15 : Int32)), .val (.int (p1.toInt8.toInt32)), .val (.int (1 : Int32))]) rfl ?_
      show Steps p.tables e below (s₁.setTop (mkF m 28 #[.val (.ref r0), .val (.int p1), .val (.int (0 : Int32)), .val (.int (15 : Int32)), .val (.int (p1.toInt8.toInt32)), .val (.int (1 : Int32))] [])) _
      refine XS.goto X0.here hx rfl (pc0 := 28) (pc' := 7) rfl (hb hby d11_28) (by decide) (by decide) ?_
      show Steps p.tables e below (s₁.setTop (mkF m 7 #[.val (.ref r0), .val (.int p1), .val (.int (0 : Int32)), .val (.int (15 : Int32)), .val (.int (p1.toInt8.toInt32)), .val (.int (1 : Int32))] [])) _
      refine XS.iload X0.here hx rfl (hb hby d11_7) rfl ?_
      show Steps p.tables e below (s₁.setTop (mkF m 9 #[.val (.ref r0), .val (.int p1), .val (.int (0 : Int32)), .val (.int (15 : Int32)), .val (.int (p1.toInt8.toInt32)), .val (.int (1 : Int32))] [(.int (1 : Int32))])) _
      refine XS.iloadN X0.here hx rfl (hb hby d11_9) rfl ?_
      show Steps p.tables e below (s₁.setTop (mkF m 10 #[.val (.ref r0), .val (.int p1), .val (.int (0 : Int32)), .val (.int (15 : Int32)), .val (.int (p1.toInt8.toInt32)), .val (.int (1 : Int32))] [(.int (15 : Int32)), (.int (1 : Int32))])) _
      refine XS.icmpNo X0.here hx rfl (hb hby d11_10) rfl (tlt (by decide : (1 : Int32) < (15 : Int32))).2.1 ?_
      show Steps p.tables e below (s₁.setTop (mkF m 13 #[.val (.ref r0), .val (.int p1), .val (.int (0 : Int32)), .val (.int (15 : Int32)), .val (.int (p1.toInt8.toInt32)), .val (.int (1 : Int32))] [])) _
      refine XS.aloadN X0.here hx rfl (hb hby d11_13) rfl rfl ?_
      show Steps p.tables e below (s₁.setTop (mkF m 14 #[.val (.ref r0), .val (.int p1), .val (.int (0 : Int32)), .val (.int (15 : Int32)), .val (.int (p1.toInt8.toInt32)), .val (.int (1 : Int32))] [(.ref r0)])) _
      refine XS.iload X0.here hx rfl (hb hby d11_14) rfl ?_
      show Steps p.tables e below (s₁.setTop (mkF m 16 #[.val (.ref r0), .val (.int p1), .val (.int (0 : Int32)), .val (.int (15 : Int32)), .val (.int (p1.toInt8.toInt32)), .val (.int (1 : Int32))] [(.int (1 : Int32)), (.ref r0)])) _
      refine X0.baloadBytes hx (j := (1 : Int32)) (v := (.int (35 : Int32))) (by rw [e0]; exact Ar3.1) (State.isArrayOf_alike hZ.alike Ar3.2.1) Ar3.2.2 hin3 hat3 (g := (mkF m 16 #[.val (.ref r0), .val (.int p1), .val (.int (0 : Int32)), .val (.int (15 : Int32)), .val (.int (p1.toInt8.toInt32)), .val (.int (1 : Int32))] [(.int (1 : Int32)), (.ref r0)])) rfl rfl (hb hby d11_16) _ ?_
      show Steps p.tables e below (s₁.setTop (mkF m 17 #[.val (.ref r0), .val (.int p1), .val (.int (0 : Int32)), .val (.int (15 : Int32)), .val (.int (p1.toInt8.toInt32)), .val (.int (1 : Int32))] [(.int (35 : Int32))])) _
      refine XS.iload X0.here hx rfl (hb hby d11_17) rfl ?_
      exact kt)
    by_cases hc19_2 : (35 : Int32) = (p1.toInt8.toInt32)
    · obtain ⟨fs, hr, hrun, hended, hW, hsame⟩ := X0.leave (v := some (.int (1 : Int32))) (fun h => by rw [Bd.returns] at h; cases h)
      refine ⟨_, _, pre4 _ ?_, hrun, hended, _, _, rfl, ?_, ⟨_, rfl⟩, hW, hsame.mono (by decide) (by decide)⟩
      · show Steps p.tables e below (s₁.setTop (mkF m 19 #[.val (.ref r0), .val (.int p1), .val (.int (0 : Int32)), .val (.int (15 : Int32)), .val (.int (p1.toInt8.toInt32)), .val (.int (1 : Int32))] [(.int (p1.toInt8.toInt32)), (.int (35 : Int32))])) _
        refine XS.icmpNo X0.here hx rfl (hb hby d11_19) rfl (teq hc19_2).2 ?_
        show Steps p.tables e below (s₁.setTop (mkF m 22 #[.val (.ref r0), .val (.int p1), .val (.int (0 : Int32)), .val (.int (15 : Int32)), .val (.int (p1.toInt8.toInt32)), .val (.int (1 : Int32))] [])) _
        refine XS.iload X0.here hx rfl (hb hby d11_22) rfl ?_
        show Steps p.tables e below (s₁.setTop (mkF m 24 #[.val (.ref r0), .val (.int p1), .val (.int (0 : Int32)), .val (.int (15 : Int32)), .val (.int (p1.toInt8.toInt32)), .val (.int (1 : Int32))] [(.int (1 : Int32))])) _
        exact retI X0 hx Bd.returns (hb hby d11_24) hr
      · show Q11 Z r0 p1 kb h0 n0 _ s₁.heap _
        rw [e0]
        exact ⟨(by unfold F11; simp only [if_neg hc19, if_pos hc19_2]), N0, rfl⟩
    · obtain ⟨cl5, Ar5, qa5, S5, Nl5, H5, G5⟩ := id V_b
      have hin5 : ¬ ((2 : Int32) < 0 ∨ cl5.slots.size ≤ ((2 : Int32)).toNatClampNeg) := inb_of S5 ⟨by decide, by decide⟩
      have hat5 : cl5.slots[((2 : Int32)).toNatClampNeg]? = some (.int (36 : Int32)) := Has.at H5 hin5 rfl
      have pre6 : ∀ t, Steps p.tables e below (s₁.setTop (mkF m 19 #[.val (.ref r0), .val (.int p1), .val (.int (0 : Int32)), .val (.int (15 : Int32)), .val (.int (p1.toInt8.toInt32)), .val (.int (2 : Int32))] [(.int (p1.toInt8.toInt32)), (.int (36 : Int32))])) t → Steps p.tables e below (s₁.setTop (entryFrame m #[(.ref r0), (.int p1), (.int (0 : Int32)), (.int (15 : Int32))] 6)) t := fun t kt => pre4 t (by
        show Steps p.tables e below (s₁.setTop (mkF m 19 #[.val (.ref r0), .val (.int p1), .val (.int (0 : Int32)), .val (.int (15 : Int32)), .val (.int (p1.toInt8.toInt32)), .val (.int (1 : Int32))] [(.int (p1.toInt8.toInt32)), (.int (35 : Int32))])) _
        refine XS.icmpYes X0.here hx rfl (pc0 := 19) (pc' := 25) rfl (hb hby d11_19) rfl (feq hc19_2).2 (by decide) (by decide) ?_
        show Steps p.tables e below (s₁.setTop (mkF m 25 #[.val (.ref r0), .val (.int p1), .val (.int (0 : Int32)), .val (.int (15 : Int32)), .val (.int (p1.toInt8.toInt32)), .val (.int (1 : Int32))] [])) _
        refine XS.iinc X0.here hx rfl (hb hby d11_25) rfl (l' := #[.val (.ref r0), .val (.int p1), .val (.int (0 : Int32)), .val (.int (15 : Int32)), .val (.int (p1.toInt8.toInt32)), .val (.int (2 : Int32))]) rfl ?_
        show Steps p.tables e below (s₁.setTop (mkF m 28 #[.val (.ref r0), .val (.int p1), .val (.int (0 : Int32)), .val (.int (15 : Int32)), .val (.int (p1.toInt8.toInt32)), .val (.int (2 : Int32))] [])) _
        refine XS.goto X0.here hx rfl (pc0 := 28) (pc' := 7) rfl (hb hby d11_28) (by decide) (by decide) ?_
        show Steps p.tables e below (s₁.setTop (mkF m 7 #[.val (.ref r0), .val (.int p1), .val (.int (0 : Int32)), .val (.int (15 : Int32)), .val (.int (p1.toInt8.toInt32)), .val (.int (2 : Int32))] [])) _
        refine XS.iload X0.here hx rfl (hb hby d11_7) rfl ?_
        show Steps p.tables e below (s₁.setTop (mkF m 9 #[.val (.ref r0), .val (.int p1), .val (.int (0 : Int32)), .val (.int (15 : Int32)), .val (.int (p1.toInt8.toInt32)), .val (.int (2 : Int32))] [(.int (2 : Int32))])) _
        refine XS.iloadN X0.here hx rfl (hb hby d11_9) rfl ?_
        show Steps p.tables e below (s₁.setTop (mkF m 10 #[.val (.ref r0), .val (.int p1), .val (.int (0 : Int32)), .val (.int (15 : Int32)), .val (.int (p1.toInt8.toInt32)), .val (.int (2 : Int32))] [(.int (15 : Int32)), (.int (2 : Int32))])) _
        refine XS.icmpNo X0.here hx rfl (hb hby d11_10) rfl (tlt (by decide : (2 : Int32) < (15 : Int32))).2.1 ?_
        show Steps p.tables e below (s₁.setTop (mkF m 13 #[.val (.ref r0), .val (.int p1), .val (.int (0 : Int32)), .val (.int (15 : Int32)), .val (.int (p1.toInt8.toInt32)), .val (.int (2 : Int32))] [])) _
        refine XS.aloadN X0.here hx rfl (hb hby d11_13) rfl rfl ?_
        show Steps p.tables e below (s₁.setTop (mkF m 14 #[.val (.ref r0), .val (.int p1), .val (.int (0 : Int32)), .val (.int (15 : Int32)), .val (.int (p1.toInt8.toInt32)), .val (.int (2 : Int32))] [(.ref r0)])) _
        refine XS.iload X0.here hx rfl (hb hby d11_14) rfl ?_
        show Steps p.tables e below (s₁.setTop (mkF m 16 #[.val (.ref r0), .val (.int p1), .val (.int (0 : Int32)), .val (.int (15 : Int32)), .val (.int (p1.toInt8.toInt32)), .val (.int (2 : Int32))] [(.int (2 : Int32)), (.ref r0)])) _
        refine X0.baloadBytes hx (j := (2 : Int32)) (v := (.int (36 : Int32))) (by rw [e0]; exact Ar5.1) (State.isArrayOf_alike hZ.alike Ar5.2.1) Ar5.2.2 hin5 hat5 (g := (mkF m 16 #[.val (.ref r0), .val (.int p1), .val (.int (0 : Int32)), .val (.int (15 : Int32)), .val (.int (p1.toInt8.toInt32)), .val (.int (2 : Int32))] [(.int (2 : Int32)), (.ref r0)])) rfl rfl (hb hby d11_16) _ ?_
        show Steps p.tables e below (s₁.setTop (mkF m 17 #[.val (.ref r0), .val (.int p1), .val (.int (0 : Int32)), .val (.int (15 : Int32)), .val (.int (p1.toInt8.toInt32)), .val (.int (2 : Int32))] [(.int (36 : Int32))])) _
        refine XS.iload X0.here hx rfl (hb hby d11_17) rfl ?_
        exact kt)
      by_cases hc19_3 : (36 : Int32) = (p1.toInt8.toInt32)
      · obtain ⟨fs, hr, hrun, hended, hW, hsame⟩ := X0.leave (v := some (.int (2 : Int32))) (fun h => by rw [Bd.returns] at h; cases h)
        refine ⟨_, _, pre6 _ ?_, hrun, hended, _, _, rfl, ?_, ⟨_, rfl⟩, hW, hsame.mono (by decide) (by decide)⟩
        · show Steps p.tables e below (s₁.setTop (mkF m 19 #[.val (.ref r0), .val (.int p1), .val (.int (0 : Int32)), .val (.int (15 : Int32)), .val (.int (p1.toInt8.toInt32)), .val (.int (2 : Int32))] [(.int (p1.toInt8.toInt32)), (.int (36 : Int32))])) _
          refine XS.icmpNo X0.here hx rfl (hb hby d11_19) rfl (teq hc19_3).2 ?_
          show Steps p.tables e below (s₁.setTop (mkF m 22 #[.val (.ref r0), .val (.int p1), .val (.int (0 : Int32)), .val (.int (15 : Int32)), .val (.int (p1.toInt8.toInt32)), .val (.int (2 : Int32))] [])) _
          refine XS.iload X0.here hx rfl (hb hby d11_22) rfl ?_
          show Steps p.tables e below (s₁.setTop (mkF m 24 #[.val (.ref r0), .val (.int p1), .val (.int (0 : Int32)), .val (.int (15 : Int32)), .val (.int (p1.toInt8.toInt32)), .val (.int (2 : Int32))] [(.int (2 : Int32))])) _
          exact retI X0 hx Bd.returns (hb hby d11_24) hr
        · show Q11 Z r0 p1 kb h0 n0 _ s₁.heap _
          rw [e0]
          exact ⟨(by unfold F11; simp only [if_neg hc19, if_neg hc19_2, if_pos hc19_3]), N0, rfl⟩
      · obtain ⟨cl7, Ar7, qa7, S7, Nl7, H7, G7⟩ := id V_b
        have hin7 : ¬ ((3 : Int32) < 0 ∨ cl7.slots.size ≤ ((3 : Int32)).toNatClampNeg) := inb_of S7 ⟨by decide, by decide⟩
        have hat7 : cl7.slots[((3 : Int32)).toNatClampNeg]? = some (.int (37 : Int32)) := Has.at H7 hin7 rfl
        have pre8 : ∀ t, Steps p.tables e below (s₁.setTop (mkF m 19 #[.val (.ref r0), .val (.int p1), .val (.int (0 : Int32)), .val (.int (15 : Int32)), .val (.int (p1.toInt8.toInt32)), .val (.int (3 : Int32))] [(.int (p1.toInt8.toInt32)), (.int (37 : Int32))])) t → Steps p.tables e below (s₁.setTop (entryFrame m #[(.ref r0), (.int p1), (.int (0 : Int32)), (.int (15 : Int32))] 6)) t := fun t kt => pre6 t (by
          show Steps p.tables e below (s₁.setTop (mkF m 19 #[.val (.ref r0), .val (.int p1), .val (.int (0 : Int32)), .val (.int (15 : Int32)), .val (.int (p1.toInt8.toInt32)), .val (.int (2 : Int32))] [(.int (p1.toInt8.toInt32)), (.int (36 : Int32))])) _
          refine XS.icmpYes X0.here hx rfl (pc0 := 19) (pc' := 25) rfl (hb hby d11_19) rfl (feq hc19_3).2 (by decide) (by decide) ?_
          show Steps p.tables e below (s₁.setTop (mkF m 25 #[.val (.ref r0), .val (.int p1), .val (.int (0 : Int32)), .val (.int (15 : Int32)), .val (.int (p1.toInt8.toInt32)), .val (.int (2 : Int32))] [])) _
          refine XS.iinc X0.here hx rfl (hb hby d11_25) rfl (l' := #[.val (.ref r0), .val (.int p1), .val (.int (0 : Int32)), .val (.int (15 : Int32)), .val (.int (p1.toInt8.toInt32)), .val (.int (3 : Int32))]) rfl ?_
          show Steps p.tables e below (s₁.setTop (mkF m 28 #[.val (.ref r0), .val (.int p1), .val (.int (0 : Int32)), .val (.int (15 : Int32)), .val (.int (p1.toInt8.toInt32)), .val (.int (3 : Int32))] [])) _
          refine XS.goto X0.here hx rfl (pc0 := 28) (pc' := 7) rfl (hb hby d11_28) (by decide) (by decide) ?_
          show Steps p.tables e below (s₁.setTop (mkF m 7 #[.val (.ref r0), .val (.int p1), .val (.int (0 : Int32)), .val (.int (15 : Int32)), .val (.int (p1.toInt8.toInt32)), .val (.int (3 : Int32))] [])) _
          refine XS.iload X0.here hx rfl (hb hby d11_7) rfl ?_
          show Steps p.tables e below (s₁.setTop (mkF m 9 #[.val (.ref r0), .val (.int p1), .val (.int (0 : Int32)), .val (.int (15 : Int32)), .val (.int (p1.toInt8.toInt32)), .val (.int (3 : Int32))] [(.int (3 : Int32))])) _
          refine XS.iloadN X0.here hx rfl (hb hby d11_9) rfl ?_
          show Steps p.tables e below (s₁.setTop (mkF m 10 #[.val (.ref r0), .val (.int p1), .val (.int (0 : Int32)), .val (.int (15 : Int32)), .val (.int (p1.toInt8.toInt32)), .val (.int (3 : Int32))] [(.int (15 : Int32)), (.int (3 : Int32))])) _
          refine XS.icmpNo X0.here hx rfl (hb hby d11_10) rfl (tlt (by decide : (3 : Int32) < (15 : Int32))).2.1 ?_
          show Steps p.tables e below (s₁.setTop (mkF m 13 #[.val (.ref r0), .val (.int p1), .val (.int (0 : Int32)), .val (.int (15 : Int32)), .val (.int (p1.toInt8.toInt32)), .val (.int (3 : Int32))] [])) _
          refine XS.aloadN X0.here hx rfl (hb hby d11_13) rfl rfl ?_
          show Steps p.tables e below (s₁.setTop (mkF m 14 #[.val (.ref r0), .val (.int p1), .val (.int (0 : Int32)), .val (.int (15 : Int32)), .val (.int (p1.toInt8.toInt32)), .val (.int (3 : Int32))] [(.ref r0)])) _
          refine XS.iload X0.here hx rfl (hb hby d11_14) rfl ?_
          show Steps p.tables e below (s₁.setTop (mkF m 16 #[.val (.ref r0), .val (.int p1), .val (.int (0 : Int32)), .val (.int (15 : Int32)), .val (.int (p1.toInt8.toInt32)), .val (.int (3 : Int32))] [(.int (3 : Int32)), (.ref r0)])) _
          refine X0.baloadBytes hx (j := (3 : Int32)) (v := (.int (37 : Int32))) (by rw [e0]; exact Ar7.1) (State.isArrayOf_alike hZ.alike Ar7.2.1) Ar7.2.2 hin7 hat7 (g := (mkF m 16 #[.val (.ref r0), .val (.int p1), .val (.int (0 : Int32)), .val (.int (15 : Int32)), .val (.int (p1.toInt8.toInt32)), .val (.int (3 : Int32))] [(.int (3 : Int32)), (.ref r0)])) rfl rfl (hb hby d11_16) _ ?_
          show Steps p.tables e below (s₁.setTop (mkF m 17 #[.val (.ref r0), .val (.int p1), .val (.int (0 : Int32)), .val (.int (15 : Int32)), .val (.int (p1.toInt8.toInt32)), .val (.int (3 : Int32))] [(.int (37 : Int32))])) _
          refine XS.iload X0.here hx rfl (hb hby d11_17) rfl ?_
          exact kt)
        by_cases hc19_4 : (37 : Int32) = (p1.toInt8.toInt32)
        · obtain ⟨fs, hr, hrun, hended, hW, hsame⟩ := X0.leave (v := some (.int (3 : Int32))) (fun h => by rw [Bd.returns] at h; cases h)
          refine ⟨_, _, pre8 _ ?_, hrun, hended, _, _, rfl, ?_, ⟨_, rfl⟩, hW, hsame.mono (by decide) (by decide)⟩
          · show Steps p.tables e below (s₁.setTop (mkF m 19 #[.val (.ref r0), .val (.int p1), .val (.int (0 : Int32)), .val (.int (15 : Int32)), .val (.int (p1.toInt8.toInt32)), .val (.int (3 : Int32))] [(.int (p1.toInt8.toInt32)), (.int (37 : Int32))])) _
            refine XS.icmpNo X0.here hx rfl (hb hby d11_19) rfl (teq hc19_4).2 ?_
            show Steps p.tables e below (s₁.setTop (mkF m 22 #[.val (.ref r0), .val (.int p1), .val (.int (0 : Int32)), .val (.int (15 : Int32)), .val (.int (p1.toInt8.toInt32)), .val (.int (3 : Int32))] [])) _
            refine XS.iload X0.here hx rfl (hb hby d11_22) rfl ?_
            show Steps p.tables e below (s₁.setTop (mkF m 24 #[.val (.ref r0), .val (.int p1), .val (.int (0 : Int32)), .val (.int (15 : Int32)), .val (.int (p1.toInt8.toInt32)), .val (.int (3 : Int32))] [(.int (3 : Int32))])) _
            exact retI X0 hx Bd.returns (hb hby d11_24) hr
          · show Q11 Z r0 p1 kb h0 n0 _ s₁.heap _
            rw [e0]
            exact ⟨(by unfold F11; simp only [if_neg hc19, if_neg hc19_2, if_neg hc19_3, if_pos hc19_4]), N0, rfl⟩
        · obtain ⟨cl9, Ar9, qa9, S9, Nl9, H9, G9⟩ := id V_b
          have hin9 : ¬ ((4 : Int32) < 0 ∨ cl9.slots.size ≤ ((4 : Int32)).toNatClampNeg) := inb_of S9 ⟨by decide, by decide⟩
          have hat9 : cl9.slots[((4 : Int32)).toNatClampNeg]? = some (.int (38 : Int32)) := Has.at H9 hin9 rfl
          have pre10 : ∀ t, Steps p.tables e below (s₁.setTop (mkF m 19 #[.val (.ref r0), .val (.int p1), .val (.int (0 : Int32)), .val (.int (15 : Int32)), .val (.int (p1.toInt8.toInt32)), .val (.int (4 : Int32))] [(.int (p1.toInt8.toInt32)), (.int (38 : Int32))])) t → Steps p.tables e below (s₁.setTop (entryFrame m #[(.ref r0), (.int p1), (.int (0 : Int32)), (.int (15 : Int32))] 6)) t := fun t kt => pre8 t (by
            show Steps p.tables e below (s₁.setTop (mkF m 19 #[.val (.ref r0), .val (.int p1), .val (.int (0 : Int32)), .val (.int (15 : Int32)), .val (.int (p1.toInt8.toInt32)), .val (.int (3 : Int32))] [(.int (p1.toInt8.toInt32)), (.int (37 : Int32))])) _
            refine XS.icmpYes X0.here hx rfl (pc0 := 19) (pc' := 25) rfl (hb hby d11_19) rfl (feq hc19_4).2 (by decide) (by decide) ?_
            show Steps p.tables e below (s₁.setTop (mkF m 25 #[.val (.ref r0), .val (.int p1), .val (.int (0 : Int32)), .val (.int (15 : Int32)), .val (.int (p1.toInt8.toInt32)), .val (.int (3 : Int32))] [])) _
            refine XS.iinc X0.here hx rfl (hb hby d11_25) rfl (l' := #[.val (.ref r0), .val (.int p1), .val (.int (0 : Int32)), .val (.int (15 : Int32)), .val (.int (p1.toInt8.toInt32)), .val (.int (4 : Int32))]) rfl ?_
            show Steps p.tables e below (s₁.setTop (mkF m 28 #[.val (.ref r0), .val (.int p1), .val (.int (0 : Int32)), .val (.int (15 : Int32)), .val (.int (p1.toInt8.toInt32)), .val (.int (4 : Int32))] [])) _
            refine XS.goto X0.here hx rfl (pc0 := 28) (pc' := 7) rfl (hb hby d11_28) (by decide) (by decide) ?_
            show Steps p.tables e below (s₁.setTop (mkF m 7 #[.val (.ref r0), .val (.int p1), .val (.int (0 : Int32)), .val (.int (15 : Int32)), .val (.int (p1.toInt8.toInt32)), .val (.int (4 : Int32))] [])) _
            refine XS.iload X0.here hx rfl (hb hby d11_7) rfl ?_
            show Steps p.tables e below (s₁.setTop (mkF m 9 #[.val (.ref r0), .val (.int p1), .val (.int (0 : Int32)), .val (.int (15 : Int32)), .val (.int (p1.toInt8.toInt32)), .val (.int (4 : Int32))] [(.int (4 : Int32))])) _
            refine XS.iloadN X0.here hx rfl (hb hby d11_9) rfl ?_
            show Steps p.tables e below (s₁.setTop (mkF m 10 #[.val (.ref r0), .val (.int p1), .val (.int (0 : Int32)), .val (.int (15 : Int32)), .val (.int (p1.toInt8.toInt32)), .val (.int (4 : Int32))] [(.int (15 : Int32)), (.int (4 : Int32))])) _
            refine XS.icmpNo X0.here hx rfl (hb hby d11_10) rfl (tlt (by decide : (4 : Int32) < (15 : Int32))).2.1 ?_
            show Steps p.tables e below (s₁.setTop (mkF m 13 #[.val (.ref r0), .val (.int p1), .val (.int (0 : Int32)), .val (.int (15 : Int32)), .val (.int (p1.toInt8.toInt32)), .val (.int (4 : Int32))] [])) _
            refine XS.aloadN X0.here hx rfl (hb hby d11_13) rfl rfl ?_
            show Steps p.tables e below (s₁.setTop (mkF m 14 #[.val (.ref r0), .val (.int p1), .val (.int (0 : Int32)), .val (.int (15 : Int32)), .val (.int (p1.toInt8.toInt32)), .val (.int (4 : Int32))] [(.ref r0)])) _
            refine XS.iload X0.here hx rfl (hb hby d11_14) rfl ?_
            show Steps p.tables e below (s₁.setTop (mkF m 16 #[.val (.ref r0), .val (.int p1), .val (.int (0 : Int32)), .val (.int (15 : Int32)), .val (.int (p1.toInt8.toInt32)), .val (.int (4 : Int32))] [(.int (4 : Int32)), (.ref r0)])) _
            refine X0.baloadBytes hx (j := (4 : Int32)) (v := (.int (38 : Int32))) (by rw [e0]; exact Ar9.1) (State.isArrayOf_alike hZ.alike Ar9.2.1) Ar9.2.2 hin9 hat9 (g := (mkF m 16 #[.val (.ref r0), .val (.int p1), .val (.int (0 : Int32)), .val (.int (15 : Int32)), .val (.int (p1.toInt8.toInt32)), .val (.int (4 : Int32))] [(.int (4 : Int32)), (.ref r0)])) rfl rfl (hb hby d11_16) _ ?_
            show Steps p.tables e below (s₁.setTop (mkF m 17 #[.val (.ref r0), .val (.int p1), .val (.int (0 : Int32)), .val (.int (15 : Int32)), .val (.int (p1.toInt8.toInt32)), .val (.int (4 : Int32))] [(.int (38 : Int32))])) _
            refine XS.iload X0.here hx rfl (hb hby d11_17) rfl ?_
            exact kt)
          by_cases hc19_5 : (38 : Int32) = (p1.toInt8.toInt32)
          · obtain ⟨fs, hr, hrun, hended, hW, hsame⟩ := X0.leave (v := some (.int (4 : Int32))) (fun h => by rw [Bd.returns] at h; cases h)
            refine ⟨_, _, pre10 _ ?_, hrun, hended, _, _, rfl, ?_, ⟨_, rfl⟩, hW, hsame.mono (by decide) (by decide)⟩
            · show Steps p.tables e below (s₁.setTop (mkF m 19 #[.val (.ref r0), .val (.int p1), .val (.int (0 : Int32)), .val (.int (15 : Int32)), .val (.int (p1.toInt8.toInt32)), .val (.int (4 : Int32))] [(.int (p1.toInt8.toInt32)), (.int (38 : Int32))])) _
              refine XS.icmpNo X0.here hx rfl (hb hby d11_19) rfl (teq hc19_5).2 ?_
              show Steps p.tables e below (s₁.setTop (mkF m 22 #[.val (.ref r0), .val (.int p1), .val (.int (0 : Int32)), .val (.int (15 : Int32)), .val (.int (p1.toInt8.toInt32)), .val (.int (4 : Int32))] [])) _
              refine XS.iload X0.here hx rfl (hb hby d11_22) rfl ?_
              show Steps p.tables e below (s₁.setTop (mkF m 24 #[.val (.ref r0), .val (.int p1), .val (.int (0 : Int32)), .val (.int (15 : Int32)), .val (.int (p1.toInt8.toInt32)), .val (.int (4 : Int32))] [(.int (4 : Int32))])) _
              exact retI X0 hx Bd.returns (hb hby d11_24) hr
            · show Q11 Z r0 p1 kb h0 n0 _ s₁.heap _
              rw [e0]
              exact ⟨(by unfold F11; simp only [if_neg hc19, if_neg hc19_2, if_neg hc19_3, if_neg hc19_4, if_pos hc19_5]), N0, rfl⟩
          · obtain ⟨cl11, Ar11, qa11, S11, Nl11, H11, G11⟩ := id V_b
            have hin11 : ¬ ((5 : Int32) < 0 ∨ cl11.slots.size ≤ ((5 : Int32)).toNatClampNeg) := inb_of S11 ⟨by decide, by decide⟩
            have hat11 : cl11.slots[((5 : Int32)).toNatClampNeg]? = some (.int (39 : Int32)) := Has.at H11 hin11 rfl
            have pre12 : ∀ t, Steps p.tables e below (s₁.setTop (mkF m 19 #[.val (.ref r0), .val (.int p1), .val (.int (0 : Int32)), .val (.int (15 : Int32)), .val (.int (p1.toInt8.toInt32)), .val (.int (5 : Int32))] [(.int (p1.toInt8.toInt32)), (.int (39 : Int32))])) t → Steps p.tables e below (s₁.setTop (entryFrame m #[(.ref r0), (.int p1), (.int (0 : Int32)), (.int (15 : Int32))] 6)) t := fun t kt => pre10 t (by
              show Steps p.tables e below (s₁.setTop (mkF m 19 #[.val (.ref r0), .val (.int p1), .val (.int (0 : Int32)), .val (.int (15 : Int32)), .val (.int (p1.toInt8.toInt32)), .val (.int (4 : Int32))] [(.int (p1.toInt8.toInt32)), (.int (38 : Int32))])) _
              refine XS.icmpYes X0.here hx rfl (pc0 := 19) (pc' := 25) rfl (hb hby d11_19) rfl (feq hc19_5).2 (by decide) (by decide) ?_
              show Steps p.tables e below (s₁.setTop (mkF m 25 #[.val (.ref r0), .val (.int p1), .val (.int (0 : Int32)), .val (.int (15 : Int32)), .val (.int (p1.toInt8.toInt32)), .val (.int (4 : Int32))] [])) _
              refine XS.iinc X0.here hx rfl (hb hby d11_25) rfl (l' := #[.val (.ref r0), .val (.int p1), .val (.int (0 : Int32)), .val (.int (15 : Int32)), .val (.int (p1.toInt8.toInt32)), .val (.int (5 : Int32))]) rfl ?_
              show Steps p.tables e below (s₁.setTop (mkF m 28 #[.val (.ref r0), .val (.int p1), .val (.int (0 : Int32)), .val (.int (15 : Int32)), .val (.int (p1.toInt8.toInt32)), .val (.int (5 : Int32))] [])) _
              refine XS.goto X0.here hx rfl (pc0 := 28) (pc' := 7) rfl (hb hby d11_28) (by decide) (by decide) ?_
              show Steps p.tables e below (s₁.setTop (mkF m 7 #[.val (.ref r0), .val (.int p1), .val (.int (0 : Int32)), .val (.int (15 : Int32)), .val (.int (p1.toInt8.toInt32)), .val (.int (5 : Int32))] [])) _
              refine XS.iload X0.here hx rfl (hb hby d11_7) rfl ?_
              show Steps p.tables e below (s₁.setTop (mkF m 9 #[.val (.ref r0), .val (.int p1), .val (.int (0 : Int32)), .val (.int (15 : Int32)), .val (.int (p1.toInt8.toInt32)), .val (.int (5 : Int32))] [(.int (5 : Int32))])) _
              refine XS.iloadN X0.here hx rfl (hb hby d11_9) rfl ?_
              show Steps p.tables e below (s₁.setTop (mkF m 10 #[.val (.ref r0), .val (.int p1), .val (.int (0 : Int32)), .val (.int (15 : Int32)), .val (.int (p1.toInt8.toInt32)), .val (.int (5 : Int32))] [(.int (15 : Int32)), (.int (5 : Int32))])) _
              refine XS.icmpNo X0.here hx rfl (hb hby d11_10) rfl (tlt (by decide : (5 : Int32) < (15 : Int32))).2.1 ?_
              show Steps p.tables e below (s₁.setTop (mkF m 13 #[.val (.ref r0), .val (.int p1), .val (.int (0 : Int32)), .val (.int (15 : Int32)), .val (.int (p1.toInt8.toInt32)), .val (.int (5 : Int32))] [])) _
              refine XS.aloadN X0.here hx rfl (hb hby d11_13) rfl rfl ?_
              show Steps p.tables e below (s₁.setTop (mkF m 14 #[.val (.ref r0), .val (.int p1), .val (.int (0 : Int32)), .val (.int (15 : Int32)), .val (.int (p1.toInt8.toInt32)), .val (.int (5 : Int32))] [(.ref r0)])) _
              refine XS.iload X0.here hx rfl (hb hby d11_14) rfl ?_
              show Steps p.tables e below (s₁.setTop (mkF m 16 #[.val (.ref r0), .val (.int p1), .val (.int (0 : Int32)), .val (.int (15 : Int32)), .val (.int (p1.toInt8.toInt32)), .val (.int (5 : Int32))] [(.int (5 : Int32)), (.ref r0)])) _
              refine X0.baloadBytes hx (j := (5 : Int32)) (v := (.int (39 : Int32))) (by rw [e0]; exact Ar11.1) (State.isArrayOf_alike hZ.alike Ar11.2.1) Ar11.2.2 hin11 hat11 (g := (mkF m 16 #[.val (.ref r0), .val (.int p1), .val (.int (0 : Int32)), .val (.int (15 : Int32)), .val (.int (p1.toInt8.toInt32)), .val (.int (5 : Int32))] [(.int (5 : Int32)), (.ref r0)])) rfl rfl (hb hby d11_16) _ ?_
              show Steps p.tables e below (s₁.setTop (mkF m 17 #[.val (.ref r0), .val (.int p1), .val (.int (0 : Int32)), .val (.int (15 : Int32)), .val (.int (p1.toInt8.toInt32)), .val (.int (5 : Int32))] [(.int (39 : Int32))])) _
              refine XS.iload X0.here hx rfl (hb hby d11_17) rfl ?_
              exact kt)
            by_cases hc19_6 : (39 : Int32) = (p1.toInt8.toInt32)
            · obtain ⟨fs, hr, hrun, hended, hW, hsame⟩ := X0.leave (v := some (.int (5 : Int32))) (fun h => by rw [Bd.returns] at h; cases h)
              refine ⟨_, _, pre12 _ ?_, hrun, hended, _, _, rfl, ?_, ⟨_, rfl⟩, hW, hsame.mono (by decide) (by decide)⟩
              · show Steps p.tables e below (s₁.setTop (mkF m 19 #[.val (.ref r0), .val (.int p1), .val (.int (0 : Int32)), .val (.int (15 : Int32)), .val (.int (p1.toInt8.toInt32)), .val (.int (5 : Int32))] [(.int (p1.toInt8.toInt32)), (.int (39 : Int32))])) _
                refine XS.icmpNo X0.here hx rfl (hb hby d11_19) rfl (teq hc19_6).2 ?_
                show Steps p.tables e below (s₁.setTop (mkF m 22 #[.val (.ref r0), .val (.int p1), .val (.int (0 : Int32)), .val (.int (15 : Int32)), .val (.int (p1.toInt8.toInt32)), .val (.int (5 : Int32))] [])) _
                refine XS.iload X0.here hx rfl (hb hby d11_22) rfl ?_
                show Steps p.tables e below (s₁.setTop (mkF m 24 #[.val (.ref r0), .val (.int p1), .val (.int (0 : Int32)), .val (.int (15 : Int32)), .val (.int (p1.toInt8.toInt32)), .val (.int (5 : Int32))] [(.int (5 : Int32))])) _
                exact retI X0 hx Bd.returns (hb hby d11_24) hr
              · show Q11 Z r0 p1 kb h0 n0 _ s₁.heap _
                rw [e0]
                exact ⟨(by unfold F11; simp only [if_neg hc19, if_neg hc19_2, if_neg hc19_3, if_neg hc19_4, if_neg hc19_5, if_pos hc19_6]), N0, rfl⟩
            · obtain ⟨cl13, Ar13, qa13, S13, Nl13, H13, G13⟩ := id V_b
              have hin13 : ¬ ((6 : Int32) < 0 ∨ cl13.slots.size ≤ ((6 : Int32)).toNatClampNeg) := inb_of S13 ⟨by decide, by decide⟩
              have hat13 : cl13.slots[((6 : Int32)).toNatClampNeg]? = some (.int (42 : Int32)) := Has.at H13 hin13 rfl
              have pre14 : ∀ t, Steps p.tables e below (s₁.setTop (mkF m 19 #[.val (.ref r0), .val (.int p1), .val (.int (0 : Int32)), .val (.int (15 : Int32)), .val (.int (p1.toInt8.toInt32)), .val (.int (6 : Int32))] [(.int (p1.toInt8.toInt32)), (.int (42 : Int32))])) t → Steps p.tables e below (s₁.setTop (entryFrame m #[(.ref r0), (.int p1), (.int (0 : Int32)), (.int (15 : Int32))] 6)) t := fun t kt => pre12 t (by
                show Steps p.tables e below (s₁.setTop (mkF m 19 #[.val (.ref r0), .val (.int p1), .val (.int (0 : Int32)), .val (.int (15 : Int32)), .val (.int (p1.toInt8.toInt32)), .val (.int (5 : Int32))] [(.int (p1.toInt8.toInt32)), (.int (39 : Int32))])) _
                refine XS.icmpYes X0.here hx rfl (pc0 := 19) (pc' := 25) rfl (hb hby d11_19) rfl (feq hc19_6).2 (by decide) (by decide) ?_
                show Steps p.tables e below (s₁.setTop (mkF m 25 #[.val (.ref r0), .val (.int p1), .val (.int (0 : Int32)), .val (.int (15 : Int32)), .val (.int (p1.toInt8.toInt32)), .val (.int (5 : Int32))] [])) _
                refine XS.iinc X0.here hx rfl (hb hby d11_25) rfl (l' := #[.val (.ref r0), .val (.int p1), .val (.int (0 : Int32)), .val (.int (15 : Int32)), .val (.int (p1.toInt8.toInt32)), .val (.int (6 : Int32))]) rfl ?_
                show Steps p.tables e below (s₁.setTop (mkF m 28 #[.val (.ref r0), .val (.int p1), .val (.int (0 : Int32)), .val (.int (15 : Int32)), .val (.int (p1.toInt8.toInt32)), .val (.int (6 : Int32))] [])) _
                refine XS.goto X0.here hx rfl (pc0 := 28) (pc' := 7) rfl (hb hby d11_28) (by decide) (by decide) ?_
                show Steps p.tables e below (s₁.setTop (mkF m 7 #[.val (.ref r0), .val (.int p1), .val (.int (0 : Int32)), .val (.int (15 : Int32)), .val (.int (p1.toInt8.toInt32)), .val (.int (6 : Int32))] [])) _
                refine XS.iload X0.here hx rfl (hb hby d11_7) rfl ?_
                show Steps p.tables e below (s₁.setTop (mkF m 9 #[.val (.ref r0), .val (.int p1), .val (.int (0 : Int32)), .val (.int (15 : Int32)), .val (.int (p1.toInt8.toInt32)), .val (.int (6 : Int32))] [(.int (6 : Int32))])) _
                refine XS.iloadN X0.here hx rfl (hb hby d11_9) rfl ?_
                show Steps p.tables e below (s₁.setTop (mkF m 10 #[.val (.ref r0), .val (.int p1), .val (.int (0 : Int32)), .val (.int (15 : Int32)), .val (.int (p1.toInt8.toInt32)), .val (.int (6 : Int32))] [(.int (15 : Int32)), (.int (6 : Int32))])) _
                refine XS.icmpNo X0.here hx rfl (hb hby d11_10) rfl (tlt (by decide : (6 : Int32) < (15 : Int32))).2.1 ?_
                show Steps p.tables e below (s₁.setTop (mkF m 13 #[.val (.ref r0), .val (.int p1), .val (.int (0 : Int32)), .val (.int (15 : Int32)), .val (.int (p1.toInt8.toInt32)), .val (.int (6 : Int32))] [])) _
                refine XS.aloadN X0.here hx rfl (hb hby d11_13) rfl rfl ?_
                show Steps p.tables e below (s₁.setTop (mkF m 14 #[.val (.ref r0), .val (.int p1), .val (.int (0 : Int32)), .val (.int (15 : Int32)), .val (.int (p1.toInt8.toInt32)), .val (.int (6 : Int32))] [(.ref r0)])) _
                refine XS.iload X0.here hx rfl (hb hby d11_14) rfl ?_
                show Steps p.tables e below (s₁.setTop (mkF m 16 #[.val (.ref r0), .val (.int p1), .val (.int (0 : Int32)), .val (.int (15 : Int32)), .val (.int (p1.toInt8.toInt32)), .val (.int (6 : Int32))] [(.int (6 : Int32)), (.ref r0)])) _
                refine X0.baloadBytes hx (j := (6 : Int32)) (v := (.int (42 : Int32))) (by rw [e0]; exact Ar13.1) (State.isArrayOf_alike hZ.alike Ar13.2.1) Ar13.2.2 hin13 hat13 (g := (mkF m 16 #[.val (.ref r0), .val (.int p1), .val (.int (0 : Int32)), .val (.int (15 : Int32)), .val (.int (p1.toInt8.toInt32)), .val (.int (6 : Int32))] [(.int (6 : Int32)), (.ref r0)])) rfl rfl (hb hby d11_16) _ ?_
                show Steps p.tables e below (s₁.setTop (mkF m 17 #[.val (.ref r0), .val (.int p1), .val (.int (0 : Int32)), .val (.int (15 : Int32)), .val (.int (p1.toInt8.toInt32)), .val (.int (6 : Int32))] [(.int (42 : Int32))])) _
                refine XS.iload X0.here hx rfl (hb hby d11_17) rfl ?_
                exact kt)
              by_cases hc19_7 : (42 : Int32) = (p1.toInt8.toInt32)
              · obtain ⟨fs, hr, hrun, hended, hW, hsame⟩ := X0.leave (v := some (.int (6 : Int32))) (fun h => by rw [Bd.returns] at h; cases h)
                refine ⟨_, _, pre14 _ ?_, hrun, hended, _, _, rfl, ?_, ⟨_, rfl⟩, hW, hsame.mono (by decide) (by decide)⟩
                · show Steps p.tables e below (s₁.setTop (mkF m 19 #[.val (.ref r0), .val (.int p1), .val (.int (0 : Int32)), .val (.int (15 : Int32)), .val (.int (p1.toInt8.toInt32)), .val (.int (6 : Int32))] [(.int (p1.toInt8.toInt32)), (.int (42 : Int32))])) _
                  refine XS.icmpNo X0.here hx rfl (hb hby d11_19) rfl (teq hc19_7).2 ?_
                  show Steps p.tables e below (s₁.setTop (mkF m 22 #[.val (.ref r0), .val (.int p1), .val (.int (0 : Int32)), .val (.int (15 : Int32)), .val (.int (p1.toInt8.toInt32)), .val (.int (6 : Int32))] [])) _
                  refine XS.iload X0.here hx rfl (hb hby d11_22) rfl ?_
                  show Steps p.tables e below (s₁.setTop (mkF m 24 #[.val (.ref r0), .val (.int p1), .val (.int (0 : Int32)), .val (.int (15 : Int32)), .val (.int (p1.toInt8.toInt32)), .val (.int (6 : Int32))] [(.int (6 : Int32))])) _
                  exact retI X0 hx Bd.returns (hb hby d11_24) hr
                · show Q11 Z r0 p1 kb h0 n0 _ s₁.heap _
                  rw [e0]
                  exact ⟨(by unfold F11; simp only [if_neg hc19, if_neg hc19_2, if_neg hc19_3, if_neg hc19_4, if_neg hc19_5, if_neg hc19_6, if_pos hc19_7]), N0, rfl⟩
              · obtain ⟨cl15, Ar15, qa15, S15, Nl15, H15, G15⟩ := id V_b
                have hin15 : ¬ ((7 : Int32) < 0 ∨ cl15.slots.size ≤ ((7 : Int32)).toNatClampNeg) := inb_of S15 ⟨by decide, by decide⟩
                have hat15 : cl15.slots[((7 : Int32)).toNatClampNeg]? = some (.int (43 : Int32)) := Has.at H15 hin15 rfl
                have pre16 : ∀ t, Steps p.tables e below (s₁.setTop (mkF m 19 #[.val (.ref r0), .val (.int p1), .val (.int (0 : Int32)), .val (.int (15 : Int32)), .val (.int (p1.toInt8.toInt32)), .val (.int (7 : Int32))] [(.int (p1.toInt8.toInt32)), (.int (43 : Int32))])) t → Steps p.tables e below (s₁.setTop (entryFrame m #[(.ref r0), (.int p1), (.int (0 : Int32)), (.int (15 : Int32))] 6)) t := fun t kt => pre14 t (by
                  show Steps p.tables e below (s₁.setTop (mkF m 19 #[.val (.ref r0), .val (.int p1), .val (.int (0 : Int32)), .val (.int (15 : Int32)), .val (.int (p1.toInt8.toInt32)), .val (.int (6 : Int32))] [(.int (p1.toInt8.toInt32)), (.int (42 : Int32))])) _
                  refine XS.icmpYes X0.here hx rfl (pc0 := 19) (pc' := 25) rfl (hb hby d11_19) rfl (feq hc19_7).2 (by decide) (by decide) ?_
                  show Steps p.tables e below (s₁.setTop (mkF m 25 #[.val (.ref r0), .val (.int p1), .val (.int (0 : Int32)), .val (.int (15 : Int32)), .val (.int (p1.toInt8.toInt32)), .val (.int (6 : Int32))] [])) _
                  refine XS.iinc X0.here hx rfl (hb hby d11_25) rfl (l' := #[.val (.ref r0), .val (.int p1), .val (.int (0 : Int32)), .val (.int (15 : Int32)), .val (.int (p1.toInt8.toInt32)), .val (.int (7 : Int32))]) rfl ?_
                  show Steps p.tables e below (s₁.setTop (mkF m 28 #[.val (.ref r0), .val (.int p1), .val (.int (0 : Int32)), .val (.int (15 : Int32)), .val (.int (p1.toInt8.toInt32)), .val (.int (7 : Int32))] [])) _
                  refine XS.goto X0.here hx rfl (pc0 := 28) (pc' := 7) rfl (hb hby d11_28) (by decide) (by decide) ?_
                  show Steps p.tables e below (s₁.setTop (mkF m 7 #[.val (.ref r0), .val (.int p1), .val (.int (0 : Int32)), .val (.int (15 : Int32)), .val (.int (p1.toInt8.toInt32)), .val (.int (7 : Int32))] [])) _
                  refine XS.iload X0.here hx rfl (hb hby d11_7) rfl ?_
                  show Steps p.tables e below (s₁.setTop (mkF m 9 #[.val (.ref r0), .val (.int p1), .val (.int (0 : Int32)), .val (.int (15 : Int32)), .val (.int (p1.toInt8.toInt32)), .val (.int (7 : Int32))] [(.int (7 : Int32))])) _
                  refine XS.iloadN X0.here hx rfl (hb hby d11_9) rfl ?_
                  show Steps p.tables e below (s₁.setTop (mkF m 10 #[.val (.ref r0), .val (.int p1), .val (.int (0 : Int32)), .val (.int (15 : Int32)), .val (.int (p1.toInt8.toInt32)), .val (.int (7 : Int32))] [(.int (15 : Int32)), (.int (7 : Int32))])) _
                  refine XS.icmpNo X0.here hx rfl (hb hby d11_10) rfl (tlt (by decide : (7 : Int32) < (15 : Int32))).2.1 ?_
                  show Steps p.tables e below (s₁.setTop (mkF m 13 #[.val (.ref r0), .val (.int p1), .val (.int (0 : Int32)), .val (.int (15 : Int32)), .val (.int (p1.toInt8.toInt32)), .val (.int (7 : Int32))] [])) _
                  refine XS.aloadN X0.here hx rfl (hb hby d11_13) rfl rfl ?_
                  show Steps p.tables e below (s₁.setTop (mkF m 14 #[.val (.ref r0), .val (.int p1), .val (.int (0 : Int32)), .val (.int (15 : Int32)), .val (.int (p1.toInt8.toInt32)), .val (.int (7 : Int32))] [(.ref r0)])) _
                  refine XS.iload X0.here hx rfl (hb hby d11_14) rfl ?_
                  show Steps p.tables e below (s₁.setTop (mkF m 16 #[.val (.ref r0), .val (.int p1), .val (.int (0 : Int32)), .val (.int (15 : Int32)), .val (.int (p1.toInt8.toInt32)), .val (.int (7 : Int32))] [(.int (7 : Int32)), (.ref r0)])) _
                  refine X0.baloadBytes hx (j := (7 : Int32)) (v := (.int (43 : Int32))) (by rw [e0]; exact Ar15.1) (State.isArrayOf_alike hZ.alike Ar15.2.1) Ar15.2.2 hin15 hat15 (g := (mkF m 16 #[.val (.ref r0), .val (.int p1), .val (.int (0 : Int32)), .val (.int (15 : Int32)), .val (.int (p1.toInt8.toInt32)), .val (.int (7 : Int32))] [(.int (7 : Int32)), (.ref r0)])) rfl rfl (hb hby d11_16) _ ?_
                  show Steps p.tables e below (s₁.setTop (mkF m 17 #[.val (.ref r0), .val (.int p1), .val (.int (0 : Int32)), .val (.int (15 : Int32)), .val (.int (p1.toInt8.toInt32)), .val (.int (7 : Int32))] [(.int (43 : Int32))])) _
                  refine XS.iload X0.here hx rfl (hb hby d11_17) rfl ?_
                  exact kt)
                by_cases hc19_8 : (43 : Int32) = (p1.toInt8.toInt32)
                · obtain ⟨fs, hr, hrun, hended, hW, hsame⟩ := X0.leave (v := some (.int (7 : Int32))) (fun h => by rw [Bd.returns] at h; cases h)
                  refine ⟨_, _, pre16 _ ?_, hrun, hended, _, _, rfl, ?_, ⟨_, rfl⟩, hW, hsame.mono (by decide) (by decide)⟩
                  · show Steps p.tables e below (s₁.setTop (mkF m 19 #[.val (.ref r0), .val (.int p1), .val (.int (0 : Int32)), .val (.int (15 : Int32)), .val (.int (p1.toInt8.toInt32)), .val (.int (7 : Int32))] [(.int (p1.toInt8.toInt32)), (.int (43 : Int32))])) _
                    refine XS.icmpNo X0.here hx rfl (hb hby d11_19) rfl (teq hc19_8).2 ?_
                    show Steps p.tables e below (s₁.setTop (mkF m 22 #[.val (.ref r0), .val (.int p1), .val (.int (0 : Int32)), .val (.int (15 : Int32)), .val (.int (p1.toInt8.toInt32)), .val (.int (7 : Int32))] [])) _
                    refine XS.iload X0.here hx rfl (hb hby d11_22) rfl ?_
                    show Steps p.tables e below (s₁.setTop (mkF m 24 #[.val (.ref r0), .val (.int p1), .val (.int (0 : Int32)), .val (.int (15 : Int32)), .val (.int (p1.toInt8.toInt32)), .val (.int (7 : Int32))] [(.int (7 : Int32))])) _
                    exact retI X0 hx Bd.returns (hb hby d11_24) hr
                  · show Q11 Z r0 p1 kb h0 n0 _ s₁.heap _
                    rw [e0]
                    exact ⟨(by unfold F11; simp only [if_neg hc19, if_neg hc19_2, if_neg hc19_3, if_neg hc19_4, if_neg hc19_5, if_neg hc19_6, if_neg hc19_7, if_pos hc19_8]), N0, rfl⟩
                · obtain ⟨cl17, Ar17, qa17, S17, Nl17, H17, G17⟩ := id V_b
                  have hin17 : ¬ ((8 : Int32) < 0 ∨ cl17.slots.size ≤ ((8 : Int32)).toNatClampNeg) := inb_of S17 ⟨by decide, by decide⟩
                  have hat17 : cl17.slots[((8 : Int32)).toNatClampNeg]? = some (.int (45 : Int32)) := Has.at H17 hin17 rfl
                  have pre18 : ∀ t, Steps p.tables e below (s₁.setTop (mkF m 19 #[.val (.ref r0), .val (.int p1), .val (.int (0 : Int32)), .val (.int (15 : Int32)), .val (.int (p1.toInt8.toInt32)), .val (.int (8 : Int32))] [(.int (p1.toInt8.toInt32)), (.int (45 : Int32))])) t → Steps p.tables e below (s₁.setTop (entryFrame m #[(.ref r0), (.int p1), (.int (0 : Int32)), (.int (15 : Int32))] 6)) t := fun t kt => pre16 t (by
                    show Steps p.tables e below (s₁.setTop (mkF m 19 #[.val (.ref r0), .val (.int p1), .val (.int (0 : Int32)), .val (.int (15 : Int32)), .val (.int (p1.toInt8.toInt32)), .val (.int (7 : Int32))] [(.int (p1.toInt8.toInt32)), (.int (43 : Int32))])) _
                    refine XS.icmpYes X0.here hx rfl (pc0 := 19) (pc' := 25) rfl (hb hby d11_19) rfl (feq hc19_8).2 (by decide) (by decide) ?_
                    show Steps p.tables e below (s₁.setTop (mkF m 25 #[.val (.ref r0), .val (.int p1), .val (.int (0 : Int32)), .val (.int (15 : Int32)), .val (.int (p1.toInt8.toInt32)), .val (.int (7 : Int32))] [])) _
                    refine XS.iinc X0.here hx rfl (hb hby d11_25) rfl (l' := #[.val (.ref r0), .val (.int p1), .val (.int (0 : Int32)), .val (.int (15 : Int32)), .val (.int (p1.toInt8.toInt32)), .val (.int (8 : Int32))]) rfl ?_
                    show Steps p.tables e below (s₁.setTop (mkF m 28 #[.val (.ref r0), .val (.int p1), .val (.int (0 : Int32)), .val (.int (15 : Int32)), .val (.int (p1.toInt8.toInt32)), .val (.int (8 : Int32))] [])) _
                    refine XS.goto X0.here hx rfl (pc0 := 28) (pc' := 7) rfl (hb hby d11_28) (by decide) (by decide) ?_
                    show Steps p.tables e below (s₁.setTop (mkF m 7 #[.val (.ref r0), .val (.int p1), .val (.int (0 : Int32)), .val (.int (15 : Int32)), .val (.int (p1.toInt8.toInt32)), .val (.int (8 : Int32))] [])) _
                    refine XS.iload X0.here hx rfl (hb hby d11_7) rfl ?_
                    show Steps p.tables e below (s₁.setTop (mkF m 9 #[.val (.ref r0), .val (.int p1), .val (.int (0 : Int32)), .val (.int (15 : Int32)), .val (.int (p1.toInt8.toInt32)), .val (.int (8 : Int32))] [(.int (8 : Int32))])) _
                    refine XS.iloadN X0.here hx rfl (hb hby d11_9) rfl ?_
                    show Steps p.tables e below (s₁.setTop (mkF m 10 #[.val (.ref r0), .val (.int p1), .val (.int (0 : Int32)), .val (.int (15 : Int32)), .val (.int (p1.toInt8.toInt32)), .val (.int (8 : Int32))] [(.int (15 : Int32)), (.int (8 : Int32))])) _
                    refine XS.icmpNo X0.here hx rfl (hb hby d11_10) rfl (tlt (by decide : (8 : Int32) < (15 : Int32))).2.1 ?_
                    show Steps p.tables e below (s₁.setTop (mkF m 13 #[.val (.ref r0), .val (.int p1), .val (.int (0 : Int32)), .val (.int (15 : Int32)), .val (.int (p1.toInt8.toInt32)), .val (.int (8 : Int32))] [])) _
                    refine XS.aloadN X0.here hx rfl (hb hby d11_13) rfl rfl ?_
                    show Steps p.tables e below (s₁.setTop (mkF m 14 #[.val (.ref r0), .val (.int p1), .val (.int (0 : Int32)), .val (.int (15 : Int32)), .val (.int (p1.toInt8.toInt32)), .val (.int (8 : Int32))] [(.ref r0)])) _
                    refine XS.iload X0.here hx rfl (hb hby d11_14) rfl ?_
                    show Steps p.tables e below (s₁.setTop (mkF m 16 #[.val (.ref r0), .val (.int p1), .val (.int (0 : Int32)), .val (.int (15 : Int32)), .val (.int (p1.toInt8.toInt32)), .val (.int (8 : Int32))] [(.int (8 : Int32)), (.ref r0)])) _
                    refine X0.baloadBytes hx (j := (8 : Int32)) (v := (.int (45 : Int32))) (by rw [e0]; exact Ar17.1) (State.isArrayOf_alike hZ.alike Ar17.2.1) Ar17.2.2 hin17 hat17 (g := (mkF m 16 #[.val (.ref r0), .val (.int p1), .val (.int (0 : Int32)), .val (.int (15 : Int32)), .val (.int (p1.toInt8.toInt32)), .val (.int (8 : Int32))] [(.int (8 : Int32)), (.ref r0)])) rfl rfl (hb hby d11_16) _ ?_
                    show Steps p.tables e below (s₁.setTop (mkF m 17 #[.val (.ref r0), .val (.int p1), .val (.int (0 : Int32)), .val (.int (15 : Int32)), .val (.int (p1.toInt8.toInt32)), .val (.int (8 : Int32))] [(.int (45 : Int32))])) _
                    refine XS.iload X0.here hx rfl (hb hby d11_17) rfl ?_
                    exact kt)
                  by_cases hc19_9 : (45 : Int32) = (p1.toInt8.toInt32)
                  · obtain ⟨fs, hr, hrun, hended, hW, hsame⟩ := X0.leave (v := some (.int (8 : Int32))) (fun h => by rw [Bd.returns] at h; cases h)
                    refine ⟨_, _, pre18 _ ?_, hrun, hended, _, _, rfl, ?_, ⟨_, rfl⟩, hW, hsame.mono (by decide) (by decide)⟩
                    · show Steps p.tables e below (s₁.setTop (mkF m 19 #[.val (.ref r0), .val (.int p1), .val (.int (0 : Int32)), .val (.int (15 : Int32)), .val (.int (p1.toInt8.toInt32)), .val (.int (8 : Int32))] [(.int (p1.toInt8.toInt32)), (.int (45 : Int32))])) _
                      refine XS.icmpNo X0.here hx rfl (hb hby d11_19) rfl (teq hc19_9).2 ?_
                      show Steps p.tables e below (s₁.setTop (mkF m 22 #[.val (.ref r0), .val (.int p1), .val (.int (0 : Int32)), .val (.int (15 : Int32)), .val (.int (p1.toInt8.toInt32)), .val (.int (8 : Int32))] [])) _
                      refine XS.iload X0.here hx rfl (hb hby d11_22) rfl ?_
                      show Steps p.tables e below (s₁.setTop (mkF m 24 #[.val (.ref r0), .val (.int p1), .val (.int (0 : Int32)), .val (.int (15 : Int32)), .val (.int (p1.toInt8.toInt32)), .val (.int (8 : Int32))] [(.int (8 : Int32))])) _
                      exact retI X0 hx Bd.returns (hb hby d11_24) hr
                    · show Q11 Z r0 p1 kb h0 n0 _ s₁.heap _
                      rw [e0]
                      exact ⟨(by unfold F11; simp only [if_neg hc19, if_neg hc19_2, if_neg hc19_3, if_neg hc19_4, if_neg hc19_5, if_neg hc19_6, if_neg hc19_7, if_neg hc19_8, if_pos hc19_9]), N0, rfl⟩
                  · obtain ⟨cl19, Ar19, qa19, S19, Nl19, H19, G19⟩ := id V_b
                    have hin19 : ¬ ((9 : Int32) < 0 ∨ cl19.slots.size ≤ ((9 : Int32)).toNatClampNeg) := inb_of S19 ⟨by decide, by decide⟩
                    have hat19 : cl19.slots[((9 : Int32)).toNatClampNeg]? = some (.int (46 : Int32)) := Has.at H19 hin19 rfl
                    have pre20 : ∀ t, Steps p.tables e below (s₁.setTop (mkF m 19 #[.val (.ref r0), .val (.int p1), .val (.int (0 : Int32)), .val (.int (15 : Int32)), .val (.int (p1.toInt8.toInt32)), .val (.int (9 : Int32))] [(.int (p1.toInt8.toInt32)), (.int (46 : Int32))])) t → Steps p.tables e below (s₁.setTop (entryFrame m #[(.ref r0), (.int p1), (.int (0 : Int32)), (.int (15 : Int32))] 6)) t := fun t kt => pre18 t (by
                      show Steps p.tables e below (s₁.setTop (mkF m 19 #[.val (.ref r0), .val (.int p1), .val (.int (0 : Int32)), .val (.int (15 : Int32)), .val (.int (p1.toInt8.toInt32)), .val (.int (8 : Int32))] [(.int (p1.toInt8.toInt32)), (.int (45 : Int32))])) _
                      refine XS.icmpYes X0.here hx rfl (pc0 := 19) (pc' := 25) rfl (hb hby d11_19) rfl (feq hc19_9).2 (by decide) (by decide) ?_
                      show Steps p.tables e below (s₁.setTop (mkF m 25 #[.val (.ref r0), .val (.int p1), .val (.int (0 : Int32)), .val (.int (15 : Int32)), .val (.int (p1.toInt8.toInt32)), .val (.int (8 : Int32))] [])) _
                      refine XS.iinc X0.here hx rfl (hb hby d11_25) rfl (l' := #[.val (.ref r0), .val (.int p1), .val (.int (0 : Int32)), .val (.int (15 : Int32)), .val (.int (p1.toInt8.toInt32)), .val (.int (9 : Int32))]) rfl ?_
                      show Steps p.tables e below (s₁.setTop (mkF m 28 #[.val (.ref r0), .val (.int p1), .val (.int (0 : Int32)), .val (.int (15 : Int32)), .val (.int (p1.toInt8.toInt32)), .val (.int (9 : Int32))] [])) _
                      refine XS.goto X0.here hx rfl (pc0 := 28) (pc' := 7) rfl (hb hby d11_28) (by decide) (by decide) ?_
                      show Steps p.tables e below (s₁.setTop (mkF m 7 #[.val (.ref r0), .val (.int p1), .val (.int (0 : Int32)), .val (.int (15 : Int32)), .val (.int (p1.toInt8.toInt32)), .val (.int (9 : Int32))] [])) _
                      refine XS.iload X0.here hx rfl (hb hby d11_7) rfl ?_
                      show Steps p.tables e below (s₁.setTop (mkF m 9 #[.val (.ref r0), .val (.int p1), .val (.int (0 : Int32)), .val (.int (15 : Int32)), .val (.int (p1.toInt8.toInt32)), .val (.int (9 : Int32))] [(.int (9 : Int32))])) _
                      refine XS.iloadN X0.here hx rfl (hb hby d11_9) rfl ?_
                      show Steps p.tables e below (s₁.setTop (mkF m 10 #[.val (.ref r0), .val (.int p1), .val (.int (0 : Int32)), .val (.int (15 : Int32)), .val (.int (p1.toInt8.toInt32)), .val (.int (9 : Int32))] [(.int (15 : Int32)), (.int (9 : Int32))])) _
                      refine XS.icmpNo X0.here hx rfl (hb hby d11_10) rfl (tlt (by decide : (9 : Int32) < (15 : Int32))).2.1 ?_
                      show Steps p.tables e below (s₁.setTop (mkF m 13 #[.val (.ref r0), .val (.int p1), .val (.int (0 : Int32)), .val (.int (15 : Int32)), .val (.int (p1.toInt8.toInt32)), .val (.int (9 : Int32))] [])) _
                      refine XS.aloadN X0.here hx rfl (hb hby d11_13) rfl rfl ?_
                      show Steps p.tables e below (s₁.setTop (mkF m 14 #[.val (.ref r0), .val (.int p1), .val (.int (0 : Int32)), .val (.int (15 : Int32)), .val (.int (p1.toInt8.toInt32)), .val (.int (9 : Int32))] [(.ref r0)])) _
                      refine XS.iload X0.here hx rfl (hb hby d11_14) rfl ?_
                      show Steps p.tables e below (s₁.setTop (mkF m 16 #[.val (.ref r0), .val (.int p1), .val (.int (0 : Int32)), .val (.int (15 : Int32)), .val (.int (p1.toInt8.toInt32)), .val (.int (9 : Int32))] [(.int (9 : Int32)), (.ref r0)])) _
                      refine X0.baloadBytes hx (j := (9 : Int32)) (v := (.int (46 : Int32))) (by rw [e0]; exact Ar19.1) (State.isArrayOf_alike hZ.alike Ar19.2.1) Ar19.2.2 hin19 hat19 (g := (mkF m 16 #[.val (.ref r0), .val (.int p1), .val (.int (0 : Int32)), .val (.int (15 : Int32)), .val (.int (p1.toInt8.toInt32)), .val (.int (9 : Int32))] [(.int (9 : Int32)), (.ref r0)])) rfl rfl (hb hby d11_16) _ ?_
                      show Steps p.tables e below (s₁.setTop (mkF m 17 #[.val (.ref r0), .val (.int p1), .val (.int (0 : Int32)), .val (.int (15 : Int32)), .val (.int (p1.toInt8.toInt32)), .val (.int (9 : Int32))] [(.int (46 : Int32))])) _
                      refine XS.iload X0.here hx rfl (hb hby d11_17) rfl ?_
                      exact kt)
                    by_cases hc19_10 : (46 : Int32) = (p1.toInt8.toInt32)
                    · obtain ⟨fs, hr, hrun, hended, hW, hsame⟩ := X0.leave (v := some (.int (9 : Int32))) (fun h => by rw [Bd.returns] at h; cases h)
                      refine ⟨_, _, pre20 _ ?_, hrun, hended, _, _, rfl, ?_, ⟨_, rfl⟩, hW, hsame.mono (by decide) (by decide)⟩
                      · show Steps p.tables e below (s₁.setTop (mkF m 19 #[.val (.ref r0), .val (.int p1), .val (.int (0 : Int32)), .val (.int (15 : Int32)), .val (.int (p1.toInt8.toInt32)), .val (.int (9 : Int32))] [(.int (p1.toInt8.toInt32)), (.int (46 : Int32))])) _
                        refine XS.icmpNo X0.here hx rfl (hb hby d11_19) rfl (teq hc19_10).2 ?_
                        show Steps p.tables e below (s₁.setTop (mkF m 22 #[.val (.ref r0), .val (.int p1), .val (.int (0 : Int32)), .val (.int (15 : Int32)), .val (.int (p1.toInt8.toInt32)), .val (.int (9 : Int32))] [])) _
                        refine XS.iload X0.here hx rfl (hb hby d11_22) rfl ?_
                        show Steps p.tables e below (s₁.setTop (mkF m 24 #[.val (.ref r0), .val (.int p1), .val (.int (0 : Int32)), .val (.int (15 : Int32)), .val (.int (p1.toInt8.toInt32)), .val (.int (9 : Int32))] [(.int (9 : Int32))])) _
                        exact retI X0 hx Bd.returns (hb hby d11_24) hr
                      · show Q11 Z r0 p1 kb h0 n0 _ s₁.heap _
                        rw [e0]
                        exact ⟨(by unfold F11; simp only [if_neg hc19, if_neg hc19_2, if_neg hc19_3, if_neg hc19_4, if_neg hc19_5, if_neg hc19_6, if_neg hc19_7, if_neg hc19_8, if_neg hc19_9, if_pos hc19_10]), N0, rfl⟩
                    · obtain ⟨cl21, Ar21, qa21, S21, Nl21, H21, G21⟩ := id V_b
                      have hin21 : ¬ ((10 : Int32) < 0 ∨ cl21.slots.size ≤ ((10 : Int32)).toNatClampNeg) := inb_of S21 ⟨by decide, by decide⟩
                      have hat21 : cl21.slots[((10 : Int32)).toNatClampNeg]? = some (.int (94 : Int32)) := Has.at H21 hin21 rfl
                      have pre22 : ∀ t, Steps p.tables e below (s₁.setTop (mkF m 19 #[.val (.ref r0), .val (.int p1), .val (.int (0 : Int32)), .val (.int (15 : Int32)), .val (.int (p1.toInt8.toInt32)), .val (.int (10 : Int32))] [(.int (p1.toInt8.toInt32)), (.int (94 : Int32))])) t → Steps p.tables e below (s₁.setTop (entryFrame m #[(.ref r0), (.int p1), (.int (0 : Int32)), (.int (15 : Int32))] 6)) t := fun t kt => pre20 t (by
                        show Steps p.tables e below (s₁.setTop (mkF m 19 #[.val (.ref r0), .val (.int p1), .val (.int (0 : Int32)), .val (.int (15 : Int32)), .val (.int (p1.toInt8.toInt32)), .val (.int (9 : Int32))] [(.int (p1.toInt8.toInt32)), (.int (46 : Int32))])) _
                        refine XS.icmpYes X0.here hx rfl (pc0 := 19) (pc' := 25) rfl (hb hby d11_19) rfl (feq hc19_10).2 (by decide) (by decide) ?_
                        show Steps p.tables e below (s₁.setTop (mkF m 25 #[.val (.ref r0), .val (.int p1), .val (.int (0 : Int32)), .val (.int (15 : Int32)), .val (.int (p1.toInt8.toInt32)), .val (.int (9 : Int32))] [])) _
                        refine XS.iinc X0.here hx rfl (hb hby d11_25) rfl (l' := #[.val (.ref r0), .val (.int p1), .val (.int (0 : Int32)), .val (.int (15 : Int32)), .val (.int (p1.toInt8.toInt32)), .val (.int (10 : Int32))]) rfl ?_
                        show Steps p.tables e below (s₁.setTop (mkF m 28 #[.val (.ref r0), .val (.int p1), .val (.int (0 : Int32)), .val (.int (15 : Int32)), .val (.int (p1.toInt8.toInt32)), .val (.int (10 : Int32))] [])) _
                        refine XS.goto X0.here hx rfl (pc0 := 28) (pc' := 7) rfl (hb hby d11_28) (by decide) (by decide) ?_
                        show Steps p.tables e below (s₁.setTop (mkF m 7 #[.val (.ref r0), .val (.int p1), .val (.int (0 : Int32)), .val (.int (15 : Int32)), .val (.int (p1.toInt8.toInt32)), .val (.int (10 : Int32))] [])) _
                        refine XS.iload X0.here hx rfl (hb hby d11_7) rfl ?_
                        show Steps p.tables e below (s₁.setTop (mkF m 9 #[.val (.ref r0), .val (.int p1), .val (.int (0 : Int32)), .val (.int (15 : Int32)), .val (.int (p1.toInt8.toInt32)), .val (.int (10 : Int32))] [(.int (10 : Int32))])) _
                        refine XS.iloadN X0.here hx rfl (hb hby d11_9) rfl ?_
                        show Steps p.tables e below (s₁.setTop (mkF m 10 #[.val (.ref r0), .val (.int p1), .val (.int (0 : Int32)), .val (.int (15 : Int32)), .val (.int (p1.toInt8.toInt32)), .val (.int (10 : Int32))] [(.int (15 : Int32)), (.int (10 : Int32))])) _
                        refine XS.icmpNo X0.here hx rfl (hb hby d11_10) rfl (tlt (by decide : (10 : Int32) < (15 : Int32))).2.1 ?_
                        show Steps p.tables e below (s₁.setTop (mkF m 13 #[.val (.ref r0), .val (.int p1), .val (.int (0 : Int32)), .val (.int (15 : Int32)), .val (.int (p1.toInt8.toInt32)), .val (.int (10 : Int32))] [])) _
                        refine XS.aloadN X0.here hx rfl (hb hby d11_13) rfl rfl ?_
                        show Steps p.tables e below (s₁.setTop (mkF m 14 #[.val (.ref r0), .val (.int p1), .val (.int (0 : Int32)), .val (.int (15 : Int32)), .val (.int (p1.toInt8.toInt32)), .val (.int (10 : Int32))] [(.ref r0)])) _
                        refine XS.iload X0.here hx rfl (hb hby d11_14) rfl ?_
                        show Steps p.tables e below (s₁.setTop (mkF m 16 #[.val (.ref r0), .val (.int p1), .val (.int (0 : Int32)), .val (.int (15 : Int32)), .val (.int (p1.toInt8.toInt32)), .val (.int (10 : Int32))] [(.int (10 : Int32)), (.ref r0)])) _
                        refine X0.baloadBytes hx (j := (10 : Int32)) (v := (.int (94 : Int32))) (by rw [e0]; exact Ar21.1) (State.isArrayOf_alike hZ.alike Ar21.2.1) Ar21.2.2 hin21 hat21 (g := (mkF m 16 #[.val (.ref r0), .val (.int p1), .val (.int (0 : Int32)), .val (.int (15 : Int32)), .val (.int (p1.toInt8.toInt32)), .val (.int (10 : Int32))] [(.int (10 : Int32)), (.ref r0)])) rfl rfl (hb hby d11_16) _ ?_
                        show Steps p.tables e below (s₁.setTop (mkF m 17 #[.val (.ref r0), .val (.int p1), .val (.int (0 : Int32)), .val (.int (15 : Int32)), .val (.int (p1.toInt8.toInt32)), .val (.int (10 : Int32))] [(.int (94 : Int32))])) _
                        refine XS.iload X0.here hx rfl (hb hby d11_17) rfl ?_
                        exact kt)
                      by_cases hc19_11 : (94 : Int32) = (p1.toInt8.toInt32)
                      · obtain ⟨fs, hr, hrun, hended, hW, hsame⟩ := X0.leave (v := some (.int (10 : Int32))) (fun h => by rw [Bd.returns] at h; cases h)
                        refine ⟨_, _, pre22 _ ?_, hrun, hended, _, _, rfl, ?_, ⟨_, rfl⟩, hW, hsame.mono (by decide) (by decide)⟩
                        · show Steps p.tables e below (s₁.setTop (mkF m 19 #[.val (.ref r0), .val (.int p1), .val (.int (0 : Int32)), .val (.int (15 : Int32)), .val (.int (p1.toInt8.toInt32)), .val (.int (10 : Int32))] [(.int (p1.toInt8.toInt32)), (.int (94 : Int32))])) _
                          refine XS.icmpNo X0.here hx rfl (hb hby d11_19) rfl (teq hc19_11).2 ?_
                          show Steps p.tables e below (s₁.setTop (mkF m 22 #[.val (.ref r0), .val (.int p1), .val (.int (0 : Int32)), .val (.int (15 : Int32)), .val (.int (p1.toInt8.toInt32)), .val (.int (10 : Int32))] [])) _
                          refine XS.iload X0.here hx rfl (hb hby d11_22) rfl ?_
                          show Steps p.tables e below (s₁.setTop (mkF m 24 #[.val (.ref r0), .val (.int p1), .val (.int (0 : Int32)), .val (.int (15 : Int32)), .val (.int (p1.toInt8.toInt32)), .val (.int (10 : Int32))] [(.int (10 : Int32))])) _
                          exact retI X0 hx Bd.returns (hb hby d11_24) hr
                        · show Q11 Z r0 p1 kb h0 n0 _ s₁.heap _
                          rw [e0]
                          exact ⟨(by unfold F11; simp only [if_neg hc19, if_neg hc19_2, if_neg hc19_3, if_neg hc19_4, if_neg hc19_5, if_neg hc19_6, if_neg hc19_7, if_neg hc19_8, if_neg hc19_9, if_neg hc19_10, if_pos hc19_11]), N0, rfl⟩
                      · obtain ⟨cl23, Ar23, qa23, S23, Nl23, H23, G23⟩ := id V_b
                        have hin23 : ¬ ((11 : Int32) < 0 ∨ cl23.slots.size ≤ ((11 : Int32)).toNatClampNeg) := inb_of S23 ⟨by decide, by decide⟩
                        have hat23 : cl23.slots[((11 : Int32)).toNatClampNeg]? = some (.int (95 : Int32)) := Has.at H23 hin23 rfl
                        have pre24 : ∀ t, Steps p.tables e below (s₁.setTop (mkF m 19 #[.val (.ref r0), .val (.int p1), .val (.int (0 : Int32)), .val (.int (15 : Int32)), .val (.int (p1.toInt8.toInt32)), .val (.int (11 : Int32))] [(.int (p1.toInt8.toInt32)), (.int (95 : Int32))])) t → Steps p.tables e below (s₁.setTop (entryFrame m #[(.ref r0), (.int p1), (.int (0 : Int32)), (.int (15 : Int32))] 6)) t := fun t kt => pre22 t (by
                          show Steps p.tables e below (s₁.setTop (mkF m 19 #[.val (.ref r0), .val (.int p1), .val (.int (0 : Int32)), .val (.int (15 : Int32)), .val (.int (p1.toInt8.toInt32)), .val (.int (10 : Int32))] [(.int (p1.toInt8.toInt32)), (.int (94 : Int32))])) _
                          refine XS.icmpYes X0.here hx rfl (pc0 := 19) (pc' := 25) rfl (hb hby d11_19) rfl (feq hc19_11).2 (by decide) (by decide) ?_
                          show Steps p.tables e below (s₁.setTop (mkF m 25 #[.val (.ref r0), .val (.int p1), .val (.int (0 : Int32)), .val (.int (15 : Int32)), .val (.int (p1.toInt8.toInt32)), .val (.int (10 : Int32))] [])) _
                          refine XS.iinc X0.here hx rfl (hb hby d11_25) rfl (l' := #[.val (.ref r0), .val (.int p1), .val (.int (0 : Int32)), .val (.int (15 : Int32)), .val (.int (p1.toInt8.toInt32)), .val (.int (11 : Int32))]) rfl ?_
                          show Steps p.tables e below (s₁.setTop (mkF m 28 #[.val (.ref r0), .val (.int p1), .val (.int (0 : Int32)), .val (.int (15 : Int32)), .val (.int (p1.toInt8.toInt32)), .val (.int (11 : Int32))] [])) _
                          refine XS.goto X0.here hx rfl (pc0 := 28) (pc' := 7) rfl (hb hby d11_28) (by decide) (by decide) ?_
                          show Steps p.tables e below (s₁.setTop (mkF m 7 #[.val (.ref r0), .val (.int p1), .val (.int (0 : Int32)), .val (.int (15 : Int32)), .val (.int (p1.toInt8.toInt32)), .val (.int (11 : Int32))] [])) _
                          refine XS.iload X0.here hx rfl (hb hby d11_7) rfl ?_
                          show Steps p.tables e below (s₁.setTop (mkF m 9 #[.val (.ref r0), .val (.int p1), .val (.int (0 : Int32)), .val (.int (15 : Int32)), .val (.int (p1.toInt8.toInt32)), .val (.int (11 : Int32))] [(.int (11 : Int32))])) _
                          refine XS.iloadN X0.here hx rfl (hb hby d11_9) rfl ?_
                          show Steps p.tables e below (s₁.setTop (mkF m 10 #[.val (.ref r0), .val (.int p1), .val (.int (0 : Int32)), .val (.int (15 : Int32)), .val (.int (p1.toInt8.toInt32)), .val (.int (11 : Int32))] [(.int (15 : Int32)), (.int (11 : Int32))])) _
                          refine XS.icmpNo X0.here hx rfl (hb hby d11_10) rfl (tlt (by decide : (11 : Int32) < (15 : Int32))).2.1 ?_
                          show Steps p.tables e below (s₁.setTop (mkF m 13 #[.val (.ref r0), .val (.int p1), .val (.int (0 : Int32)), .val (.int (15 : Int32)), .val (.int (p1.toInt8.toInt32)), .val (.int (11 : Int32))] [])) _
                          refine XS.aloadN X0.here hx rfl (hb hby d11_13) rfl rfl ?_
                          show Steps p.tables e below (s₁.setTop (mkF m 14 #[.val (.ref r0), .val (.int p1), .val (.int (0 : Int32)), .val (.int (15 : Int32)), .val (.int (p1.toInt8.toInt32)), .val (.int (11 : Int32))] [(.ref r0)])) _
                          refine XS.iload X0.here hx rfl (hb hby d11_14) rfl ?_
                          show Steps p.tables e below (s₁.setTop (mkF m 16 #[.val (.ref r0), .val (.int p1), .val (.int (0 : Int32)), .val (.int (15 : Int32)), .val (.int (p1.toInt8.toInt32)), .val (.int (11 : Int32))] [(.int (11 : Int32)), (.ref r0)])) _
                          refine X0.baloadBytes hx (j := (11 : Int32)) (v := (.int (95 : Int32))) (by rw [e0]; exact Ar23.1) (State.isArrayOf_alike hZ.alike Ar23.2.1) Ar23.2.2 hin23 hat23 (g := (mkF m 16 #[.val (.ref r0), .val (.int p1), .val (.int (0 : Int32)), .val (.int (15 : Int32)), .val (.int (p1.toInt8.toInt32)), .val (.int (11 : Int32))] [(.int (11 : Int32)), (.ref r0)])) rfl rfl (hb hby d11_16) _ ?_
                          show Steps p.tables e below (s₁.setTop (mkF m 17 #[.val (.ref r0), .val (.int p1), .val (.int (0 : Int32)), .val (.int (15 : Int32)), .val (.int (p1.toInt8.toInt32)), .val (.int (11 : Int32))] [(.int (95 : Int32))])) _
                          refine XS.iload X0.here hx rfl (hb hby d11_17) rfl ?_
                          exact kt)
                        by_cases hc19_12 : (95 : Int32) = (p1.toInt8.toInt32)
                        · obtain ⟨fs, hr, hrun, hended, hW, hsame⟩ := X0.leave (v := some (.int (11 : Int32))) (fun h => by rw [Bd.returns] at h; cases h)
                          refine ⟨_, _, pre24 _ ?_, hrun, hended, _, _, rfl, ?_, ⟨_, rfl⟩, hW, hsame.mono (by decide) (by decide)⟩
                          · show Steps p.tables e below (s₁.setTop (mkF m 19 #[.val (.ref r0), .val (.int p1), .val (.int (0 : Int32)), .val (.int (15 : Int32)), .val (.int (p1.toInt8.toInt32)), .val (.int (11 : Int32))] [(.int (p1.toInt8.toInt32)), (.int (95 : Int32))])) _
                            refine XS.icmpNo X0.here hx rfl (hb hby d11_19) rfl (teq hc19_12).2 ?_
                            show Steps p.tables e below (s₁.setTop (mkF m 22 #[.val (.ref r0), .val (.int p1), .val (.int (0 : Int32)), .val (.int (15 : Int32)), .val (.int (p1.toInt8.toInt32)), .val (.int (11 : Int32))] [])) _
                            refine XS.iload X0.here hx rfl (hb hby d11_22) rfl ?_
                            show Steps p.tables e below (s₁.setTop (mkF m 24 #[.val (.ref r0), .val (.int p1), .val (.int (0 : Int32)), .val (.int (15 : Int32)), .val (.int (p1.toInt8.toInt32)), .val (.int (11 : Int32))] [(.int (11 : Int32))])) _
                            exact retI X0 hx Bd.returns (hb hby d11_24) hr
                          · show Q11 Z r0 p1 kb h0 n0 _ s₁.heap _
                            rw [e0]
                            exact ⟨(by unfold F11; simp only [if_neg hc19, if_neg hc19_2, if_neg hc19_3, if_neg hc19_4, if_neg hc19_5, if_neg hc19_6, if_neg hc19_7, if_neg hc19_8, if_neg hc19_9, if_neg hc19_10, if_neg hc19_11, if_pos hc19_12]), N0, rfl⟩
                        · obtain ⟨cl25, Ar25, qa25, S25, Nl25, H25, G25⟩ := id V_b
                          have hin25 : ¬ ((12 : Int32) < 0 ∨ cl25.slots.size ≤ ((12 : Int32)).toNatClampNeg) := inb_of S25 ⟨by decide, by decide⟩
                          have hat25 : cl25.slots[((12 : Int32)).toNatClampNeg]? = some (.int (96 : Int32)) := Has.at H25 hin25 rfl
                          have pre26 : ∀ t, Steps p.tables e below (s₁.setTop (mkF m 19 #[.val (.ref r0), .val (.int p1), .val (.int (0 : Int32)), .val (.int (15 : Int32)), .val (.int (p1.toInt8.toInt32)), .val (.int (12 : Int32))] [(.int (p1.toInt8.toInt32)), (.int (96 : Int32))])) t → Steps p.tables e below (s₁.setTop (entryFrame m #[(.ref r0), (.int p1), (.int (0 : Int32)), (.int (15 : Int32))] 6)) t := fun t kt => pre24 t (by
                            show Steps p.tables e below (s₁.setTop (mkF m 19 #[.val (.ref r0), .val (.int p1), .val (.int (0 : Int32)), .val (.int (15 : Int32)), .val (.int (p1.toInt8.toInt32)), .val (.int (11 : Int32))] [(.int (p1.toInt8.toInt32)), (.int (95 : Int32))])) _
                            refine XS.icmpYes X0.here hx rfl (pc0 := 19) (pc' := 25) rfl (hb hby d11_19) rfl (feq hc19_12).2 (by decide) (by decide) ?_
                            show Steps p.tables e below (s₁.setTop (mkF m 25 #[.val (.ref r0), .val (.int p1), .val (.int (0 : Int32)), .val (.int (15 : Int32)), .val (.int (p1.toInt8.toInt32)), .val (.int (11 : Int32))] [])) _
                            refine XS.iinc X0.here hx rfl (hb hby d11_25) rfl (l' := #[.val (.ref r0), .val (.int p1), .val (.int (0 : Int32)), .val (.int (15 : Int32)), .val (.int (p1.toInt8.toInt32)), .val (.int (12 : Int32))]) rfl ?_
                            show Steps p.tables e below (s₁.setTop (mkF m 28 #[.val (.ref r0), .val (.int p1), .val (.int (0 : Int32)), .val (.int (15 : Int32)), .val (.int (p1.toInt8.toInt32)), .val (.int (12 : Int32))] [])) _
                            refine XS.goto X0.here hx rfl (pc0 := 28) (pc' := 7) rfl (hb hby d11_28) (by decide) (by decide) ?_
                            show Steps p.tables e below (s₁.setTop (mkF m 7 #[.val (.ref r0), .val (.int p1), .val (.int (0 : Int32)), .val (.int (15 : Int32)), .val (.int (p1.toInt8.toInt32)), .val (.int (12 : Int32))] [])) _
                            refine XS.iload X0.here hx rfl (hb hby d11_7) rfl ?_
                            show Steps p.tables e below (s₁.setTop (mkF m 9 #[.val (.ref r0), .val (.int p1), .val (.int (0 : Int32)), .val (.int (15 : Int32)), .val (.int (p1.toInt8.toInt32)), .val (.int (12 : Int32))] [(.int (12 : Int32))])) _
                            refine XS.iloadN X0.here hx rfl (hb hby d11_9) rfl ?_
                            show Steps p.tables e below (s₁.setTop (mkF m 10 #[.val (.ref r0), .val (.int p1), .val (.int (0 : Int32)), .val (.int (15 : Int32)), .val (.int (p1.toInt8.toInt32)), .val (.int (12 : Int32))] [(.int (15 : Int32)), (.int (12 : Int32))])) _
                            refine XS.icmpNo X0.here hx rfl (hb hby d11_10) rfl (tlt (by decide : (12 : Int32) < (15 : Int32))).2.1 ?_
                            show Steps p.tables e below (s₁.setTop (mkF m 13 #[.val (.ref r0), .val (.int p1), .val (.int (0 : Int32)), .val (.int (15 : Int32)), .val (.int (p1.toInt8.toInt32)), .val (.int (12 : Int32))] [])) _
                            refine XS.aloadN X0.here hx rfl (hb hby d11_13) rfl rfl ?_
                            show Steps p.tables e below (s₁.setTop (mkF m 14 #[.val (.ref r0), .val (.int p1), .val (.int (0 : Int32)), .val (.int (15 : Int32)), .val (.int (p1.toInt8.toInt32)), .val (.int (12 : Int32))] [(.ref r0)])) _
                            refine XS.iload X0.here hx rfl (hb hby d11_14) rfl ?_
                            show Steps p.tables e below (s₁.setTop (mkF m 16 #[.val (.ref r0), .val (.int p1), .val (.int (0 : Int32)), .val (.int (15 : Int32)), .val (.int (p1.toInt8.toInt32)), .val (.int (12 : Int32))] [(.int (12 : Int32)), (.ref r0)])) _
                            refine X0.baloadBytes hx (j := (12 : Int32)) (v := (.int (96 : Int32))) (by rw [e0]; exact Ar25.1) (State.isArrayOf_alike hZ.alike Ar25.2.1) Ar25.2.2 hin25 hat25 (g := (mkF m 16 #[.val (.ref r0), .val (.int p1), .val (.int (0 : Int32)), .val (.int (15 : Int32)), .val (.int (p1.toInt8.toInt32)), .val (.int (12 : Int32))] [(.int (12 : Int32)), (.ref r0)])) rfl rfl (hb hby d11_16) _ ?_
                            show Steps p.tables e below (s₁.setTop (mkF m 17 #[.val (.ref r0), .val (.int p1), .val (.int (0 : Int32)), .val (.int (15 : Int32)), .val (.int (p1.toInt8.toInt32)), .val (.int (12 : Int32))] [(.int (96 : Int32))])) _
                            refine XS.iload X0.here hx rfl (hb hby d11_17) rfl ?_
                            exact kt)
                          by_cases hc19_13 : (96 : Int32) = (p1.toInt8.toInt32)
                          · obtain ⟨fs, hr, hrun, hended, hW, hsame⟩ := X0.leave (v := some (.int (12 : Int32))) (fun h => by rw [Bd.returns] at h; cases h)
                            refine ⟨_, _, pre26 _ ?_, hrun, hended, _, _, rfl, ?_, ⟨_, rfl⟩, hW, hsame.mono (by decide) (by decide)⟩
                            · show Steps p.tables e below (s₁.setTop (mkF m 19 #[.val (.ref r0), .val (.int p1), .val (.int (0 : Int32)), .val (.int (15 : Int32)), .val (.int (p1.toInt8.toInt32)), .val (.int (12 : Int32))] [(.int (p1.toInt8.toInt32)), (.int (96 : Int32))])) _
                              refine XS.icmpNo X0.here hx rfl (hb hby d11_19) rfl (teq hc19_13).2 ?_
                              show Steps p.tables e below (s₁.setTop (mkF m 22 #[.val (.ref r0), .val (.int p1), .val (.int (0 : Int32)), .val (.int (15 : Int32)), .val (.int (p1.toInt8.toInt32)), .val (.int (12 : Int32))] [])) _
                              refine XS.iload X0.here hx rfl (hb hby d11_22) rfl ?_
                              show Steps p.tables e below (s₁.setTop (mkF m 24 #[.val (.ref r0), .val (.int p1), .val (.int (0 : Int32)), .val (.int (15 : Int32)), .val (.int (p1.toInt8.toInt32)), .val (.int (12 : Int32))] [(.int (12 : Int32))])) _
                              exact retI X0 hx Bd.returns (hb hby d11_24) hr
                            · show Q11 Z r0 p1 kb h0 n0 _ s₁.heap _
                              rw [e0]
                              exact ⟨(by unfold F11; simp only [if_neg hc19, if_neg hc19_2, if_neg hc19_3, if_neg hc19_4, if_neg hc19_5, if_neg hc19_6, if_neg hc19_7, if_neg hc19_8, if_neg hc19_9, if_neg hc19_10, if_neg hc19_11, if_neg hc19_12, if_pos hc19_13]), N0, rfl⟩
                          · obtain ⟨cl27, Ar27, qa27, S27, Nl27, H27, G27⟩ := id V_b
                            have hin27 : ¬ ((13 : Int32) < 0 ∨ cl27.slots.size ≤ ((13 : Int32)).toNatClampNeg) := inb_of S27 ⟨by decide, by decide⟩
                            have hat27 : cl27.slots[((13 : Int32)).toNatClampNeg]? = some (.int (124 : Int32)) := Has.at H27 hin27 rfl
                            have pre28 : ∀ t, Steps p.tables e below (s₁.setTop (mkF m 19 #[.val (.ref r0), .val (.int p1), .val (.int (0 : Int32)), .val (.int (15 : Int32)), .val (.int (p1.toInt8.toInt32)), .val (.int (13 : Int32))] [(.int (p1.toInt8.toInt32)), (.int (124 : Int32))])) t → Steps p.tables e below (s₁.setTop (entryFrame m #[(.ref r0), (.int p1), (.int (0 : Int32)), (.int (15 : Int32))] 6)) t := fun t kt => pre26 t (by
                              show Steps p.tables e below (s₁.setTop (mkF m 19 #[.val (.ref r0), .val (.int p1), .val (.int (0 : Int32)), .val (.int (15 : Int32)), .val (.int (p1.toInt8.toInt32)), .val (.int (12 : Int32))] [(.int (p1.toInt8.toInt32)), (.int (96 : Int32))])) _
                              refine XS.icmpYes X0.here hx rfl (pc0 := 19) (pc' := 25) rfl (hb hby d11_19) rfl (feq hc19_13).2 (by decide) (by decide) ?_
                              show Steps p.tables e below (s₁.setTop (mkF m 25 #[.val (.ref r0), .val (.int p1), .val (.int (0 : Int32)), .val (.int (15 : Int32)), .val (.int (p1.toInt8.toInt32)), .val (.int (12 : Int32))] [])) _
                              refine XS.iinc X0.here hx rfl (hb hby d11_25) rfl (l' := #[.val (.ref r0), .val (.int p1), .val (.int (0 : Int32)), .val (.int (15 : Int32)), .val (.int (p1.toInt8.toInt32)), .val (.int (13 : Int32))]) rfl ?_
                              show Steps p.tables e below (s₁.setTop (mkF m 28 #[.val (.ref r0), .val (.int p1), .val (.int (0 : Int32)), .val (.int (15 : Int32)), .val (.int (p1.toInt8.toInt32)), .val (.int (13 : Int32))] [])) _
                              refine XS.goto X0.here hx rfl (pc0 := 28) (pc' := 7) rfl (hb hby d11_28) (by decide) (by decide) ?_
                              show Steps p.tables e below (s₁.setTop (mkF m 7 #[.val (.ref r0), .val (.int p1), .val (.int (0 : Int32)), .val (.int (15 : Int32)), .val (.int (p1.toInt8.toInt32)), .val (.int (13 : Int32))] [])) _
                              refine XS.iload X0.here hx rfl (hb hby d11_7) rfl ?_
                              show Steps p.tables e below (s₁.setTop (mkF m 9 #[.val (.ref r0), .val (.int p1), .val (.int (0 : Int32)), .val (.int (15 : Int32)), .val (.int (p1.toInt8.toInt32)), .val (.int (13 : Int32))] [(.int (13 : Int32))])) _
                              refine XS.iloadN X0.here hx rfl (hb hby d11_9) rfl ?_
                              show Steps p.tables e below (s₁.setTop (mkF m 10 #[.val (.ref r0), .val (.int p1), .val (.int (0 : Int32)), .val (.int (15 : Int32)), .val (.int (p1.toInt8.toInt32)), .val (.int (13 : Int32))] [(.int (15 : Int32)), (.int (13 : Int32))])) _
                              refine XS.icmpNo X0.here hx rfl (hb hby d11_10) rfl (tlt (by decide : (13 : Int32) < (15 : Int32))).2.1 ?_
                              show Steps p.tables e below (s₁.setTop (mkF m 13 #[.val (.ref r0), .val (.int p1), .val (.int (0 : Int32)), .val (.int (15 : Int32)), .val (.int (p1.toInt8.toInt32)), .val (.int (13 : Int32))] [])) _
                              refine XS.aloadN X0.here hx rfl (hb hby d11_13) rfl rfl ?_
                              show Steps p.tables e below (s₁.setTop (mkF m 14 #[.val (.ref r0), .val (.int p1), .val (.int (0 : Int32)), .val (.int (15 : Int32)), .val (.int (p1.toInt8.toInt32)), .val (.int (13 : Int32))] [(.ref r0)])) _
                              refine XS.iload X0.here hx rfl (hb hby d11_14) rfl ?_
                              show Steps p.tables e below (s₁.setTop (mkF m 16 #[.val (.ref r0), .val (.int p1), .val (.int (0 : Int32)), .val (.int (15 : Int32)), .val (.int (p1.toInt8.toInt32)), .val (.int (13 : Int32))] [(.int (13 : Int32)), (.ref r0)])) _
                              refine X0.baloadBytes hx (j := (13 : Int32)) (v := (.int (124 : Int32))) (by rw [e0]; exact Ar27.1) (State.isArrayOf_alike hZ.alike Ar27.2.1) Ar27.2.2 hin27 hat27 (g := (mkF m 16 #[.val (.ref r0), .val (.int p1), .val (.int (0 : Int32)), .val (.int (15 : Int32)), .val (.int (p1.toInt8.toInt32)), .val (.int (13 : Int32))] [(.int (13 : Int32)), (.ref r0)])) rfl rfl (hb hby d11_16) _ ?_
                              show Steps p.tables e below (s₁.setTop (mkF m 17 #[.val (.ref r0), .val (.int p1), .val (.int (0 : Int32)), .val (.int (15 : Int32)), .val (.int (p1.toInt8.toInt32)), .val (.int (13 : Int32))] [(.int (124 : Int32))])) _
                              refine XS.iload X0.here hx rfl (hb hby d11_17) rfl ?_
                              exact kt)
                            by_cases hc19_14 : (124 : Int32) = (p1.toInt8.toInt32)
                            · obtain ⟨fs, hr, hrun, hended, hW, hsame⟩ := X0.leave (v := some (.int (13 : Int32))) (fun h => by rw [Bd.returns] at h; cases h)
                              refine ⟨_, _, pre28 _ ?_, hrun, hended, _, _, rfl, ?_, ⟨_, rfl⟩, hW, hsame.mono (by decide) (by decide)⟩
                              · show Steps p.tables e below (s₁.setTop (mkF m 19 #[.val (.ref r0), .val (.int p1), .val (.int (0 : Int32)), .val (.int (15 : Int32)), .val (.int (p1.toInt8.toInt32)), .val (.int (13 : Int32))] [(.int (p1.toInt8.toInt32)), (.int (124 : Int32))])) _
                                refine XS.icmpNo X0.here hx rfl (hb hby d11_19) rfl (teq hc19_14).2 ?_
                                show Steps p.tables e below (s₁.setTop (mkF m 22 #[.val (.ref r0), .val (.int p1), .val (.int (0 : Int32)), .val (.int (15 : Int32)), .val (.int (p1.toInt8.toInt32)), .val (.int (13 : Int32))] [])) _
                                refine XS.iload X0.here hx rfl (hb hby d11_22) rfl ?_
                                show Steps p.tables e below (s₁.setTop (mkF m 24 #[.val (.ref r0), .val (.int p1), .val (.int (0 : Int32)), .val (.int (15 : Int32)), .val (.int (p1.toInt8.toInt32)), .val (.int (13 : Int32))] [(.int (13 : Int32))])) _
                                exact retI X0 hx Bd.returns (hb hby d11_24) hr
                              · show Q11 Z r0 p1 kb h0 n0 _ s₁.heap _
                                rw [e0]
                                exact ⟨(by unfold F11; simp only [if_neg hc19, if_neg hc19_2, if_neg hc19_3, if_neg hc19_4, if_neg hc19_5, if_neg hc19_6, if_neg hc19_7, if_neg hc19_8, if_neg hc19_9, if_neg hc19_10, if_neg hc19_11, if_neg hc19_12, if_neg hc19_13, if_pos hc19_14]), N0, rfl⟩
                            · obtain ⟨cl29, Ar29, qa29, S29, Nl29, H29, G29⟩ := id V_b
                              have hin29 : ¬ ((14 : Int32) < 0 ∨ cl29.slots.size ≤ ((14 : Int32)).toNatClampNeg) := inb_of S29 ⟨by decide, by decide⟩
                              have hat29 : cl29.slots[((14 : Int32)).toNatClampNeg]? = some (.int (126 : Int32)) := Has.at H29 hin29 rfl
                              have pre30 : ∀ t, Steps p.tables e below (s₁.setTop (mkF m 19 #[.val (.ref r0), .val (.int p1), .val (.int (0 : Int32)), .val (.int (15 : Int32)), .val (.int (p1.toInt8.toInt32)), .val (.int (14 : Int32))] [(.int (p1.toInt8.toInt32)), (.int (126 : Int32))])) t → Steps p.tables e below (s₁.setTop (entryFrame m #[(.ref r0), (.int p1), (.int (0 : Int32)), (.int (15 : Int32))] 6)) t := fun t kt => pre28 t (by
                                show Steps p.tables e below (s₁.setTop (mkF m 19 #[.val (.ref r0), .val (.int p1), .val (.int (0 : Int32)), .val (.int (15 : Int32)), .val (.int (p1.toInt8.toInt32)), .val (.int (13 : Int32))] [(.int (p1.toInt8.toInt32)), (.int (124 : Int32))])) _
                                refine XS.icmpYes X0.here hx rfl (pc0 := 19) (pc' := 25) rfl (hb hby d11_19) rfl (feq hc19_14).2 (by decide) (by decide) ?_
                                show Steps p.tables e below (s₁.setTop (mkF m 25 #[.val (.ref r0), .val (.int p1), .val (.int (0 : Int32)), .val (.int (15 : Int32)), .val (.int (p1.toInt8.toInt32)), .val (.int (13 : Int32))] [])) _
                                refine XS.iinc X0.here hx rfl (hb hby d11_25) rfl (l' := #[.val (.ref r0), .val (.int p1), .val (.int (0 : Int32)), .val (.int (15 : Int32)), .val (.int (p1.toInt8.toInt32)), .val (.int (14 : Int32))]) rfl ?_
                                show Steps p.tables e below (s₁.setTop (mkF m 28 #[.val (.ref r0), .val (.int p1), .val (.int (0 : Int32)), .val (.int (15 : Int32)), .val (.int (p1.toInt8.toInt32)), .val (.int (14 : Int32))] [])) _
                                refine XS.goto X0.here hx rfl (pc0 := 28) (pc' := 7) rfl (hb hby d11_28) (by decide) (by decide) ?_
                                show Steps p.tables e below (s₁.setTop (mkF m 7 #[.val (.ref r0), .val (.int p1), .val (.int (0 : Int32)), .val (.int (15 : Int32)), .val (.int (p1.toInt8.toInt32)), .val (.int (14 : Int32))] [])) _
                                refine XS.iload X0.here hx rfl (hb hby d11_7) rfl ?_
                                show Steps p.tables e below (s₁.setTop (mkF m 9 #[.val (.ref r0), .val (.int p1), .val (.int (0 : Int32)), .val (.int (15 : Int32)), .val (.int (p1.toInt8.toInt32)), .val (.int (14 : Int32))] [(.int (14 : Int32))])) _
                                refine XS.iloadN X0.here hx rfl (hb hby d11_9) rfl ?_
                                show Steps p.tables e below (s₁.setTop (mkF m 10 #[.val (.ref r0), .val (.int p1), .val (.int (0 : Int32)), .val (.int (15 : Int32)), .val (.int (p1.toInt8.toInt32)), .val (.int (14 : Int32))] [(.int (15 : Int32)), (.int (14 : Int32))])) _
                                refine XS.icmpNo X0.here hx rfl (hb hby d11_10) rfl (tlt (by decide : (14 : Int32) < (15 : Int32))).2.1 ?_
                                show Steps p.tables e below (s₁.setTop (mkF m 13 #[.val (.ref r0), .val (.int p1), .val (.int (0 : Int32)), .val (.int (15 : Int32)), .val (.int (p1.toInt8.toInt32)), .val (.int (14 : Int32))] [])) _
                                refine XS.aloadN X0.here hx rfl (hb hby d11_13) rfl rfl ?_
                                show Steps p.tables e below (s₁.setTop (mkF m 14 #[.val (.ref r0), .val (.int p1), .val (.int (0 : Int32)), .val (.int (15 : Int32)), .val (.int (p1.toInt8.toInt32)), .val (.int (14 : Int32))] [(.ref r0)])) _
                                refine XS.iload X0.here hx rfl (hb hby d11_14) rfl ?_
                                show Steps p.tables e below (s₁.setTop (mkF m 16 #[.val (.ref r0), .val (.int p1), .val (.int (0 : Int32)), .val (.int (15 : Int32)), .val (.int (p1.toInt8.toInt32)), .val (.int (14 : Int32))] [(.int (14 : Int32)), (.ref r0)])) _
                                refine X0.baloadBytes hx (j := (14 : Int32)) (v := (.int (126 : Int32))) (by rw [e0]; exact Ar29.1) (State.isArrayOf_alike hZ.alike Ar29.2.1) Ar29.2.2 hin29 hat29 (g := (mkF m 16 #[.val (.ref r0), .val (.int p1), .val (.int (0 : Int32)), .val (.int (15 : Int32)), .val (.int (p1.toInt8.toInt32)), .val (.int (14 : Int32))] [(.int (14 : Int32)), (.ref r0)])) rfl rfl (hb hby d11_16) _ ?_
                                show Steps p.tables e below (s₁.setTop (mkF m 17 #[.val (.ref r0), .val (.int p1), .val (.int (0 : Int32)), .val (.int (15 : Int32)), .val (.int (p1.toInt8.toInt32)), .val (.int (14 : Int32))] [(.int (126 : Int32))])) _
                                refine XS.iload X0.here hx rfl (hb hby d11_17) rfl ?_
                                exact kt)
                              by_cases hc19_15 : (126 : Int32) = (p1.toInt8.toInt32)
                              · obtain ⟨fs, hr, hrun, hended, hW, hsame⟩ := X0.leave (v := some (.int (14 : Int32))) (fun h => by rw [Bd.returns] at h; cases h)
                                refine ⟨_, _, pre30 _ ?_, hrun, hended, _, _, rfl, ?_, ⟨_, rfl⟩, hW, hsame.mono (by decide) (by decide)⟩
                                · show Steps p.tables e below (s₁.setTop (mkF m 19 #[.val (.ref r0), .val (.int p1), .val (.int (0 : Int32)), .val (.int (15 : Int32)), .val (.int (p1.toInt8.toInt32)), .val (.int (14 : Int32))] [(.int (p1.toInt8.toInt32)), (.int (126 : Int32))])) _
                                  refine XS.icmpNo X0.here hx rfl (hb hby d11_19) rfl (teq hc19_15).2 ?_
                                  show Steps p.tables e below (s₁.setTop (mkF m 22 #[.val (.ref r0), .val (.int p1), .val (.int (0 : Int32)), .val (.int (15 : Int32)), .val (.int (p1.toInt8.toInt32)), .val (.int (14 : Int32))] [])) _
                                  refine XS.iload X0.here hx rfl (hb hby d11_22) rfl ?_
                                  show Steps p.tables e below (s₁.setTop (mkF m 24 #[.val (.ref r0), .val (.int p1), .val (.int (0 : Int32)), .val (.int (15 : Int32)), .val (.int (p1.toInt8.toInt32)), .val (.int (14 : Int32))] [(.int (14 : Int32))])) _
                                  exact retI X0 hx Bd.returns (hb hby d11_24) hr
                                · show Q11 Z r0 p1 kb h0 n0 _ s₁.heap _
                                  rw [e0]
                                  exact ⟨(by unfold F11; simp only [if_neg hc19, if_neg hc19_2, if_neg hc19_3, if_neg hc19_4, if_neg hc19_5, if_neg hc19_6, if_neg hc19_7, if_neg hc19_8, if_neg hc19_9, if_neg hc19_10, if_neg hc19_11, if_neg hc19_12, if_neg hc19_13, if_neg hc19_14, if_pos hc19_15]), N0, rfl⟩
                              · obtain ⟨fs, hr, hrun, hended, hW, hsame⟩ := X0.leave (v := some (.int (-1 : Int32))) (fun h => by rw [Bd.returns] at h; cases h)
                                refine ⟨_, _, pre30 _ ?_, hrun, hended, _, _, rfl, ?_, ⟨_, rfl⟩, hW, hsame.mono (by decide) (by decide)⟩
                                · show Steps p.tables e below (s₁.setTop (mkF m 19 #[.val (.ref r0), .val (.int p1), .val (.int (0 : Int32)), .val (.int (15 : Int32)), .val (.int (p1.toInt8.toInt32)), .val (.int (14 : Int32))] [(.int (p1.toInt8.toInt32)), (.int (126 : Int32))])) _
                                  refine XS.icmpYes X0.here hx rfl (pc0 := 19) (pc' := 25) rfl (hb hby d11_19) rfl (feq hc19_15).2 (by decide) (by decide) ?_
                                  show Steps p.tables e below (s₁.setTop (mkF m 25 #[.val (.ref r0), .val (.int p1), .val (.int (0 : Int32)), .val (.int (15 : Int32)), .val (.int (p1.toInt8.toInt32)), .val (.int (14 : Int32))] [])) _
                                  refine XS.iinc X0.here hx rfl (hb hby d11_25) rfl (l' := #[.val (.ref r0), .val (.int p1), .val (.int (0 : Int32)), .val (.int (15 : Int32)), .val (.int (p1.toInt8.toInt32)), .val (.int (15 : Int32))]) rfl ?_
                                  show Steps p.tables e below (s₁.setTop (mkF m 28 #[.val (.ref r0), .val (.int p1), .val (.int (0 : Int32)), .val (.int (15 : Int32)), .val (.int (p1.toInt8.toInt32)), .val (.int (15 : Int32))] [])) _
                                  refine XS.goto X0.here hx rfl (pc0 := 28) (pc' := 7) rfl (hb hby d11_28) (by decide) (by decide) ?_
                                  show Steps p.tables e below (s₁.setTop (mkF m 7 #[.val (.ref r0), .val (.int p1), .val (.int (0 : Int32)), .val (.int (15 : Int32)), .val (.int (p1.toInt8.toInt32)), .val (.int (15 : Int32))] [])) _
                                  refine XS.iload X0.here hx rfl (hb hby d11_7) rfl ?_
                                  show Steps p.tables e below (s₁.setTop (mkF m 9 #[.val (.ref r0), .val (.int p1), .val (.int (0 : Int32)), .val (.int (15 : Int32)), .val (.int (p1.toInt8.toInt32)), .val (.int (15 : Int32))] [(.int (15 : Int32))])) _
                                  refine XS.iloadN X0.here hx rfl (hb hby d11_9) rfl ?_
                                  show Steps p.tables e below (s₁.setTop (mkF m 10 #[.val (.ref r0), .val (.int p1), .val (.int (0 : Int32)), .val (.int (15 : Int32)), .val (.int (p1.toInt8.toInt32)), .val (.int (15 : Int32))] [(.int (15 : Int32)), (.int (15 : Int32))])) _
                                  refine XS.icmpYes X0.here hx rfl (pc0 := 10) (pc' := 31) rfl (hb hby d11_10) rfl (flt (by decide : ¬ ((15 : Int32) < (15 : Int32)))).2.1 (by decide) (by decide) ?_
                                  show Steps p.tables e below (s₁.setTop (mkF m 31 #[.val (.ref r0), .val (.int p1), .val (.int (0 : Int32)), .val (.int (15 : Int32)), .val (.int (p1.toInt8.toInt32)), .val (.int (15 : Int32))] [])) _
                                  refine XS.iconst X0.here hx rfl (hb hby d11_31) ?_
                                  show Steps p.tables e below (s₁.setTop (mkF m 32 #[.val (.ref r0), .val (.int p1), .val (.int (0 : Int32)), .val (.int (15 : Int32)), .val (.int (p1.toInt8.toInt32)), .val (.int (15 : Int32))] [(.int (-1 : Int32))])) _
                                  exact retI X0 hx Bd.returns (hb hby d11_32) hr
                                · show Q11 Z r0 p1 kb h0 n0 _ s₁.heap _
                                  rw [e0]
                                  exact ⟨(by unfold F11; simp only [if_neg hc19, if_neg hc19_2, if_neg hc19_3, if_neg hc19_4, if_neg hc19_5, if_neg hc19_6, if_neg hc19_7, if_neg hc19_8, if_neg hc19_9, if_neg hc19_10, if_neg hc19_11, if_neg hc19_12, if_neg hc19_13, if_neg hc19_14, if_neg hc19_15]), N0, rfl⟩
theorem d7_0 : decode jdk_43_method_22_code 0 = .ok (.iload_n 1, 1) := by decide +kernel
theorem d7_1 : decode jdk_43_method_22_code 1 = .ok (.invokestatic 88, 3) := by decide +kernel
theorem d7_4 : decode jdk_43_method_22_code 4 = .ok (.ifCond .ne 5, 3) := by decide +kernel
theorem d7_7 : decode jdk_43_method_22_code 7 = .ok (.iconst (-1), 1) := by decide +kernel
theorem d7_8 : decode jdk_43_method_22_code 8 = .ok (.ireturn, 1) := by decide +kernel
theorem d7_9 : decode jdk_43_method_22_code 9 = .ok (.iload_n 2, 1) := by decide +kernel
theorem d7_10 : decode jdk_43_method_22_code 10 = .ok (.iconst 0, 1) := by decide +kernel
theorem d7_11 : decode jdk_43_method_22_code 11 = .ok (.invokestatic 92, 3) := by decide +kernel
theorem d7_14 : decode jdk_43_method_22_code 14 = .ok (.istore_n 2, 1) := by decide +kernel
theorem d7_15 : decode jdk_43_method_22_code 15 = .ok (.iload_n 3, 1) := by decide +kernel
theorem d7_16 : decode jdk_43_method_22_code 16 = .ok (.aload_n 0, 1) := by decide +kernel
theorem d7_17 : decode jdk_43_method_22_code 17 = .ok (.arraylength, 1) := by decide +kernel
theorem d7_18 : decode jdk_43_method_22_code 18 = .ok (.invokestatic 38, 3) := by decide +kernel
theorem d7_21 : decode jdk_43_method_22_code 21 = .ok (.istore_n 3, 1) := by decide +kernel
theorem d7_22 : decode jdk_43_method_22_code 22 = .ok (.iload_n 2, 1) := by decide +kernel
theorem d7_23 : decode jdk_43_method_22_code 23 = .ok (.iload_n 3, 1) := by decide +kernel
theorem d7_24 : decode jdk_43_method_22_code 24 = .ok (.if_icmp .lt 5, 3) := by decide +kernel
theorem d7_29 : decode jdk_43_method_22_code 29 = .ok (.aload_n 0, 1) := by decide +kernel
theorem d7_30 : decode jdk_43_method_22_code 30 = .ok (.iload_n 1, 1) := by decide +kernel
theorem d7_31 : decode jdk_43_method_22_code 31 = .ok (.iload_n 2, 1) := by decide +kernel
theorem d7_32 : decode jdk_43_method_22_code 32 = .ok (.iload_n 3, 1) := by decide +kernel
theorem d7_33 : decode jdk_43_method_22_code 33 = .ok (.invokestatic 95, 3) := by decide +kernel
theorem d7_36 : decode jdk_43_method_22_code 36 = .ok (.ireturn, 1) := by decide +kernel
theorem pd__I_Z : parseMethodDescriptor "(I)Z" = some ⟨[.int], some .boolean⟩ := by decide +kernel
theorem pd__II_I : parseMethodDescriptor "(II)I" = some ⟨[.int, .int], some .int⟩ := by decide +kernel
theorem pd___BIII_I : parseMethodDescriptor "([BIII)I" = some ⟨[(.array .byte), .int, .int, .int], some .int⟩ := by decide +kernel
theorem ef_7 (r0 : Addr) (p1 : Int32) (kb : ClassId) (m : MethodId) : entryFrame m #[(.ref r0), (.int p1), (.int (0 : Int32)), (.int (15 : Int32))] 4 = mkF m 0 #[.val (.ref r0), .val (.int p1), .val (.int (0 : Int32)), .val (.int (15 : Int32))] [] := by first | (simp [entryFrame, mkF, argsToLocals, Value.category]; done) | rfl
def F7 (p1 : Int32) : Int32 := (if (F8 p1) = (0 : Int32) then (-1 : Int32) else (F11 p1))
def Q7 (Z : State) (r0 : Addr) (p1 : Int32) (kb : ClassId) (h0 : Heap) (n0 : Nat) (v : Option Value) (h : Heap) (L : List Loc) : Prop := v = some (.int (F7 p1)) ∧ Fr n0 L ∧ h = h0
set_option maxRecDepth 65536 in
set_option maxHeartbeats 40000000 in
theorem rm7 (l : Launch) (Z : State) (a0 : Array Value) (hw : ∀ d ∈ tables_1, d.before a0 Z = true) (ws : List Jvm.Cond) (r0 : Addr) (p1 : Int32) (kb : ClassId) (h0 : Heap) (n0 : Nat) (Z0 : n0 ≤ h0.size) (V_b : Arv Z h0 r0 kb .byte (15 : Int32) [(.int (33 : Int32)), (.int (35 : Int32)), (.int (36 : Int32)), (.int (37 : Int32)), (.int (38 : Int32)), (.int (39 : Int32)), (.int (42 : Int32)), (.int (43 : Int32)), (.int (45 : Int32)), (.int (46 : Int32)), (.int (94 : Int32)), (.int (95 : Int32)), (.int (96 : Int32)), (.int (124 : Int32)), (.int (126 : Int32))] (.int (0 : Int32))) :
    MetFree l (⟨"java/lang/StringLatin1", "indexOf", "([BIII)I"⟩ : MethodName) (head1 (Jvm.Cond.code (⟨"java/lang/StringLatin1", "indexOf", "([BIII)I"⟩ : MethodName) jdk_43_method_22_code 4 (some .int) :: ws) ({ frames := 1, cells := 0, slots := 0, locals := 17 } : Room)) (fun a U => a = #[(.ref r0), (.int p1), (.int (0 : Int32)), (.int (15 : Int32))] ∧ Z.Warmed39 U.vm ∧ U.heap = h0) (fun _ _ _ _ _ => True) (fun _ U o U' => ∃ v L, o = .returned v ∧ Q7 Z r0 p1 kb h0 n0 v U'.heap L ∧ FrameEnd U o U' L ({ frames := 1, cells := 0, slots := 0, locals := 17 } : Room).cells ({ frames := 1, cells := 0, slots := 0, locals := 17 } : Room).slots) := by
  refine MetFree.of_bodySF (plainFor_of_name pn_java_lang_StringLatin1) hisR ?_
  intro p e s m args below meth c s₁ Bd hml0 hP hK
  obtain ⟨rfl, hZ, hh⟩ := hP
  have hx := Bd.exec
  have hby := Bd.bytes
  have hml : c.maxLocals = 4 := hml0
  have hown : s.vm.findClass "java/lang/StringLatin1" = some m.cls := findClass_of_methodNamed Bd.named
  have hnm := (name_of_methodNamed Bd.named Bd.method).1
  have X0 : Stand p l e ({ frames := 1, cells := 0, slots := 0, locals := 17 } : Room) s m #[(.ref r0), (.int p1), (.int (0 : Int32)), (.int (15 : Int32))] below meth c s₁ [] 0 0 := Stand.of_body Bd
  have e0 : s₁.heap = h0 := by rw [← hh, Bd.state]; rfl
  have N0 := Fr.nil n0
  have pre0 : ∀ t, Steps p.tables e below (s₁.setTop (mkF m 0 #[.val (.ref r0), .val (.int p1), .val (.int (0 : Int32)), .val (.int (15 : Int32))] [])) t → Steps p.tables e below (s₁.setTop (entryFrame m #[(.ref r0), (.int p1), (.int (0 : Int32)), (.int (15 : Int32))] 4)) t := fun t k => castTop (ef_7 r0 p1 kb m) k
  obtain ⟨_, _, ⟨T1, L1, k1, n1⟩, -, X1, ⟨Lc1, hQ1, ll1, ly1, lz1⟩, st1⟩ := Jvm.LawKit.callS X0 hx (y := (⟨"java/lang/StringLatin1", "canEncode", "(I)Z"⟩ : MethodName)) hown (mvT hZ (hw _ (List.mem_of_getElem? (i := 44) rfl))) (mvT hZ (hw _ (List.mem_of_getElem? (i := 45) rfl))) (mvT hZ (hw _ (List.mem_of_getElem? (i := 42) rfl))) (mvT hZ (hw _ (List.mem_of_getElem? (i := 46) rfl))) (by decide) (backOf (W := 0) (rm8 l Z a0 hw [] p1 h0 n0 Z0 ) hZ (hw _ (List.mem_of_getElem? (i := 46) rfl)) (hw _ (List.mem_of_getElem? (i := 42) rfl)) (by decide) (by decide)) (g := (mkF m 1 #[.val (.ref r0), .val (.int p1), .val (.int (0 : Int32)), .val (.int (15 : Int32))] [(.int p1)])) rfl (by rw [hml]; rfl) (argsL := [(.int p1)]) (rest := []) (lenOf pd__I_Z rfl) rfl (by show 2 * 0 + _ ≤ _; exact Nat.le_of_eq rfl) (hb hby d7_1) (fun _ _ => ⟨rfl, e0, (by decide : 0 + 0 ≤ _), (by decide : 0 + 0 ≤ _)⟩)
  dsimp only [Pt.U, Pt.locs, Pt.cells, Pt.slots] at X1 ll1 ly1 lz1 st1 hQ1
  subst ll1 ly1 lz1
  obtain ⟨rfl, N1q, e1⟩ := hQ1
  have N1 := Fr.app N0 N1q
  have pre2 : ∀ t, Steps p.tables e below (T1.setTop (mkF m 4 #[.val (.ref r0), .val (.int p1), .val (.int (0 : Int32)), .val (.int (15 : Int32))] [(.int (F8 p1))])) t → Steps p.tables e below (s₁.setTop (entryFrame m #[(.ref r0), (.int p1), (.int (0 : Int32)), (.int (15 : Int32))] 4)) t := fun t kt => pre0 t (by
    show Steps p.tables e below (s₁.setTop (mkF m 0 #[.val (.ref r0), .val (.int p1), .val (.int (0 : Int32)), .val (.int (15 : Int32))] [])) _
    refine XS.iloadN X0.here hx rfl (hb hby d7_0) rfl ?_
    show Steps p.tables e below (s₁.setTop (mkF m 1 #[.val (.ref r0), .val (.int p1), .val (.int (0 : Int32)), .val (.int (15 : Int32))] [(.int p1)])) _
    refine st1 _ ?_
    exact kt)
  by_cases hc4 : (F8 p1) = (0 : Int32)
  · obtain ⟨fs, hr, hrun, hended, hW, hsame⟩ := X1.leave (v := some (.int (-1 : Int32))) (fun h => by rw [Bd.returns] at h; cases h)
    refine ⟨_, _, pre2 _ ?_, hrun, hended, _, _, rfl, ?_, ⟨_, rfl⟩, hW, hsame.mono (by decide) (by decide)⟩
    · show Steps p.tables e below (T1.setTop (mkF m 4 #[.val (.ref r0), .val (.int p1), .val (.int (0 : Int32)), .val (.int (15 : Int32))] [(.int (F8 p1))])) _
      refine XS.ifNo X1.here hx rfl (hb hby d7_4) rfl ((if0 _ _).trans (teq hc4).2) ?_
      show Steps p.tables e below (T1.setTop (mkF m 7 #[.val (.ref r0), .val (.int p1), .val (.int (0 : Int32)), .val (.int (15 : Int32))] [])) _
      refine XS.iconst X1.here hx rfl (hb hby d7_7) ?_
      show Steps p.tables e below (T1.setTop (mkF m 8 #[.val (.ref r0), .val (.int p1), .val (.int (0 : Int32)), .val (.int (15 : Int32))] [(.int (-1 : Int32))])) _
      exact retI X1 hx Bd.returns (hb hby d7_8) hr
    · show Q7 Z r0 p1 kb h0 n0 _ T1.heap _
      rw [e1]
      exact ⟨(by unfold F7; simp only [if_pos hc4]), N1, rfl⟩
  · obtain ⟨_, _, ⟨T3, L3, k3, n3⟩, -, X3, ⟨Lc3, hQ3, ll3, ly3, lz3⟩, st3⟩ := Jvm.LawKit.callS X1 hx (y := (⟨"java/lang/Math", "max", "(II)I"⟩ : MethodName)) hown (mvT hZ (hw _ (List.mem_of_getElem? (i := 47) rfl))) (mvT hZ (hw _ (List.mem_of_getElem? (i := 48) rfl))) (mvT hZ (hw _ (List.mem_of_getElem? (i := 49) rfl))) (mvT hZ (hw _ (List.mem_of_getElem? (i := 50) rfl))) (by decide) (backOf (W := 0) (rm9 l Z a0 hw [] (0 : Int32) (0 : Int32) h0 n0 Z0 ) hZ (hw _ (List.mem_of_getElem? (i := 50) rfl)) (hw _ (List.mem_of_getElem? (i := 49) rfl)) (by decide) (by decide)) (g := (mkF m 11 #[.val (.ref r0), .val (.int p1), .val (.int (0 : Int32)), .val (.int (15 : Int32))] [(.int (0 : Int32)), (.int (0 : Int32))])) rfl (by rw [hml]; rfl) (argsL := [(.int (0 : Int32)), (.int (0 : Int32))]) (rest := []) (lenOf pd__II_I rfl) rfl (by show 2 * 0 + _ ≤ _; exact Nat.le_of_eq rfl) (hb hby d7_11) (fun _ _ => ⟨rfl, e1, (by decide : 0 + 0 ≤ _), (by decide : 0 + 0 ≤ _)⟩)
    dsimp only [Pt.U, Pt.locs, Pt.cells, Pt.slots] at X3 ll3 ly3 lz3 st3 hQ3
    subst ll3 ly3 lz3
    obtain ⟨rfl, N3q, e3⟩ := hQ3
    have N3 := Fr.app N1 N3q
    have pre4 : ∀ t, Steps p.tables e below (T3.setTop (mkF m 14 #[.val (.ref r0), .val (.int p1), .val (.int (0 : Int32)), .val (.int (15 : Int32))] [(.int (F9 (0 : Int32) (0 : Int32)))])) t → Steps p.tables e below (s₁.setTop (entryFrame m #[(.ref r0), (.int p1), (.int (0 : Int32)), (.int (15 : Int32))] 4)) t := fun t kt => pre2 t (by
      show Steps p.tables e below (T1.setTop (mkF m 4 #[.val (.ref r0), .val (.int p1), .val (.int (0 : Int32)), .val (.int (15 : Int32))] [(.int (F8 p1))])) _
      refine XS.ifYes X1.here hx rfl (pc0 := 4) (pc' := 9) rfl (hb hby d7_4) rfl ((if0 _ _).trans (feq hc4).2) (by decide) (by decide) ?_
      show Steps p.tables e below (T1.setTop (mkF m 9 #[.val (.ref r0), .val (.int p1), .val (.int (0 : Int32)), .val (.int (15 : Int32))] [])) _
      refine XS.iloadN X1.here hx rfl (hb hby d7_9) rfl ?_
      show Steps p.tables e below (T1.setTop (mkF m 10 #[.val (.ref r0), .val (.int p1), .val (.int (0 : Int32)), .val (.int (15 : Int32))] [(.int (0 : Int32))])) _
      refine XS.iconst X1.here hx rfl (hb hby d7_10) ?_
      show Steps p.tables e below (T1.setTop (mkF m 11 #[.val (.ref r0), .val (.int p1), .val (.int (0 : Int32)), .val (.int (15 : Int32))] [(.int (0 : Int32)), (.int (0 : Int32))])) _
      refine st3 _ ?_
      exact kt)
    have qr5 : (F9 (0 : Int32) (0 : Int32)) = (0 : Int32) := by decide
    have pre6 : ∀ t, Steps p.tables e below (T3.setTop (mkF m 14 #[.val (.ref r0), .val (.int p1), .val (.int (0 : Int32)), .val (.int (15 : Int32))] [(.int (0 : Int32))])) t → Steps p.tables e below (s₁.setTop (entryFrame m #[(.ref r0), (.int p1), (.int (0 : Int32)), (.int (15 : Int32))] 4)) t := fun t kt => pre4 t (by rw [qr5]; exact kt)
    obtain ⟨cl7, Ar7, -, S7, Nl7, -, -⟩ := id V_b
    obtain ⟨_, _, ⟨T8, L8, k8, n8⟩, -, X8, ⟨Lc8, hQ8, ll8, ly8, lz8⟩, st8⟩ := Jvm.LawKit.callS X3 hx (y := (⟨"java/lang/Math", "min", "(II)I"⟩ : MethodName)) hown (mvT hZ (hw _ (List.mem_of_getElem? (i := 51) rfl))) (mvT hZ (hw _ (List.mem_of_getElem? (i := 52) rfl))) (mvT hZ (hw _ (List.mem_of_getElem? (i := 49) rfl))) (mvT hZ (hw _ (List.mem_of_getElem? (i := 53) rfl))) (by decide) (backOf (W := 0) (rm10 l Z a0 hw [] (15 : Int32) (15 : Int32) h0 n0 Z0 ) hZ (hw _ (List.mem_of_getElem? (i := 53) rfl)) (hw _ (List.mem_of_getElem? (i := 49) rfl)) (by decide) (by decide)) (g := (mkF m 18 #[.val (.ref r0), .val (.int p1), .val (.int (0 : Int32)), .val (.int (15 : Int32))] [(.int (15 : Int32)), (.int (15 : Int32))])) rfl (by rw [hml]; rfl) (argsL := [(.int (15 : Int32)), (.int (15 : Int32))]) (rest := []) (lenOf pd__II_I rfl) rfl (by show 2 * 0 + _ ≤ _; exact Nat.le_of_eq rfl) (hb hby d7_18) (fun _ _ => ⟨rfl, e3, (by decide : 0 + 0 ≤ _), (by decide : 0 + 0 ≤ _)⟩)
    dsimp only [Pt.U, Pt.locs, Pt.cells, Pt.slots] at X8 ll8 ly8 lz8 st8 hQ8
    subst ll8 ly8 lz8
    obtain ⟨rfl, N8q, e8⟩ := hQ8
    have N8 := Fr.app N3 N8q
    have pre9 : ∀ t, Steps p.tables e below (T8.setTop (mkF m 21 #[.val (.ref r0), .val (.int p1), .val (.int (0 : Int32)), .val (.int (15 : Int32))] [(.int (F10 (15 : Int32) (15 : Int32)))])) t → Steps p.tables e below (s₁.setTop (entryFrame m #[(.ref r0), (.int p1), (.int (0 : Int32)), (.int (15 : Int32))] 4)) t := fun t kt => pre6 t (by
      show Steps p.tables e below (T3.setTop (mkF m 14 #[.val (.ref r0), .val (.int p1), .val (.int (0 : Int32)), .val (.int (15 : Int32))] [(.int (0 : Int32))])) _
      refine XS.istoreN X3.here hx rfl (hb hby d7_14) rfl (l' := #[.val (.ref r0), .val (.int p1), .val (.int (0 : Int32)), .val (.int (15 : Int32))]) rfl ?_
      show Steps p.tables e below (T3.setTop (mkF m 15 #[.val (.ref r0), .val (.int p1), .val (.int (0 : Int32)), .val (.int (15 : Int32))] [])) _
      refine XS.iloadN X3.here hx rfl (hb hby d7_15) rfl ?_
      show Steps p.tables e below (T3.setTop (mkF m 16 #[.val (.ref r0), .val (.int p1), .val (.int (0 : Int32)), .val (.int (15 : Int32))] [(.int (15 : Int32))])) _
      refine XS.aloadN X3.here hx rfl (hb hby d7_16) rfl rfl ?_
      show Steps p.tables e below (T3.setTop (mkF m 17 #[.val (.ref r0), .val (.int p1), .val (.int (0 : Int32)), .val (.int (15 : Int32))] [(.ref r0), (.int (15 : Int32))])) _
      refine X3.arraylength hx (by rw [e3]; exact Ar7.1) (State.isArrayOf_alike hZ.alike Ar7.2.1) (g := (mkF m 17 #[.val (.ref r0), .val (.int p1), .val (.int (0 : Int32)), .val (.int (15 : Int32))] [(.ref r0), (.int (15 : Int32))])) rfl rfl (hb hby d7_17) _ ?_
      rw [len_of S7 Nl7]
      show Steps p.tables e below (T3.setTop (mkF m 18 #[.val (.ref r0), .val (.int p1), .val (.int (0 : Int32)), .val (.int (15 : Int32))] [(.int (15 : Int32)), (.int (15 : Int32))])) _
      refine st8 _ ?_
      exact kt)
    have qr10 : (F10 (15 : Int32) (15 : Int32)) = (15 : Int32) := by decide
    have pre11 : ∀ t, Steps p.tables e below (T8.setTop (mkF m 21 #[.val (.ref r0), .val (.int p1), .val (.int (0 : Int32)), .val (.int (15 : Int32))] [(.int (15 : Int32))])) t → Steps p.tables e below (s₁.setTop (entryFrame m #[(.ref r0), (.int p1), (.int (0 : Int32)), (.int (15 : Int32))] 4)) t := fun t kt => pre9 t (by rw [qr10]; exact kt)
    obtain ⟨_, _, ⟨T12, L12, k12, n12⟩, -, X12, ⟨Lc12, hQ12, ll12, ly12, lz12⟩, st12⟩ := Jvm.LawKit.callS X8 hx (y := (⟨"java/lang/StringLatin1", "indexOfChar", "([BIII)I"⟩ : MethodName)) hown (mvT hZ (hw _ (List.mem_of_getElem? (i := 54) rfl))) (mvT hZ (hw _ (List.mem_of_getElem? (i := 55) rfl))) (mvT hZ (hw _ (List.mem_of_getElem? (i := 42) rfl))) (mvT hZ (hw _ (List.mem_of_getElem? (i := 56) rfl))) (by decide) (backOf (W := 0) (rm11 l Z a0 hw [] r0 p1 kb h0 n0 Z0 V_b) hZ (hw _ (List.mem_of_getElem? (i := 56) rfl)) (hw _ (List.mem_of_getElem? (i := 42) rfl)) (by decide) (by decide)) (g := (mkF m 33 #[.val (.ref r0), .val (.int p1), .val (.int (0 : Int32)), .val (.int (15 : Int32))] [(.int (15 : Int32)), (.int (0 : Int32)), (.int p1), (.ref r0)])) rfl (by rw [hml]; rfl) (argsL := [(.ref r0), (.int p1), (.int (0 : Int32)), (.int (15 : Int32))]) (rest := []) (lenOf pd___BIII_I rfl) rfl (by show 2 * 0 + _ ≤ _; exact Nat.le_of_eq rfl) (hb hby d7_33) (fun _ _ => ⟨rfl, e8, (by decide : 0 + 0 ≤ _), (by decide : 0 + 0 ≤ _)⟩)
    dsimp only [Pt.U, Pt.locs, Pt.cells, Pt.slots] at X12 ll12 ly12 lz12 st12 hQ12
    subst ll12 ly12 lz12
    obtain ⟨rfl, N12q, e12⟩ := hQ12
    have N12 := Fr.app N8 N12q
    obtain ⟨fs, hr, hrun, hended, hW, hsame⟩ := X12.leave (v := some (.int (F11 p1))) (fun h => by rw [Bd.returns] at h; cases h)
    refine ⟨_, _, pre11 _ ?_, hrun, hended, _, _, rfl, ?_, ⟨_, rfl⟩, hW, hsame.mono (by decide) (by decide)⟩
    · show Steps p.tables e below (T8.setTop (mkF m 21 #[.val (.ref r0), .val (.int p1), .val (.int (0 : Int32)), .val (.int (15 : Int32))] [(.int (15 : Int32))])) _
      refine XS.istoreN X8.here hx rfl (hb hby d7_21) rfl (l' := #[.val (.ref r0), .val (.int p1), .val (.int (0 : Int32)), .val (.int (15 : Int32))]) rfl ?_
      show Steps p.tables e below (T8.setTop (mkF m 22 #[.val (.ref r0), .val (.int p1), .val (.int (0 : Int32)), .val (.int (15 : Int32))] [])) _
      refine XS.iloadN X8.here hx rfl (hb hby d7_22) rfl ?_
      show Steps p.tables e below (T8.setTop (mkF m 23 #[.val (.ref r0), .val (.int p1), .val (.int (0 : Int32)), .val (.int (15 : Int32))] [(.int (0 : Int32))])) _
      refine XS.iloadN X8.here hx rfl (hb hby d7_23) rfl ?_
      show Steps p.tables e below (T8.setTop (mkF m 24 #[.val (.ref r0), .val (.int p1), .val (.int (0 : Int32)), .val (.int (15 : Int32))] [(.int (15 : Int32)), (.int (0 : Int32))])) _
      refine XS.icmpYes X8.here hx rfl (pc0 := 24) (pc' := 29) rfl (hb hby d7_24) rfl (tlt (by decide : (0 : Int32) < (15 : Int32))).1 (by decide) (by decide) ?_
      show Steps p.tables e below (T8.setTop (mkF m 29 #[.val (.ref r0), .val (.int p1), .val (.int (0 : Int32)), .val (.int (15 : Int32))] [])) _
      refine XS.aloadN X8.here hx rfl (hb hby d7_29) rfl rfl ?_
      show Steps p.tables e below (T8.setTop (mkF m 30 #[.val (.ref r0), .val (.int p1), .val (.int (0 : Int32)), .val (.int (15 : Int32))] [(.ref r0)])) _
      refine XS.iloadN X8.here hx rfl (hb hby d7_30) rfl ?_
      show Steps p.tables e below (T8.setTop (mkF m 31 #[.val (.ref r0), .val (.int p1), .val (.int (0 : Int32)), .val (.int (15 : Int32))] [(.int p1), (.ref r0)])) _
      refine XS.iloadN X8.here hx rfl (hb hby d7_31) rfl ?_
      show Steps p.tables e below (T8.setTop (mkF m 32 #[.val (.ref r0), .val (.int p1), .val (.int (0 : Int32)), .val (.int (15 : Int32))] [(.int (0 : Int32)), (.int p1), (.ref r0)])) _
      refine XS.iloadN X8.here hx rfl (hb hby d7_32) rfl ?_
      show Steps p.tables e below (T8.setTop (mkF m 33 #[.val (.ref r0), .val (.int p1), .val (.int (0 : Int32)), .val (.int (15 : Int32))] [(.int (15 : Int32)), (.int (0 : Int32)), (.int p1), (.ref r0)])) _
      refine st12 _ ?_
      show Steps p.tables e below (T12.setTop (mkF m 36 #[.val (.ref r0), .val (.int p1), .val (.int (0 : Int32)), .val (.int (15 : Int32))] [(.int (F11 p1))])) _
      exact retI X12 hx Bd.returns (hb hby d7_36) hr
    · show Q7 Z r0 p1 kb h0 n0 _ T12.heap _
      rw [e12]
      exact ⟨(by unfold F7; simp only [if_neg hc4]), N12, rfl⟩
theorem d3_0 : decode jdk_42_method_80_code 0 = .ok (.aload_n 0, 1) := by decide +kernel
theorem d3_1 : decode jdk_42_method_80_code 1 = .ok (.invokevirtual 492, 3) := by decide +kernel
theorem d3_4 : decode jdk_42_method_80_code 4 = .ok (.ifCond .eq 19, 3) := by decide +kernel
theorem d3_7 : decode jdk_42_method_80_code 7 = .ok (.aload_n 0, 1) := by decide +kernel
theorem d3_8 : decode jdk_42_method_80_code 8 = .ok (.getfield 9, 3) := by decide +kernel
theorem d3_11 : decode jdk_42_method_80_code 11 = .ok (.iload_n 1, 1) := by decide +kernel
theorem d3_12 : decode jdk_42_method_80_code 12 = .ok (.iload_n 2, 1) := by decide +kernel
theorem d3_13 : decode jdk_42_method_80_code 13 = .ok (.aload_n 0, 1) := by decide +kernel
theorem d3_14 : decode jdk_42_method_80_code 14 = .ok (.invokevirtual 505, 3) := by decide +kernel
theorem d3_17 : decode jdk_42_method_80_code 17 = .ok (.invokestatic 637, 3) := by decide +kernel
theorem d3_20 : decode jdk_42_method_80_code 20 = .ok (.goto 16, 3) := by decide +kernel
theorem d3_36 : decode jdk_42_method_80_code 36 = .ok (.ireturn, 1) := by decide +kernel
theorem pd___Z : parseMethodDescriptor "()Z" = some ⟨[], some .boolean⟩ := by decide +kernel
theorem pd___I : parseMethodDescriptor "()I" = some ⟨[], some .int⟩ := by decide +kernel
theorem ef_3 (r0 : Addr) (p1 : Int32) (vb : Addr) (kb : ClassId) (wc : Int32) (m : MethodId) : entryFrame m #[(.ref r0), (.int p1), (.int (0 : Int32))] 3 = mkF m 0 #[.val (.ref r0), .val (.int p1), .val (.int (0 : Int32))] [] := by first | (simp [entryFrame, mkF, argsToLocals, Value.category]; done) | rfl
def F3 (p1 : Int32) : Int32 := (F7 p1)
def Q3 (Z : State) (r0 : Addr) (p1 : Int32) (vb : Addr) (kb : ClassId) (wc : Int32) (h0 : Heap) (n0 : Nat) (v : Option Value) (h : Heap) (L : List Loc) : Prop := v = some (.int (F3 p1)) ∧ Fr n0 L ∧ h = h0
set_option maxRecDepth 65536 in
set_option maxHeartbeats 40000000 in
theorem rm3 (l : Launch) (Z : State) (a0 : Array Value) (hw : ∀ d ∈ tables_1, d.before a0 Z = true) (ws : List Jvm.Cond) (r0 : Addr) (p1 : Int32) (vb : Addr) (kb : ClassId) (wc : Int32) (h0 : Heap) (n0 : Nat) (Z0 : n0 ≤ h0.size) (E_r : Exa Z h0 r0 "java/lang/String") (F_c : Fld Z h0 r0 "java/lang/String" "coder" "B" (.int (0 : Int32))) (F_v : Fld Z h0 r0 "java/lang/String" "value" "[B" (.ref vb)) (V_b : Arv Z h0 vb kb .byte (15 : Int32) [(.int (33 : Int32)), (.int (35 : Int32)), (.int (36 : Int32)), (.int (37 : Int32)), (.int (38 : Int32)), (.int (39 : Int32)), (.int (42 : Int32)), (.int (43 : Int32)), (.int (45 : Int32)), (.int (46 : Int32)), (.int (94 : Int32)), (.int (95 : Int32)), (.int (96 : Int32)), (.int (124 : Int32)), (.int (126 : Int32))] (.int (0 : Int32))) (S_c : Sta Z h0 "java/lang/String" "COMPACT_STRINGS" "Z" (.int wc)) (hwc : ¬ (wc = (0 : Int32))) :
    MetFree l (⟨"java/lang/String", "indexOf", "(II)I"⟩ : MethodName) (head1 (Jvm.Cond.code (⟨"java/lang/String", "indexOf", "(II)I"⟩ : MethodName) jdk_42_method_80_code 3 (some .int) :: ws) ({ frames := 2, cells := 0, slots := 0, locals := 32 } : Room)) (fun a U => a = #[(.ref r0), (.int p1), (.int (0 : Int32))] ∧ Z.Warmed39 U.vm ∧ U.heap = h0) (fun _ _ _ _ _ => True) (fun _ U o U' => ∃ v L, o = .returned v ∧ Q3 Z r0 p1 vb kb wc h0 n0 v U'.heap L ∧ FrameEnd U o U' L ({ frames := 2, cells := 0, slots := 0, locals := 32 } : Room).cells ({ frames := 2, cells := 0, slots := 0, locals := 32 } : Room).slots) := by
  refine MetFree.of_bodySF (plainFor_of_name pn_java_lang_String) hisR ?_
  intro p e s m args below meth c s₁ Bd hml0 hP hK
  obtain ⟨rfl, hZ, hh⟩ := hP
  have hx := Bd.exec
  have hby := Bd.bytes
  have hml : c.maxLocals = 3 := hml0
  have hown : s.vm.findClass "java/lang/String" = some m.cls := findClass_of_methodNamed Bd.named
  have hnm := (name_of_methodNamed Bd.named Bd.method).1
  have X0 : Stand p l e ({ frames := 2, cells := 0, slots := 0, locals := 32 } : Room) s m #[(.ref r0), (.int p1), (.int (0 : Int32))] below meth c s₁ [] 0 0 := Stand.of_body Bd
  have e0 : s₁.heap = h0 := by rw [← hh, Bd.state]; rfl
  have N0 := Fr.nil n0
  have pre0 : ∀ t, Steps p.tables e below (s₁.setTop (mkF m 0 #[.val (.ref r0), .val (.int p1), .val (.int (0 : Int32))] [])) t → Steps p.tables e below (s₁.setTop (entryFrame m #[(.ref r0), (.int p1), (.int (0 : Int32))] 3)) t := fun t k => castTop (ef_3 r0 p1 vb kb wc m) k
  obtain ⟨cq1, kq1, q1a, q1b, q1c⟩ := isOf hZ e0 E_r
  obtain ⟨_, _, ⟨T1, L1, k1, n1⟩, -, X1, ⟨Lc1, hQ1, ll1, ly1, lz1⟩, st1⟩ := X0.virtualBack hx (y := (⟨"java/lang/String", "isLatin1", "()Z"⟩ : MethodName)) (z := (⟨"java/lang/String", "isLatin1", "()Z"⟩ : MethodName)) hown (mvT hZ (hw _ (List.mem_of_getElem? (i := 22) rfl))) (mvT hZ (hw _ (List.mem_of_getElem? (i := 23) rfl))) (notFace_of_selects (args := #[]) (mvT hZ (hw _ (List.mem_of_getElem? (i := 25) rfl)))) (mvT hZ (hw _ (List.mem_of_getElem? (i := 25) rfl))) (mvT hZ (hw _ (List.mem_of_getElem? (i := 24) rfl))) (by decide) (backOf (W := 0) (rm4 l Z a0 hw [] r0 vb kb wc h0 n0 Z0 E_r F_c F_v V_b S_c hwc) hZ (hw _ (List.mem_of_getElem? (i := 26) rfl)) (hw _ (List.mem_of_getElem? (i := 5) rfl)) (by decide) (by decide)) q1a q1c (g := (mkF m 1 #[.val (.ref r0), .val (.int p1), .val (.int (0 : Int32))] [(.ref r0)])) rfl (by rw [hml]; rfl) (Steps.refl _) (argsL := []) (rest := []) (lenOf pd___Z rfl) rfl (by show 2 * 0 + _ ≤ _; exact Nat.le_of_eq rfl) (hb hby d3_1) (fun _ _ => ⟨rfl, e0, (by decide : 0 + 0 ≤ _), (by decide : 0 + 0 ≤ _)⟩)
  dsimp only [Pt.U, Pt.locs, Pt.cells, Pt.slots] at X1 ll1 ly1 lz1 st1 hQ1
  subst ll1 ly1 lz1
  obtain ⟨rfl, N1q, e1⟩ := hQ1
  have N1 := Fr.app N0 N1q
  obtain ⟨T2, X2, e2, st2⟩ := getF X1 hx hZ hown (host := "") (Or.inl (hw _ (List.mem_of_getElem? (i := 29) rfl))) Via.refl e1 F_v (g := (mkF m 8 #[.val (.ref r0), .val (.int p1), .val (.int (0 : Int32))] [(.ref r0)])) rfl rfl (hb hby d3_8)
  obtain ⟨cq3, kq3, q3a, q3b, q3c⟩ := isOf hZ e2 E_r
  obtain ⟨_, _, ⟨T3, L3, k3, n3⟩, -, X3, ⟨Lc3, hQ3, ll3, ly3, lz3⟩, st3⟩ := X2.virtualBack hx (y := (⟨"java/lang/String", "length", "()I"⟩ : MethodName)) (z := (⟨"java/lang/String", "length", "()I"⟩ : MethodName)) hown (mvT hZ (hw _ (List.mem_of_getElem? (i := 30) rfl))) (mvT hZ (hw _ (List.mem_of_getElem? (i := 31) rfl))) (notFace_of_selects (args := #[]) (mvT hZ (hw _ (List.mem_of_getElem? (i := 33) rfl)))) (mvT hZ (hw _ (List.mem_of_getElem? (i := 33) rfl))) (mvT hZ (hw _ (List.mem_of_getElem? (i := 32) rfl))) (by decide) (backOf (W := 3) (rm5 l Z a0 hw [] r0 vb kb wc h0 n0 Z0 E_r F_c F_v V_b S_c hwc) hZ (hw _ (List.mem_of_getElem? (i := 34) rfl)) (hw _ (List.mem_of_getElem? (i := 5) rfl)) (by decide) (by decide)) q3a q3c (g := (mkF m 14 #[.val (.ref r0), .val (.int p1), .val (.int (0 : Int32))] [(.ref r0), (.int (0 : Int32)), (.int p1), (.ref vb)])) rfl (by rw [hml]; rfl) (Steps.refl _) (argsL := []) (rest := [(.int (0 : Int32)), (.int p1), (.ref vb)]) (lenOf pd___I rfl) rfl (by show 2 * 0 + _ ≤ _; exact Nat.le_of_eq rfl) (hb hby d3_14) (fun _ _ => ⟨rfl, e2, (by decide : 0 + 0 ≤ _), (by decide : 0 + 0 ≤ _)⟩)
  dsimp only [Pt.U, Pt.locs, Pt.cells, Pt.slots] at X3 ll3 ly3 lz3 st3 hQ3
  subst ll3 ly3 lz3
  obtain ⟨rfl, N3q, e3⟩ := hQ3
  have N3 := Fr.app N1 N3q
  obtain ⟨_, _, ⟨T4, L4, k4, n4⟩, -, X4, ⟨Lc4, hQ4, ll4, ly4, lz4⟩, st4⟩ := Jvm.LawKit.callS X3 hx (y := (⟨"java/lang/StringLatin1", "indexOf", "([BIII)I"⟩ : MethodName)) hown (mvT hZ (hw _ (List.mem_of_getElem? (i := 40) rfl))) (mvT hZ (hw _ (List.mem_of_getElem? (i := 41) rfl))) (mvT hZ (hw _ (List.mem_of_getElem? (i := 42) rfl))) (mvT hZ (hw _ (List.mem_of_getElem? (i := 43) rfl))) (by decide) (backOf (W := 0) (rm7 l Z a0 hw [] vb p1 kb h0 n0 Z0 V_b) hZ (hw _ (List.mem_of_getElem? (i := 43) rfl)) (hw _ (List.mem_of_getElem? (i := 42) rfl)) (by decide) (by decide)) (g := (mkF m 17 #[.val (.ref r0), .val (.int p1), .val (.int (0 : Int32))] [(.int (15 : Int32)), (.int (0 : Int32)), (.int p1), (.ref vb)])) rfl (by rw [hml]; rfl) (argsL := [(.ref vb), (.int p1), (.int (0 : Int32)), (.int (15 : Int32))]) (rest := []) (lenOf pd___BIII_I rfl) rfl (by show 2 * 0 + _ ≤ _; exact Nat.le_of_eq rfl) (hb hby d3_17) (fun _ _ => ⟨rfl, e3, (by decide : 0 + 0 ≤ _), (by decide : 0 + 0 ≤ _)⟩)
  dsimp only [Pt.U, Pt.locs, Pt.cells, Pt.slots] at X4 ll4 ly4 lz4 st4 hQ4
  subst ll4 ly4 lz4
  obtain ⟨rfl, N4q, e4⟩ := hQ4
  have N4 := Fr.app N3 N4q
  obtain ⟨fs, hr, hrun, hended, hW, hsame⟩ := X4.leave (v := some (.int (F7 p1))) (fun h => by rw [Bd.returns] at h; cases h)
  refine ⟨_, _, pre0 _ ?_, hrun, hended, _, _, rfl, ?_, ⟨_, rfl⟩, hW, hsame.mono (by decide) (by decide)⟩
  · show Steps p.tables e below (s₁.setTop (mkF m 0 #[.val (.ref r0), .val (.int p1), .val (.int (0 : Int32))] [])) _
    refine XS.aloadN X0.here hx rfl (hb hby d3_0) rfl rfl ?_
    show Steps p.tables e below (s₁.setTop (mkF m 1 #[.val (.ref r0), .val (.int p1), .val (.int (0 : Int32))] [(.ref r0)])) _
    refine st1.trans ?_
    show Steps p.tables e below (T1.setTop (mkF m 4 #[.val (.ref r0), .val (.int p1), .val (.int (0 : Int32))] [(.int (1 : Int32))])) _
    refine XS.ifNo X1.here hx rfl (hb hby d3_4) rfl ((if0 _ _).trans (feq (by decide : ¬ ((1 : Int32) = (0 : Int32)))).1) ?_
    show Steps p.tables e below (T1.setTop (mkF m 7 #[.val (.ref r0), .val (.int p1), .val (.int (0 : Int32))] [])) _
    refine XS.aloadN X1.here hx rfl (hb hby d3_7) rfl rfl ?_
    show Steps p.tables e below (T1.setTop (mkF m 8 #[.val (.ref r0), .val (.int p1), .val (.int (0 : Int32))] [(.ref r0)])) _
    refine st2 _ ?_
    show Steps p.tables e below (T2.setTop (mkF m 11 #[.val (.ref r0), .val (.int p1), .val (.int (0 : Int32))] [(.ref vb)])) _
    refine XS.iloadN X2.here hx rfl (hb hby d3_11) rfl ?_
    show Steps p.tables e below (T2.setTop (mkF m 12 #[.val (.ref r0), .val (.int p1), .val (.int (0 : Int32))] [(.int p1), (.ref vb)])) _
    refine XS.iloadN X2.here hx rfl (hb hby d3_12) rfl ?_
    show Steps p.tables e below (T2.setTop (mkF m 13 #[.val (.ref r0), .val (.int p1), .val (.int (0 : Int32))] [(.int (0 : Int32)), (.int p1), (.ref vb)])) _
    refine XS.aloadN X2.here hx rfl (hb hby d3_13) rfl rfl ?_
    show Steps p.tables e below (T2.setTop (mkF m 14 #[.val (.ref r0), .val (.int p1), .val (.int (0 : Int32))] [(.ref r0), (.int (0 : Int32)), (.int p1), (.ref vb)])) _
    refine st3.trans ?_
    show Steps p.tables e below (T3.setTop (mkF m 17 #[.val (.ref r0), .val (.int p1), .val (.int (0 : Int32))] [(.int (15 : Int32)), (.int (0 : Int32)), (.int p1), (.ref vb)])) _
    refine st4 _ ?_
    show Steps p.tables e below (T4.setTop (mkF m 20 #[.val (.ref r0), .val (.int p1), .val (.int (0 : Int32))] [(.int (F7 p1))])) _
    refine XS.goto X4.here hx rfl (pc0 := 20) (pc' := 36) rfl (hb hby d3_20) (by decide) (by decide) ?_
    show Steps p.tables e below (T4.setTop (mkF m 36 #[.val (.ref r0), .val (.int p1), .val (.int (0 : Int32))] [(.int (F7 p1))])) _
    exact retI X4 hx Bd.returns (hb hby d3_36) hr
  · show Q3 Z r0 p1 vb kb wc h0 n0 _ T4.heap _
    rw [e4]
    exact ⟨rfl, N4, rfl⟩
theorem d2_0 : decode jdk_42_method_79_code 0 = .ok (.aload_n 0, 1) := by decide +kernel
theorem d2_1 : decode jdk_42_method_79_code 1 = .ok (.iload_n 1, 1) := by decide +kernel
theorem d2_2 : decode jdk_42_method_79_code 2 = .ok (.iconst 0, 1) := by decide +kernel
theorem d2_3 : decode jdk_42_method_79_code 3 = .ok (.invokevirtual 633, 3) := by decide +kernel
theorem d2_6 : decode jdk_42_method_79_code 6 = .ok (.ireturn, 1) := by decide +kernel
theorem ef_2 (r0 : Addr) (p1 : Int32) (vb : Addr) (kb : ClassId) (wc : Int32) (m : MethodId) : entryFrame m #[(.ref r0), (.int p1)] 2 = mkF m 0 #[.val (.ref r0), .val (.int p1)] [] := by first | (simp [entryFrame, mkF, argsToLocals, Value.category]; done) | rfl
def F2 (p1 : Int32) : Int32 := (F3 p1)
def Q2 (Z : State) (r0 : Addr) (p1 : Int32) (vb : Addr) (kb : ClassId) (wc : Int32) (h0 : Heap) (n0 : Nat) (v : Option Value) (h : Heap) (L : List Loc) : Prop := v = some (.int (F2 p1)) ∧ Fr n0 L ∧ h = h0
set_option maxRecDepth 65536 in
set_option maxHeartbeats 40000000 in
theorem rm2 (l : Launch) (Z : State) (a0 : Array Value) (hw : ∀ d ∈ tables_1, d.before a0 Z = true) (ws : List Jvm.Cond) (r0 : Addr) (p1 : Int32) (vb : Addr) (kb : ClassId) (wc : Int32) (h0 : Heap) (n0 : Nat) (Z0 : n0 ≤ h0.size) (E_r : Exa Z h0 r0 "java/lang/String") (F_c : Fld Z h0 r0 "java/lang/String" "coder" "B" (.int (0 : Int32))) (F_v : Fld Z h0 r0 "java/lang/String" "value" "[B" (.ref vb)) (V_b : Arv Z h0 vb kb .byte (15 : Int32) [(.int (33 : Int32)), (.int (35 : Int32)), (.int (36 : Int32)), (.int (37 : Int32)), (.int (38 : Int32)), (.int (39 : Int32)), (.int (42 : Int32)), (.int (43 : Int32)), (.int (45 : Int32)), (.int (46 : Int32)), (.int (94 : Int32)), (.int (95 : Int32)), (.int (96 : Int32)), (.int (124 : Int32)), (.int (126 : Int32))] (.int (0 : Int32))) (S_c : Sta Z h0 "java/lang/String" "COMPACT_STRINGS" "Z" (.int wc)) (hwc : ¬ (wc = (0 : Int32))) :
    MetFree l (⟨"java/lang/String", "indexOf", "(I)I"⟩ : MethodName) (head1 (Jvm.Cond.code (⟨"java/lang/String", "indexOf", "(I)I"⟩ : MethodName) jdk_42_method_79_code 2 (some .int) :: ws) ({ frames := 3, cells := 0, slots := 0, locals := 46 } : Room)) (fun a U => a = #[(.ref r0), (.int p1)] ∧ Z.Warmed39 U.vm ∧ U.heap = h0) (fun _ _ _ _ _ => True) (fun _ U o U' => ∃ v L, o = .returned v ∧ Q2 Z r0 p1 vb kb wc h0 n0 v U'.heap L ∧ FrameEnd U o U' L ({ frames := 3, cells := 0, slots := 0, locals := 46 } : Room).cells ({ frames := 3, cells := 0, slots := 0, locals := 46 } : Room).slots) := by
  refine MetFree.of_bodySF (plainFor_of_name pn_java_lang_String) hisR ?_
  intro p e s m args below meth c s₁ Bd hml0 hP hK
  obtain ⟨rfl, hZ, hh⟩ := hP
  have hx := Bd.exec
  have hby := Bd.bytes
  have hml : c.maxLocals = 2 := hml0
  have hown : s.vm.findClass "java/lang/String" = some m.cls := findClass_of_methodNamed Bd.named
  have hnm := (name_of_methodNamed Bd.named Bd.method).1
  have X0 : Stand p l e ({ frames := 3, cells := 0, slots := 0, locals := 46 } : Room) s m #[(.ref r0), (.int p1)] below meth c s₁ [] 0 0 := Stand.of_body Bd
  have e0 : s₁.heap = h0 := by rw [← hh, Bd.state]; rfl
  have N0 := Fr.nil n0
  have pre0 : ∀ t, Steps p.tables e below (s₁.setTop (mkF m 0 #[.val (.ref r0), .val (.int p1)] [])) t → Steps p.tables e below (s₁.setTop (entryFrame m #[(.ref r0), (.int p1)] 2)) t := fun t k => castTop (ef_2 r0 p1 vb kb wc m) k
  obtain ⟨cq1, kq1, q1a, q1b, q1c⟩ := isOf hZ e0 E_r
  obtain ⟨_, _, ⟨T1, L1, k1, n1⟩, -, X1, ⟨Lc1, hQ1, ll1, ly1, lz1⟩, st1⟩ := X0.virtualBack hx (y := (⟨"java/lang/String", "indexOf", "(II)I"⟩ : MethodName)) (z := (⟨"java/lang/String", "indexOf", "(II)I"⟩ : MethodName)) hown (mvT hZ (hw _ (List.mem_of_getElem? (i := 17) rfl))) (mvT hZ (hw _ (List.mem_of_getElem? (i := 18) rfl))) (notFace_of_selects (args := #[]) (mvT hZ (hw _ (List.mem_of_getElem? (i := 20) rfl)))) (mvT hZ (hw _ (List.mem_of_getElem? (i := 20) rfl))) (mvT hZ (hw _ (List.mem_of_getElem? (i := 19) rfl))) (by decide) (backOf (W := 0) (rm3 l Z a0 hw [] r0 p1 vb kb wc h0 n0 Z0 E_r F_c F_v V_b S_c hwc) hZ (hw _ (List.mem_of_getElem? (i := 21) rfl)) (hw _ (List.mem_of_getElem? (i := 5) rfl)) (by decide) (by decide)) q1a q1c (g := (mkF m 3 #[.val (.ref r0), .val (.int p1)] [(.int (0 : Int32)), (.int p1), (.ref r0)])) rfl (by rw [hml]; rfl) (Steps.refl _) (argsL := [(.int p1), (.int (0 : Int32))]) (rest := []) (lenOf pd__II_I rfl) rfl (by show 2 * 0 + _ ≤ _; exact Nat.le_of_eq rfl) (hb hby d2_3) (fun _ _ => ⟨rfl, e0, (by decide : 0 + 0 ≤ _), (by decide : 0 + 0 ≤ _)⟩)
  dsimp only [Pt.U, Pt.locs, Pt.cells, Pt.slots] at X1 ll1 ly1 lz1 st1 hQ1
  subst ll1 ly1 lz1
  obtain ⟨rfl, N1q, e1⟩ := hQ1
  have N1 := Fr.app N0 N1q
  obtain ⟨fs, hr, hrun, hended, hW, hsame⟩ := X1.leave (v := some (.int (F3 p1))) (fun h => by rw [Bd.returns] at h; cases h)
  refine ⟨_, _, pre0 _ ?_, hrun, hended, _, _, rfl, ?_, ⟨_, rfl⟩, hW, hsame.mono (by decide) (by decide)⟩
  · show Steps p.tables e below (s₁.setTop (mkF m 0 #[.val (.ref r0), .val (.int p1)] [])) _
    refine XS.aloadN X0.here hx rfl (hb hby d2_0) rfl rfl ?_
    show Steps p.tables e below (s₁.setTop (mkF m 1 #[.val (.ref r0), .val (.int p1)] [(.ref r0)])) _
    refine XS.iloadN X0.here hx rfl (hb hby d2_1) rfl ?_
    show Steps p.tables e below (s₁.setTop (mkF m 2 #[.val (.ref r0), .val (.int p1)] [(.int p1), (.ref r0)])) _
    refine XS.iconst X0.here hx rfl (hb hby d2_2) ?_
    show Steps p.tables e below (s₁.setTop (mkF m 3 #[.val (.ref r0), .val (.int p1)] [(.int (0 : Int32)), (.int p1), (.ref r0)])) _
    refine st1.trans ?_
    show Steps p.tables e below (T1.setTop (mkF m 6 #[.val (.ref r0), .val (.int p1)] [(.int (F3 p1))])) _
    exact retI X1 hx Bd.returns (hb hby d2_6) hr
  · show Q2 Z r0 p1 vb kb wc h0 n0 _ T1.heap _
    rw [e1]
    exact ⟨rfl, N1, rfl⟩
theorem d1_0 : decode prog_3_method_13_code 0 = .ok (.iload_n 0, 1) := by decide +kernel
theorem d1_1 : decode prog_3_method_13_code 1 = .ok (.bipush 97, 2) := by decide +kernel
theorem d1_3 : decode prog_3_method_13_code 3 = .ok (.if_icmp .lt 9, 3) := by decide +kernel
theorem d1_6 : decode prog_3_method_13_code 6 = .ok (.iload_n 0, 1) := by decide +kernel
theorem d1_7 : decode prog_3_method_13_code 7 = .ok (.bipush 122, 2) := by decide +kernel
theorem d1_9 : decode prog_3_method_13_code 9 = .ok (.if_icmp .le 36, 3) := by decide +kernel
theorem d1_12 : decode prog_3_method_13_code 12 = .ok (.iload_n 0, 1) := by decide +kernel
theorem d1_13 : decode prog_3_method_13_code 13 = .ok (.bipush 65, 2) := by decide +kernel
theorem d1_15 : decode prog_3_method_13_code 15 = .ok (.if_icmp .lt 9, 3) := by decide +kernel
theorem d1_18 : decode prog_3_method_13_code 18 = .ok (.iload_n 0, 1) := by decide +kernel
theorem d1_19 : decode prog_3_method_13_code 19 = .ok (.bipush 90, 2) := by decide +kernel
theorem d1_21 : decode prog_3_method_13_code 21 = .ok (.if_icmp .le 24, 3) := by decide +kernel
theorem d1_24 : decode prog_3_method_13_code 24 = .ok (.iload_n 0, 1) := by decide +kernel
theorem d1_25 : decode prog_3_method_13_code 25 = .ok (.bipush 48, 2) := by decide +kernel
theorem d1_27 : decode prog_3_method_13_code 27 = .ok (.if_icmp .lt 9, 3) := by decide +kernel
theorem d1_30 : decode prog_3_method_13_code 30 = .ok (.iload_n 0, 1) := by decide +kernel
theorem d1_31 : decode prog_3_method_13_code 31 = .ok (.bipush 57, 2) := by decide +kernel
theorem d1_33 : decode prog_3_method_13_code 33 = .ok (.if_icmp .le 12, 3) := by decide +kernel
theorem d1_36 : decode prog_3_method_13_code 36 = .ok (.ldc 212, 2) := by decide +kernel
theorem d1_38 : decode prog_3_method_13_code 38 = .ok (.iload_n 0, 1) := by decide +kernel
theorem d1_39 : decode prog_3_method_13_code 39 = .ok (.invokevirtual 214, 3) := by decide +kernel
theorem d1_42 : decode prog_3_method_13_code 42 = .ok (.ifCond .lt 7, 3) := by decide +kernel
theorem d1_45 : decode prog_3_method_13_code 45 = .ok (.iconst 1, 1) := by decide +kernel
theorem d1_46 : decode prog_3_method_13_code 46 = .ok (.goto 4, 3) := by decide +kernel
theorem d1_49 : decode prog_3_method_13_code 49 = .ok (.iconst 0, 1) := by decide +kernel
theorem d1_50 : decode prog_3_method_13_code 50 = .ok (.ireturn, 1) := by decide +kernel
theorem pn_com_example_admission_for_endpoints_admissionforendpoints_EndpointRequest : plainName "com/example/admission_for_endpoints/admissionforendpoints/EndpointRequest" = true := by first | (simp [plainName, overriddenIn]; done) | decide +kernel
theorem pd__I_I : parseMethodDescriptor "(I)I" = some ⟨[.int], some .int⟩ := by decide +kernel
theorem ef_1 (p0 : Int32) (wc : Int32) (m : MethodId) : entryFrame m #[(.int p0)] 1 = mkF m 0 #[.val (.int p0)] [] := by first | (simp [entryFrame, mkF, argsToLocals, Value.category]; done) | rfl
def F1 (p0 : Int32) : Int32 := (if p0 < (97 : Int32) then (if p0 < (65 : Int32) then (if p0 < (48 : Int32) then (if (F2 p0) < (0 : Int32) then (0 : Int32) else (1 : Int32)) else (if (57 : Int32) < p0 then (if (F2 p0) < (0 : Int32) then (0 : Int32) else (1 : Int32)) else (1 : Int32))) else (if (90 : Int32) < p0 then (if p0 < (48 : Int32) then (if (F2 p0) < (0 : Int32) then (0 : Int32) else (1 : Int32)) else (if (57 : Int32) < p0 then (if (F2 p0) < (0 : Int32) then (0 : Int32) else (1 : Int32)) else (1 : Int32))) else (1 : Int32))) else (if (122 : Int32) < p0 then (if p0 < (65 : Int32) then (if p0 < (48 : Int32) then (if (F2 p0) < (0 : Int32) then (0 : Int32) else (1 : Int32)) else (if (57 : Int32) < p0 then (if (F2 p0) < (0 : Int32) then (0 : Int32) else (1 : Int32)) else (1 : Int32))) else (if (90 : Int32) < p0 then (if p0 < (48 : Int32) then (if (F2 p0) < (0 : Int32) then (0 : Int32) else (1 : Int32)) else (if (57 : Int32) < p0 then (if (F2 p0) < (0 : Int32) then (0 : Int32) else (1 : Int32)) else (1 : Int32))) else (1 : Int32))) else (1 : Int32)))
def Q1 (Z : State) (p0 : Int32) (wc : Int32) (h0 : Heap) (n0 : Nat) (v : Option Value) (h : Heap) (L : List Loc) : Prop := v = some (.int (F1 p0)) ∧ Fr n0 L ∧ Keep h0 h []
set_option maxRecDepth 65536 in
set_option maxHeartbeats 40000000 in
theorem rm1 (l : Launch) (Z : State) (a0 : Array Value) (hw : ∀ d ∈ tables_1, d.before a0 Z = true) (ws : List Jvm.Cond) (p0 : Int32) (wc : Int32) (h0 : Heap) (n0 : Nat) (Z0 : n0 ≤ h0.size) (S_c : Sta Z h0 "java/lang/String" "COMPACT_STRINGS" "Z" (.int wc)) (hwc : ¬ (wc = (0 : Int32))) :
    MetFree l (⟨"com/example/admission_for_endpoints/admissionforendpoints/EndpointRequest", "isTokenChar", "(I)Z"⟩ : MethodName) (head1 (Jvm.Cond.code (⟨"com/example/admission_for_endpoints/admissionforendpoints/EndpointRequest", "isTokenChar", "(I)Z"⟩ : MethodName) prog_3_method_13_code 1 (some .boolean) :: ws) ({ frames := 4, cells := 2, slots := 64, locals := 59 } : Room)) (fun a U => a = #[(.int p0)] ∧ Z.Warmed39 U.vm ∧ U.heap = h0 ∧ CHv Z ELs U.vm h0) (fun _ _ _ _ _ => True) (fun _ U o U' => ∃ v L, o = .returned v ∧ Q1 Z p0 wc h0 n0 v U'.heap L ∧ CHr Z ELs U.vm U.heap U'.vm U'.heap ∧ ReturnedEndW U o U' L ({ frames := 4, cells := 2, slots := 64, locals := 59 } : Room).cells ({ frames := 4, cells := 2, slots := 64, locals := 59 } : Room).slots) := by
  refine MetFree.of_bodySF (plainFor_of_name pn_com_example_admission_for_endpoints_admissionforendpoints_EndpointRequest) hisR ?_
  intro p e s m args below meth c s₁ Bd hml0 hP hK
  obtain ⟨rfl, hZ, hh, hCH0⟩ := hP
  have hx := Bd.exec
  have hby := Bd.bytes
  have hml : c.maxLocals = 1 := hml0
  have hown : s.vm.findClass "com/example/admission_for_endpoints/admissionforendpoints/EndpointRequest" = some m.cls := findClass_of_methodNamed Bd.named
  have hnm := (name_of_methodNamed Bd.named Bd.method).1
  have X0 : Stand p l e ({ frames := 4, cells := 2, slots := 64, locals := 59 } : Room) (s.setVm s.vm) m #[(.int p0)] below meth c s₁ [] 0 0 := Stand.of_body Bd
  have e0 : s₁.heap = h0 := by rw [← hh, Bd.state]; rfl
  have N0 := Fr.nil n0
  have pre0 : ∀ t, Steps p.tables e below (s₁.setTop (mkF m 0 #[.val (.int p0)] [])) t → Steps p.tables e below (s₁.setTop (entryFrame m #[(.int p0)] 1)) t := fun t k => castTop (ef_1 p0 wc m) k
  have hS0 : s.Since s.vm 0 := (State.WarmedH.refl s).since 0
  have hk0 : 0 ≤ h0.size := Nat.zero_le _
  have CR0 : CHr Z ELs s.vm h0 s.vm h0 := CHr.refl hCH0
  have hEL : EW Z a0 ELs := own_EW hw
  have own_wS := own_strW hw
  have pre1 : ∀ t, Steps p.tables e below (s₁.setTop (mkF m 3 #[.val (.int p0)] [(.int (97 : Int32)), (.int p0)])) t → Steps p.tables e below (s₁.setTop (entryFrame m #[(.int p0)] 1)) t := fun t kt => pre0 t (by
    show Steps p.tables e below (s₁.setTop (mkF m 0 #[.val (.int p0)] [])) _
    refine XS.iloadN X0.here hx rfl (hb hby d1_0) rfl ?_
    show Steps p.tables e below (s₁.setTop (mkF m 1 #[.val (.int p0)] [(.int p0)])) _
    refine XS.bipush X0.here hx rfl (hb hby d1_1) ?_
    exact kt)
  by_cases hc3 : p0 < (97 : Int32)
  · have pre2 : ∀ t, Steps p.tables e below (s₁.setTop (mkF m 15 #[.val (.int p0)] [(.int (65 : Int32)), (.int p0)])) t → Steps p.tables e below (s₁.setTop (entryFrame m #[(.int p0)] 1)) t := fun t kt => pre1 t (by
      show Steps p.tables e below (s₁.setTop (mkF m 3 #[.val (.int p0)] [(.int (97 : Int32)), (.int p0)])) _
      refine XS.icmpYes X0.here hx rfl (pc0 := 3) (pc' := 12) rfl (hb hby d1_3) rfl (tlt hc3).1 (by decide) (by decide) ?_
      show Steps p.tables e below (s₁.setTop (mkF m 12 #[.val (.int p0)] [])) _
      refine XS.iloadN X0.here hx rfl (hb hby d1_12) rfl ?_
      show Steps p.tables e below (s₁.setTop (mkF m 13 #[.val (.int p0)] [(.int p0)])) _
      refine XS.bipush X0.here hx rfl (hb hby d1_13) ?_
      exact kt)
    by_cases hc15 : p0 < (65 : Int32)
    · have pre3 : ∀ t, Steps p.tables e below (s₁.setTop (mkF m 27 #[.val (.int p0)] [(.int (48 : Int32)), (.int p0)])) t → Steps p.tables e below (s₁.setTop (entryFrame m #[(.int p0)] 1)) t := fun t kt => pre2 t (by
        show Steps p.tables e below (s₁.setTop (mkF m 15 #[.val (.int p0)] [(.int (65 : Int32)), (.int p0)])) _
        refine XS.icmpYes X0.here hx rfl (pc0 := 15) (pc' := 24) rfl (hb hby d1_15) rfl (tlt hc15).1 (by decide) (by decide) ?_
        show Steps p.tables e below (s₁.setTop (mkF m 24 #[.val (.int p0)] [])) _
        refine XS.iloadN X0.here hx rfl (hb hby d1_24) rfl ?_
        show Steps p.tables e below (s₁.setTop (mkF m 25 #[.val (.int p0)] [(.int p0)])) _
        refine XS.bipush X0.here hx rfl (hb hby d1_25) ?_
        exact kt)
      by_cases hc27 : p0 < (48 : Int32)
      · obtain ⟨a4, T4, h4, k14, b4, kc4, X4, e4, E4, hS4, hk4, hZ4, hown4, A4, Fc4, Fv4, V_b4, la4, lb4, CQ4, Li4, sf4, st4⟩ := ldcCH (vs := [(.int (33 : Int32)), (.int (35 : Int32)), (.int (36 : Int32)), (.int (37 : Int32)), (.int (38 : Int32)), (.int (39 : Int32)), (.int (42 : Int32)), (.int (43 : Int32)), (.int (45 : Int32)), (.int (46 : Int32)), (.int (94 : Int32)), (.int (95 : Int32)), (.int (96 : Int32)), (.int (124 : Int32)), (.int (126 : Int32))]) (z := (15 : Int32)) X0 hx hZ hown (hw _ (List.mem_of_getElem? (i := 4) rfl)) own_wS e0 hS0 hk0 hEL (List.mem_of_getElem? (i := 0) rfl) CR0.1 own_lit1 (by decide) (by decide) (g := (mkF m 36 #[.val (.int p0)] [])) rfl (hb hby d1_36) (n := 60) (by decide +kernel) (by decide) (by decide) (by decide)
        have CR4 := CHr.trans CR0 CQ4
        have K4 : Keep h0 h4 [] := (Keep.refl h0 []).ext E4
        obtain ⟨cq5, kq5, q5a, q5b, q5c⟩ := isOf hZ4 e4 A4
        obtain ⟨_, _, ⟨T5, L5, k5, n5⟩, -, X5, ⟨Lc5, hQ5, ll5, ly5, lz5⟩, st5⟩ := X4.virtualBack hx (y := (⟨"java/lang/String", "indexOf", "(I)I"⟩ : MethodName)) (z := (⟨"java/lang/String", "indexOf", "(I)I"⟩ : MethodName)) hown4 (mvT hZ4 (hw _ (List.mem_of_getElem? (i := 12) rfl))) (mvT hZ4 (hw _ (List.mem_of_getElem? (i := 13) rfl))) (notFace_of_selects (args := #[]) (mvT hZ4 (hw _ (List.mem_of_getElem? (i := 15) rfl)))) (mvT hZ4 (hw _ (List.mem_of_getElem? (i := 15) rfl))) (mvT hZ4 (hw _ (List.mem_of_getElem? (i := 14) rfl))) (by decide) (backOf (W := 0) (rm2 l Z a0 hw [] a4 p0 b4 kc4 wc h4 n0 (Nat.le_trans Z0 E4.1) A4 Fc4 Fv4 V_b4 (Sta.ext E4 S_c) hwc) hZ4 (hw _ (List.mem_of_getElem? (i := 16) rfl)) (hw _ (List.mem_of_getElem? (i := 5) rfl)) (by decide) (by decide)) q5a q5c (g := (mkF m 39 #[.val (.int p0)] [(.int p0), (.ref a4)])) rfl (by rw [hml]; rfl) (Steps.refl _) (argsL := [(.int p0)]) (rest := []) (lenOf pd__I_I rfl) rfl (by show 2 * 0 + _ ≤ _; exact Nat.le_of_eq rfl) (hb hby d1_39) (fun _ _ => ⟨rfl, e4, (by decide : 2 + 0 ≤ _), (by decide : 64 + 0 ≤ _)⟩)
        dsimp only [Pt.U, Pt.locs, Pt.cells, Pt.slots] at X5 ll5 ly5 lz5 st5 hQ5
        subst ll5 ly5 lz5
        obtain ⟨rfl, N5q, e5⟩ := hQ5
        have N5 := Fr.app N0 N5q
        have pre6 : ∀ t, Steps p.tables e below (T5.setTop (mkF m 42 #[.val (.int p0)] [(.int (F2 p0))])) t → Steps p.tables e below (s₁.setTop (entryFrame m #[(.int p0)] 1)) t := fun t kt => pre3 t (by
          show Steps p.tables e below (s₁.setTop (mkF m 27 #[.val (.int p0)] [(.int (48 : Int32)), (.int p0)])) _
          refine XS.icmpYes X0.here hx rfl (pc0 := 27) (pc' := 36) rfl (hb hby d1_27) rfl (tlt hc27).1 (by decide) (by decide) ?_
          show Steps p.tables e below (s₁.setTop (mkF m 36 #[.val (.int p0)] [])) _
          refine st4 _ ?_
          show Steps p.tables e below (T4.setTop (mkF m 38 #[.val (.int p0)] [(.ref a4)])) _
          refine XS.iloadN X4.here hx rfl (hb hby d1_38) rfl ?_
          show Steps p.tables e below (T4.setTop (mkF m 39 #[.val (.int p0)] [(.int p0), (.ref a4)])) _
          refine st5.trans ?_
          exact kt)
        by_cases hc42 : (F2 p0) < (0 : Int32)
        · obtain ⟨fs, hr, hrun, hended, hEnd⟩ := X5.leaveW hS4 (by rw [e5]; exact hk4) (v := some (.int (0 : Int32))) (fun h => by rw [Bd.returns] at h; cases h)
          have CRe := CHr.trans CR4 (CHv.at X5 hZ4 hEL CR4.1)
          refine ⟨_, _, pre6 _ ?_, hrun, hended, _, _, rfl, ?_, ?_, hEnd.1, hEnd.2.1, hEnd.2.2.1, hEnd.2.2.2.mono (by decide) (by decide)⟩
          · show Steps p.tables e below (T5.setTop (mkF m 42 #[.val (.int p0)] [(.int (F2 p0))])) _
            refine XS.ifYes X5.here hx rfl (pc0 := 42) (pc' := 49) rfl (hb hby d1_42) rfl ((if0 _ _).trans (tlt hc42).1) (by decide) (by decide) ?_
            show Steps p.tables e below (T5.setTop (mkF m 49 #[.val (.int p0)] [])) _
            refine XS.iconst X5.here hx rfl (hb hby d1_49) ?_
            show Steps p.tables e below (T5.setTop (mkF m 50 #[.val (.int p0)] [(.int (0 : Int32))])) _
            exact retN X5 hx (t := .boolean) Bd.returns (by simp) (hb hby d1_50) hr
          · show Q1 Z p0 wc h0 n0 _ T5.heap _
            rw [e5]
            exact ⟨(by unfold F1; simp only [if_pos hc3, if_pos hc15, if_pos hc27, if_pos hc42]), N5, K4⟩
          · show CHr Z ELs s.vm s.heap T5.vm T5.heap
            rw [hh, e5]; exact CRe
        · obtain ⟨fs, hr, hrun, hended, hEnd⟩ := X5.leaveW hS4 (by rw [e5]; exact hk4) (v := some (.int (1 : Int32))) (fun h => by rw [Bd.returns] at h; cases h)
          have CRe := CHr.trans CR4 (CHv.at X5 hZ4 hEL CR4.1)
          refine ⟨_, _, pre6 _ ?_, hrun, hended, _, _, rfl, ?_, ?_, hEnd.1, hEnd.2.1, hEnd.2.2.1, hEnd.2.2.2.mono (by decide) (by decide)⟩
          · show Steps p.tables e below (T5.setTop (mkF m 42 #[.val (.int p0)] [(.int (F2 p0))])) _
            refine XS.ifNo X5.here hx rfl (hb hby d1_42) rfl ((if0 _ _).trans (flt hc42).1) ?_
            show Steps p.tables e below (T5.setTop (mkF m 45 #[.val (.int p0)] [])) _
            refine XS.iconst X5.here hx rfl (hb hby d1_45) ?_
            show Steps p.tables e below (T5.setTop (mkF m 46 #[.val (.int p0)] [(.int (1 : Int32))])) _
            refine XS.goto X5.here hx rfl (pc0 := 46) (pc' := 50) rfl (hb hby d1_46) (by decide) (by decide) ?_
            show Steps p.tables e below (T5.setTop (mkF m 50 #[.val (.int p0)] [(.int (1 : Int32))])) _
            exact retN X5 hx (t := .boolean) Bd.returns (by simp) (hb hby d1_50) hr
          · show Q1 Z p0 wc h0 n0 _ T5.heap _
            rw [e5]
            exact ⟨(by unfold F1; simp only [if_pos hc3, if_pos hc15, if_pos hc27, if_neg hc42]), N5, K4⟩
          · show CHr Z ELs s.vm s.heap T5.vm T5.heap
            rw [hh, e5]; exact CRe
      · have pre7 : ∀ t, Steps p.tables e below (s₁.setTop (mkF m 33 #[.val (.int p0)] [(.int (57 : Int32)), (.int p0)])) t → Steps p.tables e below (s₁.setTop (entryFrame m #[(.int p0)] 1)) t := fun t kt => pre3 t (by
          show Steps p.tables e below (s₁.setTop (mkF m 27 #[.val (.int p0)] [(.int (48 : Int32)), (.int p0)])) _
          refine XS.icmpNo X0.here hx rfl (hb hby d1_27) rfl (flt hc27).1 ?_
          show Steps p.tables e below (s₁.setTop (mkF m 30 #[.val (.int p0)] [])) _
          refine XS.iloadN X0.here hx rfl (hb hby d1_30) rfl ?_
          show Steps p.tables e below (s₁.setTop (mkF m 31 #[.val (.int p0)] [(.int p0)])) _
          refine XS.bipush X0.here hx rfl (hb hby d1_31) ?_
          exact kt)
        by_cases hc33 : (57 : Int32) < p0
        · obtain ⟨a8, T8, h8, k18, b8, kc8, X8, e8, E8, hS8, hk8, hZ8, hown8, A8, Fc8, Fv8, V_b8, la8, lb8, CQ8, Li8, sf8, st8⟩ := ldcCH (vs := [(.int (33 : Int32)), (.int (35 : Int32)), (.int (36 : Int32)), (.int (37 : Int32)), (.int (38 : Int32)), (.int (39 : Int32)), (.int (42 : Int32)), (.int (43 : Int32)), (.int (45 : Int32)), (.int (46 : Int32)), (.int (94 : Int32)), (.int (95 : Int32)), (.int (96 : Int32)), (.int (124 : Int32)), (.int (126 : Int32))]) (z := (15 : Int32)) X0 hx hZ hown (hw _ (List.mem_of_getElem? (i := 4) rfl)) own_wS e0 hS0 hk0 hEL (List.mem_of_getElem? (i := 0) rfl) CR0.1 own_lit1 (by decide) (by decide) (g := (mkF m 36 #[.val (.int p0)] [])) rfl (hb hby d1_36) (n := 60) (by decide +kernel) (by decide) (by decide) (by decide)
          have CR8 := CHr.trans CR0 CQ8
          have K8 : Keep h0 h8 [] := (Keep.refl h0 []).ext E8
          obtain ⟨cq9, kq9, q9a, q9b, q9c⟩ := isOf hZ8 e8 A8
          obtain ⟨_, _, ⟨T9, L9, k9, n9⟩, -, X9, ⟨Lc9, hQ9, ll9, ly9, lz9⟩, st9⟩ := X8.virtualBack hx (y := (⟨"java/lang/String", "indexOf", "(I)I"⟩ : MethodName)) (z := (⟨"java/lang/String", "indexOf", "(I)I"⟩ : MethodName)) hown8 (mvT hZ8 (hw _ (List.mem_of_getElem? (i := 12) rfl))) (mvT hZ8 (hw _ (List.mem_of_getElem? (i := 13) rfl))) (notFace_of_selects (args := #[]) (mvT hZ8 (hw _ (List.mem_of_getElem? (i := 15) rfl)))) (mvT hZ8 (hw _ (List.mem_of_getElem? (i := 15) rfl))) (mvT hZ8 (hw _ (List.mem_of_getElem? (i := 14) rfl))) (by decide) (backOf (W := 0) (rm2 l Z a0 hw [] a8 p0 b8 kc8 wc h8 n0 (Nat.le_trans Z0 E8.1) A8 Fc8 Fv8 V_b8 (Sta.ext E8 S_c) hwc) hZ8 (hw _ (List.mem_of_getElem? (i := 16) rfl)) (hw _ (List.mem_of_getElem? (i := 5) rfl)) (by decide) (by decide)) q9a q9c (g := (mkF m 39 #[.val (.int p0)] [(.int p0), (.ref a8)])) rfl (by rw [hml]; rfl) (Steps.refl _) (argsL := [(.int p0)]) (rest := []) (lenOf pd__I_I rfl) rfl (by show 2 * 0 + _ ≤ _; exact Nat.le_of_eq rfl) (hb hby d1_39) (fun _ _ => ⟨rfl, e8, (by decide : 2 + 0 ≤ _), (by decide : 64 + 0 ≤ _)⟩)
          dsimp only [Pt.U, Pt.locs, Pt.cells, Pt.slots] at X9 ll9 ly9 lz9 st9 hQ9
          subst ll9 ly9 lz9
          obtain ⟨rfl, N9q, e9⟩ := hQ9
          have N9 := Fr.app N0 N9q
          have pre10 : ∀ t, Steps p.tables e below (T9.setTop (mkF m 42 #[.val (.int p0)] [(.int (F2 p0))])) t → Steps p.tables e below (s₁.setTop (entryFrame m #[(.int p0)] 1)) t := fun t kt => pre7 t (by
            show Steps p.tables e below (s₁.setTop (mkF m 33 #[.val (.int p0)] [(.int (57 : Int32)), (.int p0)])) _
            refine XS.icmpNo X0.here hx rfl (hb hby d1_33) rfl (tlt hc33).2.2.2 ?_
            show Steps p.tables e below (s₁.setTop (mkF m 36 #[.val (.int p0)] [])) _
            refine st8 _ ?_
            show Steps p.tables e below (T8.setTop (mkF m 38 #[.val (.int p0)] [(.ref a8)])) _
            refine XS.iloadN X8.here hx rfl (hb hby d1_38) rfl ?_
            show Steps p.tables e below (T8.setTop (mkF m 39 #[.val (.int p0)] [(.int p0), (.ref a8)])) _
            refine st9.trans ?_
            exact kt)
          by_cases hc42 : (F2 p0) < (0 : Int32)
          · obtain ⟨fs, hr, hrun, hended, hEnd⟩ := X9.leaveW hS8 (by rw [e9]; exact hk8) (v := some (.int (0 : Int32))) (fun h => by rw [Bd.returns] at h; cases h)
            have CRe := CHr.trans CR8 (CHv.at X9 hZ8 hEL CR8.1)
            refine ⟨_, _, pre10 _ ?_, hrun, hended, _, _, rfl, ?_, ?_, hEnd.1, hEnd.2.1, hEnd.2.2.1, hEnd.2.2.2.mono (by decide) (by decide)⟩
            · show Steps p.tables e below (T9.setTop (mkF m 42 #[.val (.int p0)] [(.int (F2 p0))])) _
              refine XS.ifYes X9.here hx rfl (pc0 := 42) (pc' := 49) rfl (hb hby d1_42) rfl ((if0 _ _).trans (tlt hc42).1) (by decide) (by decide) ?_
              show Steps p.tables e below (T9.setTop (mkF m 49 #[.val (.int p0)] [])) _
              refine XS.iconst X9.here hx rfl (hb hby d1_49) ?_
              show Steps p.tables e below (T9.setTop (mkF m 50 #[.val (.int p0)] [(.int (0 : Int32))])) _
              exact retN X9 hx (t := .boolean) Bd.returns (by simp) (hb hby d1_50) hr
            · show Q1 Z p0 wc h0 n0 _ T9.heap _
              rw [e9]
              exact ⟨(by unfold F1; simp only [if_pos hc3, if_pos hc15, if_neg hc27, if_pos hc33, if_pos hc42]), N9, K8⟩
            · show CHr Z ELs s.vm s.heap T9.vm T9.heap
              rw [hh, e9]; exact CRe
          · obtain ⟨fs, hr, hrun, hended, hEnd⟩ := X9.leaveW hS8 (by rw [e9]; exact hk8) (v := some (.int (1 : Int32))) (fun h => by rw [Bd.returns] at h; cases h)
            have CRe := CHr.trans CR8 (CHv.at X9 hZ8 hEL CR8.1)
            refine ⟨_, _, pre10 _ ?_, hrun, hended, _, _, rfl, ?_, ?_, hEnd.1, hEnd.2.1, hEnd.2.2.1, hEnd.2.2.2.mono (by decide) (by decide)⟩
            · show Steps p.tables e below (T9.setTop (mkF m 42 #[.val (.int p0)] [(.int (F2 p0))])) _
              refine XS.ifNo X9.here hx rfl (hb hby d1_42) rfl ((if0 _ _).trans (flt hc42).1) ?_
              show Steps p.tables e below (T9.setTop (mkF m 45 #[.val (.int p0)] [])) _
              refine XS.iconst X9.here hx rfl (hb hby d1_45) ?_
              show Steps p.tables e below (T9.setTop (mkF m 46 #[.val (.int p0)] [(.int (1 : Int32))])) _
              refine XS.goto X9.here hx rfl (pc0 := 46) (pc' := 50) rfl (hb hby d1_46) (by decide) (by decide) ?_
              show Steps p.tables e below (T9.setTop (mkF m 50 #[.val (.int p0)] [(.int (1 : Int32))])) _
              exact retN X9 hx (t := .boolean) Bd.returns (by simp) (hb hby d1_50) hr
            · show Q1 Z p0 wc h0 n0 _ T9.heap _
              rw [e9]
              exact ⟨(by unfold F1; simp only [if_pos hc3, if_pos hc15, if_neg hc27, if_pos hc33, if_neg hc42]), N9, K8⟩
            · show CHr Z ELs s.vm s.heap T9.vm T9.heap
              rw [hh, e9]; exact CRe
        · obtain ⟨fs, hr, hrun, hended, hEnd⟩ := X0.leaveW hS0 (by rw [e0]; exact hk0) (v := some (.int (1 : Int32))) (fun h => by rw [Bd.returns] at h; cases h)
          have CRe := CHr.trans CR0 (CHv.at X0 hZ hEL CR0.1)
          refine ⟨_, _, pre7 _ ?_, hrun, hended, _, _, rfl, ?_, ?_, hEnd.1, hEnd.2.1, hEnd.2.2.1, hEnd.2.2.2.mono (by decide) (by decide)⟩
          · show Steps p.tables e below (s₁.setTop (mkF m 33 #[.val (.int p0)] [(.int (57 : Int32)), (.int p0)])) _
            refine XS.icmpYes X0.here hx rfl (pc0 := 33) (pc' := 45) rfl (hb hby d1_33) rfl (flt hc33).2.2.2 (by decide) (by decide) ?_
            show Steps p.tables e below (s₁.setTop (mkF m 45 #[.val (.int p0)] [])) _
            refine XS.iconst X0.here hx rfl (hb hby d1_45) ?_
            show Steps p.tables e below (s₁.setTop (mkF m 46 #[.val (.int p0)] [(.int (1 : Int32))])) _
            refine XS.goto X0.here hx rfl (pc0 := 46) (pc' := 50) rfl (hb hby d1_46) (by decide) (by decide) ?_
            show Steps p.tables e below (s₁.setTop (mkF m 50 #[.val (.int p0)] [(.int (1 : Int32))])) _
            exact retN X0 hx (t := .boolean) Bd.returns (by simp) (hb hby d1_50) hr
          · show Q1 Z p0 wc h0 n0 _ s₁.heap _
            rw [e0]
            exact ⟨(by unfold F1; simp only [if_pos hc3, if_pos hc15, if_neg hc27, if_neg hc33]), N0, (Keep.refl h0 [])⟩
          · show CHr Z ELs s.vm s.heap s₁.vm s₁.heap
            rw [hh, e0]; exact CRe
    · have pre11 : ∀ t, Steps p.tables e below (s₁.setTop (mkF m 21 #[.val (.int p0)] [(.int (90 : Int32)), (.int p0)])) t → Steps p.tables e below (s₁.setTop (entryFrame m #[(.int p0)] 1)) t := fun t kt => pre2 t (by
        show Steps p.tables e below (s₁.setTop (mkF m 15 #[.val (.int p0)] [(.int (65 : Int32)), (.int p0)])) _
        refine XS.icmpNo X0.here hx rfl (hb hby d1_15) rfl (flt hc15).1 ?_
        show Steps p.tables e below (s₁.setTop (mkF m 18 #[.val (.int p0)] [])) _
        refine XS.iloadN X0.here hx rfl (hb hby d1_18) rfl ?_
        show Steps p.tables e below (s₁.setTop (mkF m 19 #[.val (.int p0)] [(.int p0)])) _
        refine XS.bipush X0.here hx rfl (hb hby d1_19) ?_
        exact kt)
      by_cases hc21 : (90 : Int32) < p0
      · have pre12 : ∀ t, Steps p.tables e below (s₁.setTop (mkF m 27 #[.val (.int p0)] [(.int (48 : Int32)), (.int p0)])) t → Steps p.tables e below (s₁.setTop (entryFrame m #[(.int p0)] 1)) t := fun t kt => pre11 t (by
          show Steps p.tables e below (s₁.setTop (mkF m 21 #[.val (.int p0)] [(.int (90 : Int32)), (.int p0)])) _
          refine XS.icmpNo X0.here hx rfl (hb hby d1_21) rfl (tlt hc21).2.2.2 ?_
          show Steps p.tables e below (s₁.setTop (mkF m 24 #[.val (.int p0)] [])) _
          refine XS.iloadN X0.here hx rfl (hb hby d1_24) rfl ?_
          show Steps p.tables e below (s₁.setTop (mkF m 25 #[.val (.int p0)] [(.int p0)])) _
          refine XS.bipush X0.here hx rfl (hb hby d1_25) ?_
          exact kt)
        by_cases hc27 : p0 < (48 : Int32)
        · obtain ⟨a13, T13, h13, k113, b13, kc13, X13, e13, E13, hS13, hk13, hZ13, hown13, A13, Fc13, Fv13, V_b13, la13, lb13, CQ13, Li13, sf13, st13⟩ := ldcCH (vs := [(.int (33 : Int32)), (.int (35 : Int32)), (.int (36 : Int32)), (.int (37 : Int32)), (.int (38 : Int32)), (.int (39 : Int32)), (.int (42 : Int32)), (.int (43 : Int32)), (.int (45 : Int32)), (.int (46 : Int32)), (.int (94 : Int32)), (.int (95 : Int32)), (.int (96 : Int32)), (.int (124 : Int32)), (.int (126 : Int32))]) (z := (15 : Int32)) X0 hx hZ hown (hw _ (List.mem_of_getElem? (i := 4) rfl)) own_wS e0 hS0 hk0 hEL (List.mem_of_getElem? (i := 0) rfl) CR0.1 own_lit1 (by decide) (by decide) (g := (mkF m 36 #[.val (.int p0)] [])) rfl (hb hby d1_36) (n := 60) (by decide +kernel) (by decide) (by decide) (by decide)
          have CR13 := CHr.trans CR0 CQ13
          have K13 : Keep h0 h13 [] := (Keep.refl h0 []).ext E13
          obtain ⟨cq14, kq14, q14a, q14b, q14c⟩ := isOf hZ13 e13 A13
          obtain ⟨_, _, ⟨T14, L14, k14, n14⟩, -, X14, ⟨Lc14, hQ14, ll14, ly14, lz14⟩, st14⟩ := X13.virtualBack hx (y := (⟨"java/lang/String", "indexOf", "(I)I"⟩ : MethodName)) (z := (⟨"java/lang/String", "indexOf", "(I)I"⟩ : MethodName)) hown13 (mvT hZ13 (hw _ (List.mem_of_getElem? (i := 12) rfl))) (mvT hZ13 (hw _ (List.mem_of_getElem? (i := 13) rfl))) (notFace_of_selects (args := #[]) (mvT hZ13 (hw _ (List.mem_of_getElem? (i := 15) rfl)))) (mvT hZ13 (hw _ (List.mem_of_getElem? (i := 15) rfl))) (mvT hZ13 (hw _ (List.mem_of_getElem? (i := 14) rfl))) (by decide) (backOf (W := 0) (rm2 l Z a0 hw [] a13 p0 b13 kc13 wc h13 n0 (Nat.le_trans Z0 E13.1) A13 Fc13 Fv13 V_b13 (Sta.ext E13 S_c) hwc) hZ13 (hw _ (List.mem_of_getElem? (i := 16) rfl)) (hw _ (List.mem_of_getElem? (i := 5) rfl)) (by decide) (by decide)) q14a q14c (g := (mkF m 39 #[.val (.int p0)] [(.int p0), (.ref a13)])) rfl (by rw [hml]; rfl) (Steps.refl _) (argsL := [(.int p0)]) (rest := []) (lenOf pd__I_I rfl) rfl (by show 2 * 0 + _ ≤ _; exact Nat.le_of_eq rfl) (hb hby d1_39) (fun _ _ => ⟨rfl, e13, (by decide : 2 + 0 ≤ _), (by decide : 64 + 0 ≤ _)⟩)
          dsimp only [Pt.U, Pt.locs, Pt.cells, Pt.slots] at X14 ll14 ly14 lz14 st14 hQ14
          subst ll14 ly14 lz14
          obtain ⟨rfl, N14q, e14⟩ := hQ14
          have N14 := Fr.app N0 N14q
          have pre15 : ∀ t, Steps p.tables e below (T14.setTop (mkF m 42 #[.val (.int p0)] [(.int (F2 p0))])) t → Steps p.tables e below (s₁.setTop (entryFrame m #[(.int p0)] 1)) t := fun t kt => pre12 t (by
            show Steps p.tables e below (s₁.setTop (mkF m 27 #[.val (.int p0)] [(.int (48 : Int32)), (.int p0)])) _
            refine XS.icmpYes X0.here hx rfl (pc0 := 27) (pc' := 36) rfl (hb hby d1_27) rfl (tlt hc27).1 (by decide) (by decide) ?_
            show Steps p.tables e below (s₁.setTop (mkF m 36 #[.val (.int p0)] [])) _
            refine st13 _ ?_
            show Steps p.tables e below (T13.setTop (mkF m 38 #[.val (.int p0)] [(.ref a13)])) _
            refine XS.iloadN X13.here hx rfl (hb hby d1_38) rfl ?_
            show Steps p.tables e below (T13.setTop (mkF m 39 #[.val (.int p0)] [(.int p0), (.ref a13)])) _
            refine st14.trans ?_
            exact kt)
          by_cases hc42 : (F2 p0) < (0 : Int32)
          · obtain ⟨fs, hr, hrun, hended, hEnd⟩ := X14.leaveW hS13 (by rw [e14]; exact hk13) (v := some (.int (0 : Int32))) (fun h => by rw [Bd.returns] at h; cases h)
            have CRe := CHr.trans CR13 (CHv.at X14 hZ13 hEL CR13.1)
            refine ⟨_, _, pre15 _ ?_, hrun, hended, _, _, rfl, ?_, ?_, hEnd.1, hEnd.2.1, hEnd.2.2.1, hEnd.2.2.2.mono (by decide) (by decide)⟩
            · show Steps p.tables e below (T14.setTop (mkF m 42 #[.val (.int p0)] [(.int (F2 p0))])) _
              refine XS.ifYes X14.here hx rfl (pc0 := 42) (pc' := 49) rfl (hb hby d1_42) rfl ((if0 _ _).trans (tlt hc42).1) (by decide) (by decide) ?_
              show Steps p.tables e below (T14.setTop (mkF m 49 #[.val (.int p0)] [])) _
              refine XS.iconst X14.here hx rfl (hb hby d1_49) ?_
              show Steps p.tables e below (T14.setTop (mkF m 50 #[.val (.int p0)] [(.int (0 : Int32))])) _
              exact retN X14 hx (t := .boolean) Bd.returns (by simp) (hb hby d1_50) hr
            · show Q1 Z p0 wc h0 n0 _ T14.heap _
              rw [e14]
              exact ⟨(by unfold F1; simp only [if_pos hc3, if_neg hc15, if_pos hc21, if_pos hc27, if_pos hc42]), N14, K13⟩
            · show CHr Z ELs s.vm s.heap T14.vm T14.heap
              rw [hh, e14]; exact CRe
          · obtain ⟨fs, hr, hrun, hended, hEnd⟩ := X14.leaveW hS13 (by rw [e14]; exact hk13) (v := some (.int (1 : Int32))) (fun h => by rw [Bd.returns] at h; cases h)
            have CRe := CHr.trans CR13 (CHv.at X14 hZ13 hEL CR13.1)
            refine ⟨_, _, pre15 _ ?_, hrun, hended, _, _, rfl, ?_, ?_, hEnd.1, hEnd.2.1, hEnd.2.2.1, hEnd.2.2.2.mono (by decide) (by decide)⟩
            · show Steps p.tables e below (T14.setTop (mkF m 42 #[.val (.int p0)] [(.int (F2 p0))])) _
              refine XS.ifNo X14.here hx rfl (hb hby d1_42) rfl ((if0 _ _).trans (flt hc42).1) ?_
              show Steps p.tables e below (T14.setTop (mkF m 45 #[.val (.int p0)] [])) _
              refine XS.iconst X14.here hx rfl (hb hby d1_45) ?_
              show Steps p.tables e below (T14.setTop (mkF m 46 #[.val (.int p0)] [(.int (1 : Int32))])) _
              refine XS.goto X14.here hx rfl (pc0 := 46) (pc' := 50) rfl (hb hby d1_46) (by decide) (by decide) ?_
              show Steps p.tables e below (T14.setTop (mkF m 50 #[.val (.int p0)] [(.int (1 : Int32))])) _
              exact retN X14 hx (t := .boolean) Bd.returns (by simp) (hb hby d1_50) hr
            · show Q1 Z p0 wc h0 n0 _ T14.heap _
              rw [e14]
              exact ⟨(by unfold F1; simp only [if_pos hc3, if_neg hc15, if_pos hc21, if_pos hc27, if_neg hc42]), N14, K13⟩
            · show CHr Z ELs s.vm s.heap T14.vm T14.heap
              rw [hh, e14]; exact CRe
        · have pre16 : ∀ t, Steps p.tables e below (s₁.setTop (mkF m 33 #[.val (.int p0)] [(.int (57 : Int32)), (.int p0)])) t → Steps p.tables e below (s₁.setTop (entryFrame m #[(.int p0)] 1)) t := fun t kt => pre12 t (by
            show Steps p.tables e below (s₁.setTop (mkF m 27 #[.val (.int p0)] [(.int (48 : Int32)), (.int p0)])) _
            refine XS.icmpNo X0.here hx rfl (hb hby d1_27) rfl (flt hc27).1 ?_
            show Steps p.tables e below (s₁.setTop (mkF m 30 #[.val (.int p0)] [])) _
            refine XS.iloadN X0.here hx rfl (hb hby d1_30) rfl ?_
            show Steps p.tables e below (s₁.setTop (mkF m 31 #[.val (.int p0)] [(.int p0)])) _
            refine XS.bipush X0.here hx rfl (hb hby d1_31) ?_
            exact kt)
          by_cases hc33 : (57 : Int32) < p0
          · obtain ⟨a17, T17, h17, k117, b17, kc17, X17, e17, E17, hS17, hk17, hZ17, hown17, A17, Fc17, Fv17, V_b17, la17, lb17, CQ17, Li17, sf17, st17⟩ := ldcCH (vs := [(.int (33 : Int32)), (.int (35 : Int32)), (.int (36 : Int32)), (.int (37 : Int32)), (.int (38 : Int32)), (.int (39 : Int32)), (.int (42 : Int32)), (.int (43 : Int32)), (.int (45 : Int32)), (.int (46 : Int32)), (.int (94 : Int32)), (.int (95 : Int32)), (.int (96 : Int32)), (.int (124 : Int32)), (.int (126 : Int32))]) (z := (15 : Int32)) X0 hx hZ hown (hw _ (List.mem_of_getElem? (i := 4) rfl)) own_wS e0 hS0 hk0 hEL (List.mem_of_getElem? (i := 0) rfl) CR0.1 own_lit1 (by decide) (by decide) (g := (mkF m 36 #[.val (.int p0)] [])) rfl (hb hby d1_36) (n := 60) (by decide +kernel) (by decide) (by decide) (by decide)
            have CR17 := CHr.trans CR0 CQ17
            have K17 : Keep h0 h17 [] := (Keep.refl h0 []).ext E17
            obtain ⟨cq18, kq18, q18a, q18b, q18c⟩ := isOf hZ17 e17 A17
            obtain ⟨_, _, ⟨T18, L18, k18, n18⟩, -, X18, ⟨Lc18, hQ18, ll18, ly18, lz18⟩, st18⟩ := X17.virtualBack hx (y := (⟨"java/lang/String", "indexOf", "(I)I"⟩ : MethodName)) (z := (⟨"java/lang/String", "indexOf", "(I)I"⟩ : MethodName)) hown17 (mvT hZ17 (hw _ (List.mem_of_getElem? (i := 12) rfl))) (mvT hZ17 (hw _ (List.mem_of_getElem? (i := 13) rfl))) (notFace_of_selects (args := #[]) (mvT hZ17 (hw _ (List.mem_of_getElem? (i := 15) rfl)))) (mvT hZ17 (hw _ (List.mem_of_getElem? (i := 15) rfl))) (mvT hZ17 (hw _ (List.mem_of_getElem? (i := 14) rfl))) (by decide) (backOf (W := 0) (rm2 l Z a0 hw [] a17 p0 b17 kc17 wc h17 n0 (Nat.le_trans Z0 E17.1) A17 Fc17 Fv17 V_b17 (Sta.ext E17 S_c) hwc) hZ17 (hw _ (List.mem_of_getElem? (i := 16) rfl)) (hw _ (List.mem_of_getElem? (i := 5) rfl)) (by decide) (by decide)) q18a q18c (g := (mkF m 39 #[.val (.int p0)] [(.int p0), (.ref a17)])) rfl (by rw [hml]; rfl) (Steps.refl _) (argsL := [(.int p0)]) (rest := []) (lenOf pd__I_I rfl) rfl (by show 2 * 0 + _ ≤ _; exact Nat.le_of_eq rfl) (hb hby d1_39) (fun _ _ => ⟨rfl, e17, (by decide : 2 + 0 ≤ _), (by decide : 64 + 0 ≤ _)⟩)
            dsimp only [Pt.U, Pt.locs, Pt.cells, Pt.slots] at X18 ll18 ly18 lz18 st18 hQ18
            subst ll18 ly18 lz18
            obtain ⟨rfl, N18q, e18⟩ := hQ18
            have N18 := Fr.app N0 N18q
            have pre19 : ∀ t, Steps p.tables e below (T18.setTop (mkF m 42 #[.val (.int p0)] [(.int (F2 p0))])) t → Steps p.tables e below (s₁.setTop (entryFrame m #[(.int p0)] 1)) t := fun t kt => pre16 t (by
              show Steps p.tables e below (s₁.setTop (mkF m 33 #[.val (.int p0)] [(.int (57 : Int32)), (.int p0)])) _
              refine XS.icmpNo X0.here hx rfl (hb hby d1_33) rfl (tlt hc33).2.2.2 ?_
              show Steps p.tables e below (s₁.setTop (mkF m 36 #[.val (.int p0)] [])) _
              refine st17 _ ?_
              show Steps p.tables e below (T17.setTop (mkF m 38 #[.val (.int p0)] [(.ref a17)])) _
              refine XS.iloadN X17.here hx rfl (hb hby d1_38) rfl ?_
              show Steps p.tables e below (T17.setTop (mkF m 39 #[.val (.int p0)] [(.int p0), (.ref a17)])) _
              refine st18.trans ?_
              exact kt)
            by_cases hc42 : (F2 p0) < (0 : Int32)
            · obtain ⟨fs, hr, hrun, hended, hEnd⟩ := X18.leaveW hS17 (by rw [e18]; exact hk17) (v := some (.int (0 : Int32))) (fun h => by rw [Bd.returns] at h; cases h)
              have CRe := CHr.trans CR17 (CHv.at X18 hZ17 hEL CR17.1)
              refine ⟨_, _, pre19 _ ?_, hrun, hended, _, _, rfl, ?_, ?_, hEnd.1, hEnd.2.1, hEnd.2.2.1, hEnd.2.2.2.mono (by decide) (by decide)⟩
              · show Steps p.tables e below (T18.setTop (mkF m 42 #[.val (.int p0)] [(.int (F2 p0))])) _
                refine XS.ifYes X18.here hx rfl (pc0 := 42) (pc' := 49) rfl (hb hby d1_42) rfl ((if0 _ _).trans (tlt hc42).1) (by decide) (by decide) ?_
                show Steps p.tables e below (T18.setTop (mkF m 49 #[.val (.int p0)] [])) _
                refine XS.iconst X18.here hx rfl (hb hby d1_49) ?_
                show Steps p.tables e below (T18.setTop (mkF m 50 #[.val (.int p0)] [(.int (0 : Int32))])) _
                exact retN X18 hx (t := .boolean) Bd.returns (by simp) (hb hby d1_50) hr
              · show Q1 Z p0 wc h0 n0 _ T18.heap _
                rw [e18]
                exact ⟨(by unfold F1; simp only [if_pos hc3, if_neg hc15, if_pos hc21, if_neg hc27, if_pos hc33, if_pos hc42]), N18, K17⟩
              · show CHr Z ELs s.vm s.heap T18.vm T18.heap
                rw [hh, e18]; exact CRe
            · obtain ⟨fs, hr, hrun, hended, hEnd⟩ := X18.leaveW hS17 (by rw [e18]; exact hk17) (v := some (.int (1 : Int32))) (fun h => by rw [Bd.returns] at h; cases h)
              have CRe := CHr.trans CR17 (CHv.at X18 hZ17 hEL CR17.1)
              refine ⟨_, _, pre19 _ ?_, hrun, hended, _, _, rfl, ?_, ?_, hEnd.1, hEnd.2.1, hEnd.2.2.1, hEnd.2.2.2.mono (by decide) (by decide)⟩
              · show Steps p.tables e below (T18.setTop (mkF m 42 #[.val (.int p0)] [(.int (F2 p0))])) _
                refine XS.ifNo X18.here hx rfl (hb hby d1_42) rfl ((if0 _ _).trans (flt hc42).1) ?_
                show Steps p.tables e below (T18.setTop (mkF m 45 #[.val (.int p0)] [])) _
                refine XS.iconst X18.here hx rfl (hb hby d1_45) ?_
                show Steps p.tables e below (T18.setTop (mkF m 46 #[.val (.int p0)] [(.int (1 : Int32))])) _
                refine XS.goto X18.here hx rfl (pc0 := 46) (pc' := 50) rfl (hb hby d1_46) (by decide) (by decide) ?_
                show Steps p.tables e below (T18.setTop (mkF m 50 #[.val (.int p0)] [(.int (1 : Int32))])) _
                exact retN X18 hx (t := .boolean) Bd.returns (by simp) (hb hby d1_50) hr
              · show Q1 Z p0 wc h0 n0 _ T18.heap _
                rw [e18]
                exact ⟨(by unfold F1; simp only [if_pos hc3, if_neg hc15, if_pos hc21, if_neg hc27, if_pos hc33, if_neg hc42]), N18, K17⟩
              · show CHr Z ELs s.vm s.heap T18.vm T18.heap
                rw [hh, e18]; exact CRe
          · obtain ⟨fs, hr, hrun, hended, hEnd⟩ := X0.leaveW hS0 (by rw [e0]; exact hk0) (v := some (.int (1 : Int32))) (fun h => by rw [Bd.returns] at h; cases h)
            have CRe := CHr.trans CR0 (CHv.at X0 hZ hEL CR0.1)
            refine ⟨_, _, pre16 _ ?_, hrun, hended, _, _, rfl, ?_, ?_, hEnd.1, hEnd.2.1, hEnd.2.2.1, hEnd.2.2.2.mono (by decide) (by decide)⟩
            · show Steps p.tables e below (s₁.setTop (mkF m 33 #[.val (.int p0)] [(.int (57 : Int32)), (.int p0)])) _
              refine XS.icmpYes X0.here hx rfl (pc0 := 33) (pc' := 45) rfl (hb hby d1_33) rfl (flt hc33).2.2.2 (by decide) (by decide) ?_
              show Steps p.tables e below (s₁.setTop (mkF m 45 #[.val (.int p0)] [])) _
              refine XS.iconst X0.here hx rfl (hb hby d1_45) ?_
              show Steps p.tables e below (s₁.setTop (mkF m 46 #[.val (.int p0)] [(.int (1 : Int32))])) _
              refine XS.goto X0.here hx rfl (pc0 := 46) (pc' := 50) rfl (hb hby d1_46) (by decide) (by decide) ?_
              show Steps p.tables e below (s₁.setTop (mkF m 50 #[.val (.int p0)] [(.int (1 : Int32))])) _
              exact retN X0 hx (t := .boolean) Bd.returns (by simp) (hb hby d1_50) hr
            · show Q1 Z p0 wc h0 n0 _ s₁.heap _
              rw [e0]
              exact ⟨(by unfold F1; simp only [if_pos hc3, if_neg hc15, if_pos hc21, if_neg hc27, if_neg hc33]), N0, (Keep.refl h0 [])⟩
            · show CHr Z ELs s.vm s.heap s₁.vm s₁.heap
              rw [hh, e0]; exact CRe
      · obtain ⟨fs, hr, hrun, hended, hEnd⟩ := X0.leaveW hS0 (by rw [e0]; exact hk0) (v := some (.int (1 : Int32))) (fun h => by rw [Bd.returns] at h; cases h)
        have CRe := CHr.trans CR0 (CHv.at X0 hZ hEL CR0.1)
        refine ⟨_, _, pre11 _ ?_, hrun, hended, _, _, rfl, ?_, ?_, hEnd.1, hEnd.2.1, hEnd.2.2.1, hEnd.2.2.2.mono (by decide) (by decide)⟩
        · show Steps p.tables e below (s₁.setTop (mkF m 21 #[.val (.int p0)] [(.int (90 : Int32)), (.int p0)])) _
          refine XS.icmpYes X0.here hx rfl (pc0 := 21) (pc' := 45) rfl (hb hby d1_21) rfl (flt hc21).2.2.2 (by decide) (by decide) ?_
          show Steps p.tables e below (s₁.setTop (mkF m 45 #[.val (.int p0)] [])) _
          refine XS.iconst X0.here hx rfl (hb hby d1_45) ?_
          show Steps p.tables e below (s₁.setTop (mkF m 46 #[.val (.int p0)] [(.int (1 : Int32))])) _
          refine XS.goto X0.here hx rfl (pc0 := 46) (pc' := 50) rfl (hb hby d1_46) (by decide) (by decide) ?_
          show Steps p.tables e below (s₁.setTop (mkF m 50 #[.val (.int p0)] [(.int (1 : Int32))])) _
          exact retN X0 hx (t := .boolean) Bd.returns (by simp) (hb hby d1_50) hr
        · show Q1 Z p0 wc h0 n0 _ s₁.heap _
          rw [e0]
          exact ⟨(by unfold F1; simp only [if_pos hc3, if_neg hc15, if_neg hc21]), N0, (Keep.refl h0 [])⟩
        · show CHr Z ELs s.vm s.heap s₁.vm s₁.heap
          rw [hh, e0]; exact CRe
  · have pre20 : ∀ t, Steps p.tables e below (s₁.setTop (mkF m 9 #[.val (.int p0)] [(.int (122 : Int32)), (.int p0)])) t → Steps p.tables e below (s₁.setTop (entryFrame m #[(.int p0)] 1)) t := fun t kt => pre1 t (by
      show Steps p.tables e below (s₁.setTop (mkF m 3 #[.val (.int p0)] [(.int (97 : Int32)), (.int p0)])) _
      refine XS.icmpNo X0.here hx rfl (hb hby d1_3) rfl (flt hc3).1 ?_
      show Steps p.tables e below (s₁.setTop (mkF m 6 #[.val (.int p0)] [])) _
      refine XS.iloadN X0.here hx rfl (hb hby d1_6) rfl ?_
      show Steps p.tables e below (s₁.setTop (mkF m 7 #[.val (.int p0)] [(.int p0)])) _
      refine XS.bipush X0.here hx rfl (hb hby d1_7) ?_
      exact kt)
    by_cases hc9 : (122 : Int32) < p0
    · have pre21 : ∀ t, Steps p.tables e below (s₁.setTop (mkF m 15 #[.val (.int p0)] [(.int (65 : Int32)), (.int p0)])) t → Steps p.tables e below (s₁.setTop (entryFrame m #[(.int p0)] 1)) t := fun t kt => pre20 t (by
        show Steps p.tables e below (s₁.setTop (mkF m 9 #[.val (.int p0)] [(.int (122 : Int32)), (.int p0)])) _
        refine XS.icmpNo X0.here hx rfl (hb hby d1_9) rfl (tlt hc9).2.2.2 ?_
        show Steps p.tables e below (s₁.setTop (mkF m 12 #[.val (.int p0)] [])) _
        refine XS.iloadN X0.here hx rfl (hb hby d1_12) rfl ?_
        show Steps p.tables e below (s₁.setTop (mkF m 13 #[.val (.int p0)] [(.int p0)])) _
        refine XS.bipush X0.here hx rfl (hb hby d1_13) ?_
        exact kt)
      by_cases hc15 : p0 < (65 : Int32)
      · have pre22 : ∀ t, Steps p.tables e below (s₁.setTop (mkF m 27 #[.val (.int p0)] [(.int (48 : Int32)), (.int p0)])) t → Steps p.tables e below (s₁.setTop (entryFrame m #[(.int p0)] 1)) t := fun t kt => pre21 t (by
          show Steps p.tables e below (s₁.setTop (mkF m 15 #[.val (.int p0)] [(.int (65 : Int32)), (.int p0)])) _
          refine XS.icmpYes X0.here hx rfl (pc0 := 15) (pc' := 24) rfl (hb hby d1_15) rfl (tlt hc15).1 (by decide) (by decide) ?_
          show Steps p.tables e below (s₁.setTop (mkF m 24 #[.val (.int p0)] [])) _
          refine XS.iloadN X0.here hx rfl (hb hby d1_24) rfl ?_
          show Steps p.tables e below (s₁.setTop (mkF m 25 #[.val (.int p0)] [(.int p0)])) _
          refine XS.bipush X0.here hx rfl (hb hby d1_25) ?_
          exact kt)
        by_cases hc27 : p0 < (48 : Int32)
        · obtain ⟨a23, T23, h23, k123, b23, kc23, X23, e23, E23, hS23, hk23, hZ23, hown23, A23, Fc23, Fv23, V_b23, la23, lb23, CQ23, Li23, sf23, st23⟩ := ldcCH (vs := [(.int (33 : Int32)), (.int (35 : Int32)), (.int (36 : Int32)), (.int (37 : Int32)), (.int (38 : Int32)), (.int (39 : Int32)), (.int (42 : Int32)), (.int (43 : Int32)), (.int (45 : Int32)), (.int (46 : Int32)), (.int (94 : Int32)), (.int (95 : Int32)), (.int (96 : Int32)), (.int (124 : Int32)), (.int (126 : Int32))]) (z := (15 : Int32)) X0 hx hZ hown (hw _ (List.mem_of_getElem? (i := 4) rfl)) own_wS e0 hS0 hk0 hEL (List.mem_of_getElem? (i := 0) rfl) CR0.1 own_lit1 (by decide) (by decide) (g := (mkF m 36 #[.val (.int p0)] [])) rfl (hb hby d1_36) (n := 60) (by decide +kernel) (by decide) (by decide) (by decide)
          have CR23 := CHr.trans CR0 CQ23
          have K23 : Keep h0 h23 [] := (Keep.refl h0 []).ext E23
          obtain ⟨cq24, kq24, q24a, q24b, q24c⟩ := isOf hZ23 e23 A23
          obtain ⟨_, _, ⟨T24, L24, k24, n24⟩, -, X24, ⟨Lc24, hQ24, ll24, ly24, lz24⟩, st24⟩ := X23.virtualBack hx (y := (⟨"java/lang/String", "indexOf", "(I)I"⟩ : MethodName)) (z := (⟨"java/lang/String", "indexOf", "(I)I"⟩ : MethodName)) hown23 (mvT hZ23 (hw _ (List.mem_of_getElem? (i := 12) rfl))) (mvT hZ23 (hw _ (List.mem_of_getElem? (i := 13) rfl))) (notFace_of_selects (args := #[]) (mvT hZ23 (hw _ (List.mem_of_getElem? (i := 15) rfl)))) (mvT hZ23 (hw _ (List.mem_of_getElem? (i := 15) rfl))) (mvT hZ23 (hw _ (List.mem_of_getElem? (i := 14) rfl))) (by decide) (backOf (W := 0) (rm2 l Z a0 hw [] a23 p0 b23 kc23 wc h23 n0 (Nat.le_trans Z0 E23.1) A23 Fc23 Fv23 V_b23 (Sta.ext E23 S_c) hwc) hZ23 (hw _ (List.mem_of_getElem? (i := 16) rfl)) (hw _ (List.mem_of_getElem? (i := 5) rfl)) (by decide) (by decide)) q24a q24c (g := (mkF m 39 #[.val (.int p0)] [(.int p0), (.ref a23)])) rfl (by rw [hml]; rfl) (Steps.refl _) (argsL := [(.int p0)]) (rest := []) (lenOf pd__I_I rfl) rfl (by show 2 * 0 + _ ≤ _; exact Nat.le_of_eq rfl) (hb hby d1_39) (fun _ _ => ⟨rfl, e23, (by decide : 2 + 0 ≤ _), (by decide : 64 + 0 ≤ _)⟩)
          dsimp only [Pt.U, Pt.locs, Pt.cells, Pt.slots] at X24 ll24 ly24 lz24 st24 hQ24
          subst ll24 ly24 lz24
          obtain ⟨rfl, N24q, e24⟩ := hQ24
          have N24 := Fr.app N0 N24q
          have pre25 : ∀ t, Steps p.tables e below (T24.setTop (mkF m 42 #[.val (.int p0)] [(.int (F2 p0))])) t → Steps p.tables e below (s₁.setTop (entryFrame m #[(.int p0)] 1)) t := fun t kt => pre22 t (by
            show Steps p.tables e below (s₁.setTop (mkF m 27 #[.val (.int p0)] [(.int (48 : Int32)), (.int p0)])) _
            refine XS.icmpYes X0.here hx rfl (pc0 := 27) (pc' := 36) rfl (hb hby d1_27) rfl (tlt hc27).1 (by decide) (by decide) ?_
            show Steps p.tables e below (s₁.setTop (mkF m 36 #[.val (.int p0)] [])) _
            refine st23 _ ?_
            show Steps p.tables e below (T23.setTop (mkF m 38 #[.val (.int p0)] [(.ref a23)])) _
            refine XS.iloadN X23.here hx rfl (hb hby d1_38) rfl ?_
            show Steps p.tables e below (T23.setTop (mkF m 39 #[.val (.int p0)] [(.int p0), (.ref a23)])) _
            refine st24.trans ?_
            exact kt)
          by_cases hc42 : (F2 p0) < (0 : Int32)
          · obtain ⟨fs, hr, hrun, hended, hEnd⟩ := X24.leaveW hS23 (by rw [e24]; exact hk23) (v := some (.int (0 : Int32))) (fun h => by rw [Bd.returns] at h; cases h)
            have CRe := CHr.trans CR23 (CHv.at X24 hZ23 hEL CR23.1)
            refine ⟨_, _, pre25 _ ?_, hrun, hended, _, _, rfl, ?_, ?_, hEnd.1, hEnd.2.1, hEnd.2.2.1, hEnd.2.2.2.mono (by decide) (by decide)⟩
            · show Steps p.tables e below (T24.setTop (mkF m 42 #[.val (.int p0)] [(.int (F2 p0))])) _
              refine XS.ifYes X24.here hx rfl (pc0 := 42) (pc' := 49) rfl (hb hby d1_42) rfl ((if0 _ _).trans (tlt hc42).1) (by decide) (by decide) ?_
              show Steps p.tables e below (T24.setTop (mkF m 49 #[.val (.int p0)] [])) _
              refine XS.iconst X24.here hx rfl (hb hby d1_49) ?_
              show Steps p.tables e below (T24.setTop (mkF m 50 #[.val (.int p0)] [(.int (0 : Int32))])) _
              exact retN X24 hx (t := .boolean) Bd.returns (by simp) (hb hby d1_50) hr
            · show Q1 Z p0 wc h0 n0 _ T24.heap _
              rw [e24]
              exact ⟨(by unfold F1; simp only [if_neg hc3, if_pos hc9, if_pos hc15, if_pos hc27, if_pos hc42]), N24, K23⟩
            · show CHr Z ELs s.vm s.heap T24.vm T24.heap
              rw [hh, e24]; exact CRe
          · obtain ⟨fs, hr, hrun, hended, hEnd⟩ := X24.leaveW hS23 (by rw [e24]; exact hk23) (v := some (.int (1 : Int32))) (fun h => by rw [Bd.returns] at h; cases h)
            have CRe := CHr.trans CR23 (CHv.at X24 hZ23 hEL CR23.1)
            refine ⟨_, _, pre25 _ ?_, hrun, hended, _, _, rfl, ?_, ?_, hEnd.1, hEnd.2.1, hEnd.2.2.1, hEnd.2.2.2.mono (by decide) (by decide)⟩
            · show Steps p.tables e below (T24.setTop (mkF m 42 #[.val (.int p0)] [(.int (F2 p0))])) _
              refine XS.ifNo X24.here hx rfl (hb hby d1_42) rfl ((if0 _ _).trans (flt hc42).1) ?_
              show Steps p.tables e below (T24.setTop (mkF m 45 #[.val (.int p0)] [])) _
              refine XS.iconst X24.here hx rfl (hb hby d1_45) ?_
              show Steps p.tables e below (T24.setTop (mkF m 46 #[.val (.int p0)] [(.int (1 : Int32))])) _
              refine XS.goto X24.here hx rfl (pc0 := 46) (pc' := 50) rfl (hb hby d1_46) (by decide) (by decide) ?_
              show Steps p.tables e below (T24.setTop (mkF m 50 #[.val (.int p0)] [(.int (1 : Int32))])) _
              exact retN X24 hx (t := .boolean) Bd.returns (by simp) (hb hby d1_50) hr
            · show Q1 Z p0 wc h0 n0 _ T24.heap _
              rw [e24]
              exact ⟨(by unfold F1; simp only [if_neg hc3, if_pos hc9, if_pos hc15, if_pos hc27, if_neg hc42]), N24, K23⟩
            · show CHr Z ELs s.vm s.heap T24.vm T24.heap
              rw [hh, e24]; exact CRe
        · have pre26 : ∀ t, Steps p.tables e below (s₁.setTop (mkF m 33 #[.val (.int p0)] [(.int (57 : Int32)), (.int p0)])) t → Steps p.tables e below (s₁.setTop (entryFrame m #[(.int p0)] 1)) t := fun t kt => pre22 t (by
            show Steps p.tables e below (s₁.setTop (mkF m 27 #[.val (.int p0)] [(.int (48 : Int32)), (.int p0)])) _
            refine XS.icmpNo X0.here hx rfl (hb hby d1_27) rfl (flt hc27).1 ?_
            show Steps p.tables e below (s₁.setTop (mkF m 30 #[.val (.int p0)] [])) _
            refine XS.iloadN X0.here hx rfl (hb hby d1_30) rfl ?_
            show Steps p.tables e below (s₁.setTop (mkF m 31 #[.val (.int p0)] [(.int p0)])) _
            refine XS.bipush X0.here hx rfl (hb hby d1_31) ?_
            exact kt)
          by_cases hc33 : (57 : Int32) < p0
          · obtain ⟨a27, T27, h27, k127, b27, kc27, X27, e27, E27, hS27, hk27, hZ27, hown27, A27, Fc27, Fv27, V_b27, la27, lb27, CQ27, Li27, sf27, st27⟩ := ldcCH (vs := [(.int (33 : Int32)), (.int (35 : Int32)), (.int (36 : Int32)), (.int (37 : Int32)), (.int (38 : Int32)), (.int (39 : Int32)), (.int (42 : Int32)), (.int (43 : Int32)), (.int (45 : Int32)), (.int (46 : Int32)), (.int (94 : Int32)), (.int (95 : Int32)), (.int (96 : Int32)), (.int (124 : Int32)), (.int (126 : Int32))]) (z := (15 : Int32)) X0 hx hZ hown (hw _ (List.mem_of_getElem? (i := 4) rfl)) own_wS e0 hS0 hk0 hEL (List.mem_of_getElem? (i := 0) rfl) CR0.1 own_lit1 (by decide) (by decide) (g := (mkF m 36 #[.val (.int p0)] [])) rfl (hb hby d1_36) (n := 60) (by decide +kernel) (by decide) (by decide) (by decide)
            have CR27 := CHr.trans CR0 CQ27
            have K27 : Keep h0 h27 [] := (Keep.refl h0 []).ext E27
            obtain ⟨cq28, kq28, q28a, q28b, q28c⟩ := isOf hZ27 e27 A27
            obtain ⟨_, _, ⟨T28, L28, k28, n28⟩, -, X28, ⟨Lc28, hQ28, ll28, ly28, lz28⟩, st28⟩ := X27.virtualBack hx (y := (⟨"java/lang/String", "indexOf", "(I)I"⟩ : MethodName)) (z := (⟨"java/lang/String", "indexOf", "(I)I"⟩ : MethodName)) hown27 (mvT hZ27 (hw _ (List.mem_of_getElem? (i := 12) rfl))) (mvT hZ27 (hw _ (List.mem_of_getElem? (i := 13) rfl))) (notFace_of_selects (args := #[]) (mvT hZ27 (hw _ (List.mem_of_getElem? (i := 15) rfl)))) (mvT hZ27 (hw _ (List.mem_of_getElem? (i := 15) rfl))) (mvT hZ27 (hw _ (List.mem_of_getElem? (i := 14) rfl))) (by decide) (backOf (W := 0) (rm2 l Z a0 hw [] a27 p0 b27 kc27 wc h27 n0 (Nat.le_trans Z0 E27.1) A27 Fc27 Fv27 V_b27 (Sta.ext E27 S_c) hwc) hZ27 (hw _ (List.mem_of_getElem? (i := 16) rfl)) (hw _ (List.mem_of_getElem? (i := 5) rfl)) (by decide) (by decide)) q28a q28c (g := (mkF m 39 #[.val (.int p0)] [(.int p0), (.ref a27)])) rfl (by rw [hml]; rfl) (Steps.refl _) (argsL := [(.int p0)]) (rest := []) (lenOf pd__I_I rfl) rfl (by show 2 * 0 + _ ≤ _; exact Nat.le_of_eq rfl) (hb hby d1_39) (fun _ _ => ⟨rfl, e27, (by decide : 2 + 0 ≤ _), (by decide : 64 + 0 ≤ _)⟩)
            dsimp only [Pt.U, Pt.locs, Pt.cells, Pt.slots] at X28 ll28 ly28 lz28 st28 hQ28
            subst ll28 ly28 lz28
            obtain ⟨rfl, N28q, e28⟩ := hQ28
            have N28 := Fr.app N0 N28q
            have pre29 : ∀ t, Steps p.tables e below (T28.setTop (mkF m 42 #[.val (.int p0)] [(.int (F2 p0))])) t → Steps p.tables e below (s₁.setTop (entryFrame m #[(.int p0)] 1)) t := fun t kt => pre26 t (by
              show Steps p.tables e below (s₁.setTop (mkF m 33 #[.val (.int p0)] [(.int (57 : Int32)), (.int p0)])) _
              refine XS.icmpNo X0.here hx rfl (hb hby d1_33) rfl (tlt hc33).2.2.2 ?_
              show Steps p.tables e below (s₁.setTop (mkF m 36 #[.val (.int p0)] [])) _
              refine st27 _ ?_
              show Steps p.tables e below (T27.setTop (mkF m 38 #[.val (.int p0)] [(.ref a27)])) _
              refine XS.iloadN X27.here hx rfl (hb hby d1_38) rfl ?_
              show Steps p.tables e below (T27.setTop (mkF m 39 #[.val (.int p0)] [(.int p0), (.ref a27)])) _
              refine st28.trans ?_
              exact kt)
            by_cases hc42 : (F2 p0) < (0 : Int32)
            · obtain ⟨fs, hr, hrun, hended, hEnd⟩ := X28.leaveW hS27 (by rw [e28]; exact hk27) (v := some (.int (0 : Int32))) (fun h => by rw [Bd.returns] at h; cases h)
              have CRe := CHr.trans CR27 (CHv.at X28 hZ27 hEL CR27.1)
              refine ⟨_, _, pre29 _ ?_, hrun, hended, _, _, rfl, ?_, ?_, hEnd.1, hEnd.2.1, hEnd.2.2.1, hEnd.2.2.2.mono (by decide) (by decide)⟩
              · show Steps p.tables e below (T28.setTop (mkF m 42 #[.val (.int p0)] [(.int (F2 p0))])) _
                refine XS.ifYes X28.here hx rfl (pc0 := 42) (pc' := 49) rfl (hb hby d1_42) rfl ((if0 _ _).trans (tlt hc42).1) (by decide) (by decide) ?_
                show Steps p.tables e below (T28.setTop (mkF m 49 #[.val (.int p0)] [])) _
                refine XS.iconst X28.here hx rfl (hb hby d1_49) ?_
                show Steps p.tables e below (T28.setTop (mkF m 50 #[.val (.int p0)] [(.int (0 : Int32))])) _
                exact retN X28 hx (t := .boolean) Bd.returns (by simp) (hb hby d1_50) hr
              · show Q1 Z p0 wc h0 n0 _ T28.heap _
                rw [e28]
                exact ⟨(by unfold F1; simp only [if_neg hc3, if_pos hc9, if_pos hc15, if_neg hc27, if_pos hc33, if_pos hc42]), N28, K27⟩
              · show CHr Z ELs s.vm s.heap T28.vm T28.heap
                rw [hh, e28]; exact CRe
            · obtain ⟨fs, hr, hrun, hended, hEnd⟩ := X28.leaveW hS27 (by rw [e28]; exact hk27) (v := some (.int (1 : Int32))) (fun h => by rw [Bd.returns] at h; cases h)
              have CRe := CHr.trans CR27 (CHv.at X28 hZ27 hEL CR27.1)
              refine ⟨_, _, pre29 _ ?_, hrun, hended, _, _, rfl, ?_, ?_, hEnd.1, hEnd.2.1, hEnd.2.2.1, hEnd.2.2.2.mono (by decide) (by decide)⟩
              · show Steps p.tables e below (T28.setTop (mkF m 42 #[.val (.int p0)] [(.int (F2 p0))])) _
                refine XS.ifNo X28.here hx rfl (hb hby d1_42) rfl ((if0 _ _).trans (flt hc42).1) ?_
                show Steps p.tables e below (T28.setTop (mkF m 45 #[.val (.int p0)] [])) _
                refine XS.iconst X28.here hx rfl (hb hby d1_45) ?_
                show Steps p.tables e below (T28.setTop (mkF m 46 #[.val (.int p0)] [(.int (1 : Int32))])) _
                refine XS.goto X28.here hx rfl (pc0 := 46) (pc' := 50) rfl (hb hby d1_46) (by decide) (by decide) ?_
                show Steps p.tables e below (T28.setTop (mkF m 50 #[.val (.int p0)] [(.int (1 : Int32))])) _
                exact retN X28 hx (t := .boolean) Bd.returns (by simp) (hb hby d1_50) hr
              · show Q1 Z p0 wc h0 n0 _ T28.heap _
                rw [e28]
                exact ⟨(by unfold F1; simp only [if_neg hc3, if_pos hc9, if_pos hc15, if_neg hc27, if_pos hc33, if_neg hc42]), N28, K27⟩
              · show CHr Z ELs s.vm s.heap T28.vm T28.heap
                rw [hh, e28]; exact CRe
          · obtain ⟨fs, hr, hrun, hended, hEnd⟩ := X0.leaveW hS0 (by rw [e0]; exact hk0) (v := some (.int (1 : Int32))) (fun h => by rw [Bd.returns] at h; cases h)
            have CRe := CHr.trans CR0 (CHv.at X0 hZ hEL CR0.1)
            refine ⟨_, _, pre26 _ ?_, hrun, hended, _, _, rfl, ?_, ?_, hEnd.1, hEnd.2.1, hEnd.2.2.1, hEnd.2.2.2.mono (by decide) (by decide)⟩
            · show Steps p.tables e below (s₁.setTop (mkF m 33 #[.val (.int p0)] [(.int (57 : Int32)), (.int p0)])) _
              refine XS.icmpYes X0.here hx rfl (pc0 := 33) (pc' := 45) rfl (hb hby d1_33) rfl (flt hc33).2.2.2 (by decide) (by decide) ?_
              show Steps p.tables e below (s₁.setTop (mkF m 45 #[.val (.int p0)] [])) _
              refine XS.iconst X0.here hx rfl (hb hby d1_45) ?_
              show Steps p.tables e below (s₁.setTop (mkF m 46 #[.val (.int p0)] [(.int (1 : Int32))])) _
              refine XS.goto X0.here hx rfl (pc0 := 46) (pc' := 50) rfl (hb hby d1_46) (by decide) (by decide) ?_
              show Steps p.tables e below (s₁.setTop (mkF m 50 #[.val (.int p0)] [(.int (1 : Int32))])) _
              exact retN X0 hx (t := .boolean) Bd.returns (by simp) (hb hby d1_50) hr
            · show Q1 Z p0 wc h0 n0 _ s₁.heap _
              rw [e0]
              exact ⟨(by unfold F1; simp only [if_neg hc3, if_pos hc9, if_pos hc15, if_neg hc27, if_neg hc33]), N0, (Keep.refl h0 [])⟩
            · show CHr Z ELs s.vm s.heap s₁.vm s₁.heap
              rw [hh, e0]; exact CRe
      · have pre30 : ∀ t, Steps p.tables e below (s₁.setTop (mkF m 21 #[.val (.int p0)] [(.int (90 : Int32)), (.int p0)])) t → Steps p.tables e below (s₁.setTop (entryFrame m #[(.int p0)] 1)) t := fun t kt => pre21 t (by
          show Steps p.tables e below (s₁.setTop (mkF m 15 #[.val (.int p0)] [(.int (65 : Int32)), (.int p0)])) _
          refine XS.icmpNo X0.here hx rfl (hb hby d1_15) rfl (flt hc15).1 ?_
          show Steps p.tables e below (s₁.setTop (mkF m 18 #[.val (.int p0)] [])) _
          refine XS.iloadN X0.here hx rfl (hb hby d1_18) rfl ?_
          show Steps p.tables e below (s₁.setTop (mkF m 19 #[.val (.int p0)] [(.int p0)])) _
          refine XS.bipush X0.here hx rfl (hb hby d1_19) ?_
          exact kt)
        by_cases hc21 : (90 : Int32) < p0
        · have pre31 : ∀ t, Steps p.tables e below (s₁.setTop (mkF m 27 #[.val (.int p0)] [(.int (48 : Int32)), (.int p0)])) t → Steps p.tables e below (s₁.setTop (entryFrame m #[(.int p0)] 1)) t := fun t kt => pre30 t (by
            show Steps p.tables e below (s₁.setTop (mkF m 21 #[.val (.int p0)] [(.int (90 : Int32)), (.int p0)])) _
            refine XS.icmpNo X0.here hx rfl (hb hby d1_21) rfl (tlt hc21).2.2.2 ?_
            show Steps p.tables e below (s₁.setTop (mkF m 24 #[.val (.int p0)] [])) _
            refine XS.iloadN X0.here hx rfl (hb hby d1_24) rfl ?_
            show Steps p.tables e below (s₁.setTop (mkF m 25 #[.val (.int p0)] [(.int p0)])) _
            refine XS.bipush X0.here hx rfl (hb hby d1_25) ?_
            exact kt)
          by_cases hc27 : p0 < (48 : Int32)
          · obtain ⟨a32, T32, h32, k132, b32, kc32, X32, e32, E32, hS32, hk32, hZ32, hown32, A32, Fc32, Fv32, V_b32, la32, lb32, CQ32, Li32, sf32, st32⟩ := ldcCH (vs := [(.int (33 : Int32)), (.int (35 : Int32)), (.int (36 : Int32)), (.int (37 : Int32)), (.int (38 : Int32)), (.int (39 : Int32)), (.int (42 : Int32)), (.int (43 : Int32)), (.int (45 : Int32)), (.int (46 : Int32)), (.int (94 : Int32)), (.int (95 : Int32)), (.int (96 : Int32)), (.int (124 : Int32)), (.int (126 : Int32))]) (z := (15 : Int32)) X0 hx hZ hown (hw _ (List.mem_of_getElem? (i := 4) rfl)) own_wS e0 hS0 hk0 hEL (List.mem_of_getElem? (i := 0) rfl) CR0.1 own_lit1 (by decide) (by decide) (g := (mkF m 36 #[.val (.int p0)] [])) rfl (hb hby d1_36) (n := 60) (by decide +kernel) (by decide) (by decide) (by decide)
            have CR32 := CHr.trans CR0 CQ32
            have K32 : Keep h0 h32 [] := (Keep.refl h0 []).ext E32
            obtain ⟨cq33, kq33, q33a, q33b, q33c⟩ := isOf hZ32 e32 A32
            obtain ⟨_, _, ⟨T33, L33, k33, n33⟩, -, X33, ⟨Lc33, hQ33, ll33, ly33, lz33⟩, st33⟩ := X32.virtualBack hx (y := (⟨"java/lang/String", "indexOf", "(I)I"⟩ : MethodName)) (z := (⟨"java/lang/String", "indexOf", "(I)I"⟩ : MethodName)) hown32 (mvT hZ32 (hw _ (List.mem_of_getElem? (i := 12) rfl))) (mvT hZ32 (hw _ (List.mem_of_getElem? (i := 13) rfl))) (notFace_of_selects (args := #[]) (mvT hZ32 (hw _ (List.mem_of_getElem? (i := 15) rfl)))) (mvT hZ32 (hw _ (List.mem_of_getElem? (i := 15) rfl))) (mvT hZ32 (hw _ (List.mem_of_getElem? (i := 14) rfl))) (by decide) (backOf (W := 0) (rm2 l Z a0 hw [] a32 p0 b32 kc32 wc h32 n0 (Nat.le_trans Z0 E32.1) A32 Fc32 Fv32 V_b32 (Sta.ext E32 S_c) hwc) hZ32 (hw _ (List.mem_of_getElem? (i := 16) rfl)) (hw _ (List.mem_of_getElem? (i := 5) rfl)) (by decide) (by decide)) q33a q33c (g := (mkF m 39 #[.val (.int p0)] [(.int p0), (.ref a32)])) rfl (by rw [hml]; rfl) (Steps.refl _) (argsL := [(.int p0)]) (rest := []) (lenOf pd__I_I rfl) rfl (by show 2 * 0 + _ ≤ _; exact Nat.le_of_eq rfl) (hb hby d1_39) (fun _ _ => ⟨rfl, e32, (by decide : 2 + 0 ≤ _), (by decide : 64 + 0 ≤ _)⟩)
            dsimp only [Pt.U, Pt.locs, Pt.cells, Pt.slots] at X33 ll33 ly33 lz33 st33 hQ33
            subst ll33 ly33 lz33
            obtain ⟨rfl, N33q, e33⟩ := hQ33
            have N33 := Fr.app N0 N33q
            have pre34 : ∀ t, Steps p.tables e below (T33.setTop (mkF m 42 #[.val (.int p0)] [(.int (F2 p0))])) t → Steps p.tables e below (s₁.setTop (entryFrame m #[(.int p0)] 1)) t := fun t kt => pre31 t (by
              show Steps p.tables e below (s₁.setTop (mkF m 27 #[.val (.int p0)] [(.int (48 : Int32)), (.int p0)])) _
              refine XS.icmpYes X0.here hx rfl (pc0 := 27) (pc' := 36) rfl (hb hby d1_27) rfl (tlt hc27).1 (by decide) (by decide) ?_
              show Steps p.tables e below (s₁.setTop (mkF m 36 #[.val (.int p0)] [])) _
              refine st32 _ ?_
              show Steps p.tables e below (T32.setTop (mkF m 38 #[.val (.int p0)] [(.ref a32)])) _
              refine XS.iloadN X32.here hx rfl (hb hby d1_38) rfl ?_
              show Steps p.tables e below (T32.setTop (mkF m 39 #[.val (.int p0)] [(.int p0), (.ref a32)])) _
              refine st33.trans ?_
              exact kt)
            by_cases hc42 : (F2 p0) < (0 : Int32)
            · obtain ⟨fs, hr, hrun, hended, hEnd⟩ := X33.leaveW hS32 (by rw [e33]; exact hk32) (v := some (.int (0 : Int32))) (fun h => by rw [Bd.returns] at h; cases h)
              have CRe := CHr.trans CR32 (CHv.at X33 hZ32 hEL CR32.1)
              refine ⟨_, _, pre34 _ ?_, hrun, hended, _, _, rfl, ?_, ?_, hEnd.1, hEnd.2.1, hEnd.2.2.1, hEnd.2.2.2.mono (by decide) (by decide)⟩
              · show Steps p.tables e below (T33.setTop (mkF m 42 #[.val (.int p0)] [(.int (F2 p0))])) _
                refine XS.ifYes X33.here hx rfl (pc0 := 42) (pc' := 49) rfl (hb hby d1_42) rfl ((if0 _ _).trans (tlt hc42).1) (by decide) (by decide) ?_
                show Steps p.tables e below (T33.setTop (mkF m 49 #[.val (.int p0)] [])) _
                refine XS.iconst X33.here hx rfl (hb hby d1_49) ?_
                show Steps p.tables e below (T33.setTop (mkF m 50 #[.val (.int p0)] [(.int (0 : Int32))])) _
                exact retN X33 hx (t := .boolean) Bd.returns (by simp) (hb hby d1_50) hr
              · show Q1 Z p0 wc h0 n0 _ T33.heap _
                rw [e33]
                exact ⟨(by unfold F1; simp only [if_neg hc3, if_pos hc9, if_neg hc15, if_pos hc21, if_pos hc27, if_pos hc42]), N33, K32⟩
              · show CHr Z ELs s.vm s.heap T33.vm T33.heap
                rw [hh, e33]; exact CRe
            · obtain ⟨fs, hr, hrun, hended, hEnd⟩ := X33.leaveW hS32 (by rw [e33]; exact hk32) (v := some (.int (1 : Int32))) (fun h => by rw [Bd.returns] at h; cases h)
              have CRe := CHr.trans CR32 (CHv.at X33 hZ32 hEL CR32.1)
              refine ⟨_, _, pre34 _ ?_, hrun, hended, _, _, rfl, ?_, ?_, hEnd.1, hEnd.2.1, hEnd.2.2.1, hEnd.2.2.2.mono (by decide) (by decide)⟩
              · show Steps p.tables e below (T33.setTop (mkF m 42 #[.val (.int p0)] [(.int (F2 p0))])) _
                refine XS.ifNo X33.here hx rfl (hb hby d1_42) rfl ((if0 _ _).trans (flt hc42).1) ?_
                show Steps p.tables e below (T33.setTop (mkF m 45 #[.val (.int p0)] [])) _
                refine XS.iconst X33.here hx rfl (hb hby d1_45) ?_
                show Steps p.tables e below (T33.setTop (mkF m 46 #[.val (.int p0)] [(.int (1 : Int32))])) _
                refine XS.goto X33.here hx rfl (pc0 := 46) (pc' := 50) rfl (hb hby d1_46) (by decide) (by decide) ?_
                show Steps p.tables e below (T33.setTop (mkF m 50 #[.val (.int p0)] [(.int (1 : Int32))])) _
                exact retN X33 hx (t := .boolean) Bd.returns (by simp) (hb hby d1_50) hr
              · show Q1 Z p0 wc h0 n0 _ T33.heap _
                rw [e33]
                exact ⟨(by unfold F1; simp only [if_neg hc3, if_pos hc9, if_neg hc15, if_pos hc21, if_pos hc27, if_neg hc42]), N33, K32⟩
              · show CHr Z ELs s.vm s.heap T33.vm T33.heap
                rw [hh, e33]; exact CRe
          · have pre35 : ∀ t, Steps p.tables e below (s₁.setTop (mkF m 33 #[.val (.int p0)] [(.int (57 : Int32)), (.int p0)])) t → Steps p.tables e below (s₁.setTop (entryFrame m #[(.int p0)] 1)) t := fun t kt => pre31 t (by
              show Steps p.tables e below (s₁.setTop (mkF m 27 #[.val (.int p0)] [(.int (48 : Int32)), (.int p0)])) _
              refine XS.icmpNo X0.here hx rfl (hb hby d1_27) rfl (flt hc27).1 ?_
              show Steps p.tables e below (s₁.setTop (mkF m 30 #[.val (.int p0)] [])) _
              refine XS.iloadN X0.here hx rfl (hb hby d1_30) rfl ?_
              show Steps p.tables e below (s₁.setTop (mkF m 31 #[.val (.int p0)] [(.int p0)])) _
              refine XS.bipush X0.here hx rfl (hb hby d1_31) ?_
              exact kt)
            by_cases hc33 : (57 : Int32) < p0
            · obtain ⟨a36, T36, h36, k136, b36, kc36, X36, e36, E36, hS36, hk36, hZ36, hown36, A36, Fc36, Fv36, V_b36, la36, lb36, CQ36, Li36, sf36, st36⟩ := ldcCH (vs := [(.int (33 : Int32)), (.int (35 : Int32)), (.int (36 : Int32)), (.int (37 : Int32)), (.int (38 : Int32)), (.int (39 : Int32)), (.int (42 : Int32)), (.int (43 : Int32)), (.int (45 : Int32)), (.int (46 : Int32)), (.int (94 : Int32)), (.int (95 : Int32)), (.int (96 : Int32)), (.int (124 : Int32)), (.int (126 : Int32))]) (z := (15 : Int32)) X0 hx hZ hown (hw _ (List.mem_of_getElem? (i := 4) rfl)) own_wS e0 hS0 hk0 hEL (List.mem_of_getElem? (i := 0) rfl) CR0.1 own_lit1 (by decide) (by decide) (g := (mkF m 36 #[.val (.int p0)] [])) rfl (hb hby d1_36) (n := 60) (by decide +kernel) (by decide) (by decide) (by decide)
              have CR36 := CHr.trans CR0 CQ36
              have K36 : Keep h0 h36 [] := (Keep.refl h0 []).ext E36
              obtain ⟨cq37, kq37, q37a, q37b, q37c⟩ := isOf hZ36 e36 A36
              obtain ⟨_, _, ⟨T37, L37, k37, n37⟩, -, X37, ⟨Lc37, hQ37, ll37, ly37, lz37⟩, st37⟩ := X36.virtualBack hx (y := (⟨"java/lang/String", "indexOf", "(I)I"⟩ : MethodName)) (z := (⟨"java/lang/String", "indexOf", "(I)I"⟩ : MethodName)) hown36 (mvT hZ36 (hw _ (List.mem_of_getElem? (i := 12) rfl))) (mvT hZ36 (hw _ (List.mem_of_getElem? (i := 13) rfl))) (notFace_of_selects (args := #[]) (mvT hZ36 (hw _ (List.mem_of_getElem? (i := 15) rfl)))) (mvT hZ36 (hw _ (List.mem_of_getElem? (i := 15) rfl))) (mvT hZ36 (hw _ (List.mem_of_getElem? (i := 14) rfl))) (by decide) (backOf (W := 0) (rm2 l Z a0 hw [] a36 p0 b36 kc36 wc h36 n0 (Nat.le_trans Z0 E36.1) A36 Fc36 Fv36 V_b36 (Sta.ext E36 S_c) hwc) hZ36 (hw _ (List.mem_of_getElem? (i := 16) rfl)) (hw _ (List.mem_of_getElem? (i := 5) rfl)) (by decide) (by decide)) q37a q37c (g := (mkF m 39 #[.val (.int p0)] [(.int p0), (.ref a36)])) rfl (by rw [hml]; rfl) (Steps.refl _) (argsL := [(.int p0)]) (rest := []) (lenOf pd__I_I rfl) rfl (by show 2 * 0 + _ ≤ _; exact Nat.le_of_eq rfl) (hb hby d1_39) (fun _ _ => ⟨rfl, e36, (by decide : 2 + 0 ≤ _), (by decide : 64 + 0 ≤ _)⟩)
              dsimp only [Pt.U, Pt.locs, Pt.cells, Pt.slots] at X37 ll37 ly37 lz37 st37 hQ37
              subst ll37 ly37 lz37
              obtain ⟨rfl, N37q, e37⟩ := hQ37
              have N37 := Fr.app N0 N37q
              have pre38 : ∀ t, Steps p.tables e below (T37.setTop (mkF m 42 #[.val (.int p0)] [(.int (F2 p0))])) t → Steps p.tables e below (s₁.setTop (entryFrame m #[(.int p0)] 1)) t := fun t kt => pre35 t (by
                show Steps p.tables e below (s₁.setTop (mkF m 33 #[.val (.int p0)] [(.int (57 : Int32)), (.int p0)])) _
                refine XS.icmpNo X0.here hx rfl (hb hby d1_33) rfl (tlt hc33).2.2.2 ?_
                show Steps p.tables e below (s₁.setTop (mkF m 36 #[.val (.int p0)] [])) _
                refine st36 _ ?_
                show Steps p.tables e below (T36.setTop (mkF m 38 #[.val (.int p0)] [(.ref a36)])) _
                refine XS.iloadN X36.here hx rfl (hb hby d1_38) rfl ?_
                show Steps p.tables e below (T36.setTop (mkF m 39 #[.val (.int p0)] [(.int p0), (.ref a36)])) _
                refine st37.trans ?_
                exact kt)
              by_cases hc42 : (F2 p0) < (0 : Int32)
              · obtain ⟨fs, hr, hrun, hended, hEnd⟩ := X37.leaveW hS36 (by rw [e37]; exact hk36) (v := some (.int (0 : Int32))) (fun h => by rw [Bd.returns] at h; cases h)
                have CRe := CHr.trans CR36 (CHv.at X37 hZ36 hEL CR36.1)
                refine ⟨_, _, pre38 _ ?_, hrun, hended, _, _, rfl, ?_, ?_, hEnd.1, hEnd.2.1, hEnd.2.2.1, hEnd.2.2.2.mono (by decide) (by decide)⟩
                · show Steps p.tables e below (T37.setTop (mkF m 42 #[.val (.int p0)] [(.int (F2 p0))])) _
                  refine XS.ifYes X37.here hx rfl (pc0 := 42) (pc' := 49) rfl (hb hby d1_42) rfl ((if0 _ _).trans (tlt hc42).1) (by decide) (by decide) ?_
                  show Steps p.tables e below (T37.setTop (mkF m 49 #[.val (.int p0)] [])) _
                  refine XS.iconst X37.here hx rfl (hb hby d1_49) ?_
                  show Steps p.tables e below (T37.setTop (mkF m 50 #[.val (.int p0)] [(.int (0 : Int32))])) _
                  exact retN X37 hx (t := .boolean) Bd.returns (by simp) (hb hby d1_50) hr
                · show Q1 Z p0 wc h0 n0 _ T37.heap _
                  rw [e37]
                  exact ⟨(by unfold F1; simp only [if_neg hc3, if_pos hc9, if_neg hc15, if_pos hc21, if_neg hc27, if_pos hc33, if_pos hc42]), N37, K36⟩
                · show CHr Z ELs s.vm s.heap T37.vm T37.heap
                  rw [hh, e37]; exact CRe
              · obtain ⟨fs, hr, hrun, hended, hEnd⟩ := X37.leaveW hS36 (by rw [e37]; exact hk36) (v := some (.int (1 : Int32))) (fun h => by rw [Bd.returns] at h; cases h)
                have CRe := CHr.trans CR36 (CHv.at X37 hZ36 hEL CR36.1)
                refine ⟨_, _, pre38 _ ?_, hrun, hended, _, _, rfl, ?_, ?_, hEnd.1, hEnd.2.1, hEnd.2.2.1, hEnd.2.2.2.mono (by decide) (by decide)⟩
                · show Steps p.tables e below (T37.setTop (mkF m 42 #[.val (.int p0)] [(.int (F2 p0))])) _
                  refine XS.ifNo X37.here hx rfl (hb hby d1_42) rfl ((if0 _ _).trans (flt hc42).1) ?_
                  show Steps p.tables e below (T37.setTop (mkF m 45 #[.val (.int p0)] [])) _
                  refine XS.iconst X37.here hx rfl (hb hby d1_45) ?_
                  show Steps p.tables e below (T37.setTop (mkF m 46 #[.val (.int p0)] [(.int (1 : Int32))])) _
                  refine XS.goto X37.here hx rfl (pc0 := 46) (pc' := 50) rfl (hb hby d1_46) (by decide) (by decide) ?_
                  show Steps p.tables e below (T37.setTop (mkF m 50 #[.val (.int p0)] [(.int (1 : Int32))])) _
                  exact retN X37 hx (t := .boolean) Bd.returns (by simp) (hb hby d1_50) hr
                · show Q1 Z p0 wc h0 n0 _ T37.heap _
                  rw [e37]
                  exact ⟨(by unfold F1; simp only [if_neg hc3, if_pos hc9, if_neg hc15, if_pos hc21, if_neg hc27, if_pos hc33, if_neg hc42]), N37, K36⟩
                · show CHr Z ELs s.vm s.heap T37.vm T37.heap
                  rw [hh, e37]; exact CRe
            · obtain ⟨fs, hr, hrun, hended, hEnd⟩ := X0.leaveW hS0 (by rw [e0]; exact hk0) (v := some (.int (1 : Int32))) (fun h => by rw [Bd.returns] at h; cases h)
              have CRe := CHr.trans CR0 (CHv.at X0 hZ hEL CR0.1)
              refine ⟨_, _, pre35 _ ?_, hrun, hended, _, _, rfl, ?_, ?_, hEnd.1, hEnd.2.1, hEnd.2.2.1, hEnd.2.2.2.mono (by decide) (by decide)⟩
              · show Steps p.tables e below (s₁.setTop (mkF m 33 #[.val (.int p0)] [(.int (57 : Int32)), (.int p0)])) _
                refine XS.icmpYes X0.here hx rfl (pc0 := 33) (pc' := 45) rfl (hb hby d1_33) rfl (flt hc33).2.2.2 (by decide) (by decide) ?_
                show Steps p.tables e below (s₁.setTop (mkF m 45 #[.val (.int p0)] [])) _
                refine XS.iconst X0.here hx rfl (hb hby d1_45) ?_
                show Steps p.tables e below (s₁.setTop (mkF m 46 #[.val (.int p0)] [(.int (1 : Int32))])) _
                refine XS.goto X0.here hx rfl (pc0 := 46) (pc' := 50) rfl (hb hby d1_46) (by decide) (by decide) ?_
                show Steps p.tables e below (s₁.setTop (mkF m 50 #[.val (.int p0)] [(.int (1 : Int32))])) _
                exact retN X0 hx (t := .boolean) Bd.returns (by simp) (hb hby d1_50) hr
              · show Q1 Z p0 wc h0 n0 _ s₁.heap _
                rw [e0]
                exact ⟨(by unfold F1; simp only [if_neg hc3, if_pos hc9, if_neg hc15, if_pos hc21, if_neg hc27, if_neg hc33]), N0, (Keep.refl h0 [])⟩
              · show CHr Z ELs s.vm s.heap s₁.vm s₁.heap
                rw [hh, e0]; exact CRe
        · obtain ⟨fs, hr, hrun, hended, hEnd⟩ := X0.leaveW hS0 (by rw [e0]; exact hk0) (v := some (.int (1 : Int32))) (fun h => by rw [Bd.returns] at h; cases h)
          have CRe := CHr.trans CR0 (CHv.at X0 hZ hEL CR0.1)
          refine ⟨_, _, pre30 _ ?_, hrun, hended, _, _, rfl, ?_, ?_, hEnd.1, hEnd.2.1, hEnd.2.2.1, hEnd.2.2.2.mono (by decide) (by decide)⟩
          · show Steps p.tables e below (s₁.setTop (mkF m 21 #[.val (.int p0)] [(.int (90 : Int32)), (.int p0)])) _
            refine XS.icmpYes X0.here hx rfl (pc0 := 21) (pc' := 45) rfl (hb hby d1_21) rfl (flt hc21).2.2.2 (by decide) (by decide) ?_
            show Steps p.tables e below (s₁.setTop (mkF m 45 #[.val (.int p0)] [])) _
            refine XS.iconst X0.here hx rfl (hb hby d1_45) ?_
            show Steps p.tables e below (s₁.setTop (mkF m 46 #[.val (.int p0)] [(.int (1 : Int32))])) _
            refine XS.goto X0.here hx rfl (pc0 := 46) (pc' := 50) rfl (hb hby d1_46) (by decide) (by decide) ?_
            show Steps p.tables e below (s₁.setTop (mkF m 50 #[.val (.int p0)] [(.int (1 : Int32))])) _
            exact retN X0 hx (t := .boolean) Bd.returns (by simp) (hb hby d1_50) hr
          · show Q1 Z p0 wc h0 n0 _ s₁.heap _
            rw [e0]
            exact ⟨(by unfold F1; simp only [if_neg hc3, if_pos hc9, if_neg hc15, if_neg hc21]), N0, (Keep.refl h0 [])⟩
          · show CHr Z ELs s.vm s.heap s₁.vm s₁.heap
            rw [hh, e0]; exact CRe
    · obtain ⟨fs, hr, hrun, hended, hEnd⟩ := X0.leaveW hS0 (by rw [e0]; exact hk0) (v := some (.int (1 : Int32))) (fun h => by rw [Bd.returns] at h; cases h)
      have CRe := CHr.trans CR0 (CHv.at X0 hZ hEL CR0.1)
      refine ⟨_, _, pre20 _ ?_, hrun, hended, _, _, rfl, ?_, ?_, hEnd.1, hEnd.2.1, hEnd.2.2.1, hEnd.2.2.2.mono (by decide) (by decide)⟩
      · show Steps p.tables e below (s₁.setTop (mkF m 9 #[.val (.int p0)] [(.int (122 : Int32)), (.int p0)])) _
        refine XS.icmpYes X0.here hx rfl (pc0 := 9) (pc' := 45) rfl (hb hby d1_9) rfl (flt hc9).2.2.2 (by decide) (by decide) ?_
        show Steps p.tables e below (s₁.setTop (mkF m 45 #[.val (.int p0)] [])) _
        refine XS.iconst X0.here hx rfl (hb hby d1_45) ?_
        show Steps p.tables e below (s₁.setTop (mkF m 46 #[.val (.int p0)] [(.int (1 : Int32))])) _
        refine XS.goto X0.here hx rfl (pc0 := 46) (pc' := 50) rfl (hb hby d1_46) (by decide) (by decide) ?_
        show Steps p.tables e below (s₁.setTop (mkF m 50 #[.val (.int p0)] [(.int (1 : Int32))])) _
        exact retN X0 hx (t := .boolean) Bd.returns (by simp) (hb hby d1_50) hr
      · show Q1 Z p0 wc h0 n0 _ s₁.heap _
        rw [e0]
        exact ⟨(by unfold F1; simp only [if_neg hc3, if_neg hc9]), N0, (Keep.refl h0 [])⟩
      · show CHr Z ELs s.vm s.heap s₁.vm s₁.heap
        rw [hh, e0]; exact CRe
theorem d13_0 : decode method_4_code 0 = .ok (.iload_n 0, 1) := by decide +kernel
theorem d13_1 : decode method_4_code 1 = .ok (.bipush 34, 2) := by decide +kernel
theorem d13_3 : decode method_4_code 3 = .ok (.if_icmp .eq 99, 3) := by decide +kernel
theorem d13_6 : decode method_4_code 6 = .ok (.iload_n 0, 1) := by decide +kernel
theorem d13_7 : decode method_4_code 7 = .ok (.bipush 40, 2) := by decide +kernel
theorem d13_9 : decode method_4_code 9 = .ok (.if_icmp .eq 93, 3) := by decide +kernel
theorem d13_12 : decode method_4_code 12 = .ok (.iload_n 0, 1) := by decide +kernel
theorem d13_13 : decode method_4_code 13 = .ok (.bipush 41, 2) := by decide +kernel
theorem d13_15 : decode method_4_code 15 = .ok (.if_icmp .eq 87, 3) := by decide +kernel
theorem d13_18 : decode method_4_code 18 = .ok (.iload_n 0, 1) := by decide +kernel
theorem d13_19 : decode method_4_code 19 = .ok (.bipush 44, 2) := by decide +kernel
theorem d13_21 : decode method_4_code 21 = .ok (.if_icmp .eq 81, 3) := by decide +kernel
theorem d13_24 : decode method_4_code 24 = .ok (.iload_n 0, 1) := by decide +kernel
theorem d13_25 : decode method_4_code 25 = .ok (.bipush 47, 2) := by decide +kernel
theorem d13_27 : decode method_4_code 27 = .ok (.if_icmp .eq 75, 3) := by decide +kernel
theorem d13_30 : decode method_4_code 30 = .ok (.iload_n 0, 1) := by decide +kernel
theorem d13_31 : decode method_4_code 31 = .ok (.bipush 58, 2) := by decide +kernel
theorem d13_33 : decode method_4_code 33 = .ok (.if_icmp .eq 69, 3) := by decide +kernel
theorem d13_36 : decode method_4_code 36 = .ok (.iload_n 0, 1) := by decide +kernel
theorem d13_37 : decode method_4_code 37 = .ok (.bipush 59, 2) := by decide +kernel
theorem d13_39 : decode method_4_code 39 = .ok (.if_icmp .eq 63, 3) := by decide +kernel
theorem d13_42 : decode method_4_code 42 = .ok (.iload_n 0, 1) := by decide +kernel
theorem d13_43 : decode method_4_code 43 = .ok (.bipush 60, 2) := by decide +kernel
theorem d13_45 : decode method_4_code 45 = .ok (.if_icmp .eq 57, 3) := by decide +kernel
theorem d13_48 : decode method_4_code 48 = .ok (.iload_n 0, 1) := by decide +kernel
theorem d13_49 : decode method_4_code 49 = .ok (.bipush 61, 2) := by decide +kernel
theorem d13_51 : decode method_4_code 51 = .ok (.if_icmp .eq 51, 3) := by decide +kernel
theorem d13_54 : decode method_4_code 54 = .ok (.iload_n 0, 1) := by decide +kernel
theorem d13_55 : decode method_4_code 55 = .ok (.bipush 62, 2) := by decide +kernel
theorem d13_57 : decode method_4_code 57 = .ok (.if_icmp .eq 45, 3) := by decide +kernel
theorem d13_60 : decode method_4_code 60 = .ok (.iload_n 0, 1) := by decide +kernel
theorem d13_61 : decode method_4_code 61 = .ok (.bipush 63, 2) := by decide +kernel
theorem d13_63 : decode method_4_code 63 = .ok (.if_icmp .eq 39, 3) := by decide +kernel
theorem d13_66 : decode method_4_code 66 = .ok (.iload_n 0, 1) := by decide +kernel
theorem d13_67 : decode method_4_code 67 = .ok (.bipush 64, 2) := by decide +kernel
theorem d13_69 : decode method_4_code 69 = .ok (.if_icmp .eq 33, 3) := by decide +kernel
theorem d13_72 : decode method_4_code 72 = .ok (.iload_n 0, 1) := by decide +kernel
theorem d13_73 : decode method_4_code 73 = .ok (.bipush 91, 2) := by decide +kernel
theorem d13_75 : decode method_4_code 75 = .ok (.if_icmp .eq 27, 3) := by decide +kernel
theorem d13_78 : decode method_4_code 78 = .ok (.iload_n 0, 1) := by decide +kernel
theorem d13_79 : decode method_4_code 79 = .ok (.bipush 92, 2) := by decide +kernel
theorem d13_81 : decode method_4_code 81 = .ok (.if_icmp .eq 21, 3) := by decide +kernel
theorem d13_84 : decode method_4_code 84 = .ok (.iload_n 0, 1) := by decide +kernel
theorem d13_85 : decode method_4_code 85 = .ok (.bipush 93, 2) := by decide +kernel
theorem d13_87 : decode method_4_code 87 = .ok (.if_icmp .eq 15, 3) := by decide +kernel
theorem d13_90 : decode method_4_code 90 = .ok (.iload_n 0, 1) := by decide +kernel
theorem d13_91 : decode method_4_code 91 = .ok (.bipush 123, 2) := by decide +kernel
theorem d13_93 : decode method_4_code 93 = .ok (.if_icmp .eq 9, 3) := by decide +kernel
theorem d13_96 : decode method_4_code 96 = .ok (.iload_n 0, 1) := by decide +kernel
theorem d13_97 : decode method_4_code 97 = .ok (.bipush 125, 2) := by decide +kernel
theorem d13_99 : decode method_4_code 99 = .ok (.if_icmp .ne 7, 3) := by decide +kernel
theorem d13_102 : decode method_4_code 102 = .ok (.iconst 1, 1) := by decide +kernel
theorem d13_103 : decode method_4_code 103 = .ok (.goto 4, 3) := by decide +kernel
theorem d13_106 : decode method_4_code 106 = .ok (.iconst 0, 1) := by decide +kernel
theorem d13_107 : decode method_4_code 107 = .ok (.ireturn, 1) := by decide +kernel
theorem pn_com_example_admission_for_endpoints_admissionforendpoints_EndpointRequestIsTokenCharPinLaw : plainName "com/example/admission_for_endpoints/admissionforendpoints/EndpointRequestIsTokenCharPinLaw" = true := by first | (simp [plainName, overriddenIn]; done) | decide +kernel
theorem ef_13 (p0 : Int32)  (m : MethodId) : entryFrame m #[(.int p0)] 1 = mkF m 0 #[.val (.int p0)] [] := by first | (simp [entryFrame, mkF, argsToLocals, Value.category]; done) | rfl
def F13 (p0 : Int32) : Int32 := (if p0 = (34 : Int32) then (1 : Int32) else (if p0 = (40 : Int32) then (1 : Int32) else (if p0 = (41 : Int32) then (1 : Int32) else (if p0 = (44 : Int32) then (1 : Int32) else (if p0 = (47 : Int32) then (1 : Int32) else (if p0 = (58 : Int32) then (1 : Int32) else (if p0 = (59 : Int32) then (1 : Int32) else (if p0 = (60 : Int32) then (1 : Int32) else (if p0 = (61 : Int32) then (1 : Int32) else (if p0 = (62 : Int32) then (1 : Int32) else (if p0 = (63 : Int32) then (1 : Int32) else (if p0 = (64 : Int32) then (1 : Int32) else (if p0 = (91 : Int32) then (1 : Int32) else (if p0 = (92 : Int32) then (1 : Int32) else (if p0 = (93 : Int32) then (1 : Int32) else (if p0 = (123 : Int32) then (1 : Int32) else (if p0 = (125 : Int32) then (1 : Int32) else (0 : Int32))))))))))))))))))
def Q13 (Z : State) (p0 : Int32)  (h0 : Heap) (n0 : Nat) (v : Option Value) (h : Heap) (L : List Loc) : Prop := v = some (.int (F13 p0)) ∧ Fr n0 L ∧ h = h0
set_option maxRecDepth 65536 in
set_option maxHeartbeats 40000000 in
theorem rm13 (l : Launch) (Z : State) (a0 : Array Value) (hw : ∀ d ∈ tables_1, d.before a0 Z = true) (ws : List Jvm.Cond) (p0 : Int32)  (h0 : Heap) (n0 : Nat) (Z0 : n0 ≤ h0.size) :
    MetFree l (⟨"com/example/admission_for_endpoints/admissionforendpoints/EndpointRequestIsTokenCharPinLaw", "isDelimiter", "(I)Z"⟩ : MethodName) (head1 (Jvm.Cond.code (⟨"com/example/admission_for_endpoints/admissionforendpoints/EndpointRequestIsTokenCharPinLaw", "isDelimiter", "(I)Z"⟩ : MethodName) method_4_code 1 (some .boolean) :: ws) ({ frames := 0, cells := 0, slots := 0, locals := 0 } : Room)) (fun a U => a = #[(.int p0)] ∧ Z.Warmed39 U.vm ∧ U.heap = h0) (fun _ _ _ _ _ => True) (fun _ U o U' => ∃ v L, o = .returned v ∧ Q13 Z p0 h0 n0 v U'.heap L ∧ FrameEnd U o U' L ({ frames := 0, cells := 0, slots := 0, locals := 0 } : Room).cells ({ frames := 0, cells := 0, slots := 0, locals := 0 } : Room).slots) := by
  refine MetFree.of_bodySF (plainFor_of_name pn_com_example_admission_for_endpoints_admissionforendpoints_EndpointRequestIsTokenCharPinLaw) hisR ?_
  intro p e s m args below meth c s₁ Bd hml0 hP hK
  obtain ⟨rfl, hZ, hh⟩ := hP
  have hx := Bd.exec
  have hby := Bd.bytes
  have hml : c.maxLocals = 1 := hml0
  have hown : s.vm.findClass "com/example/admission_for_endpoints/admissionforendpoints/EndpointRequestIsTokenCharPinLaw" = some m.cls := findClass_of_methodNamed Bd.named
  have hnm := (name_of_methodNamed Bd.named Bd.method).1
  have X0 : Stand p l e ({ frames := 0, cells := 0, slots := 0, locals := 0 } : Room) s m #[(.int p0)] below meth c s₁ [] 0 0 := Stand.of_body Bd
  have e0 : s₁.heap = h0 := by rw [← hh, Bd.state]; rfl
  have N0 := Fr.nil n0
  have pre0 : ∀ t, Steps p.tables e below (s₁.setTop (mkF m 0 #[.val (.int p0)] [])) t → Steps p.tables e below (s₁.setTop (entryFrame m #[(.int p0)] 1)) t := fun t k => castTop (ef_13 p0 m) k
  have pre1 : ∀ t, Steps p.tables e below (s₁.setTop (mkF m 3 #[.val (.int p0)] [(.int (34 : Int32)), (.int p0)])) t → Steps p.tables e below (s₁.setTop (entryFrame m #[(.int p0)] 1)) t := fun t kt => pre0 t (by
    show Steps p.tables e below (s₁.setTop (mkF m 0 #[.val (.int p0)] [])) _
    refine XS.iloadN X0.here hx rfl (hb hby d13_0) rfl ?_
    show Steps p.tables e below (s₁.setTop (mkF m 1 #[.val (.int p0)] [(.int p0)])) _
    refine XS.bipush X0.here hx rfl (hb hby d13_1) ?_
    exact kt)
  by_cases hc3 : p0 = (34 : Int32)
  · obtain ⟨fs, hr, hrun, hended, hW, hsame⟩ := X0.leave (v := some (.int (1 : Int32))) (fun h => by rw [Bd.returns] at h; cases h)
    refine ⟨_, _, pre1 _ ?_, hrun, hended, _, _, rfl, ?_, ⟨_, rfl⟩, hW, hsame.mono (by decide) (by decide)⟩
    · show Steps p.tables e below (s₁.setTop (mkF m 3 #[.val (.int p0)] [(.int (34 : Int32)), (.int p0)])) _
      refine XS.icmpYes X0.here hx rfl (pc0 := 3) (pc' := 102) rfl (hb hby d13_3) rfl (teq hc3).1 (by decide) (by decide) ?_
      show Steps p.tables e below (s₁.setTop (mkF m 102 #[.val (.int p0)] [])) _
      refine XS.iconst X0.here hx rfl (hb hby d13_102) ?_
      show Steps p.tables e below (s₁.setTop (mkF m 103 #[.val (.int p0)] [(.int (1 : Int32))])) _
      refine XS.goto X0.here hx rfl (pc0 := 103) (pc' := 107) rfl (hb hby d13_103) (by decide) (by decide) ?_
      show Steps p.tables e below (s₁.setTop (mkF m 107 #[.val (.int p0)] [(.int (1 : Int32))])) _
      exact retN X0 hx (t := .boolean) Bd.returns (by simp) (hb hby d13_107) hr
    · show Q13 Z p0 h0 n0 _ s₁.heap _
      rw [e0]
      exact ⟨(by unfold F13; simp only [if_pos hc3]), N0, rfl⟩
  · have pre2 : ∀ t, Steps p.tables e below (s₁.setTop (mkF m 9 #[.val (.int p0)] [(.int (40 : Int32)), (.int p0)])) t → Steps p.tables e below (s₁.setTop (entryFrame m #[(.int p0)] 1)) t := fun t kt => pre1 t (by
      show Steps p.tables e below (s₁.setTop (mkF m 3 #[.val (.int p0)] [(.int (34 : Int32)), (.int p0)])) _
      refine XS.icmpNo X0.here hx rfl (hb hby d13_3) rfl (feq hc3).1 ?_
      show Steps p.tables e below (s₁.setTop (mkF m 6 #[.val (.int p0)] [])) _
      refine XS.iloadN X0.here hx rfl (hb hby d13_6) rfl ?_
      show Steps p.tables e below (s₁.setTop (mkF m 7 #[.val (.int p0)] [(.int p0)])) _
      refine XS.bipush X0.here hx rfl (hb hby d13_7) ?_
      exact kt)
    by_cases hc9 : p0 = (40 : Int32)
    · obtain ⟨fs, hr, hrun, hended, hW, hsame⟩ := X0.leave (v := some (.int (1 : Int32))) (fun h => by rw [Bd.returns] at h; cases h)
      refine ⟨_, _, pre2 _ ?_, hrun, hended, _, _, rfl, ?_, ⟨_, rfl⟩, hW, hsame.mono (by decide) (by decide)⟩
      · show Steps p.tables e below (s₁.setTop (mkF m 9 #[.val (.int p0)] [(.int (40 : Int32)), (.int p0)])) _
        refine XS.icmpYes X0.here hx rfl (pc0 := 9) (pc' := 102) rfl (hb hby d13_9) rfl (teq hc9).1 (by decide) (by decide) ?_
        show Steps p.tables e below (s₁.setTop (mkF m 102 #[.val (.int p0)] [])) _
        refine XS.iconst X0.here hx rfl (hb hby d13_102) ?_
        show Steps p.tables e below (s₁.setTop (mkF m 103 #[.val (.int p0)] [(.int (1 : Int32))])) _
        refine XS.goto X0.here hx rfl (pc0 := 103) (pc' := 107) rfl (hb hby d13_103) (by decide) (by decide) ?_
        show Steps p.tables e below (s₁.setTop (mkF m 107 #[.val (.int p0)] [(.int (1 : Int32))])) _
        exact retN X0 hx (t := .boolean) Bd.returns (by simp) (hb hby d13_107) hr
      · show Q13 Z p0 h0 n0 _ s₁.heap _
        rw [e0]
        exact ⟨(by unfold F13; simp only [if_neg hc3, if_pos hc9]), N0, rfl⟩
    · have pre3 : ∀ t, Steps p.tables e below (s₁.setTop (mkF m 15 #[.val (.int p0)] [(.int (41 : Int32)), (.int p0)])) t → Steps p.tables e below (s₁.setTop (entryFrame m #[(.int p0)] 1)) t := fun t kt => pre2 t (by
        show Steps p.tables e below (s₁.setTop (mkF m 9 #[.val (.int p0)] [(.int (40 : Int32)), (.int p0)])) _
        refine XS.icmpNo X0.here hx rfl (hb hby d13_9) rfl (feq hc9).1 ?_
        show Steps p.tables e below (s₁.setTop (mkF m 12 #[.val (.int p0)] [])) _
        refine XS.iloadN X0.here hx rfl (hb hby d13_12) rfl ?_
        show Steps p.tables e below (s₁.setTop (mkF m 13 #[.val (.int p0)] [(.int p0)])) _
        refine XS.bipush X0.here hx rfl (hb hby d13_13) ?_
        exact kt)
      by_cases hc15 : p0 = (41 : Int32)
      · obtain ⟨fs, hr, hrun, hended, hW, hsame⟩ := X0.leave (v := some (.int (1 : Int32))) (fun h => by rw [Bd.returns] at h; cases h)
        refine ⟨_, _, pre3 _ ?_, hrun, hended, _, _, rfl, ?_, ⟨_, rfl⟩, hW, hsame.mono (by decide) (by decide)⟩
        · show Steps p.tables e below (s₁.setTop (mkF m 15 #[.val (.int p0)] [(.int (41 : Int32)), (.int p0)])) _
          refine XS.icmpYes X0.here hx rfl (pc0 := 15) (pc' := 102) rfl (hb hby d13_15) rfl (teq hc15).1 (by decide) (by decide) ?_
          show Steps p.tables e below (s₁.setTop (mkF m 102 #[.val (.int p0)] [])) _
          refine XS.iconst X0.here hx rfl (hb hby d13_102) ?_
          show Steps p.tables e below (s₁.setTop (mkF m 103 #[.val (.int p0)] [(.int (1 : Int32))])) _
          refine XS.goto X0.here hx rfl (pc0 := 103) (pc' := 107) rfl (hb hby d13_103) (by decide) (by decide) ?_
          show Steps p.tables e below (s₁.setTop (mkF m 107 #[.val (.int p0)] [(.int (1 : Int32))])) _
          exact retN X0 hx (t := .boolean) Bd.returns (by simp) (hb hby d13_107) hr
        · show Q13 Z p0 h0 n0 _ s₁.heap _
          rw [e0]
          exact ⟨(by unfold F13; simp only [if_neg hc3, if_neg hc9, if_pos hc15]), N0, rfl⟩
      · have pre4 : ∀ t, Steps p.tables e below (s₁.setTop (mkF m 21 #[.val (.int p0)] [(.int (44 : Int32)), (.int p0)])) t → Steps p.tables e below (s₁.setTop (entryFrame m #[(.int p0)] 1)) t := fun t kt => pre3 t (by
          show Steps p.tables e below (s₁.setTop (mkF m 15 #[.val (.int p0)] [(.int (41 : Int32)), (.int p0)])) _
          refine XS.icmpNo X0.here hx rfl (hb hby d13_15) rfl (feq hc15).1 ?_
          show Steps p.tables e below (s₁.setTop (mkF m 18 #[.val (.int p0)] [])) _
          refine XS.iloadN X0.here hx rfl (hb hby d13_18) rfl ?_
          show Steps p.tables e below (s₁.setTop (mkF m 19 #[.val (.int p0)] [(.int p0)])) _
          refine XS.bipush X0.here hx rfl (hb hby d13_19) ?_
          exact kt)
        by_cases hc21 : p0 = (44 : Int32)
        · obtain ⟨fs, hr, hrun, hended, hW, hsame⟩ := X0.leave (v := some (.int (1 : Int32))) (fun h => by rw [Bd.returns] at h; cases h)
          refine ⟨_, _, pre4 _ ?_, hrun, hended, _, _, rfl, ?_, ⟨_, rfl⟩, hW, hsame.mono (by decide) (by decide)⟩
          · show Steps p.tables e below (s₁.setTop (mkF m 21 #[.val (.int p0)] [(.int (44 : Int32)), (.int p0)])) _
            refine XS.icmpYes X0.here hx rfl (pc0 := 21) (pc' := 102) rfl (hb hby d13_21) rfl (teq hc21).1 (by decide) (by decide) ?_
            show Steps p.tables e below (s₁.setTop (mkF m 102 #[.val (.int p0)] [])) _
            refine XS.iconst X0.here hx rfl (hb hby d13_102) ?_
            show Steps p.tables e below (s₁.setTop (mkF m 103 #[.val (.int p0)] [(.int (1 : Int32))])) _
            refine XS.goto X0.here hx rfl (pc0 := 103) (pc' := 107) rfl (hb hby d13_103) (by decide) (by decide) ?_
            show Steps p.tables e below (s₁.setTop (mkF m 107 #[.val (.int p0)] [(.int (1 : Int32))])) _
            exact retN X0 hx (t := .boolean) Bd.returns (by simp) (hb hby d13_107) hr
          · show Q13 Z p0 h0 n0 _ s₁.heap _
            rw [e0]
            exact ⟨(by unfold F13; simp only [if_neg hc3, if_neg hc9, if_neg hc15, if_pos hc21]), N0, rfl⟩
        · have pre5 : ∀ t, Steps p.tables e below (s₁.setTop (mkF m 27 #[.val (.int p0)] [(.int (47 : Int32)), (.int p0)])) t → Steps p.tables e below (s₁.setTop (entryFrame m #[(.int p0)] 1)) t := fun t kt => pre4 t (by
            show Steps p.tables e below (s₁.setTop (mkF m 21 #[.val (.int p0)] [(.int (44 : Int32)), (.int p0)])) _
            refine XS.icmpNo X0.here hx rfl (hb hby d13_21) rfl (feq hc21).1 ?_
            show Steps p.tables e below (s₁.setTop (mkF m 24 #[.val (.int p0)] [])) _
            refine XS.iloadN X0.here hx rfl (hb hby d13_24) rfl ?_
            show Steps p.tables e below (s₁.setTop (mkF m 25 #[.val (.int p0)] [(.int p0)])) _
            refine XS.bipush X0.here hx rfl (hb hby d13_25) ?_
            exact kt)
          by_cases hc27 : p0 = (47 : Int32)
          · obtain ⟨fs, hr, hrun, hended, hW, hsame⟩ := X0.leave (v := some (.int (1 : Int32))) (fun h => by rw [Bd.returns] at h; cases h)
            refine ⟨_, _, pre5 _ ?_, hrun, hended, _, _, rfl, ?_, ⟨_, rfl⟩, hW, hsame.mono (by decide) (by decide)⟩
            · show Steps p.tables e below (s₁.setTop (mkF m 27 #[.val (.int p0)] [(.int (47 : Int32)), (.int p0)])) _
              refine XS.icmpYes X0.here hx rfl (pc0 := 27) (pc' := 102) rfl (hb hby d13_27) rfl (teq hc27).1 (by decide) (by decide) ?_
              show Steps p.tables e below (s₁.setTop (mkF m 102 #[.val (.int p0)] [])) _
              refine XS.iconst X0.here hx rfl (hb hby d13_102) ?_
              show Steps p.tables e below (s₁.setTop (mkF m 103 #[.val (.int p0)] [(.int (1 : Int32))])) _
              refine XS.goto X0.here hx rfl (pc0 := 103) (pc' := 107) rfl (hb hby d13_103) (by decide) (by decide) ?_
              show Steps p.tables e below (s₁.setTop (mkF m 107 #[.val (.int p0)] [(.int (1 : Int32))])) _
              exact retN X0 hx (t := .boolean) Bd.returns (by simp) (hb hby d13_107) hr
            · show Q13 Z p0 h0 n0 _ s₁.heap _
              rw [e0]
              exact ⟨(by unfold F13; simp only [if_neg hc3, if_neg hc9, if_neg hc15, if_neg hc21, if_pos hc27]), N0, rfl⟩
          · have pre6 : ∀ t, Steps p.tables e below (s₁.setTop (mkF m 33 #[.val (.int p0)] [(.int (58 : Int32)), (.int p0)])) t → Steps p.tables e below (s₁.setTop (entryFrame m #[(.int p0)] 1)) t := fun t kt => pre5 t (by
              show Steps p.tables e below (s₁.setTop (mkF m 27 #[.val (.int p0)] [(.int (47 : Int32)), (.int p0)])) _
              refine XS.icmpNo X0.here hx rfl (hb hby d13_27) rfl (feq hc27).1 ?_
              show Steps p.tables e below (s₁.setTop (mkF m 30 #[.val (.int p0)] [])) _
              refine XS.iloadN X0.here hx rfl (hb hby d13_30) rfl ?_
              show Steps p.tables e below (s₁.setTop (mkF m 31 #[.val (.int p0)] [(.int p0)])) _
              refine XS.bipush X0.here hx rfl (hb hby d13_31) ?_
              exact kt)
            by_cases hc33 : p0 = (58 : Int32)
            · obtain ⟨fs, hr, hrun, hended, hW, hsame⟩ := X0.leave (v := some (.int (1 : Int32))) (fun h => by rw [Bd.returns] at h; cases h)
              refine ⟨_, _, pre6 _ ?_, hrun, hended, _, _, rfl, ?_, ⟨_, rfl⟩, hW, hsame.mono (by decide) (by decide)⟩
              · show Steps p.tables e below (s₁.setTop (mkF m 33 #[.val (.int p0)] [(.int (58 : Int32)), (.int p0)])) _
                refine XS.icmpYes X0.here hx rfl (pc0 := 33) (pc' := 102) rfl (hb hby d13_33) rfl (teq hc33).1 (by decide) (by decide) ?_
                show Steps p.tables e below (s₁.setTop (mkF m 102 #[.val (.int p0)] [])) _
                refine XS.iconst X0.here hx rfl (hb hby d13_102) ?_
                show Steps p.tables e below (s₁.setTop (mkF m 103 #[.val (.int p0)] [(.int (1 : Int32))])) _
                refine XS.goto X0.here hx rfl (pc0 := 103) (pc' := 107) rfl (hb hby d13_103) (by decide) (by decide) ?_
                show Steps p.tables e below (s₁.setTop (mkF m 107 #[.val (.int p0)] [(.int (1 : Int32))])) _
                exact retN X0 hx (t := .boolean) Bd.returns (by simp) (hb hby d13_107) hr
              · show Q13 Z p0 h0 n0 _ s₁.heap _
                rw [e0]
                exact ⟨(by unfold F13; simp only [if_neg hc3, if_neg hc9, if_neg hc15, if_neg hc21, if_neg hc27, if_pos hc33]), N0, rfl⟩
            · have pre7 : ∀ t, Steps p.tables e below (s₁.setTop (mkF m 39 #[.val (.int p0)] [(.int (59 : Int32)), (.int p0)])) t → Steps p.tables e below (s₁.setTop (entryFrame m #[(.int p0)] 1)) t := fun t kt => pre6 t (by
                show Steps p.tables e below (s₁.setTop (mkF m 33 #[.val (.int p0)] [(.int (58 : Int32)), (.int p0)])) _
                refine XS.icmpNo X0.here hx rfl (hb hby d13_33) rfl (feq hc33).1 ?_
                show Steps p.tables e below (s₁.setTop (mkF m 36 #[.val (.int p0)] [])) _
                refine XS.iloadN X0.here hx rfl (hb hby d13_36) rfl ?_
                show Steps p.tables e below (s₁.setTop (mkF m 37 #[.val (.int p0)] [(.int p0)])) _
                refine XS.bipush X0.here hx rfl (hb hby d13_37) ?_
                exact kt)
              by_cases hc39 : p0 = (59 : Int32)
              · obtain ⟨fs, hr, hrun, hended, hW, hsame⟩ := X0.leave (v := some (.int (1 : Int32))) (fun h => by rw [Bd.returns] at h; cases h)
                refine ⟨_, _, pre7 _ ?_, hrun, hended, _, _, rfl, ?_, ⟨_, rfl⟩, hW, hsame.mono (by decide) (by decide)⟩
                · show Steps p.tables e below (s₁.setTop (mkF m 39 #[.val (.int p0)] [(.int (59 : Int32)), (.int p0)])) _
                  refine XS.icmpYes X0.here hx rfl (pc0 := 39) (pc' := 102) rfl (hb hby d13_39) rfl (teq hc39).1 (by decide) (by decide) ?_
                  show Steps p.tables e below (s₁.setTop (mkF m 102 #[.val (.int p0)] [])) _
                  refine XS.iconst X0.here hx rfl (hb hby d13_102) ?_
                  show Steps p.tables e below (s₁.setTop (mkF m 103 #[.val (.int p0)] [(.int (1 : Int32))])) _
                  refine XS.goto X0.here hx rfl (pc0 := 103) (pc' := 107) rfl (hb hby d13_103) (by decide) (by decide) ?_
                  show Steps p.tables e below (s₁.setTop (mkF m 107 #[.val (.int p0)] [(.int (1 : Int32))])) _
                  exact retN X0 hx (t := .boolean) Bd.returns (by simp) (hb hby d13_107) hr
                · show Q13 Z p0 h0 n0 _ s₁.heap _
                  rw [e0]
                  exact ⟨(by unfold F13; simp only [if_neg hc3, if_neg hc9, if_neg hc15, if_neg hc21, if_neg hc27, if_neg hc33, if_pos hc39]), N0, rfl⟩
              · have pre8 : ∀ t, Steps p.tables e below (s₁.setTop (mkF m 45 #[.val (.int p0)] [(.int (60 : Int32)), (.int p0)])) t → Steps p.tables e below (s₁.setTop (entryFrame m #[(.int p0)] 1)) t := fun t kt => pre7 t (by
                  show Steps p.tables e below (s₁.setTop (mkF m 39 #[.val (.int p0)] [(.int (59 : Int32)), (.int p0)])) _
                  refine XS.icmpNo X0.here hx rfl (hb hby d13_39) rfl (feq hc39).1 ?_
                  show Steps p.tables e below (s₁.setTop (mkF m 42 #[.val (.int p0)] [])) _
                  refine XS.iloadN X0.here hx rfl (hb hby d13_42) rfl ?_
                  show Steps p.tables e below (s₁.setTop (mkF m 43 #[.val (.int p0)] [(.int p0)])) _
                  refine XS.bipush X0.here hx rfl (hb hby d13_43) ?_
                  exact kt)
                by_cases hc45 : p0 = (60 : Int32)
                · obtain ⟨fs, hr, hrun, hended, hW, hsame⟩ := X0.leave (v := some (.int (1 : Int32))) (fun h => by rw [Bd.returns] at h; cases h)
                  refine ⟨_, _, pre8 _ ?_, hrun, hended, _, _, rfl, ?_, ⟨_, rfl⟩, hW, hsame.mono (by decide) (by decide)⟩
                  · show Steps p.tables e below (s₁.setTop (mkF m 45 #[.val (.int p0)] [(.int (60 : Int32)), (.int p0)])) _
                    refine XS.icmpYes X0.here hx rfl (pc0 := 45) (pc' := 102) rfl (hb hby d13_45) rfl (teq hc45).1 (by decide) (by decide) ?_
                    show Steps p.tables e below (s₁.setTop (mkF m 102 #[.val (.int p0)] [])) _
                    refine XS.iconst X0.here hx rfl (hb hby d13_102) ?_
                    show Steps p.tables e below (s₁.setTop (mkF m 103 #[.val (.int p0)] [(.int (1 : Int32))])) _
                    refine XS.goto X0.here hx rfl (pc0 := 103) (pc' := 107) rfl (hb hby d13_103) (by decide) (by decide) ?_
                    show Steps p.tables e below (s₁.setTop (mkF m 107 #[.val (.int p0)] [(.int (1 : Int32))])) _
                    exact retN X0 hx (t := .boolean) Bd.returns (by simp) (hb hby d13_107) hr
                  · show Q13 Z p0 h0 n0 _ s₁.heap _
                    rw [e0]
                    exact ⟨(by unfold F13; simp only [if_neg hc3, if_neg hc9, if_neg hc15, if_neg hc21, if_neg hc27, if_neg hc33, if_neg hc39, if_pos hc45]), N0, rfl⟩
                · have pre9 : ∀ t, Steps p.tables e below (s₁.setTop (mkF m 51 #[.val (.int p0)] [(.int (61 : Int32)), (.int p0)])) t → Steps p.tables e below (s₁.setTop (entryFrame m #[(.int p0)] 1)) t := fun t kt => pre8 t (by
                    show Steps p.tables e below (s₁.setTop (mkF m 45 #[.val (.int p0)] [(.int (60 : Int32)), (.int p0)])) _
                    refine XS.icmpNo X0.here hx rfl (hb hby d13_45) rfl (feq hc45).1 ?_
                    show Steps p.tables e below (s₁.setTop (mkF m 48 #[.val (.int p0)] [])) _
                    refine XS.iloadN X0.here hx rfl (hb hby d13_48) rfl ?_
                    show Steps p.tables e below (s₁.setTop (mkF m 49 #[.val (.int p0)] [(.int p0)])) _
                    refine XS.bipush X0.here hx rfl (hb hby d13_49) ?_
                    exact kt)
                  by_cases hc51 : p0 = (61 : Int32)
                  · obtain ⟨fs, hr, hrun, hended, hW, hsame⟩ := X0.leave (v := some (.int (1 : Int32))) (fun h => by rw [Bd.returns] at h; cases h)
                    refine ⟨_, _, pre9 _ ?_, hrun, hended, _, _, rfl, ?_, ⟨_, rfl⟩, hW, hsame.mono (by decide) (by decide)⟩
                    · show Steps p.tables e below (s₁.setTop (mkF m 51 #[.val (.int p0)] [(.int (61 : Int32)), (.int p0)])) _
                      refine XS.icmpYes X0.here hx rfl (pc0 := 51) (pc' := 102) rfl (hb hby d13_51) rfl (teq hc51).1 (by decide) (by decide) ?_
                      show Steps p.tables e below (s₁.setTop (mkF m 102 #[.val (.int p0)] [])) _
                      refine XS.iconst X0.here hx rfl (hb hby d13_102) ?_
                      show Steps p.tables e below (s₁.setTop (mkF m 103 #[.val (.int p0)] [(.int (1 : Int32))])) _
                      refine XS.goto X0.here hx rfl (pc0 := 103) (pc' := 107) rfl (hb hby d13_103) (by decide) (by decide) ?_
                      show Steps p.tables e below (s₁.setTop (mkF m 107 #[.val (.int p0)] [(.int (1 : Int32))])) _
                      exact retN X0 hx (t := .boolean) Bd.returns (by simp) (hb hby d13_107) hr
                    · show Q13 Z p0 h0 n0 _ s₁.heap _
                      rw [e0]
                      exact ⟨(by unfold F13; simp only [if_neg hc3, if_neg hc9, if_neg hc15, if_neg hc21, if_neg hc27, if_neg hc33, if_neg hc39, if_neg hc45, if_pos hc51]), N0, rfl⟩
                  · have pre10 : ∀ t, Steps p.tables e below (s₁.setTop (mkF m 57 #[.val (.int p0)] [(.int (62 : Int32)), (.int p0)])) t → Steps p.tables e below (s₁.setTop (entryFrame m #[(.int p0)] 1)) t := fun t kt => pre9 t (by
                      show Steps p.tables e below (s₁.setTop (mkF m 51 #[.val (.int p0)] [(.int (61 : Int32)), (.int p0)])) _
                      refine XS.icmpNo X0.here hx rfl (hb hby d13_51) rfl (feq hc51).1 ?_
                      show Steps p.tables e below (s₁.setTop (mkF m 54 #[.val (.int p0)] [])) _
                      refine XS.iloadN X0.here hx rfl (hb hby d13_54) rfl ?_
                      show Steps p.tables e below (s₁.setTop (mkF m 55 #[.val (.int p0)] [(.int p0)])) _
                      refine XS.bipush X0.here hx rfl (hb hby d13_55) ?_
                      exact kt)
                    by_cases hc57 : p0 = (62 : Int32)
                    · obtain ⟨fs, hr, hrun, hended, hW, hsame⟩ := X0.leave (v := some (.int (1 : Int32))) (fun h => by rw [Bd.returns] at h; cases h)
                      refine ⟨_, _, pre10 _ ?_, hrun, hended, _, _, rfl, ?_, ⟨_, rfl⟩, hW, hsame.mono (by decide) (by decide)⟩
                      · show Steps p.tables e below (s₁.setTop (mkF m 57 #[.val (.int p0)] [(.int (62 : Int32)), (.int p0)])) _
                        refine XS.icmpYes X0.here hx rfl (pc0 := 57) (pc' := 102) rfl (hb hby d13_57) rfl (teq hc57).1 (by decide) (by decide) ?_
                        show Steps p.tables e below (s₁.setTop (mkF m 102 #[.val (.int p0)] [])) _
                        refine XS.iconst X0.here hx rfl (hb hby d13_102) ?_
                        show Steps p.tables e below (s₁.setTop (mkF m 103 #[.val (.int p0)] [(.int (1 : Int32))])) _
                        refine XS.goto X0.here hx rfl (pc0 := 103) (pc' := 107) rfl (hb hby d13_103) (by decide) (by decide) ?_
                        show Steps p.tables e below (s₁.setTop (mkF m 107 #[.val (.int p0)] [(.int (1 : Int32))])) _
                        exact retN X0 hx (t := .boolean) Bd.returns (by simp) (hb hby d13_107) hr
                      · show Q13 Z p0 h0 n0 _ s₁.heap _
                        rw [e0]
                        exact ⟨(by unfold F13; simp only [if_neg hc3, if_neg hc9, if_neg hc15, if_neg hc21, if_neg hc27, if_neg hc33, if_neg hc39, if_neg hc45, if_neg hc51, if_pos hc57]), N0, rfl⟩
                    · have pre11 : ∀ t, Steps p.tables e below (s₁.setTop (mkF m 63 #[.val (.int p0)] [(.int (63 : Int32)), (.int p0)])) t → Steps p.tables e below (s₁.setTop (entryFrame m #[(.int p0)] 1)) t := fun t kt => pre10 t (by
                        show Steps p.tables e below (s₁.setTop (mkF m 57 #[.val (.int p0)] [(.int (62 : Int32)), (.int p0)])) _
                        refine XS.icmpNo X0.here hx rfl (hb hby d13_57) rfl (feq hc57).1 ?_
                        show Steps p.tables e below (s₁.setTop (mkF m 60 #[.val (.int p0)] [])) _
                        refine XS.iloadN X0.here hx rfl (hb hby d13_60) rfl ?_
                        show Steps p.tables e below (s₁.setTop (mkF m 61 #[.val (.int p0)] [(.int p0)])) _
                        refine XS.bipush X0.here hx rfl (hb hby d13_61) ?_
                        exact kt)
                      by_cases hc63 : p0 = (63 : Int32)
                      · obtain ⟨fs, hr, hrun, hended, hW, hsame⟩ := X0.leave (v := some (.int (1 : Int32))) (fun h => by rw [Bd.returns] at h; cases h)
                        refine ⟨_, _, pre11 _ ?_, hrun, hended, _, _, rfl, ?_, ⟨_, rfl⟩, hW, hsame.mono (by decide) (by decide)⟩
                        · show Steps p.tables e below (s₁.setTop (mkF m 63 #[.val (.int p0)] [(.int (63 : Int32)), (.int p0)])) _
                          refine XS.icmpYes X0.here hx rfl (pc0 := 63) (pc' := 102) rfl (hb hby d13_63) rfl (teq hc63).1 (by decide) (by decide) ?_
                          show Steps p.tables e below (s₁.setTop (mkF m 102 #[.val (.int p0)] [])) _
                          refine XS.iconst X0.here hx rfl (hb hby d13_102) ?_
                          show Steps p.tables e below (s₁.setTop (mkF m 103 #[.val (.int p0)] [(.int (1 : Int32))])) _
                          refine XS.goto X0.here hx rfl (pc0 := 103) (pc' := 107) rfl (hb hby d13_103) (by decide) (by decide) ?_
                          show Steps p.tables e below (s₁.setTop (mkF m 107 #[.val (.int p0)] [(.int (1 : Int32))])) _
                          exact retN X0 hx (t := .boolean) Bd.returns (by simp) (hb hby d13_107) hr
                        · show Q13 Z p0 h0 n0 _ s₁.heap _
                          rw [e0]
                          exact ⟨(by unfold F13; simp only [if_neg hc3, if_neg hc9, if_neg hc15, if_neg hc21, if_neg hc27, if_neg hc33, if_neg hc39, if_neg hc45, if_neg hc51, if_neg hc57, if_pos hc63]), N0, rfl⟩
                      · have pre12 : ∀ t, Steps p.tables e below (s₁.setTop (mkF m 69 #[.val (.int p0)] [(.int (64 : Int32)), (.int p0)])) t → Steps p.tables e below (s₁.setTop (entryFrame m #[(.int p0)] 1)) t := fun t kt => pre11 t (by
                          show Steps p.tables e below (s₁.setTop (mkF m 63 #[.val (.int p0)] [(.int (63 : Int32)), (.int p0)])) _
                          refine XS.icmpNo X0.here hx rfl (hb hby d13_63) rfl (feq hc63).1 ?_
                          show Steps p.tables e below (s₁.setTop (mkF m 66 #[.val (.int p0)] [])) _
                          refine XS.iloadN X0.here hx rfl (hb hby d13_66) rfl ?_
                          show Steps p.tables e below (s₁.setTop (mkF m 67 #[.val (.int p0)] [(.int p0)])) _
                          refine XS.bipush X0.here hx rfl (hb hby d13_67) ?_
                          exact kt)
                        by_cases hc69 : p0 = (64 : Int32)
                        · obtain ⟨fs, hr, hrun, hended, hW, hsame⟩ := X0.leave (v := some (.int (1 : Int32))) (fun h => by rw [Bd.returns] at h; cases h)
                          refine ⟨_, _, pre12 _ ?_, hrun, hended, _, _, rfl, ?_, ⟨_, rfl⟩, hW, hsame.mono (by decide) (by decide)⟩
                          · show Steps p.tables e below (s₁.setTop (mkF m 69 #[.val (.int p0)] [(.int (64 : Int32)), (.int p0)])) _
                            refine XS.icmpYes X0.here hx rfl (pc0 := 69) (pc' := 102) rfl (hb hby d13_69) rfl (teq hc69).1 (by decide) (by decide) ?_
                            show Steps p.tables e below (s₁.setTop (mkF m 102 #[.val (.int p0)] [])) _
                            refine XS.iconst X0.here hx rfl (hb hby d13_102) ?_
                            show Steps p.tables e below (s₁.setTop (mkF m 103 #[.val (.int p0)] [(.int (1 : Int32))])) _
                            refine XS.goto X0.here hx rfl (pc0 := 103) (pc' := 107) rfl (hb hby d13_103) (by decide) (by decide) ?_
                            show Steps p.tables e below (s₁.setTop (mkF m 107 #[.val (.int p0)] [(.int (1 : Int32))])) _
                            exact retN X0 hx (t := .boolean) Bd.returns (by simp) (hb hby d13_107) hr
                          · show Q13 Z p0 h0 n0 _ s₁.heap _
                            rw [e0]
                            exact ⟨(by unfold F13; simp only [if_neg hc3, if_neg hc9, if_neg hc15, if_neg hc21, if_neg hc27, if_neg hc33, if_neg hc39, if_neg hc45, if_neg hc51, if_neg hc57, if_neg hc63, if_pos hc69]), N0, rfl⟩
                        · have pre13 : ∀ t, Steps p.tables e below (s₁.setTop (mkF m 75 #[.val (.int p0)] [(.int (91 : Int32)), (.int p0)])) t → Steps p.tables e below (s₁.setTop (entryFrame m #[(.int p0)] 1)) t := fun t kt => pre12 t (by
                            show Steps p.tables e below (s₁.setTop (mkF m 69 #[.val (.int p0)] [(.int (64 : Int32)), (.int p0)])) _
                            refine XS.icmpNo X0.here hx rfl (hb hby d13_69) rfl (feq hc69).1 ?_
                            show Steps p.tables e below (s₁.setTop (mkF m 72 #[.val (.int p0)] [])) _
                            refine XS.iloadN X0.here hx rfl (hb hby d13_72) rfl ?_
                            show Steps p.tables e below (s₁.setTop (mkF m 73 #[.val (.int p0)] [(.int p0)])) _
                            refine XS.bipush X0.here hx rfl (hb hby d13_73) ?_
                            exact kt)
                          by_cases hc75 : p0 = (91 : Int32)
                          · obtain ⟨fs, hr, hrun, hended, hW, hsame⟩ := X0.leave (v := some (.int (1 : Int32))) (fun h => by rw [Bd.returns] at h; cases h)
                            refine ⟨_, _, pre13 _ ?_, hrun, hended, _, _, rfl, ?_, ⟨_, rfl⟩, hW, hsame.mono (by decide) (by decide)⟩
                            · show Steps p.tables e below (s₁.setTop (mkF m 75 #[.val (.int p0)] [(.int (91 : Int32)), (.int p0)])) _
                              refine XS.icmpYes X0.here hx rfl (pc0 := 75) (pc' := 102) rfl (hb hby d13_75) rfl (teq hc75).1 (by decide) (by decide) ?_
                              show Steps p.tables e below (s₁.setTop (mkF m 102 #[.val (.int p0)] [])) _
                              refine XS.iconst X0.here hx rfl (hb hby d13_102) ?_
                              show Steps p.tables e below (s₁.setTop (mkF m 103 #[.val (.int p0)] [(.int (1 : Int32))])) _
                              refine XS.goto X0.here hx rfl (pc0 := 103) (pc' := 107) rfl (hb hby d13_103) (by decide) (by decide) ?_
                              show Steps p.tables e below (s₁.setTop (mkF m 107 #[.val (.int p0)] [(.int (1 : Int32))])) _
                              exact retN X0 hx (t := .boolean) Bd.returns (by simp) (hb hby d13_107) hr
                            · show Q13 Z p0 h0 n0 _ s₁.heap _
                              rw [e0]
                              exact ⟨(by unfold F13; simp only [if_neg hc3, if_neg hc9, if_neg hc15, if_neg hc21, if_neg hc27, if_neg hc33, if_neg hc39, if_neg hc45, if_neg hc51, if_neg hc57, if_neg hc63, if_neg hc69, if_pos hc75]), N0, rfl⟩
                          · have pre14 : ∀ t, Steps p.tables e below (s₁.setTop (mkF m 81 #[.val (.int p0)] [(.int (92 : Int32)), (.int p0)])) t → Steps p.tables e below (s₁.setTop (entryFrame m #[(.int p0)] 1)) t := fun t kt => pre13 t (by
                              show Steps p.tables e below (s₁.setTop (mkF m 75 #[.val (.int p0)] [(.int (91 : Int32)), (.int p0)])) _
                              refine XS.icmpNo X0.here hx rfl (hb hby d13_75) rfl (feq hc75).1 ?_
                              show Steps p.tables e below (s₁.setTop (mkF m 78 #[.val (.int p0)] [])) _
                              refine XS.iloadN X0.here hx rfl (hb hby d13_78) rfl ?_
                              show Steps p.tables e below (s₁.setTop (mkF m 79 #[.val (.int p0)] [(.int p0)])) _
                              refine XS.bipush X0.here hx rfl (hb hby d13_79) ?_
                              exact kt)
                            by_cases hc81 : p0 = (92 : Int32)
                            · obtain ⟨fs, hr, hrun, hended, hW, hsame⟩ := X0.leave (v := some (.int (1 : Int32))) (fun h => by rw [Bd.returns] at h; cases h)
                              refine ⟨_, _, pre14 _ ?_, hrun, hended, _, _, rfl, ?_, ⟨_, rfl⟩, hW, hsame.mono (by decide) (by decide)⟩
                              · show Steps p.tables e below (s₁.setTop (mkF m 81 #[.val (.int p0)] [(.int (92 : Int32)), (.int p0)])) _
                                refine XS.icmpYes X0.here hx rfl (pc0 := 81) (pc' := 102) rfl (hb hby d13_81) rfl (teq hc81).1 (by decide) (by decide) ?_
                                show Steps p.tables e below (s₁.setTop (mkF m 102 #[.val (.int p0)] [])) _
                                refine XS.iconst X0.here hx rfl (hb hby d13_102) ?_
                                show Steps p.tables e below (s₁.setTop (mkF m 103 #[.val (.int p0)] [(.int (1 : Int32))])) _
                                refine XS.goto X0.here hx rfl (pc0 := 103) (pc' := 107) rfl (hb hby d13_103) (by decide) (by decide) ?_
                                show Steps p.tables e below (s₁.setTop (mkF m 107 #[.val (.int p0)] [(.int (1 : Int32))])) _
                                exact retN X0 hx (t := .boolean) Bd.returns (by simp) (hb hby d13_107) hr
                              · show Q13 Z p0 h0 n0 _ s₁.heap _
                                rw [e0]
                                exact ⟨(by unfold F13; simp only [if_neg hc3, if_neg hc9, if_neg hc15, if_neg hc21, if_neg hc27, if_neg hc33, if_neg hc39, if_neg hc45, if_neg hc51, if_neg hc57, if_neg hc63, if_neg hc69, if_neg hc75, if_pos hc81]), N0, rfl⟩
                            · have pre15 : ∀ t, Steps p.tables e below (s₁.setTop (mkF m 87 #[.val (.int p0)] [(.int (93 : Int32)), (.int p0)])) t → Steps p.tables e below (s₁.setTop (entryFrame m #[(.int p0)] 1)) t := fun t kt => pre14 t (by
                                show Steps p.tables e below (s₁.setTop (mkF m 81 #[.val (.int p0)] [(.int (92 : Int32)), (.int p0)])) _
                                refine XS.icmpNo X0.here hx rfl (hb hby d13_81) rfl (feq hc81).1 ?_
                                show Steps p.tables e below (s₁.setTop (mkF m 84 #[.val (.int p0)] [])) _
                                refine XS.iloadN X0.here hx rfl (hb hby d13_84) rfl ?_
                                show Steps p.tables e below (s₁.setTop (mkF m 85 #[.val (.int p0)] [(.int p0)])) _
                                refine XS.bipush X0.here hx rfl (hb hby d13_85) ?_
                                exact kt)
                              by_cases hc87 : p0 = (93 : Int32)
                              · obtain ⟨fs, hr, hrun, hended, hW, hsame⟩ := X0.leave (v := some (.int (1 : Int32))) (fun h => by rw [Bd.returns] at h; cases h)
                                refine ⟨_, _, pre15 _ ?_, hrun, hended, _, _, rfl, ?_, ⟨_, rfl⟩, hW, hsame.mono (by decide) (by decide)⟩
                                · show Steps p.tables e below (s₁.setTop (mkF m 87 #[.val (.int p0)] [(.int (93 : Int32)), (.int p0)])) _
                                  refine XS.icmpYes X0.here hx rfl (pc0 := 87) (pc' := 102) rfl (hb hby d13_87) rfl (teq hc87).1 (by decide) (by decide) ?_
                                  show Steps p.tables e below (s₁.setTop (mkF m 102 #[.val (.int p0)] [])) _
                                  refine XS.iconst X0.here hx rfl (hb hby d13_102) ?_
                                  show Steps p.tables e below (s₁.setTop (mkF m 103 #[.val (.int p0)] [(.int (1 : Int32))])) _
                                  refine XS.goto X0.here hx rfl (pc0 := 103) (pc' := 107) rfl (hb hby d13_103) (by decide) (by decide) ?_
                                  show Steps p.tables e below (s₁.setTop (mkF m 107 #[.val (.int p0)] [(.int (1 : Int32))])) _
                                  exact retN X0 hx (t := .boolean) Bd.returns (by simp) (hb hby d13_107) hr
                                · show Q13 Z p0 h0 n0 _ s₁.heap _
                                  rw [e0]
                                  exact ⟨(by unfold F13; simp only [if_neg hc3, if_neg hc9, if_neg hc15, if_neg hc21, if_neg hc27, if_neg hc33, if_neg hc39, if_neg hc45, if_neg hc51, if_neg hc57, if_neg hc63, if_neg hc69, if_neg hc75, if_neg hc81, if_pos hc87]), N0, rfl⟩
                              · have pre16 : ∀ t, Steps p.tables e below (s₁.setTop (mkF m 93 #[.val (.int p0)] [(.int (123 : Int32)), (.int p0)])) t → Steps p.tables e below (s₁.setTop (entryFrame m #[(.int p0)] 1)) t := fun t kt => pre15 t (by
                                  show Steps p.tables e below (s₁.setTop (mkF m 87 #[.val (.int p0)] [(.int (93 : Int32)), (.int p0)])) _
                                  refine XS.icmpNo X0.here hx rfl (hb hby d13_87) rfl (feq hc87).1 ?_
                                  show Steps p.tables e below (s₁.setTop (mkF m 90 #[.val (.int p0)] [])) _
                                  refine XS.iloadN X0.here hx rfl (hb hby d13_90) rfl ?_
                                  show Steps p.tables e below (s₁.setTop (mkF m 91 #[.val (.int p0)] [(.int p0)])) _
                                  refine XS.bipush X0.here hx rfl (hb hby d13_91) ?_
                                  exact kt)
                                by_cases hc93 : p0 = (123 : Int32)
                                · obtain ⟨fs, hr, hrun, hended, hW, hsame⟩ := X0.leave (v := some (.int (1 : Int32))) (fun h => by rw [Bd.returns] at h; cases h)
                                  refine ⟨_, _, pre16 _ ?_, hrun, hended, _, _, rfl, ?_, ⟨_, rfl⟩, hW, hsame.mono (by decide) (by decide)⟩
                                  · show Steps p.tables e below (s₁.setTop (mkF m 93 #[.val (.int p0)] [(.int (123 : Int32)), (.int p0)])) _
                                    refine XS.icmpYes X0.here hx rfl (pc0 := 93) (pc' := 102) rfl (hb hby d13_93) rfl (teq hc93).1 (by decide) (by decide) ?_
                                    show Steps p.tables e below (s₁.setTop (mkF m 102 #[.val (.int p0)] [])) _
                                    refine XS.iconst X0.here hx rfl (hb hby d13_102) ?_
                                    show Steps p.tables e below (s₁.setTop (mkF m 103 #[.val (.int p0)] [(.int (1 : Int32))])) _
                                    refine XS.goto X0.here hx rfl (pc0 := 103) (pc' := 107) rfl (hb hby d13_103) (by decide) (by decide) ?_
                                    show Steps p.tables e below (s₁.setTop (mkF m 107 #[.val (.int p0)] [(.int (1 : Int32))])) _
                                    exact retN X0 hx (t := .boolean) Bd.returns (by simp) (hb hby d13_107) hr
                                  · show Q13 Z p0 h0 n0 _ s₁.heap _
                                    rw [e0]
                                    exact ⟨(by unfold F13; simp only [if_neg hc3, if_neg hc9, if_neg hc15, if_neg hc21, if_neg hc27, if_neg hc33, if_neg hc39, if_neg hc45, if_neg hc51, if_neg hc57, if_neg hc63, if_neg hc69, if_neg hc75, if_neg hc81, if_neg hc87, if_pos hc93]), N0, rfl⟩
                                · have pre17 : ∀ t, Steps p.tables e below (s₁.setTop (mkF m 99 #[.val (.int p0)] [(.int (125 : Int32)), (.int p0)])) t → Steps p.tables e below (s₁.setTop (entryFrame m #[(.int p0)] 1)) t := fun t kt => pre16 t (by
                                    show Steps p.tables e below (s₁.setTop (mkF m 93 #[.val (.int p0)] [(.int (123 : Int32)), (.int p0)])) _
                                    refine XS.icmpNo X0.here hx rfl (hb hby d13_93) rfl (feq hc93).1 ?_
                                    show Steps p.tables e below (s₁.setTop (mkF m 96 #[.val (.int p0)] [])) _
                                    refine XS.iloadN X0.here hx rfl (hb hby d13_96) rfl ?_
                                    show Steps p.tables e below (s₁.setTop (mkF m 97 #[.val (.int p0)] [(.int p0)])) _
                                    refine XS.bipush X0.here hx rfl (hb hby d13_97) ?_
                                    exact kt)
                                  by_cases hc99 : p0 = (125 : Int32)
                                  · obtain ⟨fs, hr, hrun, hended, hW, hsame⟩ := X0.leave (v := some (.int (1 : Int32))) (fun h => by rw [Bd.returns] at h; cases h)
                                    refine ⟨_, _, pre17 _ ?_, hrun, hended, _, _, rfl, ?_, ⟨_, rfl⟩, hW, hsame.mono (by decide) (by decide)⟩
                                    · show Steps p.tables e below (s₁.setTop (mkF m 99 #[.val (.int p0)] [(.int (125 : Int32)), (.int p0)])) _
                                      refine XS.icmpNo X0.here hx rfl (hb hby d13_99) rfl (teq hc99).2 ?_
                                      show Steps p.tables e below (s₁.setTop (mkF m 102 #[.val (.int p0)] [])) _
                                      refine XS.iconst X0.here hx rfl (hb hby d13_102) ?_
                                      show Steps p.tables e below (s₁.setTop (mkF m 103 #[.val (.int p0)] [(.int (1 : Int32))])) _
                                      refine XS.goto X0.here hx rfl (pc0 := 103) (pc' := 107) rfl (hb hby d13_103) (by decide) (by decide) ?_
                                      show Steps p.tables e below (s₁.setTop (mkF m 107 #[.val (.int p0)] [(.int (1 : Int32))])) _
                                      exact retN X0 hx (t := .boolean) Bd.returns (by simp) (hb hby d13_107) hr
                                    · show Q13 Z p0 h0 n0 _ s₁.heap _
                                      rw [e0]
                                      exact ⟨(by unfold F13; simp only [if_neg hc3, if_neg hc9, if_neg hc15, if_neg hc21, if_neg hc27, if_neg hc33, if_neg hc39, if_neg hc45, if_neg hc51, if_neg hc57, if_neg hc63, if_neg hc69, if_neg hc75, if_neg hc81, if_neg hc87, if_neg hc93, if_pos hc99]), N0, rfl⟩
                                  · obtain ⟨fs, hr, hrun, hended, hW, hsame⟩ := X0.leave (v := some (.int (0 : Int32))) (fun h => by rw [Bd.returns] at h; cases h)
                                    refine ⟨_, _, pre17 _ ?_, hrun, hended, _, _, rfl, ?_, ⟨_, rfl⟩, hW, hsame.mono (by decide) (by decide)⟩
                                    · show Steps p.tables e below (s₁.setTop (mkF m 99 #[.val (.int p0)] [(.int (125 : Int32)), (.int p0)])) _
                                      refine XS.icmpYes X0.here hx rfl (pc0 := 99) (pc' := 106) rfl (hb hby d13_99) rfl (feq hc99).2 (by decide) (by decide) ?_
                                      show Steps p.tables e below (s₁.setTop (mkF m 106 #[.val (.int p0)] [])) _
                                      refine XS.iconst X0.here hx rfl (hb hby d13_106) ?_
                                      show Steps p.tables e below (s₁.setTop (mkF m 107 #[.val (.int p0)] [(.int (0 : Int32))])) _
                                      exact retN X0 hx (t := .boolean) Bd.returns (by simp) (hb hby d13_107) hr
                                    · show Q13 Z p0 h0 n0 _ s₁.heap _
                                      rw [e0]
                                      exact ⟨(by unfold F13; simp only [if_neg hc3, if_neg hc9, if_neg hc15, if_neg hc21, if_neg hc27, if_neg hc33, if_neg hc39, if_neg hc45, if_neg hc51, if_neg hc57, if_neg hc63, if_neg hc69, if_neg hc75, if_neg hc81, if_neg hc87, if_neg hc93, if_neg hc99]), N0, rfl⟩
theorem d12_0 : decode method_3_code 0 = .ok (.iload_n 0, 1) := by decide +kernel
theorem d12_1 : decode method_3_code 1 = .ok (.bipush 33, 2) := by decide +kernel
theorem d12_3 : decode method_3_code 3 = .ok (.if_icmp .lt 9, 3) := by decide +kernel
theorem d12_6 : decode method_3_code 6 = .ok (.iload_n 0, 1) := by decide +kernel
theorem d12_7 : decode method_3_code 7 = .ok (.bipush 126, 2) := by decide +kernel
theorem d12_9 : decode method_3_code 9 = .ok (.if_icmp .le 5, 3) := by decide +kernel
theorem d12_12 : decode method_3_code 12 = .ok (.iconst 0, 1) := by decide +kernel
theorem d12_13 : decode method_3_code 13 = .ok (.ireturn, 1) := by decide +kernel
theorem d12_14 : decode method_3_code 14 = .ok (.iload_n 0, 1) := by decide +kernel
theorem d12_15 : decode method_3_code 15 = .ok (.invokestatic 19, 3) := by decide +kernel
theorem d12_18 : decode method_3_code 18 = .ok (.ifCond .ne 7, 3) := by decide +kernel
theorem d12_21 : decode method_3_code 21 = .ok (.iconst 1, 1) := by decide +kernel
theorem d12_22 : decode method_3_code 22 = .ok (.goto 4, 3) := by decide +kernel
theorem d12_25 : decode method_3_code 25 = .ok (.iconst 0, 1) := by decide +kernel
theorem d12_26 : decode method_3_code 26 = .ok (.ireturn, 1) := by decide +kernel
theorem ef_12 (p0 : Int32)  (m : MethodId) : entryFrame m #[(.int p0)] 1 = mkF m 0 #[.val (.int p0)] [] := by first | (simp [entryFrame, mkF, argsToLocals, Value.category]; done) | rfl
def F12 (p0 : Int32) : Int32 := (if p0 < (33 : Int32) then (0 : Int32) else (if (126 : Int32) < p0 then (0 : Int32) else (if (F13 p0) = (0 : Int32) then (1 : Int32) else (0 : Int32))))
def Q12 (Z : State) (p0 : Int32)  (h0 : Heap) (n0 : Nat) (v : Option Value) (h : Heap) (L : List Loc) : Prop := v = some (.int (F12 p0)) ∧ Fr n0 L ∧ h = h0
set_option maxRecDepth 65536 in
set_option maxHeartbeats 40000000 in
theorem rm12 (l : Launch) (Z : State) (a0 : Array Value) (hw : ∀ d ∈ tables_1, d.before a0 Z = true) (ws : List Jvm.Cond) (p0 : Int32)  (h0 : Heap) (n0 : Nat) (Z0 : n0 ≤ h0.size) :
    MetFree l (⟨"com/example/admission_for_endpoints/admissionforendpoints/EndpointRequestIsTokenCharPinLaw", "expected", "(I)Z"⟩ : MethodName) (head1 (Jvm.Cond.code (⟨"com/example/admission_for_endpoints/admissionforendpoints/EndpointRequestIsTokenCharPinLaw", "expected", "(I)Z"⟩ : MethodName) method_3_code 1 (some .boolean) :: ws) ({ frames := 1, cells := 0, slots := 0, locals := 12 } : Room)) (fun a U => a = #[(.int p0)] ∧ Z.Warmed39 U.vm ∧ U.heap = h0) (fun _ _ _ _ _ => True) (fun _ U o U' => ∃ v L, o = .returned v ∧ Q12 Z p0 h0 n0 v U'.heap L ∧ FrameEnd U o U' L ({ frames := 1, cells := 0, slots := 0, locals := 12 } : Room).cells ({ frames := 1, cells := 0, slots := 0, locals := 12 } : Room).slots) := by
  refine MetFree.of_bodySF (plainFor_of_name pn_com_example_admission_for_endpoints_admissionforendpoints_EndpointRequestIsTokenCharPinLaw) hisR ?_
  intro p e s m args below meth c s₁ Bd hml0 hP hK
  obtain ⟨rfl, hZ, hh⟩ := hP
  have hx := Bd.exec
  have hby := Bd.bytes
  have hml : c.maxLocals = 1 := hml0
  have hown : s.vm.findClass "com/example/admission_for_endpoints/admissionforendpoints/EndpointRequestIsTokenCharPinLaw" = some m.cls := findClass_of_methodNamed Bd.named
  have hnm := (name_of_methodNamed Bd.named Bd.method).1
  have X0 : Stand p l e ({ frames := 1, cells := 0, slots := 0, locals := 12 } : Room) s m #[(.int p0)] below meth c s₁ [] 0 0 := Stand.of_body Bd
  have e0 : s₁.heap = h0 := by rw [← hh, Bd.state]; rfl
  have N0 := Fr.nil n0
  have pre0 : ∀ t, Steps p.tables e below (s₁.setTop (mkF m 0 #[.val (.int p0)] [])) t → Steps p.tables e below (s₁.setTop (entryFrame m #[(.int p0)] 1)) t := fun t k => castTop (ef_12 p0 m) k
  have pre1 : ∀ t, Steps p.tables e below (s₁.setTop (mkF m 3 #[.val (.int p0)] [(.int (33 : Int32)), (.int p0)])) t → Steps p.tables e below (s₁.setTop (entryFrame m #[(.int p0)] 1)) t := fun t kt => pre0 t (by
    show Steps p.tables e below (s₁.setTop (mkF m 0 #[.val (.int p0)] [])) _
    refine XS.iloadN X0.here hx rfl (hb hby d12_0) rfl ?_
    show Steps p.tables e below (s₁.setTop (mkF m 1 #[.val (.int p0)] [(.int p0)])) _
    refine XS.bipush X0.here hx rfl (hb hby d12_1) ?_
    exact kt)
  by_cases hc3 : p0 < (33 : Int32)
  · obtain ⟨fs, hr, hrun, hended, hW, hsame⟩ := X0.leave (v := some (.int (0 : Int32))) (fun h => by rw [Bd.returns] at h; cases h)
    refine ⟨_, _, pre1 _ ?_, hrun, hended, _, _, rfl, ?_, ⟨_, rfl⟩, hW, hsame.mono (by decide) (by decide)⟩
    · show Steps p.tables e below (s₁.setTop (mkF m 3 #[.val (.int p0)] [(.int (33 : Int32)), (.int p0)])) _
      refine XS.icmpYes X0.here hx rfl (pc0 := 3) (pc' := 12) rfl (hb hby d12_3) rfl (tlt hc3).1 (by decide) (by decide) ?_
      show Steps p.tables e below (s₁.setTop (mkF m 12 #[.val (.int p0)] [])) _
      refine XS.iconst X0.here hx rfl (hb hby d12_12) ?_
      show Steps p.tables e below (s₁.setTop (mkF m 13 #[.val (.int p0)] [(.int (0 : Int32))])) _
      exact retN X0 hx (t := .boolean) Bd.returns (by simp) (hb hby d12_13) hr
    · show Q12 Z p0 h0 n0 _ s₁.heap _
      rw [e0]
      exact ⟨(by unfold F12; simp only [if_pos hc3]), N0, rfl⟩
  · have pre2 : ∀ t, Steps p.tables e below (s₁.setTop (mkF m 9 #[.val (.int p0)] [(.int (126 : Int32)), (.int p0)])) t → Steps p.tables e below (s₁.setTop (entryFrame m #[(.int p0)] 1)) t := fun t kt => pre1 t (by
      show Steps p.tables e below (s₁.setTop (mkF m 3 #[.val (.int p0)] [(.int (33 : Int32)), (.int p0)])) _
      refine XS.icmpNo X0.here hx rfl (hb hby d12_3) rfl (flt hc3).1 ?_
      show Steps p.tables e below (s₁.setTop (mkF m 6 #[.val (.int p0)] [])) _
      refine XS.iloadN X0.here hx rfl (hb hby d12_6) rfl ?_
      show Steps p.tables e below (s₁.setTop (mkF m 7 #[.val (.int p0)] [(.int p0)])) _
      refine XS.bipush X0.here hx rfl (hb hby d12_7) ?_
      exact kt)
    by_cases hc9 : (126 : Int32) < p0
    · obtain ⟨fs, hr, hrun, hended, hW, hsame⟩ := X0.leave (v := some (.int (0 : Int32))) (fun h => by rw [Bd.returns] at h; cases h)
      refine ⟨_, _, pre2 _ ?_, hrun, hended, _, _, rfl, ?_, ⟨_, rfl⟩, hW, hsame.mono (by decide) (by decide)⟩
      · show Steps p.tables e below (s₁.setTop (mkF m 9 #[.val (.int p0)] [(.int (126 : Int32)), (.int p0)])) _
        refine XS.icmpNo X0.here hx rfl (hb hby d12_9) rfl (tlt hc9).2.2.2 ?_
        show Steps p.tables e below (s₁.setTop (mkF m 12 #[.val (.int p0)] [])) _
        refine XS.iconst X0.here hx rfl (hb hby d12_12) ?_
        show Steps p.tables e below (s₁.setTop (mkF m 13 #[.val (.int p0)] [(.int (0 : Int32))])) _
        exact retN X0 hx (t := .boolean) Bd.returns (by simp) (hb hby d12_13) hr
      · show Q12 Z p0 h0 n0 _ s₁.heap _
        rw [e0]
        exact ⟨(by unfold F12; simp only [if_neg hc3, if_pos hc9]), N0, rfl⟩
    · obtain ⟨_, _, ⟨T3, L3, k3, n3⟩, -, X3, ⟨Lc3, hQ3, ll3, ly3, lz3⟩, st3⟩ := Jvm.LawKit.callS X0 hx (y := (⟨"com/example/admission_for_endpoints/admissionforendpoints/EndpointRequestIsTokenCharPinLaw", "isDelimiter", "(I)Z"⟩ : MethodName)) hown (mvT hZ (hw _ (List.mem_of_getElem? (i := 61) rfl))) (mvT hZ (hw _ (List.mem_of_getElem? (i := 62) rfl))) (mvT hZ (hw _ (List.mem_of_getElem? (i := 59) rfl))) (mvT hZ (hw _ (List.mem_of_getElem? (i := 63) rfl))) (by decide) (backOf (W := 0) (rm13 l Z a0 hw [] p0 h0 n0 Z0 ) hZ (hw _ (List.mem_of_getElem? (i := 63) rfl)) (hw _ (List.mem_of_getElem? (i := 59) rfl)) (by decide) (by decide)) (g := (mkF m 15 #[.val (.int p0)] [(.int p0)])) rfl (by rw [hml]; rfl) (argsL := [(.int p0)]) (rest := []) (lenOf pd__I_Z rfl) rfl (by show 2 * 0 + _ ≤ _; exact Nat.le_of_eq rfl) (hb hby d12_15) (fun _ _ => ⟨rfl, e0, (by decide : 0 + 0 ≤ _), (by decide : 0 + 0 ≤ _)⟩)
      dsimp only [Pt.U, Pt.locs, Pt.cells, Pt.slots] at X3 ll3 ly3 lz3 st3 hQ3
      subst ll3 ly3 lz3
      obtain ⟨rfl, N3q, e3⟩ := hQ3
      have N3 := Fr.app N0 N3q
      have pre4 : ∀ t, Steps p.tables e below (T3.setTop (mkF m 18 #[.val (.int p0)] [(.int (F13 p0))])) t → Steps p.tables e below (s₁.setTop (entryFrame m #[(.int p0)] 1)) t := fun t kt => pre2 t (by
        show Steps p.tables e below (s₁.setTop (mkF m 9 #[.val (.int p0)] [(.int (126 : Int32)), (.int p0)])) _
        refine XS.icmpYes X0.here hx rfl (pc0 := 9) (pc' := 14) rfl (hb hby d12_9) rfl (flt hc9).2.2.2 (by decide) (by decide) ?_
        show Steps p.tables e below (s₁.setTop (mkF m 14 #[.val (.int p0)] [])) _
        refine XS.iloadN X0.here hx rfl (hb hby d12_14) rfl ?_
        show Steps p.tables e below (s₁.setTop (mkF m 15 #[.val (.int p0)] [(.int p0)])) _
        refine st3 _ ?_
        exact kt)
      by_cases hc18 : (F13 p0) = (0 : Int32)
      · obtain ⟨fs, hr, hrun, hended, hW, hsame⟩ := X3.leave (v := some (.int (1 : Int32))) (fun h => by rw [Bd.returns] at h; cases h)
        refine ⟨_, _, pre4 _ ?_, hrun, hended, _, _, rfl, ?_, ⟨_, rfl⟩, hW, hsame.mono (by decide) (by decide)⟩
        · show Steps p.tables e below (T3.setTop (mkF m 18 #[.val (.int p0)] [(.int (F13 p0))])) _
          refine XS.ifNo X3.here hx rfl (hb hby d12_18) rfl ((if0 _ _).trans (teq hc18).2) ?_
          show Steps p.tables e below (T3.setTop (mkF m 21 #[.val (.int p0)] [])) _
          refine XS.iconst X3.here hx rfl (hb hby d12_21) ?_
          show Steps p.tables e below (T3.setTop (mkF m 22 #[.val (.int p0)] [(.int (1 : Int32))])) _
          refine XS.goto X3.here hx rfl (pc0 := 22) (pc' := 26) rfl (hb hby d12_22) (by decide) (by decide) ?_
          show Steps p.tables e below (T3.setTop (mkF m 26 #[.val (.int p0)] [(.int (1 : Int32))])) _
          exact retN X3 hx (t := .boolean) Bd.returns (by simp) (hb hby d12_26) hr
        · show Q12 Z p0 h0 n0 _ T3.heap _
          rw [e3]
          exact ⟨(by unfold F12; simp only [if_neg hc3, if_neg hc9, if_pos hc18]), N3, rfl⟩
      · obtain ⟨fs, hr, hrun, hended, hW, hsame⟩ := X3.leave (v := some (.int (0 : Int32))) (fun h => by rw [Bd.returns] at h; cases h)
        refine ⟨_, _, pre4 _ ?_, hrun, hended, _, _, rfl, ?_, ⟨_, rfl⟩, hW, hsame.mono (by decide) (by decide)⟩
        · show Steps p.tables e below (T3.setTop (mkF m 18 #[.val (.int p0)] [(.int (F13 p0))])) _
          refine XS.ifYes X3.here hx rfl (pc0 := 18) (pc' := 25) rfl (hb hby d12_18) rfl ((if0 _ _).trans (feq hc18).2) (by decide) (by decide) ?_
          show Steps p.tables e below (T3.setTop (mkF m 25 #[.val (.int p0)] [])) _
          refine XS.iconst X3.here hx rfl (hb hby d12_25) ?_
          show Steps p.tables e below (T3.setTop (mkF m 26 #[.val (.int p0)] [(.int (0 : Int32))])) _
          exact retN X3 hx (t := .boolean) Bd.returns (by simp) (hb hby d12_26) hr
        · show Q12 Z p0 h0 n0 _ T3.heap _
          rw [e3]
          exact ⟨(by unfold F12; simp only [if_neg hc3, if_neg hc9, if_neg hc18]), N3, rfl⟩
theorem ef_0 (p0 : Int32) (p1 : Int32) (wc : Int32) (m : MethodId) : entryFrame m #[(.int p0), (.int p1)] maxLocals = mkF m 0 #[.val (.int p0), .val (.int p1), .unset, .unset] [] := by first | (simp [entryFrame, mkF, argsToLocals, Value.category, maxLocals]; done) | rfl
def F0 (p0 : Int32) (p1 : Int32) (wc : Int32) : Int32 := (if (p1 &&& (3 : Int32)) = (0 : Int32) then (if (F1 (p0 &&& (127 : Int32))) = (F12 (p0 &&& (127 : Int32))) then (1 : Int32) else (0 : Int32)) else (if (p1 &&& (3 : Int32)) = (1 : Int32) then (if (F1 (p0 &&& (255 : Int32))) = (F12 (p0 &&& (255 : Int32))) then (1 : Int32) else (0 : Int32)) else (if (p1 &&& (3 : Int32)) = (2 : Int32) then (if (F1 (p0 &&& (65535 : Int32))) = (F12 (p0 &&& (65535 : Int32))) then (1 : Int32) else (0 : Int32)) else (if (F1 p0) = (F12 p0) then (1 : Int32) else (0 : Int32)))))
def Q0 (Z : State) (p0 : Int32) (p1 : Int32) (wc : Int32) (h0 : Heap) (n0 : Nat) (v : Option Value) (h : Heap) (L : List Loc) : Prop := v = some (.int (F0 p0 p1 wc)) ∧ Fr n0 L
set_option maxRecDepth 65536 in
set_option maxHeartbeats 40000000 in
theorem rm0 (l : Launch) (Z : State) (a0 : Array Value) (hw : ∀ d ∈ tables_1, d.before a0 Z = true) (ws : List Jvm.Cond) (p0 : Int32) (p1 : Int32) (wc : Int32) (h0 : Heap) (n0 : Nat) (Z0 : n0 ≤ h0.size) (S_c : Sta Z h0 "java/lang/String" "COMPACT_STRINGS" "Z" (.int wc)) (hwc : ¬ (wc = (0 : Int32))) :
    MetFree l x (head1 (Jvm.Cond.code x code maxLocals ret :: ws) room_1) (fun a U => a = #[(.int p0), (.int p1)] ∧ Z.Warmed39 U.vm ∧ U.heap = h0 ∧ CHv Z ELs U.vm h0) (fun _ _ _ _ _ => True) (fun _ U o U' => ∃ v L, o = .returned v ∧ Q0 Z p0 p1 wc h0 n0 v U'.heap L ∧ CHr Z ELs U.vm U.heap U'.vm U'.heap ∧ ReturnedEndW U o U' L room_1.cells room_1.slots) := by
  refine MetFree.of_bodySF (plainFor_of_name pn_com_example_admission_for_endpoints_admissionforendpoints_EndpointRequestIsTokenCharPinLaw) hisR ?_
  intro p e s m args below meth c s₁ Bd hml0 hP hK
  obtain ⟨rfl, hZ, hh, hCH0⟩ := hP
  have hx := Bd.exec
  have hby := Bd.bytes
  have hml : c.maxLocals = 4 := hml0
  have hown : s.vm.findClass "com/example/admission_for_endpoints/admissionforendpoints/EndpointRequestIsTokenCharPinLaw" = some m.cls := findClass_of_methodNamed Bd.named
  have hnm := (name_of_methodNamed Bd.named Bd.method).1
  have X0 : Stand p l e room_1 (s.setVm s.vm) m #[(.int p0), (.int p1)] below meth c s₁ [] 0 0 := Stand.of_body Bd
  have e0 : s₁.heap = h0 := by rw [← hh, Bd.state]; rfl
  have N0 := Fr.nil n0
  have pre0 : ∀ t, Steps p.tables e below (s₁.setTop (mkF m 0 #[.val (.int p0), .val (.int p1), .unset, .unset] [])) t → Steps p.tables e below (s₁.setTop (entryFrame m #[(.int p0), (.int p1)] maxLocals)) t := fun t k => castTop (ef_0 p0 p1 wc m) k
  have hS0 : s.Since s.vm 0 := (State.WarmedH.refl s).since 0
  have hk0 : 0 ≤ h0.size := Nat.zero_le _
  have CR0 : CHr Z ELs s.vm h0 s.vm h0 := CHr.refl hCH0
  have hEL : EW Z a0 ELs := own_EW hw
  have own_wS := own_strW hw
  have pre1 : ∀ t, Steps p.tables e below (s₁.setTop (mkF m 5 #[.val (.int p0), .val (.int p1), .val (.int (p1 &&& (3 : Int32))), .unset] [(.int (p1 &&& (3 : Int32)))])) t → Steps p.tables e below (s₁.setTop (entryFrame m #[(.int p0), (.int p1)] maxLocals)) t := fun t kt => pre0 t (by
    show Steps p.tables e below (s₁.setTop (mkF m 0 #[.val (.int p0), .val (.int p1), .unset, .unset] [])) _
    refine XS.iloadN X0.here hx rfl (hb hby at_0) rfl ?_
    show Steps p.tables e below (s₁.setTop (mkF m 1 #[.val (.int p0), .val (.int p1), .unset, .unset] [(.int p1)])) _
    refine XS.iconst X0.here hx rfl (hb hby at_1) ?_
    show Steps p.tables e below (s₁.setTop (mkF m 2 #[.val (.int p0), .val (.int p1), .unset, .unset] [(.int (3 : Int32)), (.int p1)])) _
    refine XS.iand X0.here hx rfl (hb hby at_2) rfl ?_
    show Steps p.tables e below (s₁.setTop (mkF m 3 #[.val (.int p0), .val (.int p1), .unset, .unset] [(.int (p1 &&& (3 : Int32)))])) _
    refine XS.istoreN X0.here hx rfl (hb hby at_3) rfl (l' := #[.val (.int p0), .val (.int p1), .val (.int (p1 &&& (3 : Int32))), .unset]) rfl ?_
    show Steps p.tables e below (s₁.setTop (mkF m 4 #[.val (.int p0), .val (.int p1), .val (.int (p1 &&& (3 : Int32))), .unset] [])) _
    refine XS.iloadN X0.here hx rfl (hb hby at_4) rfl ?_
    exact kt)
  by_cases hc5 : (p1 &&& (3 : Int32)) = (0 : Int32)
  · obtain ⟨_, _, ⟨T2, L2, k2, n2⟩, -, X2, sn2, gs2, ⟨Lc2, hQ2, ll2, ly2, lz2, CQ2⟩, st2⟩ := callSS X0 hx (y := (⟨"com/example/admission_for_endpoints/admissionforendpoints/EndpointRequest", "isTokenChar", "(I)Z"⟩ : MethodName)) hown (mvT hZ (hw _ (List.mem_of_getElem? (i := 0) rfl))) (mvT hZ (hw _ (List.mem_of_getElem? (i := 1) rfl))) (mvT hZ (hw _ (List.mem_of_getElem? (i := 2) rfl))) (mvT hZ (hw _ (List.mem_of_getElem? (i := 3) rfl))) (by decide) (backOfSH (EL := ELs) (W := 0) (rm1 l Z a0 hw [] (p0 &&& (127 : Int32)) wc h0 n0 Z0 S_c hwc) hZ (hw _ (List.mem_of_getElem? (i := 3) rfl)) (hw _ (List.mem_of_getElem? (i := 2) rfl)) (by decide) (by decide) hEL CR0.1) (g := (mkF m 46 #[.val (.int p0), .val (.int p1), .val (.int (p1 &&& (3 : Int32))), .val (.int (p0 &&& (127 : Int32)))] [(.int (p0 &&& (127 : Int32)))])) rfl (by rw [hml]; rfl) (argsL := [(.int (p0 &&& (127 : Int32)))]) (rest := []) (lenOf pd__I_Z rfl) rfl (by show 2 * 0 + _ ≤ _; exact Nat.le_of_eq rfl) (hb hby at_46) (fun _ _ => ⟨rfl, e0, (by decide : 0 + 2 ≤ _), (by decide : 0 + 64 ≤ _)⟩)
    dsimp only [Pt.U, Pt.locs, Pt.cells, Pt.slots] at X2 ll2 ly2 lz2 st2 hQ2 sn2 gs2 CQ2
    subst ll2 ly2 lz2
    have X2' : Stand p l e room_1 (s.setVm T2.vm) m #[(.int p0), (.int p1)] below meth c T2 _ _ _ := X2
    have hS2 := foldS hS0 (by rw [e0]; exact hk0) sn2 gs2
    have hZ2 : Z.Warmed39 T2.vm := State.Warmed39.trans (t := (s.setVm s.vm)) hZ sn2.1
    have hown2 : T2.vm.findClass "com/example/admission_for_endpoints/admissionforendpoints/EndpointRequestIsTokenCharPinLaw" = some m.cls := by rw [sn2.1.alike.findClass]; exact hown
    have CR2 := CHr.trans CR0 CQ2
    obtain ⟨rfl, N2q, K2c⟩ := hQ2
    have N2 := Fr.app N0 N2q
    have K2 : Keep h0 T2.heap [] := (Keep.refl h0 []).trans K2c all0
    obtain ⟨_, _, ⟨T3, L3, k3, n3⟩, -, X3, ⟨Lc3, hQ3, ll3, ly3, lz3⟩, st3⟩ := Jvm.LawKit.callS X2' hx (y := (⟨"com/example/admission_for_endpoints/admissionforendpoints/EndpointRequestIsTokenCharPinLaw", "expected", "(I)Z"⟩ : MethodName)) hown2 (mvT hZ2 (hw _ (List.mem_of_getElem? (i := 57) rfl))) (mvT hZ2 (hw _ (List.mem_of_getElem? (i := 58) rfl))) (mvT hZ2 (hw _ (List.mem_of_getElem? (i := 59) rfl))) (mvT hZ2 (hw _ (List.mem_of_getElem? (i := 60) rfl))) (by decide) (backOf (W := 1) (rm12 l Z a0 hw [] (p0 &&& (127 : Int32)) T2.heap n0 (Nat.le_trans Z0 K2c.1) ) hZ2 (hw _ (List.mem_of_getElem? (i := 60) rfl)) (hw _ (List.mem_of_getElem? (i := 59) rfl)) (by decide) (by decide)) (g := (mkF m 50 #[.val (.int p0), .val (.int p1), .val (.int (p1 &&& (3 : Int32))), .val (.int (p0 &&& (127 : Int32)))] [(.int (p0 &&& (127 : Int32))), (.int (F1 (p0 &&& (127 : Int32))))])) rfl (by rw [hml]; rfl) (argsL := [(.int (p0 &&& (127 : Int32)))]) (rest := [(.int (F1 (p0 &&& (127 : Int32))))]) (lenOf pd__I_Z rfl) rfl (by show 2 * 0 + _ ≤ _; exact Nat.le_of_eq rfl) (hb hby at_50) (fun _ _ => ⟨rfl, (rfl : T2.heap = T2.heap), (by decide : 2 + 0 ≤ _), (by decide : 64 + 0 ≤ _)⟩)
    dsimp only [Pt.U, Pt.locs, Pt.cells, Pt.slots] at X3 ll3 ly3 lz3 st3 hQ3
    subst ll3 ly3 lz3
    obtain ⟨rfl, N3q, e3⟩ := hQ3
    have N3 := Fr.app N2 N3q
    have pre4 : ∀ t, Steps p.tables e below (T3.setTop (mkF m 53 #[.val (.int p0), .val (.int p1), .val (.int (p1 &&& (3 : Int32))), .val (.int (p0 &&& (127 : Int32)))] [(.int (F12 (p0 &&& (127 : Int32)))), (.int (F1 (p0 &&& (127 : Int32))))])) t → Steps p.tables e below (s₁.setTop (entryFrame m #[(.int p0), (.int p1)] maxLocals)) t := fun t kt => pre1 t (by
      show Steps p.tables e below (s₁.setTop (mkF m 5 #[.val (.int p0), .val (.int p1), .val (.int (p1 &&& (3 : Int32))), .unset] [(.int (p1 &&& (3 : Int32)))])) _
      refine XS.ifNo X0.here hx rfl (hb hby at_5) rfl ((if0 _ _).trans (teq hc5).2) ?_
      show Steps p.tables e below (s₁.setTop (mkF m 8 #[.val (.int p0), .val (.int p1), .val (.int (p1 &&& (3 : Int32))), .unset] [])) _
      refine XS.iloadN X0.here hx rfl (hb hby at_8) rfl ?_
      show Steps p.tables e below (s₁.setTop (mkF m 9 #[.val (.int p0), .val (.int p1), .val (.int (p1 &&& (3 : Int32))), .unset] [(.int p0)])) _
      refine XS.bipush X0.here hx rfl (hb hby at_9) ?_
      show Steps p.tables e below (s₁.setTop (mkF m 11 #[.val (.int p0), .val (.int p1), .val (.int (p1 &&& (3 : Int32))), .unset] [(.int (127 : Int32)), (.int p0)])) _
      refine XS.iand X0.here hx rfl (hb hby at_11) rfl ?_
      show Steps p.tables e below (s₁.setTop (mkF m 12 #[.val (.int p0), .val (.int p1), .val (.int (p1 &&& (3 : Int32))), .unset] [(.int (p0 &&& (127 : Int32)))])) _
      refine XS.istoreN X0.here hx rfl (hb hby at_12) rfl (l' := #[.val (.int p0), .val (.int p1), .val (.int (p1 &&& (3 : Int32))), .val (.int (p0 &&& (127 : Int32)))]) rfl ?_
      show Steps p.tables e below (s₁.setTop (mkF m 13 #[.val (.int p0), .val (.int p1), .val (.int (p1 &&& (3 : Int32))), .val (.int (p0 &&& (127 : Int32)))] [])) _
      refine XS.goto X0.here hx rfl (pc0 := 13) (pc' := 45) rfl (hb hby at_13) (by decide) (by decide) ?_
      show Steps p.tables e below (s₁.setTop (mkF m 45 #[.val (.int p0), .val (.int p1), .val (.int (p1 &&& (3 : Int32))), .val (.int (p0 &&& (127 : Int32)))] [])) _
      refine XS.iloadN X0.here hx rfl (hb hby at_45) rfl ?_
      show Steps p.tables e below (s₁.setTop (mkF m 46 #[.val (.int p0), .val (.int p1), .val (.int (p1 &&& (3 : Int32))), .val (.int (p0 &&& (127 : Int32)))] [(.int (p0 &&& (127 : Int32)))])) _
      refine st2.trans ?_
      show Steps p.tables e below (T2.setTop (mkF m 49 #[.val (.int p0), .val (.int p1), .val (.int (p1 &&& (3 : Int32))), .val (.int (p0 &&& (127 : Int32)))] [(.int (F1 (p0 &&& (127 : Int32))))])) _
      refine XS.iloadN X2'.here hx rfl (hb hby at_49) rfl ?_
      show Steps p.tables e below (T2.setTop (mkF m 50 #[.val (.int p0), .val (.int p1), .val (.int (p1 &&& (3 : Int32))), .val (.int (p0 &&& (127 : Int32)))] [(.int (p0 &&& (127 : Int32))), (.int (F1 (p0 &&& (127 : Int32))))])) _
      refine st3 _ ?_
      exact kt)
    by_cases hc53 : (F1 (p0 &&& (127 : Int32))) = (F12 (p0 &&& (127 : Int32)))
    · obtain ⟨fs, hr, hrun, hended, hEnd⟩ := X3.leaveW hS2 (by rw [e3]; exact (Nat.le_refl T2.heap.size)) (v := some (.int (1 : Int32))) (fun h => by rw [Bd.returns] at h; cases h)
      have CRe := CHr.trans CR2 (CHv.at X3 hZ2 hEL CR2.1)
      refine ⟨_, _, pre4 _ ?_, hrun, hended, _, _, rfl, ?_, ?_, hEnd.1, hEnd.2.1, hEnd.2.2.1, hEnd.2.2.2.mono (by decide) (by decide)⟩
      · show Steps p.tables e below (T3.setTop (mkF m 53 #[.val (.int p0), .val (.int p1), .val (.int (p1 &&& (3 : Int32))), .val (.int (p0 &&& (127 : Int32)))] [(.int (F12 (p0 &&& (127 : Int32)))), (.int (F1 (p0 &&& (127 : Int32))))])) _
        refine XS.icmpNo X3.here hx rfl (hb hby at_53) rfl (teq hc53).2 ?_
        show Steps p.tables e below (T3.setTop (mkF m 56 #[.val (.int p0), .val (.int p1), .val (.int (p1 &&& (3 : Int32))), .val (.int (p0 &&& (127 : Int32)))] [])) _
        refine XS.iconst X3.here hx rfl (hb hby at_56) ?_
        show Steps p.tables e below (T3.setTop (mkF m 57 #[.val (.int p0), .val (.int p1), .val (.int (p1 &&& (3 : Int32))), .val (.int (p0 &&& (127 : Int32)))] [(.int (1 : Int32))])) _
        refine XS.goto X3.here hx rfl (pc0 := 57) (pc' := 61) rfl (hb hby at_57) (by decide) (by decide) ?_
        show Steps p.tables e below (T3.setTop (mkF m 61 #[.val (.int p0), .val (.int p1), .val (.int (p1 &&& (3 : Int32))), .val (.int (p0 &&& (127 : Int32)))] [(.int (1 : Int32))])) _
        exact retN X3 hx (t := .boolean) Bd.returns (by simp) (hb hby at_61) hr
      · show Q0 Z p0 p1 wc h0 n0 _ T3.heap _
        rw [e3]
        exact ⟨(by unfold F0; simp only [if_pos hc5, if_pos hc53]), N3⟩
      · show CHr Z ELs s.vm s.heap T3.vm T3.heap
        rw [hh, e3]; exact CRe
    · obtain ⟨fs, hr, hrun, hended, hEnd⟩ := X3.leaveW hS2 (by rw [e3]; exact (Nat.le_refl T2.heap.size)) (v := some (.int (0 : Int32))) (fun h => by rw [Bd.returns] at h; cases h)
      have CRe := CHr.trans CR2 (CHv.at X3 hZ2 hEL CR2.1)
      refine ⟨_, _, pre4 _ ?_, hrun, hended, _, _, rfl, ?_, ?_, hEnd.1, hEnd.2.1, hEnd.2.2.1, hEnd.2.2.2.mono (by decide) (by decide)⟩
      · show Steps p.tables e below (T3.setTop (mkF m 53 #[.val (.int p0), .val (.int p1), .val (.int (p1 &&& (3 : Int32))), .val (.int (p0 &&& (127 : Int32)))] [(.int (F12 (p0 &&& (127 : Int32)))), (.int (F1 (p0 &&& (127 : Int32))))])) _
        refine XS.icmpYes X3.here hx rfl (pc0 := 53) (pc' := 60) rfl (hb hby at_53) rfl (feq hc53).2 (by decide) (by decide) ?_
        show Steps p.tables e below (T3.setTop (mkF m 60 #[.val (.int p0), .val (.int p1), .val (.int (p1 &&& (3 : Int32))), .val (.int (p0 &&& (127 : Int32)))] [])) _
        refine XS.iconst X3.here hx rfl (hb hby at_60) ?_
        show Steps p.tables e below (T3.setTop (mkF m 61 #[.val (.int p0), .val (.int p1), .val (.int (p1 &&& (3 : Int32))), .val (.int (p0 &&& (127 : Int32)))] [(.int (0 : Int32))])) _
        exact retN X3 hx (t := .boolean) Bd.returns (by simp) (hb hby at_61) hr
      · show Q0 Z p0 p1 wc h0 n0 _ T3.heap _
        rw [e3]
        exact ⟨(by unfold F0; simp only [if_pos hc5, if_neg hc53]), N3⟩
      · show CHr Z ELs s.vm s.heap T3.vm T3.heap
        rw [hh, e3]; exact CRe
  · have pre5 : ∀ t, Steps p.tables e below (s₁.setTop (mkF m 18 #[.val (.int p0), .val (.int p1), .val (.int (p1 &&& (3 : Int32))), .unset] [(.int (1 : Int32)), (.int (p1 &&& (3 : Int32)))])) t → Steps p.tables e below (s₁.setTop (entryFrame m #[(.int p0), (.int p1)] maxLocals)) t := fun t kt => pre1 t (by
      show Steps p.tables e below (s₁.setTop (mkF m 5 #[.val (.int p0), .val (.int p1), .val (.int (p1 &&& (3 : Int32))), .unset] [(.int (p1 &&& (3 : Int32)))])) _
      refine XS.ifYes X0.here hx rfl (pc0 := 5) (pc' := 16) rfl (hb hby at_5) rfl ((if0 _ _).trans (feq hc5).2) (by decide) (by decide) ?_
      show Steps p.tables e below (s₁.setTop (mkF m 16 #[.val (.int p0), .val (.int p1), .val (.int (p1 &&& (3 : Int32))), .unset] [])) _
      refine XS.iloadN X0.here hx rfl (hb hby at_16) rfl ?_
      show Steps p.tables e below (s₁.setTop (mkF m 17 #[.val (.int p0), .val (.int p1), .val (.int (p1 &&& (3 : Int32))), .unset] [(.int (p1 &&& (3 : Int32)))])) _
      refine XS.iconst X0.here hx rfl (hb hby at_17) ?_
      exact kt)
    by_cases hc18 : (p1 &&& (3 : Int32)) = (1 : Int32)
    · obtain ⟨_, _, ⟨T6, L6, k6, n6⟩, -, X6, sn6, gs6, ⟨Lc6, hQ6, ll6, ly6, lz6, CQ6⟩, st6⟩ := callSS X0 hx (y := (⟨"com/example/admission_for_endpoints/admissionforendpoints/EndpointRequest", "isTokenChar", "(I)Z"⟩ : MethodName)) hown (mvT hZ (hw _ (List.mem_of_getElem? (i := 0) rfl))) (mvT hZ (hw _ (List.mem_of_getElem? (i := 1) rfl))) (mvT hZ (hw _ (List.mem_of_getElem? (i := 2) rfl))) (mvT hZ (hw _ (List.mem_of_getElem? (i := 3) rfl))) (by decide) (backOfSH (EL := ELs) (W := 0) (rm1 l Z a0 hw [] (p0 &&& (255 : Int32)) wc h0 n0 Z0 S_c hwc) hZ (hw _ (List.mem_of_getElem? (i := 3) rfl)) (hw _ (List.mem_of_getElem? (i := 2) rfl)) (by decide) (by decide) hEL CR0.1) (g := (mkF m 46 #[.val (.int p0), .val (.int p1), .val (.int (p1 &&& (3 : Int32))), .val (.int (p0 &&& (255 : Int32)))] [(.int (p0 &&& (255 : Int32)))])) rfl (by rw [hml]; rfl) (argsL := [(.int (p0 &&& (255 : Int32)))]) (rest := []) (lenOf pd__I_Z rfl) rfl (by show 2 * 0 + _ ≤ _; exact Nat.le_of_eq rfl) (hb hby at_46) (fun _ _ => ⟨rfl, e0, (by decide : 0 + 2 ≤ _), (by decide : 0 + 64 ≤ _)⟩)
      dsimp only [Pt.U, Pt.locs, Pt.cells, Pt.slots] at X6 ll6 ly6 lz6 st6 hQ6 sn6 gs6 CQ6
      subst ll6 ly6 lz6
      have X6' : Stand p l e room_1 (s.setVm T6.vm) m #[(.int p0), (.int p1)] below meth c T6 _ _ _ := X6
      have hS6 := foldS hS0 (by rw [e0]; exact hk0) sn6 gs6
      have hZ6 : Z.Warmed39 T6.vm := State.Warmed39.trans (t := (s.setVm s.vm)) hZ sn6.1
      have hown6 : T6.vm.findClass "com/example/admission_for_endpoints/admissionforendpoints/EndpointRequestIsTokenCharPinLaw" = some m.cls := by rw [sn6.1.alike.findClass]; exact hown
      have CR6 := CHr.trans CR0 CQ6
      obtain ⟨rfl, N6q, K6c⟩ := hQ6
      have N6 := Fr.app N0 N6q
      have K6 : Keep h0 T6.heap [] := (Keep.refl h0 []).trans K6c all0
      obtain ⟨_, _, ⟨T7, L7, k7, n7⟩, -, X7, ⟨Lc7, hQ7, ll7, ly7, lz7⟩, st7⟩ := Jvm.LawKit.callS X6' hx (y := (⟨"com/example/admission_for_endpoints/admissionforendpoints/EndpointRequestIsTokenCharPinLaw", "expected", "(I)Z"⟩ : MethodName)) hown6 (mvT hZ6 (hw _ (List.mem_of_getElem? (i := 57) rfl))) (mvT hZ6 (hw _ (List.mem_of_getElem? (i := 58) rfl))) (mvT hZ6 (hw _ (List.mem_of_getElem? (i := 59) rfl))) (mvT hZ6 (hw _ (List.mem_of_getElem? (i := 60) rfl))) (by decide) (backOf (W := 1) (rm12 l Z a0 hw [] (p0 &&& (255 : Int32)) T6.heap n0 (Nat.le_trans Z0 K6c.1) ) hZ6 (hw _ (List.mem_of_getElem? (i := 60) rfl)) (hw _ (List.mem_of_getElem? (i := 59) rfl)) (by decide) (by decide)) (g := (mkF m 50 #[.val (.int p0), .val (.int p1), .val (.int (p1 &&& (3 : Int32))), .val (.int (p0 &&& (255 : Int32)))] [(.int (p0 &&& (255 : Int32))), (.int (F1 (p0 &&& (255 : Int32))))])) rfl (by rw [hml]; rfl) (argsL := [(.int (p0 &&& (255 : Int32)))]) (rest := [(.int (F1 (p0 &&& (255 : Int32))))]) (lenOf pd__I_Z rfl) rfl (by show 2 * 0 + _ ≤ _; exact Nat.le_of_eq rfl) (hb hby at_50) (fun _ _ => ⟨rfl, (rfl : T6.heap = T6.heap), (by decide : 2 + 0 ≤ _), (by decide : 64 + 0 ≤ _)⟩)
      dsimp only [Pt.U, Pt.locs, Pt.cells, Pt.slots] at X7 ll7 ly7 lz7 st7 hQ7
      subst ll7 ly7 lz7
      obtain ⟨rfl, N7q, e7⟩ := hQ7
      have N7 := Fr.app N6 N7q
      have pre8 : ∀ t, Steps p.tables e below (T7.setTop (mkF m 53 #[.val (.int p0), .val (.int p1), .val (.int (p1 &&& (3 : Int32))), .val (.int (p0 &&& (255 : Int32)))] [(.int (F12 (p0 &&& (255 : Int32)))), (.int (F1 (p0 &&& (255 : Int32))))])) t → Steps p.tables e below (s₁.setTop (entryFrame m #[(.int p0), (.int p1)] maxLocals)) t := fun t kt => pre5 t (by
        show Steps p.tables e below (s₁.setTop (mkF m 18 #[.val (.int p0), .val (.int p1), .val (.int (p1 &&& (3 : Int32))), .unset] [(.int (1 : Int32)), (.int (p1 &&& (3 : Int32)))])) _
        refine XS.icmpNo X0.here hx rfl (hb hby at_18) rfl (teq hc18).2 ?_
        show Steps p.tables e below (s₁.setTop (mkF m 21 #[.val (.int p0), .val (.int p1), .val (.int (p1 &&& (3 : Int32))), .unset] [])) _
        refine XS.iloadN X0.here hx rfl (hb hby at_21) rfl ?_
        show Steps p.tables e below (s₁.setTop (mkF m 22 #[.val (.int p0), .val (.int p1), .val (.int (p1 &&& (3 : Int32))), .unset] [(.int p0)])) _
        refine XS.sipush X0.here hx rfl (hb hby at_22) ?_
        show Steps p.tables e below (s₁.setTop (mkF m 25 #[.val (.int p0), .val (.int p1), .val (.int (p1 &&& (3 : Int32))), .unset] [(.int (255 : Int32)), (.int p0)])) _
        refine XS.iand X0.here hx rfl (hb hby at_25) rfl ?_
        show Steps p.tables e below (s₁.setTop (mkF m 26 #[.val (.int p0), .val (.int p1), .val (.int (p1 &&& (3 : Int32))), .unset] [(.int (p0 &&& (255 : Int32)))])) _
        refine XS.istoreN X0.here hx rfl (hb hby at_26) rfl (l' := #[.val (.int p0), .val (.int p1), .val (.int (p1 &&& (3 : Int32))), .val (.int (p0 &&& (255 : Int32)))]) rfl ?_
        show Steps p.tables e below (s₁.setTop (mkF m 27 #[.val (.int p0), .val (.int p1), .val (.int (p1 &&& (3 : Int32))), .val (.int (p0 &&& (255 : Int32)))] [])) _
        refine XS.goto X0.here hx rfl (pc0 := 27) (pc' := 45) rfl (hb hby at_27) (by decide) (by decide) ?_
        show Steps p.tables e below (s₁.setTop (mkF m 45 #[.val (.int p0), .val (.int p1), .val (.int (p1 &&& (3 : Int32))), .val (.int (p0 &&& (255 : Int32)))] [])) _
        refine XS.iloadN X0.here hx rfl (hb hby at_45) rfl ?_
        show Steps p.tables e below (s₁.setTop (mkF m 46 #[.val (.int p0), .val (.int p1), .val (.int (p1 &&& (3 : Int32))), .val (.int (p0 &&& (255 : Int32)))] [(.int (p0 &&& (255 : Int32)))])) _
        refine st6.trans ?_
        show Steps p.tables e below (T6.setTop (mkF m 49 #[.val (.int p0), .val (.int p1), .val (.int (p1 &&& (3 : Int32))), .val (.int (p0 &&& (255 : Int32)))] [(.int (F1 (p0 &&& (255 : Int32))))])) _
        refine XS.iloadN X6'.here hx rfl (hb hby at_49) rfl ?_
        show Steps p.tables e below (T6.setTop (mkF m 50 #[.val (.int p0), .val (.int p1), .val (.int (p1 &&& (3 : Int32))), .val (.int (p0 &&& (255 : Int32)))] [(.int (p0 &&& (255 : Int32))), (.int (F1 (p0 &&& (255 : Int32))))])) _
        refine st7 _ ?_
        exact kt)
      by_cases hc53 : (F1 (p0 &&& (255 : Int32))) = (F12 (p0 &&& (255 : Int32)))
      · obtain ⟨fs, hr, hrun, hended, hEnd⟩ := X7.leaveW hS6 (by rw [e7]; exact (Nat.le_refl T6.heap.size)) (v := some (.int (1 : Int32))) (fun h => by rw [Bd.returns] at h; cases h)
        have CRe := CHr.trans CR6 (CHv.at X7 hZ6 hEL CR6.1)
        refine ⟨_, _, pre8 _ ?_, hrun, hended, _, _, rfl, ?_, ?_, hEnd.1, hEnd.2.1, hEnd.2.2.1, hEnd.2.2.2.mono (by decide) (by decide)⟩
        · show Steps p.tables e below (T7.setTop (mkF m 53 #[.val (.int p0), .val (.int p1), .val (.int (p1 &&& (3 : Int32))), .val (.int (p0 &&& (255 : Int32)))] [(.int (F12 (p0 &&& (255 : Int32)))), (.int (F1 (p0 &&& (255 : Int32))))])) _
          refine XS.icmpNo X7.here hx rfl (hb hby at_53) rfl (teq hc53).2 ?_
          show Steps p.tables e below (T7.setTop (mkF m 56 #[.val (.int p0), .val (.int p1), .val (.int (p1 &&& (3 : Int32))), .val (.int (p0 &&& (255 : Int32)))] [])) _
          refine XS.iconst X7.here hx rfl (hb hby at_56) ?_
          show Steps p.tables e below (T7.setTop (mkF m 57 #[.val (.int p0), .val (.int p1), .val (.int (p1 &&& (3 : Int32))), .val (.int (p0 &&& (255 : Int32)))] [(.int (1 : Int32))])) _
          refine XS.goto X7.here hx rfl (pc0 := 57) (pc' := 61) rfl (hb hby at_57) (by decide) (by decide) ?_
          show Steps p.tables e below (T7.setTop (mkF m 61 #[.val (.int p0), .val (.int p1), .val (.int (p1 &&& (3 : Int32))), .val (.int (p0 &&& (255 : Int32)))] [(.int (1 : Int32))])) _
          exact retN X7 hx (t := .boolean) Bd.returns (by simp) (hb hby at_61) hr
        · show Q0 Z p0 p1 wc h0 n0 _ T7.heap _
          rw [e7]
          exact ⟨(by unfold F0; simp only [if_neg hc5, if_pos hc18, if_pos hc53]), N7⟩
        · show CHr Z ELs s.vm s.heap T7.vm T7.heap
          rw [hh, e7]; exact CRe
      · obtain ⟨fs, hr, hrun, hended, hEnd⟩ := X7.leaveW hS6 (by rw [e7]; exact (Nat.le_refl T6.heap.size)) (v := some (.int (0 : Int32))) (fun h => by rw [Bd.returns] at h; cases h)
        have CRe := CHr.trans CR6 (CHv.at X7 hZ6 hEL CR6.1)
        refine ⟨_, _, pre8 _ ?_, hrun, hended, _, _, rfl, ?_, ?_, hEnd.1, hEnd.2.1, hEnd.2.2.1, hEnd.2.2.2.mono (by decide) (by decide)⟩
        · show Steps p.tables e below (T7.setTop (mkF m 53 #[.val (.int p0), .val (.int p1), .val (.int (p1 &&& (3 : Int32))), .val (.int (p0 &&& (255 : Int32)))] [(.int (F12 (p0 &&& (255 : Int32)))), (.int (F1 (p0 &&& (255 : Int32))))])) _
          refine XS.icmpYes X7.here hx rfl (pc0 := 53) (pc' := 60) rfl (hb hby at_53) rfl (feq hc53).2 (by decide) (by decide) ?_
          show Steps p.tables e below (T7.setTop (mkF m 60 #[.val (.int p0), .val (.int p1), .val (.int (p1 &&& (3 : Int32))), .val (.int (p0 &&& (255 : Int32)))] [])) _
          refine XS.iconst X7.here hx rfl (hb hby at_60) ?_
          show Steps p.tables e below (T7.setTop (mkF m 61 #[.val (.int p0), .val (.int p1), .val (.int (p1 &&& (3 : Int32))), .val (.int (p0 &&& (255 : Int32)))] [(.int (0 : Int32))])) _
          exact retN X7 hx (t := .boolean) Bd.returns (by simp) (hb hby at_61) hr
        · show Q0 Z p0 p1 wc h0 n0 _ T7.heap _
          rw [e7]
          exact ⟨(by unfold F0; simp only [if_neg hc5, if_pos hc18, if_neg hc53]), N7⟩
        · show CHr Z ELs s.vm s.heap T7.vm T7.heap
          rw [hh, e7]; exact CRe
    · have pre9 : ∀ t, Steps p.tables e below (s₁.setTop (mkF m 32 #[.val (.int p0), .val (.int p1), .val (.int (p1 &&& (3 : Int32))), .unset] [(.int (2 : Int32)), (.int (p1 &&& (3 : Int32)))])) t → Steps p.tables e below (s₁.setTop (entryFrame m #[(.int p0), (.int p1)] maxLocals)) t := fun t kt => pre5 t (by
        show Steps p.tables e below (s₁.setTop (mkF m 18 #[.val (.int p0), .val (.int p1), .val (.int (p1 &&& (3 : Int32))), .unset] [(.int (1 : Int32)), (.int (p1 &&& (3 : Int32)))])) _
        refine XS.icmpYes X0.here hx rfl (pc0 := 18) (pc' := 30) rfl (hb hby at_18) rfl (feq hc18).2 (by decide) (by decide) ?_
        show Steps p.tables e below (s₁.setTop (mkF m 30 #[.val (.int p0), .val (.int p1), .val (.int (p1 &&& (3 : Int32))), .unset] [])) _
        refine XS.iloadN X0.here hx rfl (hb hby at_30) rfl ?_
        show Steps p.tables e below (s₁.setTop (mkF m 31 #[.val (.int p0), .val (.int p1), .val (.int (p1 &&& (3 : Int32))), .unset] [(.int (p1 &&& (3 : Int32)))])) _
        refine XS.iconst X0.here hx rfl (hb hby at_31) ?_
        exact kt)
      by_cases hc32 : (p1 &&& (3 : Int32)) = (2 : Int32)
      · obtain ⟨_, _, ⟨T10, L10, k10, n10⟩, -, X10, sn10, gs10, ⟨Lc10, hQ10, ll10, ly10, lz10, CQ10⟩, st10⟩ := callSS X0 hx (y := (⟨"com/example/admission_for_endpoints/admissionforendpoints/EndpointRequest", "isTokenChar", "(I)Z"⟩ : MethodName)) hown (mvT hZ (hw _ (List.mem_of_getElem? (i := 0) rfl))) (mvT hZ (hw _ (List.mem_of_getElem? (i := 1) rfl))) (mvT hZ (hw _ (List.mem_of_getElem? (i := 2) rfl))) (mvT hZ (hw _ (List.mem_of_getElem? (i := 3) rfl))) (by decide) (backOfSH (EL := ELs) (W := 0) (rm1 l Z a0 hw [] (p0 &&& (65535 : Int32)) wc h0 n0 Z0 S_c hwc) hZ (hw _ (List.mem_of_getElem? (i := 3) rfl)) (hw _ (List.mem_of_getElem? (i := 2) rfl)) (by decide) (by decide) hEL CR0.1) (g := (mkF m 46 #[.val (.int p0), .val (.int p1), .val (.int (p1 &&& (3 : Int32))), .val (.int (p0 &&& (65535 : Int32)))] [(.int (p0 &&& (65535 : Int32)))])) rfl (by rw [hml]; rfl) (argsL := [(.int (p0 &&& (65535 : Int32)))]) (rest := []) (lenOf pd__I_Z rfl) rfl (by show 2 * 0 + _ ≤ _; exact Nat.le_of_eq rfl) (hb hby at_46) (fun _ _ => ⟨rfl, e0, (by decide : 0 + 2 ≤ _), (by decide : 0 + 64 ≤ _)⟩)
        dsimp only [Pt.U, Pt.locs, Pt.cells, Pt.slots] at X10 ll10 ly10 lz10 st10 hQ10 sn10 gs10 CQ10
        subst ll10 ly10 lz10
        have X10' : Stand p l e room_1 (s.setVm T10.vm) m #[(.int p0), (.int p1)] below meth c T10 _ _ _ := X10
        have hS10 := foldS hS0 (by rw [e0]; exact hk0) sn10 gs10
        have hZ10 : Z.Warmed39 T10.vm := State.Warmed39.trans (t := (s.setVm s.vm)) hZ sn10.1
        have hown10 : T10.vm.findClass "com/example/admission_for_endpoints/admissionforendpoints/EndpointRequestIsTokenCharPinLaw" = some m.cls := by rw [sn10.1.alike.findClass]; exact hown
        have CR10 := CHr.trans CR0 CQ10
        obtain ⟨rfl, N10q, K10c⟩ := hQ10
        have N10 := Fr.app N0 N10q
        have K10 : Keep h0 T10.heap [] := (Keep.refl h0 []).trans K10c all0
        obtain ⟨_, _, ⟨T11, L11, k11, n11⟩, -, X11, ⟨Lc11, hQ11, ll11, ly11, lz11⟩, st11⟩ := Jvm.LawKit.callS X10' hx (y := (⟨"com/example/admission_for_endpoints/admissionforendpoints/EndpointRequestIsTokenCharPinLaw", "expected", "(I)Z"⟩ : MethodName)) hown10 (mvT hZ10 (hw _ (List.mem_of_getElem? (i := 57) rfl))) (mvT hZ10 (hw _ (List.mem_of_getElem? (i := 58) rfl))) (mvT hZ10 (hw _ (List.mem_of_getElem? (i := 59) rfl))) (mvT hZ10 (hw _ (List.mem_of_getElem? (i := 60) rfl))) (by decide) (backOf (W := 1) (rm12 l Z a0 hw [] (p0 &&& (65535 : Int32)) T10.heap n0 (Nat.le_trans Z0 K10c.1) ) hZ10 (hw _ (List.mem_of_getElem? (i := 60) rfl)) (hw _ (List.mem_of_getElem? (i := 59) rfl)) (by decide) (by decide)) (g := (mkF m 50 #[.val (.int p0), .val (.int p1), .val (.int (p1 &&& (3 : Int32))), .val (.int (p0 &&& (65535 : Int32)))] [(.int (p0 &&& (65535 : Int32))), (.int (F1 (p0 &&& (65535 : Int32))))])) rfl (by rw [hml]; rfl) (argsL := [(.int (p0 &&& (65535 : Int32)))]) (rest := [(.int (F1 (p0 &&& (65535 : Int32))))]) (lenOf pd__I_Z rfl) rfl (by show 2 * 0 + _ ≤ _; exact Nat.le_of_eq rfl) (hb hby at_50) (fun _ _ => ⟨rfl, (rfl : T10.heap = T10.heap), (by decide : 2 + 0 ≤ _), (by decide : 64 + 0 ≤ _)⟩)
        dsimp only [Pt.U, Pt.locs, Pt.cells, Pt.slots] at X11 ll11 ly11 lz11 st11 hQ11
        subst ll11 ly11 lz11
        obtain ⟨rfl, N11q, e11⟩ := hQ11
        have N11 := Fr.app N10 N11q
        have pre12 : ∀ t, Steps p.tables e below (T11.setTop (mkF m 53 #[.val (.int p0), .val (.int p1), .val (.int (p1 &&& (3 : Int32))), .val (.int (p0 &&& (65535 : Int32)))] [(.int (F12 (p0 &&& (65535 : Int32)))), (.int (F1 (p0 &&& (65535 : Int32))))])) t → Steps p.tables e below (s₁.setTop (entryFrame m #[(.int p0), (.int p1)] maxLocals)) t := fun t kt => pre9 t (by
          show Steps p.tables e below (s₁.setTop (mkF m 32 #[.val (.int p0), .val (.int p1), .val (.int (p1 &&& (3 : Int32))), .unset] [(.int (2 : Int32)), (.int (p1 &&& (3 : Int32)))])) _
          refine XS.icmpNo X0.here hx rfl (hb hby at_32) rfl (teq hc32).2 ?_
          show Steps p.tables e below (s₁.setTop (mkF m 35 #[.val (.int p0), .val (.int p1), .val (.int (p1 &&& (3 : Int32))), .unset] [])) _
          refine XS.iloadN X0.here hx rfl (hb hby at_35) rfl ?_
          show Steps p.tables e below (s₁.setTop (mkF m 36 #[.val (.int p0), .val (.int p1), .val (.int (p1 &&& (3 : Int32))), .unset] [(.int p0)])) _
          refine X0.ldcInt hx hown (mvT hZ (hw _ (List.mem_of_getElem? (i := 64) rfl))) (g := (mkF m 36 #[.val (.int p0), .val (.int p1), .val (.int (p1 &&& (3 : Int32))), .unset] [(.int p0)])) rfl (hb hby at_36) _ ?_
          show Steps p.tables e below (s₁.setTop (mkF m 38 #[.val (.int p0), .val (.int p1), .val (.int (p1 &&& (3 : Int32))), .unset] [(.int (65535 : Int32)), (.int p0)])) _
          refine XS.iand X0.here hx rfl (hb hby at_38) rfl ?_
          show Steps p.tables e below (s₁.setTop (mkF m 39 #[.val (.int p0), .val (.int p1), .val (.int (p1 &&& (3 : Int32))), .unset] [(.int (p0 &&& (65535 : Int32)))])) _
          refine XS.istoreN X0.here hx rfl (hb hby at_39) rfl (l' := #[.val (.int p0), .val (.int p1), .val (.int (p1 &&& (3 : Int32))), .val (.int (p0 &&& (65535 : Int32)))]) rfl ?_
          show Steps p.tables e below (s₁.setTop (mkF m 40 #[.val (.int p0), .val (.int p1), .val (.int (p1 &&& (3 : Int32))), .val (.int (p0 &&& (65535 : Int32)))] [])) _
          refine XS.goto X0.here hx rfl (pc0 := 40) (pc' := 45) rfl (hb hby at_40) (by decide) (by decide) ?_
          show Steps p.tables e below (s₁.setTop (mkF m 45 #[.val (.int p0), .val (.int p1), .val (.int (p1 &&& (3 : Int32))), .val (.int (p0 &&& (65535 : Int32)))] [])) _
          refine XS.iloadN X0.here hx rfl (hb hby at_45) rfl ?_
          show Steps p.tables e below (s₁.setTop (mkF m 46 #[.val (.int p0), .val (.int p1), .val (.int (p1 &&& (3 : Int32))), .val (.int (p0 &&& (65535 : Int32)))] [(.int (p0 &&& (65535 : Int32)))])) _
          refine st10.trans ?_
          show Steps p.tables e below (T10.setTop (mkF m 49 #[.val (.int p0), .val (.int p1), .val (.int (p1 &&& (3 : Int32))), .val (.int (p0 &&& (65535 : Int32)))] [(.int (F1 (p0 &&& (65535 : Int32))))])) _
          refine XS.iloadN X10'.here hx rfl (hb hby at_49) rfl ?_
          show Steps p.tables e below (T10.setTop (mkF m 50 #[.val (.int p0), .val (.int p1), .val (.int (p1 &&& (3 : Int32))), .val (.int (p0 &&& (65535 : Int32)))] [(.int (p0 &&& (65535 : Int32))), (.int (F1 (p0 &&& (65535 : Int32))))])) _
          refine st11 _ ?_
          exact kt)
        by_cases hc53 : (F1 (p0 &&& (65535 : Int32))) = (F12 (p0 &&& (65535 : Int32)))
        · obtain ⟨fs, hr, hrun, hended, hEnd⟩ := X11.leaveW hS10 (by rw [e11]; exact (Nat.le_refl T10.heap.size)) (v := some (.int (1 : Int32))) (fun h => by rw [Bd.returns] at h; cases h)
          have CRe := CHr.trans CR10 (CHv.at X11 hZ10 hEL CR10.1)
          refine ⟨_, _, pre12 _ ?_, hrun, hended, _, _, rfl, ?_, ?_, hEnd.1, hEnd.2.1, hEnd.2.2.1, hEnd.2.2.2.mono (by decide) (by decide)⟩
          · show Steps p.tables e below (T11.setTop (mkF m 53 #[.val (.int p0), .val (.int p1), .val (.int (p1 &&& (3 : Int32))), .val (.int (p0 &&& (65535 : Int32)))] [(.int (F12 (p0 &&& (65535 : Int32)))), (.int (F1 (p0 &&& (65535 : Int32))))])) _
            refine XS.icmpNo X11.here hx rfl (hb hby at_53) rfl (teq hc53).2 ?_
            show Steps p.tables e below (T11.setTop (mkF m 56 #[.val (.int p0), .val (.int p1), .val (.int (p1 &&& (3 : Int32))), .val (.int (p0 &&& (65535 : Int32)))] [])) _
            refine XS.iconst X11.here hx rfl (hb hby at_56) ?_
            show Steps p.tables e below (T11.setTop (mkF m 57 #[.val (.int p0), .val (.int p1), .val (.int (p1 &&& (3 : Int32))), .val (.int (p0 &&& (65535 : Int32)))] [(.int (1 : Int32))])) _
            refine XS.goto X11.here hx rfl (pc0 := 57) (pc' := 61) rfl (hb hby at_57) (by decide) (by decide) ?_
            show Steps p.tables e below (T11.setTop (mkF m 61 #[.val (.int p0), .val (.int p1), .val (.int (p1 &&& (3 : Int32))), .val (.int (p0 &&& (65535 : Int32)))] [(.int (1 : Int32))])) _
            exact retN X11 hx (t := .boolean) Bd.returns (by simp) (hb hby at_61) hr
          · show Q0 Z p0 p1 wc h0 n0 _ T11.heap _
            rw [e11]
            exact ⟨(by unfold F0; simp only [if_neg hc5, if_neg hc18, if_pos hc32, if_pos hc53]), N11⟩
          · show CHr Z ELs s.vm s.heap T11.vm T11.heap
            rw [hh, e11]; exact CRe
        · obtain ⟨fs, hr, hrun, hended, hEnd⟩ := X11.leaveW hS10 (by rw [e11]; exact (Nat.le_refl T10.heap.size)) (v := some (.int (0 : Int32))) (fun h => by rw [Bd.returns] at h; cases h)
          have CRe := CHr.trans CR10 (CHv.at X11 hZ10 hEL CR10.1)
          refine ⟨_, _, pre12 _ ?_, hrun, hended, _, _, rfl, ?_, ?_, hEnd.1, hEnd.2.1, hEnd.2.2.1, hEnd.2.2.2.mono (by decide) (by decide)⟩
          · show Steps p.tables e below (T11.setTop (mkF m 53 #[.val (.int p0), .val (.int p1), .val (.int (p1 &&& (3 : Int32))), .val (.int (p0 &&& (65535 : Int32)))] [(.int (F12 (p0 &&& (65535 : Int32)))), (.int (F1 (p0 &&& (65535 : Int32))))])) _
            refine XS.icmpYes X11.here hx rfl (pc0 := 53) (pc' := 60) rfl (hb hby at_53) rfl (feq hc53).2 (by decide) (by decide) ?_
            show Steps p.tables e below (T11.setTop (mkF m 60 #[.val (.int p0), .val (.int p1), .val (.int (p1 &&& (3 : Int32))), .val (.int (p0 &&& (65535 : Int32)))] [])) _
            refine XS.iconst X11.here hx rfl (hb hby at_60) ?_
            show Steps p.tables e below (T11.setTop (mkF m 61 #[.val (.int p0), .val (.int p1), .val (.int (p1 &&& (3 : Int32))), .val (.int (p0 &&& (65535 : Int32)))] [(.int (0 : Int32))])) _
            exact retN X11 hx (t := .boolean) Bd.returns (by simp) (hb hby at_61) hr
          · show Q0 Z p0 p1 wc h0 n0 _ T11.heap _
            rw [e11]
            exact ⟨(by unfold F0; simp only [if_neg hc5, if_neg hc18, if_pos hc32, if_neg hc53]), N11⟩
          · show CHr Z ELs s.vm s.heap T11.vm T11.heap
            rw [hh, e11]; exact CRe
      · obtain ⟨_, _, ⟨T13, L13, k13, n13⟩, -, X13, sn13, gs13, ⟨Lc13, hQ13, ll13, ly13, lz13, CQ13⟩, st13⟩ := callSS X0 hx (y := (⟨"com/example/admission_for_endpoints/admissionforendpoints/EndpointRequest", "isTokenChar", "(I)Z"⟩ : MethodName)) hown (mvT hZ (hw _ (List.mem_of_getElem? (i := 0) rfl))) (mvT hZ (hw _ (List.mem_of_getElem? (i := 1) rfl))) (mvT hZ (hw _ (List.mem_of_getElem? (i := 2) rfl))) (mvT hZ (hw _ (List.mem_of_getElem? (i := 3) rfl))) (by decide) (backOfSH (EL := ELs) (W := 0) (rm1 l Z a0 hw [] p0 wc h0 n0 Z0 S_c hwc) hZ (hw _ (List.mem_of_getElem? (i := 3) rfl)) (hw _ (List.mem_of_getElem? (i := 2) rfl)) (by decide) (by decide) hEL CR0.1) (g := (mkF m 46 #[.val (.int p0), .val (.int p1), .val (.int (p1 &&& (3 : Int32))), .val (.int p0)] [(.int p0)])) rfl (by rw [hml]; rfl) (argsL := [(.int p0)]) (rest := []) (lenOf pd__I_Z rfl) rfl (by show 2 * 0 + _ ≤ _; exact Nat.le_of_eq rfl) (hb hby at_46) (fun _ _ => ⟨rfl, e0, (by decide : 0 + 2 ≤ _), (by decide : 0 + 64 ≤ _)⟩)
        dsimp only [Pt.U, Pt.locs, Pt.cells, Pt.slots] at X13 ll13 ly13 lz13 st13 hQ13 sn13 gs13 CQ13
        subst ll13 ly13 lz13
        have X13' : Stand p l e room_1 (s.setVm T13.vm) m #[(.int p0), (.int p1)] below meth c T13 _ _ _ := X13
        have hS13 := foldS hS0 (by rw [e0]; exact hk0) sn13 gs13
        have hZ13 : Z.Warmed39 T13.vm := State.Warmed39.trans (t := (s.setVm s.vm)) hZ sn13.1
        have hown13 : T13.vm.findClass "com/example/admission_for_endpoints/admissionforendpoints/EndpointRequestIsTokenCharPinLaw" = some m.cls := by rw [sn13.1.alike.findClass]; exact hown
        have CR13 := CHr.trans CR0 CQ13
        obtain ⟨rfl, N13q, K13c⟩ := hQ13
        have N13 := Fr.app N0 N13q
        have K13 : Keep h0 T13.heap [] := (Keep.refl h0 []).trans K13c all0
        obtain ⟨_, _, ⟨T14, L14, k14, n14⟩, -, X14, ⟨Lc14, hQ14, ll14, ly14, lz14⟩, st14⟩ := Jvm.LawKit.callS X13' hx (y := (⟨"com/example/admission_for_endpoints/admissionforendpoints/EndpointRequestIsTokenCharPinLaw", "expected", "(I)Z"⟩ : MethodName)) hown13 (mvT hZ13 (hw _ (List.mem_of_getElem? (i := 57) rfl))) (mvT hZ13 (hw _ (List.mem_of_getElem? (i := 58) rfl))) (mvT hZ13 (hw _ (List.mem_of_getElem? (i := 59) rfl))) (mvT hZ13 (hw _ (List.mem_of_getElem? (i := 60) rfl))) (by decide) (backOf (W := 1) (rm12 l Z a0 hw [] p0 T13.heap n0 (Nat.le_trans Z0 K13c.1) ) hZ13 (hw _ (List.mem_of_getElem? (i := 60) rfl)) (hw _ (List.mem_of_getElem? (i := 59) rfl)) (by decide) (by decide)) (g := (mkF m 50 #[.val (.int p0), .val (.int p1), .val (.int (p1 &&& (3 : Int32))), .val (.int p0)] [(.int p0), (.int (F1 p0))])) rfl (by rw [hml]; rfl) (argsL := [(.int p0)]) (rest := [(.int (F1 p0))]) (lenOf pd__I_Z rfl) rfl (by show 2 * 0 + _ ≤ _; exact Nat.le_of_eq rfl) (hb hby at_50) (fun _ _ => ⟨rfl, (rfl : T13.heap = T13.heap), (by decide : 2 + 0 ≤ _), (by decide : 64 + 0 ≤ _)⟩)
        dsimp only [Pt.U, Pt.locs, Pt.cells, Pt.slots] at X14 ll14 ly14 lz14 st14 hQ14
        subst ll14 ly14 lz14
        obtain ⟨rfl, N14q, e14⟩ := hQ14
        have N14 := Fr.app N13 N14q
        have pre15 : ∀ t, Steps p.tables e below (T14.setTop (mkF m 53 #[.val (.int p0), .val (.int p1), .val (.int (p1 &&& (3 : Int32))), .val (.int p0)] [(.int (F12 p0)), (.int (F1 p0))])) t → Steps p.tables e below (s₁.setTop (entryFrame m #[(.int p0), (.int p1)] maxLocals)) t := fun t kt => pre9 t (by
          show Steps p.tables e below (s₁.setTop (mkF m 32 #[.val (.int p0), .val (.int p1), .val (.int (p1 &&& (3 : Int32))), .unset] [(.int (2 : Int32)), (.int (p1 &&& (3 : Int32)))])) _
          refine XS.icmpYes X0.here hx rfl (pc0 := 32) (pc' := 43) rfl (hb hby at_32) rfl (feq hc32).2 (by decide) (by decide) ?_
          show Steps p.tables e below (s₁.setTop (mkF m 43 #[.val (.int p0), .val (.int p1), .val (.int (p1 &&& (3 : Int32))), .unset] [])) _
          refine XS.iloadN X0.here hx rfl (hb hby at_43) rfl ?_
          show Steps p.tables e below (s₁.setTop (mkF m 44 #[.val (.int p0), .val (.int p1), .val (.int (p1 &&& (3 : Int32))), .unset] [(.int p0)])) _
          refine XS.istoreN X0.here hx rfl (hb hby at_44) rfl (l' := #[.val (.int p0), .val (.int p1), .val (.int (p1 &&& (3 : Int32))), .val (.int p0)]) rfl ?_
          show Steps p.tables e below (s₁.setTop (mkF m 45 #[.val (.int p0), .val (.int p1), .val (.int (p1 &&& (3 : Int32))), .val (.int p0)] [])) _
          refine XS.iloadN X0.here hx rfl (hb hby at_45) rfl ?_
          show Steps p.tables e below (s₁.setTop (mkF m 46 #[.val (.int p0), .val (.int p1), .val (.int (p1 &&& (3 : Int32))), .val (.int p0)] [(.int p0)])) _
          refine st13.trans ?_
          show Steps p.tables e below (T13.setTop (mkF m 49 #[.val (.int p0), .val (.int p1), .val (.int (p1 &&& (3 : Int32))), .val (.int p0)] [(.int (F1 p0))])) _
          refine XS.iloadN X13'.here hx rfl (hb hby at_49) rfl ?_
          show Steps p.tables e below (T13.setTop (mkF m 50 #[.val (.int p0), .val (.int p1), .val (.int (p1 &&& (3 : Int32))), .val (.int p0)] [(.int p0), (.int (F1 p0))])) _
          refine st14 _ ?_
          exact kt)
        by_cases hc53 : (F1 p0) = (F12 p0)
        · obtain ⟨fs, hr, hrun, hended, hEnd⟩ := X14.leaveW hS13 (by rw [e14]; exact (Nat.le_refl T13.heap.size)) (v := some (.int (1 : Int32))) (fun h => by rw [Bd.returns] at h; cases h)
          have CRe := CHr.trans CR13 (CHv.at X14 hZ13 hEL CR13.1)
          refine ⟨_, _, pre15 _ ?_, hrun, hended, _, _, rfl, ?_, ?_, hEnd.1, hEnd.2.1, hEnd.2.2.1, hEnd.2.2.2.mono (by decide) (by decide)⟩
          · show Steps p.tables e below (T14.setTop (mkF m 53 #[.val (.int p0), .val (.int p1), .val (.int (p1 &&& (3 : Int32))), .val (.int p0)] [(.int (F12 p0)), (.int (F1 p0))])) _
            refine XS.icmpNo X14.here hx rfl (hb hby at_53) rfl (teq hc53).2 ?_
            show Steps p.tables e below (T14.setTop (mkF m 56 #[.val (.int p0), .val (.int p1), .val (.int (p1 &&& (3 : Int32))), .val (.int p0)] [])) _
            refine XS.iconst X14.here hx rfl (hb hby at_56) ?_
            show Steps p.tables e below (T14.setTop (mkF m 57 #[.val (.int p0), .val (.int p1), .val (.int (p1 &&& (3 : Int32))), .val (.int p0)] [(.int (1 : Int32))])) _
            refine XS.goto X14.here hx rfl (pc0 := 57) (pc' := 61) rfl (hb hby at_57) (by decide) (by decide) ?_
            show Steps p.tables e below (T14.setTop (mkF m 61 #[.val (.int p0), .val (.int p1), .val (.int (p1 &&& (3 : Int32))), .val (.int p0)] [(.int (1 : Int32))])) _
            exact retN X14 hx (t := .boolean) Bd.returns (by simp) (hb hby at_61) hr
          · show Q0 Z p0 p1 wc h0 n0 _ T14.heap _
            rw [e14]
            exact ⟨(by unfold F0; simp only [if_neg hc5, if_neg hc18, if_neg hc32, if_pos hc53]), N14⟩
          · show CHr Z ELs s.vm s.heap T14.vm T14.heap
            rw [hh, e14]; exact CRe
        · obtain ⟨fs, hr, hrun, hended, hEnd⟩ := X14.leaveW hS13 (by rw [e14]; exact (Nat.le_refl T13.heap.size)) (v := some (.int (0 : Int32))) (fun h => by rw [Bd.returns] at h; cases h)
          have CRe := CHr.trans CR13 (CHv.at X14 hZ13 hEL CR13.1)
          refine ⟨_, _, pre15 _ ?_, hrun, hended, _, _, rfl, ?_, ?_, hEnd.1, hEnd.2.1, hEnd.2.2.1, hEnd.2.2.2.mono (by decide) (by decide)⟩
          · show Steps p.tables e below (T14.setTop (mkF m 53 #[.val (.int p0), .val (.int p1), .val (.int (p1 &&& (3 : Int32))), .val (.int p0)] [(.int (F12 p0)), (.int (F1 p0))])) _
            refine XS.icmpYes X14.here hx rfl (pc0 := 53) (pc' := 60) rfl (hb hby at_53) rfl (feq hc53).2 (by decide) (by decide) ?_
            show Steps p.tables e below (T14.setTop (mkF m 60 #[.val (.int p0), .val (.int p1), .val (.int (p1 &&& (3 : Int32))), .val (.int p0)] [])) _
            refine XS.iconst X14.here hx rfl (hb hby at_60) ?_
            show Steps p.tables e below (T14.setTop (mkF m 61 #[.val (.int p0), .val (.int p1), .val (.int (p1 &&& (3 : Int32))), .val (.int p0)] [(.int (0 : Int32))])) _
            exact retN X14 hx (t := .boolean) Bd.returns (by simp) (hb hby at_61) hr
          · show Q0 Z p0 p1 wc h0 n0 _ T14.heap _
            rw [e14]
            exact ⟨(by unfold F0; simp only [if_neg hc5, if_neg hc18, if_neg hc32, if_neg hc53]), N14⟩
          · show CHr Z ELs s.vm s.heap T14.vm T14.heap
            rw [hh, e14]; exact CRe
/-! THE PLAIN LAW -/
theorem own_small {c : Int32} (h0 : 0 ≤ c.toInt) (h1 : c.toInt < 256) : ∃ n : Fin 256, c = Int32.ofNat n.1 := by
  refine ⟨⟨c.toInt.toNat, by omega⟩, ?_⟩
  apply Int32.toInt_inj.mp
  have h : (Int32.ofNat c.toInt.toNat).toInt = (c.toInt.toNat : Int) := Int32.toInt_ofNat_small (by omega)
  show c.toInt = (Int32.ofNat c.toInt.toNat).toInt
  rw [h]; omega
theorem own_fin : ∀ n : Fin 256, F1 (Int32.ofNat n.1) = F12 (Int32.ofNat n.1) := by decide +kernel
theorem own_all (c : Int32) : F1 c = F12 c := by
  by_cases h : 0 ≤ c.toInt ∧ c.toInt < 256
  · obtain ⟨n, rfl⟩ := own_small h.1 h.2; exact own_fin n
  · have ce : F8 c = 0 := by
      unfold F8
      have h1 : c < (0 : Int32) ↔ c.toInt < 0 := Int32.lt_iff_toInt_lt
      have h2 : (255 : Int32) < c ↔ 255 < c.toInt := Int32.lt_iff_toInt_lt
      simp only [h1, h2]
      repeat' split
      all_goals first | rfl | (exfalso; omega)
    have ix : F2 c = -1 := by
      unfold F2 F3 F7
      rw [if_pos ce]
    unfold F1 F12
    rw [ix]
    have a1 : c < (97 : Int32) ↔ c.toInt < 97 := Int32.lt_iff_toInt_lt
    have a2 : (122 : Int32) < c ↔ 122 < c.toInt := Int32.lt_iff_toInt_lt
    have a3 : c < (65 : Int32) ↔ c.toInt < 65 := Int32.lt_iff_toInt_lt
    have a4 : (90 : Int32) < c ↔ 90 < c.toInt := Int32.lt_iff_toInt_lt
    have a5 : c < (48 : Int32) ↔ c.toInt < 48 := Int32.lt_iff_toInt_lt
    have a6 : (57 : Int32) < c ↔ 57 < c.toInt := Int32.lt_iff_toInt_lt
    have a7 : c < (33 : Int32) ↔ c.toInt < 33 := Int32.lt_iff_toInt_lt
    have a8 : (126 : Int32) < c ↔ 126 < c.toInt := Int32.lt_iff_toInt_lt
    have a9 : (-1 : Int32) < (0 : Int32) := by decide
    simp only [a1, a2, a3, a4, a5, a6, a7, a8, if_pos a9]
    repeat' split
    all_goals first | rfl | (exfalso; omega)
theorem own_law (p0 p1 wc : Int32) : F0 p0 p1 wc = 1 := by
  unfold F0
  simp only [own_all, if_true, ite_self]
set_option maxRecDepth 65536 in
set_option maxHeartbeats 40000000 in
theorem comes_1 {Post : Tables → Env → Array Value → State → Outcome → State → Prop} (hpost : ∀ tb e args s v u, (limb_1_1.after args s (.returned v) u = true ∧ limb_1_2.after args s (.returned v) u = true ∧ True) → ReturnedEndW s (.returned v) u (Jvm.fieldLocs frame_1_writes args s ++ Jvm.arrayLocs frame_1_arrays args s ++ Jvm.staticLocs frame_1_statics s) 8 1088 → Post tb e args s (.returned v) u) :
    ArmFor flags0 classFile x code maxLocals ret World_1 tables_1 room_1 Calls_1 rest_1 Pre_1 Post := by
  intro l hfl _ _ p e ha hc hk s m args below hf hA hF happ hP
  obtain ⟨hcalls, hrest, hpre⟩ := hP
  obtain ⟨-, -, -, hnamed, -, -, -, hat⟩ := (Spec.applies_iff hf).mp happ
  obtain ⟨hg, hn⟩ := and_e (Cond.before_iff.mp (show (Jvm.Cond.and given_1 narrow_1).before args s = true from hpre))
  obtain ⟨g1, g2⟩ := and_e hg
  obtain ⟨g3, g4⟩ := and_e g2
  obtain ⟨w0, w1, rfl⟩ : ∃ w0 w1 : Value, args = #[w0, w1] := by
    have hs : args.size = 2 := by simpa [Cond.value, given_1] using g1
    obtain ⟨L⟩ := args
    match L, hs with
    | [w0, w1], _ => exact ⟨w0, w1, rfl⟩
  have hw := fun d (hd : d ∈ tables_1) => atoms_spec (ws := Jvm.Cond.code x code maxLocals ret :: tables_1) hat d (List.mem_cons_of_mem _ hd)
  have hfit : Fit s := fun {y c} hc i hi => by
    obtain ⟨ha, rfl⟩ := Array.getElem?_eq_some_iff.mp hc
    have q := List.all_eq_true.mp ((Array.all_eq_true_iff_forall_mem.mp hF) _ (Array.getElem_mem ha)) i (List.mem_range.mpr hi)
    simpa [Array.getElem?_eq_getElem hi] using q
  obtain ⟨hsets, hown0⟩ := atoms_of _ (rest_1_c_eq ▸ (show rest_1_c.before _ s = true from hrest))
  have hr0 := Cond.before_iff.mp hown0
  obtain ⟨i0, ei0⟩ := is_v g3
  obtain rfl : w0 = (.int i0) := Option.some.inj ei0
  obtain ⟨i1, ei1⟩ := is_v g4
  obtain rfl : w1 = (.int i1) := Option.some.inj ei1
  have n3c := not_v (Cond.before_iff.mp (hsets _ (List.mem_of_getElem? (i := 2) rfl)))
  obtain ⟨wc, ewc⟩ := is_v (Cond.before_iff.mp (hsets _ (List.mem_of_getElem? (i := 1) rfl)))
  have S_wc : Sta s s.heap "java/lang/String" "COMPACT_STRINGS" "Z" (.int wc) := Sta.start ewc (Or.inl (hsets _ (List.mem_of_getElem? (i := 0) rfl)))
  have hwc : ¬ (wc = (0 : Int32)) := gotF (Cond.eq_ints ewc (Term.int_eval (0))) n3c
  obtain ⟨n, o, h1, h2, h3, _, L, rfl, ⟨rfl, N⟩, _, hq⟩ := rm0 l s _ hw tables_1 i0 i1 wc s.heap s.heap.size (Nat.le_refl _) S_wc hwc p e ha hc hk s m _ below hf ((Spec.applies_iff_loose hf).mp happ).1 ⟨rfl, State.Warmed39.refl s, rfl, CHv.start (own_EW hw) (fun p hp => hcalls.1 p hp) (hsets _ (List.mem_of_getElem? (i := 2) rfl)) (own_strW hw _ (by simp [Bundle.stringAtoms])) (own_strW hw _ (by simp [Bundle.stringAtoms, Bundle.sN]))⟩ trivial
  refine ⟨n, _, h1, h2, h3, hpost _ _ _ _ _ _ ⟨Cond.after_iff.mpr rfl, Cond.after_iff.mpr (eq_i res_at (Term.int_eval (1)) (congrArg Value.int (own_law i0 i1 wc))), trivial⟩ ⟨hq.1, hq.2.1, hq.2.2.1, (hq.2.2.2.sift fun y hy => Or.inr (N y hy)).mono (by decide) (by decide)⟩⟩
theorem main_1_1 : Claimed_1_1 := comes_1 fun _ _ _ _ _ _ h hF => ⟨h.1, hF⟩
theorem main_1_2 : Claimed_1_2 := comes_1 fun _ _ _ _ _ _ h hF => ⟨h.2.1, hF⟩
end Jvm.Pilot.@@N@@
namespace Jvm.Pilot.@@N@@
open Jvm Jvm.ClassFile Sem Op Lib Jvm.Free Jvm.Stand Jvm.Pilot.@@N@@.Jvm.D
/-! MADE BY PROGRAM (witnessworld.py) out of the Statement's table words and the real class files: 18 classes; the members and pool entries that the words name. The judged class is class 1, her method 1. -/
namespace start1
open Jvm.ClassFile
def u (s : String) : CpInfo := .utf8 (stringToUtf16 s)
/-- a pool by its gaps: so many unusable entries, then the entry; so many at the end -/
def gap : Nat → List CpInfo → List CpInfo
  | 0, r => r
  | n + 1, r => .unusable :: gap n r
def poolList (es : List (Nat × CpInfo)) (last : Nat) : List CpInfo := es.foldr (fun e r => gap e.1 (e.2 :: r)) (gap last [])
def pool (es : List (Nat × CpInfo)) (last : Nat) : Array CpInfo := ⟨poolList es last⟩
def fileOf (pool : Array CpInfo) (this : Nat) (attrs : Array Attribute := #[]) (ms : Array MethodInfo := #[]) (fl : Nat := 33) (sup : Nat := 0) (ifs : Array Nat := #[]) (fds : Array FieldInfo := #[]) : ClassFile where
  minorVersion := 0
  majorVersion := 65
  constantPool := pool
  accessFlags := fl
  thisClass := this
  superClass := sup
  interfaces := ifs
  fields := fds
  methods := ms
  attributes := attrs
def plain (name : String) (sup : Option ClassId) : Class where
  name := name
  kind := .ordinary
  loader := none
  accessFlags := 33
  super := sup
  interfaces := #[]
  cf := none
  fields := #[]
  methods := #[]
  instanceTypes := #[]
  staticTypes := #[]
  resolved := #[]
  callSites := []
  init := .initialized
  statics := none
  mirror := none

def pool0 : Array CpInfo := pool [(5, u "<init>"), (0, u "()V"), (1, .class_ 10), (1, u "java/lang/Object")] 113

def k0m0 : Method := { name := "<init>", desc := "()V", sig := { parameters := [], returnType := none }, accessFlags := 1, code := none }
/-- java/lang/Object -/
def k0 : Class := { plain "java/lang/Object" none with
  accessFlags := 33
  interfaces := #[]
  cf := some (fileOf pool0 8 #[] #[{ accessFlags := 1, nameIndex := 5, descriptorIndex := 6, attributes := #[] }] 33 0 #[] #[])
  fields := #[]
  methods := #[k0m0]
  instanceTypes := #[]
  staticTypes := #[]
  resolved := Array.replicate 124 none
  statics := none }

def pool1 : Array CpInfo := pool [(2, .class_ 4), (1, u "java/lang/Object"), (0, u "<init>"), (0, u "()V"), (0, .integer 65535), (0, .methodref 9 10), (0, .class_ 11), (0, .nameAndType 12 13), (0, u "com/example/admission_for_endpoints/admissionforendpoints/EndpointRequest"), (0, u "isTokenChar"), (0, u "(I)Z"), (0, .methodref 15 16), (0, .class_ 17), (0, .nameAndType 18 13), (0, u "com/example/admission_for_endpoints/admissionforendpoints/EndpointRequestIsTokenCharPinLaw"), (0, u "expected"), (0, .methodref 15 20), (0, .nameAndType 21 13), (0, u "isDelimiter"), (2, u "law"), (0, u "(II)Z")] 3

def k1m0 : Method := { name := "<init>", desc := "()V", sig := { parameters := [], returnType := none }, accessFlags := 1, code := none }
def k1c1 : Code := { maxStack := 2, maxLocals := 4, code := code, exceptionTable := #[], attributes := #[] }
def k1m1 : Method := { name := "law", desc := "(II)Z", sig := { parameters := [.int, .int], returnType := some .boolean }, accessFlags := 9, code := some k1c1 }
def k1c2 : Code := { maxStack := 2, maxLocals := 1, code := method_3_code, exceptionTable := #[], attributes := #[] }
def k1m2 : Method := { name := "expected", desc := "(I)Z", sig := { parameters := [.int], returnType := some .boolean }, accessFlags := 10, code := some k1c2 }
def k1c3 : Code := { maxStack := 2, maxLocals := 1, code := method_4_code, exceptionTable := #[], attributes := #[] }
def k1m3 : Method := { name := "isDelimiter", desc := "(I)Z", sig := { parameters := [.int], returnType := some .boolean }, accessFlags := 10, code := some k1c3 }
/-- com/example/admission_for_endpoints/admissionforendpoints/EndpointRequestIsTokenCharPinLaw -/
def k1 : Class := { plain "com/example/admission_for_endpoints/admissionforendpoints/EndpointRequestIsTokenCharPinLaw" (some 0) with
  accessFlags := 49
  interfaces := #[]
  cf := some (fileOf pool1 15 #[] #[{ accessFlags := 1, nameIndex := 5, descriptorIndex := 6, attributes := #[] }, { accessFlags := 9, nameIndex := 24, descriptorIndex := 25, attributes := #[] }, { accessFlags := 10, nameIndex := 18, descriptorIndex := 13, attributes := #[] }, { accessFlags := 10, nameIndex := 21, descriptorIndex := 13, attributes := #[] }] 49 2 #[] #[])
  fields := #[]
  methods := #[k1m0, k1m1, k1m2, k1m3]
  instanceTypes := #[]
  staticTypes := #[]
  resolved := Array.replicate 29 none
  statics := none }

def pool2 : Array CpInfo := pool [(2, .class_ 4), (1, u "java/lang/Object"), (3, .class_ 10), (1, u "com/example/admission_for_endpoints/admissionforendpoints/EndpointRequest"), (0, u "method"), (0, u "Ljava/lang/String;"), (2, u "uri"), (0, u "Ljava/net/URI;"), (2, u "head"), (0, u "[B"), (2, u "body"), (82, .class_ 107), (0, u "java/lang/String"), (40, u "WITH_CONTENT"), (0, u "Ljava/util/Set;"), (39, u "IDEMPOTENT"), (20, u "isTokenChar"), (0, u "(I)Z"), (0, .string 213), (0, u "!#$%&'*+-.^_`|~"), (0, .methodref 106 215), (0, .nameAndType 216 217), (0, u "indexOf"), (0, u "(I)I"), (20, u "TOKEN_SYMBOLS"), (3, u "USER_AGENT")] 32

def k2c0 : Code := { maxStack := 2, maxLocals := 1, code := prog_3_method_13_code, exceptionTable := #[], attributes := #[] }
def k2m0 : Method := { name := "isTokenChar", desc := "(I)Z", sig := { parameters := [.int], returnType := some .boolean }, accessFlags := 8, code := some k2c0 }
/-- com/example/admission_for_endpoints/admissionforendpoints/EndpointRequest -/
def k2 : Class := { plain "com/example/admission_for_endpoints/admissionforendpoints/EndpointRequest" (some 0) with
  accessFlags := 48
  interfaces := #[]
  cf := some (fileOf pool2 8 #[] #[{ accessFlags := 8, nameIndex := 210, descriptorIndex := 211, attributes := #[] }] 48 2 #[] #[{ accessFlags := 26, nameIndex := 238, descriptorIndex := 12, attributes := #[] }, { accessFlags := 26, nameIndex := 148, descriptorIndex := 149, attributes := #[] }, { accessFlags := 26, nameIndex := 189, descriptorIndex := 149, attributes := #[] }, { accessFlags := 26, nameIndex := 242, descriptorIndex := 12, attributes := #[] }, { accessFlags := 18, nameIndex := 11, descriptorIndex := 12, attributes := #[] }, { accessFlags := 18, nameIndex := 15, descriptorIndex := 16, attributes := #[] }, { accessFlags := 18, nameIndex := 19, descriptorIndex := 20, attributes := #[] }, { accessFlags := 18, nameIndex := 23, descriptorIndex := 20, attributes := #[] }])
  fields := #[{ name := "TOKEN_SYMBOLS", type := (.object "java/lang/String"), accessFlags := 26, slot := 0, constantValue := 0 }, { name := "WITH_CONTENT", type := (.object "java/util/Set"), accessFlags := 26, slot := 1, constantValue := 0 }, { name := "IDEMPOTENT", type := (.object "java/util/Set"), accessFlags := 26, slot := 2, constantValue := 0 }, { name := "USER_AGENT", type := (.object "java/lang/String"), accessFlags := 26, slot := 3, constantValue := 0 }, { name := "method", type := (.object "java/lang/String"), accessFlags := 18, slot := 0, constantValue := 0 }, { name := "uri", type := (.object "java/net/URI"), accessFlags := 18, slot := 1, constantValue := 0 }, { name := "head", type := (.array .byte), accessFlags := 18, slot := 2, constantValue := 0 }, { name := "body", type := (.array .byte), accessFlags := 18, slot := 3, constantValue := 0 }]
  methods := #[k2m0]
  instanceTypes := #[(.object "java/lang/String"), (.object "java/net/URI"), (.array .byte), (.array .byte)]
  staticTypes := #[(.object "java/lang/String"), (.object "java/util/Set"), (.object "java/util/Set"), (.object "java/lang/String")]
  resolved := Array.replicate 275 none
  statics := none }

def pool3 : Array CpInfo := pool [(1, .class_ 2), (0, u "java/io/Serializable"), (0, .class_ 4), (0, u "java/lang/Object")] 2

/-- java/io/Serializable -/
def k3 : Class := { plain "java/io/Serializable" (some 0) with
  accessFlags := 1537
  interfaces := #[]
  cf := some (fileOf pool3 1 #[] #[] 1537 3 #[] #[])
  fields := #[]
  methods := #[]
  instanceTypes := #[]
  staticTypes := #[]
  resolved := Array.replicate 7 none
  statics := none }

def pool4 : Array CpInfo := pool [(1, .class_ 2), (0, u "java/lang/Comparable"), (0, .class_ 4), (0, u "java/lang/Object")] 7

/-- java/lang/Comparable -/
def k4 : Class := { plain "java/lang/Comparable" (some 0) with
  accessFlags := 1537
  interfaces := #[]
  cf := some (fileOf pool4 1 #[] #[] 1537 3 #[] #[])
  fields := #[]
  methods := #[]
  instanceTypes := #[]
  staticTypes := #[]
  resolved := Array.replicate 12 none
  statics := none }

def pool5 : Array CpInfo := pool [(2, .class_ 4), (1, u "java/lang/CharSequence"), (42, .class_ 48), (0, u "java/lang/CharSequence$1CodePointIterator"), (10, .class_ 60), (0, u "java/lang/CharSequence$1CharIterator"), (5, .class_ 67), (0, u "java/lang/Object")] 63

/-- java/lang/CharSequence -/
def k5 : Class := { plain "java/lang/CharSequence" (some 0) with
  accessFlags := 1537
  interfaces := #[]
  cf := some (fileOf pool5 2 #[.nestMembers #[47, 59]] #[] 1537 66 #[] #[])
  fields := #[]
  methods := #[]
  instanceTypes := #[]
  staticTypes := #[]
  resolved := Array.replicate 131 none
  statics := none }

def pool6 : Array CpInfo := pool [(1, .class_ 2), (0, u "java/lang/constant/Constable"), (0, .class_ 4), (0, u "java/lang/Object")] 6

/-- java/lang/constant/Constable -/
def k6 : Class := { plain "java/lang/constant/Constable" (some 0) with
  accessFlags := 1537
  interfaces := #[]
  cf := some (fileOf pool6 1 #[] #[] 1537 3 #[] #[])
  fields := #[]
  methods := #[]
  instanceTypes := #[]
  staticTypes := #[]
  resolved := Array.replicate 11 none
  statics := none }

def pool7 : Array CpInfo := pool [(1, .class_ 2), (0, u "java/lang/constant/ConstantDesc"), (0, .class_ 4), (0, u "java/lang/Object")] 32

/-- java/lang/constant/ConstantDesc -/
def k7 : Class := { plain "java/lang/constant/ConstantDesc" (some 0) with
  accessFlags := 1537
  interfaces := #[]
  cf := some (fileOf pool7 1 #[] #[] 1537 3 #[] #[])
  fields := #[]
  methods := #[]
  instanceTypes := #[]
  staticTypes := #[]
  resolved := Array.replicate 37 none
  statics := none }

def pool8 : Array CpInfo := pool [(2, .class_ 4), (1, u "java/lang/Object"), (0, u "<init>"), (0, u "()V"), (2, .fieldref 10 11), (0, .class_ 12), (0, .nameAndType 13 14), (0, u "java/lang/String"), (0, u "value"), (0, u "[B"), (0, .fieldref 10 16), (0, .nameAndType 17 18), (0, u "coder"), (0, u "B"), (2, u "hash"), (0, u "I"), (2, u "hashIsZero"), (0, u "Z"), (11, .fieldref 10 39), (0, .nameAndType 40 26), (0, u "COMPACT_STRINGS"), (66, .class_ 109), (1, u "java/lang/StringLatin1"), (32, u "()Z"), (191, u "()I"), (0, .methodref 10 336), (0, .nameAndType 17 337), (0, u "()B"), (154, .methodref 10 493), (0, .nameAndType 494 142), (0, u "isLatin1"), (10, .methodref 10 506), (0, .nameAndType 507 334), (0, u "length"), (67, .class_ 576), (0, u "java/lang/CharSequence"), (22, u "CASE_INSENSITIVE_ORDER"), (0, u "Ljava/util/Comparator;"), (32, .methodref 10 634), (0, .nameAndType 635 636), (0, u "indexOf"), (0, u "(II)I"), (0, .methodref 107 638), (0, .nameAndType 635 639), (0, u "([BIII)I"), (125, u "(I)I"), (335, u "serialPersistentFields"), (0, u "[Ljava/io/ObjectStreamField;"), (0, .class_ 1104), (0, u "java/lang/String$CaseInsensitiveComparator"), (1, .class_ 1107), (0, u "java/io/Serializable"), (0, .class_ 1109), (0, u "java/lang/Comparable"), (0, .class_ 1111), (0, u "java/lang/constant/Constable"), (0, .class_ 1113), (0, u "java/lang/constant/ConstantDesc"), (2, u "serialVersionUID"), (0, u "J"), (3, u "REPL"), (0, u "C"), (2, u "LATIN1"), (1, u "UTF16")] 323

def k8m0 : Method := { name := "<init>", desc := "()V", sig := { parameters := [], returnType := none }, accessFlags := 1, code := none }
def k8c1 : Code := { maxStack := 2, maxLocals := 1, code := jdk_42_method_54_code, exceptionTable := #[], attributes := #[] }
def k8m1 : Method := { name := "length", desc := "()I", sig := { parameters := [], returnType := some .int }, accessFlags := 1, code := some k8c1 }
def k8c2 : Code := { maxStack := 3, maxLocals := 2, code := jdk_42_method_79_code, exceptionTable := #[], attributes := #[] }
def k8m2 : Method := { name := "indexOf", desc := "(I)I", sig := { parameters := [.int], returnType := some .int }, accessFlags := 1, code := some k8c2 }
def k8c3 : Code := { maxStack := 4, maxLocals := 3, code := jdk_42_method_80_code, exceptionTable := #[], attributes := #[] }
def k8m3 : Method := { name := "indexOf", desc := "(II)I", sig := { parameters := [.int, .int], returnType := some .int }, accessFlags := 1, code := some k8c3 }
def k8c4 : Code := { maxStack := 1, maxLocals := 1, code := jdk_42_method_152_code, exceptionTable := #[], attributes := #[] }
def k8m4 : Method := { name := "coder", desc := "()B", sig := { parameters := [], returnType := some .byte }, accessFlags := 0, code := some k8c4 }
def k8c5 : Code := { maxStack := 1, maxLocals := 1, code := jdk_42_method_154_code, exceptionTable := #[], attributes := #[] }
def k8m5 : Method := { name := "isLatin1", desc := "()Z", sig := { parameters := [], returnType := some .boolean }, accessFlags := 0, code := some k8c5 }
/-- java/lang/String -/
def k8 : Class := { plain "java/lang/String" (some 0) with
  accessFlags := 49
  interfaces := #[3, 4, 5, 6, 7]
  cf := some (fileOf pool8 10 #[.nestMembers #[1103]] #[{ accessFlags := 1, nameIndex := 5, descriptorIndex := 6, attributes := #[] }, { accessFlags := 1, nameIndex := 507, descriptorIndex := 334, attributes := #[] }, { accessFlags := 1, nameIndex := 635, descriptorIndex := 765, attributes := #[] }, { accessFlags := 1, nameIndex := 635, descriptorIndex := 636, attributes := #[] }, { accessFlags := 0, nameIndex := 17, descriptorIndex := 337, attributes := #[] }, { accessFlags := 0, nameIndex := 494, descriptorIndex := 142, attributes := #[] }] 49 2 #[1106, 1108, 575, 1110, 1112] #[{ accessFlags := 18, nameIndex := 13, descriptorIndex := 14, attributes := #[] }, { accessFlags := 18, nameIndex := 17, descriptorIndex := 18, attributes := #[] }, { accessFlags := 2, nameIndex := 21, descriptorIndex := 22, attributes := #[] }, { accessFlags := 2, nameIndex := 25, descriptorIndex := 26, attributes := #[] }, { accessFlags := 26, nameIndex := 1116, descriptorIndex := 1117, attributes := #[] }, { accessFlags := 24, nameIndex := 40, descriptorIndex := 26, attributes := #[] }, { accessFlags := 26, nameIndex := 1101, descriptorIndex := 1102, attributes := #[] }, { accessFlags := 26, nameIndex := 1121, descriptorIndex := 1122, attributes := #[] }, { accessFlags := 25, nameIndex := 599, descriptorIndex := 600, attributes := #[] }, { accessFlags := 24, nameIndex := 1125, descriptorIndex := 18, attributes := #[] }, { accessFlags := 24, nameIndex := 1127, descriptorIndex := 18, attributes := #[] }])
  fields := #[{ name := "value", type := (.array .byte), accessFlags := 18, slot := 0, constantValue := 0 }, { name := "coder", type := .byte, accessFlags := 18, slot := 1, constantValue := 0 }, { name := "hash", type := .int, accessFlags := 2, slot := 2, constantValue := 0 }, { name := "hashIsZero", type := .boolean, accessFlags := 2, slot := 3, constantValue := 0 }, { name := "serialVersionUID", type := .long, accessFlags := 26, slot := 0, constantValue := 0 }, { name := "COMPACT_STRINGS", type := .boolean, accessFlags := 24, slot := 1, constantValue := 0 }, { name := "serialPersistentFields", type := (.array (.object "java/io/ObjectStreamField")), accessFlags := 26, slot := 2, constantValue := 0 }, { name := "REPL", type := .char, accessFlags := 26, slot := 3, constantValue := 0 }, { name := "CASE_INSENSITIVE_ORDER", type := (.object "java/util/Comparator"), accessFlags := 25, slot := 4, constantValue := 0 }, { name := "LATIN1", type := .byte, accessFlags := 24, slot := 5, constantValue := 0 }, { name := "UTF16", type := .byte, accessFlags := 24, slot := 6, constantValue := 0 }]
  methods := #[k8m0, k8m1, k8m2, k8m3, k8m4, k8m5]
  instanceTypes := #[(.array .byte), .byte, .int, .boolean]
  staticTypes := #[.long, .boolean, (.array (.object "java/io/ObjectStreamField")), .char, (.object "java/util/Comparator"), .byte, .byte]
  resolved := Array.replicate 1451 none
  statics := some 0 }

def pool9 : Array CpInfo := pool [(4, .class_ 6), (1, u "java/lang/Object"), (0, u "<init>"), (0, u "()V"), (5, .class_ 16), (1, u "java/lang/StringLatin1"), (21, .methodref 39 40), (0, .class_ 41), (0, .nameAndType 42 43), (0, u "java/lang/Math"), (0, u "min"), (0, u "(II)I"), (44, .methodref 14 89), (0, .nameAndType 90 91), (0, u "canEncode"), (0, u "(I)Z"), (0, .methodref 39 93), (0, .nameAndType 94 43), (0, u "max"), (0, .methodref 14 96), (0, .nameAndType 97 98), (0, u "indexOfChar"), (0, u "([BIII)I"), (2, u "indexOf"), (19, u "$assertionsDisabled"), (0, u "Z"), (98, .class_ 223), (1, u "java/lang/StringLatin1$LinesSpliterator"), (166, .class_ 391), (0, u "java/lang/StringLatin1$CharsSpliterator")] 3

def k9m0 : Method := { name := "<init>", desc := "()V", sig := { parameters := [], returnType := none }, accessFlags := 0, code := none }
def k9c1 : Code := { maxStack := 2, maxLocals := 1, code := jdk_43_method_4_code, exceptionTable := #[], attributes := #[] }
def k9m1 : Method := { name := "canEncode", desc := "(I)Z", sig := { parameters := [.int], returnType := some .boolean }, accessFlags := 9, code := some k9c1 }
def k9c2 : Code := { maxStack := 4, maxLocals := 4, code := jdk_43_method_22_code, exceptionTable := #[], attributes := #[] }
def k9m2 : Method := { name := "indexOf", desc := "([BIII)I", sig := { parameters := [(.array .byte), .int, .int, .int], returnType := some .int }, accessFlags := 9, code := some k9c2 }
def k9c3 : Code := { maxStack := 2, maxLocals := 6, code := jdk_43_method_23_code, exceptionTable := #[], attributes := #[] }
def k9m3 : Method := { name := "indexOfChar", desc := "([BIII)I", sig := { parameters := [(.array .byte), .int, .int, .int], returnType := some .int }, accessFlags := 10, code := some k9c3 }
/-- java/lang/StringLatin1 -/
def k9 : Class := { plain "java/lang/StringLatin1" (some 0) with
  accessFlags := 48
  interfaces := #[]
  cf := some (fileOf pool9 14 #[.nestMembers #[390, 221]] #[{ accessFlags := 0, nameIndex := 7, descriptorIndex := 8, attributes := #[] }, { accessFlags := 9, nameIndex := 90, descriptorIndex := 91, attributes := #[] }, { accessFlags := 9, nameIndex := 101, descriptorIndex := 98, attributes := #[] }, { accessFlags := 10, nameIndex := 97, descriptorIndex := 98, attributes := #[] }] 48 4 #[] #[{ accessFlags := 4120, nameIndex := 121, descriptorIndex := 122, attributes := #[] }])
  fields := #[{ name := "$assertionsDisabled", type := .boolean, accessFlags := 4120, slot := 0, constantValue := 0 }]
  methods := #[k9m0, k9m1, k9m2, k9m3]
  instanceTypes := #[]
  staticTypes := #[.boolean]
  resolved := Array.replicate 395 none
  statics := none }

def pool10 : Array CpInfo := pool [(1, .class_ 2), (0, u "java/lang/Math"), (1, .class_ 6), (1, u "java/lang/Object"), (0, u "<init>"), (0, u "()V"), (89, .class_ 100), (1, u "java/lang/Math$RandomNumberGeneratorHolder"), (71, u "negativeZeroFloatBits"), (0, u "J"), (2, u "negativeZeroDoubleBits"), (21, u "max"), (2, u "min"), (43, u "$assertionsDisabled"), (0, u "Z"), (88, u "(II)I"), (2, u "twoToTheDoubleScaleDown"), (0, u "D"), (4, u "twoToTheDoubleScaleUp"), (9, u "E"), (3, u "PI"), (2, u "TAU"), (2, u "DEGREES_TO_RADIANS"), (0, u "RADIANS_TO_DEGREES")] 94

def k10m0 : Method := { name := "<init>", desc := "()V", sig := { parameters := [], returnType := none }, accessFlags := 2, code := none }
def k10c1 : Code := { maxStack := 2, maxLocals := 2, code := jdk_29_method_65_code, exceptionTable := #[], attributes := #[] }
def k10m1 : Method := { name := "max", desc := "(II)I", sig := { parameters := [.int, .int], returnType := some .int }, accessFlags := 9, code := some k10c1 }
def k10c2 : Code := { maxStack := 2, maxLocals := 2, code := jdk_29_method_69_code, exceptionTable := #[], attributes := #[] }
def k10m2 : Method := { name := "min", desc := "(II)I", sig := { parameters := [.int, .int], returnType := some .int }, accessFlags := 9, code := some k10c2 }
/-- java/lang/Math -/
def k10 : Class := { plain "java/lang/Math" (some 0) with
  accessFlags := 49
  interfaces := #[]
  cf := some (fileOf pool10 1 #[.nestMembers #[98]] #[{ accessFlags := 2, nameIndex := 7, descriptorIndex := 8, attributes := #[] }, { accessFlags := 9, nameIndex := 198, descriptorIndex := 335, attributes := #[] }, { accessFlags := 9, nameIndex := 201, descriptorIndex := 335, attributes := #[] }] 49 4 #[] #[{ accessFlags := 25, nameIndex := 354, descriptorIndex := 339, attributes := #[] }, { accessFlags := 25, nameIndex := 358, descriptorIndex := 339, attributes := #[] }, { accessFlags := 25, nameIndex := 361, descriptorIndex := 339, attributes := #[] }, { accessFlags := 26, nameIndex := 364, descriptorIndex := 339, attributes := #[] }, { accessFlags := 26, nameIndex := 365, descriptorIndex := 339, attributes := #[] }, { accessFlags := 26, nameIndex := 172, descriptorIndex := 173, attributes := #[] }, { accessFlags := 26, nameIndex := 176, descriptorIndex := 173, attributes := #[] }, { accessFlags := 8, nameIndex := 344, descriptorIndex := 339, attributes := #[] }, { accessFlags := 8, nameIndex := 338, descriptorIndex := 339, attributes := #[] }, { accessFlags := 4120, nameIndex := 245, descriptorIndex := 246, attributes := #[] }])
  fields := #[{ name := "E", type := .double, accessFlags := 25, slot := 0, constantValue := 0 }, { name := "PI", type := .double, accessFlags := 25, slot := 1, constantValue := 0 }, { name := "TAU", type := .double, accessFlags := 25, slot := 2, constantValue := 0 }, { name := "DEGREES_TO_RADIANS", type := .double, accessFlags := 26, slot := 3, constantValue := 0 }, { name := "RADIANS_TO_DEGREES", type := .double, accessFlags := 26, slot := 4, constantValue := 0 }, { name := "negativeZeroFloatBits", type := .long, accessFlags := 26, slot := 5, constantValue := 0 }, { name := "negativeZeroDoubleBits", type := .long, accessFlags := 26, slot := 6, constantValue := 0 }, { name := "twoToTheDoubleScaleUp", type := .double, accessFlags := 8, slot := 7, constantValue := 0 }, { name := "twoToTheDoubleScaleDown", type := .double, accessFlags := 8, slot := 8, constantValue := 0 }, { name := "$assertionsDisabled", type := .boolean, accessFlags := 4120, slot := 9, constantValue := 0 }]
  methods := #[k10m0, k10m1, k10m2]
  instanceTypes := #[]
  staticTypes := #[.double, .double, .double, .double, .double, .long, .long, .double, .double, .boolean]
  resolved := Array.replicate 460 none
  statics := none }

def pool11 : Array CpInfo := pool [(2, .class_ 4), (1, u "java/lang/Object"), (0, u "<init>"), (0, u "()V"), (17, .class_ 26), (1, u "jdk/internal/util/Preconditions"), (28, .class_ 56), (0, u "jdk/internal/util/Preconditions$4"), (57, .class_ 115), (0, u "jdk/internal/util/Preconditions$1"), (7, u "SIOOBE_FORMATTER"), (0, u "Ljava/util/function/BiFunction;"), (0, .class_ 126), (0, u "jdk/internal/util/Preconditions$2"), (3, u "AIOOBE_FORMATTER"), (0, .class_ 132), (0, u "jdk/internal/util/Preconditions$3"), (3, u "IOOBE_FORMATTER")] 57

def k11m0 : Method := { name := "<init>", desc := "()V", sig := { parameters := [], returnType := none }, accessFlags := 1, code := none }
/-- jdk/internal/util/Preconditions -/
def k11 : Class := { plain "jdk/internal/util/Preconditions" (some 0) with
  accessFlags := 33
  interfaces := #[]
  cf := some (fileOf pool11 24 #[.nestMembers #[55, 131, 125, 114]] #[{ accessFlags := 1, nameIndex := 5, descriptorIndex := 6, attributes := #[] }] 33 2 #[] #[{ accessFlags := 25, nameIndex := 123, descriptorIndex := 124, attributes := #[] }, { accessFlags := 25, nameIndex := 130, descriptorIndex := 124, attributes := #[] }, { accessFlags := 25, nameIndex := 136, descriptorIndex := 124, attributes := #[] }])
  fields := #[{ name := "SIOOBE_FORMATTER", type := (.object "java/util/function/BiFunction"), accessFlags := 25, slot := 0, constantValue := 0 }, { name := "AIOOBE_FORMATTER", type := (.object "java/util/function/BiFunction"), accessFlags := 25, slot := 1, constantValue := 0 }, { name := "IOOBE_FORMATTER", type := (.object "java/util/function/BiFunction"), accessFlags := 25, slot := 2, constantValue := 0 }]
  methods := #[k11m0]
  instanceTypes := #[]
  staticTypes := #[(.object "java/util/function/BiFunction"), (.object "java/util/function/BiFunction"), (.object "java/util/function/BiFunction")]
  resolved := Array.replicate 194 none
  statics := some 1 }

def pool12 : Array CpInfo := pool [(9, u "<init>"), (6, .class_ 18), (1, u "java/lang/Object"), (0, u "()V"), (1, .class_ 23), (1, u "jdk/internal/util/ArraysSupport"), (0, u "LOG2_ARRAY_LONG_INDEX_SCALE"), (0, u "I"), (2, u "U"), (0, u "Ljdk/internal/misc/Unsafe;"), (8, u "BIG_ENDIAN"), (0, u "Z"), (8, u "LOG2_BYTE_BIT_SIZE"), (4, u "LOG2_ARRAY_INT_INDEX_SCALE"), (54, u "JLA"), (0, u "Ljdk/internal/access/JavaLangAccess;"), (11, u "LOG2_ARRAY_BOOLEAN_INDEX_SCALE"), (9, u "LOG2_ARRAY_BYTE_INDEX_SCALE"), (5, u "LOG2_ARRAY_CHAR_INDEX_SCALE"), (5, u "LOG2_ARRAY_SHORT_INDEX_SCALE"), (18, u "LOG2_ARRAY_FLOAT_INDEX_SCALE"), (24, u "LOG2_ARRAY_DOUBLE_INDEX_SCALE"), (89, u "T_BOOLEAN"), (2, u "T_CHAR"), (1, u "T_FLOAT"), (1, u "T_DOUBLE"), (1, u "T_BYTE"), (1, u "T_SHORT"), (1, u "T_INT"), (1, u "T_LONG"), (1, u "SOFT_MAX_ARRAY_LENGTH")] 83

def k12m0 : Method := { name := "<init>", desc := "()V", sig := { parameters := [], returnType := none }, accessFlags := 2, code := none }
/-- jdk/internal/util/ArraysSupport -/
def k12 : Class := { plain "jdk/internal/util/ArraysSupport" (some 0) with
  accessFlags := 33
  interfaces := #[]
  cf := some (fileOf pool12 21 #[] #[{ accessFlags := 2, nameIndex := 9, descriptorIndex := 19, attributes := #[] }] 33 16 #[] #[{ accessFlags := 24, nameIndex := 28, descriptorIndex := 29, attributes := #[] }, { accessFlags := 26, nameIndex := 38, descriptorIndex := 39, attributes := #[] }, { accessFlags := 25, nameIndex := 121, descriptorIndex := 25, attributes := #[] }, { accessFlags := 25, nameIndex := 131, descriptorIndex := 25, attributes := #[] }, { accessFlags := 25, nameIndex := 137, descriptorIndex := 25, attributes := #[] }, { accessFlags := 25, nameIndex := 143, descriptorIndex := 25, attributes := #[] }, { accessFlags := 25, nameIndex := 53, descriptorIndex := 25, attributes := #[] }, { accessFlags := 25, nameIndex := 24, descriptorIndex := 25, attributes := #[] }, { accessFlags := 25, nameIndex := 162, descriptorIndex := 25, attributes := #[] }, { accessFlags := 25, nameIndex := 187, descriptorIndex := 25, attributes := #[] }, { accessFlags := 26, nameIndex := 48, descriptorIndex := 25, attributes := #[] }, { accessFlags := 25, nameIndex := 277, descriptorIndex := 25, attributes := #[] }, { accessFlags := 25, nameIndex := 280, descriptorIndex := 25, attributes := #[] }, { accessFlags := 25, nameIndex := 282, descriptorIndex := 25, attributes := #[] }, { accessFlags := 25, nameIndex := 284, descriptorIndex := 25, attributes := #[] }, { accessFlags := 25, nameIndex := 286, descriptorIndex := 25, attributes := #[] }, { accessFlags := 25, nameIndex := 288, descriptorIndex := 25, attributes := #[] }, { accessFlags := 25, nameIndex := 290, descriptorIndex := 25, attributes := #[] }, { accessFlags := 25, nameIndex := 292, descriptorIndex := 25, attributes := #[] }, { accessFlags := 26, nameIndex := 108, descriptorIndex := 109, attributes := #[] }, { accessFlags := 25, nameIndex := 294, descriptorIndex := 25, attributes := #[] }])
  fields := #[{ name := "U", type := (.object "jdk/internal/misc/Unsafe"), accessFlags := 24, slot := 0, constantValue := 0 }, { name := "BIG_ENDIAN", type := .boolean, accessFlags := 26, slot := 1, constantValue := 0 }, { name := "LOG2_ARRAY_BOOLEAN_INDEX_SCALE", type := .int, accessFlags := 25, slot := 2, constantValue := 0 }, { name := "LOG2_ARRAY_BYTE_INDEX_SCALE", type := .int, accessFlags := 25, slot := 3, constantValue := 0 }, { name := "LOG2_ARRAY_CHAR_INDEX_SCALE", type := .int, accessFlags := 25, slot := 4, constantValue := 0 }, { name := "LOG2_ARRAY_SHORT_INDEX_SCALE", type := .int, accessFlags := 25, slot := 5, constantValue := 0 }, { name := "LOG2_ARRAY_INT_INDEX_SCALE", type := .int, accessFlags := 25, slot := 6, constantValue := 0 }, { name := "LOG2_ARRAY_LONG_INDEX_SCALE", type := .int, accessFlags := 25, slot := 7, constantValue := 0 }, { name := "LOG2_ARRAY_FLOAT_INDEX_SCALE", type := .int, accessFlags := 25, slot := 8, constantValue := 0 }, { name := "LOG2_ARRAY_DOUBLE_INDEX_SCALE", type := .int, accessFlags := 25, slot := 9, constantValue := 0 }, { name := "LOG2_BYTE_BIT_SIZE", type := .int, accessFlags := 26, slot := 10, constantValue := 0 }, { name := "T_BOOLEAN", type := .int, accessFlags := 25, slot := 11, constantValue := 0 }, { name := "T_CHAR", type := .int, accessFlags := 25, slot := 12, constantValue := 0 }, { name := "T_FLOAT", type := .int, accessFlags := 25, slot := 13, constantValue := 0 }, { name := "T_DOUBLE", type := .int, accessFlags := 25, slot := 14, constantValue := 0 }, { name := "T_BYTE", type := .int, accessFlags := 25, slot := 15, constantValue := 0 }, { name := "T_SHORT", type := .int, accessFlags := 25, slot := 16, constantValue := 0 }, { name := "T_INT", type := .int, accessFlags := 25, slot := 17, constantValue := 0 }, { name := "T_LONG", type := .int, accessFlags := 25, slot := 18, constantValue := 0 }, { name := "JLA", type := (.object "jdk/internal/access/JavaLangAccess"), accessFlags := 26, slot := 19, constantValue := 0 }, { name := "SOFT_MAX_ARRAY_LENGTH", type := .int, accessFlags := 25, slot := 20, constantValue := 0 }]
  methods := #[k12m0]
  instanceTypes := #[]
  staticTypes := #[(.object "jdk/internal/misc/Unsafe"), .boolean, .int, .int, .int, .int, .int, .int, .int, .int, .int, .int, .int, .int, .int, .int, .int, .int, .int, (.object "jdk/internal/access/JavaLangAccess"), .int]
  resolved := Array.replicate 378 none
  statics := none }

def pool13 : Array CpInfo := pool [(1, u "java/lang/Cloneable"), (0, .class_ 1), (0, u "java/lang/Object"), (0, .class_ 3)] 3

/-- java/lang/Cloneable -/
def k13 : Class := { plain "java/lang/Cloneable" (some 0) with
  accessFlags := 1537
  interfaces := #[]
  cf := some (fileOf pool13 2 #[] #[] 1537 4 #[] #[])
  fields := #[]
  methods := #[]
  instanceTypes := #[]
  staticTypes := #[]
  resolved := Array.replicate 8 none
  statics := none }

/-- the primitive byte -/
def k14 : Class := { plain "byte" none with kind := .primitive 'B', accessFlags := 0x411 }
/-- [B -/
def k15 : Class := { plain "[B" (some 0) with kind := .array 14 .byte, interfaces := #[13, 3], accessFlags := 1041 }

/-- the primitive int -/
def k16 : Class := { plain "int" none with kind := .primitive 'I', accessFlags := 0x411 }
/-- [I -/
def k17 : Class := { plain "[I" (some 0) with kind := .array 16 .int, interfaces := #[13, 3], accessFlags := 1041 }

def heap : Heap := #[{ cls := 8, slots := #[.long 0, .int 1, .null, .int 0, .null, .int 0, .int 0], vm := .statics 8 },
  { cls := 11, slots := #[.null, .null, .null], vm := .statics 11 }]
def classes : Array Class := #[k0, k1, k2, k3, k4, k5, k6, k7, k8, k9, k10, k11, k12, k13, k14, k15, k16, k17]
def interned : List (Array UInt16 × Addr) := []
def slotsUsed : Nat := 10
def theMethod : MethodId := ⟨1, 1⟩
def args0 : Array Value := #[.int 5, .int 6]
def aboutOver (below : List Frame) : State where
  vm := { classes := classes, interned := interned.toArray }
  heap := heap
  slotsUsed := slotsUsed
  threads := #[{ frames := .invoking theMethod args0 :: below }]
def below0 : List Frame := [.native { method := ⟨0, 0⟩, args := #[] }]
def about1 : State := aboutOver below0
def p0 : Program := .bare "" "" ""
def e0 : Env := launch0.env 0 0 0
theorem w_frames : about1.frames = Frame.invoking theMethod args0 :: below0 := rfl
set_option maxRecDepth 65536 in
theorem w_args : argsFit about1.vm theMethod args0 = true := by decide +kernel
set_option maxRecDepth 65536 in
theorem w_heap : heapFits about1 = true := by decide +kernel
set_option maxRecDepth 65536 in
theorem w_runnable : about1.curStatus? = some .runnable := by decide +kernel
set_option maxRecDepth 65536 in
theorem w_alone : about1.alone = true := by decide +kernel
set_option maxRecDepth 65536 in
theorem w_named : about1.methodNamed? x = some theMethod := by decide +kernel
set_option maxRecDepth 65536 in
theorem w_hears : about1.hears theMethod below0 = true := by decide +kernel
set_option maxRecDepth 65536 in
theorem w_ripe : about1.ripe theMethod args0 below0 = true := by decide +kernel
theorem w_running : about1.status = .running := rfl
set_option maxRecDepth 65536 in
theorem w_room : about1.hasRoom e0.platform room_1 = true :=
  launch0.hasRoom_least _ room_1 (by decide +kernel) (by decide +kernel) (by decide +kernel) (by decide +kernel) (by decide +kernel) (by decide +kernel)
theorem allAtoms_all (ts : List Jvm.Cond) (a : Array Jvm.Value) (st : Jvm.State) : (allAtoms ts).before a st = ts.all (fun c => c.before a st) := by
  induction ts with
  | nil => rfl
  | cons c t ih =>
    show (Jvm.Cond.and c (allAtoms t)).before a st = _
    rw [Jvm.Cond.before_and, ih, List.all_cons]
def words1 : List Jvm.Cond := Jvm.Cond.code x code maxLocals ret :: tables_1
/-- a 'code' word, met by the world's own term for the bytes: nothing is compared byte by byte -/
theorem code_word {y : MethodName} {bytes : ByteArray} {mx : Nat} {rt : Option FieldType} {a : Array Value} {s : State} {m : MethodId} {meth : Method} {c : Code} (h1 : s.methodNamed? y = some m) (h2 : s.vm.method? m = some meth) (h3 : meth.code = some c) (h4 : c.code = bytes)
    (h5 : (c.maxLocals == mx && c.exceptionTable.isEmpty && decide (c.maxStack ≤ mostOperands) && decide (meth.sig.returnType = rt) && !meth.locks && decide (parseMethodDescriptor y.desc = some meth.sig)) = true) : (Jvm.Cond.code y bytes mx rt).before a s = true := by
  simp only [Bool.and_eq_true, beq_iff_eq, Bool.not_eq_true', decide_eq_true_eq] at h5
  obtain ⟨⟨⟨⟨⟨g1, g2⟩, g3⟩, g4⟩, g5⟩, g6⟩ := h5
  simp [Cond.before, Cond.holds, Cond.value, h1, h2, h3, h4, g1, g2, g3, g4, g5, g6]
def isCode : Jvm.Cond → Bool
  | .code _ _ _ _ => true
  | _ => false
theorem all_split {L : List Jvm.Cond} {P : Jvm.Cond → Bool} (h1 : L.all (fun c => isCode c || P c) = true) (h2 : ∀ c ∈ L.filter isCode, P c = true) : L.all P = true := by
  refine List.all_eq_true.mpr fun c hc => ?_
  have h := List.all_eq_true.mp h1 c hc
  rcases Bool.eq_false_or_eq_true (isCode c) with hi | hi
  · exact h2 c (List.mem_filter.mpr ⟨hc, hi⟩)
  · simpa [hi] using h
set_option maxRecDepth 65536 in
theorem w_c0 : (Jvm.Cond.code x code maxLocals ret).before args0 about1 = true := code_word (m := ⟨1, 1⟩) (meth := k1m1) (c := k1c1) (by decide +kernel) rfl rfl rfl (by decide +kernel)
set_option maxRecDepth 65536 in
theorem w_c1 : (Jvm.Cond.code ({ cls := "com/example/admission_for_endpoints/admissionforendpoints/EndpointRequest", name := "isTokenChar", desc := "(I)Z" } : Jvm.MethodName) prog_3_method_13_code (1 : Nat) (Option.some Jvm.ClassFile.FieldType.boolean)).before args0 about1 = true := code_word (m := ⟨2, 0⟩) (meth := k2m0) (c := k2c0) (by decide +kernel) rfl rfl rfl (by decide +kernel)
set_option maxRecDepth 65536 in
theorem w_c2 : (Jvm.Cond.code ({ cls := "java/lang/String", name := "indexOf", desc := "(I)I" } : Jvm.MethodName) jdk_42_method_79_code (2 : Nat) (Option.some Jvm.ClassFile.FieldType.int)).before args0 about1 = true := code_word (m := ⟨8, 2⟩) (meth := k8m2) (c := k8c2) (by decide +kernel) rfl rfl rfl (by decide +kernel)
set_option maxRecDepth 65536 in
theorem w_c3 : (Jvm.Cond.code ({ cls := "java/lang/String", name := "indexOf", desc := "(II)I" } : Jvm.MethodName) jdk_42_method_80_code (3 : Nat) (Option.some Jvm.ClassFile.FieldType.int)).before args0 about1 = true := code_word (m := ⟨8, 3⟩) (meth := k8m3) (c := k8c3) (by decide +kernel) rfl rfl rfl (by decide +kernel)
set_option maxRecDepth 65536 in
theorem w_c4 : (Jvm.Cond.code ({ cls := "java/lang/String", name := "isLatin1", desc := "()Z" } : Jvm.MethodName) jdk_42_method_154_code (1 : Nat) (Option.some Jvm.ClassFile.FieldType.boolean)).before args0 about1 = true := code_word (m := ⟨8, 5⟩) (meth := k8m5) (c := k8c5) (by decide +kernel) rfl rfl rfl (by decide +kernel)
set_option maxRecDepth 65536 in
theorem w_c5 : (Jvm.Cond.code ({ cls := "java/lang/String", name := "length", desc := "()I" } : Jvm.MethodName) jdk_42_method_54_code (1 : Nat) (Option.some Jvm.ClassFile.FieldType.int)).before args0 about1 = true := code_word (m := ⟨8, 1⟩) (meth := k8m1) (c := k8c1) (by decide +kernel) rfl rfl rfl (by decide +kernel)
set_option maxRecDepth 65536 in
theorem w_c6 : (Jvm.Cond.code ({ cls := "java/lang/String", name := "coder", desc := "()B" } : Jvm.MethodName) jdk_42_method_152_code (1 : Nat) (Option.some Jvm.ClassFile.FieldType.byte)).before args0 about1 = true := code_word (m := ⟨8, 4⟩) (meth := k8m4) (c := k8c4) (by decide +kernel) rfl rfl rfl (by decide +kernel)
set_option maxRecDepth 65536 in
theorem w_c7 : (Jvm.Cond.code ({ cls := "java/lang/StringLatin1", name := "indexOf", desc := "([BIII)I" } : Jvm.MethodName) jdk_43_method_22_code (4 : Nat) (Option.some Jvm.ClassFile.FieldType.int)).before args0 about1 = true := code_word (m := ⟨9, 2⟩) (meth := k9m2) (c := k9c2) (by decide +kernel) rfl rfl rfl (by decide +kernel)
set_option maxRecDepth 65536 in
theorem w_c8 : (Jvm.Cond.code ({ cls := "java/lang/StringLatin1", name := "canEncode", desc := "(I)Z" } : Jvm.MethodName) jdk_43_method_4_code (1 : Nat) (Option.some Jvm.ClassFile.FieldType.boolean)).before args0 about1 = true := code_word (m := ⟨9, 1⟩) (meth := k9m1) (c := k9c1) (by decide +kernel) rfl rfl rfl (by decide +kernel)
set_option maxRecDepth 65536 in
theorem w_c9 : (Jvm.Cond.code ({ cls := "java/lang/Math", name := "max", desc := "(II)I" } : Jvm.MethodName) jdk_29_method_65_code (2 : Nat) (Option.some Jvm.ClassFile.FieldType.int)).before args0 about1 = true := code_word (m := ⟨10, 1⟩) (meth := k10m1) (c := k10c1) (by decide +kernel) rfl rfl rfl (by decide +kernel)
set_option maxRecDepth 65536 in
theorem w_c10 : (Jvm.Cond.code ({ cls := "java/lang/Math", name := "min", desc := "(II)I" } : Jvm.MethodName) jdk_29_method_69_code (2 : Nat) (Option.some Jvm.ClassFile.FieldType.int)).before args0 about1 = true := code_word (m := ⟨10, 2⟩) (meth := k10m2) (c := k10c2) (by decide +kernel) rfl rfl rfl (by decide +kernel)
set_option maxRecDepth 65536 in
theorem w_c11 : (Jvm.Cond.code ({ cls := "java/lang/StringLatin1", name := "indexOfChar", desc := "([BIII)I" } : Jvm.MethodName) jdk_43_method_23_code (6 : Nat) (Option.some Jvm.ClassFile.FieldType.int)).before args0 about1 = true := code_word (m := ⟨9, 3⟩) (meth := k9m3) (c := k9c3) (by decide +kernel) rfl rfl rfl (by decide +kernel)
set_option maxRecDepth 65536 in
theorem w_c12 : (Jvm.Cond.code ({ cls := "com/example/admission_for_endpoints/admissionforendpoints/EndpointRequestIsTokenCharPinLaw", name := "expected", desc := "(I)Z" } : Jvm.MethodName) method_3_code (1 : Nat) (Option.some Jvm.ClassFile.FieldType.boolean)).before args0 about1 = true := code_word (m := ⟨1, 2⟩) (meth := k1m2) (c := k1c2) (by decide +kernel) rfl rfl rfl (by decide +kernel)
set_option maxRecDepth 65536 in
theorem w_c13 : (Jvm.Cond.code ({ cls := "com/example/admission_for_endpoints/admissionforendpoints/EndpointRequestIsTokenCharPinLaw", name := "isDelimiter", desc := "(I)Z" } : Jvm.MethodName) method_4_code (1 : Nat) (Option.some Jvm.ClassFile.FieldType.boolean)).before args0 about1 = true := code_word (m := ⟨1, 3⟩) (meth := k1m3) (c := k1c3) (by decide +kernel) rfl rfl rfl (by decide +kernel)
def codes1 : List Jvm.Cond := [Jvm.Cond.code x code maxLocals ret, Jvm.Cond.code ({ cls := "com/example/admission_for_endpoints/admissionforendpoints/EndpointRequest", name := "isTokenChar", desc := "(I)Z" } : Jvm.MethodName) prog_3_method_13_code (1 : Nat) (Option.some Jvm.ClassFile.FieldType.boolean), Jvm.Cond.code ({ cls := "java/lang/String", name := "indexOf", desc := "(I)I" } : Jvm.MethodName) jdk_42_method_79_code (2 : Nat) (Option.some Jvm.ClassFile.FieldType.int), Jvm.Cond.code ({ cls := "java/lang/String", name := "indexOf", desc := "(II)I" } : Jvm.MethodName) jdk_42_method_80_code (3 : Nat) (Option.some Jvm.ClassFile.FieldType.int), Jvm.Cond.code ({ cls := "java/lang/String", name := "isLatin1", desc := "()Z" } : Jvm.MethodName) jdk_42_method_154_code (1 : Nat) (Option.some Jvm.ClassFile.FieldType.boolean), Jvm.Cond.code ({ cls := "java/lang/String", name := "length", desc := "()I" } : Jvm.MethodName) jdk_42_method_54_code (1 : Nat) (Option.some Jvm.ClassFile.FieldType.int), Jvm.Cond.code ({ cls := "java/lang/String", name := "coder", desc := "()B" } : Jvm.MethodName) jdk_42_method_152_code (1 : Nat) (Option.some Jvm.ClassFile.FieldType.byte), Jvm.Cond.code ({ cls := "java/lang/StringLatin1", name := "indexOf", desc := "([BIII)I" } : Jvm.MethodName) jdk_43_method_22_code (4 : Nat) (Option.some Jvm.ClassFile.FieldType.int), Jvm.Cond.code ({ cls := "java/lang/StringLatin1", name := "canEncode", desc := "(I)Z" } : Jvm.MethodName) jdk_43_method_4_code (1 : Nat) (Option.some Jvm.ClassFile.FieldType.boolean), Jvm.Cond.code ({ cls := "java/lang/Math", name := "max", desc := "(II)I" } : Jvm.MethodName) jdk_29_method_65_code (2 : Nat) (Option.some Jvm.ClassFile.FieldType.int), Jvm.Cond.code ({ cls := "java/lang/Math", name := "min", desc := "(II)I" } : Jvm.MethodName) jdk_29_method_69_code (2 : Nat) (Option.some Jvm.ClassFile.FieldType.int), Jvm.Cond.code ({ cls := "java/lang/StringLatin1", name := "indexOfChar", desc := "([BIII)I" } : Jvm.MethodName) jdk_43_method_23_code (6 : Nat) (Option.some Jvm.ClassFile.FieldType.int), Jvm.Cond.code ({ cls := "com/example/admission_for_endpoints/admissionforendpoints/EndpointRequestIsTokenCharPinLaw", name := "expected", desc := "(I)Z" } : Jvm.MethodName) method_3_code (1 : Nat) (Option.some Jvm.ClassFile.FieldType.boolean), Jvm.Cond.code ({ cls := "com/example/admission_for_endpoints/admissionforendpoints/EndpointRequestIsTokenCharPinLaw", name := "isDelimiter", desc := "(I)Z" } : Jvm.MethodName) method_4_code (1 : Nat) (Option.some Jvm.ClassFile.FieldType.boolean)]
set_option maxRecDepth 65536 in
theorem codes_eq : words1.filter isCode = codes1 := rfl
theorem w_codes : ∀ c ∈ words1.filter isCode, c.before args0 about1 = true := by
  rw [codes_eq]
  intro c hc
  simp only [codes1, List.mem_cons, List.not_mem_nil, or_false] at hc
  rcases hc with rfl | rfl | rfl | rfl | rfl | rfl | rfl | rfl | rfl | rfl | rfl | rfl | rfl | rfl
  · exact w_c0
  · exact w_c1
  · exact w_c2
  · exact w_c3
  · exact w_c4
  · exact w_c5
  · exact w_c6
  · exact w_c7
  · exact w_c8
  · exact w_c9
  · exact w_c10
  · exact w_c11
  · exact w_c12
  · exact w_c13
set_option maxRecDepth 65536 in
theorem w_t1 : (words1.take 24).all (fun c => isCode c || c.before args0 about1) = true := by decide +kernel
set_option maxRecDepth 65536 in
theorem w_t2 : ((words1.drop 24).take 24).all (fun c => isCode c || c.before args0 about1) = true := by decide +kernel
set_option maxRecDepth 65536 in
theorem w_t3 : ((words1.drop 24).drop 24).all (fun c => isCode c || c.before args0 about1) = true := by decide +kernel
theorem w_tables : (allAtoms (Jvm.Cond.code x code maxLocals ret :: tables_1)).before args0 about1 = true := by
  rw [allAtoms_all]
  show words1.all (fun c => c.before args0 about1) = true
  refine all_split ?_ w_codes
  rw [← List.take_append_drop 24 words1, List.all_append, w_t1, ← List.take_append_drop 24 (words1.drop 24), List.all_append, w_t2, w_t3]
  rfl
set_option maxRecDepth 65536 in
theorem w_rest : rest_1_c.before args0 about1 = true := by decide +kernel
set_option maxRecDepth 65536 in
theorem w_case : (Jvm.Cond.and given_1 narrow_1).before args0 about1 = true := by decide +kernel
set_option maxRecDepth 65536 in
theorem w_consts : constsHeld consts_1 about1 := Jvm.Lit.constsHeldB_iff.mp (by decide +kernel)
theorem w_applies : (headSpec (Jvm.Cond.code x code maxLocals ret :: tables_1) room_1).applies x e0.platform about1 = true :=
  (Spec.applies_iff w_frames).mpr ⟨w_running, w_runnable, w_alone, w_named, w_hears, w_ripe, w_room, w_tables⟩
theorem atStart : AtStart classFile x code maxLocals ret World_1 tables_1 room_1 Calls_1 rest_1 Pre_1 launch0 p0 e0 about1 theMethod args0 below0 :=
  ⟨lists_1, trivial, launch0.admits_env _ _ _, launch0.least_env, fairChoices_fair.cas, fairChoices_fair.clock, w_frames, w_args, w_heap, w_applies, ⟨w_consts, trivial⟩, w_rest, w_case⟩
end start1
theorem witness_1 : WitnessClaimed_1 := ⟨start1.p0, start1.e0, start1.about1, start1.theMethod, start1.args0, start1.below0, start1.atStart⟩
end Jvm.Pilot.@@N@@
