import JvmDerived
import JvmDerived.Pilot.@@N@@Statement
import JvmDerived.Pilot.@@N@@Code
set_option linter.unusedVariables false
set_option linter.unusedSimpArgs false
namespace Jvm.RoadKit
open Sem ClassFile Op Lib Jvm.Stand Jvm.Free Jvm.LawKit
section New
variable {p : Program} {l : Launch} {e : Env} {R : Room} {s : State} {m : MethodId} {args : Array Value} {below : List Frame} {meth : Method} {c : Code} {T : State} {locs : List Loc} {cells slots : Nat}
theorem retI (X : Stand p l e R s m args below meth c T locs cells slots) (hx : p.tables.exec = Jvm.exec) {pc : Nat} {Ls : Array Slot} {z : Int32} {rest : List Value} (hret : meth.sig.returnType = some .int) (hd : decode c.code pc = .ok (.ireturn, 1)) {fs : List Frame}
    (hl : ∀ (f : JFrame) (acts : List Action), f.method = m → f.locked = none → f.entered = [] → (doReturn e (T.setTop f) acts (some (.int z))).1 = T.setFrames fs) : Steps p.tables e below (T.setTop (mkF m pc Ls (.int z :: rest))) (T.setFrames fs) := by
  have hm' : T.vm.method? m = some meth := X.method'
  have hn : narrow .int (.int z) = .int z := rfl
  show Steps p.tables e below (T.setTop { method := m, pc := pc, locals := Ls, stack := _ :: rest, locked := none }) _
  jvm_step X.here [X.here.top, hx, hd, hm', hret, hn]
  first | (intro acts; rw [hl _ acts rfl rfl rfl]) | rw [hl _ _ rfl rfl rfl]
  exact Steps.refl _
end New
end Jvm.RoadKit
namespace Jvm.Pilot.@@N@@
open Jvm Jvm.ClassFile Sem Op Lib Jvm.Free Jvm.Stand Jvm.LawKit Jvm.RoadKit Bundle Jvm.Pilot.@@N@@.Jvm.D
theorem own_staK {Z : State} {h h' : Heap} {ws : List Addr} {C n d : String} {v : Value} (F : Sta Z h C n d v) (K : Keep h h' ws) (q : ∀ x ∈ ws, ∀ c : Cell, h[x]? = some c → c.vm.isStatics = false) : Sta Z h' C n d v := by
  obtain ⟨cf, i, k, f, st, cell, h1, h2, h3, h4, h5, h6, h7⟩ := F
  exact ⟨cf, i, k, f, st, cell, h1, h2, h3, h4, K.2.1 st cell h5 (fun z => by have := q st z cell h5; rw [h6] at this; cases this), h6, h7⟩
theorem own_exaN {Z : State} {h : Heap} {a : Addr} {C : String} (E : Exa Z h a C) : ∀ c : Cell, h[a]? = some c → c.vm.isStatics = false := fun c hc => by
  obtain ⟨c', k, h1, -, -, h4, -⟩ := E
  cases h1.symm.trans hc; exact h4
def ELs : List (String × Nat) := [("com/example/standbye/standbye/TextInputIsNamePinLaw", 7)]
theorem own_lit1 : (∀ c ∈ ("abcdefghijklmnopqrstuvwxyz0123456789-" : String).toList, c.toNat < 256) ∧ ("abcdefghijklmnopqrstuvwxyz0123456789-" : String).toList.map (fun c => Value.int (Jvm.Lit.byteI c.toNat.toUInt16)) = [(.int (97 : Int32)), (.int (98 : Int32)), (.int (99 : Int32)), (.int (100 : Int32)), (.int (101 : Int32)), (.int (102 : Int32)), (.int (103 : Int32)), (.int (104 : Int32)), (.int (105 : Int32)), (.int (106 : Int32)), (.int (107 : Int32)), (.int (108 : Int32)), (.int (109 : Int32)), (.int (110 : Int32)), (.int (111 : Int32)), (.int (112 : Int32)), (.int (113 : Int32)), (.int (114 : Int32)), (.int (115 : Int32)), (.int (116 : Int32)), (.int (117 : Int32)), (.int (118 : Int32)), (.int (119 : Int32)), (.int (120 : Int32)), (.int (121 : Int32)), (.int (122 : Int32)), (.int (48 : Int32)), (.int (49 : Int32)), (.int (50 : Int32)), (.int (51 : Int32)), (.int (52 : Int32)), (.int (53 : Int32)), (.int (54 : Int32)), (.int (55 : Int32)), (.int (56 : Int32)), (.int (57 : Int32)), (.int (45 : Int32))] := by decide +kernel
theorem own_EW {Z : State} {a0 : Array Value} (hw : ∀ d ∈ tables_1, d.before a0 Z = true) : EW Z a0 ELs := EW.cons (hw _ (List.mem_of_getElem? (i := 12) rfl)) own_lit1.1 EW.nil
theorem own_strW {Z : State} {a0 : Array Value} (hw : ∀ d ∈ tables_1, d.before a0 Z = true) : ∀ d ∈ Bundle.stringAtoms, d.before a0 Z = true := fun d hd => by
  simp only [Bundle.stringAtoms, List.mem_cons, List.not_mem_nil, or_false] at hd
  rcases hd with rfl | rfl | rfl | rfl | rfl | rfl | rfl
  all_goals first | exact (hw _ (List.mem_of_getElem? (i := 13) rfl)) | exact (hw _ (List.mem_of_getElem? (i := 14) rfl)) | exact (hw _ (List.mem_of_getElem? (i := 0) rfl)) | exact (hw _ (List.mem_of_getElem? (i := 15) rfl)) | exact (hw _ (List.mem_of_getElem? (i := 16) rfl)) | exact (hw _ (List.mem_of_getElem? (i := 17) rfl)) | exact (hw _ (List.mem_of_getElem? (i := 18) rfl))
def own_TAB : List Int32 := [97, 98, 99, 100, 101, 102, 103, 104, 105, 106, 107, 108, 109, 110, 111, 112, 113, 114, 115, 116, 117, 118, 119, 120, 121, 122, 48, 49, 50, 51, 52, 53, 54, 55, 56, 57, 45]
def own_tab (j : Int32) : Int32 := own_TAB.getD j.toNatClampNeg 0
theorem own_tab_at (j : Int32) : ([(.int (97 : Int32)), (.int (98 : Int32)), (.int (99 : Int32)), (.int (100 : Int32)), (.int (101 : Int32)), (.int (102 : Int32)), (.int (103 : Int32)), (.int (104 : Int32)), (.int (105 : Int32)), (.int (106 : Int32)), (.int (107 : Int32)), (.int (108 : Int32)), (.int (109 : Int32)), (.int (110 : Int32)), (.int (111 : Int32)), (.int (112 : Int32)), (.int (113 : Int32)), (.int (114 : Int32)), (.int (115 : Int32)), (.int (116 : Int32)), (.int (117 : Int32)), (.int (118 : Int32)), (.int (119 : Int32)), (.int (120 : Int32)), (.int (121 : Int32)), (.int (122 : Int32)), (.int (48 : Int32)), (.int (49 : Int32)), (.int (50 : Int32)), (.int (51 : Int32)), (.int (52 : Int32)), (.int (53 : Int32)), (.int (54 : Int32)), (.int (55 : Int32)), (.int (56 : Int32)), (.int (57 : Int32)), (.int (45 : Int32))] : List Value).getD j.toNatClampNeg (.int (0 : Int32)) = .int (own_tab j) := by
  show (own_TAB.map Value.int).getD j.toNatClampNeg (Value.int 0) = Value.int (own_TAB.getD j.toNatClampNeg 0)
  generalize j.toNatClampNeg = k
  generalize own_TAB = l
  induction l generalizing k with
  | nil => rfl
  | cons a l ih => cases k with
    | zero => rfl
    | succ k => exact ih k
theorem d5_0 : decode jdk_42_method_154_code 0 = .ok (.getstatic 38, 3) := by decide +kernel
theorem d5_3 : decode jdk_42_method_154_code 3 = .ok (.ifCond .eq 14, 3) := by decide +kernel
theorem d5_6 : decode jdk_42_method_154_code 6 = .ok (.aload_n 0, 1) := by decide +kernel
theorem d5_7 : decode jdk_42_method_154_code 7 = .ok (.getfield 15, 3) := by decide +kernel
theorem d5_10 : decode jdk_42_method_154_code 10 = .ok (.ifCond .ne 7, 3) := by decide +kernel
theorem d5_13 : decode jdk_42_method_154_code 13 = .ok (.iconst 1, 1) := by decide +kernel
theorem d5_14 : decode jdk_42_method_154_code 14 = .ok (.goto 4, 3) := by decide +kernel
theorem d5_18 : decode jdk_42_method_154_code 18 = .ok (.ireturn, 1) := by decide +kernel
theorem pn_java_lang_String : plainName "java/lang/String" = true := by first | (simp [plainName, overriddenIn]; done) | decide +kernel
theorem ef_5 (r0 : Addr) (vb : Addr) (kb : ClassId) (wc : Int32) (m : MethodId) : entryFrame m #[(.ref r0)] 1 = mkF m 0 #[.val (.ref r0)] [] := by first | (simp [entryFrame, mkF, argsToLocals, Value.category]; done) | rfl
def Q5 (Z : State) (r0 : Addr) (vb : Addr) (kb : ClassId) (wc : Int32) (h0 : Heap) (n0 : Nat) (v : Option Value) (h : Heap) (L : List Loc) : Prop := v = some (.int (1 : Int32)) ∧ Fr n0 L ∧ h = h0
set_option maxRecDepth 65536 in
set_option maxHeartbeats 40000000 in
theorem rm5 (l : Launch) (Z : State) (a0 : Array Value) (hw : ∀ d ∈ tables_1, d.before a0 Z = true) (ws : List Jvm.Cond) (r0 : Addr) (vb : Addr) (kb : ClassId) (wc : Int32) (h0 : Heap) (n0 : Nat) (Z0 : n0 ≤ h0.size) (E_r : Exa Z h0 r0 "java/lang/String") (F_c : Fld Z h0 r0 "java/lang/String" "coder" "B" (.int (0 : Int32))) (F_v : Fld Z h0 r0 "java/lang/String" "value" "[B" (.ref vb)) (V_b : Arv Z h0 vb kb .byte (37 : Int32) [(.int (97 : Int32)), (.int (98 : Int32)), (.int (99 : Int32)), (.int (100 : Int32)), (.int (101 : Int32)), (.int (102 : Int32)), (.int (103 : Int32)), (.int (104 : Int32)), (.int (105 : Int32)), (.int (106 : Int32)), (.int (107 : Int32)), (.int (108 : Int32)), (.int (109 : Int32)), (.int (110 : Int32)), (.int (111 : Int32)), (.int (112 : Int32)), (.int (113 : Int32)), (.int (114 : Int32)), (.int (115 : Int32)), (.int (116 : Int32)), (.int (117 : Int32)), (.int (118 : Int32)), (.int (119 : Int32)), (.int (120 : Int32)), (.int (121 : Int32)), (.int (122 : Int32)), (.int (48 : Int32)), (.int (49 : Int32)), (.int (50 : Int32)), (.int (51 : Int32)), (.int (52 : Int32)), (.int (53 : Int32)), (.int (54 : Int32)), (.int (55 : Int32)), (.int (56 : Int32)), (.int (57 : Int32)), (.int (45 : Int32))] (.int (0 : Int32))) (S_c : Sta Z h0 "java/lang/String" "COMPACT_STRINGS" "Z" (.int wc)) (hwc : ¬ (wc = (0 : Int32))) :
    MetFree l (⟨"java/lang/String", "isLatin1", "()Z"⟩ : MethodName) (head1 (Jvm.Cond.code (⟨"java/lang/String", "isLatin1", "()Z"⟩ : MethodName) jdk_42_method_154_code 1 (some .boolean) :: ws) ({ frames := 0, cells := 0, slots := 0, locals := 0 } : Room)) (fun a U => a = #[(.ref r0)] ∧ Z.Warmed39 U.vm ∧ U.heap = h0) (fun _ _ _ _ _ => True) (fun _ U o U' => ∃ v L, o = .returned v ∧ Q5 Z r0 vb kb wc h0 n0 v U'.heap L ∧ FrameEnd U o U' L ({ frames := 0, cells := 0, slots := 0, locals := 0 } : Room).cells ({ frames := 0, cells := 0, slots := 0, locals := 0 } : Room).slots) := by
  refine MetFree.of_bodySF (plainFor_of_name pn_java_lang_String) hisR ?_
  intro p e s m args below meth c s₁ Bd hml0 hP hK
  obtain ⟨rfl, hZ, hh⟩ := hP
  have hx := Bd.exec
  have hby := Bd.bytes
  have hml : c.maxLocals = 1 := hml0
  have hown : s.vm.findClass "java/lang/String" = some m.cls := findClass_of_methodNamed Bd.named
  have hnm := (name_of_methodNamed Bd.named Bd.method).1
  have X0 : Stand p l e ({ frames := 0, cells := 0, slots := 0, locals := 0 } : Room) s m #[(.ref r0)] below meth c s₁ [] 0 0 := Stand.of_body Bd
  have e0 : s₁.heap = h0 := by rw [← hh, Bd.state]; rfl
  have N0 := Fr.nil n0
  have pre0 : ∀ t, Steps p.tables e below (s₁.setTop (mkF m 0 #[.val (.ref r0)] [])) t → Steps p.tables e below (s₁.setTop (entryFrame m #[(.ref r0)] 1)) t := fun t k => castTop (ef_5 r0 vb kb wc m) k
  obtain ⟨T1, X1, e1, st1⟩ := getS2 X0 hx hZ hown (host := "") (Or.inl (hw _ (List.mem_of_getElem? (i := 29) rfl))) Via.refl e0 S_c (g := (mkF m 0 #[.val (.ref r0)] [])) rfl (hb hby d5_0)
  obtain ⟨T2, X2, e2, st2⟩ := getF X1 hx hZ hown (host := "") (Or.inl (hw _ (List.mem_of_getElem? (i := 30) rfl))) Via.refl e1 F_c (g := (mkF m 7 #[.val (.ref r0)] [(.ref r0)])) rfl rfl (hb hby d5_7)
  obtain ⟨fs, hr, hrun, hended, hW, hsame⟩ := X2.leave (v := some (.int (1 : Int32))) (fun h => by rw [Bd.returns] at h; cases h)
  refine ⟨_, _, pre0 _ ?_, hrun, hended, _, _, rfl, ?_, ⟨_, rfl⟩, hW, hsame.mono (by decide) (by decide)⟩
  · show Steps p.tables e below (s₁.setTop (mkF m 0 #[.val (.ref r0)] [])) _
    refine st1 _ ?_
    refine XS.ifNo X1.here hx rfl (hb hby d5_3) rfl ((if0 _ _).trans (feq hwc).1) ?_
    refine XS.aloadN X1.here hx rfl (hb hby d5_6) rfl rfl ?_
    refine st2 _ ?_
    refine XS.ifNo X2.here hx rfl (hb hby d5_10) rfl ((if0 _ _).trans (teq (by decide : (0 : Int32) = (0 : Int32))).2) ?_
    refine XS.iconst X2.here hx rfl (hb hby d5_13) ?_
    refine XS.goto X2.here hx rfl (pc0 := 14) (pc' := 18) rfl (hb hby d5_14) (by decide) (by decide) ?_
    show Steps p.tables e below (T2.setTop (mkF m 18 #[.val (.ref r0)] [(.int (1 : Int32))])) _
    exact retN X2 hx (t := .boolean) Bd.returns (by simp) (hb hby d5_18) hr
  · show Q5 Z r0 vb kb wc h0 n0 _ T2.heap _
    rw [e2]
    exact ⟨rfl, N0, rfl⟩
theorem d8_0 : decode jdk_41_method_11_code 0 = .ok (.iload_n 0, 1) := by decide +kernel
theorem d8_1 : decode jdk_41_method_11_code 1 = .ok (.ifCond .lt 8, 3) := by decide +kernel
theorem d8_4 : decode jdk_41_method_11_code 4 = .ok (.iload_n 0, 1) := by decide +kernel
theorem d8_5 : decode jdk_41_method_11_code 5 = .ok (.iload_n 1, 1) := by decide +kernel
theorem d8_6 : decode jdk_41_method_11_code 6 = .ok (.if_icmp .lt 10, 3) := by decide +kernel
theorem d8_16 : decode jdk_41_method_11_code 16 = .ok (.iload_n 0, 1) := by decide +kernel
theorem d8_17 : decode jdk_41_method_11_code 17 = .ok (.ireturn, 1) := by decide +kernel
theorem pn_jdk_internal_util_Preconditions : plainName "jdk/internal/util/Preconditions" = true := by first | (simp [plainName, overriddenIn]; done) | decide +kernel
theorem ef_8 (p0 : Int32) (p1 : Int32) (fv : Value)  (h_fv : fv.isRef = true) (m : MethodId) : entryFrame m #[(.int p0), (.int p1), fv] 3 = mkF m 0 #[.val (.int p0), .val (.int p1), .val fv] [] := by
  rcases ref_cases h_fv with rfl | ⟨_, rfl⟩ <;> first | (simp [entryFrame, mkF, argsToLocals, Value.category]; done) | rfl
def F8 (p0 : Int32) (p1 : Int32) (fv : Value) : Int32 := p0
def Q8 (Z : State) (p0 : Int32) (p1 : Int32) (fv : Value)  (h0 : Heap) (n0 : Nat) (v : Option Value) (h : Heap) (L : List Loc) : Prop := v = some (.int (F8 p0 p1 fv)) ∧ Fr n0 L ∧ h = h0
set_option maxRecDepth 65536 in
set_option maxHeartbeats 40000000 in
theorem rm8 (l : Launch) (Z : State) (a0 : Array Value) (hw : ∀ d ∈ tables_1, d.before a0 Z = true) (ws : List Jvm.Cond) (p0 : Int32) (p1 : Int32) (fv : Value)  (h0 : Heap) (n0 : Nat) (Z0 : n0 ≤ h0.size) (h_fv : fv.isRef = true) (hi1 : ¬ (p0 < (0 : Int32))) (hi2 : p0 < p1) :
    MetFree l (⟨"jdk/internal/util/Preconditions", "checkIndex", "(IILjava/util/function/BiFunction;)I"⟩ : MethodName) (head1 (Jvm.Cond.code (⟨"jdk/internal/util/Preconditions", "checkIndex", "(IILjava/util/function/BiFunction;)I"⟩ : MethodName) jdk_41_method_11_code 3 (some .int) :: ws) ({ frames := 0, cells := 0, slots := 0, locals := 0 } : Room)) (fun a U => a = #[(.int p0), (.int p1), fv] ∧ Z.Warmed39 U.vm ∧ U.heap = h0) (fun _ _ _ _ _ => True) (fun _ U o U' => ∃ v L, o = .returned v ∧ Q8 Z p0 p1 fv h0 n0 v U'.heap L ∧ FrameEnd U o U' L ({ frames := 0, cells := 0, slots := 0, locals := 0 } : Room).cells ({ frames := 0, cells := 0, slots := 0, locals := 0 } : Room).slots) := by
  refine MetFree.of_bodySF (plainFor_of_name pn_jdk_internal_util_Preconditions) hisR ?_
  intro p e s m args below meth c s₁ Bd hml0 hP hK
  obtain ⟨rfl, hZ, hh⟩ := hP
  have hx := Bd.exec
  have hby := Bd.bytes
  have hml : c.maxLocals = 3 := hml0
  have hown : s.vm.findClass "jdk/internal/util/Preconditions" = some m.cls := findClass_of_methodNamed Bd.named
  have hnm := (name_of_methodNamed Bd.named Bd.method).1
  have X0 : Stand p l e ({ frames := 0, cells := 0, slots := 0, locals := 0 } : Room) s m #[(.int p0), (.int p1), fv] below meth c s₁ [] 0 0 := Stand.of_body Bd
  have e0 : s₁.heap = h0 := by rw [← hh, Bd.state]; rfl
  have N0 := Fr.nil n0
  have pre0 : ∀ t, Steps p.tables e below (s₁.setTop (mkF m 0 #[.val (.int p0), .val (.int p1), .val fv] [])) t → Steps p.tables e below (s₁.setTop (entryFrame m #[(.int p0), (.int p1), fv] 3)) t := fun t k => castTop (ef_8 p0 p1 fv h_fv m) k
  obtain ⟨fs, hr, hrun, hended, hW, hsame⟩ := X0.leave (v := some (.int p0)) (fun h => by rw [Bd.returns] at h; cases h)
  refine ⟨_, _, pre0 _ ?_, hrun, hended, _, _, rfl, ?_, ⟨_, rfl⟩, hW, hsame.mono (by decide) (by decide)⟩
  · show Steps p.tables e below (s₁.setTop (mkF m 0 #[.val (.int p0), .val (.int p1), .val fv] [])) _
    refine XS.iloadN X0.here hx rfl (hb hby d8_0) rfl ?_
    refine XS.ifNo X0.here hx rfl (hb hby d8_1) rfl ((if0 _ _).trans (flt hi1).1) ?_
    refine XS.iloadN X0.here hx rfl (hb hby d8_4) rfl ?_
    refine XS.iloadN X0.here hx rfl (hb hby d8_5) rfl ?_
    refine XS.icmpYes X0.here hx rfl (pc0 := 6) (pc' := 16) rfl (hb hby d8_6) rfl (tlt hi2).1 (by decide) (by decide) ?_
    refine XS.iloadN X0.here hx rfl (hb hby d8_16) rfl ?_
    show Steps p.tables e below (s₁.setTop (mkF m 17 #[.val (.int p0), .val (.int p1), .val fv] [(.int p0)])) _
    exact retI X0 hx Bd.returns (hb hby d8_17) hr
  · show Q8 Z p0 p1 fv h0 n0 _ s₁.heap _
    rw [e0]
    exact ⟨rfl, N0, rfl⟩
theorem d7_0 : decode jdk_42_method_155_code 0 = .ok (.iload_n 0, 1) := by decide +kernel
theorem d7_1 : decode jdk_42_method_155_code 1 = .ok (.iload_n 1, 1) := by decide +kernel
theorem d7_2 : decode jdk_42_method_155_code 2 = .ok (.getstatic 1053, 3) := by decide +kernel
theorem d7_5 : decode jdk_42_method_155_code 5 = .ok (.invokestatic 1059, 3) := by decide +kernel
theorem d7_8 : decode jdk_42_method_155_code 8 = .ok (.pop, 1) := by decide +kernel
theorem d7_9 : decode jdk_42_method_155_code 9 = .ok (.return_, 1) := by decide +kernel
theorem pd__IILjava_util_function_BiFunction__I : parseMethodDescriptor "(IILjava/util/function/BiFunction;)I" = some ⟨[.int, .int, (.object "java/util/function/BiFunction")], some .int⟩ := by decide +kernel
theorem ef_7 (p0 : Int32) (p1 : Int32) (fv : Value) (m : MethodId) : entryFrame m #[(.int p0), (.int p1)] 2 = mkF m 0 #[.val (.int p0), .val (.int p1)] [] := by first | (simp [entryFrame, mkF, argsToLocals, Value.category]; done) | rfl
def Q7 (Z : State) (p0 : Int32) (p1 : Int32) (fv : Value) (h0 : Heap) (n0 : Nat) (v : Option Value) (h : Heap) (L : List Loc) : Prop := v = none ∧ Fr n0 L ∧ h = h0
set_option maxRecDepth 65536 in
set_option maxHeartbeats 40000000 in
theorem rm7 (l : Launch) (Z : State) (a0 : Array Value) (hw : ∀ d ∈ tables_1, d.before a0 Z = true) (ws : List Jvm.Cond) (p0 : Int32) (p1 : Int32) (fv : Value) (h0 : Heap) (n0 : Nat) (Z0 : n0 ≤ h0.size) (S_o : Sta Z h0 "jdk/internal/util/Preconditions" "SIOOBE_FORMATTER" "Ljava/util/function/BiFunction;" fv) (h_fv : fv.isRef = true) (hi1 : ¬ (p0 < (0 : Int32))) (hi2 : p0 < p1) :
    MetFree l (⟨"java/lang/String", "checkIndex", "(II)V"⟩ : MethodName) (head1 (Jvm.Cond.code (⟨"java/lang/String", "checkIndex", "(II)V"⟩ : MethodName) jdk_42_method_155_code 2 none :: ws) ({ frames := 1, cells := 0, slots := 0, locals := 14 } : Room)) (fun a U => a = #[(.int p0), (.int p1)] ∧ Z.Warmed39 U.vm ∧ U.heap = h0) (fun _ _ _ _ _ => True) (fun _ U o U' => ∃ v L, o = .returned v ∧ Q7 Z p0 p1 fv h0 n0 v U'.heap L ∧ FrameEnd U o U' L ({ frames := 1, cells := 0, slots := 0, locals := 14 } : Room).cells ({ frames := 1, cells := 0, slots := 0, locals := 14 } : Room).slots) := by
  refine MetFree.of_bodySF (plainFor_of_name pn_java_lang_String) hisR ?_
  intro p e s m args below meth c s₁ Bd hml0 hP hK
  obtain ⟨rfl, hZ, hh⟩ := hP
  have hx := Bd.exec
  have hby := Bd.bytes
  have hml : c.maxLocals = 2 := hml0
  have hown : s.vm.findClass "java/lang/String" = some m.cls := findClass_of_methodNamed Bd.named
  have hnm := (name_of_methodNamed Bd.named Bd.method).1
  have X0 : Stand p l e ({ frames := 1, cells := 0, slots := 0, locals := 14 } : Room) s m #[(.int p0), (.int p1)] below meth c s₁ [] 0 0 := Stand.of_body Bd
  have e0 : s₁.heap = h0 := by rw [← hh, Bd.state]; rfl
  have N0 := Fr.nil n0
  have pre0 : ∀ t, Steps p.tables e below (s₁.setTop (mkF m 0 #[.val (.int p0), .val (.int p1)] [])) t → Steps p.tables e below (s₁.setTop (entryFrame m #[(.int p0), (.int p1)] 2)) t := fun t k => castTop (ef_7 p0 p1 fv m) k
  obtain ⟨T1, X1, e1, st1⟩ := getS2 X0 hx hZ hown (host := "") (Or.inl (hw _ (List.mem_of_getElem? (i := 39) rfl))) Via.refl e0 S_o (g := (mkF m 2 #[.val (.int p0), .val (.int p1)] [(.int p1), (.int p0)])) rfl (hb hby d7_2)
  obtain ⟨_, _, ⟨T2, L2, k2, n2⟩, -, X2, ⟨Lc2, hQ2, ll2, ly2, lz2⟩, st2⟩ := Jvm.LawKit.callS X1 hx (y := (⟨"jdk/internal/util/Preconditions", "checkIndex", "(IILjava/util/function/BiFunction;)I"⟩ : MethodName)) hown (mvT hZ (hw _ (List.mem_of_getElem? (i := 41) rfl))) (mvT hZ (hw _ (List.mem_of_getElem? (i := 42) rfl))) (mvT hZ (hw _ (List.mem_of_getElem? (i := 40) rfl))) (mvT hZ (hw _ (List.mem_of_getElem? (i := 43) rfl))) (by decide) (backOf (W := 0) (rm8 l Z a0 hw [] p0 p1 fv h0 n0 Z0 h_fv hi1 hi2) hZ (hw _ (List.mem_of_getElem? (i := 43) rfl)) (hw _ (List.mem_of_getElem? (i := 40) rfl)) (by decide) (by decide)) (g := (mkF m 5 #[.val (.int p0), .val (.int p1)] [fv, (.int p1), (.int p0)])) rfl (by rw [hml]; rfl) (argsL := [(.int p0), (.int p1), fv]) (rest := []) (lenOf pd__IILjava_util_function_BiFunction__I rfl) rfl (by show 2 * 0 + _ ≤ _; exact Nat.le_of_eq rfl) (hb hby d7_5) (fun _ _ => ⟨rfl, e1, (by decide : 0 + 0 ≤ _), (by decide : 0 + 0 ≤ _)⟩)
  dsimp only [Pt.U, Pt.locs, Pt.cells, Pt.slots] at X2 ll2 ly2 lz2 st2 hQ2
  subst ll2 ly2 lz2
  obtain ⟨rfl, N2q, e2⟩ := hQ2
  have N2 := Fr.app N0 N2q
  obtain ⟨fs, hr, hrun, hended, hW, hsame⟩ := X2.leave (v := none) (fun _ => rfl)
  refine ⟨_, _, pre0 _ ?_, hrun, hended, _, _, rfl, ?_, ⟨_, rfl⟩, hW, hsame.mono (by decide) (by decide)⟩
  · show Steps p.tables e below (s₁.setTop (mkF m 0 #[.val (.int p0), .val (.int p1)] [])) _
    refine XS.iloadN X0.here hx rfl (hb hby d7_0) rfl ?_
    refine XS.iloadN X0.here hx rfl (hb hby d7_1) rfl ?_
    refine st1 _ ?_
    refine st2 _ ?_
    refine XS.pop X2.here hx rfl (hb hby d7_8) rfl rfl ?_
    show Steps p.tables e below (T2.setTop (mkF m 9 #[.val (.int p0), .val (.int p1)] [])) _
    exact X2.returnOut hx Bd.returns (hb hby d7_9) hr
  · show Q7 Z p0 p1 fv h0 n0 _ T2.heap _
    rw [e2]
    exact ⟨rfl, N2, rfl⟩
theorem d6_0 : decode jdk_43_method_2_code 0 = .ok (.iload_n 1, 1) := by decide +kernel
theorem d6_1 : decode jdk_43_method_2_code 1 = .ok (.aload_n 0, 1) := by decide +kernel
theorem d6_2 : decode jdk_43_method_2_code 2 = .ok (.arraylength, 1) := by decide +kernel
theorem d6_3 : decode jdk_43_method_2_code 3 = .ok (.invokestatic 9, 3) := by decide +kernel
theorem d6_6 : decode jdk_43_method_2_code 6 = .ok (.aload_n 0, 1) := by decide +kernel
theorem d6_7 : decode jdk_43_method_2_code 7 = .ok (.iload_n 1, 1) := by decide +kernel
theorem d6_8 : decode jdk_43_method_2_code 8 = .ok (.baload, 1) := by decide +kernel
theorem d6_9 : decode jdk_43_method_2_code 9 = .ok (.sipush 255, 3) := by decide +kernel
theorem d6_12 : decode jdk_43_method_2_code 12 = .ok (.iand, 1) := by decide +kernel
theorem d6_13 : decode jdk_43_method_2_code 13 = .ok (.i2c, 1) := by decide +kernel
theorem d6_14 : decode jdk_43_method_2_code 14 = .ok (.ireturn, 1) := by decide +kernel
theorem pn_java_lang_StringLatin1 : plainName "java/lang/StringLatin1" = true := by first | (simp [plainName, overriddenIn]; done) | decide +kernel
theorem pd__II_V : parseMethodDescriptor "(II)V" = some ⟨[.int, .int], none⟩ := by decide +kernel
theorem ef_6 (r0 : Addr) (p1 : Int32) (kb : ClassId) (fv : Value) (m : MethodId) : entryFrame m #[(.ref r0), (.int p1)] 2 = mkF m 0 #[.val (.ref r0), .val (.int p1)] [] := by first | (simp [entryFrame, mkF, argsToLocals, Value.category]; done) | rfl
def F6 (p1 : Int32) : Int32 := (nar .char (((own_tab p1) &&& (255 : Int32)).toUInt32.toUInt16.toUInt32.toInt32))
def Q6 (Z : State) (r0 : Addr) (p1 : Int32) (kb : ClassId) (fv : Value) (h0 : Heap) (n0 : Nat) (v : Option Value) (h : Heap) (L : List Loc) : Prop := v = some (.int (F6 p1)) ∧ Fr n0 L ∧ h = h0
set_option maxRecDepth 65536 in
set_option maxHeartbeats 40000000 in
theorem rm6 (l : Launch) (Z : State) (a0 : Array Value) (hw : ∀ d ∈ tables_1, d.before a0 Z = true) (ws : List Jvm.Cond) (r0 : Addr) (p1 : Int32) (kb : ClassId) (fv : Value) (h0 : Heap) (n0 : Nat) (Z0 : n0 ≤ h0.size) (V_b : Arv Z h0 r0 kb .byte (37 : Int32) [(.int (97 : Int32)), (.int (98 : Int32)), (.int (99 : Int32)), (.int (100 : Int32)), (.int (101 : Int32)), (.int (102 : Int32)), (.int (103 : Int32)), (.int (104 : Int32)), (.int (105 : Int32)), (.int (106 : Int32)), (.int (107 : Int32)), (.int (108 : Int32)), (.int (109 : Int32)), (.int (110 : Int32)), (.int (111 : Int32)), (.int (112 : Int32)), (.int (113 : Int32)), (.int (114 : Int32)), (.int (115 : Int32)), (.int (116 : Int32)), (.int (117 : Int32)), (.int (118 : Int32)), (.int (119 : Int32)), (.int (120 : Int32)), (.int (121 : Int32)), (.int (122 : Int32)), (.int (48 : Int32)), (.int (49 : Int32)), (.int (50 : Int32)), (.int (51 : Int32)), (.int (52 : Int32)), (.int (53 : Int32)), (.int (54 : Int32)), (.int (55 : Int32)), (.int (56 : Int32)), (.int (57 : Int32)), (.int (45 : Int32))] (.int (0 : Int32))) (S_o : Sta Z h0 "jdk/internal/util/Preconditions" "SIOOBE_FORMATTER" "Ljava/util/function/BiFunction;" fv) (h_fv : fv.isRef = true) (hi1 : ¬ (p1 < (0 : Int32))) (hi2 : p1 < (37 : Int32)) :
    MetFree l (⟨"java/lang/StringLatin1", "charAt", "([BI)C"⟩ : MethodName) (head1 (Jvm.Cond.code (⟨"java/lang/StringLatin1", "charAt", "([BI)C"⟩ : MethodName) jdk_43_method_2_code 2 (some .char) :: ws) ({ frames := 2, cells := 0, slots := 0, locals := 27 } : Room)) (fun a U => a = #[(.ref r0), (.int p1)] ∧ Z.Warmed39 U.vm ∧ U.heap = h0) (fun _ _ _ _ _ => True) (fun _ U o U' => ∃ v L, o = .returned v ∧ Q6 Z r0 p1 kb fv h0 n0 v U'.heap L ∧ FrameEnd U o U' L ({ frames := 2, cells := 0, slots := 0, locals := 27 } : Room).cells ({ frames := 2, cells := 0, slots := 0, locals := 27 } : Room).slots) := by
  refine MetFree.of_bodySF (plainFor_of_name pn_java_lang_StringLatin1) hisR ?_
  intro p e s m args below meth c s₁ Bd hml0 hP hK
  obtain ⟨rfl, hZ, hh⟩ := hP
  have hx := Bd.exec
  have hby := Bd.bytes
  have hml : c.maxLocals = 2 := hml0
  have hown : s.vm.findClass "java/lang/StringLatin1" = some m.cls := findClass_of_methodNamed Bd.named
  have hnm := (name_of_methodNamed Bd.named Bd.method).1
  have X0 : Stand p l e ({ frames := 2, cells := 0, slots := 0, locals := 27 } : Room) s m #[(.ref r0), (.int p1)] below meth c s₁ [] 0 0 := Stand.of_body Bd
  have e0 : s₁.heap = h0 := by rw [← hh, Bd.state]; rfl
  have N0 := Fr.nil n0
  have pre0 : ∀ t, Steps p.tables e below (s₁.setTop (mkF m 0 #[.val (.ref r0), .val (.int p1)] [])) t → Steps p.tables e below (s₁.setTop (entryFrame m #[(.ref r0), (.int p1)] 2)) t := fun t k => castTop (ef_6 r0 p1 kb fv m) k
  obtain ⟨cl1, Ar1, -, S1, Nl1, -, -⟩ := id V_b
  obtain ⟨_, _, ⟨T2, L2, k2, n2⟩, -, X2, ⟨Lc2, hQ2, ll2, ly2, lz2⟩, st2⟩ := Jvm.LawKit.callS X0 hx (y := (⟨"java/lang/String", "checkIndex", "(II)V"⟩ : MethodName)) hown (mvT hZ (hw _ (List.mem_of_getElem? (i := 36) rfl))) (mvT hZ (hw _ (List.mem_of_getElem? (i := 37) rfl))) (mvT hZ (hw _ (List.mem_of_getElem? (i := 13) rfl))) (mvT hZ (hw _ (List.mem_of_getElem? (i := 38) rfl))) (by decide) (backOf (W := 0) (rm7 l Z a0 hw [] p1 (37 : Int32) fv h0 n0 Z0 S_o h_fv hi1 hi2) hZ (hw _ (List.mem_of_getElem? (i := 38) rfl)) (hw _ (List.mem_of_getElem? (i := 13) rfl)) (by decide) (by decide)) (g := (mkF m 3 #[.val (.ref r0), .val (.int p1)] [(.int (37 : Int32)), (.int p1)])) rfl (by rw [hml]; rfl) (argsL := [(.int p1), (.int (37 : Int32))]) (rest := []) (lenOf pd__II_V rfl) rfl (by show 2 * 0 + _ ≤ _; exact Nat.le_of_eq rfl) (hb hby d6_3) (fun _ _ => ⟨rfl, e0, (by decide : 0 + 0 ≤ _), (by decide : 0 + 0 ≤ _)⟩)
  dsimp only [Pt.U, Pt.locs, Pt.cells, Pt.slots] at X2 ll2 ly2 lz2 st2 hQ2
  subst ll2 ly2 lz2
  obtain ⟨rfl, N2q, e2⟩ := hQ2
  have N2 := Fr.app N0 N2q
  obtain ⟨cl3, Ar3, qa3, S3, Nl3, H3, G3⟩ := id V_b
  have hin3 : ¬ (p1 < 0 ∨ cl3.slots.size ≤ (p1).toNatClampNeg) := inb_of S3 ⟨hi1, hi2⟩
  have hat3 : cl3.slots[(p1).toNatClampNeg]? = some (.int (own_tab p1)) := Has.at H3 hin3 (own_tab_at p1)
  obtain ⟨fs, hr, hrun, hended, hW, hsame⟩ := X2.leave (v := some (.int (nar .char (((own_tab p1) &&& (255 : Int32)).toUInt32.toUInt16.toUInt32.toInt32)))) (fun h => by rw [Bd.returns] at h; cases h)
  refine ⟨_, _, pre0 _ ?_, hrun, hended, _, _, rfl, ?_, ⟨_, rfl⟩, hW, hsame.mono (by decide) (by decide)⟩
  · show Steps p.tables e below (s₁.setTop (mkF m 0 #[.val (.ref r0), .val (.int p1)] [])) _
    refine XS.iloadN X0.here hx rfl (hb hby d6_0) rfl ?_
    refine XS.aloadN X0.here hx rfl (hb hby d6_1) rfl rfl ?_
    refine X0.arraylength hx (by rw [e0]; exact Ar1.1) (State.isArrayOf_alike hZ.alike Ar1.2.1) (g := (mkF m 2 #[.val (.ref r0), .val (.int p1)] [(.ref r0), (.int p1)])) rfl rfl (hb hby d6_2) _ ?_
    rw [len_of S1 Nl1]
    refine st2 _ ?_
    refine XS.aloadN X2.here hx rfl (hb hby d6_6) rfl rfl ?_
    refine XS.iloadN X2.here hx rfl (hb hby d6_7) rfl ?_
    refine X2.baloadBytes hx (j := p1) (v := (.int (own_tab p1))) (by rw [e2]; exact Ar3.1) (State.isArrayOf_alike hZ.alike Ar3.2.1) Ar3.2.2 hin3 hat3 (g := (mkF m 8 #[.val (.ref r0), .val (.int p1)] [(.int p1), (.ref r0)])) rfl rfl (hb hby d6_8) _ ?_
    refine XS.sipush X2.here hx rfl (hb hby d6_9) ?_
    show Steps p.tables e below (T2.setTop (mkF m 12 #[.val (.ref r0), .val (.int p1)] [(.int (255 : Int32)), (.int (own_tab p1))])) _
    refine XS.iand X2.here hx rfl (hb hby d6_12) rfl ?_
    refine XS.i2c X2.here hx rfl (hb hby d6_13) rfl ?_
    show Steps p.tables e below (T2.setTop (mkF m 14 #[.val (.ref r0), .val (.int p1)] [(.int (((own_tab p1) &&& (255 : Int32)).toUInt32.toUInt16.toUInt32.toInt32))])) _
    exact retN X2 hx (t := .char) Bd.returns (by simp) (hb hby d6_14) hr
  · show Q6 Z r0 p1 kb fv h0 n0 _ T2.heap _
    rw [e2]
    exact ⟨rfl, N2, rfl⟩
theorem d4_0 : decode jdk_42_method_56_code 0 = .ok (.aload_n 0, 1) := by decide +kernel
theorem d4_1 : decode jdk_42_method_56_code 1 = .ok (.invokevirtual 492, 3) := by decide +kernel
theorem d4_4 : decode jdk_42_method_56_code 4 = .ok (.ifCond .eq 12, 3) := by decide +kernel
theorem d4_7 : decode jdk_42_method_56_code 7 = .ok (.aload_n 0, 1) := by decide +kernel
theorem d4_8 : decode jdk_42_method_56_code 8 = .ok (.getfield 9, 3) := by decide +kernel
theorem d4_11 : decode jdk_42_method_56_code 11 = .ok (.iload_n 1, 1) := by decide +kernel
theorem d4_12 : decode jdk_42_method_56_code 12 = .ok (.invokestatic 495, 3) := by decide +kernel
theorem d4_15 : decode jdk_42_method_56_code 15 = .ok (.ireturn, 1) := by decide +kernel
theorem pd___Z : parseMethodDescriptor "()Z" = some ⟨[], some .boolean⟩ := by decide +kernel
theorem pd___BI_C : parseMethodDescriptor "([BI)C" = some ⟨[(.array .byte), .int], some .char⟩ := by decide +kernel
theorem ef_4 (r0 : Addr) (p1 : Int32) (vb : Addr) (kb : ClassId) (wc : Int32) (fv : Value) (m : MethodId) : entryFrame m #[(.ref r0), (.int p1)] 2 = mkF m 0 #[.val (.ref r0), .val (.int p1)] [] := by first | (simp [entryFrame, mkF, argsToLocals, Value.category]; done) | rfl
def F4 (p1 : Int32) : Int32 := (nar .char (F6 p1))
def Q4 (Z : State) (r0 : Addr) (p1 : Int32) (vb : Addr) (kb : ClassId) (wc : Int32) (fv : Value) (h0 : Heap) (n0 : Nat) (v : Option Value) (h : Heap) (L : List Loc) : Prop := v = some (.int (F4 p1)) ∧ Fr n0 L ∧ h = h0
set_option maxRecDepth 65536 in
set_option maxHeartbeats 40000000 in
theorem rm4 (l : Launch) (Z : State) (a0 : Array Value) (hw : ∀ d ∈ tables_1, d.before a0 Z = true) (ws : List Jvm.Cond) (r0 : Addr) (p1 : Int32) (vb : Addr) (kb : ClassId) (wc : Int32) (fv : Value) (h0 : Heap) (n0 : Nat) (Z0 : n0 ≤ h0.size) (E_r : Exa Z h0 r0 "java/lang/String") (F_c : Fld Z h0 r0 "java/lang/String" "coder" "B" (.int (0 : Int32))) (F_v : Fld Z h0 r0 "java/lang/String" "value" "[B" (.ref vb)) (V_b : Arv Z h0 vb kb .byte (37 : Int32) [(.int (97 : Int32)), (.int (98 : Int32)), (.int (99 : Int32)), (.int (100 : Int32)), (.int (101 : Int32)), (.int (102 : Int32)), (.int (103 : Int32)), (.int (104 : Int32)), (.int (105 : Int32)), (.int (106 : Int32)), (.int (107 : Int32)), (.int (108 : Int32)), (.int (109 : Int32)), (.int (110 : Int32)), (.int (111 : Int32)), (.int (112 : Int32)), (.int (113 : Int32)), (.int (114 : Int32)), (.int (115 : Int32)), (.int (116 : Int32)), (.int (117 : Int32)), (.int (118 : Int32)), (.int (119 : Int32)), (.int (120 : Int32)), (.int (121 : Int32)), (.int (122 : Int32)), (.int (48 : Int32)), (.int (49 : Int32)), (.int (50 : Int32)), (.int (51 : Int32)), (.int (52 : Int32)), (.int (53 : Int32)), (.int (54 : Int32)), (.int (55 : Int32)), (.int (56 : Int32)), (.int (57 : Int32)), (.int (45 : Int32))] (.int (0 : Int32))) (S_c : Sta Z h0 "java/lang/String" "COMPACT_STRINGS" "Z" (.int wc)) (hwc : ¬ (wc = (0 : Int32))) (S_o : Sta Z h0 "jdk/internal/util/Preconditions" "SIOOBE_FORMATTER" "Ljava/util/function/BiFunction;" fv) (h_fv : fv.isRef = true) (hi1 : ¬ (p1 < (0 : Int32))) (hi2 : p1 < (37 : Int32)) :
    MetFree l (⟨"java/lang/String", "charAt", "(I)C"⟩ : MethodName) (head1 (Jvm.Cond.code (⟨"java/lang/String", "charAt", "(I)C"⟩ : MethodName) jdk_42_method_56_code 2 (some .char) :: ws) ({ frames := 3, cells := 0, slots := 0, locals := 40 } : Room)) (fun a U => a = #[(.ref r0), (.int p1)] ∧ Z.Warmed39 U.vm ∧ U.heap = h0) (fun _ _ _ _ _ => True) (fun _ U o U' => ∃ v L, o = .returned v ∧ Q4 Z r0 p1 vb kb wc fv h0 n0 v U'.heap L ∧ FrameEnd U o U' L ({ frames := 3, cells := 0, slots := 0, locals := 40 } : Room).cells ({ frames := 3, cells := 0, slots := 0, locals := 40 } : Room).slots) := by
  refine MetFree.of_bodySF (plainFor_of_name pn_java_lang_String) hisR ?_
  intro p e s m args below meth c s₁ Bd hml0 hP hK
  obtain ⟨rfl, hZ, hh⟩ := hP
  have hx := Bd.exec
  have hby := Bd.bytes
  have hml : c.maxLocals = 2 := hml0
  have hown : s.vm.findClass "java/lang/String" = some m.cls := findClass_of_methodNamed Bd.named
  have hnm := (name_of_methodNamed Bd.named Bd.method).1
  have X0 : Stand p l e ({ frames := 3, cells := 0, slots := 0, locals := 40 } : Room) s m #[(.ref r0), (.int p1)] below meth c s₁ [] 0 0 := Stand.of_body Bd
  have e0 : s₁.heap = h0 := by rw [← hh, Bd.state]; rfl
  have N0 := Fr.nil n0
  have pre0 : ∀ t, Steps p.tables e below (s₁.setTop (mkF m 0 #[.val (.ref r0), .val (.int p1)] [])) t → Steps p.tables e below (s₁.setTop (entryFrame m #[(.ref r0), (.int p1)] 2)) t := fun t k => castTop (ef_4 r0 p1 vb kb wc fv m) k
  obtain ⟨cq1, kq1, q1a, q1b, q1c⟩ := isOf hZ e0 E_r
  obtain ⟨_, _, ⟨T1, L1, k1, n1⟩, -, X1, ⟨Lc1, hQ1, ll1, ly1, lz1⟩, st1⟩ := X0.virtualBack hx (y := (⟨"java/lang/String", "isLatin1", "()Z"⟩ : MethodName)) (z := (⟨"java/lang/String", "isLatin1", "()Z"⟩ : MethodName)) hown (mvT hZ (hw _ (List.mem_of_getElem? (i := 24) rfl))) (mvT hZ (hw _ (List.mem_of_getElem? (i := 25) rfl))) (notFace_of_selects (args := #[]) (mvT hZ (hw _ (List.mem_of_getElem? (i := 27) rfl)))) (mvT hZ (hw _ (List.mem_of_getElem? (i := 27) rfl))) (mvT hZ (hw _ (List.mem_of_getElem? (i := 26) rfl))) (by decide) (backOf (W := 0) (rm5 l Z a0 hw [] r0 vb kb wc h0 n0 Z0 E_r F_c F_v V_b S_c hwc) hZ (hw _ (List.mem_of_getElem? (i := 28) rfl)) (hw _ (List.mem_of_getElem? (i := 13) rfl)) (by decide) (by decide)) q1a q1c (g := (mkF m 1 #[.val (.ref r0), .val (.int p1)] [(.ref r0)])) rfl (by rw [hml]; rfl) (Steps.refl _) (argsL := []) (rest := []) (lenOf pd___Z rfl) rfl (by show 2 * 0 + _ ≤ _; exact Nat.le_of_eq rfl) (hb hby d4_1) (fun _ _ => ⟨rfl, e0, (by decide : 0 + 0 ≤ _), (by decide : 0 + 0 ≤ _)⟩)
  dsimp only [Pt.U, Pt.locs, Pt.cells, Pt.slots] at X1 ll1 ly1 lz1 st1 hQ1
  subst ll1 ly1 lz1
  obtain ⟨rfl, N1q, e1⟩ := hQ1
  have N1 := Fr.app N0 N1q
  obtain ⟨T2, X2, e2, st2⟩ := getF X1 hx hZ hown (host := "") (Or.inl (hw _ (List.mem_of_getElem? (i := 31) rfl))) Via.refl e1 F_v (g := (mkF m 8 #[.val (.ref r0), .val (.int p1)] [(.ref r0)])) rfl rfl (hb hby d4_8)
  obtain ⟨_, _, ⟨T3, L3, k3, n3⟩, -, X3, ⟨Lc3, hQ3, ll3, ly3, lz3⟩, st3⟩ := Jvm.LawKit.callS X2 hx (y := (⟨"java/lang/StringLatin1", "charAt", "([BI)C"⟩ : MethodName)) hown (mvT hZ (hw _ (List.mem_of_getElem? (i := 32) rfl))) (mvT hZ (hw _ (List.mem_of_getElem? (i := 33) rfl))) (mvT hZ (hw _ (List.mem_of_getElem? (i := 34) rfl))) (mvT hZ (hw _ (List.mem_of_getElem? (i := 35) rfl))) (by decide) (backOf (W := 0) (rm6 l Z a0 hw [] vb p1 kb fv h0 n0 Z0 V_b S_o h_fv hi1 hi2) hZ (hw _ (List.mem_of_getElem? (i := 35) rfl)) (hw _ (List.mem_of_getElem? (i := 34) rfl)) (by decide) (by decide)) (g := (mkF m 12 #[.val (.ref r0), .val (.int p1)] [(.int p1), (.ref vb)])) rfl (by rw [hml]; rfl) (argsL := [(.ref vb), (.int p1)]) (rest := []) (lenOf pd___BI_C rfl) rfl (by show 2 * 0 + _ ≤ _; exact Nat.le_of_eq rfl) (hb hby d4_12) (fun _ _ => ⟨rfl, e2, (by decide : 0 + 0 ≤ _), (by decide : 0 + 0 ≤ _)⟩)
  dsimp only [Pt.U, Pt.locs, Pt.cells, Pt.slots] at X3 ll3 ly3 lz3 st3 hQ3
  subst ll3 ly3 lz3
  obtain ⟨rfl, N3q, e3⟩ := hQ3
  have N3 := Fr.app N1 N3q
  obtain ⟨fs, hr, hrun, hended, hW, hsame⟩ := X3.leave (v := some (.int (nar .char (F6 p1)))) (fun h => by rw [Bd.returns] at h; cases h)
  refine ⟨_, _, pre0 _ ?_, hrun, hended, _, _, rfl, ?_, ⟨_, rfl⟩, hW, hsame.mono (by decide) (by decide)⟩
  · show Steps p.tables e below (s₁.setTop (mkF m 0 #[.val (.ref r0), .val (.int p1)] [])) _
    refine XS.aloadN X0.here hx rfl (hb hby d4_0) rfl rfl ?_
    refine st1.trans ?_
    refine XS.ifNo X1.here hx rfl (hb hby d4_4) rfl ((if0 _ _).trans (feq (by decide : ¬ ((1 : Int32) = (0 : Int32)))).1) ?_
    refine XS.aloadN X1.here hx rfl (hb hby d4_7) rfl rfl ?_
    refine st2 _ ?_
    refine XS.iloadN X2.here hx rfl (hb hby d4_11) rfl ?_
    refine st3 _ ?_
    show Steps p.tables e below (T3.setTop (mkF m 15 #[.val (.ref r0), .val (.int p1)] [(.int (F6 p1))])) _
    exact retN X3 hx (t := .char) Bd.returns (by simp) (hb hby d4_15) hr
  · show Q4 Z r0 p1 vb kb wc fv h0 n0 _ T3.heap _
    rw [e3]
    exact ⟨rfl, N3, rfl⟩
theorem own_ix (p0 : Int32) : ¬ ((((p0.toUInt32 >>> ((9 : Int32) &&& 31).toUInt32).toInt32) % (37 : Int32)) < (0 : Int32)) ∧ (((p0.toUInt32 >>> ((9 : Int32) &&& 31).toUInt32).toInt32) % (37 : Int32)) < (37 : Int32) := by
  have h := c_iushr p0 9 9 (by decide) (by decide)
  have g := rng32 p0
  have r := (c_irem ((p0.toUInt32 >>> ((9 : Int32) &&& 31).toUInt32).toInt32) 37 37 (by decide)).1 (by omega)
  have e0 : (0 : Int32).toInt = 0 := by decide
  have e1 : (37 : Int32).toInt = 37 := by decide
  rw [Int32.lt_iff_toInt_lt, Int32.lt_iff_toInt_lt]
  omega
theorem d1_0 : decode method_2_code 0 = .ok (.iload_n 0, 1) := by decide +kernel
theorem d1_1 : decode method_2_code 1 = .ok (.sipush 256, 3) := by decide +kernel
theorem d1_4 : decode method_2_code 4 = .ok (.iand, 1) := by decide +kernel
theorem d1_5 : decode method_2_code 5 = .ok (.ifCond .eq 17, 3) := by decide +kernel
theorem d1_8 : decode method_2_code 8 = .ok (.ldc 7, 2) := by decide +kernel
theorem d1_10 : decode method_2_code 10 = .ok (.iload_n 0, 1) := by decide +kernel
theorem d1_11 : decode method_2_code 11 = .ok (.bipush 9, 2) := by decide +kernel
theorem d1_13 : decode method_2_code 13 = .ok (.iushr, 1) := by decide +kernel
theorem d1_14 : decode method_2_code 14 = .ok (.bipush 37, 2) := by decide +kernel
theorem d1_16 : decode method_2_code 16 = .ok (.irem, 1) := by decide +kernel
theorem d1_17 : decode method_2_code 17 = .ok (.invokevirtual 9, 3) := by decide +kernel
theorem d1_20 : decode method_2_code 20 = .ok (.i2b, 1) := by decide +kernel
theorem d1_21 : decode method_2_code 21 = .ok (.ireturn, 1) := by decide +kernel
theorem d1_22 : decode method_2_code 22 = .ok (.iload_n 0, 1) := by decide +kernel
theorem d1_23 : decode method_2_code 23 = .ok (.i2b, 1) := by decide +kernel
theorem d1_24 : decode method_2_code 24 = .ok (.ireturn, 1) := by decide +kernel
theorem pn_com_example_standbye_standbye_TextInputIsNamePinLaw : plainName "com/example/standbye/standbye/TextInputIsNamePinLaw" = true := by first | (simp [plainName, overriddenIn]; done) | decide +kernel
theorem pd__I_C : parseMethodDescriptor "(I)C" = some ⟨[.int], some .char⟩ := by decide +kernel
theorem ef_1 (p0 : Int32) (wc : Int32) (fv : Value) (m : MethodId) : entryFrame m #[(.int p0)] 1 = mkF m 0 #[.val (.int p0)] [] := by first | (simp [entryFrame, mkF, argsToLocals, Value.category]; done) | rfl
def F1 (p0 : Int32) : Int32 := (if (p0 &&& (256 : Int32)) = (0 : Int32) then (nar .byte (p0.toInt8.toInt32)) else (nar .byte ((F4 (((p0.toUInt32 >>> ((9 : Int32) &&& 31).toUInt32).toInt32) % (37 : Int32))).toInt8.toInt32)))
def Q1 (Z : State) (p0 : Int32) (wc : Int32) (fv : Value) (h0 : Heap) (n0 : Nat) (v : Option Value) (h : Heap) (L : List Loc) : Prop := v = some (.int (F1 p0)) ∧ Fr n0 L ∧ Keep h0 h []
set_option maxRecDepth 65536 in
set_option maxHeartbeats 40000000 in
theorem rm1 (l : Launch) (Z : State) (a0 : Array Value) (hw : ∀ d ∈ tables_1, d.before a0 Z = true) (ws : List Jvm.Cond) (p0 : Int32) (wc : Int32) (fv : Value) (h0 : Heap) (n0 : Nat) (Z0 : n0 ≤ h0.size) (S_c : Sta Z h0 "java/lang/String" "COMPACT_STRINGS" "Z" (.int wc)) (hwc : ¬ (wc = (0 : Int32))) (S_o : Sta Z h0 "jdk/internal/util/Preconditions" "SIOOBE_FORMATTER" "Ljava/util/function/BiFunction;" fv) (h_fv : fv.isRef = true) :
    MetFree l (⟨"com/example/standbye/standbye/TextInputIsNamePinLaw", "pick", "(I)B"⟩ : MethodName) (head1 (Jvm.Cond.code (⟨"com/example/standbye/standbye/TextInputIsNamePinLaw", "pick", "(I)B"⟩ : MethodName) method_2_code 1 (some .byte) :: ws) ({ frames := 4, cells := 2, slots := 152, locals := 53 } : Room)) (fun a U => a = #[(.int p0)] ∧ Z.Warmed39 U.vm ∧ U.heap = h0 ∧ CHv Z ELs U.vm h0) (fun _ _ _ _ _ => True) (fun _ U o U' => ∃ v L, o = .returned v ∧ Q1 Z p0 wc fv h0 n0 v U'.heap L ∧ CHr Z ELs U.vm U.heap U'.vm U'.heap ∧ ReturnedEndW U o U' L ({ frames := 4, cells := 2, slots := 152, locals := 53 } : Room).cells ({ frames := 4, cells := 2, slots := 152, locals := 53 } : Room).slots) := by
  refine MetFree.of_bodySF (plainFor_of_name pn_com_example_standbye_standbye_TextInputIsNamePinLaw) hisR ?_
  intro p e s m args below meth c s₁ Bd hml0 hP hK
  obtain ⟨rfl, hZ, hh, hCH0⟩ := hP
  have hx := Bd.exec
  have hby := Bd.bytes
  have hml : c.maxLocals = 1 := hml0
  have hown : s.vm.findClass "com/example/standbye/standbye/TextInputIsNamePinLaw" = some m.cls := findClass_of_methodNamed Bd.named
  have hnm := (name_of_methodNamed Bd.named Bd.method).1
  have X0 : Stand p l e ({ frames := 4, cells := 2, slots := 152, locals := 53 } : Room) (s.setVm s.vm) m #[(.int p0)] below meth c s₁ [] 0 0 := Stand.of_body Bd
  have e0 : s₁.heap = h0 := by rw [← hh, Bd.state]; rfl
  have N0 := Fr.nil n0
  have pre0 : ∀ t, Steps p.tables e below (s₁.setTop (mkF m 0 #[.val (.int p0)] [])) t → Steps p.tables e below (s₁.setTop (entryFrame m #[(.int p0)] 1)) t := fun t k => castTop (ef_1 p0 wc fv m) k
  have hS0 : s.Since s.vm 0 := (State.WarmedH.refl s).since 0
  have hk0 : 0 ≤ h0.size := Nat.zero_le _
  have CR0 : CHr Z ELs s.vm h0 s.vm h0 := CHr.refl hCH0
  have hEL : EW Z a0 ELs := own_EW hw
  have own_wS := own_strW hw
  have pre1 : ∀ t, Steps p.tables e below (s₁.setTop (mkF m 5 #[.val (.int p0)] [(.int (p0 &&& (256 : Int32)))])) t → Steps p.tables e below (s₁.setTop (entryFrame m #[(.int p0)] 1)) t := fun t kt => pre0 t (by
    show Steps p.tables e below (s₁.setTop (mkF m 0 #[.val (.int p0)] [])) _
    refine XS.iloadN X0.here hx rfl (hb hby d1_0) rfl ?_
    refine XS.sipush X0.here hx rfl (hb hby d1_1) ?_
    refine XS.iand X0.here hx rfl (hb hby d1_4) rfl ?_
    exact kt)
  by_cases hc5 : (p0 &&& (256 : Int32)) = (0 : Int32)
  · obtain ⟨fs, hr, hrun, hended, hEnd⟩ := X0.leaveW hS0 (by rw [e0]; exact hk0) (v := some (.int (nar .byte (p0.toInt8.toInt32)))) (fun h => by rw [Bd.returns] at h; cases h)
    have CRe := CHr.trans CR0 (CHv.at X0 hZ hEL CR0.1)
    refine ⟨_, _, pre1 _ ?_, hrun, hended, _, _, rfl, ?_, ?_, hEnd.1, hEnd.2.1, hEnd.2.2.1, hEnd.2.2.2.mono (by decide) (by decide)⟩
    · show Steps p.tables e below (s₁.setTop (mkF m 5 #[.val (.int p0)] [(.int (p0 &&& (256 : Int32)))])) _
      refine XS.ifYes X0.here hx rfl (pc0 := 5) (pc' := 22) rfl (hb hby d1_5) rfl ((if0 _ _).trans (teq hc5).1) (by decide) (by decide) ?_
      refine XS.iloadN X0.here hx rfl (hb hby d1_22) rfl ?_
      refine XS.i2b X0.here hx rfl (hb hby d1_23) rfl ?_
      show Steps p.tables e below (s₁.setTop (mkF m 24 #[.val (.int p0)] [(.int (p0.toInt8.toInt32))])) _
      exact retN X0 hx (t := .byte) Bd.returns (by simp) (hb hby d1_24) hr
    · show Q1 Z p0 wc fv h0 n0 _ s₁.heap _
      rw [e0]
      exact ⟨(by unfold F1; simp only [if_pos hc5]), N0, (Keep.refl h0 [])⟩
    · show CHr Z ELs s.vm s.heap s₁.vm s₁.heap
      rw [hh, e0]; exact CRe
  · obtain ⟨a2, T2, h2, k12, b2, kc2, X2, e2, E2, hS2, hk2, hZ2, hown2, A2, Fc2, Fv2, V_b2, la2, lb2, CQ2, Li2, sf2, st2⟩ := ldcCH (vs := [(.int (97 : Int32)), (.int (98 : Int32)), (.int (99 : Int32)), (.int (100 : Int32)), (.int (101 : Int32)), (.int (102 : Int32)), (.int (103 : Int32)), (.int (104 : Int32)), (.int (105 : Int32)), (.int (106 : Int32)), (.int (107 : Int32)), (.int (108 : Int32)), (.int (109 : Int32)), (.int (110 : Int32)), (.int (111 : Int32)), (.int (112 : Int32)), (.int (113 : Int32)), (.int (114 : Int32)), (.int (115 : Int32)), (.int (116 : Int32)), (.int (117 : Int32)), (.int (118 : Int32)), (.int (119 : Int32)), (.int (120 : Int32)), (.int (121 : Int32)), (.int (122 : Int32)), (.int (48 : Int32)), (.int (49 : Int32)), (.int (50 : Int32)), (.int (51 : Int32)), (.int (52 : Int32)), (.int (53 : Int32)), (.int (54 : Int32)), (.int (55 : Int32)), (.int (56 : Int32)), (.int (57 : Int32)), (.int (45 : Int32))]) (z := (37 : Int32)) X0 hx hZ hown (hw _ (List.mem_of_getElem? (i := 12) rfl)) own_wS e0 hS0 hk0 hEL (List.mem_of_getElem? (i := 0) rfl) CR0.1 own_lit1 (by decide) (by decide) (g := (mkF m 8 #[.val (.int p0)] [])) rfl (hb hby d1_8) (n := 148) (by decide +kernel) (by decide) (by decide) (by decide)
    have CR2 := CHr.trans CR0 CQ2
    have K2 : Keep h0 h2 [] := (Keep.refl h0 []).ext E2
    obtain ⟨cq3, kq3, q3a, q3b, q3c⟩ := isOf hZ2 e2 A2
    obtain ⟨_, _, ⟨T3, L3, k3, n3⟩, -, X3, ⟨Lc3, hQ3, ll3, ly3, lz3⟩, st3⟩ := X2.virtualBack hx (y := (⟨"java/lang/String", "charAt", "(I)C"⟩ : MethodName)) (z := (⟨"java/lang/String", "charAt", "(I)C"⟩ : MethodName)) hown2 (mvT hZ2 (hw _ (List.mem_of_getElem? (i := 19) rfl))) (mvT hZ2 (hw _ (List.mem_of_getElem? (i := 20) rfl))) (notFace_of_selects (args := #[]) (mvT hZ2 (hw _ (List.mem_of_getElem? (i := 22) rfl)))) (mvT hZ2 (hw _ (List.mem_of_getElem? (i := 22) rfl))) (mvT hZ2 (hw _ (List.mem_of_getElem? (i := 21) rfl))) (by decide) (backOf (W := 0) (rm4 l Z a0 hw [] a2 (((p0.toUInt32 >>> ((9 : Int32) &&& 31).toUInt32).toInt32) % (37 : Int32)) b2 kc2 wc fv h2 n0 (Nat.le_trans Z0 E2.1) A2 Fc2 Fv2 V_b2 (Sta.ext E2 S_c) hwc (Sta.ext E2 S_o) h_fv (own_ix p0).1 (own_ix p0).2) hZ2 (hw _ (List.mem_of_getElem? (i := 23) rfl)) (hw _ (List.mem_of_getElem? (i := 13) rfl)) (by decide) (by decide)) q3a q3c (g := (mkF m 17 #[.val (.int p0)] [(.int (((p0.toUInt32 >>> ((9 : Int32) &&& 31).toUInt32).toInt32) % (37 : Int32))), (.ref a2)])) rfl (by rw [hml]; rfl) (Steps.refl _) (argsL := [(.int (((p0.toUInt32 >>> ((9 : Int32) &&& 31).toUInt32).toInt32) % (37 : Int32)))]) (rest := []) (lenOf pd__I_C rfl) rfl (by show 2 * 0 + _ ≤ _; exact Nat.le_of_eq rfl) (hb hby d1_17) (fun _ _ => ⟨rfl, e2, (by decide : 2 + 0 ≤ _), (by decide : 152 + 0 ≤ _)⟩)
    dsimp only [Pt.U, Pt.locs, Pt.cells, Pt.slots] at X3 ll3 ly3 lz3 st3 hQ3
    subst ll3 ly3 lz3
    obtain ⟨rfl, N3q, e3⟩ := hQ3
    have N3 := Fr.app N0 N3q
    obtain ⟨fs, hr, hrun, hended, hEnd⟩ := X3.leaveW hS2 (by rw [e3]; exact hk2) (v := some (.int (nar .byte ((F4 (((p0.toUInt32 >>> ((9 : Int32) &&& 31).toUInt32).toInt32) % (37 : Int32))).toInt8.toInt32)))) (fun h => by rw [Bd.returns] at h; cases h)
    have CRe := CHr.trans CR2 (CHv.at X3 hZ2 hEL CR2.1)
    refine ⟨_, _, pre1 _ ?_, hrun, hended, _, _, rfl, ?_, ?_, hEnd.1, hEnd.2.1, hEnd.2.2.1, hEnd.2.2.2.mono (by decide) (by decide)⟩
    · show Steps p.tables e below (s₁.setTop (mkF m 5 #[.val (.int p0)] [(.int (p0 &&& (256 : Int32)))])) _
      refine XS.ifNo X0.here hx rfl (hb hby d1_5) rfl ((if0 _ _).trans (feq hc5).1) ?_
      refine st2 _ ?_
      refine XS.iloadN X2.here hx rfl (hb hby d1_10) rfl ?_
      refine XS.bipush X2.here hx rfl (hb hby d1_11) ?_
      refine XS.iushr X2.here hx rfl (hb hby d1_13) rfl ?_
      refine XS.bipush X2.here hx rfl (hb hby d1_14) ?_
      refine iremM X2 hx rfl (hb hby d1_16) rfl (by decide) ?_
      refine st3.trans ?_
      show Steps p.tables e below (T3.setTop (mkF m 20 #[.val (.int p0)] [(.int (F4 (((p0.toUInt32 >>> ((9 : Int32) &&& 31).toUInt32).toInt32) % (37 : Int32))))])) _
      refine XS.i2b X3.here hx rfl (hb hby d1_20) rfl ?_
      show Steps p.tables e below (T3.setTop (mkF m 21 #[.val (.int p0)] [(.int ((F4 (((p0.toUInt32 >>> ((9 : Int32) &&& 31).toUInt32).toInt32) % (37 : Int32))).toInt8.toInt32))])) _
      exact retN X3 hx (t := .byte) Bd.returns (by simp) (hb hby d1_21) hr
    · show Q1 Z p0 wc fv h0 n0 _ T3.heap _
      rw [e3]
      exact ⟨(by unfold F1; simp only [if_neg hc5]), N3, K2⟩
    · show CHr Z ELs s.vm s.heap T3.vm T3.heap
      rw [hh, e3]; exact CRe
theorem d9_0 : decode method_3_code 0 = .ok (.iload_n 0, 1) := by decide +kernel
theorem d9_1 : decode method_3_code 1 = .ok (.sipush 255, 3) := by decide +kernel
theorem d9_4 : decode method_3_code 4 = .ok (.iand, 1) := by decide +kernel
theorem d9_5 : decode method_3_code 5 = .ok (.istore_n 1, 1) := by decide +kernel
theorem d9_6 : decode method_3_code 6 = .ok (.iload_n 1, 1) := by decide +kernel
theorem d9_7 : decode method_3_code 7 = .ok (.bipush 97, 2) := by decide +kernel
theorem d9_9 : decode method_3_code 9 = .ok (.if_icmp .lt 9, 3) := by decide +kernel
theorem d9_12 : decode method_3_code 12 = .ok (.iload_n 1, 1) := by decide +kernel
theorem d9_13 : decode method_3_code 13 = .ok (.bipush 122, 2) := by decide +kernel
theorem d9_15 : decode method_3_code 15 = .ok (.if_icmp .le 21, 3) := by decide +kernel
theorem d9_18 : decode method_3_code 18 = .ok (.iload_n 1, 1) := by decide +kernel
theorem d9_19 : decode method_3_code 19 = .ok (.bipush 48, 2) := by decide +kernel
theorem d9_21 : decode method_3_code 21 = .ok (.if_icmp .lt 9, 3) := by decide +kernel
theorem d9_24 : decode method_3_code 24 = .ok (.iload_n 1, 1) := by decide +kernel
theorem d9_25 : decode method_3_code 25 = .ok (.bipush 57, 2) := by decide +kernel
theorem d9_27 : decode method_3_code 27 = .ok (.if_icmp .le 9, 3) := by decide +kernel
theorem d9_30 : decode method_3_code 30 = .ok (.iload_n 1, 1) := by decide +kernel
theorem d9_31 : decode method_3_code 31 = .ok (.bipush 45, 2) := by decide +kernel
theorem d9_33 : decode method_3_code 33 = .ok (.if_icmp .ne 7, 3) := by decide +kernel
theorem d9_36 : decode method_3_code 36 = .ok (.iconst 1, 1) := by decide +kernel
theorem d9_37 : decode method_3_code 37 = .ok (.goto 4, 3) := by decide +kernel
theorem d9_40 : decode method_3_code 40 = .ok (.iconst 0, 1) := by decide +kernel
theorem d9_41 : decode method_3_code 41 = .ok (.ireturn, 1) := by decide +kernel
theorem ef_9 (p0 : Int32)  (m : MethodId) : entryFrame m #[(.int p0)] 2 = mkF m 0 #[.val (.int p0), .unset] [] := by first | (simp [entryFrame, mkF, argsToLocals, Value.category]; done) | rfl
def F9 (p0 : Int32) : Int32 := (if (p0 &&& (255 : Int32)) < (97 : Int32) then (if (p0 &&& (255 : Int32)) < (48 : Int32) then (if (p0 &&& (255 : Int32)) = (45 : Int32) then (1 : Int32) else (0 : Int32)) else (if (57 : Int32) < (p0 &&& (255 : Int32)) then (if (p0 &&& (255 : Int32)) = (45 : Int32) then (1 : Int32) else (0 : Int32)) else (1 : Int32))) else (if (122 : Int32) < (p0 &&& (255 : Int32)) then (if (p0 &&& (255 : Int32)) < (48 : Int32) then (if (p0 &&& (255 : Int32)) = (45 : Int32) then (1 : Int32) else (0 : Int32)) else (if (57 : Int32) < (p0 &&& (255 : Int32)) then (if (p0 &&& (255 : Int32)) = (45 : Int32) then (1 : Int32) else (0 : Int32)) else (1 : Int32))) else (1 : Int32)))
def Q9 (Z : State) (p0 : Int32)  (h0 : Heap) (n0 : Nat) (v : Option Value) (h : Heap) (L : List Loc) : Prop := v = some (.int (F9 p0)) ∧ Fr n0 L ∧ h = h0
set_option maxRecDepth 65536 in
set_option maxHeartbeats 40000000 in
theorem rm9 (l : Launch) (Z : State) (a0 : Array Value) (hw : ∀ d ∈ tables_1, d.before a0 Z = true) (ws : List Jvm.Cond) (p0 : Int32)  (h0 : Heap) (n0 : Nat) (Z0 : n0 ≤ h0.size) :
    MetFree l (⟨"com/example/standbye/standbye/TextInputIsNamePinLaw", "ok", "(B)Z"⟩ : MethodName) (head1 (Jvm.Cond.code (⟨"com/example/standbye/standbye/TextInputIsNamePinLaw", "ok", "(B)Z"⟩ : MethodName) method_3_code 2 (some .boolean) :: ws) ({ frames := 0, cells := 0, slots := 0, locals := 0 } : Room)) (fun a U => a = #[(.int p0)] ∧ Z.Warmed39 U.vm ∧ U.heap = h0) (fun _ _ _ _ _ => True) (fun _ U o U' => ∃ v L, o = .returned v ∧ Q9 Z p0 h0 n0 v U'.heap L ∧ FrameEnd U o U' L ({ frames := 0, cells := 0, slots := 0, locals := 0 } : Room).cells ({ frames := 0, cells := 0, slots := 0, locals := 0 } : Room).slots) := by
  refine MetFree.of_bodySF (plainFor_of_name pn_com_example_standbye_standbye_TextInputIsNamePinLaw) hisR ?_
  intro p e s m args below meth c s₁ Bd hml0 hP hK
  obtain ⟨rfl, hZ, hh⟩ := hP
  have hx := Bd.exec
  have hby := Bd.bytes
  have hml : c.maxLocals = 2 := hml0
  have hown : s.vm.findClass "com/example/standbye/standbye/TextInputIsNamePinLaw" = some m.cls := findClass_of_methodNamed Bd.named
  have hnm := (name_of_methodNamed Bd.named Bd.method).1
  have X0 : Stand p l e ({ frames := 0, cells := 0, slots := 0, locals := 0 } : Room) s m #[(.int p0)] below meth c s₁ [] 0 0 := Stand.of_body Bd
  have e0 : s₁.heap = h0 := by rw [← hh, Bd.state]; rfl
  have N0 := Fr.nil n0
  have pre0 : ∀ t, Steps p.tables e below (s₁.setTop (mkF m 0 #[.val (.int p0), .unset] [])) t → Steps p.tables e below (s₁.setTop (entryFrame m #[(.int p0)] 2)) t := fun t k => castTop (ef_9 p0 m) k
  have pre1 : ∀ t, Steps p.tables e below (s₁.setTop (mkF m 9 #[.val (.int p0), .val (.int (p0 &&& (255 : Int32)))] [(.int (97 : Int32)), (.int (p0 &&& (255 : Int32)))])) t → Steps p.tables e below (s₁.setTop (entryFrame m #[(.int p0)] 2)) t := fun t kt => pre0 t (by
    show Steps p.tables e below (s₁.setTop (mkF m 0 #[.val (.int p0), .unset] [])) _
    refine XS.iloadN X0.here hx rfl (hb hby d9_0) rfl ?_
    refine XS.sipush X0.here hx rfl (hb hby d9_1) ?_
    refine XS.iand X0.here hx rfl (hb hby d9_4) rfl ?_
    refine XS.istoreN X0.here hx rfl (hb hby d9_5) rfl (l' := #[.val (.int p0), .val (.int (p0 &&& (255 : Int32)))]) rfl ?_
    refine XS.iloadN X0.here hx rfl (hb hby d9_6) rfl ?_
    refine XS.bipush X0.here hx rfl (hb hby d9_7) ?_
    exact kt)
  by_cases hc9 : (p0 &&& (255 : Int32)) < (97 : Int32)
  · have pre2 : ∀ t, Steps p.tables e below (s₁.setTop (mkF m 21 #[.val (.int p0), .val (.int (p0 &&& (255 : Int32)))] [(.int (48 : Int32)), (.int (p0 &&& (255 : Int32)))])) t → Steps p.tables e below (s₁.setTop (entryFrame m #[(.int p0)] 2)) t := fun t kt => pre1 t (by
      show Steps p.tables e below (s₁.setTop (mkF m 9 #[.val (.int p0), .val (.int (p0 &&& (255 : Int32)))] [(.int (97 : Int32)), (.int (p0 &&& (255 : Int32)))])) _
      refine XS.icmpYes X0.here hx rfl (pc0 := 9) (pc' := 18) rfl (hb hby d9_9) rfl (tlt hc9).1 (by decide) (by decide) ?_
      refine XS.iloadN X0.here hx rfl (hb hby d9_18) rfl ?_
      refine XS.bipush X0.here hx rfl (hb hby d9_19) ?_
      exact kt)
    by_cases hc21 : (p0 &&& (255 : Int32)) < (48 : Int32)
    · have pre3 : ∀ t, Steps p.tables e below (s₁.setTop (mkF m 33 #[.val (.int p0), .val (.int (p0 &&& (255 : Int32)))] [(.int (45 : Int32)), (.int (p0 &&& (255 : Int32)))])) t → Steps p.tables e below (s₁.setTop (entryFrame m #[(.int p0)] 2)) t := fun t kt => pre2 t (by
        show Steps p.tables e below (s₁.setTop (mkF m 21 #[.val (.int p0), .val (.int (p0 &&& (255 : Int32)))] [(.int (48 : Int32)), (.int (p0 &&& (255 : Int32)))])) _
        refine XS.icmpYes X0.here hx rfl (pc0 := 21) (pc' := 30) rfl (hb hby d9_21) rfl (tlt hc21).1 (by decide) (by decide) ?_
        refine XS.iloadN X0.here hx rfl (hb hby d9_30) rfl ?_
        refine XS.bipush X0.here hx rfl (hb hby d9_31) ?_
        exact kt)
      by_cases hc33 : (p0 &&& (255 : Int32)) = (45 : Int32)
      · obtain ⟨fs, hr, hrun, hended, hW, hsame⟩ := X0.leave (v := some (.int (1 : Int32))) (fun h => by rw [Bd.returns] at h; cases h)
        refine ⟨_, _, pre3 _ ?_, hrun, hended, _, _, rfl, ?_, ⟨_, rfl⟩, hW, hsame.mono (by decide) (by decide)⟩
        · show Steps p.tables e below (s₁.setTop (mkF m 33 #[.val (.int p0), .val (.int (p0 &&& (255 : Int32)))] [(.int (45 : Int32)), (.int (p0 &&& (255 : Int32)))])) _
          refine XS.icmpNo X0.here hx rfl (hb hby d9_33) rfl (teq hc33).2 ?_
          refine XS.iconst X0.here hx rfl (hb hby d9_36) ?_
          refine XS.goto X0.here hx rfl (pc0 := 37) (pc' := 41) rfl (hb hby d9_37) (by decide) (by decide) ?_
          show Steps p.tables e below (s₁.setTop (mkF m 41 #[.val (.int p0), .val (.int (p0 &&& (255 : Int32)))] [(.int (1 : Int32))])) _
          exact retN X0 hx (t := .boolean) Bd.returns (by simp) (hb hby d9_41) hr
        · show Q9 Z p0 h0 n0 _ s₁.heap _
          rw [e0]
          exact ⟨(by unfold F9; simp only [if_pos hc9, if_pos hc21, if_pos hc33]), N0, rfl⟩
      · obtain ⟨fs, hr, hrun, hended, hW, hsame⟩ := X0.leave (v := some (.int (0 : Int32))) (fun h => by rw [Bd.returns] at h; cases h)
        refine ⟨_, _, pre3 _ ?_, hrun, hended, _, _, rfl, ?_, ⟨_, rfl⟩, hW, hsame.mono (by decide) (by decide)⟩
        · show Steps p.tables e below (s₁.setTop (mkF m 33 #[.val (.int p0), .val (.int (p0 &&& (255 : Int32)))] [(.int (45 : Int32)), (.int (p0 &&& (255 : Int32)))])) _
          refine XS.icmpYes X0.here hx rfl (pc0 := 33) (pc' := 40) rfl (hb hby d9_33) rfl (feq hc33).2 (by decide) (by decide) ?_
          refine XS.iconst X0.here hx rfl (hb hby d9_40) ?_
          show Steps p.tables e below (s₁.setTop (mkF m 41 #[.val (.int p0), .val (.int (p0 &&& (255 : Int32)))] [(.int (0 : Int32))])) _
          exact retN X0 hx (t := .boolean) Bd.returns (by simp) (hb hby d9_41) hr
        · show Q9 Z p0 h0 n0 _ s₁.heap _
          rw [e0]
          exact ⟨(by unfold F9; simp only [if_pos hc9, if_pos hc21, if_neg hc33]), N0, rfl⟩
    · have pre4 : ∀ t, Steps p.tables e below (s₁.setTop (mkF m 27 #[.val (.int p0), .val (.int (p0 &&& (255 : Int32)))] [(.int (57 : Int32)), (.int (p0 &&& (255 : Int32)))])) t → Steps p.tables e below (s₁.setTop (entryFrame m #[(.int p0)] 2)) t := fun t kt => pre2 t (by
        show Steps p.tables e below (s₁.setTop (mkF m 21 #[.val (.int p0), .val (.int (p0 &&& (255 : Int32)))] [(.int (48 : Int32)), (.int (p0 &&& (255 : Int32)))])) _
        refine XS.icmpNo X0.here hx rfl (hb hby d9_21) rfl (flt hc21).1 ?_
        refine XS.iloadN X0.here hx rfl (hb hby d9_24) rfl ?_
        refine XS.bipush X0.here hx rfl (hb hby d9_25) ?_
        exact kt)
      by_cases hc27 : (57 : Int32) < (p0 &&& (255 : Int32))
      · have pre5 : ∀ t, Steps p.tables e below (s₁.setTop (mkF m 33 #[.val (.int p0), .val (.int (p0 &&& (255 : Int32)))] [(.int (45 : Int32)), (.int (p0 &&& (255 : Int32)))])) t → Steps p.tables e below (s₁.setTop (entryFrame m #[(.int p0)] 2)) t := fun t kt => pre4 t (by
          show Steps p.tables e below (s₁.setTop (mkF m 27 #[.val (.int p0), .val (.int (p0 &&& (255 : Int32)))] [(.int (57 : Int32)), (.int (p0 &&& (255 : Int32)))])) _
          refine XS.icmpNo X0.here hx rfl (hb hby d9_27) rfl (tlt hc27).2.2.2 ?_
          refine XS.iloadN X0.here hx rfl (hb hby d9_30) rfl ?_
          refine XS.bipush X0.here hx rfl (hb hby d9_31) ?_
          exact kt)
        by_cases hc33 : (p0 &&& (255 : Int32)) = (45 : Int32)
        · obtain ⟨fs, hr, hrun, hended, hW, hsame⟩ := X0.leave (v := some (.int (1 : Int32))) (fun h => by rw [Bd.returns] at h; cases h)
          refine ⟨_, _, pre5 _ ?_, hrun, hended, _, _, rfl, ?_, ⟨_, rfl⟩, hW, hsame.mono (by decide) (by decide)⟩
          · show Steps p.tables e below (s₁.setTop (mkF m 33 #[.val (.int p0), .val (.int (p0 &&& (255 : Int32)))] [(.int (45 : Int32)), (.int (p0 &&& (255 : Int32)))])) _
            refine XS.icmpNo X0.here hx rfl (hb hby d9_33) rfl (teq hc33).2 ?_
            refine XS.iconst X0.here hx rfl (hb hby d9_36) ?_
            refine XS.goto X0.here hx rfl (pc0 := 37) (pc' := 41) rfl (hb hby d9_37) (by decide) (by decide) ?_
            show Steps p.tables e below (s₁.setTop (mkF m 41 #[.val (.int p0), .val (.int (p0 &&& (255 : Int32)))] [(.int (1 : Int32))])) _
            exact retN X0 hx (t := .boolean) Bd.returns (by simp) (hb hby d9_41) hr
          · show Q9 Z p0 h0 n0 _ s₁.heap _
            rw [e0]
            exact ⟨(by unfold F9; simp only [if_pos hc9, if_neg hc21, if_pos hc27, if_pos hc33]), N0, rfl⟩
        · obtain ⟨fs, hr, hrun, hended, hW, hsame⟩ := X0.leave (v := some (.int (0 : Int32))) (fun h => by rw [Bd.returns] at h; cases h)
          refine ⟨_, _, pre5 _ ?_, hrun, hended, _, _, rfl, ?_, ⟨_, rfl⟩, hW, hsame.mono (by decide) (by decide)⟩
          · show Steps p.tables e below (s₁.setTop (mkF m 33 #[.val (.int p0), .val (.int (p0 &&& (255 : Int32)))] [(.int (45 : Int32)), (.int (p0 &&& (255 : Int32)))])) _
            refine XS.icmpYes X0.here hx rfl (pc0 := 33) (pc' := 40) rfl (hb hby d9_33) rfl (feq hc33).2 (by decide) (by decide) ?_
            refine XS.iconst X0.here hx rfl (hb hby d9_40) ?_
            show Steps p.tables e below (s₁.setTop (mkF m 41 #[.val (.int p0), .val (.int (p0 &&& (255 : Int32)))] [(.int (0 : Int32))])) _
            exact retN X0 hx (t := .boolean) Bd.returns (by simp) (hb hby d9_41) hr
          · show Q9 Z p0 h0 n0 _ s₁.heap _
            rw [e0]
            exact ⟨(by unfold F9; simp only [if_pos hc9, if_neg hc21, if_pos hc27, if_neg hc33]), N0, rfl⟩
      · obtain ⟨fs, hr, hrun, hended, hW, hsame⟩ := X0.leave (v := some (.int (1 : Int32))) (fun h => by rw [Bd.returns] at h; cases h)
        refine ⟨_, _, pre4 _ ?_, hrun, hended, _, _, rfl, ?_, ⟨_, rfl⟩, hW, hsame.mono (by decide) (by decide)⟩
        · show Steps p.tables e below (s₁.setTop (mkF m 27 #[.val (.int p0), .val (.int (p0 &&& (255 : Int32)))] [(.int (57 : Int32)), (.int (p0 &&& (255 : Int32)))])) _
          refine XS.icmpYes X0.here hx rfl (pc0 := 27) (pc' := 36) rfl (hb hby d9_27) rfl (flt hc27).2.2.2 (by decide) (by decide) ?_
          refine XS.iconst X0.here hx rfl (hb hby d9_36) ?_
          refine XS.goto X0.here hx rfl (pc0 := 37) (pc' := 41) rfl (hb hby d9_37) (by decide) (by decide) ?_
          show Steps p.tables e below (s₁.setTop (mkF m 41 #[.val (.int p0), .val (.int (p0 &&& (255 : Int32)))] [(.int (1 : Int32))])) _
          exact retN X0 hx (t := .boolean) Bd.returns (by simp) (hb hby d9_41) hr
        · show Q9 Z p0 h0 n0 _ s₁.heap _
          rw [e0]
          exact ⟨(by unfold F9; simp only [if_pos hc9, if_neg hc21, if_neg hc27]), N0, rfl⟩
  · have pre6 : ∀ t, Steps p.tables e below (s₁.setTop (mkF m 15 #[.val (.int p0), .val (.int (p0 &&& (255 : Int32)))] [(.int (122 : Int32)), (.int (p0 &&& (255 : Int32)))])) t → Steps p.tables e below (s₁.setTop (entryFrame m #[(.int p0)] 2)) t := fun t kt => pre1 t (by
      show Steps p.tables e below (s₁.setTop (mkF m 9 #[.val (.int p0), .val (.int (p0 &&& (255 : Int32)))] [(.int (97 : Int32)), (.int (p0 &&& (255 : Int32)))])) _
      refine XS.icmpNo X0.here hx rfl (hb hby d9_9) rfl (flt hc9).1 ?_
      refine XS.iloadN X0.here hx rfl (hb hby d9_12) rfl ?_
      refine XS.bipush X0.here hx rfl (hb hby d9_13) ?_
      exact kt)
    by_cases hc15 : (122 : Int32) < (p0 &&& (255 : Int32))
    · have pre7 : ∀ t, Steps p.tables e below (s₁.setTop (mkF m 21 #[.val (.int p0), .val (.int (p0 &&& (255 : Int32)))] [(.int (48 : Int32)), (.int (p0 &&& (255 : Int32)))])) t → Steps p.tables e below (s₁.setTop (entryFrame m #[(.int p0)] 2)) t := fun t kt => pre6 t (by
        show Steps p.tables e below (s₁.setTop (mkF m 15 #[.val (.int p0), .val (.int (p0 &&& (255 : Int32)))] [(.int (122 : Int32)), (.int (p0 &&& (255 : Int32)))])) _
        refine XS.icmpNo X0.here hx rfl (hb hby d9_15) rfl (tlt hc15).2.2.2 ?_
        refine XS.iloadN X0.here hx rfl (hb hby d9_18) rfl ?_
        refine XS.bipush X0.here hx rfl (hb hby d9_19) ?_
        exact kt)
      by_cases hc21 : (p0 &&& (255 : Int32)) < (48 : Int32)
      · have pre8 : ∀ t, Steps p.tables e below (s₁.setTop (mkF m 33 #[.val (.int p0), .val (.int (p0 &&& (255 : Int32)))] [(.int (45 : Int32)), (.int (p0 &&& (255 : Int32)))])) t → Steps p.tables e below (s₁.setTop (entryFrame m #[(.int p0)] 2)) t := fun t kt => pre7 t (by
          show Steps p.tables e below (s₁.setTop (mkF m 21 #[.val (.int p0), .val (.int (p0 &&& (255 : Int32)))] [(.int (48 : Int32)), (.int (p0 &&& (255 : Int32)))])) _
          refine XS.icmpYes X0.here hx rfl (pc0 := 21) (pc' := 30) rfl (hb hby d9_21) rfl (tlt hc21).1 (by decide) (by decide) ?_
          refine XS.iloadN X0.here hx rfl (hb hby d9_30) rfl ?_
          refine XS.bipush X0.here hx rfl (hb hby d9_31) ?_
          exact kt)
        by_cases hc33 : (p0 &&& (255 : Int32)) = (45 : Int32)
        · obtain ⟨fs, hr, hrun, hended, hW, hsame⟩ := X0.leave (v := some (.int (1 : Int32))) (fun h => by rw [Bd.returns] at h; cases h)
          refine ⟨_, _, pre8 _ ?_, hrun, hended, _, _, rfl, ?_, ⟨_, rfl⟩, hW, hsame.mono (by decide) (by decide)⟩
          · show Steps p.tables e below (s₁.setTop (mkF m 33 #[.val (.int p0), .val (.int (p0 &&& (255 : Int32)))] [(.int (45 : Int32)), (.int (p0 &&& (255 : Int32)))])) _
            refine XS.icmpNo X0.here hx rfl (hb hby d9_33) rfl (teq hc33).2 ?_
            refine XS.iconst X0.here hx rfl (hb hby d9_36) ?_
            refine XS.goto X0.here hx rfl (pc0 := 37) (pc' := 41) rfl (hb hby d9_37) (by decide) (by decide) ?_
            show Steps p.tables e below (s₁.setTop (mkF m 41 #[.val (.int p0), .val (.int (p0 &&& (255 : Int32)))] [(.int (1 : Int32))])) _
            exact retN X0 hx (t := .boolean) Bd.returns (by simp) (hb hby d9_41) hr
          · show Q9 Z p0 h0 n0 _ s₁.heap _
            rw [e0]
            exact ⟨(by unfold F9; simp only [if_neg hc9, if_pos hc15, if_pos hc21, if_pos hc33]), N0, rfl⟩
        · obtain ⟨fs, hr, hrun, hended, hW, hsame⟩ := X0.leave (v := some (.int (0 : Int32))) (fun h => by rw [Bd.returns] at h; cases h)
          refine ⟨_, _, pre8 _ ?_, hrun, hended, _, _, rfl, ?_, ⟨_, rfl⟩, hW, hsame.mono (by decide) (by decide)⟩
          · show Steps p.tables e below (s₁.setTop (mkF m 33 #[.val (.int p0), .val (.int (p0 &&& (255 : Int32)))] [(.int (45 : Int32)), (.int (p0 &&& (255 : Int32)))])) _
            refine XS.icmpYes X0.here hx rfl (pc0 := 33) (pc' := 40) rfl (hb hby d9_33) rfl (feq hc33).2 (by decide) (by decide) ?_
            refine XS.iconst X0.here hx rfl (hb hby d9_40) ?_
            show Steps p.tables e below (s₁.setTop (mkF m 41 #[.val (.int p0), .val (.int (p0 &&& (255 : Int32)))] [(.int (0 : Int32))])) _
            exact retN X0 hx (t := .boolean) Bd.returns (by simp) (hb hby d9_41) hr
          · show Q9 Z p0 h0 n0 _ s₁.heap _
            rw [e0]
            exact ⟨(by unfold F9; simp only [if_neg hc9, if_pos hc15, if_pos hc21, if_neg hc33]), N0, rfl⟩
      · have pre9 : ∀ t, Steps p.tables e below (s₁.setTop (mkF m 27 #[.val (.int p0), .val (.int (p0 &&& (255 : Int32)))] [(.int (57 : Int32)), (.int (p0 &&& (255 : Int32)))])) t → Steps p.tables e below (s₁.setTop (entryFrame m #[(.int p0)] 2)) t := fun t kt => pre7 t (by
          show Steps p.tables e below (s₁.setTop (mkF m 21 #[.val (.int p0), .val (.int (p0 &&& (255 : Int32)))] [(.int (48 : Int32)), (.int (p0 &&& (255 : Int32)))])) _
          refine XS.icmpNo X0.here hx rfl (hb hby d9_21) rfl (flt hc21).1 ?_
          refine XS.iloadN X0.here hx rfl (hb hby d9_24) rfl ?_
          refine XS.bipush X0.here hx rfl (hb hby d9_25) ?_
          exact kt)
        by_cases hc27 : (57 : Int32) < (p0 &&& (255 : Int32))
        · have pre10 : ∀ t, Steps p.tables e below (s₁.setTop (mkF m 33 #[.val (.int p0), .val (.int (p0 &&& (255 : Int32)))] [(.int (45 : Int32)), (.int (p0 &&& (255 : Int32)))])) t → Steps p.tables e below (s₁.setTop (entryFrame m #[(.int p0)] 2)) t := fun t kt => pre9 t (by
            show Steps p.tables e below (s₁.setTop (mkF m 27 #[.val (.int p0), .val (.int (p0 &&& (255 : Int32)))] [(.int (57 : Int32)), (.int (p0 &&& (255 : Int32)))])) _
            refine XS.icmpNo X0.here hx rfl (hb hby d9_27) rfl (tlt hc27).2.2.2 ?_
            refine XS.iloadN X0.here hx rfl (hb hby d9_30) rfl ?_
            refine XS.bipush X0.here hx rfl (hb hby d9_31) ?_
            exact kt)
          by_cases hc33 : (p0 &&& (255 : Int32)) = (45 : Int32)
          · obtain ⟨fs, hr, hrun, hended, hW, hsame⟩ := X0.leave (v := some (.int (1 : Int32))) (fun h => by rw [Bd.returns] at h; cases h)
            refine ⟨_, _, pre10 _ ?_, hrun, hended, _, _, rfl, ?_, ⟨_, rfl⟩, hW, hsame.mono (by decide) (by decide)⟩
            · show Steps p.tables e below (s₁.setTop (mkF m 33 #[.val (.int p0), .val (.int (p0 &&& (255 : Int32)))] [(.int (45 : Int32)), (.int (p0 &&& (255 : Int32)))])) _
              refine XS.icmpNo X0.here hx rfl (hb hby d9_33) rfl (teq hc33).2 ?_
              refine XS.iconst X0.here hx rfl (hb hby d9_36) ?_
              refine XS.goto X0.here hx rfl (pc0 := 37) (pc' := 41) rfl (hb hby d9_37) (by decide) (by decide) ?_
              show Steps p.tables e below (s₁.setTop (mkF m 41 #[.val (.int p0), .val (.int (p0 &&& (255 : Int32)))] [(.int (1 : Int32))])) _
              exact retN X0 hx (t := .boolean) Bd.returns (by simp) (hb hby d9_41) hr
            · show Q9 Z p0 h0 n0 _ s₁.heap _
              rw [e0]
              exact ⟨(by unfold F9; simp only [if_neg hc9, if_pos hc15, if_neg hc21, if_pos hc27, if_pos hc33]), N0, rfl⟩
          · obtain ⟨fs, hr, hrun, hended, hW, hsame⟩ := X0.leave (v := some (.int (0 : Int32))) (fun h => by rw [Bd.returns] at h; cases h)
            refine ⟨_, _, pre10 _ ?_, hrun, hended, _, _, rfl, ?_, ⟨_, rfl⟩, hW, hsame.mono (by decide) (by decide)⟩
            · show Steps p.tables e below (s₁.setTop (mkF m 33 #[.val (.int p0), .val (.int (p0 &&& (255 : Int32)))] [(.int (45 : Int32)), (.int (p0 &&& (255 : Int32)))])) _
              refine XS.icmpYes X0.here hx rfl (pc0 := 33) (pc' := 40) rfl (hb hby d9_33) rfl (feq hc33).2 (by decide) (by decide) ?_
              refine XS.iconst X0.here hx rfl (hb hby d9_40) ?_
              show Steps p.tables e below (s₁.setTop (mkF m 41 #[.val (.int p0), .val (.int (p0 &&& (255 : Int32)))] [(.int (0 : Int32))])) _
              exact retN X0 hx (t := .boolean) Bd.returns (by simp) (hb hby d9_41) hr
            · show Q9 Z p0 h0 n0 _ s₁.heap _
              rw [e0]
              exact ⟨(by unfold F9; simp only [if_neg hc9, if_pos hc15, if_neg hc21, if_pos hc27, if_neg hc33]), N0, rfl⟩
        · obtain ⟨fs, hr, hrun, hended, hW, hsame⟩ := X0.leave (v := some (.int (1 : Int32))) (fun h => by rw [Bd.returns] at h; cases h)
          refine ⟨_, _, pre9 _ ?_, hrun, hended, _, _, rfl, ?_, ⟨_, rfl⟩, hW, hsame.mono (by decide) (by decide)⟩
          · show Steps p.tables e below (s₁.setTop (mkF m 27 #[.val (.int p0), .val (.int (p0 &&& (255 : Int32)))] [(.int (57 : Int32)), (.int (p0 &&& (255 : Int32)))])) _
            refine XS.icmpYes X0.here hx rfl (pc0 := 27) (pc' := 36) rfl (hb hby d9_27) rfl (flt hc27).2.2.2 (by decide) (by decide) ?_
            refine XS.iconst X0.here hx rfl (hb hby d9_36) ?_
            refine XS.goto X0.here hx rfl (pc0 := 37) (pc' := 41) rfl (hb hby d9_37) (by decide) (by decide) ?_
            show Steps p.tables e below (s₁.setTop (mkF m 41 #[.val (.int p0), .val (.int (p0 &&& (255 : Int32)))] [(.int (1 : Int32))])) _
            exact retN X0 hx (t := .boolean) Bd.returns (by simp) (hb hby d9_41) hr
          · show Q9 Z p0 h0 n0 _ s₁.heap _
            rw [e0]
            exact ⟨(by unfold F9; simp only [if_neg hc9, if_pos hc15, if_neg hc21, if_neg hc27]), N0, rfl⟩
    · obtain ⟨fs, hr, hrun, hended, hW, hsame⟩ := X0.leave (v := some (.int (1 : Int32))) (fun h => by rw [Bd.returns] at h; cases h)
      refine ⟨_, _, pre6 _ ?_, hrun, hended, _, _, rfl, ?_, ⟨_, rfl⟩, hW, hsame.mono (by decide) (by decide)⟩
      · show Steps p.tables e below (s₁.setTop (mkF m 15 #[.val (.int p0), .val (.int (p0 &&& (255 : Int32)))] [(.int (122 : Int32)), (.int (p0 &&& (255 : Int32)))])) _
        refine XS.icmpYes X0.here hx rfl (pc0 := 15) (pc' := 36) rfl (hb hby d9_15) rfl (flt hc15).2.2.2 (by decide) (by decide) ?_
        refine XS.iconst X0.here hx rfl (hb hby d9_36) ?_
        refine XS.goto X0.here hx rfl (pc0 := 37) (pc' := 41) rfl (hb hby d9_37) (by decide) (by decide) ?_
        show Steps p.tables e below (s₁.setTop (mkF m 41 #[.val (.int p0), .val (.int (p0 &&& (255 : Int32)))] [(.int (1 : Int32))])) _
        exact retN X0 hx (t := .boolean) Bd.returns (by simp) (hb hby d9_41) hr
      · show Q9 Z p0 h0 n0 _ s₁.heap _
        rw [e0]
        exact ⟨(by unfold F9; simp only [if_neg hc9, if_neg hc15]), N0, rfl⟩
theorem d2_0 : decode method_4_code 0 = .ok (.iload_n 1, 1) := by decide +kernel
theorem d2_1 : decode method_4_code 1 = .ok (.iload_n 0, 1) := by decide +kernel
theorem d2_2 : decode method_4_code 2 = .ok (.if_icmp .gt 12, 3) := by decide +kernel
theorem d2_5 : decode method_4_code 5 = .ok (.iload_n 0, 1) := by decide +kernel
theorem d2_6 : decode method_4_code 6 = .ok (.iload_n 2, 1) := by decide +kernel
theorem d2_7 : decode method_4_code 7 = .ok (.if_icmp .ge 7, 3) := by decide +kernel
theorem d2_10 : decode method_4_code 10 = .ok (.iconst 1, 1) := by decide +kernel
theorem d2_11 : decode method_4_code 11 = .ok (.goto 4, 3) := by decide +kernel
theorem d2_14 : decode method_4_code 14 = .ok (.iconst 0, 1) := by decide +kernel
theorem d2_15 : decode method_4_code 15 = .ok (.istore 4, 2) := by decide +kernel
theorem d2_17 : decode method_4_code 17 = .ok (.iload 4, 2) := by decide +kernel
theorem d2_19 : decode method_4_code 19 = .ok (.ifCond .eq 10, 3) := by decide +kernel
theorem d2_22 : decode method_4_code 22 = .ok (.iload_n 3, 1) := by decide +kernel
theorem d2_23 : decode method_4_code 23 = .ok (.invokestatic 15, 3) := by decide +kernel
theorem d2_26 : decode method_4_code 26 = .ok (.ifCond .eq 7, 3) := by decide +kernel
theorem d2_29 : decode method_4_code 29 = .ok (.iconst 1, 1) := by decide +kernel
theorem d2_30 : decode method_4_code 30 = .ok (.goto 4, 3) := by decide +kernel
theorem d2_33 : decode method_4_code 33 = .ok (.iconst 0, 1) := by decide +kernel
theorem d2_34 : decode method_4_code 34 = .ok (.ireturn, 1) := by decide +kernel
theorem pd__B_Z : parseMethodDescriptor "(B)Z" = some ⟨[.byte], some .boolean⟩ := by decide +kernel
theorem ef_2 (p0 : Int32) (p1 : Int32) (p2 : Int32) (p3 : Int32)  (m : MethodId) : entryFrame m #[(.int p0), (.int p1), (.int p2), (.int p3)] 5 = mkF m 0 #[.val (.int p0), .val (.int p1), .val (.int p2), .val (.int p3), .unset] [] := by first | (simp [entryFrame, mkF, argsToLocals, Value.category]; done) | rfl
def J2_2_S0 (p0 : Int32) (p1 : Int32) (p2 : Int32) (p3 : Int32) : Int32 := (if p0 < p1 then (0 : Int32) else (if p0 < p2 then (1 : Int32) else (0 : Int32)))
def F2 (p0 : Int32) (p1 : Int32) (p2 : Int32) (p3 : Int32) : Int32 := (if (J2_2_S0 p0 p1 p2 p3) = (0 : Int32) then (1 : Int32) else (if (F9 p3) = (0 : Int32) then (0 : Int32) else (1 : Int32)))
def Q2 (Z : State) (p0 : Int32) (p1 : Int32) (p2 : Int32) (p3 : Int32)  (h0 : Heap) (n0 : Nat) (v : Option Value) (h : Heap) (L : List Loc) : Prop := v = some (.int (F2 p0 p1 p2 p3)) ∧ Fr n0 L ∧ h = h0
set_option maxRecDepth 65536 in
set_option maxHeartbeats 40000000 in
theorem rm2 (l : Launch) (Z : State) (a0 : Array Value) (hw : ∀ d ∈ tables_1, d.before a0 Z = true) (ws : List Jvm.Cond) (p0 : Int32) (p1 : Int32) (p2 : Int32) (p3 : Int32)  (h0 : Heap) (n0 : Nat) (Z0 : n0 ≤ h0.size) :
    MetFree l (⟨"com/example/standbye/standbye/TextInputIsNamePinLaw", "fine", "(IIIB)Z"⟩ : MethodName) (head1 (Jvm.Cond.code (⟨"com/example/standbye/standbye/TextInputIsNamePinLaw", "fine", "(IIIB)Z"⟩ : MethodName) method_4_code 5 (some .boolean) :: ws) ({ frames := 1, cells := 0, slots := 0, locals := 13 } : Room)) (fun a U => a = #[(.int p0), (.int p1), (.int p2), (.int p3)] ∧ Z.Warmed39 U.vm ∧ U.heap = h0) (fun _ _ _ _ _ => True) (fun _ U o U' => ∃ v L, o = .returned v ∧ Q2 Z p0 p1 p2 p3 h0 n0 v U'.heap L ∧ FrameEnd U o U' L ({ frames := 1, cells := 0, slots := 0, locals := 13 } : Room).cells ({ frames := 1, cells := 0, slots := 0, locals := 13 } : Room).slots) := by
  refine MetFree.of_bodySF (plainFor_of_name pn_com_example_standbye_standbye_TextInputIsNamePinLaw) hisR ?_
  intro p e s m args below meth c s₁ Bd hml0 hP hK
  obtain ⟨rfl, hZ, hh⟩ := hP
  have hx := Bd.exec
  have hby := Bd.bytes
  have hml : c.maxLocals = 5 := hml0
  have hown : s.vm.findClass "com/example/standbye/standbye/TextInputIsNamePinLaw" = some m.cls := findClass_of_methodNamed Bd.named
  have hnm := (name_of_methodNamed Bd.named Bd.method).1
  have X0 : Stand p l e ({ frames := 1, cells := 0, slots := 0, locals := 13 } : Room) s m #[(.int p0), (.int p1), (.int p2), (.int p3)] below meth c s₁ [] 0 0 := Stand.of_body Bd
  have e0 : s₁.heap = h0 := by rw [← hh, Bd.state]; rfl
  have N0 := Fr.nil n0
  have pre0 : ∀ t, Steps p.tables e below (s₁.setTop (mkF m 0 #[.val (.int p0), .val (.int p1), .val (.int p2), .val (.int p3), .unset] [])) t → Steps p.tables e below (s₁.setTop (entryFrame m #[(.int p0), (.int p1), (.int p2), (.int p3)] 5)) t := fun t k => castTop (ef_2 p0 p1 p2 p3 m) k
  have pre1 : ∀ t, Steps p.tables e below (s₁.setTop (mkF m 2 #[.val (.int p0), .val (.int p1), .val (.int p2), .val (.int p3), .unset] [(.int p0), (.int p1)])) t → Steps p.tables e below (s₁.setTop (entryFrame m #[(.int p0), (.int p1), (.int p2), (.int p3)] 5)) t := fun t kt => pre0 t (by
    show Steps p.tables e below (s₁.setTop (mkF m 0 #[.val (.int p0), .val (.int p1), .val (.int p2), .val (.int p3), .unset] [])) _
    refine XS.iloadN X0.here hx rfl (hb hby d2_0) rfl ?_
    refine XS.iloadN X0.here hx rfl (hb hby d2_1) rfl ?_
    exact kt)
  obtain ⟨Tj3, lj3, Xj3, Nj3, ej3, pre3⟩ : ∃ (T' : State) (locs' : List Loc), Stand p l e ({ frames := 1, cells := 0, slots := 0, locals := 13 } : Room) s m #[(.int p0), (.int p1), (.int p2), (.int p3)] below meth c T' locs' 0 0 ∧ Fr n0 locs' ∧ T'.heap = h0 ∧ ∀ t, Steps p.tables e below (T'.setTop (mkF m 15 #[.val (.int p0), .val (.int p1), .val (.int p2), .val (.int p3), .unset] [(.int (J2_2_S0 p0 p1 p2 p3))])) t → Steps p.tables e below (s₁.setTop (entryFrame m #[(.int p0), (.int p1), (.int p2), (.int p3)] 5)) t := by
    by_cases hc2 : p0 < p1
    · refine ⟨s₁, _, X0, N0, e0, fun t kt => pre1 t ?_⟩
      show Steps p.tables e below (s₁.setTop (mkF m 2 #[.val (.int p0), .val (.int p1), .val (.int p2), .val (.int p3), .unset] [(.int p0), (.int p1)])) _
      refine XS.icmpYes X0.here hx rfl (pc0 := 2) (pc' := 14) rfl (hb hby d2_2) rfl (tlt hc2).2.2.1 (by decide) (by decide) ?_
      refine XS.iconst X0.here hx rfl (hb hby d2_14) ?_
      show Steps p.tables e below (s₁.setTop (mkF m 15 #[.val (.int p0), .val (.int p1), .val (.int p2), .val (.int p3), .unset] [(.int (0 : Int32))])) _
      have qjS0 : (J2_2_S0 p0 p1 p2 p3) = (0 : Int32) := by unfold J2_2_S0; simp only [if_true, if_false, if_pos hc2]
      rw [qjS0] at kt
      exact kt
    · have pre2 : ∀ t, Steps p.tables e below (s₁.setTop (mkF m 7 #[.val (.int p0), .val (.int p1), .val (.int p2), .val (.int p3), .unset] [(.int p2), (.int p0)])) t → Steps p.tables e below (s₁.setTop (entryFrame m #[(.int p0), (.int p1), (.int p2), (.int p3)] 5)) t := fun t kt => pre1 t (by
        show Steps p.tables e below (s₁.setTop (mkF m 2 #[.val (.int p0), .val (.int p1), .val (.int p2), .val (.int p3), .unset] [(.int p0), (.int p1)])) _
        refine XS.icmpNo X0.here hx rfl (hb hby d2_2) rfl (flt hc2).2.2.1 ?_
        refine XS.iloadN X0.here hx rfl (hb hby d2_5) rfl ?_
        refine XS.iloadN X0.here hx rfl (hb hby d2_6) rfl ?_
        exact kt)
      by_cases hc7 : p0 < p2
      · refine ⟨s₁, _, X0, N0, e0, fun t kt => pre2 t ?_⟩
        show Steps p.tables e below (s₁.setTop (mkF m 7 #[.val (.int p0), .val (.int p1), .val (.int p2), .val (.int p3), .unset] [(.int p2), (.int p0)])) _
        refine XS.icmpNo X0.here hx rfl (hb hby d2_7) rfl (tlt hc7).2.1 ?_
        refine XS.iconst X0.here hx rfl (hb hby d2_10) ?_
        refine XS.goto X0.here hx rfl (pc0 := 11) (pc' := 15) rfl (hb hby d2_11) (by decide) (by decide) ?_
        show Steps p.tables e below (s₁.setTop (mkF m 15 #[.val (.int p0), .val (.int p1), .val (.int p2), .val (.int p3), .unset] [(.int (1 : Int32))])) _
        have qjS0 : (J2_2_S0 p0 p1 p2 p3) = (1 : Int32) := by unfold J2_2_S0; simp only [if_true, if_false, if_neg hc2, if_pos hc7]
        rw [qjS0] at kt
        exact kt
      · refine ⟨s₁, _, X0, N0, e0, fun t kt => pre2 t ?_⟩
        show Steps p.tables e below (s₁.setTop (mkF m 7 #[.val (.int p0), .val (.int p1), .val (.int p2), .val (.int p3), .unset] [(.int p2), (.int p0)])) _
        refine XS.icmpYes X0.here hx rfl (pc0 := 7) (pc' := 14) rfl (hb hby d2_7) rfl (flt hc7).2.1 (by decide) (by decide) ?_
        refine XS.iconst X0.here hx rfl (hb hby d2_14) ?_
        show Steps p.tables e below (s₁.setTop (mkF m 15 #[.val (.int p0), .val (.int p1), .val (.int p2), .val (.int p3), .unset] [(.int (0 : Int32))])) _
        have qjS0 : (J2_2_S0 p0 p1 p2 p3) = (0 : Int32) := by unfold J2_2_S0; simp only [if_true, if_false, if_neg hc2, if_neg hc7]
        rw [qjS0] at kt
        exact kt
  have pre4 : ∀ t, Steps p.tables e below (Tj3.setTop (mkF m 19 #[.val (.int p0), .val (.int p1), .val (.int p2), .val (.int p3), .val (.int (J2_2_S0 p0 p1 p2 p3))] [(.int (J2_2_S0 p0 p1 p2 p3))])) t → Steps p.tables e below (s₁.setTop (entryFrame m #[(.int p0), (.int p1), (.int p2), (.int p3)] 5)) t := fun t kt => pre3 t (by
    show Steps p.tables e below (Tj3.setTop (mkF m 15 #[.val (.int p0), .val (.int p1), .val (.int p2), .val (.int p3), .unset] [(.int (J2_2_S0 p0 p1 p2 p3))])) _
    refine XS.istore Xj3.here hx rfl (hb hby d2_15) rfl (l' := #[.val (.int p0), .val (.int p1), .val (.int p2), .val (.int p3), .val (.int (J2_2_S0 p0 p1 p2 p3))]) rfl ?_
    refine XS.iload Xj3.here hx rfl (hb hby d2_17) rfl ?_
    exact kt)
  by_cases hc19 : (J2_2_S0 p0 p1 p2 p3) = (0 : Int32)
  · obtain ⟨fs, hr, hrun, hended, hW, hsame⟩ := Xj3.leave (v := some (.int (1 : Int32))) (fun h => by rw [Bd.returns] at h; cases h)
    refine ⟨_, _, pre4 _ ?_, hrun, hended, _, _, rfl, ?_, ⟨_, rfl⟩, hW, hsame.mono (by decide) (by decide)⟩
    · show Steps p.tables e below (Tj3.setTop (mkF m 19 #[.val (.int p0), .val (.int p1), .val (.int p2), .val (.int p3), .val (.int (J2_2_S0 p0 p1 p2 p3))] [(.int (J2_2_S0 p0 p1 p2 p3))])) _
      refine XS.ifYes Xj3.here hx rfl (pc0 := 19) (pc' := 29) rfl (hb hby d2_19) rfl ((if0 _ _).trans (teq hc19).1) (by decide) (by decide) ?_
      refine XS.iconst Xj3.here hx rfl (hb hby d2_29) ?_
      refine XS.goto Xj3.here hx rfl (pc0 := 30) (pc' := 34) rfl (hb hby d2_30) (by decide) (by decide) ?_
      show Steps p.tables e below (Tj3.setTop (mkF m 34 #[.val (.int p0), .val (.int p1), .val (.int p2), .val (.int p3), .val (.int (J2_2_S0 p0 p1 p2 p3))] [(.int (1 : Int32))])) _
      exact retN Xj3 hx (t := .boolean) Bd.returns (by simp) (hb hby d2_34) hr
    · show Q2 Z p0 p1 p2 p3 h0 n0 _ Tj3.heap _
      rw [ej3]
      exact ⟨(by unfold F2; simp only [if_pos hc19]), Nj3, rfl⟩
  · obtain ⟨_, _, ⟨T5, L5, k5, n5⟩, -, X5, ⟨Lc5, hQ5, ll5, ly5, lz5⟩, st5⟩ := Jvm.LawKit.callS Xj3 hx (y := (⟨"com/example/standbye/standbye/TextInputIsNamePinLaw", "ok", "(B)Z"⟩ : MethodName)) hown (mvT hZ (hw _ (List.mem_of_getElem? (i := 44) rfl))) (mvT hZ (hw _ (List.mem_of_getElem? (i := 45) rfl))) (mvT hZ (hw _ (List.mem_of_getElem? (i := 3) rfl))) (mvT hZ (hw _ (List.mem_of_getElem? (i := 46) rfl))) (by decide) (backOf (W := 0) (rm9 l Z a0 hw [] p3 h0 n0 Z0 ) hZ (hw _ (List.mem_of_getElem? (i := 46) rfl)) (hw _ (List.mem_of_getElem? (i := 3) rfl)) (by decide) (by decide)) (g := (mkF m 23 #[.val (.int p0), .val (.int p1), .val (.int p2), .val (.int p3), .val (.int (J2_2_S0 p0 p1 p2 p3))] [(.int p3)])) rfl (by rw [hml]; rfl) (argsL := [(.int p3)]) (rest := []) (lenOf pd__B_Z rfl) rfl (by show 2 * 0 + _ ≤ _; exact Nat.le_of_eq rfl) (hb hby d2_23) (fun _ _ => ⟨rfl, ej3, (by decide : 0 + 0 ≤ _), (by decide : 0 + 0 ≤ _)⟩)
    dsimp only [Pt.U, Pt.locs, Pt.cells, Pt.slots] at X5 ll5 ly5 lz5 st5 hQ5
    subst ll5 ly5 lz5
    obtain ⟨rfl, N5q, e5⟩ := hQ5
    have N5 := Fr.app Nj3 N5q
    have pre6 : ∀ t, Steps p.tables e below (T5.setTop (mkF m 26 #[.val (.int p0), .val (.int p1), .val (.int p2), .val (.int p3), .val (.int (J2_2_S0 p0 p1 p2 p3))] [(.int (F9 p3))])) t → Steps p.tables e below (s₁.setTop (entryFrame m #[(.int p0), (.int p1), (.int p2), (.int p3)] 5)) t := fun t kt => pre4 t (by
      show Steps p.tables e below (Tj3.setTop (mkF m 19 #[.val (.int p0), .val (.int p1), .val (.int p2), .val (.int p3), .val (.int (J2_2_S0 p0 p1 p2 p3))] [(.int (J2_2_S0 p0 p1 p2 p3))])) _
      refine XS.ifNo Xj3.here hx rfl (hb hby d2_19) rfl ((if0 _ _).trans (feq hc19).1) ?_
      refine XS.iloadN Xj3.here hx rfl (hb hby d2_22) rfl ?_
      refine st5 _ ?_
      exact kt)
    by_cases hc26 : (F9 p3) = (0 : Int32)
    · obtain ⟨fs, hr, hrun, hended, hW, hsame⟩ := X5.leave (v := some (.int (0 : Int32))) (fun h => by rw [Bd.returns] at h; cases h)
      refine ⟨_, _, pre6 _ ?_, hrun, hended, _, _, rfl, ?_, ⟨_, rfl⟩, hW, hsame.mono (by decide) (by decide)⟩
      · show Steps p.tables e below (T5.setTop (mkF m 26 #[.val (.int p0), .val (.int p1), .val (.int p2), .val (.int p3), .val (.int (J2_2_S0 p0 p1 p2 p3))] [(.int (F9 p3))])) _
        refine XS.ifYes X5.here hx rfl (pc0 := 26) (pc' := 33) rfl (hb hby d2_26) rfl ((if0 _ _).trans (teq hc26).1) (by decide) (by decide) ?_
        refine XS.iconst X5.here hx rfl (hb hby d2_33) ?_
        show Steps p.tables e below (T5.setTop (mkF m 34 #[.val (.int p0), .val (.int p1), .val (.int p2), .val (.int p3), .val (.int (J2_2_S0 p0 p1 p2 p3))] [(.int (0 : Int32))])) _
        exact retN X5 hx (t := .boolean) Bd.returns (by simp) (hb hby d2_34) hr
      · show Q2 Z p0 p1 p2 p3 h0 n0 _ T5.heap _
        rw [e5]
        exact ⟨(by unfold F2; simp only [if_neg hc19, if_pos hc26]), N5, rfl⟩
    · obtain ⟨fs, hr, hrun, hended, hW, hsame⟩ := X5.leave (v := some (.int (1 : Int32))) (fun h => by rw [Bd.returns] at h; cases h)
      refine ⟨_, _, pre6 _ ?_, hrun, hended, _, _, rfl, ?_, ⟨_, rfl⟩, hW, hsame.mono (by decide) (by decide)⟩
      · show Steps p.tables e below (T5.setTop (mkF m 26 #[.val (.int p0), .val (.int p1), .val (.int p2), .val (.int p3), .val (.int (J2_2_S0 p0 p1 p2 p3))] [(.int (F9 p3))])) _
        refine XS.ifNo X5.here hx rfl (hb hby d2_26) rfl ((if0 _ _).trans (feq hc26).1) ?_
        refine XS.iconst X5.here hx rfl (hb hby d2_29) ?_
        refine XS.goto X5.here hx rfl (pc0 := 30) (pc' := 34) rfl (hb hby d2_30) (by decide) (by decide) ?_
        show Steps p.tables e below (T5.setTop (mkF m 34 #[.val (.int p0), .val (.int p1), .val (.int p2), .val (.int p3), .val (.int (J2_2_S0 p0 p1 p2 p3))] [(.int (1 : Int32))])) _
        exact retN X5 hx (t := .boolean) Bd.returns (by simp) (hb hby d2_34) hr
      · show Q2 Z p0 p1 p2 p3 h0 n0 _ T5.heap _
        rw [e5]
        exact ⟨(by unfold F2; simp only [if_neg hc19, if_neg hc26]), N5, rfl⟩
def own_nm (y : Int32) : Int32 := if y < (97 : Int32) then (if y < (48 : Int32) then (if y = (45 : Int32) then 1 else 0) else (if (57 : Int32) < y then (if y = (45 : Int32) then 1 else 0) else 1)) else (if (122 : Int32) < y then (if y < (48 : Int32) then (if y = (45 : Int32) then 1 else 0) else (if (57 : Int32) < y then (if y = (45 : Int32) then 1 else 0) else 1)) else 1)
theorem own_n0 {y : Int32} (h : own_nm y = (1 : Int32)) : ¬ (own_nm y = (0 : Int32)) := fun q => by rw [h] at q; revert q; decide
theorem own_n1 {y : Int32} (h : ¬ (own_nm y = (1 : Int32))) : ¬ (own_nm y = (1 : Int32)) := h
theorem d3_0 : decode prog_47_method_8_code 0 = .ok (.iload_n 1, 1) := by decide +kernel
theorem d3_1 : decode prog_47_method_8_code 1 = .ok (.istore_n 3, 1) := by decide +kernel
theorem d3_2 : decode prog_47_method_8_code 2 = .ok (.iload_n 3, 1) := by decide +kernel
theorem d3_3 : decode prog_47_method_8_code 3 = .ok (.iload_n 2, 1) := by decide +kernel
theorem d3_4 : decode prog_47_method_8_code 4 = .ok (.if_icmp .ge 51, 3) := by decide +kernel
theorem d3_7 : decode prog_47_method_8_code 7 = .ok (.aload_n 0, 1) := by decide +kernel
theorem d3_8 : decode prog_47_method_8_code 8 = .ok (.iload_n 3, 1) := by decide +kernel
theorem d3_9 : decode prog_47_method_8_code 9 = .ok (.baload, 1) := by decide +kernel
theorem d3_10 : decode prog_47_method_8_code 10 = .ok (.istore 4, 2) := by decide +kernel
theorem d3_12 : decode prog_47_method_8_code 12 = .ok (.iload 4, 2) := by decide +kernel
theorem d3_14 : decode prog_47_method_8_code 14 = .ok (.bipush 97, 2) := by decide +kernel
theorem d3_16 : decode prog_47_method_8_code 16 = .ok (.if_icmp .lt 10, 3) := by decide +kernel
theorem d3_19 : decode prog_47_method_8_code 19 = .ok (.iload 4, 2) := by decide +kernel
theorem d3_21 : decode prog_47_method_8_code 21 = .ok (.bipush 122, 2) := by decide +kernel
theorem d3_23 : decode prog_47_method_8_code 23 = .ok (.if_icmp .le 26, 3) := by decide +kernel
theorem d3_26 : decode prog_47_method_8_code 26 = .ok (.iload 4, 2) := by decide +kernel
theorem d3_28 : decode prog_47_method_8_code 28 = .ok (.bipush 48, 2) := by decide +kernel
theorem d3_30 : decode prog_47_method_8_code 30 = .ok (.if_icmp .lt 10, 3) := by decide +kernel
theorem d3_33 : decode prog_47_method_8_code 33 = .ok (.iload 4, 2) := by decide +kernel
theorem d3_35 : decode prog_47_method_8_code 35 = .ok (.bipush 57, 2) := by decide +kernel
theorem d3_37 : decode prog_47_method_8_code 37 = .ok (.if_icmp .le 12, 3) := by decide +kernel
theorem d3_40 : decode prog_47_method_8_code 40 = .ok (.iload 4, 2) := by decide +kernel
theorem d3_42 : decode prog_47_method_8_code 42 = .ok (.bipush 45, 2) := by decide +kernel
theorem d3_44 : decode prog_47_method_8_code 44 = .ok (.if_icmp .eq 5, 3) := by decide +kernel
theorem d3_47 : decode prog_47_method_8_code 47 = .ok (.iconst 0, 1) := by decide +kernel
theorem d3_48 : decode prog_47_method_8_code 48 = .ok (.ireturn, 1) := by decide +kernel
theorem d3_49 : decode prog_47_method_8_code 49 = .ok (.iinc 3 1, 3) := by decide +kernel
theorem d3_52 : decode prog_47_method_8_code 52 = .ok (.goto (-50), 3) := by decide +kernel
theorem d3_55 : decode prog_47_method_8_code 55 = .ok (.iconst 1, 1) := by decide +kernel
theorem d3_56 : decode prog_47_method_8_code 56 = .ok (.ireturn, 1) := by decide +kernel
theorem pn_com_example_standbye_standbye_TextInput : plainName "com/example/standbye/standbye/TextInput" = true := by first | (simp [plainName, overriddenIn]; done) | decide +kernel
theorem ef_3s0 (r0 : Addr) (p2 : Int32) (kb : ClassId) (y0 y1 y2 y3 : Int32) (m : MethodId) : entryFrame m #[(.ref r0), (.int (0 : Int32)), (.int p2)] 5 = mkF m 0 #[.val (.ref r0), .val (.int (0 : Int32)), .val (.int p2), .unset, .unset] [] := by first | (simp [entryFrame, mkF, argsToLocals, Value.category]; done) | rfl
def F3s0 (p2 y0 y1 y2 y3 : Int32) : Int32 := (if (0 : Int32) < p2 then (if (own_nm y0) = (1 : Int32) then (if (1 : Int32) < p2 then (if (own_nm y1) = (1 : Int32) then (if (2 : Int32) < p2 then (if (own_nm y2) = (1 : Int32) then (if (3 : Int32) < p2 then (if (own_nm y3) = (1 : Int32) then (1 : Int32) else (0 : Int32)) else (1 : Int32)) else (0 : Int32)) else (1 : Int32)) else (0 : Int32)) else (1 : Int32)) else (0 : Int32)) else (1 : Int32))
def Q3s0 (Z : State) (r0 : Addr) (p2 : Int32) (kb : ClassId) (y0 y1 y2 y3 : Int32) (h0 : Heap) (n0 : Nat) (v : Option Value) (h : Heap) (L : List Loc) : Prop := v = some (.int (F3s0 p2 y0 y1 y2 y3)) ∧ Fr n0 L ∧ h = h0
set_option maxRecDepth 65536 in
set_option maxHeartbeats 40000000 in
theorem rm3s0 (l : Launch) (Z : State) (a0 : Array Value) (hw : ∀ d ∈ tables_1, d.before a0 Z = true) (ws : List Jvm.Cond) (r0 : Addr) (p2 : Int32) (kb : ClassId) (y0 y1 y2 y3 : Int32) (h0 : Heap) (n0 : Nat) (Z0 : n0 ≤ h0.size) (V_b : Arv Z h0 r0 kb .byte (4 : Int32) [(.int y0), (.int y1), (.int y2), (.int y3)] (.int (0 : Int32))) (he4 : ¬ ((4 : Int32) < p2)) :
    MetFree l (⟨"com/example/standbye/standbye/TextInput", "isName", "([BII)Z"⟩ : MethodName) (head1 (Jvm.Cond.code (⟨"com/example/standbye/standbye/TextInput", "isName", "([BII)Z"⟩ : MethodName) prog_47_method_8_code 5 (some .boolean) :: ws) ({ frames := 0, cells := 0, slots := 0, locals := 0 } : Room)) (fun a U => a = #[(.ref r0), (.int (0 : Int32)), (.int p2)] ∧ Z.Warmed39 U.vm ∧ U.heap = h0) (fun _ _ _ _ _ => True) (fun _ U o U' => ∃ v L, o = .returned v ∧ Q3s0 Z r0 p2 kb y0 y1 y2 y3 h0 n0 v U'.heap L ∧ FrameEnd U o U' L ({ frames := 0, cells := 0, slots := 0, locals := 0 } : Room).cells ({ frames := 0, cells := 0, slots := 0, locals := 0 } : Room).slots) := by
  refine MetFree.of_bodySF (plainFor_of_name pn_com_example_standbye_standbye_TextInput) hisR ?_
  intro p e s m args below meth c s₁ Bd hml0 hP hK
  obtain ⟨rfl, hZ, hh⟩ := hP
  have hx := Bd.exec
  have hby := Bd.bytes
  have hml : c.maxLocals = 5 := hml0
  have hown : s.vm.findClass "com/example/standbye/standbye/TextInput" = some m.cls := findClass_of_methodNamed Bd.named
  have hnm := (name_of_methodNamed Bd.named Bd.method).1
  have X0 : Stand p l e ({ frames := 0, cells := 0, slots := 0, locals := 0 } : Room) s m #[(.ref r0), (.int (0 : Int32)), (.int p2)] below meth c s₁ [] 0 0 := Stand.of_body Bd
  have e0 : s₁.heap = h0 := by rw [← hh, Bd.state]; rfl
  have N0 := Fr.nil n0
  have pre0 : ∀ t, Steps p.tables e below (s₁.setTop (mkF m 0 #[.val (.ref r0), .val (.int (0 : Int32)), .val (.int p2), .unset, .unset] [])) t → Steps p.tables e below (s₁.setTop (entryFrame m #[(.ref r0), (.int (0 : Int32)), (.int p2)] 5)) t := fun t k => castTop (ef_3s0 r0 p2 kb y0 y1 y2 y3 m) k
  have pre1 : ∀ t, Steps p.tables e below (s₁.setTop (mkF m 4 #[.val (.ref r0), .val (.int (0 : Int32)), .val (.int p2), .val (.int (0 : Int32)), .unset] [(.int p2), (.int (0 : Int32))])) t → Steps p.tables e below (s₁.setTop (entryFrame m #[(.ref r0), (.int (0 : Int32)), (.int p2)] 5)) t := fun t kt => pre0 t (by
    show Steps p.tables e below (s₁.setTop (mkF m 0 #[.val (.ref r0), .val (.int (0 : Int32)), .val (.int p2), .unset, .unset] [])) _
    refine XS.iloadN X0.here hx rfl (hb hby d3_0) rfl ?_
    refine XS.istoreN X0.here hx rfl (hb hby d3_1) rfl (l' := #[.val (.ref r0), .val (.int (0 : Int32)), .val (.int p2), .val (.int (0 : Int32)), .unset]) rfl ?_
    refine XS.iloadN X0.here hx rfl (hb hby d3_2) rfl ?_
    refine XS.iloadN X0.here hx rfl (hb hby d3_3) rfl ?_
    exact kt)
  by_cases hc4 : (0 : Int32) < p2
  · obtain ⟨cl2, Ar2, qa2, S2, Nl2, H2, G2⟩ := id V_b
    have hin2 : ¬ ((0 : Int32) < 0 ∨ cl2.slots.size ≤ ((0 : Int32)).toNatClampNeg) := inb_of S2 ⟨by decide, by decide⟩
    have hat2 : cl2.slots[((0 : Int32)).toNatClampNeg]? = some (.int y0) := Has.at H2 hin2 rfl
    have pre3 : ∀ t, Steps p.tables e below (s₁.setTop (mkF m 12 #[.val (.ref r0), .val (.int (0 : Int32)), .val (.int p2), .val (.int (0 : Int32)), .val (.int y0)] [])) t → Steps p.tables e below (s₁.setTop (entryFrame m #[(.ref r0), (.int (0 : Int32)), (.int p2)] 5)) t := fun t kt => pre1 t (by
      show Steps p.tables e below (s₁.setTop (mkF m 4 #[.val (.ref r0), .val (.int (0 : Int32)), .val (.int p2), .val (.int (0 : Int32)), .unset] [(.int p2), (.int (0 : Int32))])) _
      refine XS.icmpNo X0.here hx rfl (hb hby d3_4) rfl (tlt hc4).2.1 ?_
      refine XS.aloadN X0.here hx rfl (hb hby d3_7) rfl rfl ?_
      refine XS.iloadN X0.here hx rfl (hb hby d3_8) rfl ?_
      refine X0.baloadBytes hx (j := (0 : Int32)) (v := (.int y0)) (by rw [e0]; exact Ar2.1) (State.isArrayOf_alike hZ.alike Ar2.2.1) Ar2.2.2 hin2 hat2 (g := (mkF m 9 #[.val (.ref r0), .val (.int (0 : Int32)), .val (.int p2), .val (.int (0 : Int32)), .unset] [(.int (0 : Int32)), (.ref r0)])) rfl rfl (hb hby d3_9) _ ?_
      refine XS.istore X0.here hx rfl (hb hby d3_10) rfl (l' := #[.val (.ref r0), .val (.int (0 : Int32)), .val (.int p2), .val (.int (0 : Int32)), .val (.int y0)]) rfl ?_
      exact kt)
    by_cases hk0 : (own_nm y0) = (1 : Int32)
    · obtain ⟨Tj14, lj14, Xj14, Nj14, ej14, pre14⟩ : ∃ (T' : State) (locs' : List Loc), Stand p l e ({ frames := 0, cells := 0, slots := 0, locals := 0 } : Room) s m #[(.ref r0), (.int (0 : Int32)), (.int p2)] below meth c T' locs' 0 0 ∧ Fr n0 locs' ∧ T'.heap = h0 ∧ ∀ t, Steps p.tables e below (T'.setTop (mkF m 49 #[.val (.ref r0), .val (.int (0 : Int32)), .val (.int p2), .val (.int (0 : Int32)), .val (.int y0)] [])) t → Steps p.tables e below (s₁.setTop (entryFrame m #[(.ref r0), (.int (0 : Int32)), (.int p2)] 5)) t := by
        have pre4 : ∀ t, Steps p.tables e below (s₁.setTop (mkF m 16 #[.val (.ref r0), .val (.int (0 : Int32)), .val (.int p2), .val (.int (0 : Int32)), .val (.int y0)] [(.int (97 : Int32)), (.int y0)])) t → Steps p.tables e below (s₁.setTop (entryFrame m #[(.ref r0), (.int (0 : Int32)), (.int p2)] 5)) t := fun t kt => pre3 t (by
          show Steps p.tables e below (s₁.setTop (mkF m 12 #[.val (.ref r0), .val (.int (0 : Int32)), .val (.int p2), .val (.int (0 : Int32)), .val (.int y0)] [])) _
          refine XS.iload X0.here hx rfl (hb hby d3_12) rfl ?_
          refine XS.bipush X0.here hx rfl (hb hby d3_14) ?_
          exact kt)
        by_cases hc16 : y0 < (97 : Int32)
        · have pre5 : ∀ t, Steps p.tables e below (s₁.setTop (mkF m 30 #[.val (.ref r0), .val (.int (0 : Int32)), .val (.int p2), .val (.int (0 : Int32)), .val (.int y0)] [(.int (48 : Int32)), (.int y0)])) t → Steps p.tables e below (s₁.setTop (entryFrame m #[(.ref r0), (.int (0 : Int32)), (.int p2)] 5)) t := fun t kt => pre4 t (by
            show Steps p.tables e below (s₁.setTop (mkF m 16 #[.val (.ref r0), .val (.int (0 : Int32)), .val (.int p2), .val (.int (0 : Int32)), .val (.int y0)] [(.int (97 : Int32)), (.int y0)])) _
            refine XS.icmpYes X0.here hx rfl (pc0 := 16) (pc' := 26) rfl (hb hby d3_16) rfl (tlt hc16).1 (by decide) (by decide) ?_
            refine XS.iload X0.here hx rfl (hb hby d3_26) rfl ?_
            refine XS.bipush X0.here hx rfl (hb hby d3_28) ?_
            exact kt)
          by_cases hc30 : y0 < (48 : Int32)
          · have pre6 : ∀ t, Steps p.tables e below (s₁.setTop (mkF m 44 #[.val (.ref r0), .val (.int (0 : Int32)), .val (.int p2), .val (.int (0 : Int32)), .val (.int y0)] [(.int (45 : Int32)), (.int y0)])) t → Steps p.tables e below (s₁.setTop (entryFrame m #[(.ref r0), (.int (0 : Int32)), (.int p2)] 5)) t := fun t kt => pre5 t (by
              show Steps p.tables e below (s₁.setTop (mkF m 30 #[.val (.ref r0), .val (.int (0 : Int32)), .val (.int p2), .val (.int (0 : Int32)), .val (.int y0)] [(.int (48 : Int32)), (.int y0)])) _
              refine XS.icmpYes X0.here hx rfl (pc0 := 30) (pc' := 40) rfl (hb hby d3_30) rfl (tlt hc30).1 (by decide) (by decide) ?_
              refine XS.iload X0.here hx rfl (hb hby d3_40) rfl ?_
              refine XS.bipush X0.here hx rfl (hb hby d3_42) ?_
              exact kt)
            by_cases hc44 : y0 = (45 : Int32)
            · refine ⟨s₁, _, X0, N0, e0, fun t kt => pre6 t ?_⟩
              show Steps p.tables e below (s₁.setTop (mkF m 44 #[.val (.ref r0), .val (.int (0 : Int32)), .val (.int p2), .val (.int (0 : Int32)), .val (.int y0)] [(.int (45 : Int32)), (.int y0)])) _
              refine XS.icmpYes X0.here hx rfl (pc0 := 44) (pc' := 49) rfl (hb hby d3_44) rfl (teq hc44).1 (by decide) (by decide) ?_
              show Steps p.tables e below (s₁.setTop (mkF m 49 #[.val (.ref r0), .val (.int (0 : Int32)), .val (.int p2), .val (.int (0 : Int32)), .val (.int y0)] [])) _
              exact kt
            · exact absurd (show own_nm y0 = 0 by unfold own_nm; simp only [if_pos hc4, if_pos hc16, if_pos hc30, if_neg hc44]) (own_n0 hk0)
          · have pre7 : ∀ t, Steps p.tables e below (s₁.setTop (mkF m 37 #[.val (.ref r0), .val (.int (0 : Int32)), .val (.int p2), .val (.int (0 : Int32)), .val (.int y0)] [(.int (57 : Int32)), (.int y0)])) t → Steps p.tables e below (s₁.setTop (entryFrame m #[(.ref r0), (.int (0 : Int32)), (.int p2)] 5)) t := fun t kt => pre5 t (by
              show Steps p.tables e below (s₁.setTop (mkF m 30 #[.val (.ref r0), .val (.int (0 : Int32)), .val (.int p2), .val (.int (0 : Int32)), .val (.int y0)] [(.int (48 : Int32)), (.int y0)])) _
              refine XS.icmpNo X0.here hx rfl (hb hby d3_30) rfl (flt hc30).1 ?_
              refine XS.iload X0.here hx rfl (hb hby d3_33) rfl ?_
              refine XS.bipush X0.here hx rfl (hb hby d3_35) ?_
              exact kt)
            by_cases hc37 : (57 : Int32) < y0
            · have pre8 : ∀ t, Steps p.tables e below (s₁.setTop (mkF m 44 #[.val (.ref r0), .val (.int (0 : Int32)), .val (.int p2), .val (.int (0 : Int32)), .val (.int y0)] [(.int (45 : Int32)), (.int y0)])) t → Steps p.tables e below (s₁.setTop (entryFrame m #[(.ref r0), (.int (0 : Int32)), (.int p2)] 5)) t := fun t kt => pre7 t (by
                show Steps p.tables e below (s₁.setTop (mkF m 37 #[.val (.ref r0), .val (.int (0 : Int32)), .val (.int p2), .val (.int (0 : Int32)), .val (.int y0)] [(.int (57 : Int32)), (.int y0)])) _
                refine XS.icmpNo X0.here hx rfl (hb hby d3_37) rfl (tlt hc37).2.2.2 ?_
                refine XS.iload X0.here hx rfl (hb hby d3_40) rfl ?_
                refine XS.bipush X0.here hx rfl (hb hby d3_42) ?_
                exact kt)
              by_cases hc44 : y0 = (45 : Int32)
              · refine ⟨s₁, _, X0, N0, e0, fun t kt => pre8 t ?_⟩
                show Steps p.tables e below (s₁.setTop (mkF m 44 #[.val (.ref r0), .val (.int (0 : Int32)), .val (.int p2), .val (.int (0 : Int32)), .val (.int y0)] [(.int (45 : Int32)), (.int y0)])) _
                refine XS.icmpYes X0.here hx rfl (pc0 := 44) (pc' := 49) rfl (hb hby d3_44) rfl (teq hc44).1 (by decide) (by decide) ?_
                show Steps p.tables e below (s₁.setTop (mkF m 49 #[.val (.ref r0), .val (.int (0 : Int32)), .val (.int p2), .val (.int (0 : Int32)), .val (.int y0)] [])) _
                exact kt
              · exact absurd (show own_nm y0 = 0 by unfold own_nm; simp only [if_pos hc4, if_pos hc16, if_neg hc30, if_pos hc37, if_neg hc44]) (own_n0 hk0)
            · refine ⟨s₁, _, X0, N0, e0, fun t kt => pre7 t ?_⟩
              show Steps p.tables e below (s₁.setTop (mkF m 37 #[.val (.ref r0), .val (.int (0 : Int32)), .val (.int p2), .val (.int (0 : Int32)), .val (.int y0)] [(.int (57 : Int32)), (.int y0)])) _
              refine XS.icmpYes X0.here hx rfl (pc0 := 37) (pc' := 49) rfl (hb hby d3_37) rfl (flt hc37).2.2.2 (by decide) (by decide) ?_
              show Steps p.tables e below (s₁.setTop (mkF m 49 #[.val (.ref r0), .val (.int (0 : Int32)), .val (.int p2), .val (.int (0 : Int32)), .val (.int y0)] [])) _
              exact kt
        · have pre9 : ∀ t, Steps p.tables e below (s₁.setTop (mkF m 23 #[.val (.ref r0), .val (.int (0 : Int32)), .val (.int p2), .val (.int (0 : Int32)), .val (.int y0)] [(.int (122 : Int32)), (.int y0)])) t → Steps p.tables e below (s₁.setTop (entryFrame m #[(.ref r0), (.int (0 : Int32)), (.int p2)] 5)) t := fun t kt => pre4 t (by
            show Steps p.tables e below (s₁.setTop (mkF m 16 #[.val (.ref r0), .val (.int (0 : Int32)), .val (.int p2), .val (.int (0 : Int32)), .val (.int y0)] [(.int (97 : Int32)), (.int y0)])) _
            refine XS.icmpNo X0.here hx rfl (hb hby d3_16) rfl (flt hc16).1 ?_
            refine XS.iload X0.here hx rfl (hb hby d3_19) rfl ?_
            refine XS.bipush X0.here hx rfl (hb hby d3_21) ?_
            exact kt)
          by_cases hc23 : (122 : Int32) < y0
          · have pre10 : ∀ t, Steps p.tables e below (s₁.setTop (mkF m 30 #[.val (.ref r0), .val (.int (0 : Int32)), .val (.int p2), .val (.int (0 : Int32)), .val (.int y0)] [(.int (48 : Int32)), (.int y0)])) t → Steps p.tables e below (s₁.setTop (entryFrame m #[(.ref r0), (.int (0 : Int32)), (.int p2)] 5)) t := fun t kt => pre9 t (by
              show Steps p.tables e below (s₁.setTop (mkF m 23 #[.val (.ref r0), .val (.int (0 : Int32)), .val (.int p2), .val (.int (0 : Int32)), .val (.int y0)] [(.int (122 : Int32)), (.int y0)])) _
              refine XS.icmpNo X0.here hx rfl (hb hby d3_23) rfl (tlt hc23).2.2.2 ?_
              refine XS.iload X0.here hx rfl (hb hby d3_26) rfl ?_
              refine XS.bipush X0.here hx rfl (hb hby d3_28) ?_
              exact kt)
            by_cases hc30 : y0 < (48 : Int32)
            · have pre11 : ∀ t, Steps p.tables e below (s₁.setTop (mkF m 44 #[.val (.ref r0), .val (.int (0 : Int32)), .val (.int p2), .val (.int (0 : Int32)), .val (.int y0)] [(.int (45 : Int32)), (.int y0)])) t → Steps p.tables e below (s₁.setTop (entryFrame m #[(.ref r0), (.int (0 : Int32)), (.int p2)] 5)) t := fun t kt => pre10 t (by
                show Steps p.tables e below (s₁.setTop (mkF m 30 #[.val (.ref r0), .val (.int (0 : Int32)), .val (.int p2), .val (.int (0 : Int32)), .val (.int y0)] [(.int (48 : Int32)), (.int y0)])) _
                refine XS.icmpYes X0.here hx rfl (pc0 := 30) (pc' := 40) rfl (hb hby d3_30) rfl (tlt hc30).1 (by decide) (by decide) ?_
                refine XS.iload X0.here hx rfl (hb hby d3_40) rfl ?_
                refine XS.bipush X0.here hx rfl (hb hby d3_42) ?_
                exact kt)
              by_cases hc44 : y0 = (45 : Int32)
              · refine ⟨s₁, _, X0, N0, e0, fun t kt => pre11 t ?_⟩
                show Steps p.tables e below (s₁.setTop (mkF m 44 #[.val (.ref r0), .val (.int (0 : Int32)), .val (.int p2), .val (.int (0 : Int32)), .val (.int y0)] [(.int (45 : Int32)), (.int y0)])) _
                refine XS.icmpYes X0.here hx rfl (pc0 := 44) (pc' := 49) rfl (hb hby d3_44) rfl (teq hc44).1 (by decide) (by decide) ?_
                show Steps p.tables e below (s₁.setTop (mkF m 49 #[.val (.ref r0), .val (.int (0 : Int32)), .val (.int p2), .val (.int (0 : Int32)), .val (.int y0)] [])) _
                exact kt
              · exact absurd (show own_nm y0 = 0 by unfold own_nm; simp only [if_pos hc4, if_neg hc16, if_pos hc23, if_pos hc30, if_neg hc44]) (own_n0 hk0)
            · have pre12 : ∀ t, Steps p.tables e below (s₁.setTop (mkF m 37 #[.val (.ref r0), .val (.int (0 : Int32)), .val (.int p2), .val (.int (0 : Int32)), .val (.int y0)] [(.int (57 : Int32)), (.int y0)])) t → Steps p.tables e below (s₁.setTop (entryFrame m #[(.ref r0), (.int (0 : Int32)), (.int p2)] 5)) t := fun t kt => pre10 t (by
                show Steps p.tables e below (s₁.setTop (mkF m 30 #[.val (.ref r0), .val (.int (0 : Int32)), .val (.int p2), .val (.int (0 : Int32)), .val (.int y0)] [(.int (48 : Int32)), (.int y0)])) _
                refine XS.icmpNo X0.here hx rfl (hb hby d3_30) rfl (flt hc30).1 ?_
                refine XS.iload X0.here hx rfl (hb hby d3_33) rfl ?_
                refine XS.bipush X0.here hx rfl (hb hby d3_35) ?_
                exact kt)
              by_cases hc37 : (57 : Int32) < y0
              · have pre13 : ∀ t, Steps p.tables e below (s₁.setTop (mkF m 44 #[.val (.ref r0), .val (.int (0 : Int32)), .val (.int p2), .val (.int (0 : Int32)), .val (.int y0)] [(.int (45 : Int32)), (.int y0)])) t → Steps p.tables e below (s₁.setTop (entryFrame m #[(.ref r0), (.int (0 : Int32)), (.int p2)] 5)) t := fun t kt => pre12 t (by
                  show Steps p.tables e below (s₁.setTop (mkF m 37 #[.val (.ref r0), .val (.int (0 : Int32)), .val (.int p2), .val (.int (0 : Int32)), .val (.int y0)] [(.int (57 : Int32)), (.int y0)])) _
                  refine XS.icmpNo X0.here hx rfl (hb hby d3_37) rfl (tlt hc37).2.2.2 ?_
                  refine XS.iload X0.here hx rfl (hb hby d3_40) rfl ?_
                  refine XS.bipush X0.here hx rfl (hb hby d3_42) ?_
                  exact kt)
                by_cases hc44 : y0 = (45 : Int32)
                · refine ⟨s₁, _, X0, N0, e0, fun t kt => pre13 t ?_⟩
                  show Steps p.tables e below (s₁.setTop (mkF m 44 #[.val (.ref r0), .val (.int (0 : Int32)), .val (.int p2), .val (.int (0 : Int32)), .val (.int y0)] [(.int (45 : Int32)), (.int y0)])) _
                  refine XS.icmpYes X0.here hx rfl (pc0 := 44) (pc' := 49) rfl (hb hby d3_44) rfl (teq hc44).1 (by decide) (by decide) ?_
                  show Steps p.tables e below (s₁.setTop (mkF m 49 #[.val (.ref r0), .val (.int (0 : Int32)), .val (.int p2), .val (.int (0 : Int32)), .val (.int y0)] [])) _
                  exact kt
                · exact absurd (show own_nm y0 = 0 by unfold own_nm; simp only [if_pos hc4, if_neg hc16, if_pos hc23, if_neg hc30, if_pos hc37, if_neg hc44]) (own_n0 hk0)
              · refine ⟨s₁, _, X0, N0, e0, fun t kt => pre12 t ?_⟩
                show Steps p.tables e below (s₁.setTop (mkF m 37 #[.val (.ref r0), .val (.int (0 : Int32)), .val (.int p2), .val (.int (0 : Int32)), .val (.int y0)] [(.int (57 : Int32)), (.int y0)])) _
                refine XS.icmpYes X0.here hx rfl (pc0 := 37) (pc' := 49) rfl (hb hby d3_37) rfl (flt hc37).2.2.2 (by decide) (by decide) ?_
                show Steps p.tables e below (s₁.setTop (mkF m 49 #[.val (.ref r0), .val (.int (0 : Int32)), .val (.int p2), .val (.int (0 : Int32)), .val (.int y0)] [])) _
                exact kt
          · refine ⟨s₁, _, X0, N0, e0, fun t kt => pre9 t ?_⟩
            show Steps p.tables e below (s₁.setTop (mkF m 23 #[.val (.ref r0), .val (.int (0 : Int32)), .val (.int p2), .val (.int (0 : Int32)), .val (.int y0)] [(.int (122 : Int32)), (.int y0)])) _
            refine XS.icmpYes X0.here hx rfl (pc0 := 23) (pc' := 49) rfl (hb hby d3_23) rfl (flt hc23).2.2.2 (by decide) (by decide) ?_
            show Steps p.tables e below (s₁.setTop (mkF m 49 #[.val (.ref r0), .val (.int (0 : Int32)), .val (.int p2), .val (.int (0 : Int32)), .val (.int y0)] [])) _
            exact kt
      have pre15 : ∀ t, Steps p.tables e below (Tj14.setTop (mkF m 4 #[.val (.ref r0), .val (.int (0 : Int32)), .val (.int p2), .val (.int (1 : Int32)), .val (.int y0)] [(.int p2), (.int (1 : Int32))])) t → Steps p.tables e below (s₁.setTop (entryFrame m #[(.ref r0), (.int (0 : Int32)), (.int p2)] 5)) t := fun t kt => pre14 t (by
        show Steps p.tables e below (Tj14.setTop (mkF m 49 #[.val (.ref r0), .val (.int (0 : Int32)), .val (.int p2), .val (.int (0 : Int32)), .val (.int y0)] [])) _
        refine XS.iinc Xj14.here hx rfl (hb hby d3_49) rfl (l' := #[.val (.ref r0), .val (.int (0 : Int32)), .val (.int p2), .val (.int (1 : Int32)), .val (.int y0)]) rfl ?_
        refine XS.goto Xj14.here hx rfl (pc0 := 52) (pc' := 2) rfl (hb hby d3_52) (by decide) (by decide) ?_
        refine XS.iloadN Xj14.here hx rfl (hb hby d3_2) rfl ?_
        refine XS.iloadN Xj14.here hx rfl (hb hby d3_3) rfl ?_
        exact kt)
      by_cases hc4_2 : (1 : Int32) < p2
      · obtain ⟨cl16, Ar16, qa16, S16, Nl16, H16, G16⟩ := id V_b
        have hin16 : ¬ ((1 : Int32) < 0 ∨ cl16.slots.size ≤ ((1 : Int32)).toNatClampNeg) := inb_of S16 ⟨by decide, by decide⟩
        have hat16 : cl16.slots[((1 : Int32)).toNatClampNeg]? = some (.int y1) := Has.at H16 hin16 rfl
        have pre17 : ∀ t, Steps p.tables e below (Tj14.setTop (mkF m 12 #[.val (.ref r0), .val (.int (0 : Int32)), .val (.int p2), .val (.int (1 : Int32)), .val (.int y1)] [])) t → Steps p.tables e below (s₁.setTop (entryFrame m #[(.ref r0), (.int (0 : Int32)), (.int p2)] 5)) t := fun t kt => pre15 t (by
          show Steps p.tables e below (Tj14.setTop (mkF m 4 #[.val (.ref r0), .val (.int (0 : Int32)), .val (.int p2), .val (.int (1 : Int32)), .val (.int y0)] [(.int p2), (.int (1 : Int32))])) _
          refine XS.icmpNo Xj14.here hx rfl (hb hby d3_4) rfl (tlt hc4_2).2.1 ?_
          refine XS.aloadN Xj14.here hx rfl (hb hby d3_7) rfl rfl ?_
          refine XS.iloadN Xj14.here hx rfl (hb hby d3_8) rfl ?_
          refine Xj14.baloadBytes hx (j := (1 : Int32)) (v := (.int y1)) (by rw [ej14]; exact Ar16.1) (State.isArrayOf_alike hZ.alike Ar16.2.1) Ar16.2.2 hin16 hat16 (g := (mkF m 9 #[.val (.ref r0), .val (.int (0 : Int32)), .val (.int p2), .val (.int (1 : Int32)), .val (.int y0)] [(.int (1 : Int32)), (.ref r0)])) rfl rfl (hb hby d3_9) _ ?_
          refine XS.istore Xj14.here hx rfl (hb hby d3_10) rfl (l' := #[.val (.ref r0), .val (.int (0 : Int32)), .val (.int p2), .val (.int (1 : Int32)), .val (.int y1)]) rfl ?_
          exact kt)
        by_cases hk1 : (own_nm y1) = (1 : Int32)
        · obtain ⟨Tj28, lj28, Xj28, Nj28, ej28, pre28⟩ : ∃ (T' : State) (locs' : List Loc), Stand p l e ({ frames := 0, cells := 0, slots := 0, locals := 0 } : Room) s m #[(.ref r0), (.int (0 : Int32)), (.int p2)] below meth c T' locs' 0 0 ∧ Fr n0 locs' ∧ T'.heap = h0 ∧ ∀ t, Steps p.tables e below (T'.setTop (mkF m 49 #[.val (.ref r0), .val (.int (0 : Int32)), .val (.int p2), .val (.int (1 : Int32)), .val (.int y1)] [])) t → Steps p.tables e below (s₁.setTop (entryFrame m #[(.ref r0), (.int (0 : Int32)), (.int p2)] 5)) t := by
            have pre18 : ∀ t, Steps p.tables e below (Tj14.setTop (mkF m 16 #[.val (.ref r0), .val (.int (0 : Int32)), .val (.int p2), .val (.int (1 : Int32)), .val (.int y1)] [(.int (97 : Int32)), (.int y1)])) t → Steps p.tables e below (s₁.setTop (entryFrame m #[(.ref r0), (.int (0 : Int32)), (.int p2)] 5)) t := fun t kt => pre17 t (by
              show Steps p.tables e below (Tj14.setTop (mkF m 12 #[.val (.ref r0), .val (.int (0 : Int32)), .val (.int p2), .val (.int (1 : Int32)), .val (.int y1)] [])) _
              refine XS.iload Xj14.here hx rfl (hb hby d3_12) rfl ?_
              refine XS.bipush Xj14.here hx rfl (hb hby d3_14) ?_
              exact kt)
            by_cases hc16 : y1 < (97 : Int32)
            · have pre19 : ∀ t, Steps p.tables e below (Tj14.setTop (mkF m 30 #[.val (.ref r0), .val (.int (0 : Int32)), .val (.int p2), .val (.int (1 : Int32)), .val (.int y1)] [(.int (48 : Int32)), (.int y1)])) t → Steps p.tables e below (s₁.setTop (entryFrame m #[(.ref r0), (.int (0 : Int32)), (.int p2)] 5)) t := fun t kt => pre18 t (by
                show Steps p.tables e below (Tj14.setTop (mkF m 16 #[.val (.ref r0), .val (.int (0 : Int32)), .val (.int p2), .val (.int (1 : Int32)), .val (.int y1)] [(.int (97 : Int32)), (.int y1)])) _
                refine XS.icmpYes Xj14.here hx rfl (pc0 := 16) (pc' := 26) rfl (hb hby d3_16) rfl (tlt hc16).1 (by decide) (by decide) ?_
                refine XS.iload Xj14.here hx rfl (hb hby d3_26) rfl ?_
                refine XS.bipush Xj14.here hx rfl (hb hby d3_28) ?_
                exact kt)
              by_cases hc30 : y1 < (48 : Int32)
              · have pre20 : ∀ t, Steps p.tables e below (Tj14.setTop (mkF m 44 #[.val (.ref r0), .val (.int (0 : Int32)), .val (.int p2), .val (.int (1 : Int32)), .val (.int y1)] [(.int (45 : Int32)), (.int y1)])) t → Steps p.tables e below (s₁.setTop (entryFrame m #[(.ref r0), (.int (0 : Int32)), (.int p2)] 5)) t := fun t kt => pre19 t (by
                  show Steps p.tables e below (Tj14.setTop (mkF m 30 #[.val (.ref r0), .val (.int (0 : Int32)), .val (.int p2), .val (.int (1 : Int32)), .val (.int y1)] [(.int (48 : Int32)), (.int y1)])) _
                  refine XS.icmpYes Xj14.here hx rfl (pc0 := 30) (pc' := 40) rfl (hb hby d3_30) rfl (tlt hc30).1 (by decide) (by decide) ?_
                  refine XS.iload Xj14.here hx rfl (hb hby d3_40) rfl ?_
                  refine XS.bipush Xj14.here hx rfl (hb hby d3_42) ?_
                  exact kt)
                by_cases hc44 : y1 = (45 : Int32)
                · refine ⟨Tj14, _, Xj14, Nj14, ej14, fun t kt => pre20 t ?_⟩
                  show Steps p.tables e below (Tj14.setTop (mkF m 44 #[.val (.ref r0), .val (.int (0 : Int32)), .val (.int p2), .val (.int (1 : Int32)), .val (.int y1)] [(.int (45 : Int32)), (.int y1)])) _
                  refine XS.icmpYes Xj14.here hx rfl (pc0 := 44) (pc' := 49) rfl (hb hby d3_44) rfl (teq hc44).1 (by decide) (by decide) ?_
                  show Steps p.tables e below (Tj14.setTop (mkF m 49 #[.val (.ref r0), .val (.int (0 : Int32)), .val (.int p2), .val (.int (1 : Int32)), .val (.int y1)] [])) _
                  exact kt
                · exact absurd (show own_nm y1 = 0 by unfold own_nm; simp only [if_pos hc4, if_pos hc4_2, if_pos hc16, if_pos hc30, if_neg hc44]) (own_n0 hk1)
              · have pre21 : ∀ t, Steps p.tables e below (Tj14.setTop (mkF m 37 #[.val (.ref r0), .val (.int (0 : Int32)), .val (.int p2), .val (.int (1 : Int32)), .val (.int y1)] [(.int (57 : Int32)), (.int y1)])) t → Steps p.tables e below (s₁.setTop (entryFrame m #[(.ref r0), (.int (0 : Int32)), (.int p2)] 5)) t := fun t kt => pre19 t (by
                  show Steps p.tables e below (Tj14.setTop (mkF m 30 #[.val (.ref r0), .val (.int (0 : Int32)), .val (.int p2), .val (.int (1 : Int32)), .val (.int y1)] [(.int (48 : Int32)), (.int y1)])) _
                  refine XS.icmpNo Xj14.here hx rfl (hb hby d3_30) rfl (flt hc30).1 ?_
                  refine XS.iload Xj14.here hx rfl (hb hby d3_33) rfl ?_
                  refine XS.bipush Xj14.here hx rfl (hb hby d3_35) ?_
                  exact kt)
                by_cases hc37 : (57 : Int32) < y1
                · have pre22 : ∀ t, Steps p.tables e below (Tj14.setTop (mkF m 44 #[.val (.ref r0), .val (.int (0 : Int32)), .val (.int p2), .val (.int (1 : Int32)), .val (.int y1)] [(.int (45 : Int32)), (.int y1)])) t → Steps p.tables e below (s₁.setTop (entryFrame m #[(.ref r0), (.int (0 : Int32)), (.int p2)] 5)) t := fun t kt => pre21 t (by
                    show Steps p.tables e below (Tj14.setTop (mkF m 37 #[.val (.ref r0), .val (.int (0 : Int32)), .val (.int p2), .val (.int (1 : Int32)), .val (.int y1)] [(.int (57 : Int32)), (.int y1)])) _
                    refine XS.icmpNo Xj14.here hx rfl (hb hby d3_37) rfl (tlt hc37).2.2.2 ?_
                    refine XS.iload Xj14.here hx rfl (hb hby d3_40) rfl ?_
                    refine XS.bipush Xj14.here hx rfl (hb hby d3_42) ?_
                    exact kt)
                  by_cases hc44 : y1 = (45 : Int32)
                  · refine ⟨Tj14, _, Xj14, Nj14, ej14, fun t kt => pre22 t ?_⟩
                    show Steps p.tables e below (Tj14.setTop (mkF m 44 #[.val (.ref r0), .val (.int (0 : Int32)), .val (.int p2), .val (.int (1 : Int32)), .val (.int y1)] [(.int (45 : Int32)), (.int y1)])) _
                    refine XS.icmpYes Xj14.here hx rfl (pc0 := 44) (pc' := 49) rfl (hb hby d3_44) rfl (teq hc44).1 (by decide) (by decide) ?_
                    show Steps p.tables e below (Tj14.setTop (mkF m 49 #[.val (.ref r0), .val (.int (0 : Int32)), .val (.int p2), .val (.int (1 : Int32)), .val (.int y1)] [])) _
                    exact kt
                  · exact absurd (show own_nm y1 = 0 by unfold own_nm; simp only [if_pos hc4, if_pos hc4_2, if_pos hc16, if_neg hc30, if_pos hc37, if_neg hc44]) (own_n0 hk1)
                · refine ⟨Tj14, _, Xj14, Nj14, ej14, fun t kt => pre21 t ?_⟩
                  show Steps p.tables e below (Tj14.setTop (mkF m 37 #[.val (.ref r0), .val (.int (0 : Int32)), .val (.int p2), .val (.int (1 : Int32)), .val (.int y1)] [(.int (57 : Int32)), (.int y1)])) _
                  refine XS.icmpYes Xj14.here hx rfl (pc0 := 37) (pc' := 49) rfl (hb hby d3_37) rfl (flt hc37).2.2.2 (by decide) (by decide) ?_
                  show Steps p.tables e below (Tj14.setTop (mkF m 49 #[.val (.ref r0), .val (.int (0 : Int32)), .val (.int p2), .val (.int (1 : Int32)), .val (.int y1)] [])) _
                  exact kt
            · have pre23 : ∀ t, Steps p.tables e below (Tj14.setTop (mkF m 23 #[.val (.ref r0), .val (.int (0 : Int32)), .val (.int p2), .val (.int (1 : Int32)), .val (.int y1)] [(.int (122 : Int32)), (.int y1)])) t → Steps p.tables e below (s₁.setTop (entryFrame m #[(.ref r0), (.int (0 : Int32)), (.int p2)] 5)) t := fun t kt => pre18 t (by
                show Steps p.tables e below (Tj14.setTop (mkF m 16 #[.val (.ref r0), .val (.int (0 : Int32)), .val (.int p2), .val (.int (1 : Int32)), .val (.int y1)] [(.int (97 : Int32)), (.int y1)])) _
                refine XS.icmpNo Xj14.here hx rfl (hb hby d3_16) rfl (flt hc16).1 ?_
                refine XS.iload Xj14.here hx rfl (hb hby d3_19) rfl ?_
                refine XS.bipush Xj14.here hx rfl (hb hby d3_21) ?_
                exact kt)
              by_cases hc23 : (122 : Int32) < y1
              · have pre24 : ∀ t, Steps p.tables e below (Tj14.setTop (mkF m 30 #[.val (.ref r0), .val (.int (0 : Int32)), .val (.int p2), .val (.int (1 : Int32)), .val (.int y1)] [(.int (48 : Int32)), (.int y1)])) t → Steps p.tables e below (s₁.setTop (entryFrame m #[(.ref r0), (.int (0 : Int32)), (.int p2)] 5)) t := fun t kt => pre23 t (by
                  show Steps p.tables e below (Tj14.setTop (mkF m 23 #[.val (.ref r0), .val (.int (0 : Int32)), .val (.int p2), .val (.int (1 : Int32)), .val (.int y1)] [(.int (122 : Int32)), (.int y1)])) _
                  refine XS.icmpNo Xj14.here hx rfl (hb hby d3_23) rfl (tlt hc23).2.2.2 ?_
                  refine XS.iload Xj14.here hx rfl (hb hby d3_26) rfl ?_
                  refine XS.bipush Xj14.here hx rfl (hb hby d3_28) ?_
                  exact kt)
                by_cases hc30 : y1 < (48 : Int32)
                · have pre25 : ∀ t, Steps p.tables e below (Tj14.setTop (mkF m 44 #[.val (.ref r0), .val (.int (0 : Int32)), .val (.int p2), .val (.int (1 : Int32)), .val (.int y1)] [(.int (45 : Int32)), (.int y1)])) t → Steps p.tables e below (s₁.setTop (entryFrame m #[(.ref r0), (.int (0 : Int32)), (.int p2)] 5)) t := fun t kt => pre24 t (by
                    show Steps p.tables e below (Tj14.setTop (mkF m 30 #[.val (.ref r0), .val (.int (0 : Int32)), .val (.int p2), .val (.int (1 : Int32)), .val (.int y1)] [(.int (48 : Int32)), (.int y1)])) _
                    refine XS.icmpYes Xj14.here hx rfl (pc0 := 30) (pc' := 40) rfl (hb hby d3_30) rfl (tlt hc30).1 (by decide) (by decide) ?_
                    refine XS.iload Xj14.here hx rfl (hb hby d3_40) rfl ?_
                    refine XS.bipush Xj14.here hx rfl (hb hby d3_42) ?_
                    exact kt)
                  by_cases hc44 : y1 = (45 : Int32)
                  · refine ⟨Tj14, _, Xj14, Nj14, ej14, fun t kt => pre25 t ?_⟩
                    show Steps p.tables e below (Tj14.setTop (mkF m 44 #[.val (.ref r0), .val (.int (0 : Int32)), .val (.int p2), .val (.int (1 : Int32)), .val (.int y1)] [(.int (45 : Int32)), (.int y1)])) _
                    refine XS.icmpYes Xj14.here hx rfl (pc0 := 44) (pc' := 49) rfl (hb hby d3_44) rfl (teq hc44).1 (by decide) (by decide) ?_
                    show Steps p.tables e below (Tj14.setTop (mkF m 49 #[.val (.ref r0), .val (.int (0 : Int32)), .val (.int p2), .val (.int (1 : Int32)), .val (.int y1)] [])) _
                    exact kt
                  · exact absurd (show own_nm y1 = 0 by unfold own_nm; simp only [if_pos hc4, if_pos hc4_2, if_neg hc16, if_pos hc23, if_pos hc30, if_neg hc44]) (own_n0 hk1)
                · have pre26 : ∀ t, Steps p.tables e below (Tj14.setTop (mkF m 37 #[.val (.ref r0), .val (.int (0 : Int32)), .val (.int p2), .val (.int (1 : Int32)), .val (.int y1)] [(.int (57 : Int32)), (.int y1)])) t → Steps p.tables e below (s₁.setTop (entryFrame m #[(.ref r0), (.int (0 : Int32)), (.int p2)] 5)) t := fun t kt => pre24 t (by
                    show Steps p.tables e below (Tj14.setTop (mkF m 30 #[.val (.ref r0), .val (.int (0 : Int32)), .val (.int p2), .val (.int (1 : Int32)), .val (.int y1)] [(.int (48 : Int32)), (.int y1)])) _
                    refine XS.icmpNo Xj14.here hx rfl (hb hby d3_30) rfl (flt hc30).1 ?_
                    refine XS.iload Xj14.here hx rfl (hb hby d3_33) rfl ?_
                    refine XS.bipush Xj14.here hx rfl (hb hby d3_35) ?_
                    exact kt)
                  by_cases hc37 : (57 : Int32) < y1
                  · have pre27 : ∀ t, Steps p.tables e below (Tj14.setTop (mkF m 44 #[.val (.ref r0), .val (.int (0 : Int32)), .val (.int p2), .val (.int (1 : Int32)), .val (.int y1)] [(.int (45 : Int32)), (.int y1)])) t → Steps p.tables e below (s₁.setTop (entryFrame m #[(.ref r0), (.int (0 : Int32)), (.int p2)] 5)) t := fun t kt => pre26 t (by
                      show Steps p.tables e below (Tj14.setTop (mkF m 37 #[.val (.ref r0), .val (.int (0 : Int32)), .val (.int p2), .val (.int (1 : Int32)), .val (.int y1)] [(.int (57 : Int32)), (.int y1)])) _
                      refine XS.icmpNo Xj14.here hx rfl (hb hby d3_37) rfl (tlt hc37).2.2.2 ?_
                      refine XS.iload Xj14.here hx rfl (hb hby d3_40) rfl ?_
                      refine XS.bipush Xj14.here hx rfl (hb hby d3_42) ?_
                      exact kt)
                    by_cases hc44 : y1 = (45 : Int32)
                    · refine ⟨Tj14, _, Xj14, Nj14, ej14, fun t kt => pre27 t ?_⟩
                      show Steps p.tables e below (Tj14.setTop (mkF m 44 #[.val (.ref r0), .val (.int (0 : Int32)), .val (.int p2), .val (.int (1 : Int32)), .val (.int y1)] [(.int (45 : Int32)), (.int y1)])) _
                      refine XS.icmpYes Xj14.here hx rfl (pc0 := 44) (pc' := 49) rfl (hb hby d3_44) rfl (teq hc44).1 (by decide) (by decide) ?_
                      show Steps p.tables e below (Tj14.setTop (mkF m 49 #[.val (.ref r0), .val (.int (0 : Int32)), .val (.int p2), .val (.int (1 : Int32)), .val (.int y1)] [])) _
                      exact kt
                    · exact absurd (show own_nm y1 = 0 by unfold own_nm; simp only [if_pos hc4, if_pos hc4_2, if_neg hc16, if_pos hc23, if_neg hc30, if_pos hc37, if_neg hc44]) (own_n0 hk1)
                  · refine ⟨Tj14, _, Xj14, Nj14, ej14, fun t kt => pre26 t ?_⟩
                    show Steps p.tables e below (Tj14.setTop (mkF m 37 #[.val (.ref r0), .val (.int (0 : Int32)), .val (.int p2), .val (.int (1 : Int32)), .val (.int y1)] [(.int (57 : Int32)), (.int y1)])) _
                    refine XS.icmpYes Xj14.here hx rfl (pc0 := 37) (pc' := 49) rfl (hb hby d3_37) rfl (flt hc37).2.2.2 (by decide) (by decide) ?_
                    show Steps p.tables e below (Tj14.setTop (mkF m 49 #[.val (.ref r0), .val (.int (0 : Int32)), .val (.int p2), .val (.int (1 : Int32)), .val (.int y1)] [])) _
                    exact kt
              · refine ⟨Tj14, _, Xj14, Nj14, ej14, fun t kt => pre23 t ?_⟩
                show Steps p.tables e below (Tj14.setTop (mkF m 23 #[.val (.ref r0), .val (.int (0 : Int32)), .val (.int p2), .val (.int (1 : Int32)), .val (.int y1)] [(.int (122 : Int32)), (.int y1)])) _
                refine XS.icmpYes Xj14.here hx rfl (pc0 := 23) (pc' := 49) rfl (hb hby d3_23) rfl (flt hc23).2.2.2 (by decide) (by decide) ?_
                show Steps p.tables e below (Tj14.setTop (mkF m 49 #[.val (.ref r0), .val (.int (0 : Int32)), .val (.int p2), .val (.int (1 : Int32)), .val (.int y1)] [])) _
                exact kt
          have pre29 : ∀ t, Steps p.tables e below (Tj28.setTop (mkF m 4 #[.val (.ref r0), .val (.int (0 : Int32)), .val (.int p2), .val (.int (2 : Int32)), .val (.int y1)] [(.int p2), (.int (2 : Int32))])) t → Steps p.tables e below (s₁.setTop (entryFrame m #[(.ref r0), (.int (0 : Int32)), (.int p2)] 5)) t := fun t kt => pre28 t (by
            show Steps p.tables e below (Tj28.setTop (mkF m 49 #[.val (.ref r0), .val (.int (0 : Int32)), .val (.int p2), .val (.int (1 : Int32)), .val (.int y1)] [])) _
            refine XS.iinc Xj28.here hx rfl (hb hby d3_49) rfl (l' := #[.val (.ref r0), .val (.int (0 : Int32)), .val (.int p2), .val (.int (2 : Int32)), .val (.int y1)]) rfl ?_
            refine XS.goto Xj28.here hx rfl (pc0 := 52) (pc' := 2) rfl (hb hby d3_52) (by decide) (by decide) ?_
            refine XS.iloadN Xj28.here hx rfl (hb hby d3_2) rfl ?_
            refine XS.iloadN Xj28.here hx rfl (hb hby d3_3) rfl ?_
            exact kt)
          by_cases hc4_3 : (2 : Int32) < p2
          · obtain ⟨cl30, Ar30, qa30, S30, Nl30, H30, G30⟩ := id V_b
            have hin30 : ¬ ((2 : Int32) < 0 ∨ cl30.slots.size ≤ ((2 : Int32)).toNatClampNeg) := inb_of S30 ⟨by decide, by decide⟩
            have hat30 : cl30.slots[((2 : Int32)).toNatClampNeg]? = some (.int y2) := Has.at H30 hin30 rfl
            have pre31 : ∀ t, Steps p.tables e below (Tj28.setTop (mkF m 12 #[.val (.ref r0), .val (.int (0 : Int32)), .val (.int p2), .val (.int (2 : Int32)), .val (.int y2)] [])) t → Steps p.tables e below (s₁.setTop (entryFrame m #[(.ref r0), (.int (0 : Int32)), (.int p2)] 5)) t := fun t kt => pre29 t (by
              show Steps p.tables e below (Tj28.setTop (mkF m 4 #[.val (.ref r0), .val (.int (0 : Int32)), .val (.int p2), .val (.int (2 : Int32)), .val (.int y1)] [(.int p2), (.int (2 : Int32))])) _
              refine XS.icmpNo Xj28.here hx rfl (hb hby d3_4) rfl (tlt hc4_3).2.1 ?_
              refine XS.aloadN Xj28.here hx rfl (hb hby d3_7) rfl rfl ?_
              refine XS.iloadN Xj28.here hx rfl (hb hby d3_8) rfl ?_
              refine Xj28.baloadBytes hx (j := (2 : Int32)) (v := (.int y2)) (by rw [ej28]; exact Ar30.1) (State.isArrayOf_alike hZ.alike Ar30.2.1) Ar30.2.2 hin30 hat30 (g := (mkF m 9 #[.val (.ref r0), .val (.int (0 : Int32)), .val (.int p2), .val (.int (2 : Int32)), .val (.int y1)] [(.int (2 : Int32)), (.ref r0)])) rfl rfl (hb hby d3_9) _ ?_
              refine XS.istore Xj28.here hx rfl (hb hby d3_10) rfl (l' := #[.val (.ref r0), .val (.int (0 : Int32)), .val (.int p2), .val (.int (2 : Int32)), .val (.int y2)]) rfl ?_
              exact kt)
            by_cases hk2 : (own_nm y2) = (1 : Int32)
            · obtain ⟨Tj42, lj42, Xj42, Nj42, ej42, pre42⟩ : ∃ (T' : State) (locs' : List Loc), Stand p l e ({ frames := 0, cells := 0, slots := 0, locals := 0 } : Room) s m #[(.ref r0), (.int (0 : Int32)), (.int p2)] below meth c T' locs' 0 0 ∧ Fr n0 locs' ∧ T'.heap = h0 ∧ ∀ t, Steps p.tables e below (T'.setTop (mkF m 49 #[.val (.ref r0), .val (.int (0 : Int32)), .val (.int p2), .val (.int (2 : Int32)), .val (.int y2)] [])) t → Steps p.tables e below (s₁.setTop (entryFrame m #[(.ref r0), (.int (0 : Int32)), (.int p2)] 5)) t := by
                have pre32 : ∀ t, Steps p.tables e below (Tj28.setTop (mkF m 16 #[.val (.ref r0), .val (.int (0 : Int32)), .val (.int p2), .val (.int (2 : Int32)), .val (.int y2)] [(.int (97 : Int32)), (.int y2)])) t → Steps p.tables e below (s₁.setTop (entryFrame m #[(.ref r0), (.int (0 : Int32)), (.int p2)] 5)) t := fun t kt => pre31 t (by
                  show Steps p.tables e below (Tj28.setTop (mkF m 12 #[.val (.ref r0), .val (.int (0 : Int32)), .val (.int p2), .val (.int (2 : Int32)), .val (.int y2)] [])) _
                  refine XS.iload Xj28.here hx rfl (hb hby d3_12) rfl ?_
                  refine XS.bipush Xj28.here hx rfl (hb hby d3_14) ?_
                  exact kt)
                by_cases hc16 : y2 < (97 : Int32)
                · have pre33 : ∀ t, Steps p.tables e below (Tj28.setTop (mkF m 30 #[.val (.ref r0), .val (.int (0 : Int32)), .val (.int p2), .val (.int (2 : Int32)), .val (.int y2)] [(.int (48 : Int32)), (.int y2)])) t → Steps p.tables e below (s₁.setTop (entryFrame m #[(.ref r0), (.int (0 : Int32)), (.int p2)] 5)) t := fun t kt => pre32 t (by
                    show Steps p.tables e below (Tj28.setTop (mkF m 16 #[.val (.ref r0), .val (.int (0 : Int32)), .val (.int p2), .val (.int (2 : Int32)), .val (.int y2)] [(.int (97 : Int32)), (.int y2)])) _
                    refine XS.icmpYes Xj28.here hx rfl (pc0 := 16) (pc' := 26) rfl (hb hby d3_16) rfl (tlt hc16).1 (by decide) (by decide) ?_
                    refine XS.iload Xj28.here hx rfl (hb hby d3_26) rfl ?_
                    refine XS.bipush Xj28.here hx rfl (hb hby d3_28) ?_
                    exact kt)
                  by_cases hc30 : y2 < (48 : Int32)
                  · have pre34 : ∀ t, Steps p.tables e below (Tj28.setTop (mkF m 44 #[.val (.ref r0), .val (.int (0 : Int32)), .val (.int p2), .val (.int (2 : Int32)), .val (.int y2)] [(.int (45 : Int32)), (.int y2)])) t → Steps p.tables e below (s₁.setTop (entryFrame m #[(.ref r0), (.int (0 : Int32)), (.int p2)] 5)) t := fun t kt => pre33 t (by
                      show Steps p.tables e below (Tj28.setTop (mkF m 30 #[.val (.ref r0), .val (.int (0 : Int32)), .val (.int p2), .val (.int (2 : Int32)), .val (.int y2)] [(.int (48 : Int32)), (.int y2)])) _
                      refine XS.icmpYes Xj28.here hx rfl (pc0 := 30) (pc' := 40) rfl (hb hby d3_30) rfl (tlt hc30).1 (by decide) (by decide) ?_
                      refine XS.iload Xj28.here hx rfl (hb hby d3_40) rfl ?_
                      refine XS.bipush Xj28.here hx rfl (hb hby d3_42) ?_
                      exact kt)
                    by_cases hc44 : y2 = (45 : Int32)
                    · refine ⟨Tj28, _, Xj28, Nj28, ej28, fun t kt => pre34 t ?_⟩
                      show Steps p.tables e below (Tj28.setTop (mkF m 44 #[.val (.ref r0), .val (.int (0 : Int32)), .val (.int p2), .val (.int (2 : Int32)), .val (.int y2)] [(.int (45 : Int32)), (.int y2)])) _
                      refine XS.icmpYes Xj28.here hx rfl (pc0 := 44) (pc' := 49) rfl (hb hby d3_44) rfl (teq hc44).1 (by decide) (by decide) ?_
                      show Steps p.tables e below (Tj28.setTop (mkF m 49 #[.val (.ref r0), .val (.int (0 : Int32)), .val (.int p2), .val (.int (2 : Int32)), .val (.int y2)] [])) _
                      exact kt
                    · exact absurd (show own_nm y2 = 0 by unfold own_nm; simp only [if_pos hc4, if_pos hc4_2, if_pos hc4_3, if_pos hc16, if_pos hc30, if_neg hc44]) (own_n0 hk2)
                  · have pre35 : ∀ t, Steps p.tables e below (Tj28.setTop (mkF m 37 #[.val (.ref r0), .val (.int (0 : Int32)), .val (.int p2), .val (.int (2 : Int32)), .val (.int y2)] [(.int (57 : Int32)), (.int y2)])) t → Steps p.tables e below (s₁.setTop (entryFrame m #[(.ref r0), (.int (0 : Int32)), (.int p2)] 5)) t := fun t kt => pre33 t (by
                      show Steps p.tables e below (Tj28.setTop (mkF m 30 #[.val (.ref r0), .val (.int (0 : Int32)), .val (.int p2), .val (.int (2 : Int32)), .val (.int y2)] [(.int (48 : Int32)), (.int y2)])) _
                      refine XS.icmpNo Xj28.here hx rfl (hb hby d3_30) rfl (flt hc30).1 ?_
                      refine XS.iload Xj28.here hx rfl (hb hby d3_33) rfl ?_
                      refine XS.bipush Xj28.here hx rfl (hb hby d3_35) ?_
                      exact kt)
                    by_cases hc37 : (57 : Int32) < y2
                    · have pre36 : ∀ t, Steps p.tables e below (Tj28.setTop (mkF m 44 #[.val (.ref r0), .val (.int (0 : Int32)), .val (.int p2), .val (.int (2 : Int32)), .val (.int y2)] [(.int (45 : Int32)), (.int y2)])) t → Steps p.tables e below (s₁.setTop (entryFrame m #[(.ref r0), (.int (0 : Int32)), (.int p2)] 5)) t := fun t kt => pre35 t (by
                        show Steps p.tables e below (Tj28.setTop (mkF m 37 #[.val (.ref r0), .val (.int (0 : Int32)), .val (.int p2), .val (.int (2 : Int32)), .val (.int y2)] [(.int (57 : Int32)), (.int y2)])) _
                        refine XS.icmpNo Xj28.here hx rfl (hb hby d3_37) rfl (tlt hc37).2.2.2 ?_
                        refine XS.iload Xj28.here hx rfl (hb hby d3_40) rfl ?_
                        refine XS.bipush Xj28.here hx rfl (hb hby d3_42) ?_
                        exact kt)
                      by_cases hc44 : y2 = (45 : Int32)
                      · refine ⟨Tj28, _, Xj28, Nj28, ej28, fun t kt => pre36 t ?_⟩
                        show Steps p.tables e below (Tj28.setTop (mkF m 44 #[.val (.ref r0), .val (.int (0 : Int32)), .val (.int p2), .val (.int (2 : Int32)), .val (.int y2)] [(.int (45 : Int32)), (.int y2)])) _
                        refine XS.icmpYes Xj28.here hx rfl (pc0 := 44) (pc' := 49) rfl (hb hby d3_44) rfl (teq hc44).1 (by decide) (by decide) ?_
                        show Steps p.tables e below (Tj28.setTop (mkF m 49 #[.val (.ref r0), .val (.int (0 : Int32)), .val (.int p2), .val (.int (2 : Int32)), .val (.int y2)] [])) _
                        exact kt
                      · exact absurd (show own_nm y2 = 0 by unfold own_nm; simp only [if_pos hc4, if_pos hc4_2, if_pos hc4_3, if_pos hc16, if_neg hc30, if_pos hc37, if_neg hc44]) (own_n0 hk2)
                    · refine ⟨Tj28, _, Xj28, Nj28, ej28, fun t kt => pre35 t ?_⟩
                      show Steps p.tables e below (Tj28.setTop (mkF m 37 #[.val (.ref r0), .val (.int (0 : Int32)), .val (.int p2), .val (.int (2 : Int32)), .val (.int y2)] [(.int (57 : Int32)), (.int y2)])) _
                      refine XS.icmpYes Xj28.here hx rfl (pc0 := 37) (pc' := 49) rfl (hb hby d3_37) rfl (flt hc37).2.2.2 (by decide) (by decide) ?_
                      show Steps p.tables e below (Tj28.setTop (mkF m 49 #[.val (.ref r0), .val (.int (0 : Int32)), .val (.int p2), .val (.int (2 : Int32)), .val (.int y2)] [])) _
                      exact kt
                · have pre37 : ∀ t, Steps p.tables e below (Tj28.setTop (mkF m 23 #[.val (.ref r0), .val (.int (0 : Int32)), .val (.int p2), .val (.int (2 : Int32)), .val (.int y2)] [(.int (122 : Int32)), (.int y2)])) t → Steps p.tables e below (s₁.setTop (entryFrame m #[(.ref r0), (.int (0 : Int32)), (.int p2)] 5)) t := fun t kt => pre32 t (by
                    show Steps p.tables e below (Tj28.setTop (mkF m 16 #[.val (.ref r0), .val (.int (0 : Int32)), .val (.int p2), .val (.int (2 : Int32)), .val (.int y2)] [(.int (97 : Int32)), (.int y2)])) _
                    refine XS.icmpNo Xj28.here hx rfl (hb hby d3_16) rfl (flt hc16).1 ?_
                    refine XS.iload Xj28.here hx rfl (hb hby d3_19) rfl ?_
                    refine XS.bipush Xj28.here hx rfl (hb hby d3_21) ?_
                    exact kt)
                  by_cases hc23 : (122 : Int32) < y2
                  · have pre38 : ∀ t, Steps p.tables e below (Tj28.setTop (mkF m 30 #[.val (.ref r0), .val (.int (0 : Int32)), .val (.int p2), .val (.int (2 : Int32)), .val (.int y2)] [(.int (48 : Int32)), (.int y2)])) t → Steps p.tables e below (s₁.setTop (entryFrame m #[(.ref r0), (.int (0 : Int32)), (.int p2)] 5)) t := fun t kt => pre37 t (by
                      show Steps p.tables e below (Tj28.setTop (mkF m 23 #[.val (.ref r0), .val (.int (0 : Int32)), .val (.int p2), .val (.int (2 : Int32)), .val (.int y2)] [(.int (122 : Int32)), (.int y2)])) _
                      refine XS.icmpNo Xj28.here hx rfl (hb hby d3_23) rfl (tlt hc23).2.2.2 ?_
                      refine XS.iload Xj28.here hx rfl (hb hby d3_26) rfl ?_
                      refine XS.bipush Xj28.here hx rfl (hb hby d3_28) ?_
                      exact kt)
                    by_cases hc30 : y2 < (48 : Int32)
                    · have pre39 : ∀ t, Steps p.tables e below (Tj28.setTop (mkF m 44 #[.val (.ref r0), .val (.int (0 : Int32)), .val (.int p2), .val (.int (2 : Int32)), .val (.int y2)] [(.int (45 : Int32)), (.int y2)])) t → Steps p.tables e below (s₁.setTop (entryFrame m #[(.ref r0), (.int (0 : Int32)), (.int p2)] 5)) t := fun t kt => pre38 t (by
                        show Steps p.tables e below (Tj28.setTop (mkF m 30 #[.val (.ref r0), .val (.int (0 : Int32)), .val (.int p2), .val (.int (2 : Int32)), .val (.int y2)] [(.int (48 : Int32)), (.int y2)])) _
                        refine XS.icmpYes Xj28.here hx rfl (pc0 := 30) (pc' := 40) rfl (hb hby d3_30) rfl (tlt hc30).1 (by decide) (by decide) ?_
                        refine XS.iload Xj28.here hx rfl (hb hby d3_40) rfl ?_
                        refine XS.bipush Xj28.here hx rfl (hb hby d3_42) ?_
                        exact kt)
                      by_cases hc44 : y2 = (45 : Int32)
                      · refine ⟨Tj28, _, Xj28, Nj28, ej28, fun t kt => pre39 t ?_⟩
                        show Steps p.tables e below (Tj28.setTop (mkF m 44 #[.val (.ref r0), .val (.int (0 : Int32)), .val (.int p2), .val (.int (2 : Int32)), .val (.int y2)] [(.int (45 : Int32)), (.int y2)])) _
                        refine XS.icmpYes Xj28.here hx rfl (pc0 := 44) (pc' := 49) rfl (hb hby d3_44) rfl (teq hc44).1 (by decide) (by decide) ?_
                        show Steps p.tables e below (Tj28.setTop (mkF m 49 #[.val (.ref r0), .val (.int (0 : Int32)), .val (.int p2), .val (.int (2 : Int32)), .val (.int y2)] [])) _
                        exact kt
                      · exact absurd (show own_nm y2 = 0 by unfold own_nm; simp only [if_pos hc4, if_pos hc4_2, if_pos hc4_3, if_neg hc16, if_pos hc23, if_pos hc30, if_neg hc44]) (own_n0 hk2)
                    · have pre40 : ∀ t, Steps p.tables e below (Tj28.setTop (mkF m 37 #[.val (.ref r0), .val (.int (0 : Int32)), .val (.int p2), .val (.int (2 : Int32)), .val (.int y2)] [(.int (57 : Int32)), (.int y2)])) t → Steps p.tables e below (s₁.setTop (entryFrame m #[(.ref r0), (.int (0 : Int32)), (.int p2)] 5)) t := fun t kt => pre38 t (by
                        show Steps p.tables e below (Tj28.setTop (mkF m 30 #[.val (.ref r0), .val (.int (0 : Int32)), .val (.int p2), .val (.int (2 : Int32)), .val (.int y2)] [(.int (48 : Int32)), (.int y2)])) _
                        refine XS.icmpNo Xj28.here hx rfl (hb hby d3_30) rfl (flt hc30).1 ?_
                        refine XS.iload Xj28.here hx rfl (hb hby d3_33) rfl ?_
                        refine XS.bipush Xj28.here hx rfl (hb hby d3_35) ?_
                        exact kt)
                      by_cases hc37 : (57 : Int32) < y2
                      · have pre41 : ∀ t, Steps p.tables e below (Tj28.setTop (mkF m 44 #[.val (.ref r0), .val (.int (0 : Int32)), .val (.int p2), .val (.int (2 : Int32)), .val (.int y2)] [(.int (45 : Int32)), (.int y2)])) t → Steps p.tables e below (s₁.setTop (entryFrame m #[(.ref r0), (.int (0 : Int32)), (.int p2)] 5)) t := fun t kt => pre40 t (by
                          show Steps p.tables e below (Tj28.setTop (mkF m 37 #[.val (.ref r0), .val (.int (0 : Int32)), .val (.int p2), .val (.int (2 : Int32)), .val (.int y2)] [(.int (57 : Int32)), (.int y2)])) _
                          refine XS.icmpNo Xj28.here hx rfl (hb hby d3_37) rfl (tlt hc37).2.2.2 ?_
                          refine XS.iload Xj28.here hx rfl (hb hby d3_40) rfl ?_
                          refine XS.bipush Xj28.here hx rfl (hb hby d3_42) ?_
                          exact kt)
                        by_cases hc44 : y2 = (45 : Int32)
                        · refine ⟨Tj28, _, Xj28, Nj28, ej28, fun t kt => pre41 t ?_⟩
                          show Steps p.tables e below (Tj28.setTop (mkF m 44 #[.val (.ref r0), .val (.int (0 : Int32)), .val (.int p2), .val (.int (2 : Int32)), .val (.int y2)] [(.int (45 : Int32)), (.int y2)])) _
                          refine XS.icmpYes Xj28.here hx rfl (pc0 := 44) (pc' := 49) rfl (hb hby d3_44) rfl (teq hc44).1 (by decide) (by decide) ?_
                          show Steps p.tables e below (Tj28.setTop (mkF m 49 #[.val (.ref r0), .val (.int (0 : Int32)), .val (.int p2), .val (.int (2 : Int32)), .val (.int y2)] [])) _
                          exact kt
                        · exact absurd (show own_nm y2 = 0 by unfold own_nm; simp only [if_pos hc4, if_pos hc4_2, if_pos hc4_3, if_neg hc16, if_pos hc23, if_neg hc30, if_pos hc37, if_neg hc44]) (own_n0 hk2)
                      · refine ⟨Tj28, _, Xj28, Nj28, ej28, fun t kt => pre40 t ?_⟩
                        show Steps p.tables e below (Tj28.setTop (mkF m 37 #[.val (.ref r0), .val (.int (0 : Int32)), .val (.int p2), .val (.int (2 : Int32)), .val (.int y2)] [(.int (57 : Int32)), (.int y2)])) _
                        refine XS.icmpYes Xj28.here hx rfl (pc0 := 37) (pc' := 49) rfl (hb hby d3_37) rfl (flt hc37).2.2.2 (by decide) (by decide) ?_
                        show Steps p.tables e below (Tj28.setTop (mkF m 49 #[.val (.ref r0), .val (.int (0 : Int32)), .val (.int p2), .val (.int (2 : Int32)), .val (.int y2)] [])) _
                        exact kt
                  · refine ⟨Tj28, _, Xj28, Nj28, ej28, fun t kt => pre37 t ?_⟩
                    show Steps p.tables e below (Tj28.setTop (mkF m 23 #[.val (.ref r0), .val (.int (0 : Int32)), .val (.int p2), .val (.int (2 : Int32)), .val (.int y2)] [(.int (122 : Int32)), (.int y2)])) _
                    refine XS.icmpYes Xj28.here hx rfl (pc0 := 23) (pc' := 49) rfl (hb hby d3_23) rfl (flt hc23).2.2.2 (by decide) (by decide) ?_
                    show Steps p.tables e below (Tj28.setTop (mkF m 49 #[.val (.ref r0), .val (.int (0 : Int32)), .val (.int p2), .val (.int (2 : Int32)), .val (.int y2)] [])) _
                    exact kt
              have pre43 : ∀ t, Steps p.tables e below (Tj42.setTop (mkF m 4 #[.val (.ref r0), .val (.int (0 : Int32)), .val (.int p2), .val (.int (3 : Int32)), .val (.int y2)] [(.int p2), (.int (3 : Int32))])) t → Steps p.tables e below (s₁.setTop (entryFrame m #[(.ref r0), (.int (0 : Int32)), (.int p2)] 5)) t := fun t kt => pre42 t (by
                show Steps p.tables e below (Tj42.setTop (mkF m 49 #[.val (.ref r0), .val (.int (0 : Int32)), .val (.int p2), .val (.int (2 : Int32)), .val (.int y2)] [])) _
                refine XS.iinc Xj42.here hx rfl (hb hby d3_49) rfl (l' := #[.val (.ref r0), .val (.int (0 : Int32)), .val (.int p2), .val (.int (3 : Int32)), .val (.int y2)]) rfl ?_
                refine XS.goto Xj42.here hx rfl (pc0 := 52) (pc' := 2) rfl (hb hby d3_52) (by decide) (by decide) ?_
                refine XS.iloadN Xj42.here hx rfl (hb hby d3_2) rfl ?_
                refine XS.iloadN Xj42.here hx rfl (hb hby d3_3) rfl ?_
                exact kt)
              by_cases hc4_4 : (3 : Int32) < p2
              · obtain ⟨cl44, Ar44, qa44, S44, Nl44, H44, G44⟩ := id V_b
                have hin44 : ¬ ((3 : Int32) < 0 ∨ cl44.slots.size ≤ ((3 : Int32)).toNatClampNeg) := inb_of S44 ⟨by decide, by decide⟩
                have hat44 : cl44.slots[((3 : Int32)).toNatClampNeg]? = some (.int y3) := Has.at H44 hin44 rfl
                have pre45 : ∀ t, Steps p.tables e below (Tj42.setTop (mkF m 12 #[.val (.ref r0), .val (.int (0 : Int32)), .val (.int p2), .val (.int (3 : Int32)), .val (.int y3)] [])) t → Steps p.tables e below (s₁.setTop (entryFrame m #[(.ref r0), (.int (0 : Int32)), (.int p2)] 5)) t := fun t kt => pre43 t (by
                  show Steps p.tables e below (Tj42.setTop (mkF m 4 #[.val (.ref r0), .val (.int (0 : Int32)), .val (.int p2), .val (.int (3 : Int32)), .val (.int y2)] [(.int p2), (.int (3 : Int32))])) _
                  refine XS.icmpNo Xj42.here hx rfl (hb hby d3_4) rfl (tlt hc4_4).2.1 ?_
                  refine XS.aloadN Xj42.here hx rfl (hb hby d3_7) rfl rfl ?_
                  refine XS.iloadN Xj42.here hx rfl (hb hby d3_8) rfl ?_
                  refine Xj42.baloadBytes hx (j := (3 : Int32)) (v := (.int y3)) (by rw [ej42]; exact Ar44.1) (State.isArrayOf_alike hZ.alike Ar44.2.1) Ar44.2.2 hin44 hat44 (g := (mkF m 9 #[.val (.ref r0), .val (.int (0 : Int32)), .val (.int p2), .val (.int (3 : Int32)), .val (.int y2)] [(.int (3 : Int32)), (.ref r0)])) rfl rfl (hb hby d3_9) _ ?_
                  refine XS.istore Xj42.here hx rfl (hb hby d3_10) rfl (l' := #[.val (.ref r0), .val (.int (0 : Int32)), .val (.int p2), .val (.int (3 : Int32)), .val (.int y3)]) rfl ?_
                  exact kt)
                by_cases hk3 : (own_nm y3) = (1 : Int32)
                · obtain ⟨Tj56, lj56, Xj56, Nj56, ej56, pre56⟩ : ∃ (T' : State) (locs' : List Loc), Stand p l e ({ frames := 0, cells := 0, slots := 0, locals := 0 } : Room) s m #[(.ref r0), (.int (0 : Int32)), (.int p2)] below meth c T' locs' 0 0 ∧ Fr n0 locs' ∧ T'.heap = h0 ∧ ∀ t, Steps p.tables e below (T'.setTop (mkF m 49 #[.val (.ref r0), .val (.int (0 : Int32)), .val (.int p2), .val (.int (3 : Int32)), .val (.int y3)] [])) t → Steps p.tables e below (s₁.setTop (entryFrame m #[(.ref r0), (.int (0 : Int32)), (.int p2)] 5)) t := by
                    have pre46 : ∀ t, Steps p.tables e below (Tj42.setTop (mkF m 16 #[.val (.ref r0), .val (.int (0 : Int32)), .val (.int p2), .val (.int (3 : Int32)), .val (.int y3)] [(.int (97 : Int32)), (.int y3)])) t → Steps p.tables e below (s₁.setTop (entryFrame m #[(.ref r0), (.int (0 : Int32)), (.int p2)] 5)) t := fun t kt => pre45 t (by
                      show Steps p.tables e below (Tj42.setTop (mkF m 12 #[.val (.ref r0), .val (.int (0 : Int32)), .val (.int p2), .val (.int (3 : Int32)), .val (.int y3)] [])) _
                      refine XS.iload Xj42.here hx rfl (hb hby d3_12) rfl ?_
                      refine XS.bipush Xj42.here hx rfl (hb hby d3_14) ?_
                      exact kt)
                    by_cases hc16 : y3 < (97 : Int32)
                    · have pre47 : ∀ t, Steps p.tables e below (Tj42.setTop (mkF m 30 #[.val (.ref r0), .val (.int (0 : Int32)), .val (.int p2), .val (.int (3 : Int32)), .val (.int y3)] [(.int (48 : Int32)), (.int y3)])) t → Steps p.tables e below (s₁.setTop (entryFrame m #[(.ref r0), (.int (0 : Int32)), (.int p2)] 5)) t := fun t kt => pre46 t (by
                        show Steps p.tables e below (Tj42.setTop (mkF m 16 #[.val (.ref r0), .val (.int (0 : Int32)), .val (.int p2), .val (.int (3 : Int32)), .val (.int y3)] [(.int (97 : Int32)), (.int y3)])) _
                        refine XS.icmpYes Xj42.here hx rfl (pc0 := 16) (pc' := 26) rfl (hb hby d3_16) rfl (tlt hc16).1 (by decide) (by decide) ?_
                        refine XS.iload Xj42.here hx rfl (hb hby d3_26) rfl ?_
                        refine XS.bipush Xj42.here hx rfl (hb hby d3_28) ?_
                        exact kt)
                      by_cases hc30 : y3 < (48 : Int32)
                      · have pre48 : ∀ t, Steps p.tables e below (Tj42.setTop (mkF m 44 #[.val (.ref r0), .val (.int (0 : Int32)), .val (.int p2), .val (.int (3 : Int32)), .val (.int y3)] [(.int (45 : Int32)), (.int y3)])) t → Steps p.tables e below (s₁.setTop (entryFrame m #[(.ref r0), (.int (0 : Int32)), (.int p2)] 5)) t := fun t kt => pre47 t (by
                          show Steps p.tables e below (Tj42.setTop (mkF m 30 #[.val (.ref r0), .val (.int (0 : Int32)), .val (.int p2), .val (.int (3 : Int32)), .val (.int y3)] [(.int (48 : Int32)), (.int y3)])) _
                          refine XS.icmpYes Xj42.here hx rfl (pc0 := 30) (pc' := 40) rfl (hb hby d3_30) rfl (tlt hc30).1 (by decide) (by decide) ?_
                          refine XS.iload Xj42.here hx rfl (hb hby d3_40) rfl ?_
                          refine XS.bipush Xj42.here hx rfl (hb hby d3_42) ?_
                          exact kt)
                        by_cases hc44 : y3 = (45 : Int32)
                        · refine ⟨Tj42, _, Xj42, Nj42, ej42, fun t kt => pre48 t ?_⟩
                          show Steps p.tables e below (Tj42.setTop (mkF m 44 #[.val (.ref r0), .val (.int (0 : Int32)), .val (.int p2), .val (.int (3 : Int32)), .val (.int y3)] [(.int (45 : Int32)), (.int y3)])) _
                          refine XS.icmpYes Xj42.here hx rfl (pc0 := 44) (pc' := 49) rfl (hb hby d3_44) rfl (teq hc44).1 (by decide) (by decide) ?_
                          show Steps p.tables e below (Tj42.setTop (mkF m 49 #[.val (.ref r0), .val (.int (0 : Int32)), .val (.int p2), .val (.int (3 : Int32)), .val (.int y3)] [])) _
                          exact kt
                        · exact absurd (show own_nm y3 = 0 by unfold own_nm; simp only [if_pos hc4, if_pos hc4_2, if_pos hc4_3, if_pos hc4_4, if_pos hc16, if_pos hc30, if_neg hc44]) (own_n0 hk3)
                      · have pre49 : ∀ t, Steps p.tables e below (Tj42.setTop (mkF m 37 #[.val (.ref r0), .val (.int (0 : Int32)), .val (.int p2), .val (.int (3 : Int32)), .val (.int y3)] [(.int (57 : Int32)), (.int y3)])) t → Steps p.tables e below (s₁.setTop (entryFrame m #[(.ref r0), (.int (0 : Int32)), (.int p2)] 5)) t := fun t kt => pre47 t (by
                          show Steps p.tables e below (Tj42.setTop (mkF m 30 #[.val (.ref r0), .val (.int (0 : Int32)), .val (.int p2), .val (.int (3 : Int32)), .val (.int y3)] [(.int (48 : Int32)), (.int y3)])) _
                          refine XS.icmpNo Xj42.here hx rfl (hb hby d3_30) rfl (flt hc30).1 ?_
                          refine XS.iload Xj42.here hx rfl (hb hby d3_33) rfl ?_
                          refine XS.bipush Xj42.here hx rfl (hb hby d3_35) ?_
                          exact kt)
                        by_cases hc37 : (57 : Int32) < y3
                        · have pre50 : ∀ t, Steps p.tables e below (Tj42.setTop (mkF m 44 #[.val (.ref r0), .val (.int (0 : Int32)), .val (.int p2), .val (.int (3 : Int32)), .val (.int y3)] [(.int (45 : Int32)), (.int y3)])) t → Steps p.tables e below (s₁.setTop (entryFrame m #[(.ref r0), (.int (0 : Int32)), (.int p2)] 5)) t := fun t kt => pre49 t (by
                            show Steps p.tables e below (Tj42.setTop (mkF m 37 #[.val (.ref r0), .val (.int (0 : Int32)), .val (.int p2), .val (.int (3 : Int32)), .val (.int y3)] [(.int (57 : Int32)), (.int y3)])) _
                            refine XS.icmpNo Xj42.here hx rfl (hb hby d3_37) rfl (tlt hc37).2.2.2 ?_
                            refine XS.iload Xj42.here hx rfl (hb hby d3_40) rfl ?_
                            refine XS.bipush Xj42.here hx rfl (hb hby d3_42) ?_
                            exact kt)
                          by_cases hc44 : y3 = (45 : Int32)
                          · refine ⟨Tj42, _, Xj42, Nj42, ej42, fun t kt => pre50 t ?_⟩
                            show Steps p.tables e below (Tj42.setTop (mkF m 44 #[.val (.ref r0), .val (.int (0 : Int32)), .val (.int p2), .val (.int (3 : Int32)), .val (.int y3)] [(.int (45 : Int32)), (.int y3)])) _
                            refine XS.icmpYes Xj42.here hx rfl (pc0 := 44) (pc' := 49) rfl (hb hby d3_44) rfl (teq hc44).1 (by decide) (by decide) ?_
                            show Steps p.tables e below (Tj42.setTop (mkF m 49 #[.val (.ref r0), .val (.int (0 : Int32)), .val (.int p2), .val (.int (3 : Int32)), .val (.int y3)] [])) _
                            exact kt
                          · exact absurd (show own_nm y3 = 0 by unfold own_nm; simp only [if_pos hc4, if_pos hc4_2, if_pos hc4_3, if_pos hc4_4, if_pos hc16, if_neg hc30, if_pos hc37, if_neg hc44]) (own_n0 hk3)
                        · refine ⟨Tj42, _, Xj42, Nj42, ej42, fun t kt => pre49 t ?_⟩
                          show Steps p.tables e below (Tj42.setTop (mkF m 37 #[.val (.ref r0), .val (.int (0 : Int32)), .val (.int p2), .val (.int (3 : Int32)), .val (.int y3)] [(.int (57 : Int32)), (.int y3)])) _
                          refine XS.icmpYes Xj42.here hx rfl (pc0 := 37) (pc' := 49) rfl (hb hby d3_37) rfl (flt hc37).2.2.2 (by decide) (by decide) ?_
                          show Steps p.tables e below (Tj42.setTop (mkF m 49 #[.val (.ref r0), .val (.int (0 : Int32)), .val (.int p2), .val (.int (3 : Int32)), .val (.int y3)] [])) _
                          exact kt
                    · have pre51 : ∀ t, Steps p.tables e below (Tj42.setTop (mkF m 23 #[.val (.ref r0), .val (.int (0 : Int32)), .val (.int p2), .val (.int (3 : Int32)), .val (.int y3)] [(.int (122 : Int32)), (.int y3)])) t → Steps p.tables e below (s₁.setTop (entryFrame m #[(.ref r0), (.int (0 : Int32)), (.int p2)] 5)) t := fun t kt => pre46 t (by
                        show Steps p.tables e below (Tj42.setTop (mkF m 16 #[.val (.ref r0), .val (.int (0 : Int32)), .val (.int p2), .val (.int (3 : Int32)), .val (.int y3)] [(.int (97 : Int32)), (.int y3)])) _
                        refine XS.icmpNo Xj42.here hx rfl (hb hby d3_16) rfl (flt hc16).1 ?_
                        refine XS.iload Xj42.here hx rfl (hb hby d3_19) rfl ?_
                        refine XS.bipush Xj42.here hx rfl (hb hby d3_21) ?_
                        exact kt)
                      by_cases hc23 : (122 : Int32) < y3
                      · have pre52 : ∀ t, Steps p.tables e below (Tj42.setTop (mkF m 30 #[.val (.ref r0), .val (.int (0 : Int32)), .val (.int p2), .val (.int (3 : Int32)), .val (.int y3)] [(.int (48 : Int32)), (.int y3)])) t → Steps p.tables e below (s₁.setTop (entryFrame m #[(.ref r0), (.int (0 : Int32)), (.int p2)] 5)) t := fun t kt => pre51 t (by
                          show Steps p.tables e below (Tj42.setTop (mkF m 23 #[.val (.ref r0), .val (.int (0 : Int32)), .val (.int p2), .val (.int (3 : Int32)), .val (.int y3)] [(.int (122 : Int32)), (.int y3)])) _
                          refine XS.icmpNo Xj42.here hx rfl (hb hby d3_23) rfl (tlt hc23).2.2.2 ?_
                          refine XS.iload Xj42.here hx rfl (hb hby d3_26) rfl ?_
                          refine XS.bipush Xj42.here hx rfl (hb hby d3_28) ?_
                          exact kt)
                        by_cases hc30 : y3 < (48 : Int32)
                        · have pre53 : ∀ t, Steps p.tables e below (Tj42.setTop (mkF m 44 #[.val (.ref r0), .val (.int (0 : Int32)), .val (.int p2), .val (.int (3 : Int32)), .val (.int y3)] [(.int (45 : Int32)), (.int y3)])) t → Steps p.tables e below (s₁.setTop (entryFrame m #[(.ref r0), (.int (0 : Int32)), (.int p2)] 5)) t := fun t kt => pre52 t (by
                            show Steps p.tables e below (Tj42.setTop (mkF m 30 #[.val (.ref r0), .val (.int (0 : Int32)), .val (.int p2), .val (.int (3 : Int32)), .val (.int y3)] [(.int (48 : Int32)), (.int y3)])) _
                            refine XS.icmpYes Xj42.here hx rfl (pc0 := 30) (pc' := 40) rfl (hb hby d3_30) rfl (tlt hc30).1 (by decide) (by decide) ?_
                            refine XS.iload Xj42.here hx rfl (hb hby d3_40) rfl ?_
                            refine XS.bipush Xj42.here hx rfl (hb hby d3_42) ?_
                            exact kt)
                          by_cases hc44 : y3 = (45 : Int32)
                          · refine ⟨Tj42, _, Xj42, Nj42, ej42, fun t kt => pre53 t ?_⟩
                            show Steps p.tables e below (Tj42.setTop (mkF m 44 #[.val (.ref r0), .val (.int (0 : Int32)), .val (.int p2), .val (.int (3 : Int32)), .val (.int y3)] [(.int (45 : Int32)), (.int y3)])) _
                            refine XS.icmpYes Xj42.here hx rfl (pc0 := 44) (pc' := 49) rfl (hb hby d3_44) rfl (teq hc44).1 (by decide) (by decide) ?_
                            show Steps p.tables e below (Tj42.setTop (mkF m 49 #[.val (.ref r0), .val (.int (0 : Int32)), .val (.int p2), .val (.int (3 : Int32)), .val (.int y3)] [])) _
                            exact kt
                          · exact absurd (show own_nm y3 = 0 by unfold own_nm; simp only [if_pos hc4, if_pos hc4_2, if_pos hc4_3, if_pos hc4_4, if_neg hc16, if_pos hc23, if_pos hc30, if_neg hc44]) (own_n0 hk3)
                        · have pre54 : ∀ t, Steps p.tables e below (Tj42.setTop (mkF m 37 #[.val (.ref r0), .val (.int (0 : Int32)), .val (.int p2), .val (.int (3 : Int32)), .val (.int y3)] [(.int (57 : Int32)), (.int y3)])) t → Steps p.tables e below (s₁.setTop (entryFrame m #[(.ref r0), (.int (0 : Int32)), (.int p2)] 5)) t := fun t kt => pre52 t (by
                            show Steps p.tables e below (Tj42.setTop (mkF m 30 #[.val (.ref r0), .val (.int (0 : Int32)), .val (.int p2), .val (.int (3 : Int32)), .val (.int y3)] [(.int (48 : Int32)), (.int y3)])) _
                            refine XS.icmpNo Xj42.here hx rfl (hb hby d3_30) rfl (flt hc30).1 ?_
                            refine XS.iload Xj42.here hx rfl (hb hby d3_33) rfl ?_
                            refine XS.bipush Xj42.here hx rfl (hb hby d3_35) ?_
                            exact kt)
                          by_cases hc37 : (57 : Int32) < y3
                          · have pre55 : ∀ t, Steps p.tables e below (Tj42.setTop (mkF m 44 #[.val (.ref r0), .val (.int (0 : Int32)), .val (.int p2), .val (.int (3 : Int32)), .val (.int y3)] [(.int (45 : Int32)), (.int y3)])) t → Steps p.tables e below (s₁.setTop (entryFrame m #[(.ref r0), (.int (0 : Int32)), (.int p2)] 5)) t := fun t kt => pre54 t (by
                              show Steps p.tables e below (Tj42.setTop (mkF m 37 #[.val (.ref r0), .val (.int (0 : Int32)), .val (.int p2), .val (.int (3 : Int32)), .val (.int y3)] [(.int (57 : Int32)), (.int y3)])) _
                              refine XS.icmpNo Xj42.here hx rfl (hb hby d3_37) rfl (tlt hc37).2.2.2 ?_
                              refine XS.iload Xj42.here hx rfl (hb hby d3_40) rfl ?_
                              refine XS.bipush Xj42.here hx rfl (hb hby d3_42) ?_
                              exact kt)
                            by_cases hc44 : y3 = (45 : Int32)
                            · refine ⟨Tj42, _, Xj42, Nj42, ej42, fun t kt => pre55 t ?_⟩
                              show Steps p.tables e below (Tj42.setTop (mkF m 44 #[.val (.ref r0), .val (.int (0 : Int32)), .val (.int p2), .val (.int (3 : Int32)), .val (.int y3)] [(.int (45 : Int32)), (.int y3)])) _
                              refine XS.icmpYes Xj42.here hx rfl (pc0 := 44) (pc' := 49) rfl (hb hby d3_44) rfl (teq hc44).1 (by decide) (by decide) ?_
                              show Steps p.tables e below (Tj42.setTop (mkF m 49 #[.val (.ref r0), .val (.int (0 : Int32)), .val (.int p2), .val (.int (3 : Int32)), .val (.int y3)] [])) _
                              exact kt
                            · exact absurd (show own_nm y3 = 0 by unfold own_nm; simp only [if_pos hc4, if_pos hc4_2, if_pos hc4_3, if_pos hc4_4, if_neg hc16, if_pos hc23, if_neg hc30, if_pos hc37, if_neg hc44]) (own_n0 hk3)
                          · refine ⟨Tj42, _, Xj42, Nj42, ej42, fun t kt => pre54 t ?_⟩
                            show Steps p.tables e below (Tj42.setTop (mkF m 37 #[.val (.ref r0), .val (.int (0 : Int32)), .val (.int p2), .val (.int (3 : Int32)), .val (.int y3)] [(.int (57 : Int32)), (.int y3)])) _
                            refine XS.icmpYes Xj42.here hx rfl (pc0 := 37) (pc' := 49) rfl (hb hby d3_37) rfl (flt hc37).2.2.2 (by decide) (by decide) ?_
                            show Steps p.tables e below (Tj42.setTop (mkF m 49 #[.val (.ref r0), .val (.int (0 : Int32)), .val (.int p2), .val (.int (3 : Int32)), .val (.int y3)] [])) _
                            exact kt
                      · refine ⟨Tj42, _, Xj42, Nj42, ej42, fun t kt => pre51 t ?_⟩
                        show Steps p.tables e below (Tj42.setTop (mkF m 23 #[.val (.ref r0), .val (.int (0 : Int32)), .val (.int p2), .val (.int (3 : Int32)), .val (.int y3)] [(.int (122 : Int32)), (.int y3)])) _
                        refine XS.icmpYes Xj42.here hx rfl (pc0 := 23) (pc' := 49) rfl (hb hby d3_23) rfl (flt hc23).2.2.2 (by decide) (by decide) ?_
                        show Steps p.tables e below (Tj42.setTop (mkF m 49 #[.val (.ref r0), .val (.int (0 : Int32)), .val (.int p2), .val (.int (3 : Int32)), .val (.int y3)] [])) _
                        exact kt
                  obtain ⟨fs, hr, hrun, hended, hW, hsame⟩ := Xj56.leave (v := some (.int (1 : Int32))) (fun h => by rw [Bd.returns] at h; cases h)
                  refine ⟨_, _, pre56 _ ?_, hrun, hended, _, _, rfl, ?_, ⟨_, rfl⟩, hW, hsame.mono (by decide) (by decide)⟩
                  · show Steps p.tables e below (Tj56.setTop (mkF m 49 #[.val (.ref r0), .val (.int (0 : Int32)), .val (.int p2), .val (.int (3 : Int32)), .val (.int y3)] [])) _
                    refine XS.iinc Xj56.here hx rfl (hb hby d3_49) rfl (l' := #[.val (.ref r0), .val (.int (0 : Int32)), .val (.int p2), .val (.int (4 : Int32)), .val (.int y3)]) rfl ?_
                    refine XS.goto Xj56.here hx rfl (pc0 := 52) (pc' := 2) rfl (hb hby d3_52) (by decide) (by decide) ?_
                    refine XS.iloadN Xj56.here hx rfl (hb hby d3_2) rfl ?_
                    refine XS.iloadN Xj56.here hx rfl (hb hby d3_3) rfl ?_
                    refine XS.icmpYes Xj56.here hx rfl (pc0 := 4) (pc' := 55) rfl (hb hby d3_4) rfl (flt he4).2.1 (by decide) (by decide) ?_
                    refine XS.iconst Xj56.here hx rfl (hb hby d3_55) ?_
                    show Steps p.tables e below (Tj56.setTop (mkF m 56 #[.val (.ref r0), .val (.int (0 : Int32)), .val (.int p2), .val (.int (4 : Int32)), .val (.int y3)] [(.int (1 : Int32))])) _
                    exact retN Xj56 hx (t := .boolean) Bd.returns (by simp) (hb hby d3_56) hr
                  · show Q3s0 Z r0 p2 kb y0 y1 y2 y3 h0 n0 _ Tj56.heap _
                    rw [ej56]
                    exact ⟨(by unfold F3s0; simp only [if_pos hc4, if_pos hk0, if_pos hc4_2, if_pos hk1, if_pos hc4_3, if_pos hk2, if_pos hc4_4, if_pos hk3]), Nj56, rfl⟩
                · obtain ⟨Tj67, lj67, Xj67, Nj67, ej67, pre67⟩ : ∃ (T' : State) (locs' : List Loc), Stand p l e ({ frames := 0, cells := 0, slots := 0, locals := 0 } : Room) s m #[(.ref r0), (.int (0 : Int32)), (.int p2)] below meth c T' locs' 0 0 ∧ Fr n0 locs' ∧ T'.heap = h0 ∧ ∀ t, Steps p.tables e below (T'.setTop (mkF m 47 #[.val (.ref r0), .val (.int (0 : Int32)), .val (.int p2), .val (.int (3 : Int32)), .val (.int y3)] [])) t → Steps p.tables e below (s₁.setTop (entryFrame m #[(.ref r0), (.int (0 : Int32)), (.int p2)] 5)) t := by
                    have pre57 : ∀ t, Steps p.tables e below (Tj42.setTop (mkF m 16 #[.val (.ref r0), .val (.int (0 : Int32)), .val (.int p2), .val (.int (3 : Int32)), .val (.int y3)] [(.int (97 : Int32)), (.int y3)])) t → Steps p.tables e below (s₁.setTop (entryFrame m #[(.ref r0), (.int (0 : Int32)), (.int p2)] 5)) t := fun t kt => pre45 t (by
                      show Steps p.tables e below (Tj42.setTop (mkF m 12 #[.val (.ref r0), .val (.int (0 : Int32)), .val (.int p2), .val (.int (3 : Int32)), .val (.int y3)] [])) _
                      refine XS.iload Xj42.here hx rfl (hb hby d3_12) rfl ?_
                      refine XS.bipush Xj42.here hx rfl (hb hby d3_14) ?_
                      exact kt)
                    by_cases hc16 : y3 < (97 : Int32)
                    · have pre58 : ∀ t, Steps p.tables e below (Tj42.setTop (mkF m 30 #[.val (.ref r0), .val (.int (0 : Int32)), .val (.int p2), .val (.int (3 : Int32)), .val (.int y3)] [(.int (48 : Int32)), (.int y3)])) t → Steps p.tables e below (s₁.setTop (entryFrame m #[(.ref r0), (.int (0 : Int32)), (.int p2)] 5)) t := fun t kt => pre57 t (by
                        show Steps p.tables e below (Tj42.setTop (mkF m 16 #[.val (.ref r0), .val (.int (0 : Int32)), .val (.int p2), .val (.int (3 : Int32)), .val (.int y3)] [(.int (97 : Int32)), (.int y3)])) _
                        refine XS.icmpYes Xj42.here hx rfl (pc0 := 16) (pc' := 26) rfl (hb hby d3_16) rfl (tlt hc16).1 (by decide) (by decide) ?_
                        refine XS.iload Xj42.here hx rfl (hb hby d3_26) rfl ?_
                        refine XS.bipush Xj42.here hx rfl (hb hby d3_28) ?_
                        exact kt)
                      by_cases hc30 : y3 < (48 : Int32)
                      · have pre59 : ∀ t, Steps p.tables e below (Tj42.setTop (mkF m 44 #[.val (.ref r0), .val (.int (0 : Int32)), .val (.int p2), .val (.int (3 : Int32)), .val (.int y3)] [(.int (45 : Int32)), (.int y3)])) t → Steps p.tables e below (s₁.setTop (entryFrame m #[(.ref r0), (.int (0 : Int32)), (.int p2)] 5)) t := fun t kt => pre58 t (by
                          show Steps p.tables e below (Tj42.setTop (mkF m 30 #[.val (.ref r0), .val (.int (0 : Int32)), .val (.int p2), .val (.int (3 : Int32)), .val (.int y3)] [(.int (48 : Int32)), (.int y3)])) _
                          refine XS.icmpYes Xj42.here hx rfl (pc0 := 30) (pc' := 40) rfl (hb hby d3_30) rfl (tlt hc30).1 (by decide) (by decide) ?_
                          refine XS.iload Xj42.here hx rfl (hb hby d3_40) rfl ?_
                          refine XS.bipush Xj42.here hx rfl (hb hby d3_42) ?_
                          exact kt)
                        by_cases hc44 : y3 = (45 : Int32)
                        · exact absurd (show own_nm y3 = 1 by unfold own_nm; simp only [if_pos hc4, if_pos hc4_2, if_pos hc4_3, if_pos hc4_4, if_pos hc16, if_pos hc30, if_pos hc44]) (own_n1 hk3)
                        · refine ⟨Tj42, _, Xj42, Nj42, ej42, fun t kt => pre59 t ?_⟩
                          show Steps p.tables e below (Tj42.setTop (mkF m 44 #[.val (.ref r0), .val (.int (0 : Int32)), .val (.int p2), .val (.int (3 : Int32)), .val (.int y3)] [(.int (45 : Int32)), (.int y3)])) _
                          refine XS.icmpNo Xj42.here hx rfl (hb hby d3_44) rfl (feq hc44).1 ?_
                          show Steps p.tables e below (Tj42.setTop (mkF m 47 #[.val (.ref r0), .val (.int (0 : Int32)), .val (.int p2), .val (.int (3 : Int32)), .val (.int y3)] [])) _
                          exact kt
                      · have pre60 : ∀ t, Steps p.tables e below (Tj42.setTop (mkF m 37 #[.val (.ref r0), .val (.int (0 : Int32)), .val (.int p2), .val (.int (3 : Int32)), .val (.int y3)] [(.int (57 : Int32)), (.int y3)])) t → Steps p.tables e below (s₁.setTop (entryFrame m #[(.ref r0), (.int (0 : Int32)), (.int p2)] 5)) t := fun t kt => pre58 t (by
                          show Steps p.tables e below (Tj42.setTop (mkF m 30 #[.val (.ref r0), .val (.int (0 : Int32)), .val (.int p2), .val (.int (3 : Int32)), .val (.int y3)] [(.int (48 : Int32)), (.int y3)])) _
                          refine XS.icmpNo Xj42.here hx rfl (hb hby d3_30) rfl (flt hc30).1 ?_
                          refine XS.iload Xj42.here hx rfl (hb hby d3_33) rfl ?_
                          refine XS.bipush Xj42.here hx rfl (hb hby d3_35) ?_
                          exact kt)
                        by_cases hc37 : (57 : Int32) < y3
                        · have pre61 : ∀ t, Steps p.tables e below (Tj42.setTop (mkF m 44 #[.val (.ref r0), .val (.int (0 : Int32)), .val (.int p2), .val (.int (3 : Int32)), .val (.int y3)] [(.int (45 : Int32)), (.int y3)])) t → Steps p.tables e below (s₁.setTop (entryFrame m #[(.ref r0), (.int (0 : Int32)), (.int p2)] 5)) t := fun t kt => pre60 t (by
                            show Steps p.tables e below (Tj42.setTop (mkF m 37 #[.val (.ref r0), .val (.int (0 : Int32)), .val (.int p2), .val (.int (3 : Int32)), .val (.int y3)] [(.int (57 : Int32)), (.int y3)])) _
                            refine XS.icmpNo Xj42.here hx rfl (hb hby d3_37) rfl (tlt hc37).2.2.2 ?_
                            refine XS.iload Xj42.here hx rfl (hb hby d3_40) rfl ?_
                            refine XS.bipush Xj42.here hx rfl (hb hby d3_42) ?_
                            exact kt)
                          by_cases hc44 : y3 = (45 : Int32)
                          · exact absurd (show own_nm y3 = 1 by unfold own_nm; simp only [if_pos hc4, if_pos hc4_2, if_pos hc4_3, if_pos hc4_4, if_pos hc16, if_neg hc30, if_pos hc37, if_pos hc44]) (own_n1 hk3)
                          · refine ⟨Tj42, _, Xj42, Nj42, ej42, fun t kt => pre61 t ?_⟩
                            show Steps p.tables e below (Tj42.setTop (mkF m 44 #[.val (.ref r0), .val (.int (0 : Int32)), .val (.int p2), .val (.int (3 : Int32)), .val (.int y3)] [(.int (45 : Int32)), (.int y3)])) _
                            refine XS.icmpNo Xj42.here hx rfl (hb hby d3_44) rfl (feq hc44).1 ?_
                            show Steps p.tables e below (Tj42.setTop (mkF m 47 #[.val (.ref r0), .val (.int (0 : Int32)), .val (.int p2), .val (.int (3 : Int32)), .val (.int y3)] [])) _
                            exact kt
                        · exact absurd (show own_nm y3 = 1 by unfold own_nm; simp only [if_pos hc4, if_pos hc4_2, if_pos hc4_3, if_pos hc4_4, if_pos hc16, if_neg hc30, if_neg hc37]) (own_n1 hk3)
                    · have pre62 : ∀ t, Steps p.tables e below (Tj42.setTop (mkF m 23 #[.val (.ref r0), .val (.int (0 : Int32)), .val (.int p2), .val (.int (3 : Int32)), .val (.int y3)] [(.int (122 : Int32)), (.int y3)])) t → Steps p.tables e below (s₁.setTop (entryFrame m #[(.ref r0), (.int (0 : Int32)), (.int p2)] 5)) t := fun t kt => pre57 t (by
                        show Steps p.tables e below (Tj42.setTop (mkF m 16 #[.val (.ref r0), .val (.int (0 : Int32)), .val (.int p2), .val (.int (3 : Int32)), .val (.int y3)] [(.int (97 : Int32)), (.int y3)])) _
                        refine XS.icmpNo Xj42.here hx rfl (hb hby d3_16) rfl (flt hc16).1 ?_
                        refine XS.iload Xj42.here hx rfl (hb hby d3_19) rfl ?_
                        refine XS.bipush Xj42.here hx rfl (hb hby d3_21) ?_
                        exact kt)
                      by_cases hc23 : (122 : Int32) < y3
                      · have pre63 : ∀ t, Steps p.tables e below (Tj42.setTop (mkF m 30 #[.val (.ref r0), .val (.int (0 : Int32)), .val (.int p2), .val (.int (3 : Int32)), .val (.int y3)] [(.int (48 : Int32)), (.int y3)])) t → Steps p.tables e below (s₁.setTop (entryFrame m #[(.ref r0), (.int (0 : Int32)), (.int p2)] 5)) t := fun t kt => pre62 t (by
                          show Steps p.tables e below (Tj42.setTop (mkF m 23 #[.val (.ref r0), .val (.int (0 : Int32)), .val (.int p2), .val (.int (3 : Int32)), .val (.int y3)] [(.int (122 : Int32)), (.int y3)])) _
                          refine XS.icmpNo Xj42.here hx rfl (hb hby d3_23) rfl (tlt hc23).2.2.2 ?_
                          refine XS.iload Xj42.here hx rfl (hb hby d3_26) rfl ?_
                          refine XS.bipush Xj42.here hx rfl (hb hby d3_28) ?_
                          exact kt)
                        by_cases hc30 : y3 < (48 : Int32)
                        · have pre64 : ∀ t, Steps p.tables e below (Tj42.setTop (mkF m 44 #[.val (.ref r0), .val (.int (0 : Int32)), .val (.int p2), .val (.int (3 : Int32)), .val (.int y3)] [(.int (45 : Int32)), (.int y3)])) t → Steps p.tables e below (s₁.setTop (entryFrame m #[(.ref r0), (.int (0 : Int32)), (.int p2)] 5)) t := fun t kt => pre63 t (by
                            show Steps p.tables e below (Tj42.setTop (mkF m 30 #[.val (.ref r0), .val (.int (0 : Int32)), .val (.int p2), .val (.int (3 : Int32)), .val (.int y3)] [(.int (48 : Int32)), (.int y3)])) _
                            refine XS.icmpYes Xj42.here hx rfl (pc0 := 30) (pc' := 40) rfl (hb hby d3_30) rfl (tlt hc30).1 (by decide) (by decide) ?_
                            refine XS.iload Xj42.here hx rfl (hb hby d3_40) rfl ?_
                            refine XS.bipush Xj42.here hx rfl (hb hby d3_42) ?_
                            exact kt)
                          by_cases hc44 : y3 = (45 : Int32)
                          · exact absurd (show own_nm y3 = 1 by unfold own_nm; simp only [if_pos hc4, if_pos hc4_2, if_pos hc4_3, if_pos hc4_4, if_neg hc16, if_pos hc23, if_pos hc30, if_pos hc44]) (own_n1 hk3)
                          · refine ⟨Tj42, _, Xj42, Nj42, ej42, fun t kt => pre64 t ?_⟩
                            show Steps p.tables e below (Tj42.setTop (mkF m 44 #[.val (.ref r0), .val (.int (0 : Int32)), .val (.int p2), .val (.int (3 : Int32)), .val (.int y3)] [(.int (45 : Int32)), (.int y3)])) _
                            refine XS.icmpNo Xj42.here hx rfl (hb hby d3_44) rfl (feq hc44).1 ?_
                            show Steps p.tables e below (Tj42.setTop (mkF m 47 #[.val (.ref r0), .val (.int (0 : Int32)), .val (.int p2), .val (.int (3 : Int32)), .val (.int y3)] [])) _
                            exact kt
                        · have pre65 : ∀ t, Steps p.tables e below (Tj42.setTop (mkF m 37 #[.val (.ref r0), .val (.int (0 : Int32)), .val (.int p2), .val (.int (3 : Int32)), .val (.int y3)] [(.int (57 : Int32)), (.int y3)])) t → Steps p.tables e below (s₁.setTop (entryFrame m #[(.ref r0), (.int (0 : Int32)), (.int p2)] 5)) t := fun t kt => pre63 t (by
                            show Steps p.tables e below (Tj42.setTop (mkF m 30 #[.val (.ref r0), .val (.int (0 : Int32)), .val (.int p2), .val (.int (3 : Int32)), .val (.int y3)] [(.int (48 : Int32)), (.int y3)])) _
                            refine XS.icmpNo Xj42.here hx rfl (hb hby d3_30) rfl (flt hc30).1 ?_
                            refine XS.iload Xj42.here hx rfl (hb hby d3_33) rfl ?_
                            refine XS.bipush Xj42.here hx rfl (hb hby d3_35) ?_
                            exact kt)
                          by_cases hc37 : (57 : Int32) < y3
                          · have pre66 : ∀ t, Steps p.tables e below (Tj42.setTop (mkF m 44 #[.val (.ref r0), .val (.int (0 : Int32)), .val (.int p2), .val (.int (3 : Int32)), .val (.int y3)] [(.int (45 : Int32)), (.int y3)])) t → Steps p.tables e below (s₁.setTop (entryFrame m #[(.ref r0), (.int (0 : Int32)), (.int p2)] 5)) t := fun t kt => pre65 t (by
                              show Steps p.tables e below (Tj42.setTop (mkF m 37 #[.val (.ref r0), .val (.int (0 : Int32)), .val (.int p2), .val (.int (3 : Int32)), .val (.int y3)] [(.int (57 : Int32)), (.int y3)])) _
                              refine XS.icmpNo Xj42.here hx rfl (hb hby d3_37) rfl (tlt hc37).2.2.2 ?_
                              refine XS.iload Xj42.here hx rfl (hb hby d3_40) rfl ?_
                              refine XS.bipush Xj42.here hx rfl (hb hby d3_42) ?_
                              exact kt)
                            by_cases hc44 : y3 = (45 : Int32)
                            · exact absurd (show own_nm y3 = 1 by unfold own_nm; simp only [if_pos hc4, if_pos hc4_2, if_pos hc4_3, if_pos hc4_4, if_neg hc16, if_pos hc23, if_neg hc30, if_pos hc37, if_pos hc44]) (own_n1 hk3)
                            · refine ⟨Tj42, _, Xj42, Nj42, ej42, fun t kt => pre66 t ?_⟩
                              show Steps p.tables e below (Tj42.setTop (mkF m 44 #[.val (.ref r0), .val (.int (0 : Int32)), .val (.int p2), .val (.int (3 : Int32)), .val (.int y3)] [(.int (45 : Int32)), (.int y3)])) _
                              refine XS.icmpNo Xj42.here hx rfl (hb hby d3_44) rfl (feq hc44).1 ?_
                              show Steps p.tables e below (Tj42.setTop (mkF m 47 #[.val (.ref r0), .val (.int (0 : Int32)), .val (.int p2), .val (.int (3 : Int32)), .val (.int y3)] [])) _
                              exact kt
                          · exact absurd (show own_nm y3 = 1 by unfold own_nm; simp only [if_pos hc4, if_pos hc4_2, if_pos hc4_3, if_pos hc4_4, if_neg hc16, if_pos hc23, if_neg hc30, if_neg hc37]) (own_n1 hk3)
                      · exact absurd (show own_nm y3 = 1 by unfold own_nm; simp only [if_pos hc4, if_pos hc4_2, if_pos hc4_3, if_pos hc4_4, if_neg hc16, if_neg hc23]) (own_n1 hk3)
                  obtain ⟨fs, hr, hrun, hended, hW, hsame⟩ := Xj67.leave (v := some (.int (0 : Int32))) (fun h => by rw [Bd.returns] at h; cases h)
                  refine ⟨_, _, pre67 _ ?_, hrun, hended, _, _, rfl, ?_, ⟨_, rfl⟩, hW, hsame.mono (by decide) (by decide)⟩
                  · show Steps p.tables e below (Tj67.setTop (mkF m 47 #[.val (.ref r0), .val (.int (0 : Int32)), .val (.int p2), .val (.int (3 : Int32)), .val (.int y3)] [])) _
                    refine XS.iconst Xj67.here hx rfl (hb hby d3_47) ?_
                    show Steps p.tables e below (Tj67.setTop (mkF m 48 #[.val (.ref r0), .val (.int (0 : Int32)), .val (.int p2), .val (.int (3 : Int32)), .val (.int y3)] [(.int (0 : Int32))])) _
                    exact retN Xj67 hx (t := .boolean) Bd.returns (by simp) (hb hby d3_48) hr
                  · show Q3s0 Z r0 p2 kb y0 y1 y2 y3 h0 n0 _ Tj67.heap _
                    rw [ej67]
                    exact ⟨(by unfold F3s0; simp only [if_pos hc4, if_pos hk0, if_pos hc4_2, if_pos hk1, if_pos hc4_3, if_pos hk2, if_pos hc4_4, if_neg hk3]), Nj67, rfl⟩
              · obtain ⟨fs, hr, hrun, hended, hW, hsame⟩ := Xj42.leave (v := some (.int (1 : Int32))) (fun h => by rw [Bd.returns] at h; cases h)
                refine ⟨_, _, pre43 _ ?_, hrun, hended, _, _, rfl, ?_, ⟨_, rfl⟩, hW, hsame.mono (by decide) (by decide)⟩
                · show Steps p.tables e below (Tj42.setTop (mkF m 4 #[.val (.ref r0), .val (.int (0 : Int32)), .val (.int p2), .val (.int (3 : Int32)), .val (.int y2)] [(.int p2), (.int (3 : Int32))])) _
                  refine XS.icmpYes Xj42.here hx rfl (pc0 := 4) (pc' := 55) rfl (hb hby d3_4) rfl (flt hc4_4).2.1 (by decide) (by decide) ?_
                  refine XS.iconst Xj42.here hx rfl (hb hby d3_55) ?_
                  show Steps p.tables e below (Tj42.setTop (mkF m 56 #[.val (.ref r0), .val (.int (0 : Int32)), .val (.int p2), .val (.int (3 : Int32)), .val (.int y2)] [(.int (1 : Int32))])) _
                  exact retN Xj42 hx (t := .boolean) Bd.returns (by simp) (hb hby d3_56) hr
                · show Q3s0 Z r0 p2 kb y0 y1 y2 y3 h0 n0 _ Tj42.heap _
                  rw [ej42]
                  exact ⟨(by unfold F3s0; simp only [if_pos hc4, if_pos hk0, if_pos hc4_2, if_pos hk1, if_pos hc4_3, if_pos hk2, if_neg hc4_4]), Nj42, rfl⟩
            · obtain ⟨Tj78, lj78, Xj78, Nj78, ej78, pre78⟩ : ∃ (T' : State) (locs' : List Loc), Stand p l e ({ frames := 0, cells := 0, slots := 0, locals := 0 } : Room) s m #[(.ref r0), (.int (0 : Int32)), (.int p2)] below meth c T' locs' 0 0 ∧ Fr n0 locs' ∧ T'.heap = h0 ∧ ∀ t, Steps p.tables e below (T'.setTop (mkF m 47 #[.val (.ref r0), .val (.int (0 : Int32)), .val (.int p2), .val (.int (2 : Int32)), .val (.int y2)] [])) t → Steps p.tables e below (s₁.setTop (entryFrame m #[(.ref r0), (.int (0 : Int32)), (.int p2)] 5)) t := by
                have pre68 : ∀ t, Steps p.tables e below (Tj28.setTop (mkF m 16 #[.val (.ref r0), .val (.int (0 : Int32)), .val (.int p2), .val (.int (2 : Int32)), .val (.int y2)] [(.int (97 : Int32)), (.int y2)])) t → Steps p.tables e below (s₁.setTop (entryFrame m #[(.ref r0), (.int (0 : Int32)), (.int p2)] 5)) t := fun t kt => pre31 t (by
                  show Steps p.tables e below (Tj28.setTop (mkF m 12 #[.val (.ref r0), .val (.int (0 : Int32)), .val (.int p2), .val (.int (2 : Int32)), .val (.int y2)] [])) _
                  refine XS.iload Xj28.here hx rfl (hb hby d3_12) rfl ?_
                  refine XS.bipush Xj28.here hx rfl (hb hby d3_14) ?_
                  exact kt)
                by_cases hc16 : y2 < (97 : Int32)
                · have pre69 : ∀ t, Steps p.tables e below (Tj28.setTop (mkF m 30 #[.val (.ref r0), .val (.int (0 : Int32)), .val (.int p2), .val (.int (2 : Int32)), .val (.int y2)] [(.int (48 : Int32)), (.int y2)])) t → Steps p.tables e below (s₁.setTop (entryFrame m #[(.ref r0), (.int (0 : Int32)), (.int p2)] 5)) t := fun t kt => pre68 t (by
                    show Steps p.tables e below (Tj28.setTop (mkF m 16 #[.val (.ref r0), .val (.int (0 : Int32)), .val (.int p2), .val (.int (2 : Int32)), .val (.int y2)] [(.int (97 : Int32)), (.int y2)])) _
                    refine XS.icmpYes Xj28.here hx rfl (pc0 := 16) (pc' := 26) rfl (hb hby d3_16) rfl (tlt hc16).1 (by decide) (by decide) ?_
                    refine XS.iload Xj28.here hx rfl (hb hby d3_26) rfl ?_
                    refine XS.bipush Xj28.here hx rfl (hb hby d3_28) ?_
                    exact kt)
                  by_cases hc30 : y2 < (48 : Int32)
                  · have pre70 : ∀ t, Steps p.tables e below (Tj28.setTop (mkF m 44 #[.val (.ref r0), .val (.int (0 : Int32)), .val (.int p2), .val (.int (2 : Int32)), .val (.int y2)] [(.int (45 : Int32)), (.int y2)])) t → Steps p.tables e below (s₁.setTop (entryFrame m #[(.ref r0), (.int (0 : Int32)), (.int p2)] 5)) t := fun t kt => pre69 t (by
                      show Steps p.tables e below (Tj28.setTop (mkF m 30 #[.val (.ref r0), .val (.int (0 : Int32)), .val (.int p2), .val (.int (2 : Int32)), .val (.int y2)] [(.int (48 : Int32)), (.int y2)])) _
                      refine XS.icmpYes Xj28.here hx rfl (pc0 := 30) (pc' := 40) rfl (hb hby d3_30) rfl (tlt hc30).1 (by decide) (by decide) ?_
                      refine XS.iload Xj28.here hx rfl (hb hby d3_40) rfl ?_
                      refine XS.bipush Xj28.here hx rfl (hb hby d3_42) ?_
                      exact kt)
                    by_cases hc44 : y2 = (45 : Int32)
                    · exact absurd (show own_nm y2 = 1 by unfold own_nm; simp only [if_pos hc4, if_pos hc4_2, if_pos hc4_3, if_pos hc16, if_pos hc30, if_pos hc44]) (own_n1 hk2)
                    · refine ⟨Tj28, _, Xj28, Nj28, ej28, fun t kt => pre70 t ?_⟩
                      show Steps p.tables e below (Tj28.setTop (mkF m 44 #[.val (.ref r0), .val (.int (0 : Int32)), .val (.int p2), .val (.int (2 : Int32)), .val (.int y2)] [(.int (45 : Int32)), (.int y2)])) _
                      refine XS.icmpNo Xj28.here hx rfl (hb hby d3_44) rfl (feq hc44).1 ?_
                      show Steps p.tables e below (Tj28.setTop (mkF m 47 #[.val (.ref r0), .val (.int (0 : Int32)), .val (.int p2), .val (.int (2 : Int32)), .val (.int y2)] [])) _
                      exact kt
                  · have pre71 : ∀ t, Steps p.tables e below (Tj28.setTop (mkF m 37 #[.val (.ref r0), .val (.int (0 : Int32)), .val (.int p2), .val (.int (2 : Int32)), .val (.int y2)] [(.int (57 : Int32)), (.int y2)])) t → Steps p.tables e below (s₁.setTop (entryFrame m #[(.ref r0), (.int (0 : Int32)), (.int p2)] 5)) t := fun t kt => pre69 t (by
                      show Steps p.tables e below (Tj28.setTop (mkF m 30 #[.val (.ref r0), .val (.int (0 : Int32)), .val (.int p2), .val (.int (2 : Int32)), .val (.int y2)] [(.int (48 : Int32)), (.int y2)])) _
                      refine XS.icmpNo Xj28.here hx rfl (hb hby d3_30) rfl (flt hc30).1 ?_
                      refine XS.iload Xj28.here hx rfl (hb hby d3_33) rfl ?_
                      refine XS.bipush Xj28.here hx rfl (hb hby d3_35) ?_
                      exact kt)
                    by_cases hc37 : (57 : Int32) < y2
                    · have pre72 : ∀ t, Steps p.tables e below (Tj28.setTop (mkF m 44 #[.val (.ref r0), .val (.int (0 : Int32)), .val (.int p2), .val (.int (2 : Int32)), .val (.int y2)] [(.int (45 : Int32)), (.int y2)])) t → Steps p.tables e below (s₁.setTop (entryFrame m #[(.ref r0), (.int (0 : Int32)), (.int p2)] 5)) t := fun t kt => pre71 t (by
                        show Steps p.tables e below (Tj28.setTop (mkF m 37 #[.val (.ref r0), .val (.int (0 : Int32)), .val (.int p2), .val (.int (2 : Int32)), .val (.int y2)] [(.int (57 : Int32)), (.int y2)])) _
                        refine XS.icmpNo Xj28.here hx rfl (hb hby d3_37) rfl (tlt hc37).2.2.2 ?_
                        refine XS.iload Xj28.here hx rfl (hb hby d3_40) rfl ?_
                        refine XS.bipush Xj28.here hx rfl (hb hby d3_42) ?_
                        exact kt)
                      by_cases hc44 : y2 = (45 : Int32)
                      · exact absurd (show own_nm y2 = 1 by unfold own_nm; simp only [if_pos hc4, if_pos hc4_2, if_pos hc4_3, if_pos hc16, if_neg hc30, if_pos hc37, if_pos hc44]) (own_n1 hk2)
                      · refine ⟨Tj28, _, Xj28, Nj28, ej28, fun t kt => pre72 t ?_⟩
                        show Steps p.tables e below (Tj28.setTop (mkF m 44 #[.val (.ref r0), .val (.int (0 : Int32)), .val (.int p2), .val (.int (2 : Int32)), .val (.int y2)] [(.int (45 : Int32)), (.int y2)])) _
                        refine XS.icmpNo Xj28.here hx rfl (hb hby d3_44) rfl (feq hc44).1 ?_
                        show Steps p.tables e below (Tj28.setTop (mkF m 47 #[.val (.ref r0), .val (.int (0 : Int32)), .val (.int p2), .val (.int (2 : Int32)), .val (.int y2)] [])) _
                        exact kt
                    · exact absurd (show own_nm y2 = 1 by unfold own_nm; simp only [if_pos hc4, if_pos hc4_2, if_pos hc4_3, if_pos hc16, if_neg hc30, if_neg hc37]) (own_n1 hk2)
                · have pre73 : ∀ t, Steps p.tables e below (Tj28.setTop (mkF m 23 #[.val (.ref r0), .val (.int (0 : Int32)), .val (.int p2), .val (.int (2 : Int32)), .val (.int y2)] [(.int (122 : Int32)), (.int y2)])) t → Steps p.tables e below (s₁.setTop (entryFrame m #[(.ref r0), (.int (0 : Int32)), (.int p2)] 5)) t := fun t kt => pre68 t (by
                    show Steps p.tables e below (Tj28.setTop (mkF m 16 #[.val (.ref r0), .val (.int (0 : Int32)), .val (.int p2), .val (.int (2 : Int32)), .val (.int y2)] [(.int (97 : Int32)), (.int y2)])) _
                    refine XS.icmpNo Xj28.here hx rfl (hb hby d3_16) rfl (flt hc16).1 ?_
                    refine XS.iload Xj28.here hx rfl (hb hby d3_19) rfl ?_
                    refine XS.bipush Xj28.here hx rfl (hb hby d3_21) ?_
                    exact kt)
                  by_cases hc23 : (122 : Int32) < y2
                  · have pre74 : ∀ t, Steps p.tables e below (Tj28.setTop (mkF m 30 #[.val (.ref r0), .val (.int (0 : Int32)), .val (.int p2), .val (.int (2 : Int32)), .val (.int y2)] [(.int (48 : Int32)), (.int y2)])) t → Steps p.tables e below (s₁.setTop (entryFrame m #[(.ref r0), (.int (0 : Int32)), (.int p2)] 5)) t := fun t kt => pre73 t (by
                      show Steps p.tables e below (Tj28.setTop (mkF m 23 #[.val (.ref r0), .val (.int (0 : Int32)), .val (.int p2), .val (.int (2 : Int32)), .val (.int y2)] [(.int (122 : Int32)), (.int y2)])) _
                      refine XS.icmpNo Xj28.here hx rfl (hb hby d3_23) rfl (tlt hc23).2.2.2 ?_
                      refine XS.iload Xj28.here hx rfl (hb hby d3_26) rfl ?_
                      refine XS.bipush Xj28.here hx rfl (hb hby d3_28) ?_
                      exact kt)
                    by_cases hc30 : y2 < (48 : Int32)
                    · have pre75 : ∀ t, Steps p.tables e below (Tj28.setTop (mkF m 44 #[.val (.ref r0), .val (.int (0 : Int32)), .val (.int p2), .val (.int (2 : Int32)), .val (.int y2)] [(.int (45 : Int32)), (.int y2)])) t → Steps p.tables e below (s₁.setTop (entryFrame m #[(.ref r0), (.int (0 : Int32)), (.int p2)] 5)) t := fun t kt => pre74 t (by
                        show Steps p.tables e below (Tj28.setTop (mkF m 30 #[.val (.ref r0), .val (.int (0 : Int32)), .val (.int p2), .val (.int (2 : Int32)), .val (.int y2)] [(.int (48 : Int32)), (.int y2)])) _
                        refine XS.icmpYes Xj28.here hx rfl (pc0 := 30) (pc' := 40) rfl (hb hby d3_30) rfl (tlt hc30).1 (by decide) (by decide) ?_
                        refine XS.iload Xj28.here hx rfl (hb hby d3_40) rfl ?_
                        refine XS.bipush Xj28.here hx rfl (hb hby d3_42) ?_
                        exact kt)
                      by_cases hc44 : y2 = (45 : Int32)
                      · exact absurd (show own_nm y2 = 1 by unfold own_nm; simp only [if_pos hc4, if_pos hc4_2, if_pos hc4_3, if_neg hc16, if_pos hc23, if_pos hc30, if_pos hc44]) (own_n1 hk2)
                      · refine ⟨Tj28, _, Xj28, Nj28, ej28, fun t kt => pre75 t ?_⟩
                        show Steps p.tables e below (Tj28.setTop (mkF m 44 #[.val (.ref r0), .val (.int (0 : Int32)), .val (.int p2), .val (.int (2 : Int32)), .val (.int y2)] [(.int (45 : Int32)), (.int y2)])) _
                        refine XS.icmpNo Xj28.here hx rfl (hb hby d3_44) rfl (feq hc44).1 ?_
                        show Steps p.tables e below (Tj28.setTop (mkF m 47 #[.val (.ref r0), .val (.int (0 : Int32)), .val (.int p2), .val (.int (2 : Int32)), .val (.int y2)] [])) _
                        exact kt
                    · have pre76 : ∀ t, Steps p.tables e below (Tj28.setTop (mkF m 37 #[.val (.ref r0), .val (.int (0 : Int32)), .val (.int p2), .val (.int (2 : Int32)), .val (.int y2)] [(.int (57 : Int32)), (.int y2)])) t → Steps p.tables e below (s₁.setTop (entryFrame m #[(.ref r0), (.int (0 : Int32)), (.int p2)] 5)) t := fun t kt => pre74 t (by
                        show Steps p.tables e below (Tj28.setTop (mkF m 30 #[.val (.ref r0), .val (.int (0 : Int32)), .val (.int p2), .val (.int (2 : Int32)), .val (.int y2)] [(.int (48 : Int32)), (.int y2)])) _
                        refine XS.icmpNo Xj28.here hx rfl (hb hby d3_30) rfl (flt hc30).1 ?_
                        refine XS.iload Xj28.here hx rfl (hb hby d3_33) rfl ?_
                        refine XS.bipush Xj28.here hx rfl (hb hby d3_35) ?_
                        exact kt)
                      by_cases hc37 : (57 : Int32) < y2
                      · have pre77 : ∀ t, Steps p.tables e below (Tj28.setTop (mkF m 44 #[.val (.ref r0), .val (.int (0 : Int32)), .val (.int p2), .val (.int (2 : Int32)), .val (.int y2)] [(.int (45 : Int32)), (.int y2)])) t → Steps p.tables e below (s₁.setTop (entryFrame m #[(.ref r0), (.int (0 : Int32)), (.int p2)] 5)) t := fun t kt => pre76 t (by
                          show Steps p.tables e below (Tj28.setTop (mkF m 37 #[.val (.ref r0), .val (.int (0 : Int32)), .val (.int p2), .val (.int (2 : Int32)), .val (.int y2)] [(.int (57 : Int32)), (.int y2)])) _
                          refine XS.icmpNo Xj28.here hx rfl (hb hby d3_37) rfl (tlt hc37).2.2.2 ?_
                          refine XS.iload Xj28.here hx rfl (hb hby d3_40) rfl ?_
                          refine XS.bipush Xj28.here hx rfl (hb hby d3_42) ?_
                          exact kt)
                        by_cases hc44 : y2 = (45 : Int32)
                        · exact absurd (show own_nm y2 = 1 by unfold own_nm; simp only [if_pos hc4, if_pos hc4_2, if_pos hc4_3, if_neg hc16, if_pos hc23, if_neg hc30, if_pos hc37, if_pos hc44]) (own_n1 hk2)
                        · refine ⟨Tj28, _, Xj28, Nj28, ej28, fun t kt => pre77 t ?_⟩
                          show Steps p.tables e below (Tj28.setTop (mkF m 44 #[.val (.ref r0), .val (.int (0 : Int32)), .val (.int p2), .val (.int (2 : Int32)), .val (.int y2)] [(.int (45 : Int32)), (.int y2)])) _
                          refine XS.icmpNo Xj28.here hx rfl (hb hby d3_44) rfl (feq hc44).1 ?_
                          show Steps p.tables e below (Tj28.setTop (mkF m 47 #[.val (.ref r0), .val (.int (0 : Int32)), .val (.int p2), .val (.int (2 : Int32)), .val (.int y2)] [])) _
                          exact kt
                      · exact absurd (show own_nm y2 = 1 by unfold own_nm; simp only [if_pos hc4, if_pos hc4_2, if_pos hc4_3, if_neg hc16, if_pos hc23, if_neg hc30, if_neg hc37]) (own_n1 hk2)
                  · exact absurd (show own_nm y2 = 1 by unfold own_nm; simp only [if_pos hc4, if_pos hc4_2, if_pos hc4_3, if_neg hc16, if_neg hc23]) (own_n1 hk2)
              obtain ⟨fs, hr, hrun, hended, hW, hsame⟩ := Xj78.leave (v := some (.int (0 : Int32))) (fun h => by rw [Bd.returns] at h; cases h)
              refine ⟨_, _, pre78 _ ?_, hrun, hended, _, _, rfl, ?_, ⟨_, rfl⟩, hW, hsame.mono (by decide) (by decide)⟩
              · show Steps p.tables e below (Tj78.setTop (mkF m 47 #[.val (.ref r0), .val (.int (0 : Int32)), .val (.int p2), .val (.int (2 : Int32)), .val (.int y2)] [])) _
                refine XS.iconst Xj78.here hx rfl (hb hby d3_47) ?_
                show Steps p.tables e below (Tj78.setTop (mkF m 48 #[.val (.ref r0), .val (.int (0 : Int32)), .val (.int p2), .val (.int (2 : Int32)), .val (.int y2)] [(.int (0 : Int32))])) _
                exact retN Xj78 hx (t := .boolean) Bd.returns (by simp) (hb hby d3_48) hr
              · show Q3s0 Z r0 p2 kb y0 y1 y2 y3 h0 n0 _ Tj78.heap _
                rw [ej78]
                exact ⟨(by unfold F3s0; simp only [if_pos hc4, if_pos hk0, if_pos hc4_2, if_pos hk1, if_pos hc4_3, if_neg hk2]), Nj78, rfl⟩
          · obtain ⟨fs, hr, hrun, hended, hW, hsame⟩ := Xj28.leave (v := some (.int (1 : Int32))) (fun h => by rw [Bd.returns] at h; cases h)
            refine ⟨_, _, pre29 _ ?_, hrun, hended, _, _, rfl, ?_, ⟨_, rfl⟩, hW, hsame.mono (by decide) (by decide)⟩
            · show Steps p.tables e below (Tj28.setTop (mkF m 4 #[.val (.ref r0), .val (.int (0 : Int32)), .val (.int p2), .val (.int (2 : Int32)), .val (.int y1)] [(.int p2), (.int (2 : Int32))])) _
              refine XS.icmpYes Xj28.here hx rfl (pc0 := 4) (pc' := 55) rfl (hb hby d3_4) rfl (flt hc4_3).2.1 (by decide) (by decide) ?_
              refine XS.iconst Xj28.here hx rfl (hb hby d3_55) ?_
              show Steps p.tables e below (Tj28.setTop (mkF m 56 #[.val (.ref r0), .val (.int (0 : Int32)), .val (.int p2), .val (.int (2 : Int32)), .val (.int y1)] [(.int (1 : Int32))])) _
              exact retN Xj28 hx (t := .boolean) Bd.returns (by simp) (hb hby d3_56) hr
            · show Q3s0 Z r0 p2 kb y0 y1 y2 y3 h0 n0 _ Tj28.heap _
              rw [ej28]
              exact ⟨(by unfold F3s0; simp only [if_pos hc4, if_pos hk0, if_pos hc4_2, if_pos hk1, if_neg hc4_3]), Nj28, rfl⟩
        · obtain ⟨Tj89, lj89, Xj89, Nj89, ej89, pre89⟩ : ∃ (T' : State) (locs' : List Loc), Stand p l e ({ frames := 0, cells := 0, slots := 0, locals := 0 } : Room) s m #[(.ref r0), (.int (0 : Int32)), (.int p2)] below meth c T' locs' 0 0 ∧ Fr n0 locs' ∧ T'.heap = h0 ∧ ∀ t, Steps p.tables e below (T'.setTop (mkF m 47 #[.val (.ref r0), .val (.int (0 : Int32)), .val (.int p2), .val (.int (1 : Int32)), .val (.int y1)] [])) t → Steps p.tables e below (s₁.setTop (entryFrame m #[(.ref r0), (.int (0 : Int32)), (.int p2)] 5)) t := by
            have pre79 : ∀ t, Steps p.tables e below (Tj14.setTop (mkF m 16 #[.val (.ref r0), .val (.int (0 : Int32)), .val (.int p2), .val (.int (1 : Int32)), .val (.int y1)] [(.int (97 : Int32)), (.int y1)])) t → Steps p.tables e below (s₁.setTop (entryFrame m #[(.ref r0), (.int (0 : Int32)), (.int p2)] 5)) t := fun t kt => pre17 t (by
              show Steps p.tables e below (Tj14.setTop (mkF m 12 #[.val (.ref r0), .val (.int (0 : Int32)), .val (.int p2), .val (.int (1 : Int32)), .val (.int y1)] [])) _
              refine XS.iload Xj14.here hx rfl (hb hby d3_12) rfl ?_
              refine XS.bipush Xj14.here hx rfl (hb hby d3_14) ?_
              exact kt)
            by_cases hc16 : y1 < (97 : Int32)
            · have pre80 : ∀ t, Steps p.tables e below (Tj14.setTop (mkF m 30 #[.val (.ref r0), .val (.int (0 : Int32)), .val (.int p2), .val (.int (1 : Int32)), .val (.int y1)] [(.int (48 : Int32)), (.int y1)])) t → Steps p.tables e below (s₁.setTop (entryFrame m #[(.ref r0), (.int (0 : Int32)), (.int p2)] 5)) t := fun t kt => pre79 t (by
                show Steps p.tables e below (Tj14.setTop (mkF m 16 #[.val (.ref r0), .val (.int (0 : Int32)), .val (.int p2), .val (.int (1 : Int32)), .val (.int y1)] [(.int (97 : Int32)), (.int y1)])) _
                refine XS.icmpYes Xj14.here hx rfl (pc0 := 16) (pc' := 26) rfl (hb hby d3_16) rfl (tlt hc16).1 (by decide) (by decide) ?_
                refine XS.iload Xj14.here hx rfl (hb hby d3_26) rfl ?_
                refine XS.bipush Xj14.here hx rfl (hb hby d3_28) ?_
                exact kt)
              by_cases hc30 : y1 < (48 : Int32)
              · have pre81 : ∀ t, Steps p.tables e below (Tj14.setTop (mkF m 44 #[.val (.ref r0), .val (.int (0 : Int32)), .val (.int p2), .val (.int (1 : Int32)), .val (.int y1)] [(.int (45 : Int32)), (.int y1)])) t → Steps p.tables e below (s₁.setTop (entryFrame m #[(.ref r0), (.int (0 : Int32)), (.int p2)] 5)) t := fun t kt => pre80 t (by
                  show Steps p.tables e below (Tj14.setTop (mkF m 30 #[.val (.ref r0), .val (.int (0 : Int32)), .val (.int p2), .val (.int (1 : Int32)), .val (.int y1)] [(.int (48 : Int32)), (.int y1)])) _
                  refine XS.icmpYes Xj14.here hx rfl (pc0 := 30) (pc' := 40) rfl (hb hby d3_30) rfl (tlt hc30).1 (by decide) (by decide) ?_
                  refine XS.iload Xj14.here hx rfl (hb hby d3_40) rfl ?_
                  refine XS.bipush Xj14.here hx rfl (hb hby d3_42) ?_
                  exact kt)
                by_cases hc44 : y1 = (45 : Int32)
                · exact absurd (show own_nm y1 = 1 by unfold own_nm; simp only [if_pos hc4, if_pos hc4_2, if_pos hc16, if_pos hc30, if_pos hc44]) (own_n1 hk1)
                · refine ⟨Tj14, _, Xj14, Nj14, ej14, fun t kt => pre81 t ?_⟩
                  show Steps p.tables e below (Tj14.setTop (mkF m 44 #[.val (.ref r0), .val (.int (0 : Int32)), .val (.int p2), .val (.int (1 : Int32)), .val (.int y1)] [(.int (45 : Int32)), (.int y1)])) _
                  refine XS.icmpNo Xj14.here hx rfl (hb hby d3_44) rfl (feq hc44).1 ?_
                  show Steps p.tables e below (Tj14.setTop (mkF m 47 #[.val (.ref r0), .val (.int (0 : Int32)), .val (.int p2), .val (.int (1 : Int32)), .val (.int y1)] [])) _
                  exact kt
              · have pre82 : ∀ t, Steps p.tables e below (Tj14.setTop (mkF m 37 #[.val (.ref r0), .val (.int (0 : Int32)), .val (.int p2), .val (.int (1 : Int32)), .val (.int y1)] [(.int (57 : Int32)), (.int y1)])) t → Steps p.tables e below (s₁.setTop (entryFrame m #[(.ref r0), (.int (0 : Int32)), (.int p2)] 5)) t := fun t kt => pre80 t (by
                  show Steps p.tables e below (Tj14.setTop (mkF m 30 #[.val (.ref r0), .val (.int (0 : Int32)), .val (.int p2), .val (.int (1 : Int32)), .val (.int y1)] [(.int (48 : Int32)), (.int y1)])) _
                  refine XS.icmpNo Xj14.here hx rfl (hb hby d3_30) rfl (flt hc30).1 ?_
                  refine XS.iload Xj14.here hx rfl (hb hby d3_33) rfl ?_
                  refine XS.bipush Xj14.here hx rfl (hb hby d3_35) ?_
                  exact kt)
                by_cases hc37 : (57 : Int32) < y1
                · have pre83 : ∀ t, Steps p.tables e below (Tj14.setTop (mkF m 44 #[.val (.ref r0), .val (.int (0 : Int32)), .val (.int p2), .val (.int (1 : Int32)), .val (.int y1)] [(.int (45 : Int32)), (.int y1)])) t → Steps p.tables e below (s₁.setTop (entryFrame m #[(.ref r0), (.int (0 : Int32)), (.int p2)] 5)) t := fun t kt => pre82 t (by
                    show Steps p.tables e below (Tj14.setTop (mkF m 37 #[.val (.ref r0), .val (.int (0 : Int32)), .val (.int p2), .val (.int (1 : Int32)), .val (.int y1)] [(.int (57 : Int32)), (.int y1)])) _
                    refine XS.icmpNo Xj14.here hx rfl (hb hby d3_37) rfl (tlt hc37).2.2.2 ?_
                    refine XS.iload Xj14.here hx rfl (hb hby d3_40) rfl ?_
                    refine XS.bipush Xj14.here hx rfl (hb hby d3_42) ?_
                    exact kt)
                  by_cases hc44 : y1 = (45 : Int32)
                  · exact absurd (show own_nm y1 = 1 by unfold own_nm; simp only [if_pos hc4, if_pos hc4_2, if_pos hc16, if_neg hc30, if_pos hc37, if_pos hc44]) (own_n1 hk1)
                  · refine ⟨Tj14, _, Xj14, Nj14, ej14, fun t kt => pre83 t ?_⟩
                    show Steps p.tables e below (Tj14.setTop (mkF m 44 #[.val (.ref r0), .val (.int (0 : Int32)), .val (.int p2), .val (.int (1 : Int32)), .val (.int y1)] [(.int (45 : Int32)), (.int y1)])) _
                    refine XS.icmpNo Xj14.here hx rfl (hb hby d3_44) rfl (feq hc44).1 ?_
                    show Steps p.tables e below (Tj14.setTop (mkF m 47 #[.val (.ref r0), .val (.int (0 : Int32)), .val (.int p2), .val (.int (1 : Int32)), .val (.int y1)] [])) _
                    exact kt
                · exact absurd (show own_nm y1 = 1 by unfold own_nm; simp only [if_pos hc4, if_pos hc4_2, if_pos hc16, if_neg hc30, if_neg hc37]) (own_n1 hk1)
            · have pre84 : ∀ t, Steps p.tables e below (Tj14.setTop (mkF m 23 #[.val (.ref r0), .val (.int (0 : Int32)), .val (.int p2), .val (.int (1 : Int32)), .val (.int y1)] [(.int (122 : Int32)), (.int y1)])) t → Steps p.tables e below (s₁.setTop (entryFrame m #[(.ref r0), (.int (0 : Int32)), (.int p2)] 5)) t := fun t kt => pre79 t (by
                show Steps p.tables e below (Tj14.setTop (mkF m 16 #[.val (.ref r0), .val (.int (0 : Int32)), .val (.int p2), .val (.int (1 : Int32)), .val (.int y1)] [(.int (97 : Int32)), (.int y1)])) _
                refine XS.icmpNo Xj14.here hx rfl (hb hby d3_16) rfl (flt hc16).1 ?_
                refine XS.iload Xj14.here hx rfl (hb hby d3_19) rfl ?_
                refine XS.bipush Xj14.here hx rfl (hb hby d3_21) ?_
                exact kt)
              by_cases hc23 : (122 : Int32) < y1
              · have pre85 : ∀ t, Steps p.tables e below (Tj14.setTop (mkF m 30 #[.val (.ref r0), .val (.int (0 : Int32)), .val (.int p2), .val (.int (1 : Int32)), .val (.int y1)] [(.int (48 : Int32)), (.int y1)])) t → Steps p.tables e below (s₁.setTop (entryFrame m #[(.ref r0), (.int (0 : Int32)), (.int p2)] 5)) t := fun t kt => pre84 t (by
                  show Steps p.tables e below (Tj14.setTop (mkF m 23 #[.val (.ref r0), .val (.int (0 : Int32)), .val (.int p2), .val (.int (1 : Int32)), .val (.int y1)] [(.int (122 : Int32)), (.int y1)])) _
                  refine XS.icmpNo Xj14.here hx rfl (hb hby d3_23) rfl (tlt hc23).2.2.2 ?_
                  refine XS.iload Xj14.here hx rfl (hb hby d3_26) rfl ?_
                  refine XS.bipush Xj14.here hx rfl (hb hby d3_28) ?_
                  exact kt)
                by_cases hc30 : y1 < (48 : Int32)
                · have pre86 : ∀ t, Steps p.tables e below (Tj14.setTop (mkF m 44 #[.val (.ref r0), .val (.int (0 : Int32)), .val (.int p2), .val (.int (1 : Int32)), .val (.int y1)] [(.int (45 : Int32)), (.int y1)])) t → Steps p.tables e below (s₁.setTop (entryFrame m #[(.ref r0), (.int (0 : Int32)), (.int p2)] 5)) t := fun t kt => pre85 t (by
                    show Steps p.tables e below (Tj14.setTop (mkF m 30 #[.val (.ref r0), .val (.int (0 : Int32)), .val (.int p2), .val (.int (1 : Int32)), .val (.int y1)] [(.int (48 : Int32)), (.int y1)])) _
                    refine XS.icmpYes Xj14.here hx rfl (pc0 := 30) (pc' := 40) rfl (hb hby d3_30) rfl (tlt hc30).1 (by decide) (by decide) ?_
                    refine XS.iload Xj14.here hx rfl (hb hby d3_40) rfl ?_
                    refine XS.bipush Xj14.here hx rfl (hb hby d3_42) ?_
                    exact kt)
                  by_cases hc44 : y1 = (45 : Int32)
                  · exact absurd (show own_nm y1 = 1 by unfold own_nm; simp only [if_pos hc4, if_pos hc4_2, if_neg hc16, if_pos hc23, if_pos hc30, if_pos hc44]) (own_n1 hk1)
                  · refine ⟨Tj14, _, Xj14, Nj14, ej14, fun t kt => pre86 t ?_⟩
                    show Steps p.tables e below (Tj14.setTop (mkF m 44 #[.val (.ref r0), .val (.int (0 : Int32)), .val (.int p2), .val (.int (1 : Int32)), .val (.int y1)] [(.int (45 : Int32)), (.int y1)])) _
                    refine XS.icmpNo Xj14.here hx rfl (hb hby d3_44) rfl (feq hc44).1 ?_
                    show Steps p.tables e below (Tj14.setTop (mkF m 47 #[.val (.ref r0), .val (.int (0 : Int32)), .val (.int p2), .val (.int (1 : Int32)), .val (.int y1)] [])) _
                    exact kt
                · have pre87 : ∀ t, Steps p.tables e below (Tj14.setTop (mkF m 37 #[.val (.ref r0), .val (.int (0 : Int32)), .val (.int p2), .val (.int (1 : Int32)), .val (.int y1)] [(.int (57 : Int32)), (.int y1)])) t → Steps p.tables e below (s₁.setTop (entryFrame m #[(.ref r0), (.int (0 : Int32)), (.int p2)] 5)) t := fun t kt => pre85 t (by
                    show Steps p.tables e below (Tj14.setTop (mkF m 30 #[.val (.ref r0), .val (.int (0 : Int32)), .val (.int p2), .val (.int (1 : Int32)), .val (.int y1)] [(.int (48 : Int32)), (.int y1)])) _
                    refine XS.icmpNo Xj14.here hx rfl (hb hby d3_30) rfl (flt hc30).1 ?_
                    refine XS.iload Xj14.here hx rfl (hb hby d3_33) rfl ?_
                    refine XS.bipush Xj14.here hx rfl (hb hby d3_35) ?_
                    exact kt)
                  by_cases hc37 : (57 : Int32) < y1
                  · have pre88 : ∀ t, Steps p.tables e below (Tj14.setTop (mkF m 44 #[.val (.ref r0), .val (.int (0 : Int32)), .val (.int p2), .val (.int (1 : Int32)), .val (.int y1)] [(.int (45 : Int32)), (.int y1)])) t → Steps p.tables e below (s₁.setTop (entryFrame m #[(.ref r0), (.int (0 : Int32)), (.int p2)] 5)) t := fun t kt => pre87 t (by
                      show Steps p.tables e below (Tj14.setTop (mkF m 37 #[.val (.ref r0), .val (.int (0 : Int32)), .val (.int p2), .val (.int (1 : Int32)), .val (.int y1)] [(.int (57 : Int32)), (.int y1)])) _
                      refine XS.icmpNo Xj14.here hx rfl (hb hby d3_37) rfl (tlt hc37).2.2.2 ?_
                      refine XS.iload Xj14.here hx rfl (hb hby d3_40) rfl ?_
                      refine XS.bipush Xj14.here hx rfl (hb hby d3_42) ?_
                      exact kt)
                    by_cases hc44 : y1 = (45 : Int32)
                    · exact absurd (show own_nm y1 = 1 by unfold own_nm; simp only [if_pos hc4, if_pos hc4_2, if_neg hc16, if_pos hc23, if_neg hc30, if_pos hc37, if_pos hc44]) (own_n1 hk1)
                    · refine ⟨Tj14, _, Xj14, Nj14, ej14, fun t kt => pre88 t ?_⟩
                      show Steps p.tables e below (Tj14.setTop (mkF m 44 #[.val (.ref r0), .val (.int (0 : Int32)), .val (.int p2), .val (.int (1 : Int32)), .val (.int y1)] [(.int (45 : Int32)), (.int y1)])) _
                      refine XS.icmpNo Xj14.here hx rfl (hb hby d3_44) rfl (feq hc44).1 ?_
                      show Steps p.tables e below (Tj14.setTop (mkF m 47 #[.val (.ref r0), .val (.int (0 : Int32)), .val (.int p2), .val (.int (1 : Int32)), .val (.int y1)] [])) _
                      exact kt
                  · exact absurd (show own_nm y1 = 1 by unfold own_nm; simp only [if_pos hc4, if_pos hc4_2, if_neg hc16, if_pos hc23, if_neg hc30, if_neg hc37]) (own_n1 hk1)
              · exact absurd (show own_nm y1 = 1 by unfold own_nm; simp only [if_pos hc4, if_pos hc4_2, if_neg hc16, if_neg hc23]) (own_n1 hk1)
          obtain ⟨fs, hr, hrun, hended, hW, hsame⟩ := Xj89.leave (v := some (.int (0 : Int32))) (fun h => by rw [Bd.returns] at h; cases h)
          refine ⟨_, _, pre89 _ ?_, hrun, hended, _, _, rfl, ?_, ⟨_, rfl⟩, hW, hsame.mono (by decide) (by decide)⟩
          · show Steps p.tables e below (Tj89.setTop (mkF m 47 #[.val (.ref r0), .val (.int (0 : Int32)), .val (.int p2), .val (.int (1 : Int32)), .val (.int y1)] [])) _
            refine XS.iconst Xj89.here hx rfl (hb hby d3_47) ?_
            show Steps p.tables e below (Tj89.setTop (mkF m 48 #[.val (.ref r0), .val (.int (0 : Int32)), .val (.int p2), .val (.int (1 : Int32)), .val (.int y1)] [(.int (0 : Int32))])) _
            exact retN Xj89 hx (t := .boolean) Bd.returns (by simp) (hb hby d3_48) hr
          · show Q3s0 Z r0 p2 kb y0 y1 y2 y3 h0 n0 _ Tj89.heap _
            rw [ej89]
            exact ⟨(by unfold F3s0; simp only [if_pos hc4, if_pos hk0, if_pos hc4_2, if_neg hk1]), Nj89, rfl⟩
      · obtain ⟨fs, hr, hrun, hended, hW, hsame⟩ := Xj14.leave (v := some (.int (1 : Int32))) (fun h => by rw [Bd.returns] at h; cases h)
        refine ⟨_, _, pre15 _ ?_, hrun, hended, _, _, rfl, ?_, ⟨_, rfl⟩, hW, hsame.mono (by decide) (by decide)⟩
        · show Steps p.tables e below (Tj14.setTop (mkF m 4 #[.val (.ref r0), .val (.int (0 : Int32)), .val (.int p2), .val (.int (1 : Int32)), .val (.int y0)] [(.int p2), (.int (1 : Int32))])) _
          refine XS.icmpYes Xj14.here hx rfl (pc0 := 4) (pc' := 55) rfl (hb hby d3_4) rfl (flt hc4_2).2.1 (by decide) (by decide) ?_
          refine XS.iconst Xj14.here hx rfl (hb hby d3_55) ?_
          show Steps p.tables e below (Tj14.setTop (mkF m 56 #[.val (.ref r0), .val (.int (0 : Int32)), .val (.int p2), .val (.int (1 : Int32)), .val (.int y0)] [(.int (1 : Int32))])) _
          exact retN Xj14 hx (t := .boolean) Bd.returns (by simp) (hb hby d3_56) hr
        · show Q3s0 Z r0 p2 kb y0 y1 y2 y3 h0 n0 _ Tj14.heap _
          rw [ej14]
          exact ⟨(by unfold F3s0; simp only [if_pos hc4, if_pos hk0, if_neg hc4_2]), Nj14, rfl⟩
    · obtain ⟨Tj100, lj100, Xj100, Nj100, ej100, pre100⟩ : ∃ (T' : State) (locs' : List Loc), Stand p l e ({ frames := 0, cells := 0, slots := 0, locals := 0 } : Room) s m #[(.ref r0), (.int (0 : Int32)), (.int p2)] below meth c T' locs' 0 0 ∧ Fr n0 locs' ∧ T'.heap = h0 ∧ ∀ t, Steps p.tables e below (T'.setTop (mkF m 47 #[.val (.ref r0), .val (.int (0 : Int32)), .val (.int p2), .val (.int (0 : Int32)), .val (.int y0)] [])) t → Steps p.tables e below (s₁.setTop (entryFrame m #[(.ref r0), (.int (0 : Int32)), (.int p2)] 5)) t := by
        have pre90 : ∀ t, Steps p.tables e below (s₁.setTop (mkF m 16 #[.val (.ref r0), .val (.int (0 : Int32)), .val (.int p2), .val (.int (0 : Int32)), .val (.int y0)] [(.int (97 : Int32)), (.int y0)])) t → Steps p.tables e below (s₁.setTop (entryFrame m #[(.ref r0), (.int (0 : Int32)), (.int p2)] 5)) t := fun t kt => pre3 t (by
          show Steps p.tables e below (s₁.setTop (mkF m 12 #[.val (.ref r0), .val (.int (0 : Int32)), .val (.int p2), .val (.int (0 : Int32)), .val (.int y0)] [])) _
          refine XS.iload X0.here hx rfl (hb hby d3_12) rfl ?_
          refine XS.bipush X0.here hx rfl (hb hby d3_14) ?_
          exact kt)
        by_cases hc16 : y0 < (97 : Int32)
        · have pre91 : ∀ t, Steps p.tables e below (s₁.setTop (mkF m 30 #[.val (.ref r0), .val (.int (0 : Int32)), .val (.int p2), .val (.int (0 : Int32)), .val (.int y0)] [(.int (48 : Int32)), (.int y0)])) t → Steps p.tables e below (s₁.setTop (entryFrame m #[(.ref r0), (.int (0 : Int32)), (.int p2)] 5)) t := fun t kt => pre90 t (by
            show Steps p.tables e below (s₁.setTop (mkF m 16 #[.val (.ref r0), .val (.int (0 : Int32)), .val (.int p2), .val (.int (0 : Int32)), .val (.int y0)] [(.int (97 : Int32)), (.int y0)])) _
            refine XS.icmpYes X0.here hx rfl (pc0 := 16) (pc' := 26) rfl (hb hby d3_16) rfl (tlt hc16).1 (by decide) (by decide) ?_
            refine XS.iload X0.here hx rfl (hb hby d3_26) rfl ?_
            refine XS.bipush X0.here hx rfl (hb hby d3_28) ?_
            exact kt)
          by_cases hc30 : y0 < (48 : Int32)
          · have pre92 : ∀ t, Steps p.tables e below (s₁.setTop (mkF m 44 #[.val (.ref r0), .val (.int (0 : Int32)), .val (.int p2), .val (.int (0 : Int32)), .val (.int y0)] [(.int (45 : Int32)), (.int y0)])) t → Steps p.tables e below (s₁.setTop (entryFrame m #[(.ref r0), (.int (0 : Int32)), (.int p2)] 5)) t := fun t kt => pre91 t (by
              show Steps p.tables e below (s₁.setTop (mkF m 30 #[.val (.ref r0), .val (.int (0 : Int32)), .val (.int p2), .val (.int (0 : Int32)), .val (.int y0)] [(.int (48 : Int32)), (.int y0)])) _
              refine XS.icmpYes X0.here hx rfl (pc0 := 30) (pc' := 40) rfl (hb hby d3_30) rfl (tlt hc30).1 (by decide) (by decide) ?_
              refine XS.iload X0.here hx rfl (hb hby d3_40) rfl ?_
              refine XS.bipush X0.here hx rfl (hb hby d3_42) ?_
              exact kt)
            by_cases hc44 : y0 = (45 : Int32)
            · exact absurd (show own_nm y0 = 1 by unfold own_nm; simp only [if_pos hc4, if_pos hc16, if_pos hc30, if_pos hc44]) (own_n1 hk0)
            · refine ⟨s₁, _, X0, N0, e0, fun t kt => pre92 t ?_⟩
              show Steps p.tables e below (s₁.setTop (mkF m 44 #[.val (.ref r0), .val (.int (0 : Int32)), .val (.int p2), .val (.int (0 : Int32)), .val (.int y0)] [(.int (45 : Int32)), (.int y0)])) _
              refine XS.icmpNo X0.here hx rfl (hb hby d3_44) rfl (feq hc44).1 ?_
              show Steps p.tables e below (s₁.setTop (mkF m 47 #[.val (.ref r0), .val (.int (0 : Int32)), .val (.int p2), .val (.int (0 : Int32)), .val (.int y0)] [])) _
              exact kt
          · have pre93 : ∀ t, Steps p.tables e below (s₁.setTop (mkF m 37 #[.val (.ref r0), .val (.int (0 : Int32)), .val (.int p2), .val (.int (0 : Int32)), .val (.int y0)] [(.int (57 : Int32)), (.int y0)])) t → Steps p.tables e below (s₁.setTop (entryFrame m #[(.ref r0), (.int (0 : Int32)), (.int p2)] 5)) t := fun t kt => pre91 t (by
              show Steps p.tables e below (s₁.setTop (mkF m 30 #[.val (.ref r0), .val (.int (0 : Int32)), .val (.int p2), .val (.int (0 : Int32)), .val (.int y0)] [(.int (48 : Int32)), (.int y0)])) _
              refine XS.icmpNo X0.here hx rfl (hb hby d3_30) rfl (flt hc30).1 ?_
              refine XS.iload X0.here hx rfl (hb hby d3_33) rfl ?_
              refine XS.bipush X0.here hx rfl (hb hby d3_35) ?_
              exact kt)
            by_cases hc37 : (57 : Int32) < y0
            · have pre94 : ∀ t, Steps p.tables e below (s₁.setTop (mkF m 44 #[.val (.ref r0), .val (.int (0 : Int32)), .val (.int p2), .val (.int (0 : Int32)), .val (.int y0)] [(.int (45 : Int32)), (.int y0)])) t → Steps p.tables e below (s₁.setTop (entryFrame m #[(.ref r0), (.int (0 : Int32)), (.int p2)] 5)) t := fun t kt => pre93 t (by
                show Steps p.tables e below (s₁.setTop (mkF m 37 #[.val (.ref r0), .val (.int (0 : Int32)), .val (.int p2), .val (.int (0 : Int32)), .val (.int y0)] [(.int (57 : Int32)), (.int y0)])) _
                refine XS.icmpNo X0.here hx rfl (hb hby d3_37) rfl (tlt hc37).2.2.2 ?_
                refine XS.iload X0.here hx rfl (hb hby d3_40) rfl ?_
                refine XS.bipush X0.here hx rfl (hb hby d3_42) ?_
                exact kt)
              by_cases hc44 : y0 = (45 : Int32)
              · exact absurd (show own_nm y0 = 1 by unfold own_nm; simp only [if_pos hc4, if_pos hc16, if_neg hc30, if_pos hc37, if_pos hc44]) (own_n1 hk0)
              · refine ⟨s₁, _, X0, N0, e0, fun t kt => pre94 t ?_⟩
                show Steps p.tables e below (s₁.setTop (mkF m 44 #[.val (.ref r0), .val (.int (0 : Int32)), .val (.int p2), .val (.int (0 : Int32)), .val (.int y0)] [(.int (45 : Int32)), (.int y0)])) _
                refine XS.icmpNo X0.here hx rfl (hb hby d3_44) rfl (feq hc44).1 ?_
                show Steps p.tables e below (s₁.setTop (mkF m 47 #[.val (.ref r0), .val (.int (0 : Int32)), .val (.int p2), .val (.int (0 : Int32)), .val (.int y0)] [])) _
                exact kt
            · exact absurd (show own_nm y0 = 1 by unfold own_nm; simp only [if_pos hc4, if_pos hc16, if_neg hc30, if_neg hc37]) (own_n1 hk0)
        · have pre95 : ∀ t, Steps p.tables e below (s₁.setTop (mkF m 23 #[.val (.ref r0), .val (.int (0 : Int32)), .val (.int p2), .val (.int (0 : Int32)), .val (.int y0)] [(.int (122 : Int32)), (.int y0)])) t → Steps p.tables e below (s₁.setTop (entryFrame m #[(.ref r0), (.int (0 : Int32)), (.int p2)] 5)) t := fun t kt => pre90 t (by
            show Steps p.tables e below (s₁.setTop (mkF m 16 #[.val (.ref r0), .val (.int (0 : Int32)), .val (.int p2), .val (.int (0 : Int32)), .val (.int y0)] [(.int (97 : Int32)), (.int y0)])) _
            refine XS.icmpNo X0.here hx rfl (hb hby d3_16) rfl (flt hc16).1 ?_
            refine XS.iload X0.here hx rfl (hb hby d3_19) rfl ?_
            refine XS.bipush X0.here hx rfl (hb hby d3_21) ?_
            exact kt)
          by_cases hc23 : (122 : Int32) < y0
          · have pre96 : ∀ t, Steps p.tables e below (s₁.setTop (mkF m 30 #[.val (.ref r0), .val (.int (0 : Int32)), .val (.int p2), .val (.int (0 : Int32)), .val (.int y0)] [(.int (48 : Int32)), (.int y0)])) t → Steps p.tables e below (s₁.setTop (entryFrame m #[(.ref r0), (.int (0 : Int32)), (.int p2)] 5)) t := fun t kt => pre95 t (by
              show Steps p.tables e below (s₁.setTop (mkF m 23 #[.val (.ref r0), .val (.int (0 : Int32)), .val (.int p2), .val (.int (0 : Int32)), .val (.int y0)] [(.int (122 : Int32)), (.int y0)])) _
              refine XS.icmpNo X0.here hx rfl (hb hby d3_23) rfl (tlt hc23).2.2.2 ?_
              refine XS.iload X0.here hx rfl (hb hby d3_26) rfl ?_
              refine XS.bipush X0.here hx rfl (hb hby d3_28) ?_
              exact kt)
            by_cases hc30 : y0 < (48 : Int32)
            · have pre97 : ∀ t, Steps p.tables e below (s₁.setTop (mkF m 44 #[.val (.ref r0), .val (.int (0 : Int32)), .val (.int p2), .val (.int (0 : Int32)), .val (.int y0)] [(.int (45 : Int32)), (.int y0)])) t → Steps p.tables e below (s₁.setTop (entryFrame m #[(.ref r0), (.int (0 : Int32)), (.int p2)] 5)) t := fun t kt => pre96 t (by
                show Steps p.tables e below (s₁.setTop (mkF m 30 #[.val (.ref r0), .val (.int (0 : Int32)), .val (.int p2), .val (.int (0 : Int32)), .val (.int y0)] [(.int (48 : Int32)), (.int y0)])) _
                refine XS.icmpYes X0.here hx rfl (pc0 := 30) (pc' := 40) rfl (hb hby d3_30) rfl (tlt hc30).1 (by decide) (by decide) ?_
                refine XS.iload X0.here hx rfl (hb hby d3_40) rfl ?_
                refine XS.bipush X0.here hx rfl (hb hby d3_42) ?_
                exact kt)
              by_cases hc44 : y0 = (45 : Int32)
              · exact absurd (show own_nm y0 = 1 by unfold own_nm; simp only [if_pos hc4, if_neg hc16, if_pos hc23, if_pos hc30, if_pos hc44]) (own_n1 hk0)
              · refine ⟨s₁, _, X0, N0, e0, fun t kt => pre97 t ?_⟩
                show Steps p.tables e below (s₁.setTop (mkF m 44 #[.val (.ref r0), .val (.int (0 : Int32)), .val (.int p2), .val (.int (0 : Int32)), .val (.int y0)] [(.int (45 : Int32)), (.int y0)])) _
                refine XS.icmpNo X0.here hx rfl (hb hby d3_44) rfl (feq hc44).1 ?_
                show Steps p.tables e below (s₁.setTop (mkF m 47 #[.val (.ref r0), .val (.int (0 : Int32)), .val (.int p2), .val (.int (0 : Int32)), .val (.int y0)] [])) _
                exact kt
            · have pre98 : ∀ t, Steps p.tables e below (s₁.setTop (mkF m 37 #[.val (.ref r0), .val (.int (0 : Int32)), .val (.int p2), .val (.int (0 : Int32)), .val (.int y0)] [(.int (57 : Int32)), (.int y0)])) t → Steps p.tables e below (s₁.setTop (entryFrame m #[(.ref r0), (.int (0 : Int32)), (.int p2)] 5)) t := fun t kt => pre96 t (by
                show Steps p.tables e below (s₁.setTop (mkF m 30 #[.val (.ref r0), .val (.int (0 : Int32)), .val (.int p2), .val (.int (0 : Int32)), .val (.int y0)] [(.int (48 : Int32)), (.int y0)])) _
                refine XS.icmpNo X0.here hx rfl (hb hby d3_30) rfl (flt hc30).1 ?_
                refine XS.iload X0.here hx rfl (hb hby d3_33) rfl ?_
                refine XS.bipush X0.here hx rfl (hb hby d3_35) ?_
                exact kt)
              by_cases hc37 : (57 : Int32) < y0
              · have pre99 : ∀ t, Steps p.tables e below (s₁.setTop (mkF m 44 #[.val (.ref r0), .val (.int (0 : Int32)), .val (.int p2), .val (.int (0 : Int32)), .val (.int y0)] [(.int (45 : Int32)), (.int y0)])) t → Steps p.tables e below (s₁.setTop (entryFrame m #[(.ref r0), (.int (0 : Int32)), (.int p2)] 5)) t := fun t kt => pre98 t (by
                  show Steps p.tables e below (s₁.setTop (mkF m 37 #[.val (.ref r0), .val (.int (0 : Int32)), .val (.int p2), .val (.int (0 : Int32)), .val (.int y0)] [(.int (57 : Int32)), (.int y0)])) _
                  refine XS.icmpNo X0.here hx rfl (hb hby d3_37) rfl (tlt hc37).2.2.2 ?_
                  refine XS.iload X0.here hx rfl (hb hby d3_40) rfl ?_
                  refine XS.bipush X0.here hx rfl (hb hby d3_42) ?_
                  exact kt)
                by_cases hc44 : y0 = (45 : Int32)
                · exact absurd (show own_nm y0 = 1 by unfold own_nm; simp only [if_pos hc4, if_neg hc16, if_pos hc23, if_neg hc30, if_pos hc37, if_pos hc44]) (own_n1 hk0)
                · refine ⟨s₁, _, X0, N0, e0, fun t kt => pre99 t ?_⟩
                  show Steps p.tables e below (s₁.setTop (mkF m 44 #[.val (.ref r0), .val (.int (0 : Int32)), .val (.int p2), .val (.int (0 : Int32)), .val (.int y0)] [(.int (45 : Int32)), (.int y0)])) _
                  refine XS.icmpNo X0.here hx rfl (hb hby d3_44) rfl (feq hc44).1 ?_
                  show Steps p.tables e below (s₁.setTop (mkF m 47 #[.val (.ref r0), .val (.int (0 : Int32)), .val (.int p2), .val (.int (0 : Int32)), .val (.int y0)] [])) _
                  exact kt
              · exact absurd (show own_nm y0 = 1 by unfold own_nm; simp only [if_pos hc4, if_neg hc16, if_pos hc23, if_neg hc30, if_neg hc37]) (own_n1 hk0)
          · exact absurd (show own_nm y0 = 1 by unfold own_nm; simp only [if_pos hc4, if_neg hc16, if_neg hc23]) (own_n1 hk0)
      obtain ⟨fs, hr, hrun, hended, hW, hsame⟩ := Xj100.leave (v := some (.int (0 : Int32))) (fun h => by rw [Bd.returns] at h; cases h)
      refine ⟨_, _, pre100 _ ?_, hrun, hended, _, _, rfl, ?_, ⟨_, rfl⟩, hW, hsame.mono (by decide) (by decide)⟩
      · show Steps p.tables e below (Tj100.setTop (mkF m 47 #[.val (.ref r0), .val (.int (0 : Int32)), .val (.int p2), .val (.int (0 : Int32)), .val (.int y0)] [])) _
        refine XS.iconst Xj100.here hx rfl (hb hby d3_47) ?_
        show Steps p.tables e below (Tj100.setTop (mkF m 48 #[.val (.ref r0), .val (.int (0 : Int32)), .val (.int p2), .val (.int (0 : Int32)), .val (.int y0)] [(.int (0 : Int32))])) _
        exact retN Xj100 hx (t := .boolean) Bd.returns (by simp) (hb hby d3_48) hr
      · show Q3s0 Z r0 p2 kb y0 y1 y2 y3 h0 n0 _ Tj100.heap _
        rw [ej100]
        exact ⟨(by unfold F3s0; simp only [if_pos hc4, if_neg hk0]), Nj100, rfl⟩
  · obtain ⟨fs, hr, hrun, hended, hW, hsame⟩ := X0.leave (v := some (.int (1 : Int32))) (fun h => by rw [Bd.returns] at h; cases h)
    refine ⟨_, _, pre1 _ ?_, hrun, hended, _, _, rfl, ?_, ⟨_, rfl⟩, hW, hsame.mono (by decide) (by decide)⟩
    · show Steps p.tables e below (s₁.setTop (mkF m 4 #[.val (.ref r0), .val (.int (0 : Int32)), .val (.int p2), .val (.int (0 : Int32)), .unset] [(.int p2), (.int (0 : Int32))])) _
      refine XS.icmpYes X0.here hx rfl (pc0 := 4) (pc' := 55) rfl (hb hby d3_4) rfl (flt hc4).2.1 (by decide) (by decide) ?_
      refine XS.iconst X0.here hx rfl (hb hby d3_55) ?_
      show Steps p.tables e below (s₁.setTop (mkF m 56 #[.val (.ref r0), .val (.int (0 : Int32)), .val (.int p2), .val (.int (0 : Int32)), .unset] [(.int (1 : Int32))])) _
      exact retN X0 hx (t := .boolean) Bd.returns (by simp) (hb hby d3_56) hr
    · show Q3s0 Z r0 p2 kb y0 y1 y2 y3 h0 n0 _ s₁.heap _
      rw [e0]
      exact ⟨(by unfold F3s0; simp only [if_neg hc4]), N0, rfl⟩
theorem ef_3s1 (r0 : Addr) (p2 : Int32) (kb : ClassId) (y0 y1 y2 y3 : Int32) (m : MethodId) : entryFrame m #[(.ref r0), (.int (1 : Int32)), (.int p2)] 5 = mkF m 0 #[.val (.ref r0), .val (.int (1 : Int32)), .val (.int p2), .unset, .unset] [] := by first | (simp [entryFrame, mkF, argsToLocals, Value.category]; done) | rfl
def F3s1 (p2 y0 y1 y2 y3 : Int32) : Int32 := (if (1 : Int32) < p2 then (if (own_nm y1) = (1 : Int32) then (if (2 : Int32) < p2 then (if (own_nm y2) = (1 : Int32) then (if (3 : Int32) < p2 then (if (own_nm y3) = (1 : Int32) then (1 : Int32) else (0 : Int32)) else (1 : Int32)) else (0 : Int32)) else (1 : Int32)) else (0 : Int32)) else (1 : Int32))
def Q3s1 (Z : State) (r0 : Addr) (p2 : Int32) (kb : ClassId) (y0 y1 y2 y3 : Int32) (h0 : Heap) (n0 : Nat) (v : Option Value) (h : Heap) (L : List Loc) : Prop := v = some (.int (F3s1 p2 y0 y1 y2 y3)) ∧ Fr n0 L ∧ h = h0
set_option maxRecDepth 65536 in
set_option maxHeartbeats 40000000 in
theorem rm3s1 (l : Launch) (Z : State) (a0 : Array Value) (hw : ∀ d ∈ tables_1, d.before a0 Z = true) (ws : List Jvm.Cond) (r0 : Addr) (p2 : Int32) (kb : ClassId) (y0 y1 y2 y3 : Int32) (h0 : Heap) (n0 : Nat) (Z0 : n0 ≤ h0.size) (V_b : Arv Z h0 r0 kb .byte (4 : Int32) [(.int y0), (.int y1), (.int y2), (.int y3)] (.int (0 : Int32))) (he4 : ¬ ((4 : Int32) < p2)) :
    MetFree l (⟨"com/example/standbye/standbye/TextInput", "isName", "([BII)Z"⟩ : MethodName) (head1 (Jvm.Cond.code (⟨"com/example/standbye/standbye/TextInput", "isName", "([BII)Z"⟩ : MethodName) prog_47_method_8_code 5 (some .boolean) :: ws) ({ frames := 0, cells := 0, slots := 0, locals := 0 } : Room)) (fun a U => a = #[(.ref r0), (.int (1 : Int32)), (.int p2)] ∧ Z.Warmed39 U.vm ∧ U.heap = h0) (fun _ _ _ _ _ => True) (fun _ U o U' => ∃ v L, o = .returned v ∧ Q3s1 Z r0 p2 kb y0 y1 y2 y3 h0 n0 v U'.heap L ∧ FrameEnd U o U' L ({ frames := 0, cells := 0, slots := 0, locals := 0 } : Room).cells ({ frames := 0, cells := 0, slots := 0, locals := 0 } : Room).slots) := by
  refine MetFree.of_bodySF (plainFor_of_name pn_com_example_standbye_standbye_TextInput) hisR ?_
  intro p e s m args below meth c s₁ Bd hml0 hP hK
  obtain ⟨rfl, hZ, hh⟩ := hP
  have hx := Bd.exec
  have hby := Bd.bytes
  have hml : c.maxLocals = 5 := hml0
  have hown : s.vm.findClass "com/example/standbye/standbye/TextInput" = some m.cls := findClass_of_methodNamed Bd.named
  have hnm := (name_of_methodNamed Bd.named Bd.method).1
  have X0 : Stand p l e ({ frames := 0, cells := 0, slots := 0, locals := 0 } : Room) s m #[(.ref r0), (.int (1 : Int32)), (.int p2)] below meth c s₁ [] 0 0 := Stand.of_body Bd
  have e0 : s₁.heap = h0 := by rw [← hh, Bd.state]; rfl
  have N0 := Fr.nil n0
  have pre0 : ∀ t, Steps p.tables e below (s₁.setTop (mkF m 0 #[.val (.ref r0), .val (.int (1 : Int32)), .val (.int p2), .unset, .unset] [])) t → Steps p.tables e below (s₁.setTop (entryFrame m #[(.ref r0), (.int (1 : Int32)), (.int p2)] 5)) t := fun t k => castTop (ef_3s1 r0 p2 kb y0 y1 y2 y3 m) k
  have pre1 : ∀ t, Steps p.tables e below (s₁.setTop (mkF m 4 #[.val (.ref r0), .val (.int (1 : Int32)), .val (.int p2), .val (.int (1 : Int32)), .unset] [(.int p2), (.int (1 : Int32))])) t → Steps p.tables e below (s₁.setTop (entryFrame m #[(.ref r0), (.int (1 : Int32)), (.int p2)] 5)) t := fun t kt => pre0 t (by
    show Steps p.tables e below (s₁.setTop (mkF m 0 #[.val (.ref r0), .val (.int (1 : Int32)), .val (.int p2), .unset, .unset] [])) _
    refine XS.iloadN X0.here hx rfl (hb hby d3_0) rfl ?_
    refine XS.istoreN X0.here hx rfl (hb hby d3_1) rfl (l' := #[.val (.ref r0), .val (.int (1 : Int32)), .val (.int p2), .val (.int (1 : Int32)), .unset]) rfl ?_
    refine XS.iloadN X0.here hx rfl (hb hby d3_2) rfl ?_
    refine XS.iloadN X0.here hx rfl (hb hby d3_3) rfl ?_
    exact kt)
  by_cases hc4 : (1 : Int32) < p2
  · obtain ⟨cl2, Ar2, qa2, S2, Nl2, H2, G2⟩ := id V_b
    have hin2 : ¬ ((1 : Int32) < 0 ∨ cl2.slots.size ≤ ((1 : Int32)).toNatClampNeg) := inb_of S2 ⟨by decide, by decide⟩
    have hat2 : cl2.slots[((1 : Int32)).toNatClampNeg]? = some (.int y1) := Has.at H2 hin2 rfl
    have pre3 : ∀ t, Steps p.tables e below (s₁.setTop (mkF m 12 #[.val (.ref r0), .val (.int (1 : Int32)), .val (.int p2), .val (.int (1 : Int32)), .val (.int y1)] [])) t → Steps p.tables e below (s₁.setTop (entryFrame m #[(.ref r0), (.int (1 : Int32)), (.int p2)] 5)) t := fun t kt => pre1 t (by
      show Steps p.tables e below (s₁.setTop (mkF m 4 #[.val (.ref r0), .val (.int (1 : Int32)), .val (.int p2), .val (.int (1 : Int32)), .unset] [(.int p2), (.int (1 : Int32))])) _
      refine XS.icmpNo X0.here hx rfl (hb hby d3_4) rfl (tlt hc4).2.1 ?_
      refine XS.aloadN X0.here hx rfl (hb hby d3_7) rfl rfl ?_
      refine XS.iloadN X0.here hx rfl (hb hby d3_8) rfl ?_
      refine X0.baloadBytes hx (j := (1 : Int32)) (v := (.int y1)) (by rw [e0]; exact Ar2.1) (State.isArrayOf_alike hZ.alike Ar2.2.1) Ar2.2.2 hin2 hat2 (g := (mkF m 9 #[.val (.ref r0), .val (.int (1 : Int32)), .val (.int p2), .val (.int (1 : Int32)), .unset] [(.int (1 : Int32)), (.ref r0)])) rfl rfl (hb hby d3_9) _ ?_
      refine XS.istore X0.here hx rfl (hb hby d3_10) rfl (l' := #[.val (.ref r0), .val (.int (1 : Int32)), .val (.int p2), .val (.int (1 : Int32)), .val (.int y1)]) rfl ?_
      exact kt)
    by_cases hk1 : (own_nm y1) = (1 : Int32)
    · obtain ⟨Tj14, lj14, Xj14, Nj14, ej14, pre14⟩ : ∃ (T' : State) (locs' : List Loc), Stand p l e ({ frames := 0, cells := 0, slots := 0, locals := 0 } : Room) s m #[(.ref r0), (.int (1 : Int32)), (.int p2)] below meth c T' locs' 0 0 ∧ Fr n0 locs' ∧ T'.heap = h0 ∧ ∀ t, Steps p.tables e below (T'.setTop (mkF m 49 #[.val (.ref r0), .val (.int (1 : Int32)), .val (.int p2), .val (.int (1 : Int32)), .val (.int y1)] [])) t → Steps p.tables e below (s₁.setTop (entryFrame m #[(.ref r0), (.int (1 : Int32)), (.int p2)] 5)) t := by
        have pre4 : ∀ t, Steps p.tables e below (s₁.setTop (mkF m 16 #[.val (.ref r0), .val (.int (1 : Int32)), .val (.int p2), .val (.int (1 : Int32)), .val (.int y1)] [(.int (97 : Int32)), (.int y1)])) t → Steps p.tables e below (s₁.setTop (entryFrame m #[(.ref r0), (.int (1 : Int32)), (.int p2)] 5)) t := fun t kt => pre3 t (by
          show Steps p.tables e below (s₁.setTop (mkF m 12 #[.val (.ref r0), .val (.int (1 : Int32)), .val (.int p2), .val (.int (1 : Int32)), .val (.int y1)] [])) _
          refine XS.iload X0.here hx rfl (hb hby d3_12) rfl ?_
          refine XS.bipush X0.here hx rfl (hb hby d3_14) ?_
          exact kt)
        by_cases hc16 : y1 < (97 : Int32)
        · have pre5 : ∀ t, Steps p.tables e below (s₁.setTop (mkF m 30 #[.val (.ref r0), .val (.int (1 : Int32)), .val (.int p2), .val (.int (1 : Int32)), .val (.int y1)] [(.int (48 : Int32)), (.int y1)])) t → Steps p.tables e below (s₁.setTop (entryFrame m #[(.ref r0), (.int (1 : Int32)), (.int p2)] 5)) t := fun t kt => pre4 t (by
            show Steps p.tables e below (s₁.setTop (mkF m 16 #[.val (.ref r0), .val (.int (1 : Int32)), .val (.int p2), .val (.int (1 : Int32)), .val (.int y1)] [(.int (97 : Int32)), (.int y1)])) _
            refine XS.icmpYes X0.here hx rfl (pc0 := 16) (pc' := 26) rfl (hb hby d3_16) rfl (tlt hc16).1 (by decide) (by decide) ?_
            refine XS.iload X0.here hx rfl (hb hby d3_26) rfl ?_
            refine XS.bipush X0.here hx rfl (hb hby d3_28) ?_
            exact kt)
          by_cases hc30 : y1 < (48 : Int32)
          · have pre6 : ∀ t, Steps p.tables e below (s₁.setTop (mkF m 44 #[.val (.ref r0), .val (.int (1 : Int32)), .val (.int p2), .val (.int (1 : Int32)), .val (.int y1)] [(.int (45 : Int32)), (.int y1)])) t → Steps p.tables e below (s₁.setTop (entryFrame m #[(.ref r0), (.int (1 : Int32)), (.int p2)] 5)) t := fun t kt => pre5 t (by
              show Steps p.tables e below (s₁.setTop (mkF m 30 #[.val (.ref r0), .val (.int (1 : Int32)), .val (.int p2), .val (.int (1 : Int32)), .val (.int y1)] [(.int (48 : Int32)), (.int y1)])) _
              refine XS.icmpYes X0.here hx rfl (pc0 := 30) (pc' := 40) rfl (hb hby d3_30) rfl (tlt hc30).1 (by decide) (by decide) ?_
              refine XS.iload X0.here hx rfl (hb hby d3_40) rfl ?_
              refine XS.bipush X0.here hx rfl (hb hby d3_42) ?_
              exact kt)
            by_cases hc44 : y1 = (45 : Int32)
            · refine ⟨s₁, _, X0, N0, e0, fun t kt => pre6 t ?_⟩
              show Steps p.tables e below (s₁.setTop (mkF m 44 #[.val (.ref r0), .val (.int (1 : Int32)), .val (.int p2), .val (.int (1 : Int32)), .val (.int y1)] [(.int (45 : Int32)), (.int y1)])) _
              refine XS.icmpYes X0.here hx rfl (pc0 := 44) (pc' := 49) rfl (hb hby d3_44) rfl (teq hc44).1 (by decide) (by decide) ?_
              show Steps p.tables e below (s₁.setTop (mkF m 49 #[.val (.ref r0), .val (.int (1 : Int32)), .val (.int p2), .val (.int (1 : Int32)), .val (.int y1)] [])) _
              exact kt
            · exact absurd (show own_nm y1 = 0 by unfold own_nm; simp only [if_pos hc4, if_pos hc16, if_pos hc30, if_neg hc44]) (own_n0 hk1)
          · have pre7 : ∀ t, Steps p.tables e below (s₁.setTop (mkF m 37 #[.val (.ref r0), .val (.int (1 : Int32)), .val (.int p2), .val (.int (1 : Int32)), .val (.int y1)] [(.int (57 : Int32)), (.int y1)])) t → Steps p.tables e below (s₁.setTop (entryFrame m #[(.ref r0), (.int (1 : Int32)), (.int p2)] 5)) t := fun t kt => pre5 t (by
              show Steps p.tables e below (s₁.setTop (mkF m 30 #[.val (.ref r0), .val (.int (1 : Int32)), .val (.int p2), .val (.int (1 : Int32)), .val (.int y1)] [(.int (48 : Int32)), (.int y1)])) _
              refine XS.icmpNo X0.here hx rfl (hb hby d3_30) rfl (flt hc30).1 ?_
              refine XS.iload X0.here hx rfl (hb hby d3_33) rfl ?_
              refine XS.bipush X0.here hx rfl (hb hby d3_35) ?_
              exact kt)
            by_cases hc37 : (57 : Int32) < y1
            · have pre8 : ∀ t, Steps p.tables e below (s₁.setTop (mkF m 44 #[.val (.ref r0), .val (.int (1 : Int32)), .val (.int p2), .val (.int (1 : Int32)), .val (.int y1)] [(.int (45 : Int32)), (.int y1)])) t → Steps p.tables e below (s₁.setTop (entryFrame m #[(.ref r0), (.int (1 : Int32)), (.int p2)] 5)) t := fun t kt => pre7 t (by
                show Steps p.tables e below (s₁.setTop (mkF m 37 #[.val (.ref r0), .val (.int (1 : Int32)), .val (.int p2), .val (.int (1 : Int32)), .val (.int y1)] [(.int (57 : Int32)), (.int y1)])) _
                refine XS.icmpNo X0.here hx rfl (hb hby d3_37) rfl (tlt hc37).2.2.2 ?_
                refine XS.iload X0.here hx rfl (hb hby d3_40) rfl ?_
                refine XS.bipush X0.here hx rfl (hb hby d3_42) ?_
                exact kt)
              by_cases hc44 : y1 = (45 : Int32)
              · refine ⟨s₁, _, X0, N0, e0, fun t kt => pre8 t ?_⟩
                show Steps p.tables e below (s₁.setTop (mkF m 44 #[.val (.ref r0), .val (.int (1 : Int32)), .val (.int p2), .val (.int (1 : Int32)), .val (.int y1)] [(.int (45 : Int32)), (.int y1)])) _
                refine XS.icmpYes X0.here hx rfl (pc0 := 44) (pc' := 49) rfl (hb hby d3_44) rfl (teq hc44).1 (by decide) (by decide) ?_
                show Steps p.tables e below (s₁.setTop (mkF m 49 #[.val (.ref r0), .val (.int (1 : Int32)), .val (.int p2), .val (.int (1 : Int32)), .val (.int y1)] [])) _
                exact kt
              · exact absurd (show own_nm y1 = 0 by unfold own_nm; simp only [if_pos hc4, if_pos hc16, if_neg hc30, if_pos hc37, if_neg hc44]) (own_n0 hk1)
            · refine ⟨s₁, _, X0, N0, e0, fun t kt => pre7 t ?_⟩
              show Steps p.tables e below (s₁.setTop (mkF m 37 #[.val (.ref r0), .val (.int (1 : Int32)), .val (.int p2), .val (.int (1 : Int32)), .val (.int y1)] [(.int (57 : Int32)), (.int y1)])) _
              refine XS.icmpYes X0.here hx rfl (pc0 := 37) (pc' := 49) rfl (hb hby d3_37) rfl (flt hc37).2.2.2 (by decide) (by decide) ?_
              show Steps p.tables e below (s₁.setTop (mkF m 49 #[.val (.ref r0), .val (.int (1 : Int32)), .val (.int p2), .val (.int (1 : Int32)), .val (.int y1)] [])) _
              exact kt
        · have pre9 : ∀ t, Steps p.tables e below (s₁.setTop (mkF m 23 #[.val (.ref r0), .val (.int (1 : Int32)), .val (.int p2), .val (.int (1 : Int32)), .val (.int y1)] [(.int (122 : Int32)), (.int y1)])) t → Steps p.tables e below (s₁.setTop (entryFrame m #[(.ref r0), (.int (1 : Int32)), (.int p2)] 5)) t := fun t kt => pre4 t (by
            show Steps p.tables e below (s₁.setTop (mkF m 16 #[.val (.ref r0), .val (.int (1 : Int32)), .val (.int p2), .val (.int (1 : Int32)), .val (.int y1)] [(.int (97 : Int32)), (.int y1)])) _
            refine XS.icmpNo X0.here hx rfl (hb hby d3_16) rfl (flt hc16).1 ?_
            refine XS.iload X0.here hx rfl (hb hby d3_19) rfl ?_
            refine XS.bipush X0.here hx rfl (hb hby d3_21) ?_
            exact kt)
          by_cases hc23 : (122 : Int32) < y1
          · have pre10 : ∀ t, Steps p.tables e below (s₁.setTop (mkF m 30 #[.val (.ref r0), .val (.int (1 : Int32)), .val (.int p2), .val (.int (1 : Int32)), .val (.int y1)] [(.int (48 : Int32)), (.int y1)])) t → Steps p.tables e below (s₁.setTop (entryFrame m #[(.ref r0), (.int (1 : Int32)), (.int p2)] 5)) t := fun t kt => pre9 t (by
              show Steps p.tables e below (s₁.setTop (mkF m 23 #[.val (.ref r0), .val (.int (1 : Int32)), .val (.int p2), .val (.int (1 : Int32)), .val (.int y1)] [(.int (122 : Int32)), (.int y1)])) _
              refine XS.icmpNo X0.here hx rfl (hb hby d3_23) rfl (tlt hc23).2.2.2 ?_
              refine XS.iload X0.here hx rfl (hb hby d3_26) rfl ?_
              refine XS.bipush X0.here hx rfl (hb hby d3_28) ?_
              exact kt)
            by_cases hc30 : y1 < (48 : Int32)
            · have pre11 : ∀ t, Steps p.tables e below (s₁.setTop (mkF m 44 #[.val (.ref r0), .val (.int (1 : Int32)), .val (.int p2), .val (.int (1 : Int32)), .val (.int y1)] [(.int (45 : Int32)), (.int y1)])) t → Steps p.tables e below (s₁.setTop (entryFrame m #[(.ref r0), (.int (1 : Int32)), (.int p2)] 5)) t := fun t kt => pre10 t (by
                show Steps p.tables e below (s₁.setTop (mkF m 30 #[.val (.ref r0), .val (.int (1 : Int32)), .val (.int p2), .val (.int (1 : Int32)), .val (.int y1)] [(.int (48 : Int32)), (.int y1)])) _
                refine XS.icmpYes X0.here hx rfl (pc0 := 30) (pc' := 40) rfl (hb hby d3_30) rfl (tlt hc30).1 (by decide) (by decide) ?_
                refine XS.iload X0.here hx rfl (hb hby d3_40) rfl ?_
                refine XS.bipush X0.here hx rfl (hb hby d3_42) ?_
                exact kt)
              by_cases hc44 : y1 = (45 : Int32)
              · refine ⟨s₁, _, X0, N0, e0, fun t kt => pre11 t ?_⟩
                show Steps p.tables e below (s₁.setTop (mkF m 44 #[.val (.ref r0), .val (.int (1 : Int32)), .val (.int p2), .val (.int (1 : Int32)), .val (.int y1)] [(.int (45 : Int32)), (.int y1)])) _
                refine XS.icmpYes X0.here hx rfl (pc0 := 44) (pc' := 49) rfl (hb hby d3_44) rfl (teq hc44).1 (by decide) (by decide) ?_
                show Steps p.tables e below (s₁.setTop (mkF m 49 #[.val (.ref r0), .val (.int (1 : Int32)), .val (.int p2), .val (.int (1 : Int32)), .val (.int y1)] [])) _
                exact kt
              · exact absurd (show own_nm y1 = 0 by unfold own_nm; simp only [if_pos hc4, if_neg hc16, if_pos hc23, if_pos hc30, if_neg hc44]) (own_n0 hk1)
            · have pre12 : ∀ t, Steps p.tables e below (s₁.setTop (mkF m 37 #[.val (.ref r0), .val (.int (1 : Int32)), .val (.int p2), .val (.int (1 : Int32)), .val (.int y1)] [(.int (57 : Int32)), (.int y1)])) t → Steps p.tables e below (s₁.setTop (entryFrame m #[(.ref r0), (.int (1 : Int32)), (.int p2)] 5)) t := fun t kt => pre10 t (by
                show Steps p.tables e below (s₁.setTop (mkF m 30 #[.val (.ref r0), .val (.int (1 : Int32)), .val (.int p2), .val (.int (1 : Int32)), .val (.int y1)] [(.int (48 : Int32)), (.int y1)])) _
                refine XS.icmpNo X0.here hx rfl (hb hby d3_30) rfl (flt hc30).1 ?_
                refine XS.iload X0.here hx rfl (hb hby d3_33) rfl ?_
                refine XS.bipush X0.here hx rfl (hb hby d3_35) ?_
                exact kt)
              by_cases hc37 : (57 : Int32) < y1
              · have pre13 : ∀ t, Steps p.tables e below (s₁.setTop (mkF m 44 #[.val (.ref r0), .val (.int (1 : Int32)), .val (.int p2), .val (.int (1 : Int32)), .val (.int y1)] [(.int (45 : Int32)), (.int y1)])) t → Steps p.tables e below (s₁.setTop (entryFrame m #[(.ref r0), (.int (1 : Int32)), (.int p2)] 5)) t := fun t kt => pre12 t (by
                  show Steps p.tables e below (s₁.setTop (mkF m 37 #[.val (.ref r0), .val (.int (1 : Int32)), .val (.int p2), .val (.int (1 : Int32)), .val (.int y1)] [(.int (57 : Int32)), (.int y1)])) _
                  refine XS.icmpNo X0.here hx rfl (hb hby d3_37) rfl (tlt hc37).2.2.2 ?_
                  refine XS.iload X0.here hx rfl (hb hby d3_40) rfl ?_
                  refine XS.bipush X0.here hx rfl (hb hby d3_42) ?_
                  exact kt)
                by_cases hc44 : y1 = (45 : Int32)
                · refine ⟨s₁, _, X0, N0, e0, fun t kt => pre13 t ?_⟩
                  show Steps p.tables e below (s₁.setTop (mkF m 44 #[.val (.ref r0), .val (.int (1 : Int32)), .val (.int p2), .val (.int (1 : Int32)), .val (.int y1)] [(.int (45 : Int32)), (.int y1)])) _
                  refine XS.icmpYes X0.here hx rfl (pc0 := 44) (pc' := 49) rfl (hb hby d3_44) rfl (teq hc44).1 (by decide) (by decide) ?_
                  show Steps p.tables e below (s₁.setTop (mkF m 49 #[.val (.ref r0), .val (.int (1 : Int32)), .val (.int p2), .val (.int (1 : Int32)), .val (.int y1)] [])) _
                  exact kt
                · exact absurd (show own_nm y1 = 0 by unfold own_nm; simp only [if_pos hc4, if_neg hc16, if_pos hc23, if_neg hc30, if_pos hc37, if_neg hc44]) (own_n0 hk1)
              · refine ⟨s₁, _, X0, N0, e0, fun t kt => pre12 t ?_⟩
                show Steps p.tables e below (s₁.setTop (mkF m 37 #[.val (.ref r0), .val (.int (1 : Int32)), .val (.int p2), .val (.int (1 : Int32)), .val (.int y1)] [(.int (57 : Int32)), (.int y1)])) _
                refine XS.icmpYes X0.here hx rfl (pc0 := 37) (pc' := 49) rfl (hb hby d3_37) rfl (flt hc37).2.2.2 (by decide) (by decide) ?_
                show Steps p.tables e below (s₁.setTop (mkF m 49 #[.val (.ref r0), .val (.int (1 : Int32)), .val (.int p2), .val (.int (1 : Int32)), .val (.int y1)] [])) _
                exact kt
          · refine ⟨s₁, _, X0, N0, e0, fun t kt => pre9 t ?_⟩
            show Steps p.tables e below (s₁.setTop (mkF m 23 #[.val (.ref r0), .val (.int (1 : Int32)), .val (.int p2), .val (.int (1 : Int32)), .val (.int y1)] [(.int (122 : Int32)), (.int y1)])) _
            refine XS.icmpYes X0.here hx rfl (pc0 := 23) (pc' := 49) rfl (hb hby d3_23) rfl (flt hc23).2.2.2 (by decide) (by decide) ?_
            show Steps p.tables e below (s₁.setTop (mkF m 49 #[.val (.ref r0), .val (.int (1 : Int32)), .val (.int p2), .val (.int (1 : Int32)), .val (.int y1)] [])) _
            exact kt
      have pre15 : ∀ t, Steps p.tables e below (Tj14.setTop (mkF m 4 #[.val (.ref r0), .val (.int (1 : Int32)), .val (.int p2), .val (.int (2 : Int32)), .val (.int y1)] [(.int p2), (.int (2 : Int32))])) t → Steps p.tables e below (s₁.setTop (entryFrame m #[(.ref r0), (.int (1 : Int32)), (.int p2)] 5)) t := fun t kt => pre14 t (by
        show Steps p.tables e below (Tj14.setTop (mkF m 49 #[.val (.ref r0), .val (.int (1 : Int32)), .val (.int p2), .val (.int (1 : Int32)), .val (.int y1)] [])) _
        refine XS.iinc Xj14.here hx rfl (hb hby d3_49) rfl (l' := #[.val (.ref r0), .val (.int (1 : Int32)), .val (.int p2), .val (.int (2 : Int32)), .val (.int y1)]) rfl ?_
        refine XS.goto Xj14.here hx rfl (pc0 := 52) (pc' := 2) rfl (hb hby d3_52) (by decide) (by decide) ?_
        refine XS.iloadN Xj14.here hx rfl (hb hby d3_2) rfl ?_
        refine XS.iloadN Xj14.here hx rfl (hb hby d3_3) rfl ?_
        exact kt)
      by_cases hc4_2 : (2 : Int32) < p2
      · obtain ⟨cl16, Ar16, qa16, S16, Nl16, H16, G16⟩ := id V_b
        have hin16 : ¬ ((2 : Int32) < 0 ∨ cl16.slots.size ≤ ((2 : Int32)).toNatClampNeg) := inb_of S16 ⟨by decide, by decide⟩
        have hat16 : cl16.slots[((2 : Int32)).toNatClampNeg]? = some (.int y2) := Has.at H16 hin16 rfl
        have pre17 : ∀ t, Steps p.tables e below (Tj14.setTop (mkF m 12 #[.val (.ref r0), .val (.int (1 : Int32)), .val (.int p2), .val (.int (2 : Int32)), .val (.int y2)] [])) t → Steps p.tables e below (s₁.setTop (entryFrame m #[(.ref r0), (.int (1 : Int32)), (.int p2)] 5)) t := fun t kt => pre15 t (by
          show Steps p.tables e below (Tj14.setTop (mkF m 4 #[.val (.ref r0), .val (.int (1 : Int32)), .val (.int p2), .val (.int (2 : Int32)), .val (.int y1)] [(.int p2), (.int (2 : Int32))])) _
          refine XS.icmpNo Xj14.here hx rfl (hb hby d3_4) rfl (tlt hc4_2).2.1 ?_
          refine XS.aloadN Xj14.here hx rfl (hb hby d3_7) rfl rfl ?_
          refine XS.iloadN Xj14.here hx rfl (hb hby d3_8) rfl ?_
          refine Xj14.baloadBytes hx (j := (2 : Int32)) (v := (.int y2)) (by rw [ej14]; exact Ar16.1) (State.isArrayOf_alike hZ.alike Ar16.2.1) Ar16.2.2 hin16 hat16 (g := (mkF m 9 #[.val (.ref r0), .val (.int (1 : Int32)), .val (.int p2), .val (.int (2 : Int32)), .val (.int y1)] [(.int (2 : Int32)), (.ref r0)])) rfl rfl (hb hby d3_9) _ ?_
          refine XS.istore Xj14.here hx rfl (hb hby d3_10) rfl (l' := #[.val (.ref r0), .val (.int (1 : Int32)), .val (.int p2), .val (.int (2 : Int32)), .val (.int y2)]) rfl ?_
          exact kt)
        by_cases hk2 : (own_nm y2) = (1 : Int32)
        · obtain ⟨Tj28, lj28, Xj28, Nj28, ej28, pre28⟩ : ∃ (T' : State) (locs' : List Loc), Stand p l e ({ frames := 0, cells := 0, slots := 0, locals := 0 } : Room) s m #[(.ref r0), (.int (1 : Int32)), (.int p2)] below meth c T' locs' 0 0 ∧ Fr n0 locs' ∧ T'.heap = h0 ∧ ∀ t, Steps p.tables e below (T'.setTop (mkF m 49 #[.val (.ref r0), .val (.int (1 : Int32)), .val (.int p2), .val (.int (2 : Int32)), .val (.int y2)] [])) t → Steps p.tables e below (s₁.setTop (entryFrame m #[(.ref r0), (.int (1 : Int32)), (.int p2)] 5)) t := by
            have pre18 : ∀ t, Steps p.tables e below (Tj14.setTop (mkF m 16 #[.val (.ref r0), .val (.int (1 : Int32)), .val (.int p2), .val (.int (2 : Int32)), .val (.int y2)] [(.int (97 : Int32)), (.int y2)])) t → Steps p.tables e below (s₁.setTop (entryFrame m #[(.ref r0), (.int (1 : Int32)), (.int p2)] 5)) t := fun t kt => pre17 t (by
              show Steps p.tables e below (Tj14.setTop (mkF m 12 #[.val (.ref r0), .val (.int (1 : Int32)), .val (.int p2), .val (.int (2 : Int32)), .val (.int y2)] [])) _
              refine XS.iload Xj14.here hx rfl (hb hby d3_12) rfl ?_
              refine XS.bipush Xj14.here hx rfl (hb hby d3_14) ?_
              exact kt)
            by_cases hc16 : y2 < (97 : Int32)
            · have pre19 : ∀ t, Steps p.tables e below (Tj14.setTop (mkF m 30 #[.val (.ref r0), .val (.int (1 : Int32)), .val (.int p2), .val (.int (2 : Int32)), .val (.int y2)] [(.int (48 : Int32)), (.int y2)])) t → Steps p.tables e below (s₁.setTop (entryFrame m #[(.ref r0), (.int (1 : Int32)), (.int p2)] 5)) t := fun t kt => pre18 t (by
                show Steps p.tables e below (Tj14.setTop (mkF m 16 #[.val (.ref r0), .val (.int (1 : Int32)), .val (.int p2), .val (.int (2 : Int32)), .val (.int y2)] [(.int (97 : Int32)), (.int y2)])) _
                refine XS.icmpYes Xj14.here hx rfl (pc0 := 16) (pc' := 26) rfl (hb hby d3_16) rfl (tlt hc16).1 (by decide) (by decide) ?_
                refine XS.iload Xj14.here hx rfl (hb hby d3_26) rfl ?_
                refine XS.bipush Xj14.here hx rfl (hb hby d3_28) ?_
                exact kt)
              by_cases hc30 : y2 < (48 : Int32)
              · have pre20 : ∀ t, Steps p.tables e below (Tj14.setTop (mkF m 44 #[.val (.ref r0), .val (.int (1 : Int32)), .val (.int p2), .val (.int (2 : Int32)), .val (.int y2)] [(.int (45 : Int32)), (.int y2)])) t → Steps p.tables e below (s₁.setTop (entryFrame m #[(.ref r0), (.int (1 : Int32)), (.int p2)] 5)) t := fun t kt => pre19 t (by
                  show Steps p.tables e below (Tj14.setTop (mkF m 30 #[.val (.ref r0), .val (.int (1 : Int32)), .val (.int p2), .val (.int (2 : Int32)), .val (.int y2)] [(.int (48 : Int32)), (.int y2)])) _
                  refine XS.icmpYes Xj14.here hx rfl (pc0 := 30) (pc' := 40) rfl (hb hby d3_30) rfl (tlt hc30).1 (by decide) (by decide) ?_
                  refine XS.iload Xj14.here hx rfl (hb hby d3_40) rfl ?_
                  refine XS.bipush Xj14.here hx rfl (hb hby d3_42) ?_
                  exact kt)
                by_cases hc44 : y2 = (45 : Int32)
                · refine ⟨Tj14, _, Xj14, Nj14, ej14, fun t kt => pre20 t ?_⟩
                  show Steps p.tables e below (Tj14.setTop (mkF m 44 #[.val (.ref r0), .val (.int (1 : Int32)), .val (.int p2), .val (.int (2 : Int32)), .val (.int y2)] [(.int (45 : Int32)), (.int y2)])) _
                  refine XS.icmpYes Xj14.here hx rfl (pc0 := 44) (pc' := 49) rfl (hb hby d3_44) rfl (teq hc44).1 (by decide) (by decide) ?_
                  show Steps p.tables e below (Tj14.setTop (mkF m 49 #[.val (.ref r0), .val (.int (1 : Int32)), .val (.int p2), .val (.int (2 : Int32)), .val (.int y2)] [])) _
                  exact kt
                · exact absurd (show own_nm y2 = 0 by unfold own_nm; simp only [if_pos hc4, if_pos hc4_2, if_pos hc16, if_pos hc30, if_neg hc44]) (own_n0 hk2)
              · have pre21 : ∀ t, Steps p.tables e below (Tj14.setTop (mkF m 37 #[.val (.ref r0), .val (.int (1 : Int32)), .val (.int p2), .val (.int (2 : Int32)), .val (.int y2)] [(.int (57 : Int32)), (.int y2)])) t → Steps p.tables e below (s₁.setTop (entryFrame m #[(.ref r0), (.int (1 : Int32)), (.int p2)] 5)) t := fun t kt => pre19 t (by
                  show Steps p.tables e below (Tj14.setTop (mkF m 30 #[.val (.ref r0), .val (.int (1 : Int32)), .val (.int p2), .val (.int (2 : Int32)), .val (.int y2)] [(.int (48 : Int32)), (.int y2)])) _
                  refine XS.icmpNo Xj14.here hx rfl (hb hby d3_30) rfl (flt hc30).1 ?_
                  refine XS.iload Xj14.here hx rfl (hb hby d3_33) rfl ?_
                  refine XS.bipush Xj14.here hx rfl (hb hby d3_35) ?_
                  exact kt)
                by_cases hc37 : (57 : Int32) < y2
                · have pre22 : ∀ t, Steps p.tables e below (Tj14.setTop (mkF m 44 #[.val (.ref r0), .val (.int (1 : Int32)), .val (.int p2), .val (.int (2 : Int32)), .val (.int y2)] [(.int (45 : Int32)), (.int y2)])) t → Steps p.tables e below (s₁.setTop (entryFrame m #[(.ref r0), (.int (1 : Int32)), (.int p2)] 5)) t := fun t kt => pre21 t (by
                    show Steps p.tables e below (Tj14.setTop (mkF m 37 #[.val (.ref r0), .val (.int (1 : Int32)), .val (.int p2), .val (.int (2 : Int32)), .val (.int y2)] [(.int (57 : Int32)), (.int y2)])) _
                    refine XS.icmpNo Xj14.here hx rfl (hb hby d3_37) rfl (tlt hc37).2.2.2 ?_
                    refine XS.iload Xj14.here hx rfl (hb hby d3_40) rfl ?_
                    refine XS.bipush Xj14.here hx rfl (hb hby d3_42) ?_
                    exact kt)
                  by_cases hc44 : y2 = (45 : Int32)
                  · refine ⟨Tj14, _, Xj14, Nj14, ej14, fun t kt => pre22 t ?_⟩
                    show Steps p.tables e below (Tj14.setTop (mkF m 44 #[.val (.ref r0), .val (.int (1 : Int32)), .val (.int p2), .val (.int (2 : Int32)), .val (.int y2)] [(.int (45 : Int32)), (.int y2)])) _
                    refine XS.icmpYes Xj14.here hx rfl (pc0 := 44) (pc' := 49) rfl (hb hby d3_44) rfl (teq hc44).1 (by decide) (by decide) ?_
                    show Steps p.tables e below (Tj14.setTop (mkF m 49 #[.val (.ref r0), .val (.int (1 : Int32)), .val (.int p2), .val (.int (2 : Int32)), .val (.int y2)] [])) _
                    exact kt
                  · exact absurd (show own_nm y2 = 0 by unfold own_nm; simp only [if_pos hc4, if_pos hc4_2, if_pos hc16, if_neg hc30, if_pos hc37, if_neg hc44]) (own_n0 hk2)
                · refine ⟨Tj14, _, Xj14, Nj14, ej14, fun t kt => pre21 t ?_⟩
                  show Steps p.tables e below (Tj14.setTop (mkF m 37 #[.val (.ref r0), .val (.int (1 : Int32)), .val (.int p2), .val (.int (2 : Int32)), .val (.int y2)] [(.int (57 : Int32)), (.int y2)])) _
                  refine XS.icmpYes Xj14.here hx rfl (pc0 := 37) (pc' := 49) rfl (hb hby d3_37) rfl (flt hc37).2.2.2 (by decide) (by decide) ?_
                  show Steps p.tables e below (Tj14.setTop (mkF m 49 #[.val (.ref r0), .val (.int (1 : Int32)), .val (.int p2), .val (.int (2 : Int32)), .val (.int y2)] [])) _
                  exact kt
            · have pre23 : ∀ t, Steps p.tables e below (Tj14.setTop (mkF m 23 #[.val (.ref r0), .val (.int (1 : Int32)), .val (.int p2), .val (.int (2 : Int32)), .val (.int y2)] [(.int (122 : Int32)), (.int y2)])) t → Steps p.tables e below (s₁.setTop (entryFrame m #[(.ref r0), (.int (1 : Int32)), (.int p2)] 5)) t := fun t kt => pre18 t (by
                show Steps p.tables e below (Tj14.setTop (mkF m 16 #[.val (.ref r0), .val (.int (1 : Int32)), .val (.int p2), .val (.int (2 : Int32)), .val (.int y2)] [(.int (97 : Int32)), (.int y2)])) _
                refine XS.icmpNo Xj14.here hx rfl (hb hby d3_16) rfl (flt hc16).1 ?_
                refine XS.iload Xj14.here hx rfl (hb hby d3_19) rfl ?_
                refine XS.bipush Xj14.here hx rfl (hb hby d3_21) ?_
                exact kt)
              by_cases hc23 : (122 : Int32) < y2
              · have pre24 : ∀ t, Steps p.tables e below (Tj14.setTop (mkF m 30 #[.val (.ref r0), .val (.int (1 : Int32)), .val (.int p2), .val (.int (2 : Int32)), .val (.int y2)] [(.int (48 : Int32)), (.int y2)])) t → Steps p.tables e below (s₁.setTop (entryFrame m #[(.ref r0), (.int (1 : Int32)), (.int p2)] 5)) t := fun t kt => pre23 t (by
                  show Steps p.tables e below (Tj14.setTop (mkF m 23 #[.val (.ref r0), .val (.int (1 : Int32)), .val (.int p2), .val (.int (2 : Int32)), .val (.int y2)] [(.int (122 : Int32)), (.int y2)])) _
                  refine XS.icmpNo Xj14.here hx rfl (hb hby d3_23) rfl (tlt hc23).2.2.2 ?_
                  refine XS.iload Xj14.here hx rfl (hb hby d3_26) rfl ?_
                  refine XS.bipush Xj14.here hx rfl (hb hby d3_28) ?_
                  exact kt)
                by_cases hc30 : y2 < (48 : Int32)
                · have pre25 : ∀ t, Steps p.tables e below (Tj14.setTop (mkF m 44 #[.val (.ref r0), .val (.int (1 : Int32)), .val (.int p2), .val (.int (2 : Int32)), .val (.int y2)] [(.int (45 : Int32)), (.int y2)])) t → Steps p.tables e below (s₁.setTop (entryFrame m #[(.ref r0), (.int (1 : Int32)), (.int p2)] 5)) t := fun t kt => pre24 t (by
                    show Steps p.tables e below (Tj14.setTop (mkF m 30 #[.val (.ref r0), .val (.int (1 : Int32)), .val (.int p2), .val (.int (2 : Int32)), .val (.int y2)] [(.int (48 : Int32)), (.int y2)])) _
                    refine XS.icmpYes Xj14.here hx rfl (pc0 := 30) (pc' := 40) rfl (hb hby d3_30) rfl (tlt hc30).1 (by decide) (by decide) ?_
                    refine XS.iload Xj14.here hx rfl (hb hby d3_40) rfl ?_
                    refine XS.bipush Xj14.here hx rfl (hb hby d3_42) ?_
                    exact kt)
                  by_cases hc44 : y2 = (45 : Int32)
                  · refine ⟨Tj14, _, Xj14, Nj14, ej14, fun t kt => pre25 t ?_⟩
                    show Steps p.tables e below (Tj14.setTop (mkF m 44 #[.val (.ref r0), .val (.int (1 : Int32)), .val (.int p2), .val (.int (2 : Int32)), .val (.int y2)] [(.int (45 : Int32)), (.int y2)])) _
                    refine XS.icmpYes Xj14.here hx rfl (pc0 := 44) (pc' := 49) rfl (hb hby d3_44) rfl (teq hc44).1 (by decide) (by decide) ?_
                    show Steps p.tables e below (Tj14.setTop (mkF m 49 #[.val (.ref r0), .val (.int (1 : Int32)), .val (.int p2), .val (.int (2 : Int32)), .val (.int y2)] [])) _
                    exact kt
                  · exact absurd (show own_nm y2 = 0 by unfold own_nm; simp only [if_pos hc4, if_pos hc4_2, if_neg hc16, if_pos hc23, if_pos hc30, if_neg hc44]) (own_n0 hk2)
                · have pre26 : ∀ t, Steps p.tables e below (Tj14.setTop (mkF m 37 #[.val (.ref r0), .val (.int (1 : Int32)), .val (.int p2), .val (.int (2 : Int32)), .val (.int y2)] [(.int (57 : Int32)), (.int y2)])) t → Steps p.tables e below (s₁.setTop (entryFrame m #[(.ref r0), (.int (1 : Int32)), (.int p2)] 5)) t := fun t kt => pre24 t (by
                    show Steps p.tables e below (Tj14.setTop (mkF m 30 #[.val (.ref r0), .val (.int (1 : Int32)), .val (.int p2), .val (.int (2 : Int32)), .val (.int y2)] [(.int (48 : Int32)), (.int y2)])) _
                    refine XS.icmpNo Xj14.here hx rfl (hb hby d3_30) rfl (flt hc30).1 ?_
                    refine XS.iload Xj14.here hx rfl (hb hby d3_33) rfl ?_
                    refine XS.bipush Xj14.here hx rfl (hb hby d3_35) ?_
                    exact kt)
                  by_cases hc37 : (57 : Int32) < y2
                  · have pre27 : ∀ t, Steps p.tables e below (Tj14.setTop (mkF m 44 #[.val (.ref r0), .val (.int (1 : Int32)), .val (.int p2), .val (.int (2 : Int32)), .val (.int y2)] [(.int (45 : Int32)), (.int y2)])) t → Steps p.tables e below (s₁.setTop (entryFrame m #[(.ref r0), (.int (1 : Int32)), (.int p2)] 5)) t := fun t kt => pre26 t (by
                      show Steps p.tables e below (Tj14.setTop (mkF m 37 #[.val (.ref r0), .val (.int (1 : Int32)), .val (.int p2), .val (.int (2 : Int32)), .val (.int y2)] [(.int (57 : Int32)), (.int y2)])) _
                      refine XS.icmpNo Xj14.here hx rfl (hb hby d3_37) rfl (tlt hc37).2.2.2 ?_
                      refine XS.iload Xj14.here hx rfl (hb hby d3_40) rfl ?_
                      refine XS.bipush Xj14.here hx rfl (hb hby d3_42) ?_
                      exact kt)
                    by_cases hc44 : y2 = (45 : Int32)
                    · refine ⟨Tj14, _, Xj14, Nj14, ej14, fun t kt => pre27 t ?_⟩
                      show Steps p.tables e below (Tj14.setTop (mkF m 44 #[.val (.ref r0), .val (.int (1 : Int32)), .val (.int p2), .val (.int (2 : Int32)), .val (.int y2)] [(.int (45 : Int32)), (.int y2)])) _
                      refine XS.icmpYes Xj14.here hx rfl (pc0 := 44) (pc' := 49) rfl (hb hby d3_44) rfl (teq hc44).1 (by decide) (by decide) ?_
                      show Steps p.tables e below (Tj14.setTop (mkF m 49 #[.val (.ref r0), .val (.int (1 : Int32)), .val (.int p2), .val (.int (2 : Int32)), .val (.int y2)] [])) _
                      exact kt
                    · exact absurd (show own_nm y2 = 0 by unfold own_nm; simp only [if_pos hc4, if_pos hc4_2, if_neg hc16, if_pos hc23, if_neg hc30, if_pos hc37, if_neg hc44]) (own_n0 hk2)
                  · refine ⟨Tj14, _, Xj14, Nj14, ej14, fun t kt => pre26 t ?_⟩
                    show Steps p.tables e below (Tj14.setTop (mkF m 37 #[.val (.ref r0), .val (.int (1 : Int32)), .val (.int p2), .val (.int (2 : Int32)), .val (.int y2)] [(.int (57 : Int32)), (.int y2)])) _
                    refine XS.icmpYes Xj14.here hx rfl (pc0 := 37) (pc' := 49) rfl (hb hby d3_37) rfl (flt hc37).2.2.2 (by decide) (by decide) ?_
                    show Steps p.tables e below (Tj14.setTop (mkF m 49 #[.val (.ref r0), .val (.int (1 : Int32)), .val (.int p2), .val (.int (2 : Int32)), .val (.int y2)] [])) _
                    exact kt
              · refine ⟨Tj14, _, Xj14, Nj14, ej14, fun t kt => pre23 t ?_⟩
                show Steps p.tables e below (Tj14.setTop (mkF m 23 #[.val (.ref r0), .val (.int (1 : Int32)), .val (.int p2), .val (.int (2 : Int32)), .val (.int y2)] [(.int (122 : Int32)), (.int y2)])) _
                refine XS.icmpYes Xj14.here hx rfl (pc0 := 23) (pc' := 49) rfl (hb hby d3_23) rfl (flt hc23).2.2.2 (by decide) (by decide) ?_
                show Steps p.tables e below (Tj14.setTop (mkF m 49 #[.val (.ref r0), .val (.int (1 : Int32)), .val (.int p2), .val (.int (2 : Int32)), .val (.int y2)] [])) _
                exact kt
          have pre29 : ∀ t, Steps p.tables e below (Tj28.setTop (mkF m 4 #[.val (.ref r0), .val (.int (1 : Int32)), .val (.int p2), .val (.int (3 : Int32)), .val (.int y2)] [(.int p2), (.int (3 : Int32))])) t → Steps p.tables e below (s₁.setTop (entryFrame m #[(.ref r0), (.int (1 : Int32)), (.int p2)] 5)) t := fun t kt => pre28 t (by
            show Steps p.tables e below (Tj28.setTop (mkF m 49 #[.val (.ref r0), .val (.int (1 : Int32)), .val (.int p2), .val (.int (2 : Int32)), .val (.int y2)] [])) _
            refine XS.iinc Xj28.here hx rfl (hb hby d3_49) rfl (l' := #[.val (.ref r0), .val (.int (1 : Int32)), .val (.int p2), .val (.int (3 : Int32)), .val (.int y2)]) rfl ?_
            refine XS.goto Xj28.here hx rfl (pc0 := 52) (pc' := 2) rfl (hb hby d3_52) (by decide) (by decide) ?_
            refine XS.iloadN Xj28.here hx rfl (hb hby d3_2) rfl ?_
            refine XS.iloadN Xj28.here hx rfl (hb hby d3_3) rfl ?_
            exact kt)
          by_cases hc4_3 : (3 : Int32) < p2
          · obtain ⟨cl30, Ar30, qa30, S30, Nl30, H30, G30⟩ := id V_b
            have hin30 : ¬ ((3 : Int32) < 0 ∨ cl30.slots.size ≤ ((3 : Int32)).toNatClampNeg) := inb_of S30 ⟨by decide, by decide⟩
            have hat30 : cl30.slots[((3 : Int32)).toNatClampNeg]? = some (.int y3) := Has.at H30 hin30 rfl
            have pre31 : ∀ t, Steps p.tables e below (Tj28.setTop (mkF m 12 #[.val (.ref r0), .val (.int (1 : Int32)), .val (.int p2), .val (.int (3 : Int32)), .val (.int y3)] [])) t → Steps p.tables e below (s₁.setTop (entryFrame m #[(.ref r0), (.int (1 : Int32)), (.int p2)] 5)) t := fun t kt => pre29 t (by
              show Steps p.tables e below (Tj28.setTop (mkF m 4 #[.val (.ref r0), .val (.int (1 : Int32)), .val (.int p2), .val (.int (3 : Int32)), .val (.int y2)] [(.int p2), (.int (3 : Int32))])) _
              refine XS.icmpNo Xj28.here hx rfl (hb hby d3_4) rfl (tlt hc4_3).2.1 ?_
              refine XS.aloadN Xj28.here hx rfl (hb hby d3_7) rfl rfl ?_
              refine XS.iloadN Xj28.here hx rfl (hb hby d3_8) rfl ?_
              refine Xj28.baloadBytes hx (j := (3 : Int32)) (v := (.int y3)) (by rw [ej28]; exact Ar30.1) (State.isArrayOf_alike hZ.alike Ar30.2.1) Ar30.2.2 hin30 hat30 (g := (mkF m 9 #[.val (.ref r0), .val (.int (1 : Int32)), .val (.int p2), .val (.int (3 : Int32)), .val (.int y2)] [(.int (3 : Int32)), (.ref r0)])) rfl rfl (hb hby d3_9) _ ?_
              refine XS.istore Xj28.here hx rfl (hb hby d3_10) rfl (l' := #[.val (.ref r0), .val (.int (1 : Int32)), .val (.int p2), .val (.int (3 : Int32)), .val (.int y3)]) rfl ?_
              exact kt)
            by_cases hk3 : (own_nm y3) = (1 : Int32)
            · obtain ⟨Tj42, lj42, Xj42, Nj42, ej42, pre42⟩ : ∃ (T' : State) (locs' : List Loc), Stand p l e ({ frames := 0, cells := 0, slots := 0, locals := 0 } : Room) s m #[(.ref r0), (.int (1 : Int32)), (.int p2)] below meth c T' locs' 0 0 ∧ Fr n0 locs' ∧ T'.heap = h0 ∧ ∀ t, Steps p.tables e below (T'.setTop (mkF m 49 #[.val (.ref r0), .val (.int (1 : Int32)), .val (.int p2), .val (.int (3 : Int32)), .val (.int y3)] [])) t → Steps p.tables e below (s₁.setTop (entryFrame m #[(.ref r0), (.int (1 : Int32)), (.int p2)] 5)) t := by
                have pre32 : ∀ t, Steps p.tables e below (Tj28.setTop (mkF m 16 #[.val (.ref r0), .val (.int (1 : Int32)), .val (.int p2), .val (.int (3 : Int32)), .val (.int y3)] [(.int (97 : Int32)), (.int y3)])) t → Steps p.tables e below (s₁.setTop (entryFrame m #[(.ref r0), (.int (1 : Int32)), (.int p2)] 5)) t := fun t kt => pre31 t (by
                  show Steps p.tables e below (Tj28.setTop (mkF m 12 #[.val (.ref r0), .val (.int (1 : Int32)), .val (.int p2), .val (.int (3 : Int32)), .val (.int y3)] [])) _
                  refine XS.iload Xj28.here hx rfl (hb hby d3_12) rfl ?_
                  refine XS.bipush Xj28.here hx rfl (hb hby d3_14) ?_
                  exact kt)
                by_cases hc16 : y3 < (97 : Int32)
                · have pre33 : ∀ t, Steps p.tables e below (Tj28.setTop (mkF m 30 #[.val (.ref r0), .val (.int (1 : Int32)), .val (.int p2), .val (.int (3 : Int32)), .val (.int y3)] [(.int (48 : Int32)), (.int y3)])) t → Steps p.tables e below (s₁.setTop (entryFrame m #[(.ref r0), (.int (1 : Int32)), (.int p2)] 5)) t := fun t kt => pre32 t (by
                    show Steps p.tables e below (Tj28.setTop (mkF m 16 #[.val (.ref r0), .val (.int (1 : Int32)), .val (.int p2), .val (.int (3 : Int32)), .val (.int y3)] [(.int (97 : Int32)), (.int y3)])) _
                    refine XS.icmpYes Xj28.here hx rfl (pc0 := 16) (pc' := 26) rfl (hb hby d3_16) rfl (tlt hc16).1 (by decide) (by decide) ?_
                    refine XS.iload Xj28.here hx rfl (hb hby d3_26) rfl ?_
                    refine XS.bipush Xj28.here hx rfl (hb hby d3_28) ?_
                    exact kt)
                  by_cases hc30 : y3 < (48 : Int32)
                  · have pre34 : ∀ t, Steps p.tables e below (Tj28.setTop (mkF m 44 #[.val (.ref r0), .val (.int (1 : Int32)), .val (.int p2), .val (.int (3 : Int32)), .val (.int y3)] [(.int (45 : Int32)), (.int y3)])) t → Steps p.tables e below (s₁.setTop (entryFrame m #[(.ref r0), (.int (1 : Int32)), (.int p2)] 5)) t := fun t kt => pre33 t (by
                      show Steps p.tables e below (Tj28.setTop (mkF m 30 #[.val (.ref r0), .val (.int (1 : Int32)), .val (.int p2), .val (.int (3 : Int32)), .val (.int y3)] [(.int (48 : Int32)), (.int y3)])) _
                      refine XS.icmpYes Xj28.here hx rfl (pc0 := 30) (pc' := 40) rfl (hb hby d3_30) rfl (tlt hc30).1 (by decide) (by decide) ?_
                      refine XS.iload Xj28.here hx rfl (hb hby d3_40) rfl ?_
                      refine XS.bipush Xj28.here hx rfl (hb hby d3_42) ?_
                      exact kt)
                    by_cases hc44 : y3 = (45 : Int32)
                    · refine ⟨Tj28, _, Xj28, Nj28, ej28, fun t kt => pre34 t ?_⟩
                      show Steps p.tables e below (Tj28.setTop (mkF m 44 #[.val (.ref r0), .val (.int (1 : Int32)), .val (.int p2), .val (.int (3 : Int32)), .val (.int y3)] [(.int (45 : Int32)), (.int y3)])) _
                      refine XS.icmpYes Xj28.here hx rfl (pc0 := 44) (pc' := 49) rfl (hb hby d3_44) rfl (teq hc44).1 (by decide) (by decide) ?_
                      show Steps p.tables e below (Tj28.setTop (mkF m 49 #[.val (.ref r0), .val (.int (1 : Int32)), .val (.int p2), .val (.int (3 : Int32)), .val (.int y3)] [])) _
                      exact kt
                    · exact absurd (show own_nm y3 = 0 by unfold own_nm; simp only [if_pos hc4, if_pos hc4_2, if_pos hc4_3, if_pos hc16, if_pos hc30, if_neg hc44]) (own_n0 hk3)
                  · have pre35 : ∀ t, Steps p.tables e below (Tj28.setTop (mkF m 37 #[.val (.ref r0), .val (.int (1 : Int32)), .val (.int p2), .val (.int (3 : Int32)), .val (.int y3)] [(.int (57 : Int32)), (.int y3)])) t → Steps p.tables e below (s₁.setTop (entryFrame m #[(.ref r0), (.int (1 : Int32)), (.int p2)] 5)) t := fun t kt => pre33 t (by
                      show Steps p.tables e below (Tj28.setTop (mkF m 30 #[.val (.ref r0), .val (.int (1 : Int32)), .val (.int p2), .val (.int (3 : Int32)), .val (.int y3)] [(.int (48 : Int32)), (.int y3)])) _
                      refine XS.icmpNo Xj28.here hx rfl (hb hby d3_30) rfl (flt hc30).1 ?_
                      refine XS.iload Xj28.here hx rfl (hb hby d3_33) rfl ?_
                      refine XS.bipush Xj28.here hx rfl (hb hby d3_35) ?_
                      exact kt)
                    by_cases hc37 : (57 : Int32) < y3
                    · have pre36 : ∀ t, Steps p.tables e below (Tj28.setTop (mkF m 44 #[.val (.ref r0), .val (.int (1 : Int32)), .val (.int p2), .val (.int (3 : Int32)), .val (.int y3)] [(.int (45 : Int32)), (.int y3)])) t → Steps p.tables e below (s₁.setTop (entryFrame m #[(.ref r0), (.int (1 : Int32)), (.int p2)] 5)) t := fun t kt => pre35 t (by
                        show Steps p.tables e below (Tj28.setTop (mkF m 37 #[.val (.ref r0), .val (.int (1 : Int32)), .val (.int p2), .val (.int (3 : Int32)), .val (.int y3)] [(.int (57 : Int32)), (.int y3)])) _
                        refine XS.icmpNo Xj28.here hx rfl (hb hby d3_37) rfl (tlt hc37).2.2.2 ?_
                        refine XS.iload Xj28.here hx rfl (hb hby d3_40) rfl ?_
                        refine XS.bipush Xj28.here hx rfl (hb hby d3_42) ?_
                        exact kt)
                      by_cases hc44 : y3 = (45 : Int32)
                      · refine ⟨Tj28, _, Xj28, Nj28, ej28, fun t kt => pre36 t ?_⟩
                        show Steps p.tables e below (Tj28.setTop (mkF m 44 #[.val (.ref r0), .val (.int (1 : Int32)), .val (.int p2), .val (.int (3 : Int32)), .val (.int y3)] [(.int (45 : Int32)), (.int y3)])) _
                        refine XS.icmpYes Xj28.here hx rfl (pc0 := 44) (pc' := 49) rfl (hb hby d3_44) rfl (teq hc44).1 (by decide) (by decide) ?_
                        show Steps p.tables e below (Tj28.setTop (mkF m 49 #[.val (.ref r0), .val (.int (1 : Int32)), .val (.int p2), .val (.int (3 : Int32)), .val (.int y3)] [])) _
                        exact kt
                      · exact absurd (show own_nm y3 = 0 by unfold own_nm; simp only [if_pos hc4, if_pos hc4_2, if_pos hc4_3, if_pos hc16, if_neg hc30, if_pos hc37, if_neg hc44]) (own_n0 hk3)
                    · refine ⟨Tj28, _, Xj28, Nj28, ej28, fun t kt => pre35 t ?_⟩
                      show Steps p.tables e below (Tj28.setTop (mkF m 37 #[.val (.ref r0), .val (.int (1 : Int32)), .val (.int p2), .val (.int (3 : Int32)), .val (.int y3)] [(.int (57 : Int32)), (.int y3)])) _
                      refine XS.icmpYes Xj28.here hx rfl (pc0 := 37) (pc' := 49) rfl (hb hby d3_37) rfl (flt hc37).2.2.2 (by decide) (by decide) ?_
                      show Steps p.tables e below (Tj28.setTop (mkF m 49 #[.val (.ref r0), .val (.int (1 : Int32)), .val (.int p2), .val (.int (3 : Int32)), .val (.int y3)] [])) _
                      exact kt
                · have pre37 : ∀ t, Steps p.tables e below (Tj28.setTop (mkF m 23 #[.val (.ref r0), .val (.int (1 : Int32)), .val (.int p2), .val (.int (3 : Int32)), .val (.int y3)] [(.int (122 : Int32)), (.int y3)])) t → Steps p.tables e below (s₁.setTop (entryFrame m #[(.ref r0), (.int (1 : Int32)), (.int p2)] 5)) t := fun t kt => pre32 t (by
                    show Steps p.tables e below (Tj28.setTop (mkF m 16 #[.val (.ref r0), .val (.int (1 : Int32)), .val (.int p2), .val (.int (3 : Int32)), .val (.int y3)] [(.int (97 : Int32)), (.int y3)])) _
                    refine XS.icmpNo Xj28.here hx rfl (hb hby d3_16) rfl (flt hc16).1 ?_
                    refine XS.iload Xj28.here hx rfl (hb hby d3_19) rfl ?_
                    refine XS.bipush Xj28.here hx rfl (hb hby d3_21) ?_
                    exact kt)
                  by_cases hc23 : (122 : Int32) < y3
                  · have pre38 : ∀ t, Steps p.tables e below (Tj28.setTop (mkF m 30 #[.val (.ref r0), .val (.int (1 : Int32)), .val (.int p2), .val (.int (3 : Int32)), .val (.int y3)] [(.int (48 : Int32)), (.int y3)])) t → Steps p.tables e below (s₁.setTop (entryFrame m #[(.ref r0), (.int (1 : Int32)), (.int p2)] 5)) t := fun t kt => pre37 t (by
                      show Steps p.tables e below (Tj28.setTop (mkF m 23 #[.val (.ref r0), .val (.int (1 : Int32)), .val (.int p2), .val (.int (3 : Int32)), .val (.int y3)] [(.int (122 : Int32)), (.int y3)])) _
                      refine XS.icmpNo Xj28.here hx rfl (hb hby d3_23) rfl (tlt hc23).2.2.2 ?_
                      refine XS.iload Xj28.here hx rfl (hb hby d3_26) rfl ?_
                      refine XS.bipush Xj28.here hx rfl (hb hby d3_28) ?_
                      exact kt)
                    by_cases hc30 : y3 < (48 : Int32)
                    · have pre39 : ∀ t, Steps p.tables e below (Tj28.setTop (mkF m 44 #[.val (.ref r0), .val (.int (1 : Int32)), .val (.int p2), .val (.int (3 : Int32)), .val (.int y3)] [(.int (45 : Int32)), (.int y3)])) t → Steps p.tables e below (s₁.setTop (entryFrame m #[(.ref r0), (.int (1 : Int32)), (.int p2)] 5)) t := fun t kt => pre38 t (by
                        show Steps p.tables e below (Tj28.setTop (mkF m 30 #[.val (.ref r0), .val (.int (1 : Int32)), .val (.int p2), .val (.int (3 : Int32)), .val (.int y3)] [(.int (48 : Int32)), (.int y3)])) _
                        refine XS.icmpYes Xj28.here hx rfl (pc0 := 30) (pc' := 40) rfl (hb hby d3_30) rfl (tlt hc30).1 (by decide) (by decide) ?_
                        refine XS.iload Xj28.here hx rfl (hb hby d3_40) rfl ?_
                        refine XS.bipush Xj28.here hx rfl (hb hby d3_42) ?_
                        exact kt)
                      by_cases hc44 : y3 = (45 : Int32)
                      · refine ⟨Tj28, _, Xj28, Nj28, ej28, fun t kt => pre39 t ?_⟩
                        show Steps p.tables e below (Tj28.setTop (mkF m 44 #[.val (.ref r0), .val (.int (1 : Int32)), .val (.int p2), .val (.int (3 : Int32)), .val (.int y3)] [(.int (45 : Int32)), (.int y3)])) _
                        refine XS.icmpYes Xj28.here hx rfl (pc0 := 44) (pc' := 49) rfl (hb hby d3_44) rfl (teq hc44).1 (by decide) (by decide) ?_
                        show Steps p.tables e below (Tj28.setTop (mkF m 49 #[.val (.ref r0), .val (.int (1 : Int32)), .val (.int p2), .val (.int (3 : Int32)), .val (.int y3)] [])) _
                        exact kt
                      · exact absurd (show own_nm y3 = 0 by unfold own_nm; simp only [if_pos hc4, if_pos hc4_2, if_pos hc4_3, if_neg hc16, if_pos hc23, if_pos hc30, if_neg hc44]) (own_n0 hk3)
                    · have pre40 : ∀ t, Steps p.tables e below (Tj28.setTop (mkF m 37 #[.val (.ref r0), .val (.int (1 : Int32)), .val (.int p2), .val (.int (3 : Int32)), .val (.int y3)] [(.int (57 : Int32)), (.int y3)])) t → Steps p.tables e below (s₁.setTop (entryFrame m #[(.ref r0), (.int (1 : Int32)), (.int p2)] 5)) t := fun t kt => pre38 t (by
                        show Steps p.tables e below (Tj28.setTop (mkF m 30 #[.val (.ref r0), .val (.int (1 : Int32)), .val (.int p2), .val (.int (3 : Int32)), .val (.int y3)] [(.int (48 : Int32)), (.int y3)])) _
                        refine XS.icmpNo Xj28.here hx rfl (hb hby d3_30) rfl (flt hc30).1 ?_
                        refine XS.iload Xj28.here hx rfl (hb hby d3_33) rfl ?_
                        refine XS.bipush Xj28.here hx rfl (hb hby d3_35) ?_
                        exact kt)
                      by_cases hc37 : (57 : Int32) < y3
                      · have pre41 : ∀ t, Steps p.tables e below (Tj28.setTop (mkF m 44 #[.val (.ref r0), .val (.int (1 : Int32)), .val (.int p2), .val (.int (3 : Int32)), .val (.int y3)] [(.int (45 : Int32)), (.int y3)])) t → Steps p.tables e below (s₁.setTop (entryFrame m #[(.ref r0), (.int (1 : Int32)), (.int p2)] 5)) t := fun t kt => pre40 t (by
                          show Steps p.tables e below (Tj28.setTop (mkF m 37 #[.val (.ref r0), .val (.int (1 : Int32)), .val (.int p2), .val (.int (3 : Int32)), .val (.int y3)] [(.int (57 : Int32)), (.int y3)])) _
                          refine XS.icmpNo Xj28.here hx rfl (hb hby d3_37) rfl (tlt hc37).2.2.2 ?_
                          refine XS.iload Xj28.here hx rfl (hb hby d3_40) rfl ?_
                          refine XS.bipush Xj28.here hx rfl (hb hby d3_42) ?_
                          exact kt)
                        by_cases hc44 : y3 = (45 : Int32)
                        · refine ⟨Tj28, _, Xj28, Nj28, ej28, fun t kt => pre41 t ?_⟩
                          show Steps p.tables e below (Tj28.setTop (mkF m 44 #[.val (.ref r0), .val (.int (1 : Int32)), .val (.int p2), .val (.int (3 : Int32)), .val (.int y3)] [(.int (45 : Int32)), (.int y3)])) _
                          refine XS.icmpYes Xj28.here hx rfl (pc0 := 44) (pc' := 49) rfl (hb hby d3_44) rfl (teq hc44).1 (by decide) (by decide) ?_
                          show Steps p.tables e below (Tj28.setTop (mkF m 49 #[.val (.ref r0), .val (.int (1 : Int32)), .val (.int p2), .val (.int (3 : Int32)), .val (.int y3)] [])) _
                          exact kt
                        · exact absurd (show own_nm y3 = 0 by unfold own_nm; simp only [if_pos hc4, if_pos hc4_2, if_pos hc4_3, if_neg hc16, if_pos hc23, if_neg hc30, if_pos hc37, if_neg hc44]) (own_n0 hk3)
                      · refine ⟨Tj28, _, Xj28, Nj28, ej28, fun t kt => pre40 t ?_⟩
                        show Steps p.tables e below (Tj28.setTop (mkF m 37 #[.val (.ref r0), .val (.int (1 : Int32)), .val (.int p2), .val (.int (3 : Int32)), .val (.int y3)] [(.int (57 : Int32)), (.int y3)])) _
                        refine XS.icmpYes Xj28.here hx rfl (pc0 := 37) (pc' := 49) rfl (hb hby d3_37) rfl (flt hc37).2.2.2 (by decide) (by decide) ?_
                        show Steps p.tables e below (Tj28.setTop (mkF m 49 #[.val (.ref r0), .val (.int (1 : Int32)), .val (.int p2), .val (.int (3 : Int32)), .val (.int y3)] [])) _
                        exact kt
                  · refine ⟨Tj28, _, Xj28, Nj28, ej28, fun t kt => pre37 t ?_⟩
                    show Steps p.tables e below (Tj28.setTop (mkF m 23 #[.val (.ref r0), .val (.int (1 : Int32)), .val (.int p2), .val (.int (3 : Int32)), .val (.int y3)] [(.int (122 : Int32)), (.int y3)])) _
                    refine XS.icmpYes Xj28.here hx rfl (pc0 := 23) (pc' := 49) rfl (hb hby d3_23) rfl (flt hc23).2.2.2 (by decide) (by decide) ?_
                    show Steps p.tables e below (Tj28.setTop (mkF m 49 #[.val (.ref r0), .val (.int (1 : Int32)), .val (.int p2), .val (.int (3 : Int32)), .val (.int y3)] [])) _
                    exact kt
              obtain ⟨fs, hr, hrun, hended, hW, hsame⟩ := Xj42.leave (v := some (.int (1 : Int32))) (fun h => by rw [Bd.returns] at h; cases h)
              refine ⟨_, _, pre42 _ ?_, hrun, hended, _, _, rfl, ?_, ⟨_, rfl⟩, hW, hsame.mono (by decide) (by decide)⟩
              · show Steps p.tables e below (Tj42.setTop (mkF m 49 #[.val (.ref r0), .val (.int (1 : Int32)), .val (.int p2), .val (.int (3 : Int32)), .val (.int y3)] [])) _
                refine XS.iinc Xj42.here hx rfl (hb hby d3_49) rfl (l' := #[.val (.ref r0), .val (.int (1 : Int32)), .val (.int p2), .val (.int (4 : Int32)), .val (.int y3)]) rfl ?_
                refine XS.goto Xj42.here hx rfl (pc0 := 52) (pc' := 2) rfl (hb hby d3_52) (by decide) (by decide) ?_
                refine XS.iloadN Xj42.here hx rfl (hb hby d3_2) rfl ?_
                refine XS.iloadN Xj42.here hx rfl (hb hby d3_3) rfl ?_
                refine XS.icmpYes Xj42.here hx rfl (pc0 := 4) (pc' := 55) rfl (hb hby d3_4) rfl (flt he4).2.1 (by decide) (by decide) ?_
                refine XS.iconst Xj42.here hx rfl (hb hby d3_55) ?_
                show Steps p.tables e below (Tj42.setTop (mkF m 56 #[.val (.ref r0), .val (.int (1 : Int32)), .val (.int p2), .val (.int (4 : Int32)), .val (.int y3)] [(.int (1 : Int32))])) _
                exact retN Xj42 hx (t := .boolean) Bd.returns (by simp) (hb hby d3_56) hr
              · show Q3s1 Z r0 p2 kb y0 y1 y2 y3 h0 n0 _ Tj42.heap _
                rw [ej42]
                exact ⟨(by unfold F3s1; simp only [if_pos hc4, if_pos hk1, if_pos hc4_2, if_pos hk2, if_pos hc4_3, if_pos hk3]), Nj42, rfl⟩
            · obtain ⟨Tj53, lj53, Xj53, Nj53, ej53, pre53⟩ : ∃ (T' : State) (locs' : List Loc), Stand p l e ({ frames := 0, cells := 0, slots := 0, locals := 0 } : Room) s m #[(.ref r0), (.int (1 : Int32)), (.int p2)] below meth c T' locs' 0 0 ∧ Fr n0 locs' ∧ T'.heap = h0 ∧ ∀ t, Steps p.tables e below (T'.setTop (mkF m 47 #[.val (.ref r0), .val (.int (1 : Int32)), .val (.int p2), .val (.int (3 : Int32)), .val (.int y3)] [])) t → Steps p.tables e below (s₁.setTop (entryFrame m #[(.ref r0), (.int (1 : Int32)), (.int p2)] 5)) t := by
                have pre43 : ∀ t, Steps p.tables e below (Tj28.setTop (mkF m 16 #[.val (.ref r0), .val (.int (1 : Int32)), .val (.int p2), .val (.int (3 : Int32)), .val (.int y3)] [(.int (97 : Int32)), (.int y3)])) t → Steps p.tables e below (s₁.setTop (entryFrame m #[(.ref r0), (.int (1 : Int32)), (.int p2)] 5)) t := fun t kt => pre31 t (by
                  show Steps p.tables e below (Tj28.setTop (mkF m 12 #[.val (.ref r0), .val (.int (1 : Int32)), .val (.int p2), .val (.int (3 : Int32)), .val (.int y3)] [])) _
                  refine XS.iload Xj28.here hx rfl (hb hby d3_12) rfl ?_
                  refine XS.bipush Xj28.here hx rfl (hb hby d3_14) ?_
                  exact kt)
                by_cases hc16 : y3 < (97 : Int32)
                · have pre44 : ∀ t, Steps p.tables e below (Tj28.setTop (mkF m 30 #[.val (.ref r0), .val (.int (1 : Int32)), .val (.int p2), .val (.int (3 : Int32)), .val (.int y3)] [(.int (48 : Int32)), (.int y3)])) t → Steps p.tables e below (s₁.setTop (entryFrame m #[(.ref r0), (.int (1 : Int32)), (.int p2)] 5)) t := fun t kt => pre43 t (by
                    show Steps p.tables e below (Tj28.setTop (mkF m 16 #[.val (.ref r0), .val (.int (1 : Int32)), .val (.int p2), .val (.int (3 : Int32)), .val (.int y3)] [(.int (97 : Int32)), (.int y3)])) _
                    refine XS.icmpYes Xj28.here hx rfl (pc0 := 16) (pc' := 26) rfl (hb hby d3_16) rfl (tlt hc16).1 (by decide) (by decide) ?_
                    refine XS.iload Xj28.here hx rfl (hb hby d3_26) rfl ?_
                    refine XS.bipush Xj28.here hx rfl (hb hby d3_28) ?_
                    exact kt)
                  by_cases hc30 : y3 < (48 : Int32)
                  · have pre45 : ∀ t, Steps p.tables e below (Tj28.setTop (mkF m 44 #[.val (.ref r0), .val (.int (1 : Int32)), .val (.int p2), .val (.int (3 : Int32)), .val (.int y3)] [(.int (45 : Int32)), (.int y3)])) t → Steps p.tables e below (s₁.setTop (entryFrame m #[(.ref r0), (.int (1 : Int32)), (.int p2)] 5)) t := fun t kt => pre44 t (by
                      show Steps p.tables e below (Tj28.setTop (mkF m 30 #[.val (.ref r0), .val (.int (1 : Int32)), .val (.int p2), .val (.int (3 : Int32)), .val (.int y3)] [(.int (48 : Int32)), (.int y3)])) _
                      refine XS.icmpYes Xj28.here hx rfl (pc0 := 30) (pc' := 40) rfl (hb hby d3_30) rfl (tlt hc30).1 (by decide) (by decide) ?_
                      refine XS.iload Xj28.here hx rfl (hb hby d3_40) rfl ?_
                      refine XS.bipush Xj28.here hx rfl (hb hby d3_42) ?_
                      exact kt)
                    by_cases hc44 : y3 = (45 : Int32)
                    · exact absurd (show own_nm y3 = 1 by unfold own_nm; simp only [if_pos hc4, if_pos hc4_2, if_pos hc4_3, if_pos hc16, if_pos hc30, if_pos hc44]) (own_n1 hk3)
                    · refine ⟨Tj28, _, Xj28, Nj28, ej28, fun t kt => pre45 t ?_⟩
                      show Steps p.tables e below (Tj28.setTop (mkF m 44 #[.val (.ref r0), .val (.int (1 : Int32)), .val (.int p2), .val (.int (3 : Int32)), .val (.int y3)] [(.int (45 : Int32)), (.int y3)])) _
                      refine XS.icmpNo Xj28.here hx rfl (hb hby d3_44) rfl (feq hc44).1 ?_
                      show Steps p.tables e below (Tj28.setTop (mkF m 47 #[.val (.ref r0), .val (.int (1 : Int32)), .val (.int p2), .val (.int (3 : Int32)), .val (.int y3)] [])) _
                      exact kt
                  · have pre46 : ∀ t, Steps p.tables e below (Tj28.setTop (mkF m 37 #[.val (.ref r0), .val (.int (1 : Int32)), .val (.int p2), .val (.int (3 : Int32)), .val (.int y3)] [(.int (57 : Int32)), (.int y3)])) t → Steps p.tables e below (s₁.setTop (entryFrame m #[(.ref r0), (.int (1 : Int32)), (.int p2)] 5)) t := fun t kt => pre44 t (by
                      show Steps p.tables e below (Tj28.setTop (mkF m 30 #[.val (.ref r0), .val (.int (1 : Int32)), .val (.int p2), .val (.int (3 : Int32)), .val (.int y3)] [(.int (48 : Int32)), (.int y3)])) _
                      refine XS.icmpNo Xj28.here hx rfl (hb hby d3_30) rfl (flt hc30).1 ?_
                      refine XS.iload Xj28.here hx rfl (hb hby d3_33) rfl ?_
                      refine XS.bipush Xj28.here hx rfl (hb hby d3_35) ?_
                      exact kt)
                    by_cases hc37 : (57 : Int32) < y3
                    · have pre47 : ∀ t, Steps p.tables e below (Tj28.setTop (mkF m 44 #[.val (.ref r0), .val (.int (1 : Int32)), .val (.int p2), .val (.int (3 : Int32)), .val (.int y3)] [(.int (45 : Int32)), (.int y3)])) t → Steps p.tables e below (s₁.setTop (entryFrame m #[(.ref r0), (.int (1 : Int32)), (.int p2)] 5)) t := fun t kt => pre46 t (by
                        show Steps p.tables e below (Tj28.setTop (mkF m 37 #[.val (.ref r0), .val (.int (1 : Int32)), .val (.int p2), .val (.int (3 : Int32)), .val (.int y3)] [(.int (57 : Int32)), (.int y3)])) _
                        refine XS.icmpNo Xj28.here hx rfl (hb hby d3_37) rfl (tlt hc37).2.2.2 ?_
                        refine XS.iload Xj28.here hx rfl (hb hby d3_40) rfl ?_
                        refine XS.bipush Xj28.here hx rfl (hb hby d3_42) ?_
                        exact kt)
                      by_cases hc44 : y3 = (45 : Int32)
                      · exact absurd (show own_nm y3 = 1 by unfold own_nm; simp only [if_pos hc4, if_pos hc4_2, if_pos hc4_3, if_pos hc16, if_neg hc30, if_pos hc37, if_pos hc44]) (own_n1 hk3)
                      · refine ⟨Tj28, _, Xj28, Nj28, ej28, fun t kt => pre47 t ?_⟩
                        show Steps p.tables e below (Tj28.setTop (mkF m 44 #[.val (.ref r0), .val (.int (1 : Int32)), .val (.int p2), .val (.int (3 : Int32)), .val (.int y3)] [(.int (45 : Int32)), (.int y3)])) _
                        refine XS.icmpNo Xj28.here hx rfl (hb hby d3_44) rfl (feq hc44).1 ?_
                        show Steps p.tables e below (Tj28.setTop (mkF m 47 #[.val (.ref r0), .val (.int (1 : Int32)), .val (.int p2), .val (.int (3 : Int32)), .val (.int y3)] [])) _
                        exact kt
                    · exact absurd (show own_nm y3 = 1 by unfold own_nm; simp only [if_pos hc4, if_pos hc4_2, if_pos hc4_3, if_pos hc16, if_neg hc30, if_neg hc37]) (own_n1 hk3)
                · have pre48 : ∀ t, Steps p.tables e below (Tj28.setTop (mkF m 23 #[.val (.ref r0), .val (.int (1 : Int32)), .val (.int p2), .val (.int (3 : Int32)), .val (.int y3)] [(.int (122 : Int32)), (.int y3)])) t → Steps p.tables e below (s₁.setTop (entryFrame m #[(.ref r0), (.int (1 : Int32)), (.int p2)] 5)) t := fun t kt => pre43 t (by
                    show Steps p.tables e below (Tj28.setTop (mkF m 16 #[.val (.ref r0), .val (.int (1 : Int32)), .val (.int p2), .val (.int (3 : Int32)), .val (.int y3)] [(.int (97 : Int32)), (.int y3)])) _
                    refine XS.icmpNo Xj28.here hx rfl (hb hby d3_16) rfl (flt hc16).1 ?_
                    refine XS.iload Xj28.here hx rfl (hb hby d3_19) rfl ?_
                    refine XS.bipush Xj28.here hx rfl (hb hby d3_21) ?_
                    exact kt)
                  by_cases hc23 : (122 : Int32) < y3
                  · have pre49 : ∀ t, Steps p.tables e below (Tj28.setTop (mkF m 30 #[.val (.ref r0), .val (.int (1 : Int32)), .val (.int p2), .val (.int (3 : Int32)), .val (.int y3)] [(.int (48 : Int32)), (.int y3)])) t → Steps p.tables e below (s₁.setTop (entryFrame m #[(.ref r0), (.int (1 : Int32)), (.int p2)] 5)) t := fun t kt => pre48 t (by
                      show Steps p.tables e below (Tj28.setTop (mkF m 23 #[.val (.ref r0), .val (.int (1 : Int32)), .val (.int p2), .val (.int (3 : Int32)), .val (.int y3)] [(.int (122 : Int32)), (.int y3)])) _
                      refine XS.icmpNo Xj28.here hx rfl (hb hby d3_23) rfl (tlt hc23).2.2.2 ?_
                      refine XS.iload Xj28.here hx rfl (hb hby d3_26) rfl ?_
                      refine XS.bipush Xj28.here hx rfl (hb hby d3_28) ?_
                      exact kt)
                    by_cases hc30 : y3 < (48 : Int32)
                    · have pre50 : ∀ t, Steps p.tables e below (Tj28.setTop (mkF m 44 #[.val (.ref r0), .val (.int (1 : Int32)), .val (.int p2), .val (.int (3 : Int32)), .val (.int y3)] [(.int (45 : Int32)), (.int y3)])) t → Steps p.tables e below (s₁.setTop (entryFrame m #[(.ref r0), (.int (1 : Int32)), (.int p2)] 5)) t := fun t kt => pre49 t (by
                        show Steps p.tables e below (Tj28.setTop (mkF m 30 #[.val (.ref r0), .val (.int (1 : Int32)), .val (.int p2), .val (.int (3 : Int32)), .val (.int y3)] [(.int (48 : Int32)), (.int y3)])) _
                        refine XS.icmpYes Xj28.here hx rfl (pc0 := 30) (pc' := 40) rfl (hb hby d3_30) rfl (tlt hc30).1 (by decide) (by decide) ?_
                        refine XS.iload Xj28.here hx rfl (hb hby d3_40) rfl ?_
                        refine XS.bipush Xj28.here hx rfl (hb hby d3_42) ?_
                        exact kt)
                      by_cases hc44 : y3 = (45 : Int32)
                      · exact absurd (show own_nm y3 = 1 by unfold own_nm; simp only [if_pos hc4, if_pos hc4_2, if_pos hc4_3, if_neg hc16, if_pos hc23, if_pos hc30, if_pos hc44]) (own_n1 hk3)
                      · refine ⟨Tj28, _, Xj28, Nj28, ej28, fun t kt => pre50 t ?_⟩
                        show Steps p.tables e below (Tj28.setTop (mkF m 44 #[.val (.ref r0), .val (.int (1 : Int32)), .val (.int p2), .val (.int (3 : Int32)), .val (.int y3)] [(.int (45 : Int32)), (.int y3)])) _
                        refine XS.icmpNo Xj28.here hx rfl (hb hby d3_44) rfl (feq hc44).1 ?_
                        show Steps p.tables e below (Tj28.setTop (mkF m 47 #[.val (.ref r0), .val (.int (1 : Int32)), .val (.int p2), .val (.int (3 : Int32)), .val (.int y3)] [])) _
                        exact kt
                    · have pre51 : ∀ t, Steps p.tables e below (Tj28.setTop (mkF m 37 #[.val (.ref r0), .val (.int (1 : Int32)), .val (.int p2), .val (.int (3 : Int32)), .val (.int y3)] [(.int (57 : Int32)), (.int y3)])) t → Steps p.tables e below (s₁.setTop (entryFrame m #[(.ref r0), (.int (1 : Int32)), (.int p2)] 5)) t := fun t kt => pre49 t (by
                        show Steps p.tables e below (Tj28.setTop (mkF m 30 #[.val (.ref r0), .val (.int (1 : Int32)), .val (.int p2), .val (.int (3 : Int32)), .val (.int y3)] [(.int (48 : Int32)), (.int y3)])) _
                        refine XS.icmpNo Xj28.here hx rfl (hb hby d3_30) rfl (flt hc30).1 ?_
                        refine XS.iload Xj28.here hx rfl (hb hby d3_33) rfl ?_
                        refine XS.bipush Xj28.here hx rfl (hb hby d3_35) ?_
                        exact kt)
                      by_cases hc37 : (57 : Int32) < y3
                      · have pre52 : ∀ t, Steps p.tables e below (Tj28.setTop (mkF m 44 #[.val (.ref r0), .val (.int (1 : Int32)), .val (.int p2), .val (.int (3 : Int32)), .val (.int y3)] [(.int (45 : Int32)), (.int y3)])) t → Steps p.tables e below (s₁.setTop (entryFrame m #[(.ref r0), (.int (1 : Int32)), (.int p2)] 5)) t := fun t kt => pre51 t (by
                          show Steps p.tables e below (Tj28.setTop (mkF m 37 #[.val (.ref r0), .val (.int (1 : Int32)), .val (.int p2), .val (.int (3 : Int32)), .val (.int y3)] [(.int (57 : Int32)), (.int y3)])) _
                          refine XS.icmpNo Xj28.here hx rfl (hb hby d3_37) rfl (tlt hc37).2.2.2 ?_
                          refine XS.iload Xj28.here hx rfl (hb hby d3_40) rfl ?_
                          refine XS.bipush Xj28.here hx rfl (hb hby d3_42) ?_
                          exact kt)
                        by_cases hc44 : y3 = (45 : Int32)
                        · exact absurd (show own_nm y3 = 1 by unfold own_nm; simp only [if_pos hc4, if_pos hc4_2, if_pos hc4_3, if_neg hc16, if_pos hc23, if_neg hc30, if_pos hc37, if_pos hc44]) (own_n1 hk3)
                        · refine ⟨Tj28, _, Xj28, Nj28, ej28, fun t kt => pre52 t ?_⟩
                          show Steps p.tables e below (Tj28.setTop (mkF m 44 #[.val (.ref r0), .val (.int (1 : Int32)), .val (.int p2), .val (.int (3 : Int32)), .val (.int y3)] [(.int (45 : Int32)), (.int y3)])) _
                          refine XS.icmpNo Xj28.here hx rfl (hb hby d3_44) rfl (feq hc44).1 ?_
                          show Steps p.tables e below (Tj28.setTop (mkF m 47 #[.val (.ref r0), .val (.int (1 : Int32)), .val (.int p2), .val (.int (3 : Int32)), .val (.int y3)] [])) _
                          exact kt
                      · exact absurd (show own_nm y3 = 1 by unfold own_nm; simp only [if_pos hc4, if_pos hc4_2, if_pos hc4_3, if_neg hc16, if_pos hc23, if_neg hc30, if_neg hc37]) (own_n1 hk3)
                  · exact absurd (show own_nm y3 = 1 by unfold own_nm; simp only [if_pos hc4, if_pos hc4_2, if_pos hc4_3, if_neg hc16, if_neg hc23]) (own_n1 hk3)
              obtain ⟨fs, hr, hrun, hended, hW, hsame⟩ := Xj53.leave (v := some (.int (0 : Int32))) (fun h => by rw [Bd.returns] at h; cases h)
              refine ⟨_, _, pre53 _ ?_, hrun, hended, _, _, rfl, ?_, ⟨_, rfl⟩, hW, hsame.mono (by decide) (by decide)⟩
              · show Steps p.tables e below (Tj53.setTop (mkF m 47 #[.val (.ref r0), .val (.int (1 : Int32)), .val (.int p2), .val (.int (3 : Int32)), .val (.int y3)] [])) _
                refine XS.iconst Xj53.here hx rfl (hb hby d3_47) ?_
                show Steps p.tables e below (Tj53.setTop (mkF m 48 #[.val (.ref r0), .val (.int (1 : Int32)), .val (.int p2), .val (.int (3 : Int32)), .val (.int y3)] [(.int (0 : Int32))])) _
                exact retN Xj53 hx (t := .boolean) Bd.returns (by simp) (hb hby d3_48) hr
              · show Q3s1 Z r0 p2 kb y0 y1 y2 y3 h0 n0 _ Tj53.heap _
                rw [ej53]
                exact ⟨(by unfold F3s1; simp only [if_pos hc4, if_pos hk1, if_pos hc4_2, if_pos hk2, if_pos hc4_3, if_neg hk3]), Nj53, rfl⟩
          · obtain ⟨fs, hr, hrun, hended, hW, hsame⟩ := Xj28.leave (v := some (.int (1 : Int32))) (fun h => by rw [Bd.returns] at h; cases h)
            refine ⟨_, _, pre29 _ ?_, hrun, hended, _, _, rfl, ?_, ⟨_, rfl⟩, hW, hsame.mono (by decide) (by decide)⟩
            · show Steps p.tables e below (Tj28.setTop (mkF m 4 #[.val (.ref r0), .val (.int (1 : Int32)), .val (.int p2), .val (.int (3 : Int32)), .val (.int y2)] [(.int p2), (.int (3 : Int32))])) _
              refine XS.icmpYes Xj28.here hx rfl (pc0 := 4) (pc' := 55) rfl (hb hby d3_4) rfl (flt hc4_3).2.1 (by decide) (by decide) ?_
              refine XS.iconst Xj28.here hx rfl (hb hby d3_55) ?_
              show Steps p.tables e below (Tj28.setTop (mkF m 56 #[.val (.ref r0), .val (.int (1 : Int32)), .val (.int p2), .val (.int (3 : Int32)), .val (.int y2)] [(.int (1 : Int32))])) _
              exact retN Xj28 hx (t := .boolean) Bd.returns (by simp) (hb hby d3_56) hr
            · show Q3s1 Z r0 p2 kb y0 y1 y2 y3 h0 n0 _ Tj28.heap _
              rw [ej28]
              exact ⟨(by unfold F3s1; simp only [if_pos hc4, if_pos hk1, if_pos hc4_2, if_pos hk2, if_neg hc4_3]), Nj28, rfl⟩
        · obtain ⟨Tj64, lj64, Xj64, Nj64, ej64, pre64⟩ : ∃ (T' : State) (locs' : List Loc), Stand p l e ({ frames := 0, cells := 0, slots := 0, locals := 0 } : Room) s m #[(.ref r0), (.int (1 : Int32)), (.int p2)] below meth c T' locs' 0 0 ∧ Fr n0 locs' ∧ T'.heap = h0 ∧ ∀ t, Steps p.tables e below (T'.setTop (mkF m 47 #[.val (.ref r0), .val (.int (1 : Int32)), .val (.int p2), .val (.int (2 : Int32)), .val (.int y2)] [])) t → Steps p.tables e below (s₁.setTop (entryFrame m #[(.ref r0), (.int (1 : Int32)), (.int p2)] 5)) t := by
            have pre54 : ∀ t, Steps p.tables e below (Tj14.setTop (mkF m 16 #[.val (.ref r0), .val (.int (1 : Int32)), .val (.int p2), .val (.int (2 : Int32)), .val (.int y2)] [(.int (97 : Int32)), (.int y2)])) t → Steps p.tables e below (s₁.setTop (entryFrame m #[(.ref r0), (.int (1 : Int32)), (.int p2)] 5)) t := fun t kt => pre17 t (by
              show Steps p.tables e below (Tj14.setTop (mkF m 12 #[.val (.ref r0), .val (.int (1 : Int32)), .val (.int p2), .val (.int (2 : Int32)), .val (.int y2)] [])) _
              refine XS.iload Xj14.here hx rfl (hb hby d3_12) rfl ?_
              refine XS.bipush Xj14.here hx rfl (hb hby d3_14) ?_
              exact kt)
            by_cases hc16 : y2 < (97 : Int32)
            · have pre55 : ∀ t, Steps p.tables e below (Tj14.setTop (mkF m 30 #[.val (.ref r0), .val (.int (1 : Int32)), .val (.int p2), .val (.int (2 : Int32)), .val (.int y2)] [(.int (48 : Int32)), (.int y2)])) t → Steps p.tables e below (s₁.setTop (entryFrame m #[(.ref r0), (.int (1 : Int32)), (.int p2)] 5)) t := fun t kt => pre54 t (by
                show Steps p.tables e below (Tj14.setTop (mkF m 16 #[.val (.ref r0), .val (.int (1 : Int32)), .val (.int p2), .val (.int (2 : Int32)), .val (.int y2)] [(.int (97 : Int32)), (.int y2)])) _
                refine XS.icmpYes Xj14.here hx rfl (pc0 := 16) (pc' := 26) rfl (hb hby d3_16) rfl (tlt hc16).1 (by decide) (by decide) ?_
                refine XS.iload Xj14.here hx rfl (hb hby d3_26) rfl ?_
                refine XS.bipush Xj14.here hx rfl (hb hby d3_28) ?_
                exact kt)
              by_cases hc30 : y2 < (48 : Int32)
              · have pre56 : ∀ t, Steps p.tables e below (Tj14.setTop (mkF m 44 #[.val (.ref r0), .val (.int (1 : Int32)), .val (.int p2), .val (.int (2 : Int32)), .val (.int y2)] [(.int (45 : Int32)), (.int y2)])) t → Steps p.tables e below (s₁.setTop (entryFrame m #[(.ref r0), (.int (1 : Int32)), (.int p2)] 5)) t := fun t kt => pre55 t (by
                  show Steps p.tables e below (Tj14.setTop (mkF m 30 #[.val (.ref r0), .val (.int (1 : Int32)), .val (.int p2), .val (.int (2 : Int32)), .val (.int y2)] [(.int (48 : Int32)), (.int y2)])) _
                  refine XS.icmpYes Xj14.here hx rfl (pc0 := 30) (pc' := 40) rfl (hb hby d3_30) rfl (tlt hc30).1 (by decide) (by decide) ?_
                  refine XS.iload Xj14.here hx rfl (hb hby d3_40) rfl ?_
                  refine XS.bipush Xj14.here hx rfl (hb hby d3_42) ?_
                  exact kt)
                by_cases hc44 : y2 = (45 : Int32)
                · exact absurd (show own_nm y2 = 1 by unfold own_nm; simp only [if_pos hc4, if_pos hc4_2, if_pos hc16, if_pos hc30, if_pos hc44]) (own_n1 hk2)
                · refine ⟨Tj14, _, Xj14, Nj14, ej14, fun t kt => pre56 t ?_⟩
                  show Steps p.tables e below (Tj14.setTop (mkF m 44 #[.val (.ref r0), .val (.int (1 : Int32)), .val (.int p2), .val (.int (2 : Int32)), .val (.int y2)] [(.int (45 : Int32)), (.int y2)])) _
                  refine XS.icmpNo Xj14.here hx rfl (hb hby d3_44) rfl (feq hc44).1 ?_
                  show Steps p.tables e below (Tj14.setTop (mkF m 47 #[.val (.ref r0), .val (.int (1 : Int32)), .val (.int p2), .val (.int (2 : Int32)), .val (.int y2)] [])) _
                  exact kt
              · have pre57 : ∀ t, Steps p.tables e below (Tj14.setTop (mkF m 37 #[.val (.ref r0), .val (.int (1 : Int32)), .val (.int p2), .val (.int (2 : Int32)), .val (.int y2)] [(.int (57 : Int32)), (.int y2)])) t → Steps p.tables e below (s₁.setTop (entryFrame m #[(.ref r0), (.int (1 : Int32)), (.int p2)] 5)) t := fun t kt => pre55 t (by
                  show Steps p.tables e below (Tj14.setTop (mkF m 30 #[.val (.ref r0), .val (.int (1 : Int32)), .val (.int p2), .val (.int (2 : Int32)), .val (.int y2)] [(.int (48 : Int32)), (.int y2)])) _
                  refine XS.icmpNo Xj14.here hx rfl (hb hby d3_30) rfl (flt hc30).1 ?_
                  refine XS.iload Xj14.here hx rfl (hb hby d3_33) rfl ?_
                  refine XS.bipush Xj14.here hx rfl (hb hby d3_35) ?_
                  exact kt)
                by_cases hc37 : (57 : Int32) < y2
                · have pre58 : ∀ t, Steps p.tables e below (Tj14.setTop (mkF m 44 #[.val (.ref r0), .val (.int (1 : Int32)), .val (.int p2), .val (.int (2 : Int32)), .val (.int y2)] [(.int (45 : Int32)), (.int y2)])) t → Steps p.tables e below (s₁.setTop (entryFrame m #[(.ref r0), (.int (1 : Int32)), (.int p2)] 5)) t := fun t kt => pre57 t (by
                    show Steps p.tables e below (Tj14.setTop (mkF m 37 #[.val (.ref r0), .val (.int (1 : Int32)), .val (.int p2), .val (.int (2 : Int32)), .val (.int y2)] [(.int (57 : Int32)), (.int y2)])) _
                    refine XS.icmpNo Xj14.here hx rfl (hb hby d3_37) rfl (tlt hc37).2.2.2 ?_
                    refine XS.iload Xj14.here hx rfl (hb hby d3_40) rfl ?_
                    refine XS.bipush Xj14.here hx rfl (hb hby d3_42) ?_
                    exact kt)
                  by_cases hc44 : y2 = (45 : Int32)
                  · exact absurd (show own_nm y2 = 1 by unfold own_nm; simp only [if_pos hc4, if_pos hc4_2, if_pos hc16, if_neg hc30, if_pos hc37, if_pos hc44]) (own_n1 hk2)
                  · refine ⟨Tj14, _, Xj14, Nj14, ej14, fun t kt => pre58 t ?_⟩
                    show Steps p.tables e below (Tj14.setTop (mkF m 44 #[.val (.ref r0), .val (.int (1 : Int32)), .val (.int p2), .val (.int (2 : Int32)), .val (.int y2)] [(.int (45 : Int32)), (.int y2)])) _
                    refine XS.icmpNo Xj14.here hx rfl (hb hby d3_44) rfl (feq hc44).1 ?_
                    show Steps p.tables e below (Tj14.setTop (mkF m 47 #[.val (.ref r0), .val (.int (1 : Int32)), .val (.int p2), .val (.int (2 : Int32)), .val (.int y2)] [])) _
                    exact kt
                · exact absurd (show own_nm y2 = 1 by unfold own_nm; simp only [if_pos hc4, if_pos hc4_2, if_pos hc16, if_neg hc30, if_neg hc37]) (own_n1 hk2)
            · have pre59 : ∀ t, Steps p.tables e below (Tj14.setTop (mkF m 23 #[.val (.ref r0), .val (.int (1 : Int32)), .val (.int p2), .val (.int (2 : Int32)), .val (.int y2)] [(.int (122 : Int32)), (.int y2)])) t → Steps p.tables e below (s₁.setTop (entryFrame m #[(.ref r0), (.int (1 : Int32)), (.int p2)] 5)) t := fun t kt => pre54 t (by
                show Steps p.tables e below (Tj14.setTop (mkF m 16 #[.val (.ref r0), .val (.int (1 : Int32)), .val (.int p2), .val (.int (2 : Int32)), .val (.int y2)] [(.int (97 : Int32)), (.int y2)])) _
                refine XS.icmpNo Xj14.here hx rfl (hb hby d3_16) rfl (flt hc16).1 ?_
                refine XS.iload Xj14.here hx rfl (hb hby d3_19) rfl ?_
                refine XS.bipush Xj14.here hx rfl (hb hby d3_21) ?_
                exact kt)
              by_cases hc23 : (122 : Int32) < y2
              · have pre60 : ∀ t, Steps p.tables e below (Tj14.setTop (mkF m 30 #[.val (.ref r0), .val (.int (1 : Int32)), .val (.int p2), .val (.int (2 : Int32)), .val (.int y2)] [(.int (48 : Int32)), (.int y2)])) t → Steps p.tables e below (s₁.setTop (entryFrame m #[(.ref r0), (.int (1 : Int32)), (.int p2)] 5)) t := fun t kt => pre59 t (by
                  show Steps p.tables e below (Tj14.setTop (mkF m 23 #[.val (.ref r0), .val (.int (1 : Int32)), .val (.int p2), .val (.int (2 : Int32)), .val (.int y2)] [(.int (122 : Int32)), (.int y2)])) _
                  refine XS.icmpNo Xj14.here hx rfl (hb hby d3_23) rfl (tlt hc23).2.2.2 ?_
                  refine XS.iload Xj14.here hx rfl (hb hby d3_26) rfl ?_
                  refine XS.bipush Xj14.here hx rfl (hb hby d3_28) ?_
                  exact kt)
                by_cases hc30 : y2 < (48 : Int32)
                · have pre61 : ∀ t, Steps p.tables e below (Tj14.setTop (mkF m 44 #[.val (.ref r0), .val (.int (1 : Int32)), .val (.int p2), .val (.int (2 : Int32)), .val (.int y2)] [(.int (45 : Int32)), (.int y2)])) t → Steps p.tables e below (s₁.setTop (entryFrame m #[(.ref r0), (.int (1 : Int32)), (.int p2)] 5)) t := fun t kt => pre60 t (by
                    show Steps p.tables e below (Tj14.setTop (mkF m 30 #[.val (.ref r0), .val (.int (1 : Int32)), .val (.int p2), .val (.int (2 : Int32)), .val (.int y2)] [(.int (48 : Int32)), (.int y2)])) _
                    refine XS.icmpYes Xj14.here hx rfl (pc0 := 30) (pc' := 40) rfl (hb hby d3_30) rfl (tlt hc30).1 (by decide) (by decide) ?_
                    refine XS.iload Xj14.here hx rfl (hb hby d3_40) rfl ?_
                    refine XS.bipush Xj14.here hx rfl (hb hby d3_42) ?_
                    exact kt)
                  by_cases hc44 : y2 = (45 : Int32)
                  · exact absurd (show own_nm y2 = 1 by unfold own_nm; simp only [if_pos hc4, if_pos hc4_2, if_neg hc16, if_pos hc23, if_pos hc30, if_pos hc44]) (own_n1 hk2)
                  · refine ⟨Tj14, _, Xj14, Nj14, ej14, fun t kt => pre61 t ?_⟩
                    show Steps p.tables e below (Tj14.setTop (mkF m 44 #[.val (.ref r0), .val (.int (1 : Int32)), .val (.int p2), .val (.int (2 : Int32)), .val (.int y2)] [(.int (45 : Int32)), (.int y2)])) _
                    refine XS.icmpNo Xj14.here hx rfl (hb hby d3_44) rfl (feq hc44).1 ?_
                    show Steps p.tables e below (Tj14.setTop (mkF m 47 #[.val (.ref r0), .val (.int (1 : Int32)), .val (.int p2), .val (.int (2 : Int32)), .val (.int y2)] [])) _
                    exact kt
                · have pre62 : ∀ t, Steps p.tables e below (Tj14.setTop (mkF m 37 #[.val (.ref r0), .val (.int (1 : Int32)), .val (.int p2), .val (.int (2 : Int32)), .val (.int y2)] [(.int (57 : Int32)), (.int y2)])) t → Steps p.tables e below (s₁.setTop (entryFrame m #[(.ref r0), (.int (1 : Int32)), (.int p2)] 5)) t := fun t kt => pre60 t (by
                    show Steps p.tables e below (Tj14.setTop (mkF m 30 #[.val (.ref r0), .val (.int (1 : Int32)), .val (.int p2), .val (.int (2 : Int32)), .val (.int y2)] [(.int (48 : Int32)), (.int y2)])) _
                    refine XS.icmpNo Xj14.here hx rfl (hb hby d3_30) rfl (flt hc30).1 ?_
                    refine XS.iload Xj14.here hx rfl (hb hby d3_33) rfl ?_
                    refine XS.bipush Xj14.here hx rfl (hb hby d3_35) ?_
                    exact kt)
                  by_cases hc37 : (57 : Int32) < y2
                  · have pre63 : ∀ t, Steps p.tables e below (Tj14.setTop (mkF m 44 #[.val (.ref r0), .val (.int (1 : Int32)), .val (.int p2), .val (.int (2 : Int32)), .val (.int y2)] [(.int (45 : Int32)), (.int y2)])) t → Steps p.tables e below (s₁.setTop (entryFrame m #[(.ref r0), (.int (1 : Int32)), (.int p2)] 5)) t := fun t kt => pre62 t (by
                      show Steps p.tables e below (Tj14.setTop (mkF m 37 #[.val (.ref r0), .val (.int (1 : Int32)), .val (.int p2), .val (.int (2 : Int32)), .val (.int y2)] [(.int (57 : Int32)), (.int y2)])) _
                      refine XS.icmpNo Xj14.here hx rfl (hb hby d3_37) rfl (tlt hc37).2.2.2 ?_
                      refine XS.iload Xj14.here hx rfl (hb hby d3_40) rfl ?_
                      refine XS.bipush Xj14.here hx rfl (hb hby d3_42) ?_
                      exact kt)
                    by_cases hc44 : y2 = (45 : Int32)
                    · exact absurd (show own_nm y2 = 1 by unfold own_nm; simp only [if_pos hc4, if_pos hc4_2, if_neg hc16, if_pos hc23, if_neg hc30, if_pos hc37, if_pos hc44]) (own_n1 hk2)
                    · refine ⟨Tj14, _, Xj14, Nj14, ej14, fun t kt => pre63 t ?_⟩
                      show Steps p.tables e below (Tj14.setTop (mkF m 44 #[.val (.ref r0), .val (.int (1 : Int32)), .val (.int p2), .val (.int (2 : Int32)), .val (.int y2)] [(.int (45 : Int32)), (.int y2)])) _
                      refine XS.icmpNo Xj14.here hx rfl (hb hby d3_44) rfl (feq hc44).1 ?_
                      show Steps p.tables e below (Tj14.setTop (mkF m 47 #[.val (.ref r0), .val (.int (1 : Int32)), .val (.int p2), .val (.int (2 : Int32)), .val (.int y2)] [])) _
                      exact kt
                  · exact absurd (show own_nm y2 = 1 by unfold own_nm; simp only [if_pos hc4, if_pos hc4_2, if_neg hc16, if_pos hc23, if_neg hc30, if_neg hc37]) (own_n1 hk2)
              · exact absurd (show own_nm y2 = 1 by unfold own_nm; simp only [if_pos hc4, if_pos hc4_2, if_neg hc16, if_neg hc23]) (own_n1 hk2)
          obtain ⟨fs, hr, hrun, hended, hW, hsame⟩ := Xj64.leave (v := some (.int (0 : Int32))) (fun h => by rw [Bd.returns] at h; cases h)
          refine ⟨_, _, pre64 _ ?_, hrun, hended, _, _, rfl, ?_, ⟨_, rfl⟩, hW, hsame.mono (by decide) (by decide)⟩
          · show Steps p.tables e below (Tj64.setTop (mkF m 47 #[.val (.ref r0), .val (.int (1 : Int32)), .val (.int p2), .val (.int (2 : Int32)), .val (.int y2)] [])) _
            refine XS.iconst Xj64.here hx rfl (hb hby d3_47) ?_
            show Steps p.tables e below (Tj64.setTop (mkF m 48 #[.val (.ref r0), .val (.int (1 : Int32)), .val (.int p2), .val (.int (2 : Int32)), .val (.int y2)] [(.int (0 : Int32))])) _
            exact retN Xj64 hx (t := .boolean) Bd.returns (by simp) (hb hby d3_48) hr
          · show Q3s1 Z r0 p2 kb y0 y1 y2 y3 h0 n0 _ Tj64.heap _
            rw [ej64]
            exact ⟨(by unfold F3s1; simp only [if_pos hc4, if_pos hk1, if_pos hc4_2, if_neg hk2]), Nj64, rfl⟩
      · obtain ⟨fs, hr, hrun, hended, hW, hsame⟩ := Xj14.leave (v := some (.int (1 : Int32))) (fun h => by rw [Bd.returns] at h; cases h)
        refine ⟨_, _, pre15 _ ?_, hrun, hended, _, _, rfl, ?_, ⟨_, rfl⟩, hW, hsame.mono (by decide) (by decide)⟩
        · show Steps p.tables e below (Tj14.setTop (mkF m 4 #[.val (.ref r0), .val (.int (1 : Int32)), .val (.int p2), .val (.int (2 : Int32)), .val (.int y1)] [(.int p2), (.int (2 : Int32))])) _
          refine XS.icmpYes Xj14.here hx rfl (pc0 := 4) (pc' := 55) rfl (hb hby d3_4) rfl (flt hc4_2).2.1 (by decide) (by decide) ?_
          refine XS.iconst Xj14.here hx rfl (hb hby d3_55) ?_
          show Steps p.tables e below (Tj14.setTop (mkF m 56 #[.val (.ref r0), .val (.int (1 : Int32)), .val (.int p2), .val (.int (2 : Int32)), .val (.int y1)] [(.int (1 : Int32))])) _
          exact retN Xj14 hx (t := .boolean) Bd.returns (by simp) (hb hby d3_56) hr
        · show Q3s1 Z r0 p2 kb y0 y1 y2 y3 h0 n0 _ Tj14.heap _
          rw [ej14]
          exact ⟨(by unfold F3s1; simp only [if_pos hc4, if_pos hk1, if_neg hc4_2]), Nj14, rfl⟩
    · obtain ⟨Tj75, lj75, Xj75, Nj75, ej75, pre75⟩ : ∃ (T' : State) (locs' : List Loc), Stand p l e ({ frames := 0, cells := 0, slots := 0, locals := 0 } : Room) s m #[(.ref r0), (.int (1 : Int32)), (.int p2)] below meth c T' locs' 0 0 ∧ Fr n0 locs' ∧ T'.heap = h0 ∧ ∀ t, Steps p.tables e below (T'.setTop (mkF m 47 #[.val (.ref r0), .val (.int (1 : Int32)), .val (.int p2), .val (.int (1 : Int32)), .val (.int y1)] [])) t → Steps p.tables e below (s₁.setTop (entryFrame m #[(.ref r0), (.int (1 : Int32)), (.int p2)] 5)) t := by
        have pre65 : ∀ t, Steps p.tables e below (s₁.setTop (mkF m 16 #[.val (.ref r0), .val (.int (1 : Int32)), .val (.int p2), .val (.int (1 : Int32)), .val (.int y1)] [(.int (97 : Int32)), (.int y1)])) t → Steps p.tables e below (s₁.setTop (entryFrame m #[(.ref r0), (.int (1 : Int32)), (.int p2)] 5)) t := fun t kt => pre3 t (by
          show Steps p.tables e below (s₁.setTop (mkF m 12 #[.val (.ref r0), .val (.int (1 : Int32)), .val (.int p2), .val (.int (1 : Int32)), .val (.int y1)] [])) _
          refine XS.iload X0.here hx rfl (hb hby d3_12) rfl ?_
          refine XS.bipush X0.here hx rfl (hb hby d3_14) ?_
          exact kt)
        by_cases hc16 : y1 < (97 : Int32)
        · have pre66 : ∀ t, Steps p.tables e below (s₁.setTop (mkF m 30 #[.val (.ref r0), .val (.int (1 : Int32)), .val (.int p2), .val (.int (1 : Int32)), .val (.int y1)] [(.int (48 : Int32)), (.int y1)])) t → Steps p.tables e below (s₁.setTop (entryFrame m #[(.ref r0), (.int (1 : Int32)), (.int p2)] 5)) t := fun t kt => pre65 t (by
            show Steps p.tables e below (s₁.setTop (mkF m 16 #[.val (.ref r0), .val (.int (1 : Int32)), .val (.int p2), .val (.int (1 : Int32)), .val (.int y1)] [(.int (97 : Int32)), (.int y1)])) _
            refine XS.icmpYes X0.here hx rfl (pc0 := 16) (pc' := 26) rfl (hb hby d3_16) rfl (tlt hc16).1 (by decide) (by decide) ?_
            refine XS.iload X0.here hx rfl (hb hby d3_26) rfl ?_
            refine XS.bipush X0.here hx rfl (hb hby d3_28) ?_
            exact kt)
          by_cases hc30 : y1 < (48 : Int32)
          · have pre67 : ∀ t, Steps p.tables e below (s₁.setTop (mkF m 44 #[.val (.ref r0), .val (.int (1 : Int32)), .val (.int p2), .val (.int (1 : Int32)), .val (.int y1)] [(.int (45 : Int32)), (.int y1)])) t → Steps p.tables e below (s₁.setTop (entryFrame m #[(.ref r0), (.int (1 : Int32)), (.int p2)] 5)) t := fun t kt => pre66 t (by
              show Steps p.tables e below (s₁.setTop (mkF m 30 #[.val (.ref r0), .val (.int (1 : Int32)), .val (.int p2), .val (.int (1 : Int32)), .val (.int y1)] [(.int (48 : Int32)), (.int y1)])) _
              refine XS.icmpYes X0.here hx rfl (pc0 := 30) (pc' := 40) rfl (hb hby d3_30) rfl (tlt hc30).1 (by decide) (by decide) ?_
              refine XS.iload X0.here hx rfl (hb hby d3_40) rfl ?_
              refine XS.bipush X0.here hx rfl (hb hby d3_42) ?_
              exact kt)
            by_cases hc44 : y1 = (45 : Int32)
            · exact absurd (show own_nm y1 = 1 by unfold own_nm; simp only [if_pos hc4, if_pos hc16, if_pos hc30, if_pos hc44]) (own_n1 hk1)
            · refine ⟨s₁, _, X0, N0, e0, fun t kt => pre67 t ?_⟩
              show Steps p.tables e below (s₁.setTop (mkF m 44 #[.val (.ref r0), .val (.int (1 : Int32)), .val (.int p2), .val (.int (1 : Int32)), .val (.int y1)] [(.int (45 : Int32)), (.int y1)])) _
              refine XS.icmpNo X0.here hx rfl (hb hby d3_44) rfl (feq hc44).1 ?_
              show Steps p.tables e below (s₁.setTop (mkF m 47 #[.val (.ref r0), .val (.int (1 : Int32)), .val (.int p2), .val (.int (1 : Int32)), .val (.int y1)] [])) _
              exact kt
          · have pre68 : ∀ t, Steps p.tables e below (s₁.setTop (mkF m 37 #[.val (.ref r0), .val (.int (1 : Int32)), .val (.int p2), .val (.int (1 : Int32)), .val (.int y1)] [(.int (57 : Int32)), (.int y1)])) t → Steps p.tables e below (s₁.setTop (entryFrame m #[(.ref r0), (.int (1 : Int32)), (.int p2)] 5)) t := fun t kt => pre66 t (by
              show Steps p.tables e below (s₁.setTop (mkF m 30 #[.val (.ref r0), .val (.int (1 : Int32)), .val (.int p2), .val (.int (1 : Int32)), .val (.int y1)] [(.int (48 : Int32)), (.int y1)])) _
              refine XS.icmpNo X0.here hx rfl (hb hby d3_30) rfl (flt hc30).1 ?_
              refine XS.iload X0.here hx rfl (hb hby d3_33) rfl ?_
              refine XS.bipush X0.here hx rfl (hb hby d3_35) ?_
              exact kt)
            by_cases hc37 : (57 : Int32) < y1
            · have pre69 : ∀ t, Steps p.tables e below (s₁.setTop (mkF m 44 #[.val (.ref r0), .val (.int (1 : Int32)), .val (.int p2), .val (.int (1 : Int32)), .val (.int y1)] [(.int (45 : Int32)), (.int y1)])) t → Steps p.tables e below (s₁.setTop (entryFrame m #[(.ref r0), (.int (1 : Int32)), (.int p2)] 5)) t := fun t kt => pre68 t (by
                show Steps p.tables e below (s₁.setTop (mkF m 37 #[.val (.ref r0), .val (.int (1 : Int32)), .val (.int p2), .val (.int (1 : Int32)), .val (.int y1)] [(.int (57 : Int32)), (.int y1)])) _
                refine XS.icmpNo X0.here hx rfl (hb hby d3_37) rfl (tlt hc37).2.2.2 ?_
                refine XS.iload X0.here hx rfl (hb hby d3_40) rfl ?_
                refine XS.bipush X0.here hx rfl (hb hby d3_42) ?_
                exact kt)
              by_cases hc44 : y1 = (45 : Int32)
              · exact absurd (show own_nm y1 = 1 by unfold own_nm; simp only [if_pos hc4, if_pos hc16, if_neg hc30, if_pos hc37, if_pos hc44]) (own_n1 hk1)
              · refine ⟨s₁, _, X0, N0, e0, fun t kt => pre69 t ?_⟩
                show Steps p.tables e below (s₁.setTop (mkF m 44 #[.val (.ref r0), .val (.int (1 : Int32)), .val (.int p2), .val (.int (1 : Int32)), .val (.int y1)] [(.int (45 : Int32)), (.int y1)])) _
                refine XS.icmpNo X0.here hx rfl (hb hby d3_44) rfl (feq hc44).1 ?_
                show Steps p.tables e below (s₁.setTop (mkF m 47 #[.val (.ref r0), .val (.int (1 : Int32)), .val (.int p2), .val (.int (1 : Int32)), .val (.int y1)] [])) _
                exact kt
            · exact absurd (show own_nm y1 = 1 by unfold own_nm; simp only [if_pos hc4, if_pos hc16, if_neg hc30, if_neg hc37]) (own_n1 hk1)
        · have pre70 : ∀ t, Steps p.tables e below (s₁.setTop (mkF m 23 #[.val (.ref r0), .val (.int (1 : Int32)), .val (.int p2), .val (.int (1 : Int32)), .val (.int y1)] [(.int (122 : Int32)), (.int y1)])) t → Steps p.tables e below (s₁.setTop (entryFrame m #[(.ref r0), (.int (1 : Int32)), (.int p2)] 5)) t := fun t kt => pre65 t (by
            show Steps p.tables e below (s₁.setTop (mkF m 16 #[.val (.ref r0), .val (.int (1 : Int32)), .val (.int p2), .val (.int (1 : Int32)), .val (.int y1)] [(.int (97 : Int32)), (.int y1)])) _
            refine XS.icmpNo X0.here hx rfl (hb hby d3_16) rfl (flt hc16).1 ?_
            refine XS.iload X0.here hx rfl (hb hby d3_19) rfl ?_
            refine XS.bipush X0.here hx rfl (hb hby d3_21) ?_
            exact kt)
          by_cases hc23 : (122 : Int32) < y1
          · have pre71 : ∀ t, Steps p.tables e below (s₁.setTop (mkF m 30 #[.val (.ref r0), .val (.int (1 : Int32)), .val (.int p2), .val (.int (1 : Int32)), .val (.int y1)] [(.int (48 : Int32)), (.int y1)])) t → Steps p.tables e below (s₁.setTop (entryFrame m #[(.ref r0), (.int (1 : Int32)), (.int p2)] 5)) t := fun t kt => pre70 t (by
              show Steps p.tables e below (s₁.setTop (mkF m 23 #[.val (.ref r0), .val (.int (1 : Int32)), .val (.int p2), .val (.int (1 : Int32)), .val (.int y1)] [(.int (122 : Int32)), (.int y1)])) _
              refine XS.icmpNo X0.here hx rfl (hb hby d3_23) rfl (tlt hc23).2.2.2 ?_
              refine XS.iload X0.here hx rfl (hb hby d3_26) rfl ?_
              refine XS.bipush X0.here hx rfl (hb hby d3_28) ?_
              exact kt)
            by_cases hc30 : y1 < (48 : Int32)
            · have pre72 : ∀ t, Steps p.tables e below (s₁.setTop (mkF m 44 #[.val (.ref r0), .val (.int (1 : Int32)), .val (.int p2), .val (.int (1 : Int32)), .val (.int y1)] [(.int (45 : Int32)), (.int y1)])) t → Steps p.tables e below (s₁.setTop (entryFrame m #[(.ref r0), (.int (1 : Int32)), (.int p2)] 5)) t := fun t kt => pre71 t (by
                show Steps p.tables e below (s₁.setTop (mkF m 30 #[.val (.ref r0), .val (.int (1 : Int32)), .val (.int p2), .val (.int (1 : Int32)), .val (.int y1)] [(.int (48 : Int32)), (.int y1)])) _
                refine XS.icmpYes X0.here hx rfl (pc0 := 30) (pc' := 40) rfl (hb hby d3_30) rfl (tlt hc30).1 (by decide) (by decide) ?_
                refine XS.iload X0.here hx rfl (hb hby d3_40) rfl ?_
                refine XS.bipush X0.here hx rfl (hb hby d3_42) ?_
                exact kt)
              by_cases hc44 : y1 = (45 : Int32)
              · exact absurd (show own_nm y1 = 1 by unfold own_nm; simp only [if_pos hc4, if_neg hc16, if_pos hc23, if_pos hc30, if_pos hc44]) (own_n1 hk1)
              · refine ⟨s₁, _, X0, N0, e0, fun t kt => pre72 t ?_⟩
                show Steps p.tables e below (s₁.setTop (mkF m 44 #[.val (.ref r0), .val (.int (1 : Int32)), .val (.int p2), .val (.int (1 : Int32)), .val (.int y1)] [(.int (45 : Int32)), (.int y1)])) _
                refine XS.icmpNo X0.here hx rfl (hb hby d3_44) rfl (feq hc44).1 ?_
                show Steps p.tables e below (s₁.setTop (mkF m 47 #[.val (.ref r0), .val (.int (1 : Int32)), .val (.int p2), .val (.int (1 : Int32)), .val (.int y1)] [])) _
                exact kt
            · have pre73 : ∀ t, Steps p.tables e below (s₁.setTop (mkF m 37 #[.val (.ref r0), .val (.int (1 : Int32)), .val (.int p2), .val (.int (1 : Int32)), .val (.int y1)] [(.int (57 : Int32)), (.int y1)])) t → Steps p.tables e below (s₁.setTop (entryFrame m #[(.ref r0), (.int (1 : Int32)), (.int p2)] 5)) t := fun t kt => pre71 t (by
                show Steps p.tables e below (s₁.setTop (mkF m 30 #[.val (.ref r0), .val (.int (1 : Int32)), .val (.int p2), .val (.int (1 : Int32)), .val (.int y1)] [(.int (48 : Int32)), (.int y1)])) _
                refine XS.icmpNo X0.here hx rfl (hb hby d3_30) rfl (flt hc30).1 ?_
                refine XS.iload X0.here hx rfl (hb hby d3_33) rfl ?_
                refine XS.bipush X0.here hx rfl (hb hby d3_35) ?_
                exact kt)
              by_cases hc37 : (57 : Int32) < y1
              · have pre74 : ∀ t, Steps p.tables e below (s₁.setTop (mkF m 44 #[.val (.ref r0), .val (.int (1 : Int32)), .val (.int p2), .val (.int (1 : Int32)), .val (.int y1)] [(.int (45 : Int32)), (.int y1)])) t → Steps p.tables e below (s₁.setTop (entryFrame m #[(.ref r0), (.int (1 : Int32)), (.int p2)] 5)) t := fun t kt => pre73 t (by
                  show Steps p.tables e below (s₁.setTop (mkF m 37 #[.val (.ref r0), .val (.int (1 : Int32)), .val (.int p2), .val (.int (1 : Int32)), .val (.int y1)] [(.int (57 : Int32)), (.int y1)])) _
                  refine XS.icmpNo X0.here hx rfl (hb hby d3_37) rfl (tlt hc37).2.2.2 ?_
                  refine XS.iload X0.here hx rfl (hb hby d3_40) rfl ?_
                  refine XS.bipush X0.here hx rfl (hb hby d3_42) ?_
                  exact kt)
                by_cases hc44 : y1 = (45 : Int32)
                · exact absurd (show own_nm y1 = 1 by unfold own_nm; simp only [if_pos hc4, if_neg hc16, if_pos hc23, if_neg hc30, if_pos hc37, if_pos hc44]) (own_n1 hk1)
                · refine ⟨s₁, _, X0, N0, e0, fun t kt => pre74 t ?_⟩
                  show Steps p.tables e below (s₁.setTop (mkF m 44 #[.val (.ref r0), .val (.int (1 : Int32)), .val (.int p2), .val (.int (1 : Int32)), .val (.int y1)] [(.int (45 : Int32)), (.int y1)])) _
                  refine XS.icmpNo X0.here hx rfl (hb hby d3_44) rfl (feq hc44).1 ?_
                  show Steps p.tables e below (s₁.setTop (mkF m 47 #[.val (.ref r0), .val (.int (1 : Int32)), .val (.int p2), .val (.int (1 : Int32)), .val (.int y1)] [])) _
                  exact kt
              · exact absurd (show own_nm y1 = 1 by unfold own_nm; simp only [if_pos hc4, if_neg hc16, if_pos hc23, if_neg hc30, if_neg hc37]) (own_n1 hk1)
          · exact absurd (show own_nm y1 = 1 by unfold own_nm; simp only [if_pos hc4, if_neg hc16, if_neg hc23]) (own_n1 hk1)
      obtain ⟨fs, hr, hrun, hended, hW, hsame⟩ := Xj75.leave (v := some (.int (0 : Int32))) (fun h => by rw [Bd.returns] at h; cases h)
      refine ⟨_, _, pre75 _ ?_, hrun, hended, _, _, rfl, ?_, ⟨_, rfl⟩, hW, hsame.mono (by decide) (by decide)⟩
      · show Steps p.tables e below (Tj75.setTop (mkF m 47 #[.val (.ref r0), .val (.int (1 : Int32)), .val (.int p2), .val (.int (1 : Int32)), .val (.int y1)] [])) _
        refine XS.iconst Xj75.here hx rfl (hb hby d3_47) ?_
        show Steps p.tables e below (Tj75.setTop (mkF m 48 #[.val (.ref r0), .val (.int (1 : Int32)), .val (.int p2), .val (.int (1 : Int32)), .val (.int y1)] [(.int (0 : Int32))])) _
        exact retN Xj75 hx (t := .boolean) Bd.returns (by simp) (hb hby d3_48) hr
      · show Q3s1 Z r0 p2 kb y0 y1 y2 y3 h0 n0 _ Tj75.heap _
        rw [ej75]
        exact ⟨(by unfold F3s1; simp only [if_pos hc4, if_neg hk1]), Nj75, rfl⟩
  · obtain ⟨fs, hr, hrun, hended, hW, hsame⟩ := X0.leave (v := some (.int (1 : Int32))) (fun h => by rw [Bd.returns] at h; cases h)
    refine ⟨_, _, pre1 _ ?_, hrun, hended, _, _, rfl, ?_, ⟨_, rfl⟩, hW, hsame.mono (by decide) (by decide)⟩
    · show Steps p.tables e below (s₁.setTop (mkF m 4 #[.val (.ref r0), .val (.int (1 : Int32)), .val (.int p2), .val (.int (1 : Int32)), .unset] [(.int p2), (.int (1 : Int32))])) _
      refine XS.icmpYes X0.here hx rfl (pc0 := 4) (pc' := 55) rfl (hb hby d3_4) rfl (flt hc4).2.1 (by decide) (by decide) ?_
      refine XS.iconst X0.here hx rfl (hb hby d3_55) ?_
      show Steps p.tables e below (s₁.setTop (mkF m 56 #[.val (.ref r0), .val (.int (1 : Int32)), .val (.int p2), .val (.int (1 : Int32)), .unset] [(.int (1 : Int32))])) _
      exact retN X0 hx (t := .boolean) Bd.returns (by simp) (hb hby d3_56) hr
    · show Q3s1 Z r0 p2 kb y0 y1 y2 y3 h0 n0 _ s₁.heap _
      rw [e0]
      exact ⟨(by unfold F3s1; simp only [if_neg hc4]), N0, rfl⟩
theorem ef_3s2 (r0 : Addr) (p2 : Int32) (kb : ClassId) (y0 y1 y2 y3 : Int32) (m : MethodId) : entryFrame m #[(.ref r0), (.int (2 : Int32)), (.int p2)] 5 = mkF m 0 #[.val (.ref r0), .val (.int (2 : Int32)), .val (.int p2), .unset, .unset] [] := by first | (simp [entryFrame, mkF, argsToLocals, Value.category]; done) | rfl
def F3s2 (p2 y0 y1 y2 y3 : Int32) : Int32 := (if (2 : Int32) < p2 then (if (own_nm y2) = (1 : Int32) then (if (3 : Int32) < p2 then (if (own_nm y3) = (1 : Int32) then (1 : Int32) else (0 : Int32)) else (1 : Int32)) else (0 : Int32)) else (1 : Int32))
def Q3s2 (Z : State) (r0 : Addr) (p2 : Int32) (kb : ClassId) (y0 y1 y2 y3 : Int32) (h0 : Heap) (n0 : Nat) (v : Option Value) (h : Heap) (L : List Loc) : Prop := v = some (.int (F3s2 p2 y0 y1 y2 y3)) ∧ Fr n0 L ∧ h = h0
set_option maxRecDepth 65536 in
set_option maxHeartbeats 40000000 in
theorem rm3s2 (l : Launch) (Z : State) (a0 : Array Value) (hw : ∀ d ∈ tables_1, d.before a0 Z = true) (ws : List Jvm.Cond) (r0 : Addr) (p2 : Int32) (kb : ClassId) (y0 y1 y2 y3 : Int32) (h0 : Heap) (n0 : Nat) (Z0 : n0 ≤ h0.size) (V_b : Arv Z h0 r0 kb .byte (4 : Int32) [(.int y0), (.int y1), (.int y2), (.int y3)] (.int (0 : Int32))) (he4 : ¬ ((4 : Int32) < p2)) :
    MetFree l (⟨"com/example/standbye/standbye/TextInput", "isName", "([BII)Z"⟩ : MethodName) (head1 (Jvm.Cond.code (⟨"com/example/standbye/standbye/TextInput", "isName", "([BII)Z"⟩ : MethodName) prog_47_method_8_code 5 (some .boolean) :: ws) ({ frames := 0, cells := 0, slots := 0, locals := 0 } : Room)) (fun a U => a = #[(.ref r0), (.int (2 : Int32)), (.int p2)] ∧ Z.Warmed39 U.vm ∧ U.heap = h0) (fun _ _ _ _ _ => True) (fun _ U o U' => ∃ v L, o = .returned v ∧ Q3s2 Z r0 p2 kb y0 y1 y2 y3 h0 n0 v U'.heap L ∧ FrameEnd U o U' L ({ frames := 0, cells := 0, slots := 0, locals := 0 } : Room).cells ({ frames := 0, cells := 0, slots := 0, locals := 0 } : Room).slots) := by
  refine MetFree.of_bodySF (plainFor_of_name pn_com_example_standbye_standbye_TextInput) hisR ?_
  intro p e s m args below meth c s₁ Bd hml0 hP hK
  obtain ⟨rfl, hZ, hh⟩ := hP
  have hx := Bd.exec
  have hby := Bd.bytes
  have hml : c.maxLocals = 5 := hml0
  have hown : s.vm.findClass "com/example/standbye/standbye/TextInput" = some m.cls := findClass_of_methodNamed Bd.named
  have hnm := (name_of_methodNamed Bd.named Bd.method).1
  have X0 : Stand p l e ({ frames := 0, cells := 0, slots := 0, locals := 0 } : Room) s m #[(.ref r0), (.int (2 : Int32)), (.int p2)] below meth c s₁ [] 0 0 := Stand.of_body Bd
  have e0 : s₁.heap = h0 := by rw [← hh, Bd.state]; rfl
  have N0 := Fr.nil n0
  have pre0 : ∀ t, Steps p.tables e below (s₁.setTop (mkF m 0 #[.val (.ref r0), .val (.int (2 : Int32)), .val (.int p2), .unset, .unset] [])) t → Steps p.tables e below (s₁.setTop (entryFrame m #[(.ref r0), (.int (2 : Int32)), (.int p2)] 5)) t := fun t k => castTop (ef_3s2 r0 p2 kb y0 y1 y2 y3 m) k
  have pre1 : ∀ t, Steps p.tables e below (s₁.setTop (mkF m 4 #[.val (.ref r0), .val (.int (2 : Int32)), .val (.int p2), .val (.int (2 : Int32)), .unset] [(.int p2), (.int (2 : Int32))])) t → Steps p.tables e below (s₁.setTop (entryFrame m #[(.ref r0), (.int (2 : Int32)), (.int p2)] 5)) t := fun t kt => pre0 t (by
    show Steps p.tables e below (s₁.setTop (mkF m 0 #[.val (.ref r0), .val (.int (2 : Int32)), .val (.int p2), .unset, .unset] [])) _
    refine XS.iloadN X0.here hx rfl (hb hby d3_0) rfl ?_
    refine XS.istoreN X0.here hx rfl (hb hby d3_1) rfl (l' := #[.val (.ref r0), .val (.int (2 : Int32)), .val (.int p2), .val (.int (2 : Int32)), .unset]) rfl ?_
    refine XS.iloadN X0.here hx rfl (hb hby d3_2) rfl ?_
    refine XS.iloadN X0.here hx rfl (hb hby d3_3) rfl ?_
    exact kt)
  by_cases hc4 : (2 : Int32) < p2
  · obtain ⟨cl2, Ar2, qa2, S2, Nl2, H2, G2⟩ := id V_b
    have hin2 : ¬ ((2 : Int32) < 0 ∨ cl2.slots.size ≤ ((2 : Int32)).toNatClampNeg) := inb_of S2 ⟨by decide, by decide⟩
    have hat2 : cl2.slots[((2 : Int32)).toNatClampNeg]? = some (.int y2) := Has.at H2 hin2 rfl
    have pre3 : ∀ t, Steps p.tables e below (s₁.setTop (mkF m 12 #[.val (.ref r0), .val (.int (2 : Int32)), .val (.int p2), .val (.int (2 : Int32)), .val (.int y2)] [])) t → Steps p.tables e below (s₁.setTop (entryFrame m #[(.ref r0), (.int (2 : Int32)), (.int p2)] 5)) t := fun t kt => pre1 t (by
      show Steps p.tables e below (s₁.setTop (mkF m 4 #[.val (.ref r0), .val (.int (2 : Int32)), .val (.int p2), .val (.int (2 : Int32)), .unset] [(.int p2), (.int (2 : Int32))])) _
      refine XS.icmpNo X0.here hx rfl (hb hby d3_4) rfl (tlt hc4).2.1 ?_
      refine XS.aloadN X0.here hx rfl (hb hby d3_7) rfl rfl ?_
      refine XS.iloadN X0.here hx rfl (hb hby d3_8) rfl ?_
      refine X0.baloadBytes hx (j := (2 : Int32)) (v := (.int y2)) (by rw [e0]; exact Ar2.1) (State.isArrayOf_alike hZ.alike Ar2.2.1) Ar2.2.2 hin2 hat2 (g := (mkF m 9 #[.val (.ref r0), .val (.int (2 : Int32)), .val (.int p2), .val (.int (2 : Int32)), .unset] [(.int (2 : Int32)), (.ref r0)])) rfl rfl (hb hby d3_9) _ ?_
      refine XS.istore X0.here hx rfl (hb hby d3_10) rfl (l' := #[.val (.ref r0), .val (.int (2 : Int32)), .val (.int p2), .val (.int (2 : Int32)), .val (.int y2)]) rfl ?_
      exact kt)
    by_cases hk2 : (own_nm y2) = (1 : Int32)
    · obtain ⟨Tj14, lj14, Xj14, Nj14, ej14, pre14⟩ : ∃ (T' : State) (locs' : List Loc), Stand p l e ({ frames := 0, cells := 0, slots := 0, locals := 0 } : Room) s m #[(.ref r0), (.int (2 : Int32)), (.int p2)] below meth c T' locs' 0 0 ∧ Fr n0 locs' ∧ T'.heap = h0 ∧ ∀ t, Steps p.tables e below (T'.setTop (mkF m 49 #[.val (.ref r0), .val (.int (2 : Int32)), .val (.int p2), .val (.int (2 : Int32)), .val (.int y2)] [])) t → Steps p.tables e below (s₁.setTop (entryFrame m #[(.ref r0), (.int (2 : Int32)), (.int p2)] 5)) t := by
        have pre4 : ∀ t, Steps p.tables e below (s₁.setTop (mkF m 16 #[.val (.ref r0), .val (.int (2 : Int32)), .val (.int p2), .val (.int (2 : Int32)), .val (.int y2)] [(.int (97 : Int32)), (.int y2)])) t → Steps p.tables e below (s₁.setTop (entryFrame m #[(.ref r0), (.int (2 : Int32)), (.int p2)] 5)) t := fun t kt => pre3 t (by
          show Steps p.tables e below (s₁.setTop (mkF m 12 #[.val (.ref r0), .val (.int (2 : Int32)), .val (.int p2), .val (.int (2 : Int32)), .val (.int y2)] [])) _
          refine XS.iload X0.here hx rfl (hb hby d3_12) rfl ?_
          refine XS.bipush X0.here hx rfl (hb hby d3_14) ?_
          exact kt)
        by_cases hc16 : y2 < (97 : Int32)
        · have pre5 : ∀ t, Steps p.tables e below (s₁.setTop (mkF m 30 #[.val (.ref r0), .val (.int (2 : Int32)), .val (.int p2), .val (.int (2 : Int32)), .val (.int y2)] [(.int (48 : Int32)), (.int y2)])) t → Steps p.tables e below (s₁.setTop (entryFrame m #[(.ref r0), (.int (2 : Int32)), (.int p2)] 5)) t := fun t kt => pre4 t (by
            show Steps p.tables e below (s₁.setTop (mkF m 16 #[.val (.ref r0), .val (.int (2 : Int32)), .val (.int p2), .val (.int (2 : Int32)), .val (.int y2)] [(.int (97 : Int32)), (.int y2)])) _
            refine XS.icmpYes X0.here hx rfl (pc0 := 16) (pc' := 26) rfl (hb hby d3_16) rfl (tlt hc16).1 (by decide) (by decide) ?_
            refine XS.iload X0.here hx rfl (hb hby d3_26) rfl ?_
            refine XS.bipush X0.here hx rfl (hb hby d3_28) ?_
            exact kt)
          by_cases hc30 : y2 < (48 : Int32)
          · have pre6 : ∀ t, Steps p.tables e below (s₁.setTop (mkF m 44 #[.val (.ref r0), .val (.int (2 : Int32)), .val (.int p2), .val (.int (2 : Int32)), .val (.int y2)] [(.int (45 : Int32)), (.int y2)])) t → Steps p.tables e below (s₁.setTop (entryFrame m #[(.ref r0), (.int (2 : Int32)), (.int p2)] 5)) t := fun t kt => pre5 t (by
              show Steps p.tables e below (s₁.setTop (mkF m 30 #[.val (.ref r0), .val (.int (2 : Int32)), .val (.int p2), .val (.int (2 : Int32)), .val (.int y2)] [(.int (48 : Int32)), (.int y2)])) _
              refine XS.icmpYes X0.here hx rfl (pc0 := 30) (pc' := 40) rfl (hb hby d3_30) rfl (tlt hc30).1 (by decide) (by decide) ?_
              refine XS.iload X0.here hx rfl (hb hby d3_40) rfl ?_
              refine XS.bipush X0.here hx rfl (hb hby d3_42) ?_
              exact kt)
            by_cases hc44 : y2 = (45 : Int32)
            · refine ⟨s₁, _, X0, N0, e0, fun t kt => pre6 t ?_⟩
              show Steps p.tables e below (s₁.setTop (mkF m 44 #[.val (.ref r0), .val (.int (2 : Int32)), .val (.int p2), .val (.int (2 : Int32)), .val (.int y2)] [(.int (45 : Int32)), (.int y2)])) _
              refine XS.icmpYes X0.here hx rfl (pc0 := 44) (pc' := 49) rfl (hb hby d3_44) rfl (teq hc44).1 (by decide) (by decide) ?_
              show Steps p.tables e below (s₁.setTop (mkF m 49 #[.val (.ref r0), .val (.int (2 : Int32)), .val (.int p2), .val (.int (2 : Int32)), .val (.int y2)] [])) _
              exact kt
            · exact absurd (show own_nm y2 = 0 by unfold own_nm; simp only [if_pos hc4, if_pos hc16, if_pos hc30, if_neg hc44]) (own_n0 hk2)
          · have pre7 : ∀ t, Steps p.tables e below (s₁.setTop (mkF m 37 #[.val (.ref r0), .val (.int (2 : Int32)), .val (.int p2), .val (.int (2 : Int32)), .val (.int y2)] [(.int (57 : Int32)), (.int y2)])) t → Steps p.tables e below (s₁.setTop (entryFrame m #[(.ref r0), (.int (2 : Int32)), (.int p2)] 5)) t := fun t kt => pre5 t (by
              show Steps p.tables e below (s₁.setTop (mkF m 30 #[.val (.ref r0), .val (.int (2 : Int32)), .val (.int p2), .val (.int (2 : Int32)), .val (.int y2)] [(.int (48 : Int32)), (.int y2)])) _
              refine XS.icmpNo X0.here hx rfl (hb hby d3_30) rfl (flt hc30).1 ?_
              refine XS.iload X0.here hx rfl (hb hby d3_33) rfl ?_
              refine XS.bipush X0.here hx rfl (hb hby d3_35) ?_
              exact kt)
            by_cases hc37 : (57 : Int32) < y2
            · have pre8 : ∀ t, Steps p.tables e below (s₁.setTop (mkF m 44 #[.val (.ref r0), .val (.int (2 : Int32)), .val (.int p2), .val (.int (2 : Int32)), .val (.int y2)] [(.int (45 : Int32)), (.int y2)])) t → Steps p.tables e below (s₁.setTop (entryFrame m #[(.ref r0), (.int (2 : Int32)), (.int p2)] 5)) t := fun t kt => pre7 t (by
                show Steps p.tables e below (s₁.setTop (mkF m 37 #[.val (.ref r0), .val (.int (2 : Int32)), .val (.int p2), .val (.int (2 : Int32)), .val (.int y2)] [(.int (57 : Int32)), (.int y2)])) _
                refine XS.icmpNo X0.here hx rfl (hb hby d3_37) rfl (tlt hc37).2.2.2 ?_
                refine XS.iload X0.here hx rfl (hb hby d3_40) rfl ?_
                refine XS.bipush X0.here hx rfl (hb hby d3_42) ?_
                exact kt)
              by_cases hc44 : y2 = (45 : Int32)
              · refine ⟨s₁, _, X0, N0, e0, fun t kt => pre8 t ?_⟩
                show Steps p.tables e below (s₁.setTop (mkF m 44 #[.val (.ref r0), .val (.int (2 : Int32)), .val (.int p2), .val (.int (2 : Int32)), .val (.int y2)] [(.int (45 : Int32)), (.int y2)])) _
                refine XS.icmpYes X0.here hx rfl (pc0 := 44) (pc' := 49) rfl (hb hby d3_44) rfl (teq hc44).1 (by decide) (by decide) ?_
                show Steps p.tables e below (s₁.setTop (mkF m 49 #[.val (.ref r0), .val (.int (2 : Int32)), .val (.int p2), .val (.int (2 : Int32)), .val (.int y2)] [])) _
                exact kt
              · exact absurd (show own_nm y2 = 0 by unfold own_nm; simp only [if_pos hc4, if_pos hc16, if_neg hc30, if_pos hc37, if_neg hc44]) (own_n0 hk2)
            · refine ⟨s₁, _, X0, N0, e0, fun t kt => pre7 t ?_⟩
              show Steps p.tables e below (s₁.setTop (mkF m 37 #[.val (.ref r0), .val (.int (2 : Int32)), .val (.int p2), .val (.int (2 : Int32)), .val (.int y2)] [(.int (57 : Int32)), (.int y2)])) _
              refine XS.icmpYes X0.here hx rfl (pc0 := 37) (pc' := 49) rfl (hb hby d3_37) rfl (flt hc37).2.2.2 (by decide) (by decide) ?_
              show Steps p.tables e below (s₁.setTop (mkF m 49 #[.val (.ref r0), .val (.int (2 : Int32)), .val (.int p2), .val (.int (2 : Int32)), .val (.int y2)] [])) _
              exact kt
        · have pre9 : ∀ t, Steps p.tables e below (s₁.setTop (mkF m 23 #[.val (.ref r0), .val (.int (2 : Int32)), .val (.int p2), .val (.int (2 : Int32)), .val (.int y2)] [(.int (122 : Int32)), (.int y2)])) t → Steps p.tables e below (s₁.setTop (entryFrame m #[(.ref r0), (.int (2 : Int32)), (.int p2)] 5)) t := fun t kt => pre4 t (by
            show Steps p.tables e below (s₁.setTop (mkF m 16 #[.val (.ref r0), .val (.int (2 : Int32)), .val (.int p2), .val (.int (2 : Int32)), .val (.int y2)] [(.int (97 : Int32)), (.int y2)])) _
            refine XS.icmpNo X0.here hx rfl (hb hby d3_16) rfl (flt hc16).1 ?_
            refine XS.iload X0.here hx rfl (hb hby d3_19) rfl ?_
            refine XS.bipush X0.here hx rfl (hb hby d3_21) ?_
            exact kt)
          by_cases hc23 : (122 : Int32) < y2
          · have pre10 : ∀ t, Steps p.tables e below (s₁.setTop (mkF m 30 #[.val (.ref r0), .val (.int (2 : Int32)), .val (.int p2), .val (.int (2 : Int32)), .val (.int y2)] [(.int (48 : Int32)), (.int y2)])) t → Steps p.tables e below (s₁.setTop (entryFrame m #[(.ref r0), (.int (2 : Int32)), (.int p2)] 5)) t := fun t kt => pre9 t (by
              show Steps p.tables e below (s₁.setTop (mkF m 23 #[.val (.ref r0), .val (.int (2 : Int32)), .val (.int p2), .val (.int (2 : Int32)), .val (.int y2)] [(.int (122 : Int32)), (.int y2)])) _
              refine XS.icmpNo X0.here hx rfl (hb hby d3_23) rfl (tlt hc23).2.2.2 ?_
              refine XS.iload X0.here hx rfl (hb hby d3_26) rfl ?_
              refine XS.bipush X0.here hx rfl (hb hby d3_28) ?_
              exact kt)
            by_cases hc30 : y2 < (48 : Int32)
            · have pre11 : ∀ t, Steps p.tables e below (s₁.setTop (mkF m 44 #[.val (.ref r0), .val (.int (2 : Int32)), .val (.int p2), .val (.int (2 : Int32)), .val (.int y2)] [(.int (45 : Int32)), (.int y2)])) t → Steps p.tables e below (s₁.setTop (entryFrame m #[(.ref r0), (.int (2 : Int32)), (.int p2)] 5)) t := fun t kt => pre10 t (by
                show Steps p.tables e below (s₁.setTop (mkF m 30 #[.val (.ref r0), .val (.int (2 : Int32)), .val (.int p2), .val (.int (2 : Int32)), .val (.int y2)] [(.int (48 : Int32)), (.int y2)])) _
                refine XS.icmpYes X0.here hx rfl (pc0 := 30) (pc' := 40) rfl (hb hby d3_30) rfl (tlt hc30).1 (by decide) (by decide) ?_
                refine XS.iload X0.here hx rfl (hb hby d3_40) rfl ?_
                refine XS.bipush X0.here hx rfl (hb hby d3_42) ?_
                exact kt)
              by_cases hc44 : y2 = (45 : Int32)
              · refine ⟨s₁, _, X0, N0, e0, fun t kt => pre11 t ?_⟩
                show Steps p.tables e below (s₁.setTop (mkF m 44 #[.val (.ref r0), .val (.int (2 : Int32)), .val (.int p2), .val (.int (2 : Int32)), .val (.int y2)] [(.int (45 : Int32)), (.int y2)])) _
                refine XS.icmpYes X0.here hx rfl (pc0 := 44) (pc' := 49) rfl (hb hby d3_44) rfl (teq hc44).1 (by decide) (by decide) ?_
                show Steps p.tables e below (s₁.setTop (mkF m 49 #[.val (.ref r0), .val (.int (2 : Int32)), .val (.int p2), .val (.int (2 : Int32)), .val (.int y2)] [])) _
                exact kt
              · exact absurd (show own_nm y2 = 0 by unfold own_nm; simp only [if_pos hc4, if_neg hc16, if_pos hc23, if_pos hc30, if_neg hc44]) (own_n0 hk2)
            · have pre12 : ∀ t, Steps p.tables e below (s₁.setTop (mkF m 37 #[.val (.ref r0), .val (.int (2 : Int32)), .val (.int p2), .val (.int (2 : Int32)), .val (.int y2)] [(.int (57 : Int32)), (.int y2)])) t → Steps p.tables e below (s₁.setTop (entryFrame m #[(.ref r0), (.int (2 : Int32)), (.int p2)] 5)) t := fun t kt => pre10 t (by
                show Steps p.tables e below (s₁.setTop (mkF m 30 #[.val (.ref r0), .val (.int (2 : Int32)), .val (.int p2), .val (.int (2 : Int32)), .val (.int y2)] [(.int (48 : Int32)), (.int y2)])) _
                refine XS.icmpNo X0.here hx rfl (hb hby d3_30) rfl (flt hc30).1 ?_
                refine XS.iload X0.here hx rfl (hb hby d3_33) rfl ?_
                refine XS.bipush X0.here hx rfl (hb hby d3_35) ?_
                exact kt)
              by_cases hc37 : (57 : Int32) < y2
              · have pre13 : ∀ t, Steps p.tables e below (s₁.setTop (mkF m 44 #[.val (.ref r0), .val (.int (2 : Int32)), .val (.int p2), .val (.int (2 : Int32)), .val (.int y2)] [(.int (45 : Int32)), (.int y2)])) t → Steps p.tables e below (s₁.setTop (entryFrame m #[(.ref r0), (.int (2 : Int32)), (.int p2)] 5)) t := fun t kt => pre12 t (by
                  show Steps p.tables e below (s₁.setTop (mkF m 37 #[.val (.ref r0), .val (.int (2 : Int32)), .val (.int p2), .val (.int (2 : Int32)), .val (.int y2)] [(.int (57 : Int32)), (.int y2)])) _
                  refine XS.icmpNo X0.here hx rfl (hb hby d3_37) rfl (tlt hc37).2.2.2 ?_
                  refine XS.iload X0.here hx rfl (hb hby d3_40) rfl ?_
                  refine XS.bipush X0.here hx rfl (hb hby d3_42) ?_
                  exact kt)
                by_cases hc44 : y2 = (45 : Int32)
                · refine ⟨s₁, _, X0, N0, e0, fun t kt => pre13 t ?_⟩
                  show Steps p.tables e below (s₁.setTop (mkF m 44 #[.val (.ref r0), .val (.int (2 : Int32)), .val (.int p2), .val (.int (2 : Int32)), .val (.int y2)] [(.int (45 : Int32)), (.int y2)])) _
                  refine XS.icmpYes X0.here hx rfl (pc0 := 44) (pc' := 49) rfl (hb hby d3_44) rfl (teq hc44).1 (by decide) (by decide) ?_
                  show Steps p.tables e below (s₁.setTop (mkF m 49 #[.val (.ref r0), .val (.int (2 : Int32)), .val (.int p2), .val (.int (2 : Int32)), .val (.int y2)] [])) _
                  exact kt
                · exact absurd (show own_nm y2 = 0 by unfold own_nm; simp only [if_pos hc4, if_neg hc16, if_pos hc23, if_neg hc30, if_pos hc37, if_neg hc44]) (own_n0 hk2)
              · refine ⟨s₁, _, X0, N0, e0, fun t kt => pre12 t ?_⟩
                show Steps p.tables e below (s₁.setTop (mkF m 37 #[.val (.ref r0), .val (.int (2 : Int32)), .val (.int p2), .val (.int (2 : Int32)), .val (.int y2)] [(.int (57 : Int32)), (.int y2)])) _
                refine XS.icmpYes X0.here hx rfl (pc0 := 37) (pc' := 49) rfl (hb hby d3_37) rfl (flt hc37).2.2.2 (by decide) (by decide) ?_
                show Steps p.tables e below (s₁.setTop (mkF m 49 #[.val (.ref r0), .val (.int (2 : Int32)), .val (.int p2), .val (.int (2 : Int32)), .val (.int y2)] [])) _
                exact kt
          · refine ⟨s₁, _, X0, N0, e0, fun t kt => pre9 t ?_⟩
            show Steps p.tables e below (s₁.setTop (mkF m 23 #[.val (.ref r0), .val (.int (2 : Int32)), .val (.int p2), .val (.int (2 : Int32)), .val (.int y2)] [(.int (122 : Int32)), (.int y2)])) _
            refine XS.icmpYes X0.here hx rfl (pc0 := 23) (pc' := 49) rfl (hb hby d3_23) rfl (flt hc23).2.2.2 (by decide) (by decide) ?_
            show Steps p.tables e below (s₁.setTop (mkF m 49 #[.val (.ref r0), .val (.int (2 : Int32)), .val (.int p2), .val (.int (2 : Int32)), .val (.int y2)] [])) _
            exact kt
      have pre15 : ∀ t, Steps p.tables e below (Tj14.setTop (mkF m 4 #[.val (.ref r0), .val (.int (2 : Int32)), .val (.int p2), .val (.int (3 : Int32)), .val (.int y2)] [(.int p2), (.int (3 : Int32))])) t → Steps p.tables e below (s₁.setTop (entryFrame m #[(.ref r0), (.int (2 : Int32)), (.int p2)] 5)) t := fun t kt => pre14 t (by
        show Steps p.tables e below (Tj14.setTop (mkF m 49 #[.val (.ref r0), .val (.int (2 : Int32)), .val (.int p2), .val (.int (2 : Int32)), .val (.int y2)] [])) _
        refine XS.iinc Xj14.here hx rfl (hb hby d3_49) rfl (l' := #[.val (.ref r0), .val (.int (2 : Int32)), .val (.int p2), .val (.int (3 : Int32)), .val (.int y2)]) rfl ?_
        refine XS.goto Xj14.here hx rfl (pc0 := 52) (pc' := 2) rfl (hb hby d3_52) (by decide) (by decide) ?_
        refine XS.iloadN Xj14.here hx rfl (hb hby d3_2) rfl ?_
        refine XS.iloadN Xj14.here hx rfl (hb hby d3_3) rfl ?_
        exact kt)
      by_cases hc4_2 : (3 : Int32) < p2
      · obtain ⟨cl16, Ar16, qa16, S16, Nl16, H16, G16⟩ := id V_b
        have hin16 : ¬ ((3 : Int32) < 0 ∨ cl16.slots.size ≤ ((3 : Int32)).toNatClampNeg) := inb_of S16 ⟨by decide, by decide⟩
        have hat16 : cl16.slots[((3 : Int32)).toNatClampNeg]? = some (.int y3) := Has.at H16 hin16 rfl
        have pre17 : ∀ t, Steps p.tables e below (Tj14.setTop (mkF m 12 #[.val (.ref r0), .val (.int (2 : Int32)), .val (.int p2), .val (.int (3 : Int32)), .val (.int y3)] [])) t → Steps p.tables e below (s₁.setTop (entryFrame m #[(.ref r0), (.int (2 : Int32)), (.int p2)] 5)) t := fun t kt => pre15 t (by
          show Steps p.tables e below (Tj14.setTop (mkF m 4 #[.val (.ref r0), .val (.int (2 : Int32)), .val (.int p2), .val (.int (3 : Int32)), .val (.int y2)] [(.int p2), (.int (3 : Int32))])) _
          refine XS.icmpNo Xj14.here hx rfl (hb hby d3_4) rfl (tlt hc4_2).2.1 ?_
          refine XS.aloadN Xj14.here hx rfl (hb hby d3_7) rfl rfl ?_
          refine XS.iloadN Xj14.here hx rfl (hb hby d3_8) rfl ?_
          refine Xj14.baloadBytes hx (j := (3 : Int32)) (v := (.int y3)) (by rw [ej14]; exact Ar16.1) (State.isArrayOf_alike hZ.alike Ar16.2.1) Ar16.2.2 hin16 hat16 (g := (mkF m 9 #[.val (.ref r0), .val (.int (2 : Int32)), .val (.int p2), .val (.int (3 : Int32)), .val (.int y2)] [(.int (3 : Int32)), (.ref r0)])) rfl rfl (hb hby d3_9) _ ?_
          refine XS.istore Xj14.here hx rfl (hb hby d3_10) rfl (l' := #[.val (.ref r0), .val (.int (2 : Int32)), .val (.int p2), .val (.int (3 : Int32)), .val (.int y3)]) rfl ?_
          exact kt)
        by_cases hk3 : (own_nm y3) = (1 : Int32)
        · obtain ⟨Tj28, lj28, Xj28, Nj28, ej28, pre28⟩ : ∃ (T' : State) (locs' : List Loc), Stand p l e ({ frames := 0, cells := 0, slots := 0, locals := 0 } : Room) s m #[(.ref r0), (.int (2 : Int32)), (.int p2)] below meth c T' locs' 0 0 ∧ Fr n0 locs' ∧ T'.heap = h0 ∧ ∀ t, Steps p.tables e below (T'.setTop (mkF m 49 #[.val (.ref r0), .val (.int (2 : Int32)), .val (.int p2), .val (.int (3 : Int32)), .val (.int y3)] [])) t → Steps p.tables e below (s₁.setTop (entryFrame m #[(.ref r0), (.int (2 : Int32)), (.int p2)] 5)) t := by
            have pre18 : ∀ t, Steps p.tables e below (Tj14.setTop (mkF m 16 #[.val (.ref r0), .val (.int (2 : Int32)), .val (.int p2), .val (.int (3 : Int32)), .val (.int y3)] [(.int (97 : Int32)), (.int y3)])) t → Steps p.tables e below (s₁.setTop (entryFrame m #[(.ref r0), (.int (2 : Int32)), (.int p2)] 5)) t := fun t kt => pre17 t (by
              show Steps p.tables e below (Tj14.setTop (mkF m 12 #[.val (.ref r0), .val (.int (2 : Int32)), .val (.int p2), .val (.int (3 : Int32)), .val (.int y3)] [])) _
              refine XS.iload Xj14.here hx rfl (hb hby d3_12) rfl ?_
              refine XS.bipush Xj14.here hx rfl (hb hby d3_14) ?_
              exact kt)
            by_cases hc16 : y3 < (97 : Int32)
            · have pre19 : ∀ t, Steps p.tables e below (Tj14.setTop (mkF m 30 #[.val (.ref r0), .val (.int (2 : Int32)), .val (.int p2), .val (.int (3 : Int32)), .val (.int y3)] [(.int (48 : Int32)), (.int y3)])) t → Steps p.tables e below (s₁.setTop (entryFrame m #[(.ref r0), (.int (2 : Int32)), (.int p2)] 5)) t := fun t kt => pre18 t (by
                show Steps p.tables e below (Tj14.setTop (mkF m 16 #[.val (.ref r0), .val (.int (2 : Int32)), .val (.int p2), .val (.int (3 : Int32)), .val (.int y3)] [(.int (97 : Int32)), (.int y3)])) _
                refine XS.icmpYes Xj14.here hx rfl (pc0 := 16) (pc' := 26) rfl (hb hby d3_16) rfl (tlt hc16).1 (by decide) (by decide) ?_
                refine XS.iload Xj14.here hx rfl (hb hby d3_26) rfl ?_
                refine XS.bipush Xj14.here hx rfl (hb hby d3_28) ?_
                exact kt)
              by_cases hc30 : y3 < (48 : Int32)
              · have pre20 : ∀ t, Steps p.tables e below (Tj14.setTop (mkF m 44 #[.val (.ref r0), .val (.int (2 : Int32)), .val (.int p2), .val (.int (3 : Int32)), .val (.int y3)] [(.int (45 : Int32)), (.int y3)])) t → Steps p.tables e below (s₁.setTop (entryFrame m #[(.ref r0), (.int (2 : Int32)), (.int p2)] 5)) t := fun t kt => pre19 t (by
                  show Steps p.tables e below (Tj14.setTop (mkF m 30 #[.val (.ref r0), .val (.int (2 : Int32)), .val (.int p2), .val (.int (3 : Int32)), .val (.int y3)] [(.int (48 : Int32)), (.int y3)])) _
                  refine XS.icmpYes Xj14.here hx rfl (pc0 := 30) (pc' := 40) rfl (hb hby d3_30) rfl (tlt hc30).1 (by decide) (by decide) ?_
                  refine XS.iload Xj14.here hx rfl (hb hby d3_40) rfl ?_
                  refine XS.bipush Xj14.here hx rfl (hb hby d3_42) ?_
                  exact kt)
                by_cases hc44 : y3 = (45 : Int32)
                · refine ⟨Tj14, _, Xj14, Nj14, ej14, fun t kt => pre20 t ?_⟩
                  show Steps p.tables e below (Tj14.setTop (mkF m 44 #[.val (.ref r0), .val (.int (2 : Int32)), .val (.int p2), .val (.int (3 : Int32)), .val (.int y3)] [(.int (45 : Int32)), (.int y3)])) _
                  refine XS.icmpYes Xj14.here hx rfl (pc0 := 44) (pc' := 49) rfl (hb hby d3_44) rfl (teq hc44).1 (by decide) (by decide) ?_
                  show Steps p.tables e below (Tj14.setTop (mkF m 49 #[.val (.ref r0), .val (.int (2 : Int32)), .val (.int p2), .val (.int (3 : Int32)), .val (.int y3)] [])) _
                  exact kt
                · exact absurd (show own_nm y3 = 0 by unfold own_nm; simp only [if_pos hc4, if_pos hc4_2, if_pos hc16, if_pos hc30, if_neg hc44]) (own_n0 hk3)
              · have pre21 : ∀ t, Steps p.tables e below (Tj14.setTop (mkF m 37 #[.val (.ref r0), .val (.int (2 : Int32)), .val (.int p2), .val (.int (3 : Int32)), .val (.int y3)] [(.int (57 : Int32)), (.int y3)])) t → Steps p.tables e below (s₁.setTop (entryFrame m #[(.ref r0), (.int (2 : Int32)), (.int p2)] 5)) t := fun t kt => pre19 t (by
                  show Steps p.tables e below (Tj14.setTop (mkF m 30 #[.val (.ref r0), .val (.int (2 : Int32)), .val (.int p2), .val (.int (3 : Int32)), .val (.int y3)] [(.int (48 : Int32)), (.int y3)])) _
                  refine XS.icmpNo Xj14.here hx rfl (hb hby d3_30) rfl (flt hc30).1 ?_
                  refine XS.iload Xj14.here hx rfl (hb hby d3_33) rfl ?_
                  refine XS.bipush Xj14.here hx rfl (hb hby d3_35) ?_
                  exact kt)
                by_cases hc37 : (57 : Int32) < y3
                · have pre22 : ∀ t, Steps p.tables e below (Tj14.setTop (mkF m 44 #[.val (.ref r0), .val (.int (2 : Int32)), .val (.int p2), .val (.int (3 : Int32)), .val (.int y3)] [(.int (45 : Int32)), (.int y3)])) t → Steps p.tables e below (s₁.setTop (entryFrame m #[(.ref r0), (.int (2 : Int32)), (.int p2)] 5)) t := fun t kt => pre21 t (by
                    show Steps p.tables e below (Tj14.setTop (mkF m 37 #[.val (.ref r0), .val (.int (2 : Int32)), .val (.int p2), .val (.int (3 : Int32)), .val (.int y3)] [(.int (57 : Int32)), (.int y3)])) _
                    refine XS.icmpNo Xj14.here hx rfl (hb hby d3_37) rfl (tlt hc37).2.2.2 ?_
                    refine XS.iload Xj14.here hx rfl (hb hby d3_40) rfl ?_
                    refine XS.bipush Xj14.here hx rfl (hb hby d3_42) ?_
                    exact kt)
                  by_cases hc44 : y3 = (45 : Int32)
                  · refine ⟨Tj14, _, Xj14, Nj14, ej14, fun t kt => pre22 t ?_⟩
                    show Steps p.tables e below (Tj14.setTop (mkF m 44 #[.val (.ref r0), .val (.int (2 : Int32)), .val (.int p2), .val (.int (3 : Int32)), .val (.int y3)] [(.int (45 : Int32)), (.int y3)])) _
                    refine XS.icmpYes Xj14.here hx rfl (pc0 := 44) (pc' := 49) rfl (hb hby d3_44) rfl (teq hc44).1 (by decide) (by decide) ?_
                    show Steps p.tables e below (Tj14.setTop (mkF m 49 #[.val (.ref r0), .val (.int (2 : Int32)), .val (.int p2), .val (.int (3 : Int32)), .val (.int y3)] [])) _
                    exact kt
                  · exact absurd (show own_nm y3 = 0 by unfold own_nm; simp only [if_pos hc4, if_pos hc4_2, if_pos hc16, if_neg hc30, if_pos hc37, if_neg hc44]) (own_n0 hk3)
                · refine ⟨Tj14, _, Xj14, Nj14, ej14, fun t kt => pre21 t ?_⟩
                  show Steps p.tables e below (Tj14.setTop (mkF m 37 #[.val (.ref r0), .val (.int (2 : Int32)), .val (.int p2), .val (.int (3 : Int32)), .val (.int y3)] [(.int (57 : Int32)), (.int y3)])) _
                  refine XS.icmpYes Xj14.here hx rfl (pc0 := 37) (pc' := 49) rfl (hb hby d3_37) rfl (flt hc37).2.2.2 (by decide) (by decide) ?_
                  show Steps p.tables e below (Tj14.setTop (mkF m 49 #[.val (.ref r0), .val (.int (2 : Int32)), .val (.int p2), .val (.int (3 : Int32)), .val (.int y3)] [])) _
                  exact kt
            · have pre23 : ∀ t, Steps p.tables e below (Tj14.setTop (mkF m 23 #[.val (.ref r0), .val (.int (2 : Int32)), .val (.int p2), .val (.int (3 : Int32)), .val (.int y3)] [(.int (122 : Int32)), (.int y3)])) t → Steps p.tables e below (s₁.setTop (entryFrame m #[(.ref r0), (.int (2 : Int32)), (.int p2)] 5)) t := fun t kt => pre18 t (by
                show Steps p.tables e below (Tj14.setTop (mkF m 16 #[.val (.ref r0), .val (.int (2 : Int32)), .val (.int p2), .val (.int (3 : Int32)), .val (.int y3)] [(.int (97 : Int32)), (.int y3)])) _
                refine XS.icmpNo Xj14.here hx rfl (hb hby d3_16) rfl (flt hc16).1 ?_
                refine XS.iload Xj14.here hx rfl (hb hby d3_19) rfl ?_
                refine XS.bipush Xj14.here hx rfl (hb hby d3_21) ?_
                exact kt)
              by_cases hc23 : (122 : Int32) < y3
              · have pre24 : ∀ t, Steps p.tables e below (Tj14.setTop (mkF m 30 #[.val (.ref r0), .val (.int (2 : Int32)), .val (.int p2), .val (.int (3 : Int32)), .val (.int y3)] [(.int (48 : Int32)), (.int y3)])) t → Steps p.tables e below (s₁.setTop (entryFrame m #[(.ref r0), (.int (2 : Int32)), (.int p2)] 5)) t := fun t kt => pre23 t (by
                  show Steps p.tables e below (Tj14.setTop (mkF m 23 #[.val (.ref r0), .val (.int (2 : Int32)), .val (.int p2), .val (.int (3 : Int32)), .val (.int y3)] [(.int (122 : Int32)), (.int y3)])) _
                  refine XS.icmpNo Xj14.here hx rfl (hb hby d3_23) rfl (tlt hc23).2.2.2 ?_
                  refine XS.iload Xj14.here hx rfl (hb hby d3_26) rfl ?_
                  refine XS.bipush Xj14.here hx rfl (hb hby d3_28) ?_
                  exact kt)
                by_cases hc30 : y3 < (48 : Int32)
                · have pre25 : ∀ t, Steps p.tables e below (Tj14.setTop (mkF m 44 #[.val (.ref r0), .val (.int (2 : Int32)), .val (.int p2), .val (.int (3 : Int32)), .val (.int y3)] [(.int (45 : Int32)), (.int y3)])) t → Steps p.tables e below (s₁.setTop (entryFrame m #[(.ref r0), (.int (2 : Int32)), (.int p2)] 5)) t := fun t kt => pre24 t (by
                    show Steps p.tables e below (Tj14.setTop (mkF m 30 #[.val (.ref r0), .val (.int (2 : Int32)), .val (.int p2), .val (.int (3 : Int32)), .val (.int y3)] [(.int (48 : Int32)), (.int y3)])) _
                    refine XS.icmpYes Xj14.here hx rfl (pc0 := 30) (pc' := 40) rfl (hb hby d3_30) rfl (tlt hc30).1 (by decide) (by decide) ?_
                    refine XS.iload Xj14.here hx rfl (hb hby d3_40) rfl ?_
                    refine XS.bipush Xj14.here hx rfl (hb hby d3_42) ?_
                    exact kt)
                  by_cases hc44 : y3 = (45 : Int32)
                  · refine ⟨Tj14, _, Xj14, Nj14, ej14, fun t kt => pre25 t ?_⟩
                    show Steps p.tables e below (Tj14.setTop (mkF m 44 #[.val (.ref r0), .val (.int (2 : Int32)), .val (.int p2), .val (.int (3 : Int32)), .val (.int y3)] [(.int (45 : Int32)), (.int y3)])) _
                    refine XS.icmpYes Xj14.here hx rfl (pc0 := 44) (pc' := 49) rfl (hb hby d3_44) rfl (teq hc44).1 (by decide) (by decide) ?_
                    show Steps p.tables e below (Tj14.setTop (mkF m 49 #[.val (.ref r0), .val (.int (2 : Int32)), .val (.int p2), .val (.int (3 : Int32)), .val (.int y3)] [])) _
                    exact kt
                  · exact absurd (show own_nm y3 = 0 by unfold own_nm; simp only [if_pos hc4, if_pos hc4_2, if_neg hc16, if_pos hc23, if_pos hc30, if_neg hc44]) (own_n0 hk3)
                · have pre26 : ∀ t, Steps p.tables e below (Tj14.setTop (mkF m 37 #[.val (.ref r0), .val (.int (2 : Int32)), .val (.int p2), .val (.int (3 : Int32)), .val (.int y3)] [(.int (57 : Int32)), (.int y3)])) t → Steps p.tables e below (s₁.setTop (entryFrame m #[(.ref r0), (.int (2 : Int32)), (.int p2)] 5)) t := fun t kt => pre24 t (by
                    show Steps p.tables e below (Tj14.setTop (mkF m 30 #[.val (.ref r0), .val (.int (2 : Int32)), .val (.int p2), .val (.int (3 : Int32)), .val (.int y3)] [(.int (48 : Int32)), (.int y3)])) _
                    refine XS.icmpNo Xj14.here hx rfl (hb hby d3_30) rfl (flt hc30).1 ?_
                    refine XS.iload Xj14.here hx rfl (hb hby d3_33) rfl ?_
                    refine XS.bipush Xj14.here hx rfl (hb hby d3_35) ?_
                    exact kt)
                  by_cases hc37 : (57 : Int32) < y3
                  · have pre27 : ∀ t, Steps p.tables e below (Tj14.setTop (mkF m 44 #[.val (.ref r0), .val (.int (2 : Int32)), .val (.int p2), .val (.int (3 : Int32)), .val (.int y3)] [(.int (45 : Int32)), (.int y3)])) t → Steps p.tables e below (s₁.setTop (entryFrame m #[(.ref r0), (.int (2 : Int32)), (.int p2)] 5)) t := fun t kt => pre26 t (by
                      show Steps p.tables e below (Tj14.setTop (mkF m 37 #[.val (.ref r0), .val (.int (2 : Int32)), .val (.int p2), .val (.int (3 : Int32)), .val (.int y3)] [(.int (57 : Int32)), (.int y3)])) _
                      refine XS.icmpNo Xj14.here hx rfl (hb hby d3_37) rfl (tlt hc37).2.2.2 ?_
                      refine XS.iload Xj14.here hx rfl (hb hby d3_40) rfl ?_
                      refine XS.bipush Xj14.here hx rfl (hb hby d3_42) ?_
                      exact kt)
                    by_cases hc44 : y3 = (45 : Int32)
                    · refine ⟨Tj14, _, Xj14, Nj14, ej14, fun t kt => pre27 t ?_⟩
                      show Steps p.tables e below (Tj14.setTop (mkF m 44 #[.val (.ref r0), .val (.int (2 : Int32)), .val (.int p2), .val (.int (3 : Int32)), .val (.int y3)] [(.int (45 : Int32)), (.int y3)])) _
                      refine XS.icmpYes Xj14.here hx rfl (pc0 := 44) (pc' := 49) rfl (hb hby d3_44) rfl (teq hc44).1 (by decide) (by decide) ?_
                      show Steps p.tables e below (Tj14.setTop (mkF m 49 #[.val (.ref r0), .val (.int (2 : Int32)), .val (.int p2), .val (.int (3 : Int32)), .val (.int y3)] [])) _
                      exact kt
                    · exact absurd (show own_nm y3 = 0 by unfold own_nm; simp only [if_pos hc4, if_pos hc4_2, if_neg hc16, if_pos hc23, if_neg hc30, if_pos hc37, if_neg hc44]) (own_n0 hk3)
                  · refine ⟨Tj14, _, Xj14, Nj14, ej14, fun t kt => pre26 t ?_⟩
                    show Steps p.tables e below (Tj14.setTop (mkF m 37 #[.val (.ref r0), .val (.int (2 : Int32)), .val (.int p2), .val (.int (3 : Int32)), .val (.int y3)] [(.int (57 : Int32)), (.int y3)])) _
                    refine XS.icmpYes Xj14.here hx rfl (pc0 := 37) (pc' := 49) rfl (hb hby d3_37) rfl (flt hc37).2.2.2 (by decide) (by decide) ?_
                    show Steps p.tables e below (Tj14.setTop (mkF m 49 #[.val (.ref r0), .val (.int (2 : Int32)), .val (.int p2), .val (.int (3 : Int32)), .val (.int y3)] [])) _
                    exact kt
              · refine ⟨Tj14, _, Xj14, Nj14, ej14, fun t kt => pre23 t ?_⟩
                show Steps p.tables e below (Tj14.setTop (mkF m 23 #[.val (.ref r0), .val (.int (2 : Int32)), .val (.int p2), .val (.int (3 : Int32)), .val (.int y3)] [(.int (122 : Int32)), (.int y3)])) _
                refine XS.icmpYes Xj14.here hx rfl (pc0 := 23) (pc' := 49) rfl (hb hby d3_23) rfl (flt hc23).2.2.2 (by decide) (by decide) ?_
                show Steps p.tables e below (Tj14.setTop (mkF m 49 #[.val (.ref r0), .val (.int (2 : Int32)), .val (.int p2), .val (.int (3 : Int32)), .val (.int y3)] [])) _
                exact kt
          obtain ⟨fs, hr, hrun, hended, hW, hsame⟩ := Xj28.leave (v := some (.int (1 : Int32))) (fun h => by rw [Bd.returns] at h; cases h)
          refine ⟨_, _, pre28 _ ?_, hrun, hended, _, _, rfl, ?_, ⟨_, rfl⟩, hW, hsame.mono (by decide) (by decide)⟩
          · show Steps p.tables e below (Tj28.setTop (mkF m 49 #[.val (.ref r0), .val (.int (2 : Int32)), .val (.int p2), .val (.int (3 : Int32)), .val (.int y3)] [])) _
            refine XS.iinc Xj28.here hx rfl (hb hby d3_49) rfl (l' := #[.val (.ref r0), .val (.int (2 : Int32)), .val (.int p2), .val (.int (4 : Int32)), .val (.int y3)]) rfl ?_
            refine XS.goto Xj28.here hx rfl (pc0 := 52) (pc' := 2) rfl (hb hby d3_52) (by decide) (by decide) ?_
            refine XS.iloadN Xj28.here hx rfl (hb hby d3_2) rfl ?_
            refine XS.iloadN Xj28.here hx rfl (hb hby d3_3) rfl ?_
            refine XS.icmpYes Xj28.here hx rfl (pc0 := 4) (pc' := 55) rfl (hb hby d3_4) rfl (flt he4).2.1 (by decide) (by decide) ?_
            refine XS.iconst Xj28.here hx rfl (hb hby d3_55) ?_
            show Steps p.tables e below (Tj28.setTop (mkF m 56 #[.val (.ref r0), .val (.int (2 : Int32)), .val (.int p2), .val (.int (4 : Int32)), .val (.int y3)] [(.int (1 : Int32))])) _
            exact retN Xj28 hx (t := .boolean) Bd.returns (by simp) (hb hby d3_56) hr
          · show Q3s2 Z r0 p2 kb y0 y1 y2 y3 h0 n0 _ Tj28.heap _
            rw [ej28]
            exact ⟨(by unfold F3s2; simp only [if_pos hc4, if_pos hk2, if_pos hc4_2, if_pos hk3]), Nj28, rfl⟩
        · obtain ⟨Tj39, lj39, Xj39, Nj39, ej39, pre39⟩ : ∃ (T' : State) (locs' : List Loc), Stand p l e ({ frames := 0, cells := 0, slots := 0, locals := 0 } : Room) s m #[(.ref r0), (.int (2 : Int32)), (.int p2)] below meth c T' locs' 0 0 ∧ Fr n0 locs' ∧ T'.heap = h0 ∧ ∀ t, Steps p.tables e below (T'.setTop (mkF m 47 #[.val (.ref r0), .val (.int (2 : Int32)), .val (.int p2), .val (.int (3 : Int32)), .val (.int y3)] [])) t → Steps p.tables e below (s₁.setTop (entryFrame m #[(.ref r0), (.int (2 : Int32)), (.int p2)] 5)) t := by
            have pre29 : ∀ t, Steps p.tables e below (Tj14.setTop (mkF m 16 #[.val (.ref r0), .val (.int (2 : Int32)), .val (.int p2), .val (.int (3 : Int32)), .val (.int y3)] [(.int (97 : Int32)), (.int y3)])) t → Steps p.tables e below (s₁.setTop (entryFrame m #[(.ref r0), (.int (2 : Int32)), (.int p2)] 5)) t := fun t kt => pre17 t (by
              show Steps p.tables e below (Tj14.setTop (mkF m 12 #[.val (.ref r0), .val (.int (2 : Int32)), .val (.int p2), .val (.int (3 : Int32)), .val (.int y3)] [])) _
              refine XS.iload Xj14.here hx rfl (hb hby d3_12) rfl ?_
              refine XS.bipush Xj14.here hx rfl (hb hby d3_14) ?_
              exact kt)
            by_cases hc16 : y3 < (97 : Int32)
            · have pre30 : ∀ t, Steps p.tables e below (Tj14.setTop (mkF m 30 #[.val (.ref r0), .val (.int (2 : Int32)), .val (.int p2), .val (.int (3 : Int32)), .val (.int y3)] [(.int (48 : Int32)), (.int y3)])) t → Steps p.tables e below (s₁.setTop (entryFrame m #[(.ref r0), (.int (2 : Int32)), (.int p2)] 5)) t := fun t kt => pre29 t (by
                show Steps p.tables e below (Tj14.setTop (mkF m 16 #[.val (.ref r0), .val (.int (2 : Int32)), .val (.int p2), .val (.int (3 : Int32)), .val (.int y3)] [(.int (97 : Int32)), (.int y3)])) _
                refine XS.icmpYes Xj14.here hx rfl (pc0 := 16) (pc' := 26) rfl (hb hby d3_16) rfl (tlt hc16).1 (by decide) (by decide) ?_
                refine XS.iload Xj14.here hx rfl (hb hby d3_26) rfl ?_
                refine XS.bipush Xj14.here hx rfl (hb hby d3_28) ?_
                exact kt)
              by_cases hc30 : y3 < (48 : Int32)
              · have pre31 : ∀ t, Steps p.tables e below (Tj14.setTop (mkF m 44 #[.val (.ref r0), .val (.int (2 : Int32)), .val (.int p2), .val (.int (3 : Int32)), .val (.int y3)] [(.int (45 : Int32)), (.int y3)])) t → Steps p.tables e below (s₁.setTop (entryFrame m #[(.ref r0), (.int (2 : Int32)), (.int p2)] 5)) t := fun t kt => pre30 t (by
                  show Steps p.tables e below (Tj14.setTop (mkF m 30 #[.val (.ref r0), .val (.int (2 : Int32)), .val (.int p2), .val (.int (3 : Int32)), .val (.int y3)] [(.int (48 : Int32)), (.int y3)])) _
                  refine XS.icmpYes Xj14.here hx rfl (pc0 := 30) (pc' := 40) rfl (hb hby d3_30) rfl (tlt hc30).1 (by decide) (by decide) ?_
                  refine XS.iload Xj14.here hx rfl (hb hby d3_40) rfl ?_
                  refine XS.bipush Xj14.here hx rfl (hb hby d3_42) ?_
                  exact kt)
                by_cases hc44 : y3 = (45 : Int32)
                · exact absurd (show own_nm y3 = 1 by unfold own_nm; simp only [if_pos hc4, if_pos hc4_2, if_pos hc16, if_pos hc30, if_pos hc44]) (own_n1 hk3)
                · refine ⟨Tj14, _, Xj14, Nj14, ej14, fun t kt => pre31 t ?_⟩
                  show Steps p.tables e below (Tj14.setTop (mkF m 44 #[.val (.ref r0), .val (.int (2 : Int32)), .val (.int p2), .val (.int (3 : Int32)), .val (.int y3)] [(.int (45 : Int32)), (.int y3)])) _
                  refine XS.icmpNo Xj14.here hx rfl (hb hby d3_44) rfl (feq hc44).1 ?_
                  show Steps p.tables e below (Tj14.setTop (mkF m 47 #[.val (.ref r0), .val (.int (2 : Int32)), .val (.int p2), .val (.int (3 : Int32)), .val (.int y3)] [])) _
                  exact kt
              · have pre32 : ∀ t, Steps p.tables e below (Tj14.setTop (mkF m 37 #[.val (.ref r0), .val (.int (2 : Int32)), .val (.int p2), .val (.int (3 : Int32)), .val (.int y3)] [(.int (57 : Int32)), (.int y3)])) t → Steps p.tables e below (s₁.setTop (entryFrame m #[(.ref r0), (.int (2 : Int32)), (.int p2)] 5)) t := fun t kt => pre30 t (by
                  show Steps p.tables e below (Tj14.setTop (mkF m 30 #[.val (.ref r0), .val (.int (2 : Int32)), .val (.int p2), .val (.int (3 : Int32)), .val (.int y3)] [(.int (48 : Int32)), (.int y3)])) _
                  refine XS.icmpNo Xj14.here hx rfl (hb hby d3_30) rfl (flt hc30).1 ?_
                  refine XS.iload Xj14.here hx rfl (hb hby d3_33) rfl ?_
                  refine XS.bipush Xj14.here hx rfl (hb hby d3_35) ?_
                  exact kt)
                by_cases hc37 : (57 : Int32) < y3
                · have pre33 : ∀ t, Steps p.tables e below (Tj14.setTop (mkF m 44 #[.val (.ref r0), .val (.int (2 : Int32)), .val (.int p2), .val (.int (3 : Int32)), .val (.int y3)] [(.int (45 : Int32)), (.int y3)])) t → Steps p.tables e below (s₁.setTop (entryFrame m #[(.ref r0), (.int (2 : Int32)), (.int p2)] 5)) t := fun t kt => pre32 t (by
                    show Steps p.tables e below (Tj14.setTop (mkF m 37 #[.val (.ref r0), .val (.int (2 : Int32)), .val (.int p2), .val (.int (3 : Int32)), .val (.int y3)] [(.int (57 : Int32)), (.int y3)])) _
                    refine XS.icmpNo Xj14.here hx rfl (hb hby d3_37) rfl (tlt hc37).2.2.2 ?_
                    refine XS.iload Xj14.here hx rfl (hb hby d3_40) rfl ?_
                    refine XS.bipush Xj14.here hx rfl (hb hby d3_42) ?_
                    exact kt)
                  by_cases hc44 : y3 = (45 : Int32)
                  · exact absurd (show own_nm y3 = 1 by unfold own_nm; simp only [if_pos hc4, if_pos hc4_2, if_pos hc16, if_neg hc30, if_pos hc37, if_pos hc44]) (own_n1 hk3)
                  · refine ⟨Tj14, _, Xj14, Nj14, ej14, fun t kt => pre33 t ?_⟩
                    show Steps p.tables e below (Tj14.setTop (mkF m 44 #[.val (.ref r0), .val (.int (2 : Int32)), .val (.int p2), .val (.int (3 : Int32)), .val (.int y3)] [(.int (45 : Int32)), (.int y3)])) _
                    refine XS.icmpNo Xj14.here hx rfl (hb hby d3_44) rfl (feq hc44).1 ?_
                    show Steps p.tables e below (Tj14.setTop (mkF m 47 #[.val (.ref r0), .val (.int (2 : Int32)), .val (.int p2), .val (.int (3 : Int32)), .val (.int y3)] [])) _
                    exact kt
                · exact absurd (show own_nm y3 = 1 by unfold own_nm; simp only [if_pos hc4, if_pos hc4_2, if_pos hc16, if_neg hc30, if_neg hc37]) (own_n1 hk3)
            · have pre34 : ∀ t, Steps p.tables e below (Tj14.setTop (mkF m 23 #[.val (.ref r0), .val (.int (2 : Int32)), .val (.int p2), .val (.int (3 : Int32)), .val (.int y3)] [(.int (122 : Int32)), (.int y3)])) t → Steps p.tables e below (s₁.setTop (entryFrame m #[(.ref r0), (.int (2 : Int32)), (.int p2)] 5)) t := fun t kt => pre29 t (by
                show Steps p.tables e below (Tj14.setTop (mkF m 16 #[.val (.ref r0), .val (.int (2 : Int32)), .val (.int p2), .val (.int (3 : Int32)), .val (.int y3)] [(.int (97 : Int32)), (.int y3)])) _
                refine XS.icmpNo Xj14.here hx rfl (hb hby d3_16) rfl (flt hc16).1 ?_
                refine XS.iload Xj14.here hx rfl (hb hby d3_19) rfl ?_
                refine XS.bipush Xj14.here hx rfl (hb hby d3_21) ?_
                exact kt)
              by_cases hc23 : (122 : Int32) < y3
              · have pre35 : ∀ t, Steps p.tables e below (Tj14.setTop (mkF m 30 #[.val (.ref r0), .val (.int (2 : Int32)), .val (.int p2), .val (.int (3 : Int32)), .val (.int y3)] [(.int (48 : Int32)), (.int y3)])) t → Steps p.tables e below (s₁.setTop (entryFrame m #[(.ref r0), (.int (2 : Int32)), (.int p2)] 5)) t := fun t kt => pre34 t (by
                  show Steps p.tables e below (Tj14.setTop (mkF m 23 #[.val (.ref r0), .val (.int (2 : Int32)), .val (.int p2), .val (.int (3 : Int32)), .val (.int y3)] [(.int (122 : Int32)), (.int y3)])) _
                  refine XS.icmpNo Xj14.here hx rfl (hb hby d3_23) rfl (tlt hc23).2.2.2 ?_
                  refine XS.iload Xj14.here hx rfl (hb hby d3_26) rfl ?_
                  refine XS.bipush Xj14.here hx rfl (hb hby d3_28) ?_
                  exact kt)
                by_cases hc30 : y3 < (48 : Int32)
                · have pre36 : ∀ t, Steps p.tables e below (Tj14.setTop (mkF m 44 #[.val (.ref r0), .val (.int (2 : Int32)), .val (.int p2), .val (.int (3 : Int32)), .val (.int y3)] [(.int (45 : Int32)), (.int y3)])) t → Steps p.tables e below (s₁.setTop (entryFrame m #[(.ref r0), (.int (2 : Int32)), (.int p2)] 5)) t := fun t kt => pre35 t (by
                    show Steps p.tables e below (Tj14.setTop (mkF m 30 #[.val (.ref r0), .val (.int (2 : Int32)), .val (.int p2), .val (.int (3 : Int32)), .val (.int y3)] [(.int (48 : Int32)), (.int y3)])) _
                    refine XS.icmpYes Xj14.here hx rfl (pc0 := 30) (pc' := 40) rfl (hb hby d3_30) rfl (tlt hc30).1 (by decide) (by decide) ?_
                    refine XS.iload Xj14.here hx rfl (hb hby d3_40) rfl ?_
                    refine XS.bipush Xj14.here hx rfl (hb hby d3_42) ?_
                    exact kt)
                  by_cases hc44 : y3 = (45 : Int32)
                  · exact absurd (show own_nm y3 = 1 by unfold own_nm; simp only [if_pos hc4, if_pos hc4_2, if_neg hc16, if_pos hc23, if_pos hc30, if_pos hc44]) (own_n1 hk3)
                  · refine ⟨Tj14, _, Xj14, Nj14, ej14, fun t kt => pre36 t ?_⟩
                    show Steps p.tables e below (Tj14.setTop (mkF m 44 #[.val (.ref r0), .val (.int (2 : Int32)), .val (.int p2), .val (.int (3 : Int32)), .val (.int y3)] [(.int (45 : Int32)), (.int y3)])) _
                    refine XS.icmpNo Xj14.here hx rfl (hb hby d3_44) rfl (feq hc44).1 ?_
                    show Steps p.tables e below (Tj14.setTop (mkF m 47 #[.val (.ref r0), .val (.int (2 : Int32)), .val (.int p2), .val (.int (3 : Int32)), .val (.int y3)] [])) _
                    exact kt
                · have pre37 : ∀ t, Steps p.tables e below (Tj14.setTop (mkF m 37 #[.val (.ref r0), .val (.int (2 : Int32)), .val (.int p2), .val (.int (3 : Int32)), .val (.int y3)] [(.int (57 : Int32)), (.int y3)])) t → Steps p.tables e below (s₁.setTop (entryFrame m #[(.ref r0), (.int (2 : Int32)), (.int p2)] 5)) t := fun t kt => pre35 t (by
                    show Steps p.tables e below (Tj14.setTop (mkF m 30 #[.val (.ref r0), .val (.int (2 : Int32)), .val (.int p2), .val (.int (3 : Int32)), .val (.int y3)] [(.int (48 : Int32)), (.int y3)])) _
                    refine XS.icmpNo Xj14.here hx rfl (hb hby d3_30) rfl (flt hc30).1 ?_
                    refine XS.iload Xj14.here hx rfl (hb hby d3_33) rfl ?_
                    refine XS.bipush Xj14.here hx rfl (hb hby d3_35) ?_
                    exact kt)
                  by_cases hc37 : (57 : Int32) < y3
                  · have pre38 : ∀ t, Steps p.tables e below (Tj14.setTop (mkF m 44 #[.val (.ref r0), .val (.int (2 : Int32)), .val (.int p2), .val (.int (3 : Int32)), .val (.int y3)] [(.int (45 : Int32)), (.int y3)])) t → Steps p.tables e below (s₁.setTop (entryFrame m #[(.ref r0), (.int (2 : Int32)), (.int p2)] 5)) t := fun t kt => pre37 t (by
                      show Steps p.tables e below (Tj14.setTop (mkF m 37 #[.val (.ref r0), .val (.int (2 : Int32)), .val (.int p2), .val (.int (3 : Int32)), .val (.int y3)] [(.int (57 : Int32)), (.int y3)])) _
                      refine XS.icmpNo Xj14.here hx rfl (hb hby d3_37) rfl (tlt hc37).2.2.2 ?_
                      refine XS.iload Xj14.here hx rfl (hb hby d3_40) rfl ?_
                      refine XS.bipush Xj14.here hx rfl (hb hby d3_42) ?_
                      exact kt)
                    by_cases hc44 : y3 = (45 : Int32)
                    · exact absurd (show own_nm y3 = 1 by unfold own_nm; simp only [if_pos hc4, if_pos hc4_2, if_neg hc16, if_pos hc23, if_neg hc30, if_pos hc37, if_pos hc44]) (own_n1 hk3)
                    · refine ⟨Tj14, _, Xj14, Nj14, ej14, fun t kt => pre38 t ?_⟩
                      show Steps p.tables e below (Tj14.setTop (mkF m 44 #[.val (.ref r0), .val (.int (2 : Int32)), .val (.int p2), .val (.int (3 : Int32)), .val (.int y3)] [(.int (45 : Int32)), (.int y3)])) _
                      refine XS.icmpNo Xj14.here hx rfl (hb hby d3_44) rfl (feq hc44).1 ?_
                      show Steps p.tables e below (Tj14.setTop (mkF m 47 #[.val (.ref r0), .val (.int (2 : Int32)), .val (.int p2), .val (.int (3 : Int32)), .val (.int y3)] [])) _
                      exact kt
                  · exact absurd (show own_nm y3 = 1 by unfold own_nm; simp only [if_pos hc4, if_pos hc4_2, if_neg hc16, if_pos hc23, if_neg hc30, if_neg hc37]) (own_n1 hk3)
              · exact absurd (show own_nm y3 = 1 by unfold own_nm; simp only [if_pos hc4, if_pos hc4_2, if_neg hc16, if_neg hc23]) (own_n1 hk3)
          obtain ⟨fs, hr, hrun, hended, hW, hsame⟩ := Xj39.leave (v := some (.int (0 : Int32))) (fun h => by rw [Bd.returns] at h; cases h)
          refine ⟨_, _, pre39 _ ?_, hrun, hended, _, _, rfl, ?_, ⟨_, rfl⟩, hW, hsame.mono (by decide) (by decide)⟩
          · show Steps p.tables e below (Tj39.setTop (mkF m 47 #[.val (.ref r0), .val (.int (2 : Int32)), .val (.int p2), .val (.int (3 : Int32)), .val (.int y3)] [])) _
            refine XS.iconst Xj39.here hx rfl (hb hby d3_47) ?_
            show Steps p.tables e below (Tj39.setTop (mkF m 48 #[.val (.ref r0), .val (.int (2 : Int32)), .val (.int p2), .val (.int (3 : Int32)), .val (.int y3)] [(.int (0 : Int32))])) _
            exact retN Xj39 hx (t := .boolean) Bd.returns (by simp) (hb hby d3_48) hr
          · show Q3s2 Z r0 p2 kb y0 y1 y2 y3 h0 n0 _ Tj39.heap _
            rw [ej39]
            exact ⟨(by unfold F3s2; simp only [if_pos hc4, if_pos hk2, if_pos hc4_2, if_neg hk3]), Nj39, rfl⟩
      · obtain ⟨fs, hr, hrun, hended, hW, hsame⟩ := Xj14.leave (v := some (.int (1 : Int32))) (fun h => by rw [Bd.returns] at h; cases h)
        refine ⟨_, _, pre15 _ ?_, hrun, hended, _, _, rfl, ?_, ⟨_, rfl⟩, hW, hsame.mono (by decide) (by decide)⟩
        · show Steps p.tables e below (Tj14.setTop (mkF m 4 #[.val (.ref r0), .val (.int (2 : Int32)), .val (.int p2), .val (.int (3 : Int32)), .val (.int y2)] [(.int p2), (.int (3 : Int32))])) _
          refine XS.icmpYes Xj14.here hx rfl (pc0 := 4) (pc' := 55) rfl (hb hby d3_4) rfl (flt hc4_2).2.1 (by decide) (by decide) ?_
          refine XS.iconst Xj14.here hx rfl (hb hby d3_55) ?_
          show Steps p.tables e below (Tj14.setTop (mkF m 56 #[.val (.ref r0), .val (.int (2 : Int32)), .val (.int p2), .val (.int (3 : Int32)), .val (.int y2)] [(.int (1 : Int32))])) _
          exact retN Xj14 hx (t := .boolean) Bd.returns (by simp) (hb hby d3_56) hr
        · show Q3s2 Z r0 p2 kb y0 y1 y2 y3 h0 n0 _ Tj14.heap _
          rw [ej14]
          exact ⟨(by unfold F3s2; simp only [if_pos hc4, if_pos hk2, if_neg hc4_2]), Nj14, rfl⟩
    · obtain ⟨Tj50, lj50, Xj50, Nj50, ej50, pre50⟩ : ∃ (T' : State) (locs' : List Loc), Stand p l e ({ frames := 0, cells := 0, slots := 0, locals := 0 } : Room) s m #[(.ref r0), (.int (2 : Int32)), (.int p2)] below meth c T' locs' 0 0 ∧ Fr n0 locs' ∧ T'.heap = h0 ∧ ∀ t, Steps p.tables e below (T'.setTop (mkF m 47 #[.val (.ref r0), .val (.int (2 : Int32)), .val (.int p2), .val (.int (2 : Int32)), .val (.int y2)] [])) t → Steps p.tables e below (s₁.setTop (entryFrame m #[(.ref r0), (.int (2 : Int32)), (.int p2)] 5)) t := by
        have pre40 : ∀ t, Steps p.tables e below (s₁.setTop (mkF m 16 #[.val (.ref r0), .val (.int (2 : Int32)), .val (.int p2), .val (.int (2 : Int32)), .val (.int y2)] [(.int (97 : Int32)), (.int y2)])) t → Steps p.tables e below (s₁.setTop (entryFrame m #[(.ref r0), (.int (2 : Int32)), (.int p2)] 5)) t := fun t kt => pre3 t (by
          show Steps p.tables e below (s₁.setTop (mkF m 12 #[.val (.ref r0), .val (.int (2 : Int32)), .val (.int p2), .val (.int (2 : Int32)), .val (.int y2)] [])) _
          refine XS.iload X0.here hx rfl (hb hby d3_12) rfl ?_
          refine XS.bipush X0.here hx rfl (hb hby d3_14) ?_
          exact kt)
        by_cases hc16 : y2 < (97 : Int32)
        · have pre41 : ∀ t, Steps p.tables e below (s₁.setTop (mkF m 30 #[.val (.ref r0), .val (.int (2 : Int32)), .val (.int p2), .val (.int (2 : Int32)), .val (.int y2)] [(.int (48 : Int32)), (.int y2)])) t → Steps p.tables e below (s₁.setTop (entryFrame m #[(.ref r0), (.int (2 : Int32)), (.int p2)] 5)) t := fun t kt => pre40 t (by
            show Steps p.tables e below (s₁.setTop (mkF m 16 #[.val (.ref r0), .val (.int (2 : Int32)), .val (.int p2), .val (.int (2 : Int32)), .val (.int y2)] [(.int (97 : Int32)), (.int y2)])) _
            refine XS.icmpYes X0.here hx rfl (pc0 := 16) (pc' := 26) rfl (hb hby d3_16) rfl (tlt hc16).1 (by decide) (by decide) ?_
            refine XS.iload X0.here hx rfl (hb hby d3_26) rfl ?_
            refine XS.bipush X0.here hx rfl (hb hby d3_28) ?_
            exact kt)
          by_cases hc30 : y2 < (48 : Int32)
          · have pre42 : ∀ t, Steps p.tables e below (s₁.setTop (mkF m 44 #[.val (.ref r0), .val (.int (2 : Int32)), .val (.int p2), .val (.int (2 : Int32)), .val (.int y2)] [(.int (45 : Int32)), (.int y2)])) t → Steps p.tables e below (s₁.setTop (entryFrame m #[(.ref r0), (.int (2 : Int32)), (.int p2)] 5)) t := fun t kt => pre41 t (by
              show Steps p.tables e below (s₁.setTop (mkF m 30 #[.val (.ref r0), .val (.int (2 : Int32)), .val (.int p2), .val (.int (2 : Int32)), .val (.int y2)] [(.int (48 : Int32)), (.int y2)])) _
              refine XS.icmpYes X0.here hx rfl (pc0 := 30) (pc' := 40) rfl (hb hby d3_30) rfl (tlt hc30).1 (by decide) (by decide) ?_
              refine XS.iload X0.here hx rfl (hb hby d3_40) rfl ?_
              refine XS.bipush X0.here hx rfl (hb hby d3_42) ?_
              exact kt)
            by_cases hc44 : y2 = (45 : Int32)
            · exact absurd (show own_nm y2 = 1 by unfold own_nm; simp only [if_pos hc4, if_pos hc16, if_pos hc30, if_pos hc44]) (own_n1 hk2)
            · refine ⟨s₁, _, X0, N0, e0, fun t kt => pre42 t ?_⟩
              show Steps p.tables e below (s₁.setTop (mkF m 44 #[.val (.ref r0), .val (.int (2 : Int32)), .val (.int p2), .val (.int (2 : Int32)), .val (.int y2)] [(.int (45 : Int32)), (.int y2)])) _
              refine XS.icmpNo X0.here hx rfl (hb hby d3_44) rfl (feq hc44).1 ?_
              show Steps p.tables e below (s₁.setTop (mkF m 47 #[.val (.ref r0), .val (.int (2 : Int32)), .val (.int p2), .val (.int (2 : Int32)), .val (.int y2)] [])) _
              exact kt
          · have pre43 : ∀ t, Steps p.tables e below (s₁.setTop (mkF m 37 #[.val (.ref r0), .val (.int (2 : Int32)), .val (.int p2), .val (.int (2 : Int32)), .val (.int y2)] [(.int (57 : Int32)), (.int y2)])) t → Steps p.tables e below (s₁.setTop (entryFrame m #[(.ref r0), (.int (2 : Int32)), (.int p2)] 5)) t := fun t kt => pre41 t (by
              show Steps p.tables e below (s₁.setTop (mkF m 30 #[.val (.ref r0), .val (.int (2 : Int32)), .val (.int p2), .val (.int (2 : Int32)), .val (.int y2)] [(.int (48 : Int32)), (.int y2)])) _
              refine XS.icmpNo X0.here hx rfl (hb hby d3_30) rfl (flt hc30).1 ?_
              refine XS.iload X0.here hx rfl (hb hby d3_33) rfl ?_
              refine XS.bipush X0.here hx rfl (hb hby d3_35) ?_
              exact kt)
            by_cases hc37 : (57 : Int32) < y2
            · have pre44 : ∀ t, Steps p.tables e below (s₁.setTop (mkF m 44 #[.val (.ref r0), .val (.int (2 : Int32)), .val (.int p2), .val (.int (2 : Int32)), .val (.int y2)] [(.int (45 : Int32)), (.int y2)])) t → Steps p.tables e below (s₁.setTop (entryFrame m #[(.ref r0), (.int (2 : Int32)), (.int p2)] 5)) t := fun t kt => pre43 t (by
                show Steps p.tables e below (s₁.setTop (mkF m 37 #[.val (.ref r0), .val (.int (2 : Int32)), .val (.int p2), .val (.int (2 : Int32)), .val (.int y2)] [(.int (57 : Int32)), (.int y2)])) _
                refine XS.icmpNo X0.here hx rfl (hb hby d3_37) rfl (tlt hc37).2.2.2 ?_
                refine XS.iload X0.here hx rfl (hb hby d3_40) rfl ?_
                refine XS.bipush X0.here hx rfl (hb hby d3_42) ?_
                exact kt)
              by_cases hc44 : y2 = (45 : Int32)
              · exact absurd (show own_nm y2 = 1 by unfold own_nm; simp only [if_pos hc4, if_pos hc16, if_neg hc30, if_pos hc37, if_pos hc44]) (own_n1 hk2)
              · refine ⟨s₁, _, X0, N0, e0, fun t kt => pre44 t ?_⟩
                show Steps p.tables e below (s₁.setTop (mkF m 44 #[.val (.ref r0), .val (.int (2 : Int32)), .val (.int p2), .val (.int (2 : Int32)), .val (.int y2)] [(.int (45 : Int32)), (.int y2)])) _
                refine XS.icmpNo X0.here hx rfl (hb hby d3_44) rfl (feq hc44).1 ?_
                show Steps p.tables e below (s₁.setTop (mkF m 47 #[.val (.ref r0), .val (.int (2 : Int32)), .val (.int p2), .val (.int (2 : Int32)), .val (.int y2)] [])) _
                exact kt
            · exact absurd (show own_nm y2 = 1 by unfold own_nm; simp only [if_pos hc4, if_pos hc16, if_neg hc30, if_neg hc37]) (own_n1 hk2)
        · have pre45 : ∀ t, Steps p.tables e below (s₁.setTop (mkF m 23 #[.val (.ref r0), .val (.int (2 : Int32)), .val (.int p2), .val (.int (2 : Int32)), .val (.int y2)] [(.int (122 : Int32)), (.int y2)])) t → Steps p.tables e below (s₁.setTop (entryFrame m #[(.ref r0), (.int (2 : Int32)), (.int p2)] 5)) t := fun t kt => pre40 t (by
            show Steps p.tables e below (s₁.setTop (mkF m 16 #[.val (.ref r0), .val (.int (2 : Int32)), .val (.int p2), .val (.int (2 : Int32)), .val (.int y2)] [(.int (97 : Int32)), (.int y2)])) _
            refine XS.icmpNo X0.here hx rfl (hb hby d3_16) rfl (flt hc16).1 ?_
            refine XS.iload X0.here hx rfl (hb hby d3_19) rfl ?_
            refine XS.bipush X0.here hx rfl (hb hby d3_21) ?_
            exact kt)
          by_cases hc23 : (122 : Int32) < y2
          · have pre46 : ∀ t, Steps p.tables e below (s₁.setTop (mkF m 30 #[.val (.ref r0), .val (.int (2 : Int32)), .val (.int p2), .val (.int (2 : Int32)), .val (.int y2)] [(.int (48 : Int32)), (.int y2)])) t → Steps p.tables e below (s₁.setTop (entryFrame m #[(.ref r0), (.int (2 : Int32)), (.int p2)] 5)) t := fun t kt => pre45 t (by
              show Steps p.tables e below (s₁.setTop (mkF m 23 #[.val (.ref r0), .val (.int (2 : Int32)), .val (.int p2), .val (.int (2 : Int32)), .val (.int y2)] [(.int (122 : Int32)), (.int y2)])) _
              refine XS.icmpNo X0.here hx rfl (hb hby d3_23) rfl (tlt hc23).2.2.2 ?_
              refine XS.iload X0.here hx rfl (hb hby d3_26) rfl ?_
              refine XS.bipush X0.here hx rfl (hb hby d3_28) ?_
              exact kt)
            by_cases hc30 : y2 < (48 : Int32)
            · have pre47 : ∀ t, Steps p.tables e below (s₁.setTop (mkF m 44 #[.val (.ref r0), .val (.int (2 : Int32)), .val (.int p2), .val (.int (2 : Int32)), .val (.int y2)] [(.int (45 : Int32)), (.int y2)])) t → Steps p.tables e below (s₁.setTop (entryFrame m #[(.ref r0), (.int (2 : Int32)), (.int p2)] 5)) t := fun t kt => pre46 t (by
                show Steps p.tables e below (s₁.setTop (mkF m 30 #[.val (.ref r0), .val (.int (2 : Int32)), .val (.int p2), .val (.int (2 : Int32)), .val (.int y2)] [(.int (48 : Int32)), (.int y2)])) _
                refine XS.icmpYes X0.here hx rfl (pc0 := 30) (pc' := 40) rfl (hb hby d3_30) rfl (tlt hc30).1 (by decide) (by decide) ?_
                refine XS.iload X0.here hx rfl (hb hby d3_40) rfl ?_
                refine XS.bipush X0.here hx rfl (hb hby d3_42) ?_
                exact kt)
              by_cases hc44 : y2 = (45 : Int32)
              · exact absurd (show own_nm y2 = 1 by unfold own_nm; simp only [if_pos hc4, if_neg hc16, if_pos hc23, if_pos hc30, if_pos hc44]) (own_n1 hk2)
              · refine ⟨s₁, _, X0, N0, e0, fun t kt => pre47 t ?_⟩
                show Steps p.tables e below (s₁.setTop (mkF m 44 #[.val (.ref r0), .val (.int (2 : Int32)), .val (.int p2), .val (.int (2 : Int32)), .val (.int y2)] [(.int (45 : Int32)), (.int y2)])) _
                refine XS.icmpNo X0.here hx rfl (hb hby d3_44) rfl (feq hc44).1 ?_
                show Steps p.tables e below (s₁.setTop (mkF m 47 #[.val (.ref r0), .val (.int (2 : Int32)), .val (.int p2), .val (.int (2 : Int32)), .val (.int y2)] [])) _
                exact kt
            · have pre48 : ∀ t, Steps p.tables e below (s₁.setTop (mkF m 37 #[.val (.ref r0), .val (.int (2 : Int32)), .val (.int p2), .val (.int (2 : Int32)), .val (.int y2)] [(.int (57 : Int32)), (.int y2)])) t → Steps p.tables e below (s₁.setTop (entryFrame m #[(.ref r0), (.int (2 : Int32)), (.int p2)] 5)) t := fun t kt => pre46 t (by
                show Steps p.tables e below (s₁.setTop (mkF m 30 #[.val (.ref r0), .val (.int (2 : Int32)), .val (.int p2), .val (.int (2 : Int32)), .val (.int y2)] [(.int (48 : Int32)), (.int y2)])) _
                refine XS.icmpNo X0.here hx rfl (hb hby d3_30) rfl (flt hc30).1 ?_
                refine XS.iload X0.here hx rfl (hb hby d3_33) rfl ?_
                refine XS.bipush X0.here hx rfl (hb hby d3_35) ?_
                exact kt)
              by_cases hc37 : (57 : Int32) < y2
              · have pre49 : ∀ t, Steps p.tables e below (s₁.setTop (mkF m 44 #[.val (.ref r0), .val (.int (2 : Int32)), .val (.int p2), .val (.int (2 : Int32)), .val (.int y2)] [(.int (45 : Int32)), (.int y2)])) t → Steps p.tables e below (s₁.setTop (entryFrame m #[(.ref r0), (.int (2 : Int32)), (.int p2)] 5)) t := fun t kt => pre48 t (by
                  show Steps p.tables e below (s₁.setTop (mkF m 37 #[.val (.ref r0), .val (.int (2 : Int32)), .val (.int p2), .val (.int (2 : Int32)), .val (.int y2)] [(.int (57 : Int32)), (.int y2)])) _
                  refine XS.icmpNo X0.here hx rfl (hb hby d3_37) rfl (tlt hc37).2.2.2 ?_
                  refine XS.iload X0.here hx rfl (hb hby d3_40) rfl ?_
                  refine XS.bipush X0.here hx rfl (hb hby d3_42) ?_
                  exact kt)
                by_cases hc44 : y2 = (45 : Int32)
                · exact absurd (show own_nm y2 = 1 by unfold own_nm; simp only [if_pos hc4, if_neg hc16, if_pos hc23, if_neg hc30, if_pos hc37, if_pos hc44]) (own_n1 hk2)
                · refine ⟨s₁, _, X0, N0, e0, fun t kt => pre49 t ?_⟩
                  show Steps p.tables e below (s₁.setTop (mkF m 44 #[.val (.ref r0), .val (.int (2 : Int32)), .val (.int p2), .val (.int (2 : Int32)), .val (.int y2)] [(.int (45 : Int32)), (.int y2)])) _
                  refine XS.icmpNo X0.here hx rfl (hb hby d3_44) rfl (feq hc44).1 ?_
                  show Steps p.tables e below (s₁.setTop (mkF m 47 #[.val (.ref r0), .val (.int (2 : Int32)), .val (.int p2), .val (.int (2 : Int32)), .val (.int y2)] [])) _
                  exact kt
              · exact absurd (show own_nm y2 = 1 by unfold own_nm; simp only [if_pos hc4, if_neg hc16, if_pos hc23, if_neg hc30, if_neg hc37]) (own_n1 hk2)
          · exact absurd (show own_nm y2 = 1 by unfold own_nm; simp only [if_pos hc4, if_neg hc16, if_neg hc23]) (own_n1 hk2)
      obtain ⟨fs, hr, hrun, hended, hW, hsame⟩ := Xj50.leave (v := some (.int (0 : Int32))) (fun h => by rw [Bd.returns] at h; cases h)
      refine ⟨_, _, pre50 _ ?_, hrun, hended, _, _, rfl, ?_, ⟨_, rfl⟩, hW, hsame.mono (by decide) (by decide)⟩
      · show Steps p.tables e below (Tj50.setTop (mkF m 47 #[.val (.ref r0), .val (.int (2 : Int32)), .val (.int p2), .val (.int (2 : Int32)), .val (.int y2)] [])) _
        refine XS.iconst Xj50.here hx rfl (hb hby d3_47) ?_
        show Steps p.tables e below (Tj50.setTop (mkF m 48 #[.val (.ref r0), .val (.int (2 : Int32)), .val (.int p2), .val (.int (2 : Int32)), .val (.int y2)] [(.int (0 : Int32))])) _
        exact retN Xj50 hx (t := .boolean) Bd.returns (by simp) (hb hby d3_48) hr
      · show Q3s2 Z r0 p2 kb y0 y1 y2 y3 h0 n0 _ Tj50.heap _
        rw [ej50]
        exact ⟨(by unfold F3s2; simp only [if_pos hc4, if_neg hk2]), Nj50, rfl⟩
  · obtain ⟨fs, hr, hrun, hended, hW, hsame⟩ := X0.leave (v := some (.int (1 : Int32))) (fun h => by rw [Bd.returns] at h; cases h)
    refine ⟨_, _, pre1 _ ?_, hrun, hended, _, _, rfl, ?_, ⟨_, rfl⟩, hW, hsame.mono (by decide) (by decide)⟩
    · show Steps p.tables e below (s₁.setTop (mkF m 4 #[.val (.ref r0), .val (.int (2 : Int32)), .val (.int p2), .val (.int (2 : Int32)), .unset] [(.int p2), (.int (2 : Int32))])) _
      refine XS.icmpYes X0.here hx rfl (pc0 := 4) (pc' := 55) rfl (hb hby d3_4) rfl (flt hc4).2.1 (by decide) (by decide) ?_
      refine XS.iconst X0.here hx rfl (hb hby d3_55) ?_
      show Steps p.tables e below (s₁.setTop (mkF m 56 #[.val (.ref r0), .val (.int (2 : Int32)), .val (.int p2), .val (.int (2 : Int32)), .unset] [(.int (1 : Int32))])) _
      exact retN X0 hx (t := .boolean) Bd.returns (by simp) (hb hby d3_56) hr
    · show Q3s2 Z r0 p2 kb y0 y1 y2 y3 h0 n0 _ s₁.heap _
      rw [e0]
      exact ⟨(by unfold F3s2; simp only [if_neg hc4]), N0, rfl⟩
theorem ef_3s3 (r0 : Addr) (p2 : Int32) (kb : ClassId) (y0 y1 y2 y3 : Int32) (m : MethodId) : entryFrame m #[(.ref r0), (.int (3 : Int32)), (.int p2)] 5 = mkF m 0 #[.val (.ref r0), .val (.int (3 : Int32)), .val (.int p2), .unset, .unset] [] := by first | (simp [entryFrame, mkF, argsToLocals, Value.category]; done) | rfl
def F3s3 (p2 y0 y1 y2 y3 : Int32) : Int32 := (if (3 : Int32) < p2 then (if (own_nm y3) = (1 : Int32) then (1 : Int32) else (0 : Int32)) else (1 : Int32))
def Q3s3 (Z : State) (r0 : Addr) (p2 : Int32) (kb : ClassId) (y0 y1 y2 y3 : Int32) (h0 : Heap) (n0 : Nat) (v : Option Value) (h : Heap) (L : List Loc) : Prop := v = some (.int (F3s3 p2 y0 y1 y2 y3)) ∧ Fr n0 L ∧ h = h0
set_option maxRecDepth 65536 in
set_option maxHeartbeats 40000000 in
theorem rm3s3 (l : Launch) (Z : State) (a0 : Array Value) (hw : ∀ d ∈ tables_1, d.before a0 Z = true) (ws : List Jvm.Cond) (r0 : Addr) (p2 : Int32) (kb : ClassId) (y0 y1 y2 y3 : Int32) (h0 : Heap) (n0 : Nat) (Z0 : n0 ≤ h0.size) (V_b : Arv Z h0 r0 kb .byte (4 : Int32) [(.int y0), (.int y1), (.int y2), (.int y3)] (.int (0 : Int32))) (he4 : ¬ ((4 : Int32) < p2)) :
    MetFree l (⟨"com/example/standbye/standbye/TextInput", "isName", "([BII)Z"⟩ : MethodName) (head1 (Jvm.Cond.code (⟨"com/example/standbye/standbye/TextInput", "isName", "([BII)Z"⟩ : MethodName) prog_47_method_8_code 5 (some .boolean) :: ws) ({ frames := 0, cells := 0, slots := 0, locals := 0 } : Room)) (fun a U => a = #[(.ref r0), (.int (3 : Int32)), (.int p2)] ∧ Z.Warmed39 U.vm ∧ U.heap = h0) (fun _ _ _ _ _ => True) (fun _ U o U' => ∃ v L, o = .returned v ∧ Q3s3 Z r0 p2 kb y0 y1 y2 y3 h0 n0 v U'.heap L ∧ FrameEnd U o U' L ({ frames := 0, cells := 0, slots := 0, locals := 0 } : Room).cells ({ frames := 0, cells := 0, slots := 0, locals := 0 } : Room).slots) := by
  refine MetFree.of_bodySF (plainFor_of_name pn_com_example_standbye_standbye_TextInput) hisR ?_
  intro p e s m args below meth c s₁ Bd hml0 hP hK
  obtain ⟨rfl, hZ, hh⟩ := hP
  have hx := Bd.exec
  have hby := Bd.bytes
  have hml : c.maxLocals = 5 := hml0
  have hown : s.vm.findClass "com/example/standbye/standbye/TextInput" = some m.cls := findClass_of_methodNamed Bd.named
  have hnm := (name_of_methodNamed Bd.named Bd.method).1
  have X0 : Stand p l e ({ frames := 0, cells := 0, slots := 0, locals := 0 } : Room) s m #[(.ref r0), (.int (3 : Int32)), (.int p2)] below meth c s₁ [] 0 0 := Stand.of_body Bd
  have e0 : s₁.heap = h0 := by rw [← hh, Bd.state]; rfl
  have N0 := Fr.nil n0
  have pre0 : ∀ t, Steps p.tables e below (s₁.setTop (mkF m 0 #[.val (.ref r0), .val (.int (3 : Int32)), .val (.int p2), .unset, .unset] [])) t → Steps p.tables e below (s₁.setTop (entryFrame m #[(.ref r0), (.int (3 : Int32)), (.int p2)] 5)) t := fun t k => castTop (ef_3s3 r0 p2 kb y0 y1 y2 y3 m) k
  have pre1 : ∀ t, Steps p.tables e below (s₁.setTop (mkF m 4 #[.val (.ref r0), .val (.int (3 : Int32)), .val (.int p2), .val (.int (3 : Int32)), .unset] [(.int p2), (.int (3 : Int32))])) t → Steps p.tables e below (s₁.setTop (entryFrame m #[(.ref r0), (.int (3 : Int32)), (.int p2)] 5)) t := fun t kt => pre0 t (by
    show Steps p.tables e below (s₁.setTop (mkF m 0 #[.val (.ref r0), .val (.int (3 : Int32)), .val (.int p2), .unset, .unset] [])) _
    refine XS.iloadN X0.here hx rfl (hb hby d3_0) rfl ?_
    refine XS.istoreN X0.here hx rfl (hb hby d3_1) rfl (l' := #[.val (.ref r0), .val (.int (3 : Int32)), .val (.int p2), .val (.int (3 : Int32)), .unset]) rfl ?_
    refine XS.iloadN X0.here hx rfl (hb hby d3_2) rfl ?_
    refine XS.iloadN X0.here hx rfl (hb hby d3_3) rfl ?_
    exact kt)
  by_cases hc4 : (3 : Int32) < p2
  · obtain ⟨cl2, Ar2, qa2, S2, Nl2, H2, G2⟩ := id V_b
    have hin2 : ¬ ((3 : Int32) < 0 ∨ cl2.slots.size ≤ ((3 : Int32)).toNatClampNeg) := inb_of S2 ⟨by decide, by decide⟩
    have hat2 : cl2.slots[((3 : Int32)).toNatClampNeg]? = some (.int y3) := Has.at H2 hin2 rfl
    have pre3 : ∀ t, Steps p.tables e below (s₁.setTop (mkF m 12 #[.val (.ref r0), .val (.int (3 : Int32)), .val (.int p2), .val (.int (3 : Int32)), .val (.int y3)] [])) t → Steps p.tables e below (s₁.setTop (entryFrame m #[(.ref r0), (.int (3 : Int32)), (.int p2)] 5)) t := fun t kt => pre1 t (by
      show Steps p.tables e below (s₁.setTop (mkF m 4 #[.val (.ref r0), .val (.int (3 : Int32)), .val (.int p2), .val (.int (3 : Int32)), .unset] [(.int p2), (.int (3 : Int32))])) _
      refine XS.icmpNo X0.here hx rfl (hb hby d3_4) rfl (tlt hc4).2.1 ?_
      refine XS.aloadN X0.here hx rfl (hb hby d3_7) rfl rfl ?_
      refine XS.iloadN X0.here hx rfl (hb hby d3_8) rfl ?_
      refine X0.baloadBytes hx (j := (3 : Int32)) (v := (.int y3)) (by rw [e0]; exact Ar2.1) (State.isArrayOf_alike hZ.alike Ar2.2.1) Ar2.2.2 hin2 hat2 (g := (mkF m 9 #[.val (.ref r0), .val (.int (3 : Int32)), .val (.int p2), .val (.int (3 : Int32)), .unset] [(.int (3 : Int32)), (.ref r0)])) rfl rfl (hb hby d3_9) _ ?_
      refine XS.istore X0.here hx rfl (hb hby d3_10) rfl (l' := #[.val (.ref r0), .val (.int (3 : Int32)), .val (.int p2), .val (.int (3 : Int32)), .val (.int y3)]) rfl ?_
      exact kt)
    by_cases hk3 : (own_nm y3) = (1 : Int32)
    · obtain ⟨Tj14, lj14, Xj14, Nj14, ej14, pre14⟩ : ∃ (T' : State) (locs' : List Loc), Stand p l e ({ frames := 0, cells := 0, slots := 0, locals := 0 } : Room) s m #[(.ref r0), (.int (3 : Int32)), (.int p2)] below meth c T' locs' 0 0 ∧ Fr n0 locs' ∧ T'.heap = h0 ∧ ∀ t, Steps p.tables e below (T'.setTop (mkF m 49 #[.val (.ref r0), .val (.int (3 : Int32)), .val (.int p2), .val (.int (3 : Int32)), .val (.int y3)] [])) t → Steps p.tables e below (s₁.setTop (entryFrame m #[(.ref r0), (.int (3 : Int32)), (.int p2)] 5)) t := by
        have pre4 : ∀ t, Steps p.tables e below (s₁.setTop (mkF m 16 #[.val (.ref r0), .val (.int (3 : Int32)), .val (.int p2), .val (.int (3 : Int32)), .val (.int y3)] [(.int (97 : Int32)), (.int y3)])) t → Steps p.tables e below (s₁.setTop (entryFrame m #[(.ref r0), (.int (3 : Int32)), (.int p2)] 5)) t := fun t kt => pre3 t (by
          show Steps p.tables e below (s₁.setTop (mkF m 12 #[.val (.ref r0), .val (.int (3 : Int32)), .val (.int p2), .val (.int (3 : Int32)), .val (.int y3)] [])) _
          refine XS.iload X0.here hx rfl (hb hby d3_12) rfl ?_
          refine XS.bipush X0.here hx rfl (hb hby d3_14) ?_
          exact kt)
        by_cases hc16 : y3 < (97 : Int32)
        · have pre5 : ∀ t, Steps p.tables e below (s₁.setTop (mkF m 30 #[.val (.ref r0), .val (.int (3 : Int32)), .val (.int p2), .val (.int (3 : Int32)), .val (.int y3)] [(.int (48 : Int32)), (.int y3)])) t → Steps p.tables e below (s₁.setTop (entryFrame m #[(.ref r0), (.int (3 : Int32)), (.int p2)] 5)) t := fun t kt => pre4 t (by
            show Steps p.tables e below (s₁.setTop (mkF m 16 #[.val (.ref r0), .val (.int (3 : Int32)), .val (.int p2), .val (.int (3 : Int32)), .val (.int y3)] [(.int (97 : Int32)), (.int y3)])) _
            refine XS.icmpYes X0.here hx rfl (pc0 := 16) (pc' := 26) rfl (hb hby d3_16) rfl (tlt hc16).1 (by decide) (by decide) ?_
            refine XS.iload X0.here hx rfl (hb hby d3_26) rfl ?_
            refine XS.bipush X0.here hx rfl (hb hby d3_28) ?_
            exact kt)
          by_cases hc30 : y3 < (48 : Int32)
          · have pre6 : ∀ t, Steps p.tables e below (s₁.setTop (mkF m 44 #[.val (.ref r0), .val (.int (3 : Int32)), .val (.int p2), .val (.int (3 : Int32)), .val (.int y3)] [(.int (45 : Int32)), (.int y3)])) t → Steps p.tables e below (s₁.setTop (entryFrame m #[(.ref r0), (.int (3 : Int32)), (.int p2)] 5)) t := fun t kt => pre5 t (by
              show Steps p.tables e below (s₁.setTop (mkF m 30 #[.val (.ref r0), .val (.int (3 : Int32)), .val (.int p2), .val (.int (3 : Int32)), .val (.int y3)] [(.int (48 : Int32)), (.int y3)])) _
              refine XS.icmpYes X0.here hx rfl (pc0 := 30) (pc' := 40) rfl (hb hby d3_30) rfl (tlt hc30).1 (by decide) (by decide) ?_
              refine XS.iload X0.here hx rfl (hb hby d3_40) rfl ?_
              refine XS.bipush X0.here hx rfl (hb hby d3_42) ?_
              exact kt)
            by_cases hc44 : y3 = (45 : Int32)
            · refine ⟨s₁, _, X0, N0, e0, fun t kt => pre6 t ?_⟩
              show Steps p.tables e below (s₁.setTop (mkF m 44 #[.val (.ref r0), .val (.int (3 : Int32)), .val (.int p2), .val (.int (3 : Int32)), .val (.int y3)] [(.int (45 : Int32)), (.int y3)])) _
              refine XS.icmpYes X0.here hx rfl (pc0 := 44) (pc' := 49) rfl (hb hby d3_44) rfl (teq hc44).1 (by decide) (by decide) ?_
              show Steps p.tables e below (s₁.setTop (mkF m 49 #[.val (.ref r0), .val (.int (3 : Int32)), .val (.int p2), .val (.int (3 : Int32)), .val (.int y3)] [])) _
              exact kt
            · exact absurd (show own_nm y3 = 0 by unfold own_nm; simp only [if_pos hc4, if_pos hc16, if_pos hc30, if_neg hc44]) (own_n0 hk3)
          · have pre7 : ∀ t, Steps p.tables e below (s₁.setTop (mkF m 37 #[.val (.ref r0), .val (.int (3 : Int32)), .val (.int p2), .val (.int (3 : Int32)), .val (.int y3)] [(.int (57 : Int32)), (.int y3)])) t → Steps p.tables e below (s₁.setTop (entryFrame m #[(.ref r0), (.int (3 : Int32)), (.int p2)] 5)) t := fun t kt => pre5 t (by
              show Steps p.tables e below (s₁.setTop (mkF m 30 #[.val (.ref r0), .val (.int (3 : Int32)), .val (.int p2), .val (.int (3 : Int32)), .val (.int y3)] [(.int (48 : Int32)), (.int y3)])) _
              refine XS.icmpNo X0.here hx rfl (hb hby d3_30) rfl (flt hc30).1 ?_
              refine XS.iload X0.here hx rfl (hb hby d3_33) rfl ?_
              refine XS.bipush X0.here hx rfl (hb hby d3_35) ?_
              exact kt)
            by_cases hc37 : (57 : Int32) < y3
            · have pre8 : ∀ t, Steps p.tables e below (s₁.setTop (mkF m 44 #[.val (.ref r0), .val (.int (3 : Int32)), .val (.int p2), .val (.int (3 : Int32)), .val (.int y3)] [(.int (45 : Int32)), (.int y3)])) t → Steps p.tables e below (s₁.setTop (entryFrame m #[(.ref r0), (.int (3 : Int32)), (.int p2)] 5)) t := fun t kt => pre7 t (by
                show Steps p.tables e below (s₁.setTop (mkF m 37 #[.val (.ref r0), .val (.int (3 : Int32)), .val (.int p2), .val (.int (3 : Int32)), .val (.int y3)] [(.int (57 : Int32)), (.int y3)])) _
                refine XS.icmpNo X0.here hx rfl (hb hby d3_37) rfl (tlt hc37).2.2.2 ?_
                refine XS.iload X0.here hx rfl (hb hby d3_40) rfl ?_
                refine XS.bipush X0.here hx rfl (hb hby d3_42) ?_
                exact kt)
              by_cases hc44 : y3 = (45 : Int32)
              · refine ⟨s₁, _, X0, N0, e0, fun t kt => pre8 t ?_⟩
                show Steps p.tables e below (s₁.setTop (mkF m 44 #[.val (.ref r0), .val (.int (3 : Int32)), .val (.int p2), .val (.int (3 : Int32)), .val (.int y3)] [(.int (45 : Int32)), (.int y3)])) _
                refine XS.icmpYes X0.here hx rfl (pc0 := 44) (pc' := 49) rfl (hb hby d3_44) rfl (teq hc44).1 (by decide) (by decide) ?_
                show Steps p.tables e below (s₁.setTop (mkF m 49 #[.val (.ref r0), .val (.int (3 : Int32)), .val (.int p2), .val (.int (3 : Int32)), .val (.int y3)] [])) _
                exact kt
              · exact absurd (show own_nm y3 = 0 by unfold own_nm; simp only [if_pos hc4, if_pos hc16, if_neg hc30, if_pos hc37, if_neg hc44]) (own_n0 hk3)
            · refine ⟨s₁, _, X0, N0, e0, fun t kt => pre7 t ?_⟩
              show Steps p.tables e below (s₁.setTop (mkF m 37 #[.val (.ref r0), .val (.int (3 : Int32)), .val (.int p2), .val (.int (3 : Int32)), .val (.int y3)] [(.int (57 : Int32)), (.int y3)])) _
              refine XS.icmpYes X0.here hx rfl (pc0 := 37) (pc' := 49) rfl (hb hby d3_37) rfl (flt hc37).2.2.2 (by decide) (by decide) ?_
              show Steps p.tables e below (s₁.setTop (mkF m 49 #[.val (.ref r0), .val (.int (3 : Int32)), .val (.int p2), .val (.int (3 : Int32)), .val (.int y3)] [])) _
              exact kt
        · have pre9 : ∀ t, Steps p.tables e below (s₁.setTop (mkF m 23 #[.val (.ref r0), .val (.int (3 : Int32)), .val (.int p2), .val (.int (3 : Int32)), .val (.int y3)] [(.int (122 : Int32)), (.int y3)])) t → Steps p.tables e below (s₁.setTop (entryFrame m #[(.ref r0), (.int (3 : Int32)), (.int p2)] 5)) t := fun t kt => pre4 t (by
            show Steps p.tables e below (s₁.setTop (mkF m 16 #[.val (.ref r0), .val (.int (3 : Int32)), .val (.int p2), .val (.int (3 : Int32)), .val (.int y3)] [(.int (97 : Int32)), (.int y3)])) _
            refine XS.icmpNo X0.here hx rfl (hb hby d3_16) rfl (flt hc16).1 ?_
            refine XS.iload X0.here hx rfl (hb hby d3_19) rfl ?_
            refine XS.bipush X0.here hx rfl (hb hby d3_21) ?_
            exact kt)
          by_cases hc23 : (122 : Int32) < y3
          · have pre10 : ∀ t, Steps p.tables e below (s₁.setTop (mkF m 30 #[.val (.ref r0), .val (.int (3 : Int32)), .val (.int p2), .val (.int (3 : Int32)), .val (.int y3)] [(.int (48 : Int32)), (.int y3)])) t → Steps p.tables e below (s₁.setTop (entryFrame m #[(.ref r0), (.int (3 : Int32)), (.int p2)] 5)) t := fun t kt => pre9 t (by
              show Steps p.tables e below (s₁.setTop (mkF m 23 #[.val (.ref r0), .val (.int (3 : Int32)), .val (.int p2), .val (.int (3 : Int32)), .val (.int y3)] [(.int (122 : Int32)), (.int y3)])) _
              refine XS.icmpNo X0.here hx rfl (hb hby d3_23) rfl (tlt hc23).2.2.2 ?_
              refine XS.iload X0.here hx rfl (hb hby d3_26) rfl ?_
              refine XS.bipush X0.here hx rfl (hb hby d3_28) ?_
              exact kt)
            by_cases hc30 : y3 < (48 : Int32)
            · have pre11 : ∀ t, Steps p.tables e below (s₁.setTop (mkF m 44 #[.val (.ref r0), .val (.int (3 : Int32)), .val (.int p2), .val (.int (3 : Int32)), .val (.int y3)] [(.int (45 : Int32)), (.int y3)])) t → Steps p.tables e below (s₁.setTop (entryFrame m #[(.ref r0), (.int (3 : Int32)), (.int p2)] 5)) t := fun t kt => pre10 t (by
                show Steps p.tables e below (s₁.setTop (mkF m 30 #[.val (.ref r0), .val (.int (3 : Int32)), .val (.int p2), .val (.int (3 : Int32)), .val (.int y3)] [(.int (48 : Int32)), (.int y3)])) _
                refine XS.icmpYes X0.here hx rfl (pc0 := 30) (pc' := 40) rfl (hb hby d3_30) rfl (tlt hc30).1 (by decide) (by decide) ?_
                refine XS.iload X0.here hx rfl (hb hby d3_40) rfl ?_
                refine XS.bipush X0.here hx rfl (hb hby d3_42) ?_
                exact kt)
              by_cases hc44 : y3 = (45 : Int32)
              · refine ⟨s₁, _, X0, N0, e0, fun t kt => pre11 t ?_⟩
                show Steps p.tables e below (s₁.setTop (mkF m 44 #[.val (.ref r0), .val (.int (3 : Int32)), .val (.int p2), .val (.int (3 : Int32)), .val (.int y3)] [(.int (45 : Int32)), (.int y3)])) _
                refine XS.icmpYes X0.here hx rfl (pc0 := 44) (pc' := 49) rfl (hb hby d3_44) rfl (teq hc44).1 (by decide) (by decide) ?_
                show Steps p.tables e below (s₁.setTop (mkF m 49 #[.val (.ref r0), .val (.int (3 : Int32)), .val (.int p2), .val (.int (3 : Int32)), .val (.int y3)] [])) _
                exact kt
              · exact absurd (show own_nm y3 = 0 by unfold own_nm; simp only [if_pos hc4, if_neg hc16, if_pos hc23, if_pos hc30, if_neg hc44]) (own_n0 hk3)
            · have pre12 : ∀ t, Steps p.tables e below (s₁.setTop (mkF m 37 #[.val (.ref r0), .val (.int (3 : Int32)), .val (.int p2), .val (.int (3 : Int32)), .val (.int y3)] [(.int (57 : Int32)), (.int y3)])) t → Steps p.tables e below (s₁.setTop (entryFrame m #[(.ref r0), (.int (3 : Int32)), (.int p2)] 5)) t := fun t kt => pre10 t (by
                show Steps p.tables e below (s₁.setTop (mkF m 30 #[.val (.ref r0), .val (.int (3 : Int32)), .val (.int p2), .val (.int (3 : Int32)), .val (.int y3)] [(.int (48 : Int32)), (.int y3)])) _
                refine XS.icmpNo X0.here hx rfl (hb hby d3_30) rfl (flt hc30).1 ?_
                refine XS.iload X0.here hx rfl (hb hby d3_33) rfl ?_
                refine XS.bipush X0.here hx rfl (hb hby d3_35) ?_
                exact kt)
              by_cases hc37 : (57 : Int32) < y3
              · have pre13 : ∀ t, Steps p.tables e below (s₁.setTop (mkF m 44 #[.val (.ref r0), .val (.int (3 : Int32)), .val (.int p2), .val (.int (3 : Int32)), .val (.int y3)] [(.int (45 : Int32)), (.int y3)])) t → Steps p.tables e below (s₁.setTop (entryFrame m #[(.ref r0), (.int (3 : Int32)), (.int p2)] 5)) t := fun t kt => pre12 t (by
                  show Steps p.tables e below (s₁.setTop (mkF m 37 #[.val (.ref r0), .val (.int (3 : Int32)), .val (.int p2), .val (.int (3 : Int32)), .val (.int y3)] [(.int (57 : Int32)), (.int y3)])) _
                  refine XS.icmpNo X0.here hx rfl (hb hby d3_37) rfl (tlt hc37).2.2.2 ?_
                  refine XS.iload X0.here hx rfl (hb hby d3_40) rfl ?_
                  refine XS.bipush X0.here hx rfl (hb hby d3_42) ?_
                  exact kt)
                by_cases hc44 : y3 = (45 : Int32)
                · refine ⟨s₁, _, X0, N0, e0, fun t kt => pre13 t ?_⟩
                  show Steps p.tables e below (s₁.setTop (mkF m 44 #[.val (.ref r0), .val (.int (3 : Int32)), .val (.int p2), .val (.int (3 : Int32)), .val (.int y3)] [(.int (45 : Int32)), (.int y3)])) _
                  refine XS.icmpYes X0.here hx rfl (pc0 := 44) (pc' := 49) rfl (hb hby d3_44) rfl (teq hc44).1 (by decide) (by decide) ?_
                  show Steps p.tables e below (s₁.setTop (mkF m 49 #[.val (.ref r0), .val (.int (3 : Int32)), .val (.int p2), .val (.int (3 : Int32)), .val (.int y3)] [])) _
                  exact kt
                · exact absurd (show own_nm y3 = 0 by unfold own_nm; simp only [if_pos hc4, if_neg hc16, if_pos hc23, if_neg hc30, if_pos hc37, if_neg hc44]) (own_n0 hk3)
              · refine ⟨s₁, _, X0, N0, e0, fun t kt => pre12 t ?_⟩
                show Steps p.tables e below (s₁.setTop (mkF m 37 #[.val (.ref r0), .val (.int (3 : Int32)), .val (.int p2), .val (.int (3 : Int32)), .val (.int y3)] [(.int (57 : Int32)), (.int y3)])) _
                refine XS.icmpYes X0.here hx rfl (pc0 := 37) (pc' := 49) rfl (hb hby d3_37) rfl (flt hc37).2.2.2 (by decide) (by decide) ?_
                show Steps p.tables e below (s₁.setTop (mkF m 49 #[.val (.ref r0), .val (.int (3 : Int32)), .val (.int p2), .val (.int (3 : Int32)), .val (.int y3)] [])) _
                exact kt
          · refine ⟨s₁, _, X0, N0, e0, fun t kt => pre9 t ?_⟩
            show Steps p.tables e below (s₁.setTop (mkF m 23 #[.val (.ref r0), .val (.int (3 : Int32)), .val (.int p2), .val (.int (3 : Int32)), .val (.int y3)] [(.int (122 : Int32)), (.int y3)])) _
            refine XS.icmpYes X0.here hx rfl (pc0 := 23) (pc' := 49) rfl (hb hby d3_23) rfl (flt hc23).2.2.2 (by decide) (by decide) ?_
            show Steps p.tables e below (s₁.setTop (mkF m 49 #[.val (.ref r0), .val (.int (3 : Int32)), .val (.int p2), .val (.int (3 : Int32)), .val (.int y3)] [])) _
            exact kt
      obtain ⟨fs, hr, hrun, hended, hW, hsame⟩ := Xj14.leave (v := some (.int (1 : Int32))) (fun h => by rw [Bd.returns] at h; cases h)
      refine ⟨_, _, pre14 _ ?_, hrun, hended, _, _, rfl, ?_, ⟨_, rfl⟩, hW, hsame.mono (by decide) (by decide)⟩
      · show Steps p.tables e below (Tj14.setTop (mkF m 49 #[.val (.ref r0), .val (.int (3 : Int32)), .val (.int p2), .val (.int (3 : Int32)), .val (.int y3)] [])) _
        refine XS.iinc Xj14.here hx rfl (hb hby d3_49) rfl (l' := #[.val (.ref r0), .val (.int (3 : Int32)), .val (.int p2), .val (.int (4 : Int32)), .val (.int y3)]) rfl ?_
        refine XS.goto Xj14.here hx rfl (pc0 := 52) (pc' := 2) rfl (hb hby d3_52) (by decide) (by decide) ?_
        refine XS.iloadN Xj14.here hx rfl (hb hby d3_2) rfl ?_
        refine XS.iloadN Xj14.here hx rfl (hb hby d3_3) rfl ?_
        refine XS.icmpYes Xj14.here hx rfl (pc0 := 4) (pc' := 55) rfl (hb hby d3_4) rfl (flt he4).2.1 (by decide) (by decide) ?_
        refine XS.iconst Xj14.here hx rfl (hb hby d3_55) ?_
        show Steps p.tables e below (Tj14.setTop (mkF m 56 #[.val (.ref r0), .val (.int (3 : Int32)), .val (.int p2), .val (.int (4 : Int32)), .val (.int y3)] [(.int (1 : Int32))])) _
        exact retN Xj14 hx (t := .boolean) Bd.returns (by simp) (hb hby d3_56) hr
      · show Q3s3 Z r0 p2 kb y0 y1 y2 y3 h0 n0 _ Tj14.heap _
        rw [ej14]
        exact ⟨(by unfold F3s3; simp only [if_pos hc4, if_pos hk3]), Nj14, rfl⟩
    · obtain ⟨Tj25, lj25, Xj25, Nj25, ej25, pre25⟩ : ∃ (T' : State) (locs' : List Loc), Stand p l e ({ frames := 0, cells := 0, slots := 0, locals := 0 } : Room) s m #[(.ref r0), (.int (3 : Int32)), (.int p2)] below meth c T' locs' 0 0 ∧ Fr n0 locs' ∧ T'.heap = h0 ∧ ∀ t, Steps p.tables e below (T'.setTop (mkF m 47 #[.val (.ref r0), .val (.int (3 : Int32)), .val (.int p2), .val (.int (3 : Int32)), .val (.int y3)] [])) t → Steps p.tables e below (s₁.setTop (entryFrame m #[(.ref r0), (.int (3 : Int32)), (.int p2)] 5)) t := by
        have pre15 : ∀ t, Steps p.tables e below (s₁.setTop (mkF m 16 #[.val (.ref r0), .val (.int (3 : Int32)), .val (.int p2), .val (.int (3 : Int32)), .val (.int y3)] [(.int (97 : Int32)), (.int y3)])) t → Steps p.tables e below (s₁.setTop (entryFrame m #[(.ref r0), (.int (3 : Int32)), (.int p2)] 5)) t := fun t kt => pre3 t (by
          show Steps p.tables e below (s₁.setTop (mkF m 12 #[.val (.ref r0), .val (.int (3 : Int32)), .val (.int p2), .val (.int (3 : Int32)), .val (.int y3)] [])) _
          refine XS.iload X0.here hx rfl (hb hby d3_12) rfl ?_
          refine XS.bipush X0.here hx rfl (hb hby d3_14) ?_
          exact kt)
        by_cases hc16 : y3 < (97 : Int32)
        · have pre16 : ∀ t, Steps p.tables e below (s₁.setTop (mkF m 30 #[.val (.ref r0), .val (.int (3 : Int32)), .val (.int p2), .val (.int (3 : Int32)), .val (.int y3)] [(.int (48 : Int32)), (.int y3)])) t → Steps p.tables e below (s₁.setTop (entryFrame m #[(.ref r0), (.int (3 : Int32)), (.int p2)] 5)) t := fun t kt => pre15 t (by
            show Steps p.tables e below (s₁.setTop (mkF m 16 #[.val (.ref r0), .val (.int (3 : Int32)), .val (.int p2), .val (.int (3 : Int32)), .val (.int y3)] [(.int (97 : Int32)), (.int y3)])) _
            refine XS.icmpYes X0.here hx rfl (pc0 := 16) (pc' := 26) rfl (hb hby d3_16) rfl (tlt hc16).1 (by decide) (by decide) ?_
            refine XS.iload X0.here hx rfl (hb hby d3_26) rfl ?_
            refine XS.bipush X0.here hx rfl (hb hby d3_28) ?_
            exact kt)
          by_cases hc30 : y3 < (48 : Int32)
          · have pre17 : ∀ t, Steps p.tables e below (s₁.setTop (mkF m 44 #[.val (.ref r0), .val (.int (3 : Int32)), .val (.int p2), .val (.int (3 : Int32)), .val (.int y3)] [(.int (45 : Int32)), (.int y3)])) t → Steps p.tables e below (s₁.setTop (entryFrame m #[(.ref r0), (.int (3 : Int32)), (.int p2)] 5)) t := fun t kt => pre16 t (by
              show Steps p.tables e below (s₁.setTop (mkF m 30 #[.val (.ref r0), .val (.int (3 : Int32)), .val (.int p2), .val (.int (3 : Int32)), .val (.int y3)] [(.int (48 : Int32)), (.int y3)])) _
              refine XS.icmpYes X0.here hx rfl (pc0 := 30) (pc' := 40) rfl (hb hby d3_30) rfl (tlt hc30).1 (by decide) (by decide) ?_
              refine XS.iload X0.here hx rfl (hb hby d3_40) rfl ?_
              refine XS.bipush X0.here hx rfl (hb hby d3_42) ?_
              exact kt)
            by_cases hc44 : y3 = (45 : Int32)
            · exact absurd (show own_nm y3 = 1 by unfold own_nm; simp only [if_pos hc4, if_pos hc16, if_pos hc30, if_pos hc44]) (own_n1 hk3)
            · refine ⟨s₁, _, X0, N0, e0, fun t kt => pre17 t ?_⟩
              show Steps p.tables e below (s₁.setTop (mkF m 44 #[.val (.ref r0), .val (.int (3 : Int32)), .val (.int p2), .val (.int (3 : Int32)), .val (.int y3)] [(.int (45 : Int32)), (.int y3)])) _
              refine XS.icmpNo X0.here hx rfl (hb hby d3_44) rfl (feq hc44).1 ?_
              show Steps p.tables e below (s₁.setTop (mkF m 47 #[.val (.ref r0), .val (.int (3 : Int32)), .val (.int p2), .val (.int (3 : Int32)), .val (.int y3)] [])) _
              exact kt
          · have pre18 : ∀ t, Steps p.tables e below (s₁.setTop (mkF m 37 #[.val (.ref r0), .val (.int (3 : Int32)), .val (.int p2), .val (.int (3 : Int32)), .val (.int y3)] [(.int (57 : Int32)), (.int y3)])) t → Steps p.tables e below (s₁.setTop (entryFrame m #[(.ref r0), (.int (3 : Int32)), (.int p2)] 5)) t := fun t kt => pre16 t (by
              show Steps p.tables e below (s₁.setTop (mkF m 30 #[.val (.ref r0), .val (.int (3 : Int32)), .val (.int p2), .val (.int (3 : Int32)), .val (.int y3)] [(.int (48 : Int32)), (.int y3)])) _
              refine XS.icmpNo X0.here hx rfl (hb hby d3_30) rfl (flt hc30).1 ?_
              refine XS.iload X0.here hx rfl (hb hby d3_33) rfl ?_
              refine XS.bipush X0.here hx rfl (hb hby d3_35) ?_
              exact kt)
            by_cases hc37 : (57 : Int32) < y3
            · have pre19 : ∀ t, Steps p.tables e below (s₁.setTop (mkF m 44 #[.val (.ref r0), .val (.int (3 : Int32)), .val (.int p2), .val (.int (3 : Int32)), .val (.int y3)] [(.int (45 : Int32)), (.int y3)])) t → Steps p.tables e below (s₁.setTop (entryFrame m #[(.ref r0), (.int (3 : Int32)), (.int p2)] 5)) t := fun t kt => pre18 t (by
                show Steps p.tables e below (s₁.setTop (mkF m 37 #[.val (.ref r0), .val (.int (3 : Int32)), .val (.int p2), .val (.int (3 : Int32)), .val (.int y3)] [(.int (57 : Int32)), (.int y3)])) _
                refine XS.icmpNo X0.here hx rfl (hb hby d3_37) rfl (tlt hc37).2.2.2 ?_
                refine XS.iload X0.here hx rfl (hb hby d3_40) rfl ?_
                refine XS.bipush X0.here hx rfl (hb hby d3_42) ?_
                exact kt)
              by_cases hc44 : y3 = (45 : Int32)
              · exact absurd (show own_nm y3 = 1 by unfold own_nm; simp only [if_pos hc4, if_pos hc16, if_neg hc30, if_pos hc37, if_pos hc44]) (own_n1 hk3)
              · refine ⟨s₁, _, X0, N0, e0, fun t kt => pre19 t ?_⟩
                show Steps p.tables e below (s₁.setTop (mkF m 44 #[.val (.ref r0), .val (.int (3 : Int32)), .val (.int p2), .val (.int (3 : Int32)), .val (.int y3)] [(.int (45 : Int32)), (.int y3)])) _
                refine XS.icmpNo X0.here hx rfl (hb hby d3_44) rfl (feq hc44).1 ?_
                show Steps p.tables e below (s₁.setTop (mkF m 47 #[.val (.ref r0), .val (.int (3 : Int32)), .val (.int p2), .val (.int (3 : Int32)), .val (.int y3)] [])) _
                exact kt
            · exact absurd (show own_nm y3 = 1 by unfold own_nm; simp only [if_pos hc4, if_pos hc16, if_neg hc30, if_neg hc37]) (own_n1 hk3)
        · have pre20 : ∀ t, Steps p.tables e below (s₁.setTop (mkF m 23 #[.val (.ref r0), .val (.int (3 : Int32)), .val (.int p2), .val (.int (3 : Int32)), .val (.int y3)] [(.int (122 : Int32)), (.int y3)])) t → Steps p.tables e below (s₁.setTop (entryFrame m #[(.ref r0), (.int (3 : Int32)), (.int p2)] 5)) t := fun t kt => pre15 t (by
            show Steps p.tables e below (s₁.setTop (mkF m 16 #[.val (.ref r0), .val (.int (3 : Int32)), .val (.int p2), .val (.int (3 : Int32)), .val (.int y3)] [(.int (97 : Int32)), (.int y3)])) _
            refine XS.icmpNo X0.here hx rfl (hb hby d3_16) rfl (flt hc16).1 ?_
            refine XS.iload X0.here hx rfl (hb hby d3_19) rfl ?_
            refine XS.bipush X0.here hx rfl (hb hby d3_21) ?_
            exact kt)
          by_cases hc23 : (122 : Int32) < y3
          · have pre21 : ∀ t, Steps p.tables e below (s₁.setTop (mkF m 30 #[.val (.ref r0), .val (.int (3 : Int32)), .val (.int p2), .val (.int (3 : Int32)), .val (.int y3)] [(.int (48 : Int32)), (.int y3)])) t → Steps p.tables e below (s₁.setTop (entryFrame m #[(.ref r0), (.int (3 : Int32)), (.int p2)] 5)) t := fun t kt => pre20 t (by
              show Steps p.tables e below (s₁.setTop (mkF m 23 #[.val (.ref r0), .val (.int (3 : Int32)), .val (.int p2), .val (.int (3 : Int32)), .val (.int y3)] [(.int (122 : Int32)), (.int y3)])) _
              refine XS.icmpNo X0.here hx rfl (hb hby d3_23) rfl (tlt hc23).2.2.2 ?_
              refine XS.iload X0.here hx rfl (hb hby d3_26) rfl ?_
              refine XS.bipush X0.here hx rfl (hb hby d3_28) ?_
              exact kt)
            by_cases hc30 : y3 < (48 : Int32)
            · have pre22 : ∀ t, Steps p.tables e below (s₁.setTop (mkF m 44 #[.val (.ref r0), .val (.int (3 : Int32)), .val (.int p2), .val (.int (3 : Int32)), .val (.int y3)] [(.int (45 : Int32)), (.int y3)])) t → Steps p.tables e below (s₁.setTop (entryFrame m #[(.ref r0), (.int (3 : Int32)), (.int p2)] 5)) t := fun t kt => pre21 t (by
                show Steps p.tables e below (s₁.setTop (mkF m 30 #[.val (.ref r0), .val (.int (3 : Int32)), .val (.int p2), .val (.int (3 : Int32)), .val (.int y3)] [(.int (48 : Int32)), (.int y3)])) _
                refine XS.icmpYes X0.here hx rfl (pc0 := 30) (pc' := 40) rfl (hb hby d3_30) rfl (tlt hc30).1 (by decide) (by decide) ?_
                refine XS.iload X0.here hx rfl (hb hby d3_40) rfl ?_
                refine XS.bipush X0.here hx rfl (hb hby d3_42) ?_
                exact kt)
              by_cases hc44 : y3 = (45 : Int32)
              · exact absurd (show own_nm y3 = 1 by unfold own_nm; simp only [if_pos hc4, if_neg hc16, if_pos hc23, if_pos hc30, if_pos hc44]) (own_n1 hk3)
              · refine ⟨s₁, _, X0, N0, e0, fun t kt => pre22 t ?_⟩
                show Steps p.tables e below (s₁.setTop (mkF m 44 #[.val (.ref r0), .val (.int (3 : Int32)), .val (.int p2), .val (.int (3 : Int32)), .val (.int y3)] [(.int (45 : Int32)), (.int y3)])) _
                refine XS.icmpNo X0.here hx rfl (hb hby d3_44) rfl (feq hc44).1 ?_
                show Steps p.tables e below (s₁.setTop (mkF m 47 #[.val (.ref r0), .val (.int (3 : Int32)), .val (.int p2), .val (.int (3 : Int32)), .val (.int y3)] [])) _
                exact kt
            · have pre23 : ∀ t, Steps p.tables e below (s₁.setTop (mkF m 37 #[.val (.ref r0), .val (.int (3 : Int32)), .val (.int p2), .val (.int (3 : Int32)), .val (.int y3)] [(.int (57 : Int32)), (.int y3)])) t → Steps p.tables e below (s₁.setTop (entryFrame m #[(.ref r0), (.int (3 : Int32)), (.int p2)] 5)) t := fun t kt => pre21 t (by
                show Steps p.tables e below (s₁.setTop (mkF m 30 #[.val (.ref r0), .val (.int (3 : Int32)), .val (.int p2), .val (.int (3 : Int32)), .val (.int y3)] [(.int (48 : Int32)), (.int y3)])) _
                refine XS.icmpNo X0.here hx rfl (hb hby d3_30) rfl (flt hc30).1 ?_
                refine XS.iload X0.here hx rfl (hb hby d3_33) rfl ?_
                refine XS.bipush X0.here hx rfl (hb hby d3_35) ?_
                exact kt)
              by_cases hc37 : (57 : Int32) < y3
              · have pre24 : ∀ t, Steps p.tables e below (s₁.setTop (mkF m 44 #[.val (.ref r0), .val (.int (3 : Int32)), .val (.int p2), .val (.int (3 : Int32)), .val (.int y3)] [(.int (45 : Int32)), (.int y3)])) t → Steps p.tables e below (s₁.setTop (entryFrame m #[(.ref r0), (.int (3 : Int32)), (.int p2)] 5)) t := fun t kt => pre23 t (by
                  show Steps p.tables e below (s₁.setTop (mkF m 37 #[.val (.ref r0), .val (.int (3 : Int32)), .val (.int p2), .val (.int (3 : Int32)), .val (.int y3)] [(.int (57 : Int32)), (.int y3)])) _
                  refine XS.icmpNo X0.here hx rfl (hb hby d3_37) rfl (tlt hc37).2.2.2 ?_
                  refine XS.iload X0.here hx rfl (hb hby d3_40) rfl ?_
                  refine XS.bipush X0.here hx rfl (hb hby d3_42) ?_
                  exact kt)
                by_cases hc44 : y3 = (45 : Int32)
                · exact absurd (show own_nm y3 = 1 by unfold own_nm; simp only [if_pos hc4, if_neg hc16, if_pos hc23, if_neg hc30, if_pos hc37, if_pos hc44]) (own_n1 hk3)
                · refine ⟨s₁, _, X0, N0, e0, fun t kt => pre24 t ?_⟩
                  show Steps p.tables e below (s₁.setTop (mkF m 44 #[.val (.ref r0), .val (.int (3 : Int32)), .val (.int p2), .val (.int (3 : Int32)), .val (.int y3)] [(.int (45 : Int32)), (.int y3)])) _
                  refine XS.icmpNo X0.here hx rfl (hb hby d3_44) rfl (feq hc44).1 ?_
                  show Steps p.tables e below (s₁.setTop (mkF m 47 #[.val (.ref r0), .val (.int (3 : Int32)), .val (.int p2), .val (.int (3 : Int32)), .val (.int y3)] [])) _
                  exact kt
              · exact absurd (show own_nm y3 = 1 by unfold own_nm; simp only [if_pos hc4, if_neg hc16, if_pos hc23, if_neg hc30, if_neg hc37]) (own_n1 hk3)
          · exact absurd (show own_nm y3 = 1 by unfold own_nm; simp only [if_pos hc4, if_neg hc16, if_neg hc23]) (own_n1 hk3)
      obtain ⟨fs, hr, hrun, hended, hW, hsame⟩ := Xj25.leave (v := some (.int (0 : Int32))) (fun h => by rw [Bd.returns] at h; cases h)
      refine ⟨_, _, pre25 _ ?_, hrun, hended, _, _, rfl, ?_, ⟨_, rfl⟩, hW, hsame.mono (by decide) (by decide)⟩
      · show Steps p.tables e below (Tj25.setTop (mkF m 47 #[.val (.ref r0), .val (.int (3 : Int32)), .val (.int p2), .val (.int (3 : Int32)), .val (.int y3)] [])) _
        refine XS.iconst Xj25.here hx rfl (hb hby d3_47) ?_
        show Steps p.tables e below (Tj25.setTop (mkF m 48 #[.val (.ref r0), .val (.int (3 : Int32)), .val (.int p2), .val (.int (3 : Int32)), .val (.int y3)] [(.int (0 : Int32))])) _
        exact retN Xj25 hx (t := .boolean) Bd.returns (by simp) (hb hby d3_48) hr
      · show Q3s3 Z r0 p2 kb y0 y1 y2 y3 h0 n0 _ Tj25.heap _
        rw [ej25]
        exact ⟨(by unfold F3s3; simp only [if_pos hc4, if_neg hk3]), Nj25, rfl⟩
  · obtain ⟨fs, hr, hrun, hended, hW, hsame⟩ := X0.leave (v := some (.int (1 : Int32))) (fun h => by rw [Bd.returns] at h; cases h)
    refine ⟨_, _, pre1 _ ?_, hrun, hended, _, _, rfl, ?_, ⟨_, rfl⟩, hW, hsame.mono (by decide) (by decide)⟩
    · show Steps p.tables e below (s₁.setTop (mkF m 4 #[.val (.ref r0), .val (.int (3 : Int32)), .val (.int p2), .val (.int (3 : Int32)), .unset] [(.int p2), (.int (3 : Int32))])) _
      refine XS.icmpYes X0.here hx rfl (pc0 := 4) (pc' := 55) rfl (hb hby d3_4) rfl (flt hc4).2.1 (by decide) (by decide) ?_
      refine XS.iconst X0.here hx rfl (hb hby d3_55) ?_
      show Steps p.tables e below (s₁.setTop (mkF m 56 #[.val (.ref r0), .val (.int (3 : Int32)), .val (.int p2), .val (.int (3 : Int32)), .unset] [(.int (1 : Int32))])) _
      exact retN X0 hx (t := .boolean) Bd.returns (by simp) (hb hby d3_56) hr
    · show Q3s3 Z r0 p2 kb y0 y1 y2 y3 h0 n0 _ s₁.heap _
      rw [e0]
      exact ⟨(by unfold F3s3; simp only [if_neg hc4]), N0, rfl⟩
theorem ef_3s4 (r0 : Addr) (p2 : Int32) (kb : ClassId) (y0 y1 y2 y3 : Int32) (m : MethodId) : entryFrame m #[(.ref r0), (.int (4 : Int32)), (.int p2)] 5 = mkF m 0 #[.val (.ref r0), .val (.int (4 : Int32)), .val (.int p2), .unset, .unset] [] := by first | (simp [entryFrame, mkF, argsToLocals, Value.category]; done) | rfl
def F3s4 (p2 y0 y1 y2 y3 : Int32) : Int32 := (1 : Int32)
def Q3s4 (Z : State) (r0 : Addr) (p2 : Int32) (kb : ClassId) (y0 y1 y2 y3 : Int32) (h0 : Heap) (n0 : Nat) (v : Option Value) (h : Heap) (L : List Loc) : Prop := v = some (.int (F3s4 p2 y0 y1 y2 y3)) ∧ Fr n0 L ∧ h = h0
set_option maxRecDepth 65536 in
set_option maxHeartbeats 40000000 in
theorem rm3s4 (l : Launch) (Z : State) (a0 : Array Value) (hw : ∀ d ∈ tables_1, d.before a0 Z = true) (ws : List Jvm.Cond) (r0 : Addr) (p2 : Int32) (kb : ClassId) (y0 y1 y2 y3 : Int32) (h0 : Heap) (n0 : Nat) (Z0 : n0 ≤ h0.size) (V_b : Arv Z h0 r0 kb .byte (4 : Int32) [(.int y0), (.int y1), (.int y2), (.int y3)] (.int (0 : Int32))) (he4 : ¬ ((4 : Int32) < p2)) :
    MetFree l (⟨"com/example/standbye/standbye/TextInput", "isName", "([BII)Z"⟩ : MethodName) (head1 (Jvm.Cond.code (⟨"com/example/standbye/standbye/TextInput", "isName", "([BII)Z"⟩ : MethodName) prog_47_method_8_code 5 (some .boolean) :: ws) ({ frames := 0, cells := 0, slots := 0, locals := 0 } : Room)) (fun a U => a = #[(.ref r0), (.int (4 : Int32)), (.int p2)] ∧ Z.Warmed39 U.vm ∧ U.heap = h0) (fun _ _ _ _ _ => True) (fun _ U o U' => ∃ v L, o = .returned v ∧ Q3s4 Z r0 p2 kb y0 y1 y2 y3 h0 n0 v U'.heap L ∧ FrameEnd U o U' L ({ frames := 0, cells := 0, slots := 0, locals := 0 } : Room).cells ({ frames := 0, cells := 0, slots := 0, locals := 0 } : Room).slots) := by
  refine MetFree.of_bodySF (plainFor_of_name pn_com_example_standbye_standbye_TextInput) hisR ?_
  intro p e s m args below meth c s₁ Bd hml0 hP hK
  obtain ⟨rfl, hZ, hh⟩ := hP
  have hx := Bd.exec
  have hby := Bd.bytes
  have hml : c.maxLocals = 5 := hml0
  have hown : s.vm.findClass "com/example/standbye/standbye/TextInput" = some m.cls := findClass_of_methodNamed Bd.named
  have hnm := (name_of_methodNamed Bd.named Bd.method).1
  have X0 : Stand p l e ({ frames := 0, cells := 0, slots := 0, locals := 0 } : Room) s m #[(.ref r0), (.int (4 : Int32)), (.int p2)] below meth c s₁ [] 0 0 := Stand.of_body Bd
  have e0 : s₁.heap = h0 := by rw [← hh, Bd.state]; rfl
  have N0 := Fr.nil n0
  have pre0 : ∀ t, Steps p.tables e below (s₁.setTop (mkF m 0 #[.val (.ref r0), .val (.int (4 : Int32)), .val (.int p2), .unset, .unset] [])) t → Steps p.tables e below (s₁.setTop (entryFrame m #[(.ref r0), (.int (4 : Int32)), (.int p2)] 5)) t := fun t k => castTop (ef_3s4 r0 p2 kb y0 y1 y2 y3 m) k
  obtain ⟨fs, hr, hrun, hended, hW, hsame⟩ := X0.leave (v := some (.int (1 : Int32))) (fun h => by rw [Bd.returns] at h; cases h)
  refine ⟨_, _, pre0 _ ?_, hrun, hended, _, _, rfl, ?_, ⟨_, rfl⟩, hW, hsame.mono (by decide) (by decide)⟩
  · show Steps p.tables e below (s₁.setTop (mkF m 0 #[.val (.ref r0), .val (.int (4 : Int32)), .val (.int p2), .unset, .unset] [])) _
    refine XS.iloadN X0.here hx rfl (hb hby d3_0) rfl ?_
    refine XS.istoreN X0.here hx rfl (hb hby d3_1) rfl (l' := #[.val (.ref r0), .val (.int (4 : Int32)), .val (.int p2), .val (.int (4 : Int32)), .unset]) rfl ?_
    refine XS.iloadN X0.here hx rfl (hb hby d3_2) rfl ?_
    refine XS.iloadN X0.here hx rfl (hb hby d3_3) rfl ?_
    refine XS.icmpYes X0.here hx rfl (pc0 := 4) (pc' := 55) rfl (hb hby d3_4) rfl (flt he4).2.1 (by decide) (by decide) ?_
    refine XS.iconst X0.here hx rfl (hb hby d3_55) ?_
    show Steps p.tables e below (s₁.setTop (mkF m 56 #[.val (.ref r0), .val (.int (4 : Int32)), .val (.int p2), .val (.int (4 : Int32)), .unset] [(.int (1 : Int32))])) _
    exact retN X0 hx (t := .boolean) Bd.returns (by simp) (hb hby d3_56) hr
  · show Q3s4 Z r0 p2 kb y0 y1 y2 y3 h0 n0 _ s₁.heap _
    rw [e0]
    exact ⟨rfl, N0, rfl⟩
def A0_45 (p0 : Int32) (p1 : Int32) (p2 : Int32) (p3 : Int32) (p4 : Int32) (wc : Int32) (fv : Value) : Int32 := ((p4 &&& (255 : Int32)) % (5 : Int32))
theorem own_five (p0 : Int32) : (p0 &&& (255 : Int32)) % (5 : Int32) = 0 ∨ (p0 &&& (255 : Int32)) % (5 : Int32) = 1 ∨ (p0 &&& (255 : Int32)) % (5 : Int32) = 2 ∨ (p0 &&& (255 : Int32)) % (5 : Int32) = 3 ∨ (p0 &&& (255 : Int32)) % (5 : Int32) = 4 := by
  have m := c_mask p0 255 8 (by decide) (by decide)
  have r := (c_irem (p0 &&& (255 : Int32)) 5 5 (by decide)).1 (by omega)
  simp only [← Int32.toInt_inj]
  show _ = (0 : Int) ∨ _ = (1 : Int) ∨ _ = (2 : Int) ∨ _ = (3 : Int) ∨ _ = (4 : Int)
  omega
theorem own_end0 (p4 : Int32) : ((0 : Int32) + ((((p4.toUInt32 >>> ((8 : Int32) &&& 31).toUInt32).toInt32) &&& (255 : Int32)) % (5 : Int32))) = 0 ∨ ((0 : Int32) + ((((p4.toUInt32 >>> ((8 : Int32) &&& 31).toUInt32).toInt32) &&& (255 : Int32)) % (5 : Int32))) = 1 ∨ ((0 : Int32) + ((((p4.toUInt32 >>> ((8 : Int32) &&& 31).toUInt32).toInt32) &&& (255 : Int32)) % (5 : Int32))) = 2 ∨ ((0 : Int32) + ((((p4.toUInt32 >>> ((8 : Int32) &&& 31).toUInt32).toInt32) &&& (255 : Int32)) % (5 : Int32))) = 3 ∨ ((0 : Int32) + ((((p4.toUInt32 >>> ((8 : Int32) &&& 31).toUInt32).toInt32) &&& (255 : Int32)) % (5 : Int32))) = 4 := by
  generalize ((p4.toUInt32 >>> ((8 : Int32) &&& 31).toUInt32).toInt32) = q
  have m := c_mask q 255 8 (by decide) (by decide)
  have r := (c_irem (q &&& (255 : Int32)) 5 5 (by decide)).1 (by omega)
  have a := c_iadd (0 : Int32) ((q &&& (255 : Int32)) % (5 : Int32))
  have g := rng32 ((0 : Int32) + ((q &&& (255 : Int32)) % (5 : Int32)))
  have e : (0 : Int32).toInt = 0 := by decide
  simp only [← Int32.toInt_inj]
  show _ = (0 : Int) ∨ _ = (1 : Int) ∨ _ = (2 : Int) ∨ _ = (3 : Int) ∨ _ = (4 : Int)
  omega
theorem own_le0 (p4 : Int32) : ¬ ((4 : Int32) < ((0 : Int32) + ((((p4.toUInt32 >>> ((8 : Int32) &&& 31).toUInt32).toInt32) &&& (255 : Int32)) % (5 : Int32)))) := by
  have h := own_end0 p4
  generalize ((0 : Int32) + ((((p4.toUInt32 >>> ((8 : Int32) &&& 31).toUInt32).toInt32) &&& (255 : Int32)) % (5 : Int32))) = e at h
  rcases h with rfl | rfl | rfl | rfl | rfl <;> decide
theorem own_end1 (p4 : Int32) : ((1 : Int32) + ((((p4.toUInt32 >>> ((8 : Int32) &&& 31).toUInt32).toInt32) &&& (255 : Int32)) % (4 : Int32))) = 1 ∨ ((1 : Int32) + ((((p4.toUInt32 >>> ((8 : Int32) &&& 31).toUInt32).toInt32) &&& (255 : Int32)) % (4 : Int32))) = 2 ∨ ((1 : Int32) + ((((p4.toUInt32 >>> ((8 : Int32) &&& 31).toUInt32).toInt32) &&& (255 : Int32)) % (4 : Int32))) = 3 ∨ ((1 : Int32) + ((((p4.toUInt32 >>> ((8 : Int32) &&& 31).toUInt32).toInt32) &&& (255 : Int32)) % (4 : Int32))) = 4 := by
  generalize ((p4.toUInt32 >>> ((8 : Int32) &&& 31).toUInt32).toInt32) = q
  have m := c_mask q 255 8 (by decide) (by decide)
  have r := (c_irem (q &&& (255 : Int32)) 4 4 (by decide)).1 (by omega)
  have a := c_iadd (1 : Int32) ((q &&& (255 : Int32)) % (4 : Int32))
  have g := rng32 ((1 : Int32) + ((q &&& (255 : Int32)) % (4 : Int32)))
  have e : (1 : Int32).toInt = 1 := by decide
  simp only [← Int32.toInt_inj]
  show _ = (1 : Int) ∨ _ = (2 : Int) ∨ _ = (3 : Int) ∨ _ = (4 : Int)
  omega
theorem own_le1 (p4 : Int32) : ¬ ((4 : Int32) < ((1 : Int32) + ((((p4.toUInt32 >>> ((8 : Int32) &&& 31).toUInt32).toInt32) &&& (255 : Int32)) % (4 : Int32)))) := by
  have h := own_end1 p4
  generalize ((1 : Int32) + ((((p4.toUInt32 >>> ((8 : Int32) &&& 31).toUInt32).toInt32) &&& (255 : Int32)) % (4 : Int32))) = e at h
  rcases h with rfl | rfl | rfl | rfl <;> decide
theorem own_end2 (p4 : Int32) : ((2 : Int32) + ((((p4.toUInt32 >>> ((8 : Int32) &&& 31).toUInt32).toInt32) &&& (255 : Int32)) % (3 : Int32))) = 2 ∨ ((2 : Int32) + ((((p4.toUInt32 >>> ((8 : Int32) &&& 31).toUInt32).toInt32) &&& (255 : Int32)) % (3 : Int32))) = 3 ∨ ((2 : Int32) + ((((p4.toUInt32 >>> ((8 : Int32) &&& 31).toUInt32).toInt32) &&& (255 : Int32)) % (3 : Int32))) = 4 := by
  generalize ((p4.toUInt32 >>> ((8 : Int32) &&& 31).toUInt32).toInt32) = q
  have m := c_mask q 255 8 (by decide) (by decide)
  have r := (c_irem (q &&& (255 : Int32)) 3 3 (by decide)).1 (by omega)
  have a := c_iadd (2 : Int32) ((q &&& (255 : Int32)) % (3 : Int32))
  have g := rng32 ((2 : Int32) + ((q &&& (255 : Int32)) % (3 : Int32)))
  have e : (2 : Int32).toInt = 2 := by decide
  simp only [← Int32.toInt_inj]
  show _ = (2 : Int) ∨ _ = (3 : Int) ∨ _ = (4 : Int)
  omega
theorem own_le2 (p4 : Int32) : ¬ ((4 : Int32) < ((2 : Int32) + ((((p4.toUInt32 >>> ((8 : Int32) &&& 31).toUInt32).toInt32) &&& (255 : Int32)) % (3 : Int32)))) := by
  have h := own_end2 p4
  generalize ((2 : Int32) + ((((p4.toUInt32 >>> ((8 : Int32) &&& 31).toUInt32).toInt32) &&& (255 : Int32)) % (3 : Int32))) = e at h
  rcases h with rfl | rfl | rfl <;> decide
theorem own_end3 (p4 : Int32) : ((3 : Int32) + ((((p4.toUInt32 >>> ((8 : Int32) &&& 31).toUInt32).toInt32) &&& (255 : Int32)) % (2 : Int32))) = 3 ∨ ((3 : Int32) + ((((p4.toUInt32 >>> ((8 : Int32) &&& 31).toUInt32).toInt32) &&& (255 : Int32)) % (2 : Int32))) = 4 := by
  generalize ((p4.toUInt32 >>> ((8 : Int32) &&& 31).toUInt32).toInt32) = q
  have m := c_mask q 255 8 (by decide) (by decide)
  have r := (c_irem (q &&& (255 : Int32)) 2 2 (by decide)).1 (by omega)
  have a := c_iadd (3 : Int32) ((q &&& (255 : Int32)) % (2 : Int32))
  have g := rng32 ((3 : Int32) + ((q &&& (255 : Int32)) % (2 : Int32)))
  have e : (3 : Int32).toInt = 3 := by decide
  simp only [← Int32.toInt_inj]
  show _ = (3 : Int) ∨ _ = (4 : Int)
  omega
theorem own_le3 (p4 : Int32) : ¬ ((4 : Int32) < ((3 : Int32) + ((((p4.toUInt32 >>> ((8 : Int32) &&& 31).toUInt32).toInt32) &&& (255 : Int32)) % (2 : Int32)))) := by
  have h := own_end3 p4
  generalize ((3 : Int32) + ((((p4.toUInt32 >>> ((8 : Int32) &&& 31).toUInt32).toInt32) &&& (255 : Int32)) % (2 : Int32))) = e at h
  rcases h with rfl | rfl <;> decide
theorem own_end4 (p4 : Int32) : ((4 : Int32) + ((((p4.toUInt32 >>> ((8 : Int32) &&& 31).toUInt32).toInt32) &&& (255 : Int32)) % (1 : Int32))) = 4 := by
  generalize ((p4.toUInt32 >>> ((8 : Int32) &&& 31).toUInt32).toInt32) = q
  have m := c_mask q 255 8 (by decide) (by decide)
  have r := (c_irem (q &&& (255 : Int32)) 1 1 (by decide)).1 (by omega)
  have a := c_iadd (4 : Int32) ((q &&& (255 : Int32)) % (1 : Int32))
  have g := rng32 ((4 : Int32) + ((q &&& (255 : Int32)) % (1 : Int32)))
  have e : (4 : Int32).toInt = 4 := by decide
  simp only [← Int32.toInt_inj]
  show _ = (4 : Int)
  omega
theorem own_le4 (p4 : Int32) : ¬ ((4 : Int32) < ((4 : Int32) + ((((p4.toUInt32 >>> ((8 : Int32) &&& 31).toUInt32).toInt32) &&& (255 : Int32)) % (1 : Int32)))) := by
  have h := own_end4 p4
  generalize ((4 : Int32) + ((((p4.toUInt32 >>> ((8 : Int32) &&& 31).toUInt32).toInt32) &&& (255 : Int32)) % (1 : Int32))) = e at h
  rcases h with rfl <;> decide
theorem pd__I_B : parseMethodDescriptor "(I)B" = some ⟨[.int], some .byte⟩ := by decide +kernel
theorem pd__IIIB_Z : parseMethodDescriptor "(IIIB)Z" = some ⟨[.int, .int, .int, .byte], some .boolean⟩ := by decide +kernel
theorem pd___BII_Z : parseMethodDescriptor "([BII)Z" = some ⟨[(.array .byte), .int, .int], some .boolean⟩ := by decide +kernel
theorem ef_0 (p0 : Int32) (p1 : Int32) (p2 : Int32) (p3 : Int32) (p4 : Int32) (wc : Int32) (fv : Value) (m : MethodId) : entryFrame m #[(.int p0), (.int p1), (.int p2), (.int p3), (.int p4)] maxLocals = mkF m 0 #[.val (.int p0), .val (.int p1), .val (.int p2), .val (.int p3), .val (.int p4), .unset, .unset, .unset, .unset] [] := by first | (simp [entryFrame, mkF, argsToLocals, Value.category, maxLocals]; done) | rfl
def J0_78_S0 (p0 : Int32) (p1 : Int32) (p2 : Int32) (p3 : Int32) (p4 : Int32) (wc : Int32) (fv : Value) : Int32 := (if (F2 (0 : Int32) (0 : Int32) ((0 : Int32) + ((((p4.toUInt32 >>> ((8 : Int32) &&& 31).toUInt32).toInt32) &&& (255 : Int32)) % (5 : Int32))) ((F1 p0).toInt8.toInt32)) = (0 : Int32) then (0 : Int32) else (if (F2 (1 : Int32) (0 : Int32) ((0 : Int32) + ((((p4.toUInt32 >>> ((8 : Int32) &&& 31).toUInt32).toInt32) &&& (255 : Int32)) % (5 : Int32))) ((F1 p1).toInt8.toInt32)) = (0 : Int32) then (0 : Int32) else (if (F2 (2 : Int32) (0 : Int32) ((0 : Int32) + ((((p4.toUInt32 >>> ((8 : Int32) &&& 31).toUInt32).toInt32) &&& (255 : Int32)) % (5 : Int32))) ((F1 p2).toInt8.toInt32)) = (0 : Int32) then (0 : Int32) else (if (F2 (3 : Int32) (0 : Int32) ((0 : Int32) + ((((p4.toUInt32 >>> ((8 : Int32) &&& 31).toUInt32).toInt32) &&& (255 : Int32)) % (5 : Int32))) ((F1 p3).toInt8.toInt32)) = (0 : Int32) then (0 : Int32) else (1 : Int32)))))
def J0_78_S0_42 (p0 : Int32) (p1 : Int32) (p2 : Int32) (p3 : Int32) (p4 : Int32) (wc : Int32) (fv : Value) : Int32 := (if (F2 (0 : Int32) (1 : Int32) ((1 : Int32) + ((((p4.toUInt32 >>> ((8 : Int32) &&& 31).toUInt32).toInt32) &&& (255 : Int32)) % (4 : Int32))) ((F1 p0).toInt8.toInt32)) = (0 : Int32) then (0 : Int32) else (if (F2 (1 : Int32) (1 : Int32) ((1 : Int32) + ((((p4.toUInt32 >>> ((8 : Int32) &&& 31).toUInt32).toInt32) &&& (255 : Int32)) % (4 : Int32))) ((F1 p1).toInt8.toInt32)) = (0 : Int32) then (0 : Int32) else (if (F2 (2 : Int32) (1 : Int32) ((1 : Int32) + ((((p4.toUInt32 >>> ((8 : Int32) &&& 31).toUInt32).toInt32) &&& (255 : Int32)) % (4 : Int32))) ((F1 p2).toInt8.toInt32)) = (0 : Int32) then (0 : Int32) else (if (F2 (3 : Int32) (1 : Int32) ((1 : Int32) + ((((p4.toUInt32 >>> ((8 : Int32) &&& 31).toUInt32).toInt32) &&& (255 : Int32)) % (4 : Int32))) ((F1 p3).toInt8.toInt32)) = (0 : Int32) then (0 : Int32) else (1 : Int32)))))
def J0_78_S0_59 (p0 : Int32) (p1 : Int32) (p2 : Int32) (p3 : Int32) (p4 : Int32) (wc : Int32) (fv : Value) : Int32 := (if (F2 (0 : Int32) (2 : Int32) ((2 : Int32) + ((((p4.toUInt32 >>> ((8 : Int32) &&& 31).toUInt32).toInt32) &&& (255 : Int32)) % (3 : Int32))) ((F1 p0).toInt8.toInt32)) = (0 : Int32) then (0 : Int32) else (if (F2 (1 : Int32) (2 : Int32) ((2 : Int32) + ((((p4.toUInt32 >>> ((8 : Int32) &&& 31).toUInt32).toInt32) &&& (255 : Int32)) % (3 : Int32))) ((F1 p1).toInt8.toInt32)) = (0 : Int32) then (0 : Int32) else (if (F2 (2 : Int32) (2 : Int32) ((2 : Int32) + ((((p4.toUInt32 >>> ((8 : Int32) &&& 31).toUInt32).toInt32) &&& (255 : Int32)) % (3 : Int32))) ((F1 p2).toInt8.toInt32)) = (0 : Int32) then (0 : Int32) else (if (F2 (3 : Int32) (2 : Int32) ((2 : Int32) + ((((p4.toUInt32 >>> ((8 : Int32) &&& 31).toUInt32).toInt32) &&& (255 : Int32)) % (3 : Int32))) ((F1 p3).toInt8.toInt32)) = (0 : Int32) then (0 : Int32) else (1 : Int32)))))
def J0_78_S0_76 (p0 : Int32) (p1 : Int32) (p2 : Int32) (p3 : Int32) (p4 : Int32) (wc : Int32) (fv : Value) : Int32 := (if (F2 (0 : Int32) (3 : Int32) ((3 : Int32) + ((((p4.toUInt32 >>> ((8 : Int32) &&& 31).toUInt32).toInt32) &&& (255 : Int32)) % (2 : Int32))) ((F1 p0).toInt8.toInt32)) = (0 : Int32) then (0 : Int32) else (if (F2 (1 : Int32) (3 : Int32) ((3 : Int32) + ((((p4.toUInt32 >>> ((8 : Int32) &&& 31).toUInt32).toInt32) &&& (255 : Int32)) % (2 : Int32))) ((F1 p1).toInt8.toInt32)) = (0 : Int32) then (0 : Int32) else (if (F2 (2 : Int32) (3 : Int32) ((3 : Int32) + ((((p4.toUInt32 >>> ((8 : Int32) &&& 31).toUInt32).toInt32) &&& (255 : Int32)) % (2 : Int32))) ((F1 p2).toInt8.toInt32)) = (0 : Int32) then (0 : Int32) else (if (F2 (3 : Int32) (3 : Int32) ((3 : Int32) + ((((p4.toUInt32 >>> ((8 : Int32) &&& 31).toUInt32).toInt32) &&& (255 : Int32)) % (2 : Int32))) ((F1 p3).toInt8.toInt32)) = (0 : Int32) then (0 : Int32) else (1 : Int32)))))
def J0_78_S0_93 (p0 : Int32) (p1 : Int32) (p2 : Int32) (p3 : Int32) (p4 : Int32) (wc : Int32) (fv : Value) : Int32 := (if (F2 (0 : Int32) (4 : Int32) ((4 : Int32) + ((((p4.toUInt32 >>> ((8 : Int32) &&& 31).toUInt32).toInt32) &&& (255 : Int32)) % (1 : Int32))) ((F1 p0).toInt8.toInt32)) = (0 : Int32) then (0 : Int32) else (if (F2 (1 : Int32) (4 : Int32) ((4 : Int32) + ((((p4.toUInt32 >>> ((8 : Int32) &&& 31).toUInt32).toInt32) &&& (255 : Int32)) % (1 : Int32))) ((F1 p1).toInt8.toInt32)) = (0 : Int32) then (0 : Int32) else (if (F2 (2 : Int32) (4 : Int32) ((4 : Int32) + ((((p4.toUInt32 >>> ((8 : Int32) &&& 31).toUInt32).toInt32) &&& (255 : Int32)) % (1 : Int32))) ((F1 p2).toInt8.toInt32)) = (0 : Int32) then (0 : Int32) else (if (F2 (3 : Int32) (4 : Int32) ((4 : Int32) + ((((p4.toUInt32 >>> ((8 : Int32) &&& 31).toUInt32).toInt32) &&& (255 : Int32)) % (1 : Int32))) ((F1 p3).toInt8.toInt32)) = (0 : Int32) then (0 : Int32) else (1 : Int32)))))
def F0 (p0 : Int32) (p1 : Int32) (p2 : Int32) (p3 : Int32) (p4 : Int32) (wc : Int32) (fv : Value) : Int32 := (if (A0_45 p0 p1 p2 p3 p4 wc fv) = (0 : Int32) then (if (F3s0 ((0 : Int32) + ((((p4.toUInt32 >>> ((8 : Int32) &&& 31).toUInt32).toInt32) &&& (255 : Int32)) % (5 : Int32))) ((F1 p0).toInt8.toInt32) ((F1 p1).toInt8.toInt32) ((F1 p2).toInt8.toInt32) ((F1 p3).toInt8.toInt32)) = (J0_78_S0 p0 p1 p2 p3 p4 wc fv) then (1 : Int32) else (0 : Int32)) else (if (A0_45 p0 p1 p2 p3 p4 wc fv) = (1 : Int32) then (if (F3s1 ((1 : Int32) + ((((p4.toUInt32 >>> ((8 : Int32) &&& 31).toUInt32).toInt32) &&& (255 : Int32)) % (4 : Int32))) ((F1 p0).toInt8.toInt32) ((F1 p1).toInt8.toInt32) ((F1 p2).toInt8.toInt32) ((F1 p3).toInt8.toInt32)) = (J0_78_S0_42 p0 p1 p2 p3 p4 wc fv) then (1 : Int32) else (0 : Int32)) else (if (A0_45 p0 p1 p2 p3 p4 wc fv) = (2 : Int32) then (if (F3s2 ((2 : Int32) + ((((p4.toUInt32 >>> ((8 : Int32) &&& 31).toUInt32).toInt32) &&& (255 : Int32)) % (3 : Int32))) ((F1 p0).toInt8.toInt32) ((F1 p1).toInt8.toInt32) ((F1 p2).toInt8.toInt32) ((F1 p3).toInt8.toInt32)) = (J0_78_S0_59 p0 p1 p2 p3 p4 wc fv) then (1 : Int32) else (0 : Int32)) else (if (A0_45 p0 p1 p2 p3 p4 wc fv) = (3 : Int32) then (if (F3s3 ((3 : Int32) + ((((p4.toUInt32 >>> ((8 : Int32) &&& 31).toUInt32).toInt32) &&& (255 : Int32)) % (2 : Int32))) ((F1 p0).toInt8.toInt32) ((F1 p1).toInt8.toInt32) ((F1 p2).toInt8.toInt32) ((F1 p3).toInt8.toInt32)) = (J0_78_S0_76 p0 p1 p2 p3 p4 wc fv) then (1 : Int32) else (0 : Int32)) else (if (F3s4 ((4 : Int32) + ((((p4.toUInt32 >>> ((8 : Int32) &&& 31).toUInt32).toInt32) &&& (255 : Int32)) % (1 : Int32))) ((F1 p0).toInt8.toInt32) ((F1 p1).toInt8.toInt32) ((F1 p2).toInt8.toInt32) ((F1 p3).toInt8.toInt32)) = (J0_78_S0_93 p0 p1 p2 p3 p4 wc fv) then (1 : Int32) else (0 : Int32))))))
def Q0 (Z : State) (p0 : Int32) (p1 : Int32) (p2 : Int32) (p3 : Int32) (p4 : Int32) (wc : Int32) (fv : Value) (h0 : Heap) (n0 : Nat) (v : Option Value) (h : Heap) (L : List Loc) : Prop := v = some (.int (F0 p0 p1 p2 p3 p4 wc fv)) ∧ Fr n0 L
set_option maxRecDepth 65536 in
set_option maxHeartbeats 40000000 in
theorem rm0 (l : Launch) (Z : State) (a0 : Array Value) (hw : ∀ d ∈ tables_1, d.before a0 Z = true) (ws : List Jvm.Cond) (p0 : Int32) (p1 : Int32) (p2 : Int32) (p3 : Int32) (p4 : Int32) (wc : Int32) (fv : Value) (h0 : Heap) (n0 : Nat) (Z0 : n0 ≤ h0.size) (S_c : Sta Z h0 "java/lang/String" "COMPACT_STRINGS" "Z" (.int wc)) (hwc : ¬ (wc = (0 : Int32))) (S_o : Sta Z h0 "jdk/internal/util/Preconditions" "SIOOBE_FORMATTER" "Ljava/util/function/BiFunction;" fv) (h_fv : fv.isRef = true) :
    MetFree l x (head1 (Jvm.Cond.code x code maxLocals ret :: ws) room_1) (fun a U => a = #[(.int p0), (.int p1), (.int p2), (.int p3), (.int p4)] ∧ Z.Warmed39 U.vm ∧ U.heap = h0 ∧ CHv Z ELs U.vm h0) (fun _ _ _ _ _ => True) (fun _ U o U' => ∃ v L, o = .returned v ∧ Q0 Z p0 p1 p2 p3 p4 wc fv h0 n0 v U'.heap L ∧ CHr Z ELs U.vm U.heap U'.vm U'.heap ∧ ReturnedEndW U o U' L room_1.cells room_1.slots) := by
  refine MetFree.of_bodySF (plainFor_of_name pn_com_example_standbye_standbye_TextInputIsNamePinLaw) hisR ?_
  intro p e s m args below meth c s₁ Bd hml0 hP hK
  obtain ⟨rfl, hZ, hh, hCH0⟩ := hP
  have hx := Bd.exec
  have hby := Bd.bytes
  have hml : c.maxLocals = 9 := hml0
  have hown : s.vm.findClass "com/example/standbye/standbye/TextInputIsNamePinLaw" = some m.cls := findClass_of_methodNamed Bd.named
  have hnm := (name_of_methodNamed Bd.named Bd.method).1
  have X0 : Stand p l e room_1 (s.setVm s.vm) m #[(.int p0), (.int p1), (.int p2), (.int p3), (.int p4)] below meth c s₁ [] 0 0 := Stand.of_body Bd
  have e0 : s₁.heap = h0 := by rw [← hh, Bd.state]; rfl
  have N0 := Fr.nil n0
  have pre0 : ∀ t, Steps p.tables e below (s₁.setTop (mkF m 0 #[.val (.int p0), .val (.int p1), .val (.int p2), .val (.int p3), .val (.int p4), .unset, .unset, .unset, .unset] [])) t → Steps p.tables e below (s₁.setTop (entryFrame m #[(.int p0), (.int p1), (.int p2), (.int p3), (.int p4)] maxLocals)) t := fun t k => castTop (ef_0 p0 p1 p2 p3 p4 wc fv m) k
  have hS0 : s.Since s.vm 0 := (State.WarmedH.refl s).since 0
  have hk0 : 0 ≤ h0.size := Nat.zero_le _
  have CR0 : CHr Z ELs s.vm h0 s.vm h0 := CHr.refl hCH0
  have hEL : EW Z a0 ELs := own_EW hw
  have own_wS := own_strW hw
  obtain ⟨T1, h1, k1, X1, e1, E1, A1, st1⟩ := newP X0 hx hZ (hw _ (List.mem_of_getElem? (i := 0) rfl)) e0 (g := (mkF m 1 #[.val (.int p0), .val (.int p1), .val (.int p2), .val (.int p3), .val (.int p4), .unset, .unset, .unset, .unset] [(.int (4 : Int32))])) rfl (hb hby at_1) rfl (by decide) (cap := 4) (by decide) (by decide) (by decide) (by decide)
  obtain ⟨b1, g1⟩ : ∃ z, z = h0.size := ⟨_, rfl⟩
  rw [← g1] at A1 st1
  have g_b1 : n0 ≤ b1 := Nat.le_trans Z0 (Nat.le_of_eq g1.symm)
  have sz_b1 : h0.size ≤ b1 := Nat.le_trans (Keep.refl h0 []).1 (Nat.le_of_eq g1.symm)
  have sf_b1 : Safe Z ELs s.vm h0 b1 := Safe.new (Nat.le_of_eq g1.symm)
  have V_b1 : Arv Z h1 b1 k1 .byte (4 : Int32) [(.int (0 : Int32)), (.int (0 : Int32)), (.int (0 : Int32)), (.int (0 : Int32))] (.int (0 : Int32)) := (Arv.new A1 (by decide)).pad (pad_rep [] (.int (0 : Int32)) 4)
  have CR1 : CHr Z ELs s.vm h0 s.vm h1 := CHr.trans CR0 (CHr.ext E1 CR0.1)
  have sf_b1 := Safe.ext E1 CR0.1 sf_b1
  have K1 : Keep h0 h1 [] := (Keep.refl h0 []).ext E1
  obtain ⟨_, _, ⟨T2, L2, k2, n2⟩, -, X2, sn2, gs2, ⟨Lc2, hQ2, ll2, ly2, lz2, CQ2⟩, st2⟩ := callSS X1 hx (y := (⟨"com/example/standbye/standbye/TextInputIsNamePinLaw", "pick", "(I)B"⟩ : MethodName)) hown (mvT hZ (hw _ (List.mem_of_getElem? (i := 1) rfl))) (mvT hZ (hw _ (List.mem_of_getElem? (i := 2) rfl))) (mvT hZ (hw _ (List.mem_of_getElem? (i := 3) rfl))) (mvT hZ (hw _ (List.mem_of_getElem? (i := 4) rfl))) (by decide) (backOfSH (EL := ELs) (W := 2) (rm1 l Z a0 hw [] p0 wc fv h1 n0 (Nat.le_trans Z0 E1.1) (Sta.ext E1 S_c) hwc (Sta.ext E1 S_o) h_fv) hZ (hw _ (List.mem_of_getElem? (i := 4) rfl)) (hw _ (List.mem_of_getElem? (i := 3) rfl)) (by decide) (by decide) hEL CR1.1) (g := (mkF m 9 #[.val (.int p0), .val (.int p1), .val (.int p2), .val (.int p3), .val (.int p4), .val (.ref b1), .unset, .unset, .unset] [(.int p0), (.int (0 : Int32)), (.ref b1)])) rfl (by rw [hml]; rfl) (argsL := [(.int p0)]) (rest := [(.int (0 : Int32)), (.ref b1)]) (lenOf pd__I_B rfl) rfl (by show 2 * 0 + _ ≤ _; exact Nat.le_of_eq rfl) (hb hby at_9) (fun _ _ => ⟨rfl, e1, (by decide : 1 + 2 ≤ _), (by decide : 4 + 152 ≤ _)⟩)
  dsimp only [Pt.U, Pt.locs, Pt.cells, Pt.slots] at X2 ll2 ly2 lz2 st2 hQ2 sn2 gs2 CQ2
  subst ll2 ly2 lz2
  have X2' : Stand p l e room_1 (s.setVm T2.vm) m #[(.int p0), (.int p1), (.int p2), (.int p3), (.int p4)] below meth c T2 _ _ _ := X2
  have hS2 := foldS hS0 (by rw [e1]; exact (Nat.le_trans hk0 E1.1)) sn2 gs2
  have hZ2 : Z.Warmed39 T2.vm := State.Warmed39.trans (t := (s.setVm s.vm)) hZ sn2.1
  have hown2 : T2.vm.findClass "com/example/standbye/standbye/TextInputIsNamePinLaw" = some m.cls := by rw [sn2.1.alike.findClass]; exact hown
  have CR2 := CHr.trans CR1 CQ2
  have sf_b1 := CHr.safe CQ2 V_b1.lt sf_b1
  obtain ⟨rfl, N2q, K2c⟩ := hQ2
  have N2 := Fr.app N0 N2q
  have K2 : Keep h0 T2.heap [] := K1.trans K2c all0
  obtain ⟨cl3, Ar3, qa3, S3, Nl3, H3, G3⟩ := id (V_b1.keep K2c nin0)
  have hin3 : ¬ ((0 : Int32) < 0 ∨ cl3.slots.size ≤ ((0 : Int32)).toNatClampNeg) := inb_of S3 ⟨by decide, by decide⟩
  obtain ⟨T3, h3, X3, e3, W3, st3⟩ := stB X2' hx hZ2 (rfl : T2.heap = T2.heap) Ar3 (j := (0 : Int32)) hin3 (g := (mkF m 12 #[.val (.int p0), .val (.int p1), .val (.int p2), .val (.int p3), .val (.int p4), .val (.ref b1), .unset, .unset, .unset] [(.int (F1 p0)), (.int (0 : Int32)), (.ref b1)])) rfl rfl (hb hby at_12)
  have V3 : Arv Z h3 b1 k1 .byte (4 : Int32) [(.int ((F1 p0).toInt8.toInt32)), (.int (0 : Int32)), (.int (0 : Int32)), (.int (0 : Int32))] (.int (0 : Int32)) := Arv.set Ar3 qa3 S3 Nl3 H3 G3 (fits_nar_byte _) W3 0 rfl (Nat.le_of_ble_eq_true rfl)
  have CR3 : CHr Z ELs s.vm h0 T2.vm h3 := CHr.trans CR2 (CHr.wr W3 sf_b1 CR2.1)
  have sf_b1 := Safe.wr W3 sf_b1 CR2.1 sf_b1
  have K3 : Keep h0 h3 [] := K2.wr W3 (Or.inr sz_b1)
  have N3 := Fr.snoc X3 N2 g_b1
  obtain ⟨_, _, ⟨T4, L4, k4, n4⟩, -, X4, sn4, gs4, ⟨Lc4, hQ4, ll4, ly4, lz4, CQ4⟩, st4⟩ := callSS X3 hx (y := (⟨"com/example/standbye/standbye/TextInputIsNamePinLaw", "pick", "(I)B"⟩ : MethodName)) hown2 (mvT hZ2 (hw _ (List.mem_of_getElem? (i := 1) rfl))) (mvT hZ2 (hw _ (List.mem_of_getElem? (i := 2) rfl))) (mvT hZ2 (hw _ (List.mem_of_getElem? (i := 3) rfl))) (mvT hZ2 (hw _ (List.mem_of_getElem? (i := 4) rfl))) (by decide) (backOfSH (EL := ELs) (W := 2) (rm1 l Z a0 hw [] p1 wc fv h3 n0 (Nat.le_trans (Nat.le_trans (Nat.le_trans Z0 E1.1) K2c.1) (Keep.of_wr W3).1) (Sta.wr W3 (own_staK (Sta.ext E1 S_c) K2c all0)) hwc (Sta.wr W3 (own_staK (Sta.ext E1 S_o) K2c all0)) h_fv) hZ2 (hw _ (List.mem_of_getElem? (i := 4) rfl)) (hw _ (List.mem_of_getElem? (i := 3) rfl)) (by decide) (by decide) hEL CR3.1) (g := (mkF m 17 #[.val (.int p0), .val (.int p1), .val (.int p2), .val (.int p3), .val (.int p4), .val (.ref b1), .unset, .unset, .unset] [(.int p1), (.int (1 : Int32)), (.ref b1)])) rfl (by rw [hml]; rfl) (argsL := [(.int p1)]) (rest := [(.int (1 : Int32)), (.ref b1)]) (lenOf pd__I_B rfl) rfl (by show 2 * 0 + _ ≤ _; exact Nat.le_of_eq rfl) (hb hby at_17) (fun _ _ => ⟨rfl, e3, (by decide : 3 + 2 ≤ _), (by decide : 156 + 152 ≤ _)⟩)
  dsimp only [Pt.U, Pt.locs, Pt.cells, Pt.slots] at X4 ll4 ly4 lz4 st4 hQ4 sn4 gs4 CQ4
  subst ll4 ly4 lz4
  have X4' : Stand p l e room_1 (s.setVm T4.vm) m #[(.int p0), (.int p1), (.int p2), (.int p3), (.int p4)] below meth c T4 _ _ _ := X4
  have hS4 := foldS hS2 (by rw [e3]; exact (Nat.le_trans (Nat.le_refl T2.heap.size) (Keep.of_wr W3).1)) sn4 gs4
  have hZ4 : Z.Warmed39 T4.vm := State.Warmed39.trans (t := (s.setVm T2.vm)) hZ2 sn4.1
  have hown4 : T4.vm.findClass "com/example/standbye/standbye/TextInputIsNamePinLaw" = some m.cls := by rw [sn4.1.alike.findClass]; exact hown2
  have CR4 := CHr.trans CR3 CQ4
  have sf_b1 := CHr.safe CQ4 V3.lt sf_b1
  obtain ⟨rfl, N4q, K4c⟩ := hQ4
  have N4 := Fr.app N3 N4q
  have K4 : Keep h0 T4.heap [] := K3.trans K4c all0
  obtain ⟨cl5, Ar5, qa5, S5, Nl5, H5, G5⟩ := id (V3.keep K4c nin0)
  have hin5 : ¬ ((1 : Int32) < 0 ∨ cl5.slots.size ≤ ((1 : Int32)).toNatClampNeg) := inb_of S5 ⟨by decide, by decide⟩
  obtain ⟨T5, h5, X5, e5, W5, st5⟩ := stB X4' hx hZ4 (rfl : T4.heap = T4.heap) Ar5 (j := (1 : Int32)) hin5 (g := (mkF m 20 #[.val (.int p0), .val (.int p1), .val (.int p2), .val (.int p3), .val (.int p4), .val (.ref b1), .unset, .unset, .unset] [(.int (F1 p1)), (.int (1 : Int32)), (.ref b1)])) rfl rfl (hb hby at_20)
  have V5 : Arv Z h5 b1 k1 .byte (4 : Int32) [(.int ((F1 p0).toInt8.toInt32)), (.int ((F1 p1).toInt8.toInt32)), (.int (0 : Int32)), (.int (0 : Int32))] (.int (0 : Int32)) := Arv.set Ar5 qa5 S5 Nl5 H5 G5 (fits_nar_byte _) W5 1 rfl (Nat.le_of_ble_eq_true rfl)
  have CR5 : CHr Z ELs s.vm h0 T4.vm h5 := CHr.trans CR4 (CHr.wr W5 sf_b1 CR4.1)
  have sf_b1 := Safe.wr W5 sf_b1 CR4.1 sf_b1
  have K5 : Keep h0 h5 [] := K4.wr W5 (Or.inr sz_b1)
  have N5 := Fr.snoc X5 N4 g_b1
  obtain ⟨_, _, ⟨T6, L6, k6, n6⟩, -, X6, sn6, gs6, ⟨Lc6, hQ6, ll6, ly6, lz6, CQ6⟩, st6⟩ := callSS X5 hx (y := (⟨"com/example/standbye/standbye/TextInputIsNamePinLaw", "pick", "(I)B"⟩ : MethodName)) hown4 (mvT hZ4 (hw _ (List.mem_of_getElem? (i := 1) rfl))) (mvT hZ4 (hw _ (List.mem_of_getElem? (i := 2) rfl))) (mvT hZ4 (hw _ (List.mem_of_getElem? (i := 3) rfl))) (mvT hZ4 (hw _ (List.mem_of_getElem? (i := 4) rfl))) (by decide) (backOfSH (EL := ELs) (W := 2) (rm1 l Z a0 hw [] p2 wc fv h5 n0 (Nat.le_trans (Nat.le_trans (Nat.le_trans (Nat.le_trans (Nat.le_trans Z0 E1.1) K2c.1) (Keep.of_wr W3).1) K4c.1) (Keep.of_wr W5).1) (Sta.wr W5 (own_staK (Sta.wr W3 (own_staK (Sta.ext E1 S_c) K2c all0)) K4c all0)) hwc (Sta.wr W5 (own_staK (Sta.wr W3 (own_staK (Sta.ext E1 S_o) K2c all0)) K4c all0)) h_fv) hZ4 (hw _ (List.mem_of_getElem? (i := 4) rfl)) (hw _ (List.mem_of_getElem? (i := 3) rfl)) (by decide) (by decide) hEL CR5.1) (g := (mkF m 25 #[.val (.int p0), .val (.int p1), .val (.int p2), .val (.int p3), .val (.int p4), .val (.ref b1), .unset, .unset, .unset] [(.int p2), (.int (2 : Int32)), (.ref b1)])) rfl (by rw [hml]; rfl) (argsL := [(.int p2)]) (rest := [(.int (2 : Int32)), (.ref b1)]) (lenOf pd__I_B rfl) rfl (by show 2 * 0 + _ ≤ _; exact Nat.le_of_eq rfl) (hb hby at_25) (fun _ _ => ⟨rfl, e5, (by decide : 5 + 2 ≤ _), (by decide : 308 + 152 ≤ _)⟩)
  dsimp only [Pt.U, Pt.locs, Pt.cells, Pt.slots] at X6 ll6 ly6 lz6 st6 hQ6 sn6 gs6 CQ6
  subst ll6 ly6 lz6
  have X6' : Stand p l e room_1 (s.setVm T6.vm) m #[(.int p0), (.int p1), (.int p2), (.int p3), (.int p4)] below meth c T6 _ _ _ := X6
  have hS6 := foldS hS4 (by rw [e5]; exact (Nat.le_trans (Nat.le_refl T4.heap.size) (Keep.of_wr W5).1)) sn6 gs6
  have hZ6 : Z.Warmed39 T6.vm := State.Warmed39.trans (t := (s.setVm T4.vm)) hZ4 sn6.1
  have hown6 : T6.vm.findClass "com/example/standbye/standbye/TextInputIsNamePinLaw" = some m.cls := by rw [sn6.1.alike.findClass]; exact hown4
  have CR6 := CHr.trans CR5 CQ6
  have sf_b1 := CHr.safe CQ6 V5.lt sf_b1
  obtain ⟨rfl, N6q, K6c⟩ := hQ6
  have N6 := Fr.app N5 N6q
  have K6 : Keep h0 T6.heap [] := K5.trans K6c all0
  obtain ⟨cl7, Ar7, qa7, S7, Nl7, H7, G7⟩ := id (V5.keep K6c nin0)
  have hin7 : ¬ ((2 : Int32) < 0 ∨ cl7.slots.size ≤ ((2 : Int32)).toNatClampNeg) := inb_of S7 ⟨by decide, by decide⟩
  obtain ⟨T7, h7, X7, e7, W7, st7⟩ := stB X6' hx hZ6 (rfl : T6.heap = T6.heap) Ar7 (j := (2 : Int32)) hin7 (g := (mkF m 28 #[.val (.int p0), .val (.int p1), .val (.int p2), .val (.int p3), .val (.int p4), .val (.ref b1), .unset, .unset, .unset] [(.int (F1 p2)), (.int (2 : Int32)), (.ref b1)])) rfl rfl (hb hby at_28)
  have V7 : Arv Z h7 b1 k1 .byte (4 : Int32) [(.int ((F1 p0).toInt8.toInt32)), (.int ((F1 p1).toInt8.toInt32)), (.int ((F1 p2).toInt8.toInt32)), (.int (0 : Int32))] (.int (0 : Int32)) := Arv.set Ar7 qa7 S7 Nl7 H7 G7 (fits_nar_byte _) W7 2 rfl (Nat.le_of_ble_eq_true rfl)
  have CR7 : CHr Z ELs s.vm h0 T6.vm h7 := CHr.trans CR6 (CHr.wr W7 sf_b1 CR6.1)
  have sf_b1 := Safe.wr W7 sf_b1 CR6.1 sf_b1
  have K7 : Keep h0 h7 [] := K6.wr W7 (Or.inr sz_b1)
  have N7 := Fr.snoc X7 N6 g_b1
  obtain ⟨_, _, ⟨T8, L8, k8, n8⟩, -, X8, sn8, gs8, ⟨Lc8, hQ8, ll8, ly8, lz8, CQ8⟩, st8⟩ := callSS X7 hx (y := (⟨"com/example/standbye/standbye/TextInputIsNamePinLaw", "pick", "(I)B"⟩ : MethodName)) hown6 (mvT hZ6 (hw _ (List.mem_of_getElem? (i := 1) rfl))) (mvT hZ6 (hw _ (List.mem_of_getElem? (i := 2) rfl))) (mvT hZ6 (hw _ (List.mem_of_getElem? (i := 3) rfl))) (mvT hZ6 (hw _ (List.mem_of_getElem? (i := 4) rfl))) (by decide) (backOfSH (EL := ELs) (W := 2) (rm1 l Z a0 hw [] p3 wc fv h7 n0 (Nat.le_trans (Nat.le_trans (Nat.le_trans (Nat.le_trans (Nat.le_trans (Nat.le_trans (Nat.le_trans Z0 E1.1) K2c.1) (Keep.of_wr W3).1) K4c.1) (Keep.of_wr W5).1) K6c.1) (Keep.of_wr W7).1) (Sta.wr W7 (own_staK (Sta.wr W5 (own_staK (Sta.wr W3 (own_staK (Sta.ext E1 S_c) K2c all0)) K4c all0)) K6c all0)) hwc (Sta.wr W7 (own_staK (Sta.wr W5 (own_staK (Sta.wr W3 (own_staK (Sta.ext E1 S_o) K2c all0)) K4c all0)) K6c all0)) h_fv) hZ6 (hw _ (List.mem_of_getElem? (i := 4) rfl)) (hw _ (List.mem_of_getElem? (i := 3) rfl)) (by decide) (by decide) hEL CR7.1) (g := (mkF m 33 #[.val (.int p0), .val (.int p1), .val (.int p2), .val (.int p3), .val (.int p4), .val (.ref b1), .unset, .unset, .unset] [(.int p3), (.int (3 : Int32)), (.ref b1)])) rfl (by rw [hml]; rfl) (argsL := [(.int p3)]) (rest := [(.int (3 : Int32)), (.ref b1)]) (lenOf pd__I_B rfl) rfl (by show 2 * 0 + _ ≤ _; exact Nat.le_of_eq rfl) (hb hby at_33) (fun _ _ => ⟨rfl, e7, (by decide : 7 + 2 ≤ _), (by decide : 460 + 152 ≤ _)⟩)
  dsimp only [Pt.U, Pt.locs, Pt.cells, Pt.slots] at X8 ll8 ly8 lz8 st8 hQ8 sn8 gs8 CQ8
  subst ll8 ly8 lz8
  have X8' : Stand p l e room_1 (s.setVm T8.vm) m #[(.int p0), (.int p1), (.int p2), (.int p3), (.int p4)] below meth c T8 _ _ _ := X8
  have hS8 := foldS hS6 (by rw [e7]; exact (Nat.le_trans (Nat.le_refl T6.heap.size) (Keep.of_wr W7).1)) sn8 gs8
  have hZ8 : Z.Warmed39 T8.vm := State.Warmed39.trans (t := (s.setVm T6.vm)) hZ6 sn8.1
  have hown8 : T8.vm.findClass "com/example/standbye/standbye/TextInputIsNamePinLaw" = some m.cls := by rw [sn8.1.alike.findClass]; exact hown6
  have CR8 := CHr.trans CR7 CQ8
  have sf_b1 := CHr.safe CQ8 V7.lt sf_b1
  obtain ⟨rfl, N8q, K8c⟩ := hQ8
  have N8 := Fr.app N7 N8q
  have K8 : Keep h0 T8.heap [] := K7.trans K8c all0
  obtain ⟨cl9, Ar9, qa9, S9, Nl9, H9, G9⟩ := id (V7.keep K8c nin0)
  have hin9 : ¬ ((3 : Int32) < 0 ∨ cl9.slots.size ≤ ((3 : Int32)).toNatClampNeg) := inb_of S9 ⟨by decide, by decide⟩
  obtain ⟨T9, h9, X9, e9, W9, st9⟩ := stB X8' hx hZ8 (rfl : T8.heap = T8.heap) Ar9 (j := (3 : Int32)) hin9 (g := (mkF m 36 #[.val (.int p0), .val (.int p1), .val (.int p2), .val (.int p3), .val (.int p4), .val (.ref b1), .unset, .unset, .unset] [(.int (F1 p3)), (.int (3 : Int32)), (.ref b1)])) rfl rfl (hb hby at_36)
  have V9 : Arv Z h9 b1 k1 .byte (4 : Int32) [(.int ((F1 p0).toInt8.toInt32)), (.int ((F1 p1).toInt8.toInt32)), (.int ((F1 p2).toInt8.toInt32)), (.int ((F1 p3).toInt8.toInt32))] (.int (0 : Int32)) := Arv.set Ar9 qa9 S9 Nl9 H9 G9 (fits_nar_byte _) W9 3 rfl (Nat.le_of_ble_eq_true rfl)
  have CR9 : CHr Z ELs s.vm h0 T8.vm h9 := CHr.trans CR8 (CHr.wr W9 sf_b1 CR8.1)
  have sf_b1 := Safe.wr W9 sf_b1 CR8.1 sf_b1
  have K9 : Keep h0 h9 [] := K8.wr W9 (Or.inr sz_b1)
  have N9 := Fr.snoc X9 N8 g_b1
  have pre10 : ∀ t, Steps p.tables e below (T9.setTop (mkF m 47 #[.val (.int p0), .val (.int p1), .val (.int p2), .val (.int p3), .val (.int p4), .val (.ref b1), .val (.int (A0_45 p0 p1 p2 p3 p4 wc fv)), .unset, .unset] [])) t → Steps p.tables e below (s₁.setTop (entryFrame m #[(.int p0), (.int p1), (.int p2), (.int p3), (.int p4)] maxLocals)) t := fun t kt => pre0 t (by
    show Steps p.tables e below (s₁.setTop (mkF m 0 #[.val (.int p0), .val (.int p1), .val (.int p2), .val (.int p3), .val (.int p4), .unset, .unset, .unset, .unset] [])) _
    refine XS.iconst X0.here hx rfl (hb hby at_0) ?_
    refine st1 _ ?_
    refine XS.astore X1.here hx rfl (hb hby at_3) rfl rfl (l' := #[.val (.int p0), .val (.int p1), .val (.int p2), .val (.int p3), .val (.int p4), .val (.ref b1), .unset, .unset, .unset]) rfl ?_
    refine XS.aload X1.here hx rfl (hb hby at_5) rfl rfl ?_
    refine XS.iconst X1.here hx rfl (hb hby at_7) ?_
    refine XS.iloadN X1.here hx rfl (hb hby at_8) rfl ?_
    refine st2.trans ?_
    refine st3 _ ?_
    show Steps p.tables e below (T3.setTop (mkF m 13 #[.val (.int p0), .val (.int p1), .val (.int p2), .val (.int p3), .val (.int p4), .val (.ref b1), .unset, .unset, .unset] [])) _
    refine XS.aload X3.here hx rfl (hb hby at_13) rfl rfl ?_
    refine XS.iconst X3.here hx rfl (hb hby at_15) ?_
    refine XS.iloadN X3.here hx rfl (hb hby at_16) rfl ?_
    refine st4.trans ?_
    refine st5 _ ?_
    refine XS.aload X5.here hx rfl (hb hby at_21) rfl rfl ?_
    refine XS.iconst X5.here hx rfl (hb hby at_23) ?_
    refine XS.iloadN X5.here hx rfl (hb hby at_24) rfl ?_
    show Steps p.tables e below (T5.setTop (mkF m 25 #[.val (.int p0), .val (.int p1), .val (.int p2), .val (.int p3), .val (.int p4), .val (.ref b1), .unset, .unset, .unset] [(.int p2), (.int (2 : Int32)), (.ref b1)])) _
    refine st6.trans ?_
    refine st7 _ ?_
    refine XS.aload X7.here hx rfl (hb hby at_29) rfl rfl ?_
    refine XS.iconst X7.here hx rfl (hb hby at_31) ?_
    refine XS.iloadN X7.here hx rfl (hb hby at_32) rfl ?_
    refine st8.trans ?_
    refine st9 _ ?_
    refine XS.iload X9.here hx rfl (hb hby at_37) rfl ?_
    show Steps p.tables e below (T9.setTop (mkF m 39 #[.val (.int p0), .val (.int p1), .val (.int p2), .val (.int p3), .val (.int p4), .val (.ref b1), .unset, .unset, .unset] [(.int p4)])) _
    refine XS.sipush X9.here hx rfl (hb hby at_39) ?_
    refine XS.iand X9.here hx rfl (hb hby at_42) rfl ?_
    refine XS.iconst X9.here hx rfl (hb hby at_43) ?_
    refine iremM X9 hx rfl (hb hby at_44) rfl (by decide) ?_
    refine XS.istore X9.here hx rfl (hb hby at_45) rfl (l' := #[.val (.int p0), .val (.int p1), .val (.int p2), .val (.int p3), .val (.int p4), .val (.ref b1), .val (.int ((p4 &&& (255 : Int32)) % (5 : Int32))), .unset, .unset]) rfl ?_
    exact kt)
  by_cases hs0 : (A0_45 p0 p1 p2 p3 p4 wc fv) = (0 : Int32)
  · have qr11 : (A0_45 p0 p1 p2 p3 p4 wc fv) = (0 : Int32) := hs0
    have pre12 : ∀ t, Steps p.tables e below (T9.setTop (mkF m 47 #[.val (.int p0), .val (.int p1), .val (.int p2), .val (.int p3), .val (.int p4), .val (.ref b1), .val (.int (0 : Int32)), .unset, .unset] [])) t → Steps p.tables e below (s₁.setTop (entryFrame m #[(.int p0), (.int p1), (.int p2), (.int p3), (.int p4)] maxLocals)) t := fun t kt => pre10 t (by rw [qr11]; exact kt)
    obtain ⟨cl13, Ar13, qa13, S13, Nl13, H13, G13⟩ := id V9
    have hin13 : ¬ ((0 : Int32) < 0 ∨ cl13.slots.size ≤ ((0 : Int32)).toNatClampNeg) := inb_of S13 ⟨by decide, by decide⟩
    have hat13 : cl13.slots[((0 : Int32)).toNatClampNeg]? = some (.int ((F1 p0).toInt8.toInt32)) := Has.at H13 hin13 rfl
    obtain ⟨_, _, ⟨T14, L14, k14, n14⟩, -, X14, ⟨Lc14, hQ14, ll14, ly14, lz14⟩, st14⟩ := Jvm.LawKit.callS X9 hx (y := (⟨"com/example/standbye/standbye/TextInputIsNamePinLaw", "fine", "(IIIB)Z"⟩ : MethodName)) hown8 (mvT hZ8 (hw _ (List.mem_of_getElem? (i := 5) rfl))) (mvT hZ8 (hw _ (List.mem_of_getElem? (i := 6) rfl))) (mvT hZ8 (hw _ (List.mem_of_getElem? (i := 3) rfl))) (mvT hZ8 (hw _ (List.mem_of_getElem? (i := 7) rfl))) (by decide) (backOf (W := 0) (rm2 l Z a0 hw [] (0 : Int32) (0 : Int32) ((0 : Int32) + ((((p4.toUInt32 >>> ((8 : Int32) &&& 31).toUInt32).toInt32) &&& (255 : Int32)) % (5 : Int32))) ((F1 p0).toInt8.toInt32) h9 n0 (Nat.le_trans (Nat.le_trans (Nat.le_trans (Nat.le_trans (Nat.le_trans (Nat.le_trans (Nat.le_trans (Nat.le_trans (Nat.le_trans Z0 E1.1) K2c.1) (Keep.of_wr W3).1) K4c.1) (Keep.of_wr W5).1) K6c.1) (Keep.of_wr W7).1) K8c.1) (Keep.of_wr W9).1) ) hZ8 (hw _ (List.mem_of_getElem? (i := 7) rfl)) (hw _ (List.mem_of_getElem? (i := 3) rfl)) (by decide) (by decide)) (g := (mkF m 75 #[.val (.int p0), .val (.int p1), .val (.int p2), .val (.int p3), .val (.int p4), .val (.ref b1), .val (.int (0 : Int32)), .val (.int ((0 : Int32) + ((((p4.toUInt32 >>> ((8 : Int32) &&& 31).toUInt32).toInt32) &&& (255 : Int32)) % (5 : Int32)))), .unset] [(.int ((F1 p0).toInt8.toInt32)), (.int ((0 : Int32) + ((((p4.toUInt32 >>> ((8 : Int32) &&& 31).toUInt32).toInt32) &&& (255 : Int32)) % (5 : Int32)))), (.int (0 : Int32)), (.int (0 : Int32))])) rfl (by rw [hml]; rfl) (argsL := [(.int (0 : Int32)), (.int (0 : Int32)), (.int ((0 : Int32) + ((((p4.toUInt32 >>> ((8 : Int32) &&& 31).toUInt32).toInt32) &&& (255 : Int32)) % (5 : Int32)))), (.int ((F1 p0).toInt8.toInt32))]) (rest := []) (lenOf pd__IIIB_Z rfl) rfl (by show 2 * 0 + _ ≤ _; exact Nat.le_of_eq rfl) (hb hby at_75) (fun _ _ => ⟨rfl, e9, (by decide : 9 + 0 ≤ _), (by decide : 612 + 0 ≤ _)⟩)
    dsimp only [Pt.U, Pt.locs, Pt.cells, Pt.slots] at X14 ll14 ly14 lz14 st14 hQ14
    subst ll14 ly14 lz14
    obtain ⟨rfl, N14q, e14⟩ := hQ14
    have N14 := Fr.app N9 N14q
    have pre15 : ∀ t, Steps p.tables e below (T14.setTop (mkF m 78 #[.val (.int p0), .val (.int p1), .val (.int p2), .val (.int p3), .val (.int p4), .val (.ref b1), .val (.int (0 : Int32)), .val (.int ((0 : Int32) + ((((p4.toUInt32 >>> ((8 : Int32) &&& 31).toUInt32).toInt32) &&& (255 : Int32)) % (5 : Int32)))), .unset] [(.int (F2 (0 : Int32) (0 : Int32) ((0 : Int32) + ((((p4.toUInt32 >>> ((8 : Int32) &&& 31).toUInt32).toInt32) &&& (255 : Int32)) % (5 : Int32))) ((F1 p0).toInt8.toInt32)))])) t → Steps p.tables e below (s₁.setTop (entryFrame m #[(.int p0), (.int p1), (.int p2), (.int p3), (.int p4)] maxLocals)) t := fun t kt => pre12 t (by
      show Steps p.tables e below (T9.setTop (mkF m 47 #[.val (.int p0), .val (.int p1), .val (.int p2), .val (.int p3), .val (.int p4), .val (.ref b1), .val (.int (0 : Int32)), .unset, .unset] [])) _
      refine XS.iload X9.here hx rfl (hb hby at_47) rfl ?_
      refine XS.iload X9.here hx rfl (hb hby at_49) rfl ?_
      refine XS.bipush X9.here hx rfl (hb hby at_51) ?_
      refine XS.iushr X9.here hx rfl (hb hby at_53) rfl ?_
      refine XS.sipush X9.here hx rfl (hb hby at_54) ?_
      refine XS.iand X9.here hx rfl (hb hby at_57) rfl ?_
      refine XS.iconst X9.here hx rfl (hb hby at_58) ?_
      refine XS.iload X9.here hx rfl (hb hby at_59) rfl ?_
      show Steps p.tables e below (T9.setTop (mkF m 61 #[.val (.int p0), .val (.int p1), .val (.int p2), .val (.int p3), .val (.int p4), .val (.ref b1), .val (.int (0 : Int32)), .unset, .unset] [(.int (0 : Int32)), (.int (5 : Int32)), (.int (((p4.toUInt32 >>> ((8 : Int32) &&& 31).toUInt32).toInt32) &&& (255 : Int32))), (.int (0 : Int32))])) _
      refine XS.isub X9.here hx rfl (hb hby at_61) rfl ?_
      refine iremM X9 hx rfl (hb hby at_62) rfl (by decide) ?_
      refine XS.iadd X9.here hx rfl (hb hby at_63) rfl ?_
      refine XS.istore X9.here hx rfl (hb hby at_64) rfl (l' := #[.val (.int p0), .val (.int p1), .val (.int p2), .val (.int p3), .val (.int p4), .val (.ref b1), .val (.int (0 : Int32)), .val (.int ((0 : Int32) + ((((p4.toUInt32 >>> ((8 : Int32) &&& 31).toUInt32).toInt32) &&& (255 : Int32)) % (5 : Int32)))), .unset]) rfl ?_
      refine XS.iconst X9.here hx rfl (hb hby at_66) ?_
      refine XS.iload X9.here hx rfl (hb hby at_67) rfl ?_
      refine XS.iload X9.here hx rfl (hb hby at_69) rfl ?_
      refine XS.aload X9.here hx rfl (hb hby at_71) rfl rfl ?_
      show Steps p.tables e below (T9.setTop (mkF m 73 #[.val (.int p0), .val (.int p1), .val (.int p2), .val (.int p3), .val (.int p4), .val (.ref b1), .val (.int (0 : Int32)), .val (.int ((0 : Int32) + ((((p4.toUInt32 >>> ((8 : Int32) &&& 31).toUInt32).toInt32) &&& (255 : Int32)) % (5 : Int32)))), .unset] [(.ref b1), (.int ((0 : Int32) + ((((p4.toUInt32 >>> ((8 : Int32) &&& 31).toUInt32).toInt32) &&& (255 : Int32)) % (5 : Int32)))), (.int (0 : Int32)), (.int (0 : Int32))])) _
      refine XS.iconst X9.here hx rfl (hb hby at_73) ?_
      refine X9.baloadBytes hx (j := (0 : Int32)) (v := (.int ((F1 p0).toInt8.toInt32))) (by rw [e9]; exact Ar13.1) (State.isArrayOf_alike hZ8.alike Ar13.2.1) Ar13.2.2 hin13 hat13 (g := (mkF m 74 #[.val (.int p0), .val (.int p1), .val (.int p2), .val (.int p3), .val (.int p4), .val (.ref b1), .val (.int (0 : Int32)), .val (.int ((0 : Int32) + ((((p4.toUInt32 >>> ((8 : Int32) &&& 31).toUInt32).toInt32) &&& (255 : Int32)) % (5 : Int32)))), .unset] [(.int (0 : Int32)), (.ref b1), (.int ((0 : Int32) + ((((p4.toUInt32 >>> ((8 : Int32) &&& 31).toUInt32).toInt32) &&& (255 : Int32)) % (5 : Int32)))), (.int (0 : Int32)), (.int (0 : Int32))])) rfl rfl (hb hby at_74) _ ?_
      refine st14 _ ?_
      exact kt)
    obtain ⟨Tj25, lj25, Xj25, Nj25, ej25, pre25⟩ : ∃ (T' : State) (locs' : List Loc), Stand p l e room_1 (s.setVm T8.vm) m #[(.int p0), (.int p1), (.int p2), (.int p3), (.int p4)] below meth c T' locs' 9 612 ∧ Fr n0 locs' ∧ T'.heap = h9 ∧ ∀ t, Steps p.tables e below (T'.setTop (mkF m 131 #[.val (.int p0), .val (.int p1), .val (.int p2), .val (.int p3), .val (.int p4), .val (.ref b1), .val (.int (0 : Int32)), .val (.int ((0 : Int32) + ((((p4.toUInt32 >>> ((8 : Int32) &&& 31).toUInt32).toInt32) &&& (255 : Int32)) % (5 : Int32)))), .unset] [(.int (J0_78_S0 p0 p1 p2 p3 p4 wc fv))])) t → Steps p.tables e below (s₁.setTop (entryFrame m #[(.int p0), (.int p1), (.int p2), (.int p3), (.int p4)] maxLocals)) t := by
      by_cases hc78 : (F2 (0 : Int32) (0 : Int32) ((0 : Int32) + ((((p4.toUInt32 >>> ((8 : Int32) &&& 31).toUInt32).toInt32) &&& (255 : Int32)) % (5 : Int32))) ((F1 p0).toInt8.toInt32)) = (0 : Int32)
      · refine ⟨T14, _, X14, N14, e14, fun t kt => pre15 t ?_⟩
        show Steps p.tables e below (T14.setTop (mkF m 78 #[.val (.int p0), .val (.int p1), .val (.int p2), .val (.int p3), .val (.int p4), .val (.ref b1), .val (.int (0 : Int32)), .val (.int ((0 : Int32) + ((((p4.toUInt32 >>> ((8 : Int32) &&& 31).toUInt32).toInt32) &&& (255 : Int32)) % (5 : Int32)))), .unset] [(.int (F2 (0 : Int32) (0 : Int32) ((0 : Int32) + ((((p4.toUInt32 >>> ((8 : Int32) &&& 31).toUInt32).toInt32) &&& (255 : Int32)) % (5 : Int32))) ((F1 p0).toInt8.toInt32)))])) _
        refine XS.ifYes X14.here hx rfl (pc0 := 78) (pc' := 130) rfl (hb hby at_78) rfl ((if0 _ _).trans (teq hc78).1) (by decide) (by decide) ?_
        refine XS.iconst X14.here hx rfl (hb hby at_130) ?_
        show Steps p.tables e below (T14.setTop (mkF m 131 #[.val (.int p0), .val (.int p1), .val (.int p2), .val (.int p3), .val (.int p4), .val (.ref b1), .val (.int (0 : Int32)), .val (.int ((0 : Int32) + ((((p4.toUInt32 >>> ((8 : Int32) &&& 31).toUInt32).toInt32) &&& (255 : Int32)) % (5 : Int32)))), .unset] [(.int (0 : Int32))])) _
        have qjS0 : (J0_78_S0 p0 p1 p2 p3 p4 wc fv) = (0 : Int32) := by unfold J0_78_S0; simp only [if_true, if_false, if_pos hc78]
        rw [qjS0] at kt
        exact kt
      · obtain ⟨cl16, Ar16, qa16, S16, Nl16, H16, G16⟩ := id V9
        have hin16 : ¬ ((1 : Int32) < 0 ∨ cl16.slots.size ≤ ((1 : Int32)).toNatClampNeg) := inb_of S16 ⟨by decide, by decide⟩
        have hat16 : cl16.slots[((1 : Int32)).toNatClampNeg]? = some (.int ((F1 p1).toInt8.toInt32)) := Has.at H16 hin16 rfl
        obtain ⟨_, _, ⟨T17, L17, k17, n17⟩, -, X17, ⟨Lc17, hQ17, ll17, ly17, lz17⟩, st17⟩ := Jvm.LawKit.callS X14 hx (y := (⟨"com/example/standbye/standbye/TextInputIsNamePinLaw", "fine", "(IIIB)Z"⟩ : MethodName)) hown8 (mvT hZ8 (hw _ (List.mem_of_getElem? (i := 5) rfl))) (mvT hZ8 (hw _ (List.mem_of_getElem? (i := 6) rfl))) (mvT hZ8 (hw _ (List.mem_of_getElem? (i := 3) rfl))) (mvT hZ8 (hw _ (List.mem_of_getElem? (i := 7) rfl))) (by decide) (backOf (W := 0) (rm2 l Z a0 hw [] (1 : Int32) (0 : Int32) ((0 : Int32) + ((((p4.toUInt32 >>> ((8 : Int32) &&& 31).toUInt32).toInt32) &&& (255 : Int32)) % (5 : Int32))) ((F1 p1).toInt8.toInt32) h9 n0 (Nat.le_trans (Nat.le_trans (Nat.le_trans (Nat.le_trans (Nat.le_trans (Nat.le_trans (Nat.le_trans (Nat.le_trans (Nat.le_trans Z0 E1.1) K2c.1) (Keep.of_wr W3).1) K4c.1) (Keep.of_wr W5).1) K6c.1) (Keep.of_wr W7).1) K8c.1) (Keep.of_wr W9).1) ) hZ8 (hw _ (List.mem_of_getElem? (i := 7) rfl)) (hw _ (List.mem_of_getElem? (i := 3) rfl)) (by decide) (by decide)) (g := (mkF m 90 #[.val (.int p0), .val (.int p1), .val (.int p2), .val (.int p3), .val (.int p4), .val (.ref b1), .val (.int (0 : Int32)), .val (.int ((0 : Int32) + ((((p4.toUInt32 >>> ((8 : Int32) &&& 31).toUInt32).toInt32) &&& (255 : Int32)) % (5 : Int32)))), .unset] [(.int ((F1 p1).toInt8.toInt32)), (.int ((0 : Int32) + ((((p4.toUInt32 >>> ((8 : Int32) &&& 31).toUInt32).toInt32) &&& (255 : Int32)) % (5 : Int32)))), (.int (0 : Int32)), (.int (1 : Int32))])) rfl (by rw [hml]; rfl) (argsL := [(.int (1 : Int32)), (.int (0 : Int32)), (.int ((0 : Int32) + ((((p4.toUInt32 >>> ((8 : Int32) &&& 31).toUInt32).toInt32) &&& (255 : Int32)) % (5 : Int32)))), (.int ((F1 p1).toInt8.toInt32))]) (rest := []) (lenOf pd__IIIB_Z rfl) rfl (by show 2 * 0 + _ ≤ _; exact Nat.le_of_eq rfl) (hb hby at_90) (fun _ _ => ⟨rfl, e14, (by decide : 9 + 0 ≤ _), (by decide : 612 + 0 ≤ _)⟩)
        dsimp only [Pt.U, Pt.locs, Pt.cells, Pt.slots] at X17 ll17 ly17 lz17 st17 hQ17
        subst ll17 ly17 lz17
        obtain ⟨rfl, N17q, e17⟩ := hQ17
        have N17 := Fr.app N14 N17q
        have pre18 : ∀ t, Steps p.tables e below (T17.setTop (mkF m 93 #[.val (.int p0), .val (.int p1), .val (.int p2), .val (.int p3), .val (.int p4), .val (.ref b1), .val (.int (0 : Int32)), .val (.int ((0 : Int32) + ((((p4.toUInt32 >>> ((8 : Int32) &&& 31).toUInt32).toInt32) &&& (255 : Int32)) % (5 : Int32)))), .unset] [(.int (F2 (1 : Int32) (0 : Int32) ((0 : Int32) + ((((p4.toUInt32 >>> ((8 : Int32) &&& 31).toUInt32).toInt32) &&& (255 : Int32)) % (5 : Int32))) ((F1 p1).toInt8.toInt32)))])) t → Steps p.tables e below (s₁.setTop (entryFrame m #[(.int p0), (.int p1), (.int p2), (.int p3), (.int p4)] maxLocals)) t := fun t kt => pre15 t (by
          show Steps p.tables e below (T14.setTop (mkF m 78 #[.val (.int p0), .val (.int p1), .val (.int p2), .val (.int p3), .val (.int p4), .val (.ref b1), .val (.int (0 : Int32)), .val (.int ((0 : Int32) + ((((p4.toUInt32 >>> ((8 : Int32) &&& 31).toUInt32).toInt32) &&& (255 : Int32)) % (5 : Int32)))), .unset] [(.int (F2 (0 : Int32) (0 : Int32) ((0 : Int32) + ((((p4.toUInt32 >>> ((8 : Int32) &&& 31).toUInt32).toInt32) &&& (255 : Int32)) % (5 : Int32))) ((F1 p0).toInt8.toInt32)))])) _
          refine XS.ifNo X14.here hx rfl (hb hby at_78) rfl ((if0 _ _).trans (feq hc78).1) ?_
          refine XS.iconst X14.here hx rfl (hb hby at_81) ?_
          refine XS.iload X14.here hx rfl (hb hby at_82) rfl ?_
          refine XS.iload X14.here hx rfl (hb hby at_84) rfl ?_
          refine XS.aload X14.here hx rfl (hb hby at_86) rfl rfl ?_
          refine XS.iconst X14.here hx rfl (hb hby at_88) ?_
          refine X14.baloadBytes hx (j := (1 : Int32)) (v := (.int ((F1 p1).toInt8.toInt32))) (by rw [e14]; exact Ar16.1) (State.isArrayOf_alike hZ8.alike Ar16.2.1) Ar16.2.2 hin16 hat16 (g := (mkF m 89 #[.val (.int p0), .val (.int p1), .val (.int p2), .val (.int p3), .val (.int p4), .val (.ref b1), .val (.int (0 : Int32)), .val (.int ((0 : Int32) + ((((p4.toUInt32 >>> ((8 : Int32) &&& 31).toUInt32).toInt32) &&& (255 : Int32)) % (5 : Int32)))), .unset] [(.int (1 : Int32)), (.ref b1), (.int ((0 : Int32) + ((((p4.toUInt32 >>> ((8 : Int32) &&& 31).toUInt32).toInt32) &&& (255 : Int32)) % (5 : Int32)))), (.int (0 : Int32)), (.int (1 : Int32))])) rfl rfl (hb hby at_89) _ ?_
          refine st17 _ ?_
          exact kt)
        by_cases hc93 : (F2 (1 : Int32) (0 : Int32) ((0 : Int32) + ((((p4.toUInt32 >>> ((8 : Int32) &&& 31).toUInt32).toInt32) &&& (255 : Int32)) % (5 : Int32))) ((F1 p1).toInt8.toInt32)) = (0 : Int32)
        · refine ⟨T17, _, X17, N17, e17, fun t kt => pre18 t ?_⟩
          show Steps p.tables e below (T17.setTop (mkF m 93 #[.val (.int p0), .val (.int p1), .val (.int p2), .val (.int p3), .val (.int p4), .val (.ref b1), .val (.int (0 : Int32)), .val (.int ((0 : Int32) + ((((p4.toUInt32 >>> ((8 : Int32) &&& 31).toUInt32).toInt32) &&& (255 : Int32)) % (5 : Int32)))), .unset] [(.int (F2 (1 : Int32) (0 : Int32) ((0 : Int32) + ((((p4.toUInt32 >>> ((8 : Int32) &&& 31).toUInt32).toInt32) &&& (255 : Int32)) % (5 : Int32))) ((F1 p1).toInt8.toInt32)))])) _
          refine XS.ifYes X17.here hx rfl (pc0 := 93) (pc' := 130) rfl (hb hby at_93) rfl ((if0 _ _).trans (teq hc93).1) (by decide) (by decide) ?_
          refine XS.iconst X17.here hx rfl (hb hby at_130) ?_
          show Steps p.tables e below (T17.setTop (mkF m 131 #[.val (.int p0), .val (.int p1), .val (.int p2), .val (.int p3), .val (.int p4), .val (.ref b1), .val (.int (0 : Int32)), .val (.int ((0 : Int32) + ((((p4.toUInt32 >>> ((8 : Int32) &&& 31).toUInt32).toInt32) &&& (255 : Int32)) % (5 : Int32)))), .unset] [(.int (0 : Int32))])) _
          have qjS0 : (J0_78_S0 p0 p1 p2 p3 p4 wc fv) = (0 : Int32) := by unfold J0_78_S0; simp only [if_true, if_false, if_neg hc78, if_pos hc93]
          rw [qjS0] at kt
          exact kt
        · obtain ⟨cl19, Ar19, qa19, S19, Nl19, H19, G19⟩ := id V9
          have hin19 : ¬ ((2 : Int32) < 0 ∨ cl19.slots.size ≤ ((2 : Int32)).toNatClampNeg) := inb_of S19 ⟨by decide, by decide⟩
          have hat19 : cl19.slots[((2 : Int32)).toNatClampNeg]? = some (.int ((F1 p2).toInt8.toInt32)) := Has.at H19 hin19 rfl
          obtain ⟨_, _, ⟨T20, L20, k20, n20⟩, -, X20, ⟨Lc20, hQ20, ll20, ly20, lz20⟩, st20⟩ := Jvm.LawKit.callS X17 hx (y := (⟨"com/example/standbye/standbye/TextInputIsNamePinLaw", "fine", "(IIIB)Z"⟩ : MethodName)) hown8 (mvT hZ8 (hw _ (List.mem_of_getElem? (i := 5) rfl))) (mvT hZ8 (hw _ (List.mem_of_getElem? (i := 6) rfl))) (mvT hZ8 (hw _ (List.mem_of_getElem? (i := 3) rfl))) (mvT hZ8 (hw _ (List.mem_of_getElem? (i := 7) rfl))) (by decide) (backOf (W := 0) (rm2 l Z a0 hw [] (2 : Int32) (0 : Int32) ((0 : Int32) + ((((p4.toUInt32 >>> ((8 : Int32) &&& 31).toUInt32).toInt32) &&& (255 : Int32)) % (5 : Int32))) ((F1 p2).toInt8.toInt32) h9 n0 (Nat.le_trans (Nat.le_trans (Nat.le_trans (Nat.le_trans (Nat.le_trans (Nat.le_trans (Nat.le_trans (Nat.le_trans (Nat.le_trans Z0 E1.1) K2c.1) (Keep.of_wr W3).1) K4c.1) (Keep.of_wr W5).1) K6c.1) (Keep.of_wr W7).1) K8c.1) (Keep.of_wr W9).1) ) hZ8 (hw _ (List.mem_of_getElem? (i := 7) rfl)) (hw _ (List.mem_of_getElem? (i := 3) rfl)) (by decide) (by decide)) (g := (mkF m 105 #[.val (.int p0), .val (.int p1), .val (.int p2), .val (.int p3), .val (.int p4), .val (.ref b1), .val (.int (0 : Int32)), .val (.int ((0 : Int32) + ((((p4.toUInt32 >>> ((8 : Int32) &&& 31).toUInt32).toInt32) &&& (255 : Int32)) % (5 : Int32)))), .unset] [(.int ((F1 p2).toInt8.toInt32)), (.int ((0 : Int32) + ((((p4.toUInt32 >>> ((8 : Int32) &&& 31).toUInt32).toInt32) &&& (255 : Int32)) % (5 : Int32)))), (.int (0 : Int32)), (.int (2 : Int32))])) rfl (by rw [hml]; rfl) (argsL := [(.int (2 : Int32)), (.int (0 : Int32)), (.int ((0 : Int32) + ((((p4.toUInt32 >>> ((8 : Int32) &&& 31).toUInt32).toInt32) &&& (255 : Int32)) % (5 : Int32)))), (.int ((F1 p2).toInt8.toInt32))]) (rest := []) (lenOf pd__IIIB_Z rfl) rfl (by show 2 * 0 + _ ≤ _; exact Nat.le_of_eq rfl) (hb hby at_105) (fun _ _ => ⟨rfl, e17, (by decide : 9 + 0 ≤ _), (by decide : 612 + 0 ≤ _)⟩)
          dsimp only [Pt.U, Pt.locs, Pt.cells, Pt.slots] at X20 ll20 ly20 lz20 st20 hQ20
          subst ll20 ly20 lz20
          obtain ⟨rfl, N20q, e20⟩ := hQ20
          have N20 := Fr.app N17 N20q
          have pre21 : ∀ t, Steps p.tables e below (T20.setTop (mkF m 108 #[.val (.int p0), .val (.int p1), .val (.int p2), .val (.int p3), .val (.int p4), .val (.ref b1), .val (.int (0 : Int32)), .val (.int ((0 : Int32) + ((((p4.toUInt32 >>> ((8 : Int32) &&& 31).toUInt32).toInt32) &&& (255 : Int32)) % (5 : Int32)))), .unset] [(.int (F2 (2 : Int32) (0 : Int32) ((0 : Int32) + ((((p4.toUInt32 >>> ((8 : Int32) &&& 31).toUInt32).toInt32) &&& (255 : Int32)) % (5 : Int32))) ((F1 p2).toInt8.toInt32)))])) t → Steps p.tables e below (s₁.setTop (entryFrame m #[(.int p0), (.int p1), (.int p2), (.int p3), (.int p4)] maxLocals)) t := fun t kt => pre18 t (by
            show Steps p.tables e below (T17.setTop (mkF m 93 #[.val (.int p0), .val (.int p1), .val (.int p2), .val (.int p3), .val (.int p4), .val (.ref b1), .val (.int (0 : Int32)), .val (.int ((0 : Int32) + ((((p4.toUInt32 >>> ((8 : Int32) &&& 31).toUInt32).toInt32) &&& (255 : Int32)) % (5 : Int32)))), .unset] [(.int (F2 (1 : Int32) (0 : Int32) ((0 : Int32) + ((((p4.toUInt32 >>> ((8 : Int32) &&& 31).toUInt32).toInt32) &&& (255 : Int32)) % (5 : Int32))) ((F1 p1).toInt8.toInt32)))])) _
            refine XS.ifNo X17.here hx rfl (hb hby at_93) rfl ((if0 _ _).trans (feq hc93).1) ?_
            refine XS.iconst X17.here hx rfl (hb hby at_96) ?_
            refine XS.iload X17.here hx rfl (hb hby at_97) rfl ?_
            refine XS.iload X17.here hx rfl (hb hby at_99) rfl ?_
            refine XS.aload X17.here hx rfl (hb hby at_101) rfl rfl ?_
            refine XS.iconst X17.here hx rfl (hb hby at_103) ?_
            refine X17.baloadBytes hx (j := (2 : Int32)) (v := (.int ((F1 p2).toInt8.toInt32))) (by rw [e17]; exact Ar19.1) (State.isArrayOf_alike hZ8.alike Ar19.2.1) Ar19.2.2 hin19 hat19 (g := (mkF m 104 #[.val (.int p0), .val (.int p1), .val (.int p2), .val (.int p3), .val (.int p4), .val (.ref b1), .val (.int (0 : Int32)), .val (.int ((0 : Int32) + ((((p4.toUInt32 >>> ((8 : Int32) &&& 31).toUInt32).toInt32) &&& (255 : Int32)) % (5 : Int32)))), .unset] [(.int (2 : Int32)), (.ref b1), (.int ((0 : Int32) + ((((p4.toUInt32 >>> ((8 : Int32) &&& 31).toUInt32).toInt32) &&& (255 : Int32)) % (5 : Int32)))), (.int (0 : Int32)), (.int (2 : Int32))])) rfl rfl (hb hby at_104) _ ?_
            refine st20 _ ?_
            exact kt)
          by_cases hc108 : (F2 (2 : Int32) (0 : Int32) ((0 : Int32) + ((((p4.toUInt32 >>> ((8 : Int32) &&& 31).toUInt32).toInt32) &&& (255 : Int32)) % (5 : Int32))) ((F1 p2).toInt8.toInt32)) = (0 : Int32)
          · refine ⟨T20, _, X20, N20, e20, fun t kt => pre21 t ?_⟩
            show Steps p.tables e below (T20.setTop (mkF m 108 #[.val (.int p0), .val (.int p1), .val (.int p2), .val (.int p3), .val (.int p4), .val (.ref b1), .val (.int (0 : Int32)), .val (.int ((0 : Int32) + ((((p4.toUInt32 >>> ((8 : Int32) &&& 31).toUInt32).toInt32) &&& (255 : Int32)) % (5 : Int32)))), .unset] [(.int (F2 (2 : Int32) (0 : Int32) ((0 : Int32) + ((((p4.toUInt32 >>> ((8 : Int32) &&& 31).toUInt32).toInt32) &&& (255 : Int32)) % (5 : Int32))) ((F1 p2).toInt8.toInt32)))])) _
            refine XS.ifYes X20.here hx rfl (pc0 := 108) (pc' := 130) rfl (hb hby at_108) rfl ((if0 _ _).trans (teq hc108).1) (by decide) (by decide) ?_
            refine XS.iconst X20.here hx rfl (hb hby at_130) ?_
            show Steps p.tables e below (T20.setTop (mkF m 131 #[.val (.int p0), .val (.int p1), .val (.int p2), .val (.int p3), .val (.int p4), .val (.ref b1), .val (.int (0 : Int32)), .val (.int ((0 : Int32) + ((((p4.toUInt32 >>> ((8 : Int32) &&& 31).toUInt32).toInt32) &&& (255 : Int32)) % (5 : Int32)))), .unset] [(.int (0 : Int32))])) _
            have qjS0 : (J0_78_S0 p0 p1 p2 p3 p4 wc fv) = (0 : Int32) := by unfold J0_78_S0; simp only [if_true, if_false, if_neg hc78, if_neg hc93, if_pos hc108]
            rw [qjS0] at kt
            exact kt
          · obtain ⟨cl22, Ar22, qa22, S22, Nl22, H22, G22⟩ := id V9
            have hin22 : ¬ ((3 : Int32) < 0 ∨ cl22.slots.size ≤ ((3 : Int32)).toNatClampNeg) := inb_of S22 ⟨by decide, by decide⟩
            have hat22 : cl22.slots[((3 : Int32)).toNatClampNeg]? = some (.int ((F1 p3).toInt8.toInt32)) := Has.at H22 hin22 rfl
            obtain ⟨_, _, ⟨T23, L23, k23, n23⟩, -, X23, ⟨Lc23, hQ23, ll23, ly23, lz23⟩, st23⟩ := Jvm.LawKit.callS X20 hx (y := (⟨"com/example/standbye/standbye/TextInputIsNamePinLaw", "fine", "(IIIB)Z"⟩ : MethodName)) hown8 (mvT hZ8 (hw _ (List.mem_of_getElem? (i := 5) rfl))) (mvT hZ8 (hw _ (List.mem_of_getElem? (i := 6) rfl))) (mvT hZ8 (hw _ (List.mem_of_getElem? (i := 3) rfl))) (mvT hZ8 (hw _ (List.mem_of_getElem? (i := 7) rfl))) (by decide) (backOf (W := 0) (rm2 l Z a0 hw [] (3 : Int32) (0 : Int32) ((0 : Int32) + ((((p4.toUInt32 >>> ((8 : Int32) &&& 31).toUInt32).toInt32) &&& (255 : Int32)) % (5 : Int32))) ((F1 p3).toInt8.toInt32) h9 n0 (Nat.le_trans (Nat.le_trans (Nat.le_trans (Nat.le_trans (Nat.le_trans (Nat.le_trans (Nat.le_trans (Nat.le_trans (Nat.le_trans Z0 E1.1) K2c.1) (Keep.of_wr W3).1) K4c.1) (Keep.of_wr W5).1) K6c.1) (Keep.of_wr W7).1) K8c.1) (Keep.of_wr W9).1) ) hZ8 (hw _ (List.mem_of_getElem? (i := 7) rfl)) (hw _ (List.mem_of_getElem? (i := 3) rfl)) (by decide) (by decide)) (g := (mkF m 120 #[.val (.int p0), .val (.int p1), .val (.int p2), .val (.int p3), .val (.int p4), .val (.ref b1), .val (.int (0 : Int32)), .val (.int ((0 : Int32) + ((((p4.toUInt32 >>> ((8 : Int32) &&& 31).toUInt32).toInt32) &&& (255 : Int32)) % (5 : Int32)))), .unset] [(.int ((F1 p3).toInt8.toInt32)), (.int ((0 : Int32) + ((((p4.toUInt32 >>> ((8 : Int32) &&& 31).toUInt32).toInt32) &&& (255 : Int32)) % (5 : Int32)))), (.int (0 : Int32)), (.int (3 : Int32))])) rfl (by rw [hml]; rfl) (argsL := [(.int (3 : Int32)), (.int (0 : Int32)), (.int ((0 : Int32) + ((((p4.toUInt32 >>> ((8 : Int32) &&& 31).toUInt32).toInt32) &&& (255 : Int32)) % (5 : Int32)))), (.int ((F1 p3).toInt8.toInt32))]) (rest := []) (lenOf pd__IIIB_Z rfl) rfl (by show 2 * 0 + _ ≤ _; exact Nat.le_of_eq rfl) (hb hby at_120) (fun _ _ => ⟨rfl, e20, (by decide : 9 + 0 ≤ _), (by decide : 612 + 0 ≤ _)⟩)
            dsimp only [Pt.U, Pt.locs, Pt.cells, Pt.slots] at X23 ll23 ly23 lz23 st23 hQ23
            subst ll23 ly23 lz23
            obtain ⟨rfl, N23q, e23⟩ := hQ23
            have N23 := Fr.app N20 N23q
            have pre24 : ∀ t, Steps p.tables e below (T23.setTop (mkF m 123 #[.val (.int p0), .val (.int p1), .val (.int p2), .val (.int p3), .val (.int p4), .val (.ref b1), .val (.int (0 : Int32)), .val (.int ((0 : Int32) + ((((p4.toUInt32 >>> ((8 : Int32) &&& 31).toUInt32).toInt32) &&& (255 : Int32)) % (5 : Int32)))), .unset] [(.int (F2 (3 : Int32) (0 : Int32) ((0 : Int32) + ((((p4.toUInt32 >>> ((8 : Int32) &&& 31).toUInt32).toInt32) &&& (255 : Int32)) % (5 : Int32))) ((F1 p3).toInt8.toInt32)))])) t → Steps p.tables e below (s₁.setTop (entryFrame m #[(.int p0), (.int p1), (.int p2), (.int p3), (.int p4)] maxLocals)) t := fun t kt => pre21 t (by
              show Steps p.tables e below (T20.setTop (mkF m 108 #[.val (.int p0), .val (.int p1), .val (.int p2), .val (.int p3), .val (.int p4), .val (.ref b1), .val (.int (0 : Int32)), .val (.int ((0 : Int32) + ((((p4.toUInt32 >>> ((8 : Int32) &&& 31).toUInt32).toInt32) &&& (255 : Int32)) % (5 : Int32)))), .unset] [(.int (F2 (2 : Int32) (0 : Int32) ((0 : Int32) + ((((p4.toUInt32 >>> ((8 : Int32) &&& 31).toUInt32).toInt32) &&& (255 : Int32)) % (5 : Int32))) ((F1 p2).toInt8.toInt32)))])) _
              refine XS.ifNo X20.here hx rfl (hb hby at_108) rfl ((if0 _ _).trans (feq hc108).1) ?_
              refine XS.iconst X20.here hx rfl (hb hby at_111) ?_
              refine XS.iload X20.here hx rfl (hb hby at_112) rfl ?_
              refine XS.iload X20.here hx rfl (hb hby at_114) rfl ?_
              refine XS.aload X20.here hx rfl (hb hby at_116) rfl rfl ?_
              refine XS.iconst X20.here hx rfl (hb hby at_118) ?_
              refine X20.baloadBytes hx (j := (3 : Int32)) (v := (.int ((F1 p3).toInt8.toInt32))) (by rw [e20]; exact Ar22.1) (State.isArrayOf_alike hZ8.alike Ar22.2.1) Ar22.2.2 hin22 hat22 (g := (mkF m 119 #[.val (.int p0), .val (.int p1), .val (.int p2), .val (.int p3), .val (.int p4), .val (.ref b1), .val (.int (0 : Int32)), .val (.int ((0 : Int32) + ((((p4.toUInt32 >>> ((8 : Int32) &&& 31).toUInt32).toInt32) &&& (255 : Int32)) % (5 : Int32)))), .unset] [(.int (3 : Int32)), (.ref b1), (.int ((0 : Int32) + ((((p4.toUInt32 >>> ((8 : Int32) &&& 31).toUInt32).toInt32) &&& (255 : Int32)) % (5 : Int32)))), (.int (0 : Int32)), (.int (3 : Int32))])) rfl rfl (hb hby at_119) _ ?_
              refine st23 _ ?_
              exact kt)
            by_cases hc123 : (F2 (3 : Int32) (0 : Int32) ((0 : Int32) + ((((p4.toUInt32 >>> ((8 : Int32) &&& 31).toUInt32).toInt32) &&& (255 : Int32)) % (5 : Int32))) ((F1 p3).toInt8.toInt32)) = (0 : Int32)
            · refine ⟨T23, _, X23, N23, e23, fun t kt => pre24 t ?_⟩
              show Steps p.tables e below (T23.setTop (mkF m 123 #[.val (.int p0), .val (.int p1), .val (.int p2), .val (.int p3), .val (.int p4), .val (.ref b1), .val (.int (0 : Int32)), .val (.int ((0 : Int32) + ((((p4.toUInt32 >>> ((8 : Int32) &&& 31).toUInt32).toInt32) &&& (255 : Int32)) % (5 : Int32)))), .unset] [(.int (F2 (3 : Int32) (0 : Int32) ((0 : Int32) + ((((p4.toUInt32 >>> ((8 : Int32) &&& 31).toUInt32).toInt32) &&& (255 : Int32)) % (5 : Int32))) ((F1 p3).toInt8.toInt32)))])) _
              refine XS.ifYes X23.here hx rfl (pc0 := 123) (pc' := 130) rfl (hb hby at_123) rfl ((if0 _ _).trans (teq hc123).1) (by decide) (by decide) ?_
              refine XS.iconst X23.here hx rfl (hb hby at_130) ?_
              show Steps p.tables e below (T23.setTop (mkF m 131 #[.val (.int p0), .val (.int p1), .val (.int p2), .val (.int p3), .val (.int p4), .val (.ref b1), .val (.int (0 : Int32)), .val (.int ((0 : Int32) + ((((p4.toUInt32 >>> ((8 : Int32) &&& 31).toUInt32).toInt32) &&& (255 : Int32)) % (5 : Int32)))), .unset] [(.int (0 : Int32))])) _
              have qjS0 : (J0_78_S0 p0 p1 p2 p3 p4 wc fv) = (0 : Int32) := by unfold J0_78_S0; simp only [if_true, if_false, if_neg hc78, if_neg hc93, if_neg hc108, if_pos hc123]
              rw [qjS0] at kt
              exact kt
            · refine ⟨T23, _, X23, N23, e23, fun t kt => pre24 t ?_⟩
              show Steps p.tables e below (T23.setTop (mkF m 123 #[.val (.int p0), .val (.int p1), .val (.int p2), .val (.int p3), .val (.int p4), .val (.ref b1), .val (.int (0 : Int32)), .val (.int ((0 : Int32) + ((((p4.toUInt32 >>> ((8 : Int32) &&& 31).toUInt32).toInt32) &&& (255 : Int32)) % (5 : Int32)))), .unset] [(.int (F2 (3 : Int32) (0 : Int32) ((0 : Int32) + ((((p4.toUInt32 >>> ((8 : Int32) &&& 31).toUInt32).toInt32) &&& (255 : Int32)) % (5 : Int32))) ((F1 p3).toInt8.toInt32)))])) _
              refine XS.ifNo X23.here hx rfl (hb hby at_123) rfl ((if0 _ _).trans (feq hc123).1) ?_
              refine XS.iconst X23.here hx rfl (hb hby at_126) ?_
              refine XS.goto X23.here hx rfl (pc0 := 127) (pc' := 131) rfl (hb hby at_127) (by decide) (by decide) ?_
              show Steps p.tables e below (T23.setTop (mkF m 131 #[.val (.int p0), .val (.int p1), .val (.int p2), .val (.int p3), .val (.int p4), .val (.ref b1), .val (.int (0 : Int32)), .val (.int ((0 : Int32) + ((((p4.toUInt32 >>> ((8 : Int32) &&& 31).toUInt32).toInt32) &&& (255 : Int32)) % (5 : Int32)))), .unset] [(.int (1 : Int32))])) _
              have qjS0 : (J0_78_S0 p0 p1 p2 p3 p4 wc fv) = (1 : Int32) := by unfold J0_78_S0; simp only [if_true, if_false, if_neg hc78, if_neg hc93, if_neg hc108, if_neg hc123]
              rw [qjS0] at kt
              exact kt
    obtain ⟨_, _, ⟨T26, L26, k26, n26⟩, -, X26, ⟨Lc26, hQ26, ll26, ly26, lz26⟩, st26⟩ := Jvm.LawKit.callS Xj25 hx (y := (⟨"com/example/standbye/standbye/TextInput", "isName", "([BII)Z"⟩ : MethodName)) hown8 (mvT hZ8 (hw _ (List.mem_of_getElem? (i := 8) rfl))) (mvT hZ8 (hw _ (List.mem_of_getElem? (i := 9) rfl))) (mvT hZ8 (hw _ (List.mem_of_getElem? (i := 10) rfl))) (mvT hZ8 (hw _ (List.mem_of_getElem? (i := 11) rfl))) (by decide) (backOf (W := 0) (rm3s0 l Z a0 hw [] b1 ((0 : Int32) + ((((p4.toUInt32 >>> ((8 : Int32) &&& 31).toUInt32).toInt32) &&& (255 : Int32)) % (5 : Int32))) k1 ((F1 p0).toInt8.toInt32) ((F1 p1).toInt8.toInt32) ((F1 p2).toInt8.toInt32) ((F1 p3).toInt8.toInt32) h9 n0 (Nat.le_trans (Nat.le_trans (Nat.le_trans (Nat.le_trans (Nat.le_trans (Nat.le_trans (Nat.le_trans (Nat.le_trans (Nat.le_trans Z0 E1.1) K2c.1) (Keep.of_wr W3).1) K4c.1) (Keep.of_wr W5).1) K6c.1) (Keep.of_wr W7).1) K8c.1) (Keep.of_wr W9).1) V9 (own_le0 p4)) hZ8 (hw _ (List.mem_of_getElem? (i := 11) rfl)) (hw _ (List.mem_of_getElem? (i := 10) rfl)) (by decide) (by decide)) (g := (mkF m 139 #[.val (.int p0), .val (.int p1), .val (.int p2), .val (.int p3), .val (.int p4), .val (.ref b1), .val (.int (0 : Int32)), .val (.int ((0 : Int32) + ((((p4.toUInt32 >>> ((8 : Int32) &&& 31).toUInt32).toInt32) &&& (255 : Int32)) % (5 : Int32)))), .val (.int (J0_78_S0 p0 p1 p2 p3 p4 wc fv))] [(.int ((0 : Int32) + ((((p4.toUInt32 >>> ((8 : Int32) &&& 31).toUInt32).toInt32) &&& (255 : Int32)) % (5 : Int32)))), (.int (0 : Int32)), (.ref b1)])) rfl (by rw [hml]; rfl) (argsL := [(.ref b1), (.int (0 : Int32)), (.int ((0 : Int32) + ((((p4.toUInt32 >>> ((8 : Int32) &&& 31).toUInt32).toInt32) &&& (255 : Int32)) % (5 : Int32))))]) (rest := []) (lenOf pd___BII_Z rfl) rfl (by show 2 * 0 + _ ≤ _; exact Nat.le_of_eq rfl) (hb hby at_139) (fun _ _ => ⟨rfl, ej25, (by decide : 9 + 0 ≤ _), (by decide : 612 + 0 ≤ _)⟩)
    dsimp only [Pt.U, Pt.locs, Pt.cells, Pt.slots] at X26 ll26 ly26 lz26 st26 hQ26
    subst ll26 ly26 lz26
    obtain ⟨rfl, N26q, e26⟩ := hQ26
    have N26 := Fr.app Nj25 N26q
    have pre27 : ∀ t, Steps p.tables e below (T26.setTop (mkF m 144 #[.val (.int p0), .val (.int p1), .val (.int p2), .val (.int p3), .val (.int p4), .val (.ref b1), .val (.int (0 : Int32)), .val (.int ((0 : Int32) + ((((p4.toUInt32 >>> ((8 : Int32) &&& 31).toUInt32).toInt32) &&& (255 : Int32)) % (5 : Int32)))), .val (.int (J0_78_S0 p0 p1 p2 p3 p4 wc fv))] [(.int (J0_78_S0 p0 p1 p2 p3 p4 wc fv)), (.int (F3s0 ((0 : Int32) + ((((p4.toUInt32 >>> ((8 : Int32) &&& 31).toUInt32).toInt32) &&& (255 : Int32)) % (5 : Int32))) ((F1 p0).toInt8.toInt32) ((F1 p1).toInt8.toInt32) ((F1 p2).toInt8.toInt32) ((F1 p3).toInt8.toInt32)))])) t → Steps p.tables e below (s₁.setTop (entryFrame m #[(.int p0), (.int p1), (.int p2), (.int p3), (.int p4)] maxLocals)) t := fun t kt => pre25 t (by
      show Steps p.tables e below (Tj25.setTop (mkF m 131 #[.val (.int p0), .val (.int p1), .val (.int p2), .val (.int p3), .val (.int p4), .val (.ref b1), .val (.int (0 : Int32)), .val (.int ((0 : Int32) + ((((p4.toUInt32 >>> ((8 : Int32) &&& 31).toUInt32).toInt32) &&& (255 : Int32)) % (5 : Int32)))), .unset] [(.int (J0_78_S0 p0 p1 p2 p3 p4 wc fv))])) _
      refine XS.istore Xj25.here hx rfl (hb hby at_131) rfl (l' := #[.val (.int p0), .val (.int p1), .val (.int p2), .val (.int p3), .val (.int p4), .val (.ref b1), .val (.int (0 : Int32)), .val (.int ((0 : Int32) + ((((p4.toUInt32 >>> ((8 : Int32) &&& 31).toUInt32).toInt32) &&& (255 : Int32)) % (5 : Int32)))), .val (.int (J0_78_S0 p0 p1 p2 p3 p4 wc fv))]) rfl ?_
      refine XS.aload Xj25.here hx rfl (hb hby at_133) rfl rfl ?_
      refine XS.iload Xj25.here hx rfl (hb hby at_135) rfl ?_
      refine XS.iload Xj25.here hx rfl (hb hby at_137) rfl ?_
      refine st26 _ ?_
      refine XS.iload X26.here hx rfl (hb hby at_142) rfl ?_
      exact kt)
    by_cases hc144 : (F3s0 ((0 : Int32) + ((((p4.toUInt32 >>> ((8 : Int32) &&& 31).toUInt32).toInt32) &&& (255 : Int32)) % (5 : Int32))) ((F1 p0).toInt8.toInt32) ((F1 p1).toInt8.toInt32) ((F1 p2).toInt8.toInt32) ((F1 p3).toInt8.toInt32)) = (J0_78_S0 p0 p1 p2 p3 p4 wc fv)
    · obtain ⟨fs, hr, hrun, hended, hEnd⟩ := X26.leaveW hS8 (by rw [e26]; exact (Nat.le_trans (Nat.le_refl T8.heap.size) (Keep.of_wr W9).1)) (v := some (.int (1 : Int32))) (fun h => by rw [Bd.returns] at h; cases h)
      have CRe := CHr.trans CR9 (CHv.at X26 hZ8 hEL CR9.1)
      refine ⟨_, _, pre27 _ ?_, hrun, hended, _, _, rfl, ?_, ?_, hEnd.1, hEnd.2.1, hEnd.2.2.1, hEnd.2.2.2.mono (by decide) (by decide)⟩
      · show Steps p.tables e below (T26.setTop (mkF m 144 #[.val (.int p0), .val (.int p1), .val (.int p2), .val (.int p3), .val (.int p4), .val (.ref b1), .val (.int (0 : Int32)), .val (.int ((0 : Int32) + ((((p4.toUInt32 >>> ((8 : Int32) &&& 31).toUInt32).toInt32) &&& (255 : Int32)) % (5 : Int32)))), .val (.int (J0_78_S0 p0 p1 p2 p3 p4 wc fv))] [(.int (J0_78_S0 p0 p1 p2 p3 p4 wc fv)), (.int (F3s0 ((0 : Int32) + ((((p4.toUInt32 >>> ((8 : Int32) &&& 31).toUInt32).toInt32) &&& (255 : Int32)) % (5 : Int32))) ((F1 p0).toInt8.toInt32) ((F1 p1).toInt8.toInt32) ((F1 p2).toInt8.toInt32) ((F1 p3).toInt8.toInt32)))])) _
        refine XS.icmpNo X26.here hx rfl (hb hby at_144) rfl (teq hc144).2 ?_
        refine XS.iconst X26.here hx rfl (hb hby at_147) ?_
        refine XS.goto X26.here hx rfl (pc0 := 148) (pc' := 152) rfl (hb hby at_148) (by decide) (by decide) ?_
        show Steps p.tables e below (T26.setTop (mkF m 152 #[.val (.int p0), .val (.int p1), .val (.int p2), .val (.int p3), .val (.int p4), .val (.ref b1), .val (.int (0 : Int32)), .val (.int ((0 : Int32) + ((((p4.toUInt32 >>> ((8 : Int32) &&& 31).toUInt32).toInt32) &&& (255 : Int32)) % (5 : Int32)))), .val (.int (J0_78_S0 p0 p1 p2 p3 p4 wc fv))] [(.int (1 : Int32))])) _
        exact retN X26 hx (t := .boolean) Bd.returns (by simp) (hb hby at_152) hr
      · show Q0 Z p0 p1 p2 p3 p4 wc fv h0 n0 _ T26.heap _
        rw [e26]
        exact ⟨(by unfold F0; simp only [if_pos hs0, if_pos hc144]), N26⟩
      · show CHr Z ELs s.vm s.heap T26.vm T26.heap
        rw [hh, e26]; exact CRe
    · obtain ⟨fs, hr, hrun, hended, hEnd⟩ := X26.leaveW hS8 (by rw [e26]; exact (Nat.le_trans (Nat.le_refl T8.heap.size) (Keep.of_wr W9).1)) (v := some (.int (0 : Int32))) (fun h => by rw [Bd.returns] at h; cases h)
      have CRe := CHr.trans CR9 (CHv.at X26 hZ8 hEL CR9.1)
      refine ⟨_, _, pre27 _ ?_, hrun, hended, _, _, rfl, ?_, ?_, hEnd.1, hEnd.2.1, hEnd.2.2.1, hEnd.2.2.2.mono (by decide) (by decide)⟩
      · show Steps p.tables e below (T26.setTop (mkF m 144 #[.val (.int p0), .val (.int p1), .val (.int p2), .val (.int p3), .val (.int p4), .val (.ref b1), .val (.int (0 : Int32)), .val (.int ((0 : Int32) + ((((p4.toUInt32 >>> ((8 : Int32) &&& 31).toUInt32).toInt32) &&& (255 : Int32)) % (5 : Int32)))), .val (.int (J0_78_S0 p0 p1 p2 p3 p4 wc fv))] [(.int (J0_78_S0 p0 p1 p2 p3 p4 wc fv)), (.int (F3s0 ((0 : Int32) + ((((p4.toUInt32 >>> ((8 : Int32) &&& 31).toUInt32).toInt32) &&& (255 : Int32)) % (5 : Int32))) ((F1 p0).toInt8.toInt32) ((F1 p1).toInt8.toInt32) ((F1 p2).toInt8.toInt32) ((F1 p3).toInt8.toInt32)))])) _
        refine XS.icmpYes X26.here hx rfl (pc0 := 144) (pc' := 151) rfl (hb hby at_144) rfl (feq hc144).2 (by decide) (by decide) ?_
        refine XS.iconst X26.here hx rfl (hb hby at_151) ?_
        show Steps p.tables e below (T26.setTop (mkF m 152 #[.val (.int p0), .val (.int p1), .val (.int p2), .val (.int p3), .val (.int p4), .val (.ref b1), .val (.int (0 : Int32)), .val (.int ((0 : Int32) + ((((p4.toUInt32 >>> ((8 : Int32) &&& 31).toUInt32).toInt32) &&& (255 : Int32)) % (5 : Int32)))), .val (.int (J0_78_S0 p0 p1 p2 p3 p4 wc fv))] [(.int (0 : Int32))])) _
        exact retN X26 hx (t := .boolean) Bd.returns (by simp) (hb hby at_152) hr
      · show Q0 Z p0 p1 p2 p3 p4 wc fv h0 n0 _ T26.heap _
        rw [e26]
        exact ⟨(by unfold F0; simp only [if_pos hs0, if_neg hc144]), N26⟩
      · show CHr Z ELs s.vm s.heap T26.vm T26.heap
        rw [hh, e26]; exact CRe
  · by_cases hs1 : (A0_45 p0 p1 p2 p3 p4 wc fv) = (1 : Int32)
    · have qr28 : (A0_45 p0 p1 p2 p3 p4 wc fv) = (1 : Int32) := hs1
      have pre29 : ∀ t, Steps p.tables e below (T9.setTop (mkF m 47 #[.val (.int p0), .val (.int p1), .val (.int p2), .val (.int p3), .val (.int p4), .val (.ref b1), .val (.int (1 : Int32)), .unset, .unset] [])) t → Steps p.tables e below (s₁.setTop (entryFrame m #[(.int p0), (.int p1), (.int p2), (.int p3), (.int p4)] maxLocals)) t := fun t kt => pre10 t (by rw [qr28]; exact kt)
      obtain ⟨cl30, Ar30, qa30, S30, Nl30, H30, G30⟩ := id V9
      have hin30 : ¬ ((0 : Int32) < 0 ∨ cl30.slots.size ≤ ((0 : Int32)).toNatClampNeg) := inb_of S30 ⟨by decide, by decide⟩
      have hat30 : cl30.slots[((0 : Int32)).toNatClampNeg]? = some (.int ((F1 p0).toInt8.toInt32)) := Has.at H30 hin30 rfl
      obtain ⟨_, _, ⟨T31, L31, k31, n31⟩, -, X31, ⟨Lc31, hQ31, ll31, ly31, lz31⟩, st31⟩ := Jvm.LawKit.callS X9 hx (y := (⟨"com/example/standbye/standbye/TextInputIsNamePinLaw", "fine", "(IIIB)Z"⟩ : MethodName)) hown8 (mvT hZ8 (hw _ (List.mem_of_getElem? (i := 5) rfl))) (mvT hZ8 (hw _ (List.mem_of_getElem? (i := 6) rfl))) (mvT hZ8 (hw _ (List.mem_of_getElem? (i := 3) rfl))) (mvT hZ8 (hw _ (List.mem_of_getElem? (i := 7) rfl))) (by decide) (backOf (W := 0) (rm2 l Z a0 hw [] (0 : Int32) (1 : Int32) ((1 : Int32) + ((((p4.toUInt32 >>> ((8 : Int32) &&& 31).toUInt32).toInt32) &&& (255 : Int32)) % (4 : Int32))) ((F1 p0).toInt8.toInt32) h9 n0 (Nat.le_trans (Nat.le_trans (Nat.le_trans (Nat.le_trans (Nat.le_trans (Nat.le_trans (Nat.le_trans (Nat.le_trans (Nat.le_trans Z0 E1.1) K2c.1) (Keep.of_wr W3).1) K4c.1) (Keep.of_wr W5).1) K6c.1) (Keep.of_wr W7).1) K8c.1) (Keep.of_wr W9).1) ) hZ8 (hw _ (List.mem_of_getElem? (i := 7) rfl)) (hw _ (List.mem_of_getElem? (i := 3) rfl)) (by decide) (by decide)) (g := (mkF m 75 #[.val (.int p0), .val (.int p1), .val (.int p2), .val (.int p3), .val (.int p4), .val (.ref b1), .val (.int (1 : Int32)), .val (.int ((1 : Int32) + ((((p4.toUInt32 >>> ((8 : Int32) &&& 31).toUInt32).toInt32) &&& (255 : Int32)) % (4 : Int32)))), .unset] [(.int ((F1 p0).toInt8.toInt32)), (.int ((1 : Int32) + ((((p4.toUInt32 >>> ((8 : Int32) &&& 31).toUInt32).toInt32) &&& (255 : Int32)) % (4 : Int32)))), (.int (1 : Int32)), (.int (0 : Int32))])) rfl (by rw [hml]; rfl) (argsL := [(.int (0 : Int32)), (.int (1 : Int32)), (.int ((1 : Int32) + ((((p4.toUInt32 >>> ((8 : Int32) &&& 31).toUInt32).toInt32) &&& (255 : Int32)) % (4 : Int32)))), (.int ((F1 p0).toInt8.toInt32))]) (rest := []) (lenOf pd__IIIB_Z rfl) rfl (by show 2 * 0 + _ ≤ _; exact Nat.le_of_eq rfl) (hb hby at_75) (fun _ _ => ⟨rfl, e9, (by decide : 9 + 0 ≤ _), (by decide : 612 + 0 ≤ _)⟩)
      dsimp only [Pt.U, Pt.locs, Pt.cells, Pt.slots] at X31 ll31 ly31 lz31 st31 hQ31
      subst ll31 ly31 lz31
      obtain ⟨rfl, N31q, e31⟩ := hQ31
      have N31 := Fr.app N9 N31q
      have pre32 : ∀ t, Steps p.tables e below (T31.setTop (mkF m 78 #[.val (.int p0), .val (.int p1), .val (.int p2), .val (.int p3), .val (.int p4), .val (.ref b1), .val (.int (1 : Int32)), .val (.int ((1 : Int32) + ((((p4.toUInt32 >>> ((8 : Int32) &&& 31).toUInt32).toInt32) &&& (255 : Int32)) % (4 : Int32)))), .unset] [(.int (F2 (0 : Int32) (1 : Int32) ((1 : Int32) + ((((p4.toUInt32 >>> ((8 : Int32) &&& 31).toUInt32).toInt32) &&& (255 : Int32)) % (4 : Int32))) ((F1 p0).toInt8.toInt32)))])) t → Steps p.tables e below (s₁.setTop (entryFrame m #[(.int p0), (.int p1), (.int p2), (.int p3), (.int p4)] maxLocals)) t := fun t kt => pre29 t (by
        show Steps p.tables e below (T9.setTop (mkF m 47 #[.val (.int p0), .val (.int p1), .val (.int p2), .val (.int p3), .val (.int p4), .val (.ref b1), .val (.int (1 : Int32)), .unset, .unset] [])) _
        refine XS.iload X9.here hx rfl (hb hby at_47) rfl ?_
        refine XS.iload X9.here hx rfl (hb hby at_49) rfl ?_
        refine XS.bipush X9.here hx rfl (hb hby at_51) ?_
        refine XS.iushr X9.here hx rfl (hb hby at_53) rfl ?_
        refine XS.sipush X9.here hx rfl (hb hby at_54) ?_
        refine XS.iand X9.here hx rfl (hb hby at_57) rfl ?_
        refine XS.iconst X9.here hx rfl (hb hby at_58) ?_
        refine XS.iload X9.here hx rfl (hb hby at_59) rfl ?_
        show Steps p.tables e below (T9.setTop (mkF m 61 #[.val (.int p0), .val (.int p1), .val (.int p2), .val (.int p3), .val (.int p4), .val (.ref b1), .val (.int (1 : Int32)), .unset, .unset] [(.int (1 : Int32)), (.int (5 : Int32)), (.int (((p4.toUInt32 >>> ((8 : Int32) &&& 31).toUInt32).toInt32) &&& (255 : Int32))), (.int (1 : Int32))])) _
        refine XS.isub X9.here hx rfl (hb hby at_61) rfl ?_
        refine iremM X9 hx rfl (hb hby at_62) rfl (by decide) ?_
        refine XS.iadd X9.here hx rfl (hb hby at_63) rfl ?_
        refine XS.istore X9.here hx rfl (hb hby at_64) rfl (l' := #[.val (.int p0), .val (.int p1), .val (.int p2), .val (.int p3), .val (.int p4), .val (.ref b1), .val (.int (1 : Int32)), .val (.int ((1 : Int32) + ((((p4.toUInt32 >>> ((8 : Int32) &&& 31).toUInt32).toInt32) &&& (255 : Int32)) % (4 : Int32)))), .unset]) rfl ?_
        refine XS.iconst X9.here hx rfl (hb hby at_66) ?_
        refine XS.iload X9.here hx rfl (hb hby at_67) rfl ?_
        refine XS.iload X9.here hx rfl (hb hby at_69) rfl ?_
        refine XS.aload X9.here hx rfl (hb hby at_71) rfl rfl ?_
        show Steps p.tables e below (T9.setTop (mkF m 73 #[.val (.int p0), .val (.int p1), .val (.int p2), .val (.int p3), .val (.int p4), .val (.ref b1), .val (.int (1 : Int32)), .val (.int ((1 : Int32) + ((((p4.toUInt32 >>> ((8 : Int32) &&& 31).toUInt32).toInt32) &&& (255 : Int32)) % (4 : Int32)))), .unset] [(.ref b1), (.int ((1 : Int32) + ((((p4.toUInt32 >>> ((8 : Int32) &&& 31).toUInt32).toInt32) &&& (255 : Int32)) % (4 : Int32)))), (.int (1 : Int32)), (.int (0 : Int32))])) _
        refine XS.iconst X9.here hx rfl (hb hby at_73) ?_
        refine X9.baloadBytes hx (j := (0 : Int32)) (v := (.int ((F1 p0).toInt8.toInt32))) (by rw [e9]; exact Ar30.1) (State.isArrayOf_alike hZ8.alike Ar30.2.1) Ar30.2.2 hin30 hat30 (g := (mkF m 74 #[.val (.int p0), .val (.int p1), .val (.int p2), .val (.int p3), .val (.int p4), .val (.ref b1), .val (.int (1 : Int32)), .val (.int ((1 : Int32) + ((((p4.toUInt32 >>> ((8 : Int32) &&& 31).toUInt32).toInt32) &&& (255 : Int32)) % (4 : Int32)))), .unset] [(.int (0 : Int32)), (.ref b1), (.int ((1 : Int32) + ((((p4.toUInt32 >>> ((8 : Int32) &&& 31).toUInt32).toInt32) &&& (255 : Int32)) % (4 : Int32)))), (.int (1 : Int32)), (.int (0 : Int32))])) rfl rfl (hb hby at_74) _ ?_
        refine st31 _ ?_
        exact kt)
      obtain ⟨Tj42, lj42, Xj42, Nj42, ej42, pre42⟩ : ∃ (T' : State) (locs' : List Loc), Stand p l e room_1 (s.setVm T8.vm) m #[(.int p0), (.int p1), (.int p2), (.int p3), (.int p4)] below meth c T' locs' 9 612 ∧ Fr n0 locs' ∧ T'.heap = h9 ∧ ∀ t, Steps p.tables e below (T'.setTop (mkF m 131 #[.val (.int p0), .val (.int p1), .val (.int p2), .val (.int p3), .val (.int p4), .val (.ref b1), .val (.int (1 : Int32)), .val (.int ((1 : Int32) + ((((p4.toUInt32 >>> ((8 : Int32) &&& 31).toUInt32).toInt32) &&& (255 : Int32)) % (4 : Int32)))), .unset] [(.int (J0_78_S0_42 p0 p1 p2 p3 p4 wc fv))])) t → Steps p.tables e below (s₁.setTop (entryFrame m #[(.int p0), (.int p1), (.int p2), (.int p3), (.int p4)] maxLocals)) t := by
        by_cases hc78 : (F2 (0 : Int32) (1 : Int32) ((1 : Int32) + ((((p4.toUInt32 >>> ((8 : Int32) &&& 31).toUInt32).toInt32) &&& (255 : Int32)) % (4 : Int32))) ((F1 p0).toInt8.toInt32)) = (0 : Int32)
        · refine ⟨T31, _, X31, N31, e31, fun t kt => pre32 t ?_⟩
          show Steps p.tables e below (T31.setTop (mkF m 78 #[.val (.int p0), .val (.int p1), .val (.int p2), .val (.int p3), .val (.int p4), .val (.ref b1), .val (.int (1 : Int32)), .val (.int ((1 : Int32) + ((((p4.toUInt32 >>> ((8 : Int32) &&& 31).toUInt32).toInt32) &&& (255 : Int32)) % (4 : Int32)))), .unset] [(.int (F2 (0 : Int32) (1 : Int32) ((1 : Int32) + ((((p4.toUInt32 >>> ((8 : Int32) &&& 31).toUInt32).toInt32) &&& (255 : Int32)) % (4 : Int32))) ((F1 p0).toInt8.toInt32)))])) _
          refine XS.ifYes X31.here hx rfl (pc0 := 78) (pc' := 130) rfl (hb hby at_78) rfl ((if0 _ _).trans (teq hc78).1) (by decide) (by decide) ?_
          refine XS.iconst X31.here hx rfl (hb hby at_130) ?_
          show Steps p.tables e below (T31.setTop (mkF m 131 #[.val (.int p0), .val (.int p1), .val (.int p2), .val (.int p3), .val (.int p4), .val (.ref b1), .val (.int (1 : Int32)), .val (.int ((1 : Int32) + ((((p4.toUInt32 >>> ((8 : Int32) &&& 31).toUInt32).toInt32) &&& (255 : Int32)) % (4 : Int32)))), .unset] [(.int (0 : Int32))])) _
          have qjS0 : (J0_78_S0_42 p0 p1 p2 p3 p4 wc fv) = (0 : Int32) := by unfold J0_78_S0_42; simp only [if_true, if_false, if_pos hc78]
          rw [qjS0] at kt
          exact kt
        · obtain ⟨cl33, Ar33, qa33, S33, Nl33, H33, G33⟩ := id V9
          have hin33 : ¬ ((1 : Int32) < 0 ∨ cl33.slots.size ≤ ((1 : Int32)).toNatClampNeg) := inb_of S33 ⟨by decide, by decide⟩
          have hat33 : cl33.slots[((1 : Int32)).toNatClampNeg]? = some (.int ((F1 p1).toInt8.toInt32)) := Has.at H33 hin33 rfl
          obtain ⟨_, _, ⟨T34, L34, k34, n34⟩, -, X34, ⟨Lc34, hQ34, ll34, ly34, lz34⟩, st34⟩ := Jvm.LawKit.callS X31 hx (y := (⟨"com/example/standbye/standbye/TextInputIsNamePinLaw", "fine", "(IIIB)Z"⟩ : MethodName)) hown8 (mvT hZ8 (hw _ (List.mem_of_getElem? (i := 5) rfl))) (mvT hZ8 (hw _ (List.mem_of_getElem? (i := 6) rfl))) (mvT hZ8 (hw _ (List.mem_of_getElem? (i := 3) rfl))) (mvT hZ8 (hw _ (List.mem_of_getElem? (i := 7) rfl))) (by decide) (backOf (W := 0) (rm2 l Z a0 hw [] (1 : Int32) (1 : Int32) ((1 : Int32) + ((((p4.toUInt32 >>> ((8 : Int32) &&& 31).toUInt32).toInt32) &&& (255 : Int32)) % (4 : Int32))) ((F1 p1).toInt8.toInt32) h9 n0 (Nat.le_trans (Nat.le_trans (Nat.le_trans (Nat.le_trans (Nat.le_trans (Nat.le_trans (Nat.le_trans (Nat.le_trans (Nat.le_trans Z0 E1.1) K2c.1) (Keep.of_wr W3).1) K4c.1) (Keep.of_wr W5).1) K6c.1) (Keep.of_wr W7).1) K8c.1) (Keep.of_wr W9).1) ) hZ8 (hw _ (List.mem_of_getElem? (i := 7) rfl)) (hw _ (List.mem_of_getElem? (i := 3) rfl)) (by decide) (by decide)) (g := (mkF m 90 #[.val (.int p0), .val (.int p1), .val (.int p2), .val (.int p3), .val (.int p4), .val (.ref b1), .val (.int (1 : Int32)), .val (.int ((1 : Int32) + ((((p4.toUInt32 >>> ((8 : Int32) &&& 31).toUInt32).toInt32) &&& (255 : Int32)) % (4 : Int32)))), .unset] [(.int ((F1 p1).toInt8.toInt32)), (.int ((1 : Int32) + ((((p4.toUInt32 >>> ((8 : Int32) &&& 31).toUInt32).toInt32) &&& (255 : Int32)) % (4 : Int32)))), (.int (1 : Int32)), (.int (1 : Int32))])) rfl (by rw [hml]; rfl) (argsL := [(.int (1 : Int32)), (.int (1 : Int32)), (.int ((1 : Int32) + ((((p4.toUInt32 >>> ((8 : Int32) &&& 31).toUInt32).toInt32) &&& (255 : Int32)) % (4 : Int32)))), (.int ((F1 p1).toInt8.toInt32))]) (rest := []) (lenOf pd__IIIB_Z rfl) rfl (by show 2 * 0 + _ ≤ _; exact Nat.le_of_eq rfl) (hb hby at_90) (fun _ _ => ⟨rfl, e31, (by decide : 9 + 0 ≤ _), (by decide : 612 + 0 ≤ _)⟩)
          dsimp only [Pt.U, Pt.locs, Pt.cells, Pt.slots] at X34 ll34 ly34 lz34 st34 hQ34
          subst ll34 ly34 lz34
          obtain ⟨rfl, N34q, e34⟩ := hQ34
          have N34 := Fr.app N31 N34q
          have pre35 : ∀ t, Steps p.tables e below (T34.setTop (mkF m 93 #[.val (.int p0), .val (.int p1), .val (.int p2), .val (.int p3), .val (.int p4), .val (.ref b1), .val (.int (1 : Int32)), .val (.int ((1 : Int32) + ((((p4.toUInt32 >>> ((8 : Int32) &&& 31).toUInt32).toInt32) &&& (255 : Int32)) % (4 : Int32)))), .unset] [(.int (F2 (1 : Int32) (1 : Int32) ((1 : Int32) + ((((p4.toUInt32 >>> ((8 : Int32) &&& 31).toUInt32).toInt32) &&& (255 : Int32)) % (4 : Int32))) ((F1 p1).toInt8.toInt32)))])) t → Steps p.tables e below (s₁.setTop (entryFrame m #[(.int p0), (.int p1), (.int p2), (.int p3), (.int p4)] maxLocals)) t := fun t kt => pre32 t (by
            show Steps p.tables e below (T31.setTop (mkF m 78 #[.val (.int p0), .val (.int p1), .val (.int p2), .val (.int p3), .val (.int p4), .val (.ref b1), .val (.int (1 : Int32)), .val (.int ((1 : Int32) + ((((p4.toUInt32 >>> ((8 : Int32) &&& 31).toUInt32).toInt32) &&& (255 : Int32)) % (4 : Int32)))), .unset] [(.int (F2 (0 : Int32) (1 : Int32) ((1 : Int32) + ((((p4.toUInt32 >>> ((8 : Int32) &&& 31).toUInt32).toInt32) &&& (255 : Int32)) % (4 : Int32))) ((F1 p0).toInt8.toInt32)))])) _
            refine XS.ifNo X31.here hx rfl (hb hby at_78) rfl ((if0 _ _).trans (feq hc78).1) ?_
            refine XS.iconst X31.here hx rfl (hb hby at_81) ?_
            refine XS.iload X31.here hx rfl (hb hby at_82) rfl ?_
            refine XS.iload X31.here hx rfl (hb hby at_84) rfl ?_
            refine XS.aload X31.here hx rfl (hb hby at_86) rfl rfl ?_
            refine XS.iconst X31.here hx rfl (hb hby at_88) ?_
            refine X31.baloadBytes hx (j := (1 : Int32)) (v := (.int ((F1 p1).toInt8.toInt32))) (by rw [e31]; exact Ar33.1) (State.isArrayOf_alike hZ8.alike Ar33.2.1) Ar33.2.2 hin33 hat33 (g := (mkF m 89 #[.val (.int p0), .val (.int p1), .val (.int p2), .val (.int p3), .val (.int p4), .val (.ref b1), .val (.int (1 : Int32)), .val (.int ((1 : Int32) + ((((p4.toUInt32 >>> ((8 : Int32) &&& 31).toUInt32).toInt32) &&& (255 : Int32)) % (4 : Int32)))), .unset] [(.int (1 : Int32)), (.ref b1), (.int ((1 : Int32) + ((((p4.toUInt32 >>> ((8 : Int32) &&& 31).toUInt32).toInt32) &&& (255 : Int32)) % (4 : Int32)))), (.int (1 : Int32)), (.int (1 : Int32))])) rfl rfl (hb hby at_89) _ ?_
            refine st34 _ ?_
            exact kt)
          by_cases hc93 : (F2 (1 : Int32) (1 : Int32) ((1 : Int32) + ((((p4.toUInt32 >>> ((8 : Int32) &&& 31).toUInt32).toInt32) &&& (255 : Int32)) % (4 : Int32))) ((F1 p1).toInt8.toInt32)) = (0 : Int32)
          · refine ⟨T34, _, X34, N34, e34, fun t kt => pre35 t ?_⟩
            show Steps p.tables e below (T34.setTop (mkF m 93 #[.val (.int p0), .val (.int p1), .val (.int p2), .val (.int p3), .val (.int p4), .val (.ref b1), .val (.int (1 : Int32)), .val (.int ((1 : Int32) + ((((p4.toUInt32 >>> ((8 : Int32) &&& 31).toUInt32).toInt32) &&& (255 : Int32)) % (4 : Int32)))), .unset] [(.int (F2 (1 : Int32) (1 : Int32) ((1 : Int32) + ((((p4.toUInt32 >>> ((8 : Int32) &&& 31).toUInt32).toInt32) &&& (255 : Int32)) % (4 : Int32))) ((F1 p1).toInt8.toInt32)))])) _
            refine XS.ifYes X34.here hx rfl (pc0 := 93) (pc' := 130) rfl (hb hby at_93) rfl ((if0 _ _).trans (teq hc93).1) (by decide) (by decide) ?_
            refine XS.iconst X34.here hx rfl (hb hby at_130) ?_
            show Steps p.tables e below (T34.setTop (mkF m 131 #[.val (.int p0), .val (.int p1), .val (.int p2), .val (.int p3), .val (.int p4), .val (.ref b1), .val (.int (1 : Int32)), .val (.int ((1 : Int32) + ((((p4.toUInt32 >>> ((8 : Int32) &&& 31).toUInt32).toInt32) &&& (255 : Int32)) % (4 : Int32)))), .unset] [(.int (0 : Int32))])) _
            have qjS0 : (J0_78_S0_42 p0 p1 p2 p3 p4 wc fv) = (0 : Int32) := by unfold J0_78_S0_42; simp only [if_true, if_false, if_neg hc78, if_pos hc93]
            rw [qjS0] at kt
            exact kt
          · obtain ⟨cl36, Ar36, qa36, S36, Nl36, H36, G36⟩ := id V9
            have hin36 : ¬ ((2 : Int32) < 0 ∨ cl36.slots.size ≤ ((2 : Int32)).toNatClampNeg) := inb_of S36 ⟨by decide, by decide⟩
            have hat36 : cl36.slots[((2 : Int32)).toNatClampNeg]? = some (.int ((F1 p2).toInt8.toInt32)) := Has.at H36 hin36 rfl
            obtain ⟨_, _, ⟨T37, L37, k37, n37⟩, -, X37, ⟨Lc37, hQ37, ll37, ly37, lz37⟩, st37⟩ := Jvm.LawKit.callS X34 hx (y := (⟨"com/example/standbye/standbye/TextInputIsNamePinLaw", "fine", "(IIIB)Z"⟩ : MethodName)) hown8 (mvT hZ8 (hw _ (List.mem_of_getElem? (i := 5) rfl))) (mvT hZ8 (hw _ (List.mem_of_getElem? (i := 6) rfl))) (mvT hZ8 (hw _ (List.mem_of_getElem? (i := 3) rfl))) (mvT hZ8 (hw _ (List.mem_of_getElem? (i := 7) rfl))) (by decide) (backOf (W := 0) (rm2 l Z a0 hw [] (2 : Int32) (1 : Int32) ((1 : Int32) + ((((p4.toUInt32 >>> ((8 : Int32) &&& 31).toUInt32).toInt32) &&& (255 : Int32)) % (4 : Int32))) ((F1 p2).toInt8.toInt32) h9 n0 (Nat.le_trans (Nat.le_trans (Nat.le_trans (Nat.le_trans (Nat.le_trans (Nat.le_trans (Nat.le_trans (Nat.le_trans (Nat.le_trans Z0 E1.1) K2c.1) (Keep.of_wr W3).1) K4c.1) (Keep.of_wr W5).1) K6c.1) (Keep.of_wr W7).1) K8c.1) (Keep.of_wr W9).1) ) hZ8 (hw _ (List.mem_of_getElem? (i := 7) rfl)) (hw _ (List.mem_of_getElem? (i := 3) rfl)) (by decide) (by decide)) (g := (mkF m 105 #[.val (.int p0), .val (.int p1), .val (.int p2), .val (.int p3), .val (.int p4), .val (.ref b1), .val (.int (1 : Int32)), .val (.int ((1 : Int32) + ((((p4.toUInt32 >>> ((8 : Int32) &&& 31).toUInt32).toInt32) &&& (255 : Int32)) % (4 : Int32)))), .unset] [(.int ((F1 p2).toInt8.toInt32)), (.int ((1 : Int32) + ((((p4.toUInt32 >>> ((8 : Int32) &&& 31).toUInt32).toInt32) &&& (255 : Int32)) % (4 : Int32)))), (.int (1 : Int32)), (.int (2 : Int32))])) rfl (by rw [hml]; rfl) (argsL := [(.int (2 : Int32)), (.int (1 : Int32)), (.int ((1 : Int32) + ((((p4.toUInt32 >>> ((8 : Int32) &&& 31).toUInt32).toInt32) &&& (255 : Int32)) % (4 : Int32)))), (.int ((F1 p2).toInt8.toInt32))]) (rest := []) (lenOf pd__IIIB_Z rfl) rfl (by show 2 * 0 + _ ≤ _; exact Nat.le_of_eq rfl) (hb hby at_105) (fun _ _ => ⟨rfl, e34, (by decide : 9 + 0 ≤ _), (by decide : 612 + 0 ≤ _)⟩)
            dsimp only [Pt.U, Pt.locs, Pt.cells, Pt.slots] at X37 ll37 ly37 lz37 st37 hQ37
            subst ll37 ly37 lz37
            obtain ⟨rfl, N37q, e37⟩ := hQ37
            have N37 := Fr.app N34 N37q
            have pre38 : ∀ t, Steps p.tables e below (T37.setTop (mkF m 108 #[.val (.int p0), .val (.int p1), .val (.int p2), .val (.int p3), .val (.int p4), .val (.ref b1), .val (.int (1 : Int32)), .val (.int ((1 : Int32) + ((((p4.toUInt32 >>> ((8 : Int32) &&& 31).toUInt32).toInt32) &&& (255 : Int32)) % (4 : Int32)))), .unset] [(.int (F2 (2 : Int32) (1 : Int32) ((1 : Int32) + ((((p4.toUInt32 >>> ((8 : Int32) &&& 31).toUInt32).toInt32) &&& (255 : Int32)) % (4 : Int32))) ((F1 p2).toInt8.toInt32)))])) t → Steps p.tables e below (s₁.setTop (entryFrame m #[(.int p0), (.int p1), (.int p2), (.int p3), (.int p4)] maxLocals)) t := fun t kt => pre35 t (by
              show Steps p.tables e below (T34.setTop (mkF m 93 #[.val (.int p0), .val (.int p1), .val (.int p2), .val (.int p3), .val (.int p4), .val (.ref b1), .val (.int (1 : Int32)), .val (.int ((1 : Int32) + ((((p4.toUInt32 >>> ((8 : Int32) &&& 31).toUInt32).toInt32) &&& (255 : Int32)) % (4 : Int32)))), .unset] [(.int (F2 (1 : Int32) (1 : Int32) ((1 : Int32) + ((((p4.toUInt32 >>> ((8 : Int32) &&& 31).toUInt32).toInt32) &&& (255 : Int32)) % (4 : Int32))) ((F1 p1).toInt8.toInt32)))])) _
              refine XS.ifNo X34.here hx rfl (hb hby at_93) rfl ((if0 _ _).trans (feq hc93).1) ?_
              refine XS.iconst X34.here hx rfl (hb hby at_96) ?_
              refine XS.iload X34.here hx rfl (hb hby at_97) rfl ?_
              refine XS.iload X34.here hx rfl (hb hby at_99) rfl ?_
              refine XS.aload X34.here hx rfl (hb hby at_101) rfl rfl ?_
              refine XS.iconst X34.here hx rfl (hb hby at_103) ?_
              refine X34.baloadBytes hx (j := (2 : Int32)) (v := (.int ((F1 p2).toInt8.toInt32))) (by rw [e34]; exact Ar36.1) (State.isArrayOf_alike hZ8.alike Ar36.2.1) Ar36.2.2 hin36 hat36 (g := (mkF m 104 #[.val (.int p0), .val (.int p1), .val (.int p2), .val (.int p3), .val (.int p4), .val (.ref b1), .val (.int (1 : Int32)), .val (.int ((1 : Int32) + ((((p4.toUInt32 >>> ((8 : Int32) &&& 31).toUInt32).toInt32) &&& (255 : Int32)) % (4 : Int32)))), .unset] [(.int (2 : Int32)), (.ref b1), (.int ((1 : Int32) + ((((p4.toUInt32 >>> ((8 : Int32) &&& 31).toUInt32).toInt32) &&& (255 : Int32)) % (4 : Int32)))), (.int (1 : Int32)), (.int (2 : Int32))])) rfl rfl (hb hby at_104) _ ?_
              refine st37 _ ?_
              exact kt)
            by_cases hc108 : (F2 (2 : Int32) (1 : Int32) ((1 : Int32) + ((((p4.toUInt32 >>> ((8 : Int32) &&& 31).toUInt32).toInt32) &&& (255 : Int32)) % (4 : Int32))) ((F1 p2).toInt8.toInt32)) = (0 : Int32)
            · refine ⟨T37, _, X37, N37, e37, fun t kt => pre38 t ?_⟩
              show Steps p.tables e below (T37.setTop (mkF m 108 #[.val (.int p0), .val (.int p1), .val (.int p2), .val (.int p3), .val (.int p4), .val (.ref b1), .val (.int (1 : Int32)), .val (.int ((1 : Int32) + ((((p4.toUInt32 >>> ((8 : Int32) &&& 31).toUInt32).toInt32) &&& (255 : Int32)) % (4 : Int32)))), .unset] [(.int (F2 (2 : Int32) (1 : Int32) ((1 : Int32) + ((((p4.toUInt32 >>> ((8 : Int32) &&& 31).toUInt32).toInt32) &&& (255 : Int32)) % (4 : Int32))) ((F1 p2).toInt8.toInt32)))])) _
              refine XS.ifYes X37.here hx rfl (pc0 := 108) (pc' := 130) rfl (hb hby at_108) rfl ((if0 _ _).trans (teq hc108).1) (by decide) (by decide) ?_
              refine XS.iconst X37.here hx rfl (hb hby at_130) ?_
              show Steps p.tables e below (T37.setTop (mkF m 131 #[.val (.int p0), .val (.int p1), .val (.int p2), .val (.int p3), .val (.int p4), .val (.ref b1), .val (.int (1 : Int32)), .val (.int ((1 : Int32) + ((((p4.toUInt32 >>> ((8 : Int32) &&& 31).toUInt32).toInt32) &&& (255 : Int32)) % (4 : Int32)))), .unset] [(.int (0 : Int32))])) _
              have qjS0 : (J0_78_S0_42 p0 p1 p2 p3 p4 wc fv) = (0 : Int32) := by unfold J0_78_S0_42; simp only [if_true, if_false, if_neg hc78, if_neg hc93, if_pos hc108]
              rw [qjS0] at kt
              exact kt
            · obtain ⟨cl39, Ar39, qa39, S39, Nl39, H39, G39⟩ := id V9
              have hin39 : ¬ ((3 : Int32) < 0 ∨ cl39.slots.size ≤ ((3 : Int32)).toNatClampNeg) := inb_of S39 ⟨by decide, by decide⟩
              have hat39 : cl39.slots[((3 : Int32)).toNatClampNeg]? = some (.int ((F1 p3).toInt8.toInt32)) := Has.at H39 hin39 rfl
              obtain ⟨_, _, ⟨T40, L40, k40, n40⟩, -, X40, ⟨Lc40, hQ40, ll40, ly40, lz40⟩, st40⟩ := Jvm.LawKit.callS X37 hx (y := (⟨"com/example/standbye/standbye/TextInputIsNamePinLaw", "fine", "(IIIB)Z"⟩ : MethodName)) hown8 (mvT hZ8 (hw _ (List.mem_of_getElem? (i := 5) rfl))) (mvT hZ8 (hw _ (List.mem_of_getElem? (i := 6) rfl))) (mvT hZ8 (hw _ (List.mem_of_getElem? (i := 3) rfl))) (mvT hZ8 (hw _ (List.mem_of_getElem? (i := 7) rfl))) (by decide) (backOf (W := 0) (rm2 l Z a0 hw [] (3 : Int32) (1 : Int32) ((1 : Int32) + ((((p4.toUInt32 >>> ((8 : Int32) &&& 31).toUInt32).toInt32) &&& (255 : Int32)) % (4 : Int32))) ((F1 p3).toInt8.toInt32) h9 n0 (Nat.le_trans (Nat.le_trans (Nat.le_trans (Nat.le_trans (Nat.le_trans (Nat.le_trans (Nat.le_trans (Nat.le_trans (Nat.le_trans Z0 E1.1) K2c.1) (Keep.of_wr W3).1) K4c.1) (Keep.of_wr W5).1) K6c.1) (Keep.of_wr W7).1) K8c.1) (Keep.of_wr W9).1) ) hZ8 (hw _ (List.mem_of_getElem? (i := 7) rfl)) (hw _ (List.mem_of_getElem? (i := 3) rfl)) (by decide) (by decide)) (g := (mkF m 120 #[.val (.int p0), .val (.int p1), .val (.int p2), .val (.int p3), .val (.int p4), .val (.ref b1), .val (.int (1 : Int32)), .val (.int ((1 : Int32) + ((((p4.toUInt32 >>> ((8 : Int32) &&& 31).toUInt32).toInt32) &&& (255 : Int32)) % (4 : Int32)))), .unset] [(.int ((F1 p3).toInt8.toInt32)), (.int ((1 : Int32) + ((((p4.toUInt32 >>> ((8 : Int32) &&& 31).toUInt32).toInt32) &&& (255 : Int32)) % (4 : Int32)))), (.int (1 : Int32)), (.int (3 : Int32))])) rfl (by rw [hml]; rfl) (argsL := [(.int (3 : Int32)), (.int (1 : Int32)), (.int ((1 : Int32) + ((((p4.toUInt32 >>> ((8 : Int32) &&& 31).toUInt32).toInt32) &&& (255 : Int32)) % (4 : Int32)))), (.int ((F1 p3).toInt8.toInt32))]) (rest := []) (lenOf pd__IIIB_Z rfl) rfl (by show 2 * 0 + _ ≤ _; exact Nat.le_of_eq rfl) (hb hby at_120) (fun _ _ => ⟨rfl, e37, (by decide : 9 + 0 ≤ _), (by decide : 612 + 0 ≤ _)⟩)
              dsimp only [Pt.U, Pt.locs, Pt.cells, Pt.slots] at X40 ll40 ly40 lz40 st40 hQ40
              subst ll40 ly40 lz40
              obtain ⟨rfl, N40q, e40⟩ := hQ40
              have N40 := Fr.app N37 N40q
              have pre41 : ∀ t, Steps p.tables e below (T40.setTop (mkF m 123 #[.val (.int p0), .val (.int p1), .val (.int p2), .val (.int p3), .val (.int p4), .val (.ref b1), .val (.int (1 : Int32)), .val (.int ((1 : Int32) + ((((p4.toUInt32 >>> ((8 : Int32) &&& 31).toUInt32).toInt32) &&& (255 : Int32)) % (4 : Int32)))), .unset] [(.int (F2 (3 : Int32) (1 : Int32) ((1 : Int32) + ((((p4.toUInt32 >>> ((8 : Int32) &&& 31).toUInt32).toInt32) &&& (255 : Int32)) % (4 : Int32))) ((F1 p3).toInt8.toInt32)))])) t → Steps p.tables e below (s₁.setTop (entryFrame m #[(.int p0), (.int p1), (.int p2), (.int p3), (.int p4)] maxLocals)) t := fun t kt => pre38 t (by
                show Steps p.tables e below (T37.setTop (mkF m 108 #[.val (.int p0), .val (.int p1), .val (.int p2), .val (.int p3), .val (.int p4), .val (.ref b1), .val (.int (1 : Int32)), .val (.int ((1 : Int32) + ((((p4.toUInt32 >>> ((8 : Int32) &&& 31).toUInt32).toInt32) &&& (255 : Int32)) % (4 : Int32)))), .unset] [(.int (F2 (2 : Int32) (1 : Int32) ((1 : Int32) + ((((p4.toUInt32 >>> ((8 : Int32) &&& 31).toUInt32).toInt32) &&& (255 : Int32)) % (4 : Int32))) ((F1 p2).toInt8.toInt32)))])) _
                refine XS.ifNo X37.here hx rfl (hb hby at_108) rfl ((if0 _ _).trans (feq hc108).1) ?_
                refine XS.iconst X37.here hx rfl (hb hby at_111) ?_
                refine XS.iload X37.here hx rfl (hb hby at_112) rfl ?_
                refine XS.iload X37.here hx rfl (hb hby at_114) rfl ?_
                refine XS.aload X37.here hx rfl (hb hby at_116) rfl rfl ?_
                refine XS.iconst X37.here hx rfl (hb hby at_118) ?_
                refine X37.baloadBytes hx (j := (3 : Int32)) (v := (.int ((F1 p3).toInt8.toInt32))) (by rw [e37]; exact Ar39.1) (State.isArrayOf_alike hZ8.alike Ar39.2.1) Ar39.2.2 hin39 hat39 (g := (mkF m 119 #[.val (.int p0), .val (.int p1), .val (.int p2), .val (.int p3), .val (.int p4), .val (.ref b1), .val (.int (1 : Int32)), .val (.int ((1 : Int32) + ((((p4.toUInt32 >>> ((8 : Int32) &&& 31).toUInt32).toInt32) &&& (255 : Int32)) % (4 : Int32)))), .unset] [(.int (3 : Int32)), (.ref b1), (.int ((1 : Int32) + ((((p4.toUInt32 >>> ((8 : Int32) &&& 31).toUInt32).toInt32) &&& (255 : Int32)) % (4 : Int32)))), (.int (1 : Int32)), (.int (3 : Int32))])) rfl rfl (hb hby at_119) _ ?_
                refine st40 _ ?_
                exact kt)
              by_cases hc123 : (F2 (3 : Int32) (1 : Int32) ((1 : Int32) + ((((p4.toUInt32 >>> ((8 : Int32) &&& 31).toUInt32).toInt32) &&& (255 : Int32)) % (4 : Int32))) ((F1 p3).toInt8.toInt32)) = (0 : Int32)
              · refine ⟨T40, _, X40, N40, e40, fun t kt => pre41 t ?_⟩
                show Steps p.tables e below (T40.setTop (mkF m 123 #[.val (.int p0), .val (.int p1), .val (.int p2), .val (.int p3), .val (.int p4), .val (.ref b1), .val (.int (1 : Int32)), .val (.int ((1 : Int32) + ((((p4.toUInt32 >>> ((8 : Int32) &&& 31).toUInt32).toInt32) &&& (255 : Int32)) % (4 : Int32)))), .unset] [(.int (F2 (3 : Int32) (1 : Int32) ((1 : Int32) + ((((p4.toUInt32 >>> ((8 : Int32) &&& 31).toUInt32).toInt32) &&& (255 : Int32)) % (4 : Int32))) ((F1 p3).toInt8.toInt32)))])) _
                refine XS.ifYes X40.here hx rfl (pc0 := 123) (pc' := 130) rfl (hb hby at_123) rfl ((if0 _ _).trans (teq hc123).1) (by decide) (by decide) ?_
                refine XS.iconst X40.here hx rfl (hb hby at_130) ?_
                show Steps p.tables e below (T40.setTop (mkF m 131 #[.val (.int p0), .val (.int p1), .val (.int p2), .val (.int p3), .val (.int p4), .val (.ref b1), .val (.int (1 : Int32)), .val (.int ((1 : Int32) + ((((p4.toUInt32 >>> ((8 : Int32) &&& 31).toUInt32).toInt32) &&& (255 : Int32)) % (4 : Int32)))), .unset] [(.int (0 : Int32))])) _
                have qjS0 : (J0_78_S0_42 p0 p1 p2 p3 p4 wc fv) = (0 : Int32) := by unfold J0_78_S0_42; simp only [if_true, if_false, if_neg hc78, if_neg hc93, if_neg hc108, if_pos hc123]
                rw [qjS0] at kt
                exact kt
              · refine ⟨T40, _, X40, N40, e40, fun t kt => pre41 t ?_⟩
                show Steps p.tables e below (T40.setTop (mkF m 123 #[.val (.int p0), .val (.int p1), .val (.int p2), .val (.int p3), .val (.int p4), .val (.ref b1), .val (.int (1 : Int32)), .val (.int ((1 : Int32) + ((((p4.toUInt32 >>> ((8 : Int32) &&& 31).toUInt32).toInt32) &&& (255 : Int32)) % (4 : Int32)))), .unset] [(.int (F2 (3 : Int32) (1 : Int32) ((1 : Int32) + ((((p4.toUInt32 >>> ((8 : Int32) &&& 31).toUInt32).toInt32) &&& (255 : Int32)) % (4 : Int32))) ((F1 p3).toInt8.toInt32)))])) _
                refine XS.ifNo X40.here hx rfl (hb hby at_123) rfl ((if0 _ _).trans (feq hc123).1) ?_
                refine XS.iconst X40.here hx rfl (hb hby at_126) ?_
                refine XS.goto X40.here hx rfl (pc0 := 127) (pc' := 131) rfl (hb hby at_127) (by decide) (by decide) ?_
                show Steps p.tables e below (T40.setTop (mkF m 131 #[.val (.int p0), .val (.int p1), .val (.int p2), .val (.int p3), .val (.int p4), .val (.ref b1), .val (.int (1 : Int32)), .val (.int ((1 : Int32) + ((((p4.toUInt32 >>> ((8 : Int32) &&& 31).toUInt32).toInt32) &&& (255 : Int32)) % (4 : Int32)))), .unset] [(.int (1 : Int32))])) _
                have qjS0 : (J0_78_S0_42 p0 p1 p2 p3 p4 wc fv) = (1 : Int32) := by unfold J0_78_S0_42; simp only [if_true, if_false, if_neg hc78, if_neg hc93, if_neg hc108, if_neg hc123]
                rw [qjS0] at kt
                exact kt
      obtain ⟨_, _, ⟨T43, L43, k43, n43⟩, -, X43, ⟨Lc43, hQ43, ll43, ly43, lz43⟩, st43⟩ := Jvm.LawKit.callS Xj42 hx (y := (⟨"com/example/standbye/standbye/TextInput", "isName", "([BII)Z"⟩ : MethodName)) hown8 (mvT hZ8 (hw _ (List.mem_of_getElem? (i := 8) rfl))) (mvT hZ8 (hw _ (List.mem_of_getElem? (i := 9) rfl))) (mvT hZ8 (hw _ (List.mem_of_getElem? (i := 10) rfl))) (mvT hZ8 (hw _ (List.mem_of_getElem? (i := 11) rfl))) (by decide) (backOf (W := 0) (rm3s1 l Z a0 hw [] b1 ((1 : Int32) + ((((p4.toUInt32 >>> ((8 : Int32) &&& 31).toUInt32).toInt32) &&& (255 : Int32)) % (4 : Int32))) k1 ((F1 p0).toInt8.toInt32) ((F1 p1).toInt8.toInt32) ((F1 p2).toInt8.toInt32) ((F1 p3).toInt8.toInt32) h9 n0 (Nat.le_trans (Nat.le_trans (Nat.le_trans (Nat.le_trans (Nat.le_trans (Nat.le_trans (Nat.le_trans (Nat.le_trans (Nat.le_trans Z0 E1.1) K2c.1) (Keep.of_wr W3).1) K4c.1) (Keep.of_wr W5).1) K6c.1) (Keep.of_wr W7).1) K8c.1) (Keep.of_wr W9).1) V9 (own_le1 p4)) hZ8 (hw _ (List.mem_of_getElem? (i := 11) rfl)) (hw _ (List.mem_of_getElem? (i := 10) rfl)) (by decide) (by decide)) (g := (mkF m 139 #[.val (.int p0), .val (.int p1), .val (.int p2), .val (.int p3), .val (.int p4), .val (.ref b1), .val (.int (1 : Int32)), .val (.int ((1 : Int32) + ((((p4.toUInt32 >>> ((8 : Int32) &&& 31).toUInt32).toInt32) &&& (255 : Int32)) % (4 : Int32)))), .val (.int (J0_78_S0_42 p0 p1 p2 p3 p4 wc fv))] [(.int ((1 : Int32) + ((((p4.toUInt32 >>> ((8 : Int32) &&& 31).toUInt32).toInt32) &&& (255 : Int32)) % (4 : Int32)))), (.int (1 : Int32)), (.ref b1)])) rfl (by rw [hml]; rfl) (argsL := [(.ref b1), (.int (1 : Int32)), (.int ((1 : Int32) + ((((p4.toUInt32 >>> ((8 : Int32) &&& 31).toUInt32).toInt32) &&& (255 : Int32)) % (4 : Int32))))]) (rest := []) (lenOf pd___BII_Z rfl) rfl (by show 2 * 0 + _ ≤ _; exact Nat.le_of_eq rfl) (hb hby at_139) (fun _ _ => ⟨rfl, ej42, (by decide : 9 + 0 ≤ _), (by decide : 612 + 0 ≤ _)⟩)
      dsimp only [Pt.U, Pt.locs, Pt.cells, Pt.slots] at X43 ll43 ly43 lz43 st43 hQ43
      subst ll43 ly43 lz43
      obtain ⟨rfl, N43q, e43⟩ := hQ43
      have N43 := Fr.app Nj42 N43q
      have pre44 : ∀ t, Steps p.tables e below (T43.setTop (mkF m 144 #[.val (.int p0), .val (.int p1), .val (.int p2), .val (.int p3), .val (.int p4), .val (.ref b1), .val (.int (1 : Int32)), .val (.int ((1 : Int32) + ((((p4.toUInt32 >>> ((8 : Int32) &&& 31).toUInt32).toInt32) &&& (255 : Int32)) % (4 : Int32)))), .val (.int (J0_78_S0_42 p0 p1 p2 p3 p4 wc fv))] [(.int (J0_78_S0_42 p0 p1 p2 p3 p4 wc fv)), (.int (F3s1 ((1 : Int32) + ((((p4.toUInt32 >>> ((8 : Int32) &&& 31).toUInt32).toInt32) &&& (255 : Int32)) % (4 : Int32))) ((F1 p0).toInt8.toInt32) ((F1 p1).toInt8.toInt32) ((F1 p2).toInt8.toInt32) ((F1 p3).toInt8.toInt32)))])) t → Steps p.tables e below (s₁.setTop (entryFrame m #[(.int p0), (.int p1), (.int p2), (.int p3), (.int p4)] maxLocals)) t := fun t kt => pre42 t (by
        show Steps p.tables e below (Tj42.setTop (mkF m 131 #[.val (.int p0), .val (.int p1), .val (.int p2), .val (.int p3), .val (.int p4), .val (.ref b1), .val (.int (1 : Int32)), .val (.int ((1 : Int32) + ((((p4.toUInt32 >>> ((8 : Int32) &&& 31).toUInt32).toInt32) &&& (255 : Int32)) % (4 : Int32)))), .unset] [(.int (J0_78_S0_42 p0 p1 p2 p3 p4 wc fv))])) _
        refine XS.istore Xj42.here hx rfl (hb hby at_131) rfl (l' := #[.val (.int p0), .val (.int p1), .val (.int p2), .val (.int p3), .val (.int p4), .val (.ref b1), .val (.int (1 : Int32)), .val (.int ((1 : Int32) + ((((p4.toUInt32 >>> ((8 : Int32) &&& 31).toUInt32).toInt32) &&& (255 : Int32)) % (4 : Int32)))), .val (.int (J0_78_S0_42 p0 p1 p2 p3 p4 wc fv))]) rfl ?_
        refine XS.aload Xj42.here hx rfl (hb hby at_133) rfl rfl ?_
        refine XS.iload Xj42.here hx rfl (hb hby at_135) rfl ?_
        refine XS.iload Xj42.here hx rfl (hb hby at_137) rfl ?_
        refine st43 _ ?_
        refine XS.iload X43.here hx rfl (hb hby at_142) rfl ?_
        exact kt)
      by_cases hc144 : (F3s1 ((1 : Int32) + ((((p4.toUInt32 >>> ((8 : Int32) &&& 31).toUInt32).toInt32) &&& (255 : Int32)) % (4 : Int32))) ((F1 p0).toInt8.toInt32) ((F1 p1).toInt8.toInt32) ((F1 p2).toInt8.toInt32) ((F1 p3).toInt8.toInt32)) = (J0_78_S0_42 p0 p1 p2 p3 p4 wc fv)
      · obtain ⟨fs, hr, hrun, hended, hEnd⟩ := X43.leaveW hS8 (by rw [e43]; exact (Nat.le_trans (Nat.le_refl T8.heap.size) (Keep.of_wr W9).1)) (v := some (.int (1 : Int32))) (fun h => by rw [Bd.returns] at h; cases h)
        have CRe := CHr.trans CR9 (CHv.at X43 hZ8 hEL CR9.1)
        refine ⟨_, _, pre44 _ ?_, hrun, hended, _, _, rfl, ?_, ?_, hEnd.1, hEnd.2.1, hEnd.2.2.1, hEnd.2.2.2.mono (by decide) (by decide)⟩
        · show Steps p.tables e below (T43.setTop (mkF m 144 #[.val (.int p0), .val (.int p1), .val (.int p2), .val (.int p3), .val (.int p4), .val (.ref b1), .val (.int (1 : Int32)), .val (.int ((1 : Int32) + ((((p4.toUInt32 >>> ((8 : Int32) &&& 31).toUInt32).toInt32) &&& (255 : Int32)) % (4 : Int32)))), .val (.int (J0_78_S0_42 p0 p1 p2 p3 p4 wc fv))] [(.int (J0_78_S0_42 p0 p1 p2 p3 p4 wc fv)), (.int (F3s1 ((1 : Int32) + ((((p4.toUInt32 >>> ((8 : Int32) &&& 31).toUInt32).toInt32) &&& (255 : Int32)) % (4 : Int32))) ((F1 p0).toInt8.toInt32) ((F1 p1).toInt8.toInt32) ((F1 p2).toInt8.toInt32) ((F1 p3).toInt8.toInt32)))])) _
          refine XS.icmpNo X43.here hx rfl (hb hby at_144) rfl (teq hc144).2 ?_
          refine XS.iconst X43.here hx rfl (hb hby at_147) ?_
          refine XS.goto X43.here hx rfl (pc0 := 148) (pc' := 152) rfl (hb hby at_148) (by decide) (by decide) ?_
          show Steps p.tables e below (T43.setTop (mkF m 152 #[.val (.int p0), .val (.int p1), .val (.int p2), .val (.int p3), .val (.int p4), .val (.ref b1), .val (.int (1 : Int32)), .val (.int ((1 : Int32) + ((((p4.toUInt32 >>> ((8 : Int32) &&& 31).toUInt32).toInt32) &&& (255 : Int32)) % (4 : Int32)))), .val (.int (J0_78_S0_42 p0 p1 p2 p3 p4 wc fv))] [(.int (1 : Int32))])) _
          exact retN X43 hx (t := .boolean) Bd.returns (by simp) (hb hby at_152) hr
        · show Q0 Z p0 p1 p2 p3 p4 wc fv h0 n0 _ T43.heap _
          rw [e43]
          exact ⟨(by unfold F0; simp only [if_neg hs0, if_pos hs1, if_pos hc144]), N43⟩
        · show CHr Z ELs s.vm s.heap T43.vm T43.heap
          rw [hh, e43]; exact CRe
      · obtain ⟨fs, hr, hrun, hended, hEnd⟩ := X43.leaveW hS8 (by rw [e43]; exact (Nat.le_trans (Nat.le_refl T8.heap.size) (Keep.of_wr W9).1)) (v := some (.int (0 : Int32))) (fun h => by rw [Bd.returns] at h; cases h)
        have CRe := CHr.trans CR9 (CHv.at X43 hZ8 hEL CR9.1)
        refine ⟨_, _, pre44 _ ?_, hrun, hended, _, _, rfl, ?_, ?_, hEnd.1, hEnd.2.1, hEnd.2.2.1, hEnd.2.2.2.mono (by decide) (by decide)⟩
        · show Steps p.tables e below (T43.setTop (mkF m 144 #[.val (.int p0), .val (.int p1), .val (.int p2), .val (.int p3), .val (.int p4), .val (.ref b1), .val (.int (1 : Int32)), .val (.int ((1 : Int32) + ((((p4.toUInt32 >>> ((8 : Int32) &&& 31).toUInt32).toInt32) &&& (255 : Int32)) % (4 : Int32)))), .val (.int (J0_78_S0_42 p0 p1 p2 p3 p4 wc fv))] [(.int (J0_78_S0_42 p0 p1 p2 p3 p4 wc fv)), (.int (F3s1 ((1 : Int32) + ((((p4.toUInt32 >>> ((8 : Int32) &&& 31).toUInt32).toInt32) &&& (255 : Int32)) % (4 : Int32))) ((F1 p0).toInt8.toInt32) ((F1 p1).toInt8.toInt32) ((F1 p2).toInt8.toInt32) ((F1 p3).toInt8.toInt32)))])) _
          refine XS.icmpYes X43.here hx rfl (pc0 := 144) (pc' := 151) rfl (hb hby at_144) rfl (feq hc144).2 (by decide) (by decide) ?_
          refine XS.iconst X43.here hx rfl (hb hby at_151) ?_
          show Steps p.tables e below (T43.setTop (mkF m 152 #[.val (.int p0), .val (.int p1), .val (.int p2), .val (.int p3), .val (.int p4), .val (.ref b1), .val (.int (1 : Int32)), .val (.int ((1 : Int32) + ((((p4.toUInt32 >>> ((8 : Int32) &&& 31).toUInt32).toInt32) &&& (255 : Int32)) % (4 : Int32)))), .val (.int (J0_78_S0_42 p0 p1 p2 p3 p4 wc fv))] [(.int (0 : Int32))])) _
          exact retN X43 hx (t := .boolean) Bd.returns (by simp) (hb hby at_152) hr
        · show Q0 Z p0 p1 p2 p3 p4 wc fv h0 n0 _ T43.heap _
          rw [e43]
          exact ⟨(by unfold F0; simp only [if_neg hs0, if_pos hs1, if_neg hc144]), N43⟩
        · show CHr Z ELs s.vm s.heap T43.vm T43.heap
          rw [hh, e43]; exact CRe
    · by_cases hs2 : (A0_45 p0 p1 p2 p3 p4 wc fv) = (2 : Int32)
      · have qr45 : (A0_45 p0 p1 p2 p3 p4 wc fv) = (2 : Int32) := hs2
        have pre46 : ∀ t, Steps p.tables e below (T9.setTop (mkF m 47 #[.val (.int p0), .val (.int p1), .val (.int p2), .val (.int p3), .val (.int p4), .val (.ref b1), .val (.int (2 : Int32)), .unset, .unset] [])) t → Steps p.tables e below (s₁.setTop (entryFrame m #[(.int p0), (.int p1), (.int p2), (.int p3), (.int p4)] maxLocals)) t := fun t kt => pre10 t (by rw [qr45]; exact kt)
        obtain ⟨cl47, Ar47, qa47, S47, Nl47, H47, G47⟩ := id V9
        have hin47 : ¬ ((0 : Int32) < 0 ∨ cl47.slots.size ≤ ((0 : Int32)).toNatClampNeg) := inb_of S47 ⟨by decide, by decide⟩
        have hat47 : cl47.slots[((0 : Int32)).toNatClampNeg]? = some (.int ((F1 p0).toInt8.toInt32)) := Has.at H47 hin47 rfl
        obtain ⟨_, _, ⟨T48, L48, k48, n48⟩, -, X48, ⟨Lc48, hQ48, ll48, ly48, lz48⟩, st48⟩ := Jvm.LawKit.callS X9 hx (y := (⟨"com/example/standbye/standbye/TextInputIsNamePinLaw", "fine", "(IIIB)Z"⟩ : MethodName)) hown8 (mvT hZ8 (hw _ (List.mem_of_getElem? (i := 5) rfl))) (mvT hZ8 (hw _ (List.mem_of_getElem? (i := 6) rfl))) (mvT hZ8 (hw _ (List.mem_of_getElem? (i := 3) rfl))) (mvT hZ8 (hw _ (List.mem_of_getElem? (i := 7) rfl))) (by decide) (backOf (W := 0) (rm2 l Z a0 hw [] (0 : Int32) (2 : Int32) ((2 : Int32) + ((((p4.toUInt32 >>> ((8 : Int32) &&& 31).toUInt32).toInt32) &&& (255 : Int32)) % (3 : Int32))) ((F1 p0).toInt8.toInt32) h9 n0 (Nat.le_trans (Nat.le_trans (Nat.le_trans (Nat.le_trans (Nat.le_trans (Nat.le_trans (Nat.le_trans (Nat.le_trans (Nat.le_trans Z0 E1.1) K2c.1) (Keep.of_wr W3).1) K4c.1) (Keep.of_wr W5).1) K6c.1) (Keep.of_wr W7).1) K8c.1) (Keep.of_wr W9).1) ) hZ8 (hw _ (List.mem_of_getElem? (i := 7) rfl)) (hw _ (List.mem_of_getElem? (i := 3) rfl)) (by decide) (by decide)) (g := (mkF m 75 #[.val (.int p0), .val (.int p1), .val (.int p2), .val (.int p3), .val (.int p4), .val (.ref b1), .val (.int (2 : Int32)), .val (.int ((2 : Int32) + ((((p4.toUInt32 >>> ((8 : Int32) &&& 31).toUInt32).toInt32) &&& (255 : Int32)) % (3 : Int32)))), .unset] [(.int ((F1 p0).toInt8.toInt32)), (.int ((2 : Int32) + ((((p4.toUInt32 >>> ((8 : Int32) &&& 31).toUInt32).toInt32) &&& (255 : Int32)) % (3 : Int32)))), (.int (2 : Int32)), (.int (0 : Int32))])) rfl (by rw [hml]; rfl) (argsL := [(.int (0 : Int32)), (.int (2 : Int32)), (.int ((2 : Int32) + ((((p4.toUInt32 >>> ((8 : Int32) &&& 31).toUInt32).toInt32) &&& (255 : Int32)) % (3 : Int32)))), (.int ((F1 p0).toInt8.toInt32))]) (rest := []) (lenOf pd__IIIB_Z rfl) rfl (by show 2 * 0 + _ ≤ _; exact Nat.le_of_eq rfl) (hb hby at_75) (fun _ _ => ⟨rfl, e9, (by decide : 9 + 0 ≤ _), (by decide : 612 + 0 ≤ _)⟩)
        dsimp only [Pt.U, Pt.locs, Pt.cells, Pt.slots] at X48 ll48 ly48 lz48 st48 hQ48
        subst ll48 ly48 lz48
        obtain ⟨rfl, N48q, e48⟩ := hQ48
        have N48 := Fr.app N9 N48q
        have pre49 : ∀ t, Steps p.tables e below (T48.setTop (mkF m 78 #[.val (.int p0), .val (.int p1), .val (.int p2), .val (.int p3), .val (.int p4), .val (.ref b1), .val (.int (2 : Int32)), .val (.int ((2 : Int32) + ((((p4.toUInt32 >>> ((8 : Int32) &&& 31).toUInt32).toInt32) &&& (255 : Int32)) % (3 : Int32)))), .unset] [(.int (F2 (0 : Int32) (2 : Int32) ((2 : Int32) + ((((p4.toUInt32 >>> ((8 : Int32) &&& 31).toUInt32).toInt32) &&& (255 : Int32)) % (3 : Int32))) ((F1 p0).toInt8.toInt32)))])) t → Steps p.tables e below (s₁.setTop (entryFrame m #[(.int p0), (.int p1), (.int p2), (.int p3), (.int p4)] maxLocals)) t := fun t kt => pre46 t (by
          show Steps p.tables e below (T9.setTop (mkF m 47 #[.val (.int p0), .val (.int p1), .val (.int p2), .val (.int p3), .val (.int p4), .val (.ref b1), .val (.int (2 : Int32)), .unset, .unset] [])) _
          refine XS.iload X9.here hx rfl (hb hby at_47) rfl ?_
          refine XS.iload X9.here hx rfl (hb hby at_49) rfl ?_
          refine XS.bipush X9.here hx rfl (hb hby at_51) ?_
          refine XS.iushr X9.here hx rfl (hb hby at_53) rfl ?_
          refine XS.sipush X9.here hx rfl (hb hby at_54) ?_
          refine XS.iand X9.here hx rfl (hb hby at_57) rfl ?_
          refine XS.iconst X9.here hx rfl (hb hby at_58) ?_
          refine XS.iload X9.here hx rfl (hb hby at_59) rfl ?_
          show Steps p.tables e below (T9.setTop (mkF m 61 #[.val (.int p0), .val (.int p1), .val (.int p2), .val (.int p3), .val (.int p4), .val (.ref b1), .val (.int (2 : Int32)), .unset, .unset] [(.int (2 : Int32)), (.int (5 : Int32)), (.int (((p4.toUInt32 >>> ((8 : Int32) &&& 31).toUInt32).toInt32) &&& (255 : Int32))), (.int (2 : Int32))])) _
          refine XS.isub X9.here hx rfl (hb hby at_61) rfl ?_
          refine iremM X9 hx rfl (hb hby at_62) rfl (by decide) ?_
          refine XS.iadd X9.here hx rfl (hb hby at_63) rfl ?_
          refine XS.istore X9.here hx rfl (hb hby at_64) rfl (l' := #[.val (.int p0), .val (.int p1), .val (.int p2), .val (.int p3), .val (.int p4), .val (.ref b1), .val (.int (2 : Int32)), .val (.int ((2 : Int32) + ((((p4.toUInt32 >>> ((8 : Int32) &&& 31).toUInt32).toInt32) &&& (255 : Int32)) % (3 : Int32)))), .unset]) rfl ?_
          refine XS.iconst X9.here hx rfl (hb hby at_66) ?_
          refine XS.iload X9.here hx rfl (hb hby at_67) rfl ?_
          refine XS.iload X9.here hx rfl (hb hby at_69) rfl ?_
          refine XS.aload X9.here hx rfl (hb hby at_71) rfl rfl ?_
          show Steps p.tables e below (T9.setTop (mkF m 73 #[.val (.int p0), .val (.int p1), .val (.int p2), .val (.int p3), .val (.int p4), .val (.ref b1), .val (.int (2 : Int32)), .val (.int ((2 : Int32) + ((((p4.toUInt32 >>> ((8 : Int32) &&& 31).toUInt32).toInt32) &&& (255 : Int32)) % (3 : Int32)))), .unset] [(.ref b1), (.int ((2 : Int32) + ((((p4.toUInt32 >>> ((8 : Int32) &&& 31).toUInt32).toInt32) &&& (255 : Int32)) % (3 : Int32)))), (.int (2 : Int32)), (.int (0 : Int32))])) _
          refine XS.iconst X9.here hx rfl (hb hby at_73) ?_
          refine X9.baloadBytes hx (j := (0 : Int32)) (v := (.int ((F1 p0).toInt8.toInt32))) (by rw [e9]; exact Ar47.1) (State.isArrayOf_alike hZ8.alike Ar47.2.1) Ar47.2.2 hin47 hat47 (g := (mkF m 74 #[.val (.int p0), .val (.int p1), .val (.int p2), .val (.int p3), .val (.int p4), .val (.ref b1), .val (.int (2 : Int32)), .val (.int ((2 : Int32) + ((((p4.toUInt32 >>> ((8 : Int32) &&& 31).toUInt32).toInt32) &&& (255 : Int32)) % (3 : Int32)))), .unset] [(.int (0 : Int32)), (.ref b1), (.int ((2 : Int32) + ((((p4.toUInt32 >>> ((8 : Int32) &&& 31).toUInt32).toInt32) &&& (255 : Int32)) % (3 : Int32)))), (.int (2 : Int32)), (.int (0 : Int32))])) rfl rfl (hb hby at_74) _ ?_
          refine st48 _ ?_
          exact kt)
        obtain ⟨Tj59, lj59, Xj59, Nj59, ej59, pre59⟩ : ∃ (T' : State) (locs' : List Loc), Stand p l e room_1 (s.setVm T8.vm) m #[(.int p0), (.int p1), (.int p2), (.int p3), (.int p4)] below meth c T' locs' 9 612 ∧ Fr n0 locs' ∧ T'.heap = h9 ∧ ∀ t, Steps p.tables e below (T'.setTop (mkF m 131 #[.val (.int p0), .val (.int p1), .val (.int p2), .val (.int p3), .val (.int p4), .val (.ref b1), .val (.int (2 : Int32)), .val (.int ((2 : Int32) + ((((p4.toUInt32 >>> ((8 : Int32) &&& 31).toUInt32).toInt32) &&& (255 : Int32)) % (3 : Int32)))), .unset] [(.int (J0_78_S0_59 p0 p1 p2 p3 p4 wc fv))])) t → Steps p.tables e below (s₁.setTop (entryFrame m #[(.int p0), (.int p1), (.int p2), (.int p3), (.int p4)] maxLocals)) t := by
          by_cases hc78 : (F2 (0 : Int32) (2 : Int32) ((2 : Int32) + ((((p4.toUInt32 >>> ((8 : Int32) &&& 31).toUInt32).toInt32) &&& (255 : Int32)) % (3 : Int32))) ((F1 p0).toInt8.toInt32)) = (0 : Int32)
          · refine ⟨T48, _, X48, N48, e48, fun t kt => pre49 t ?_⟩
            show Steps p.tables e below (T48.setTop (mkF m 78 #[.val (.int p0), .val (.int p1), .val (.int p2), .val (.int p3), .val (.int p4), .val (.ref b1), .val (.int (2 : Int32)), .val (.int ((2 : Int32) + ((((p4.toUInt32 >>> ((8 : Int32) &&& 31).toUInt32).toInt32) &&& (255 : Int32)) % (3 : Int32)))), .unset] [(.int (F2 (0 : Int32) (2 : Int32) ((2 : Int32) + ((((p4.toUInt32 >>> ((8 : Int32) &&& 31).toUInt32).toInt32) &&& (255 : Int32)) % (3 : Int32))) ((F1 p0).toInt8.toInt32)))])) _
            refine XS.ifYes X48.here hx rfl (pc0 := 78) (pc' := 130) rfl (hb hby at_78) rfl ((if0 _ _).trans (teq hc78).1) (by decide) (by decide) ?_
            refine XS.iconst X48.here hx rfl (hb hby at_130) ?_
            show Steps p.tables e below (T48.setTop (mkF m 131 #[.val (.int p0), .val (.int p1), .val (.int p2), .val (.int p3), .val (.int p4), .val (.ref b1), .val (.int (2 : Int32)), .val (.int ((2 : Int32) + ((((p4.toUInt32 >>> ((8 : Int32) &&& 31).toUInt32).toInt32) &&& (255 : Int32)) % (3 : Int32)))), .unset] [(.int (0 : Int32))])) _
            have qjS0 : (J0_78_S0_59 p0 p1 p2 p3 p4 wc fv) = (0 : Int32) := by unfold J0_78_S0_59; simp only [if_true, if_false, if_pos hc78]
            rw [qjS0] at kt
            exact kt
          · obtain ⟨cl50, Ar50, qa50, S50, Nl50, H50, G50⟩ := id V9
            have hin50 : ¬ ((1 : Int32) < 0 ∨ cl50.slots.size ≤ ((1 : Int32)).toNatClampNeg) := inb_of S50 ⟨by decide, by decide⟩
            have hat50 : cl50.slots[((1 : Int32)).toNatClampNeg]? = some (.int ((F1 p1).toInt8.toInt32)) := Has.at H50 hin50 rfl
            obtain ⟨_, _, ⟨T51, L51, k51, n51⟩, -, X51, ⟨Lc51, hQ51, ll51, ly51, lz51⟩, st51⟩ := Jvm.LawKit.callS X48 hx (y := (⟨"com/example/standbye/standbye/TextInputIsNamePinLaw", "fine", "(IIIB)Z"⟩ : MethodName)) hown8 (mvT hZ8 (hw _ (List.mem_of_getElem? (i := 5) rfl))) (mvT hZ8 (hw _ (List.mem_of_getElem? (i := 6) rfl))) (mvT hZ8 (hw _ (List.mem_of_getElem? (i := 3) rfl))) (mvT hZ8 (hw _ (List.mem_of_getElem? (i := 7) rfl))) (by decide) (backOf (W := 0) (rm2 l Z a0 hw [] (1 : Int32) (2 : Int32) ((2 : Int32) + ((((p4.toUInt32 >>> ((8 : Int32) &&& 31).toUInt32).toInt32) &&& (255 : Int32)) % (3 : Int32))) ((F1 p1).toInt8.toInt32) h9 n0 (Nat.le_trans (Nat.le_trans (Nat.le_trans (Nat.le_trans (Nat.le_trans (Nat.le_trans (Nat.le_trans (Nat.le_trans (Nat.le_trans Z0 E1.1) K2c.1) (Keep.of_wr W3).1) K4c.1) (Keep.of_wr W5).1) K6c.1) (Keep.of_wr W7).1) K8c.1) (Keep.of_wr W9).1) ) hZ8 (hw _ (List.mem_of_getElem? (i := 7) rfl)) (hw _ (List.mem_of_getElem? (i := 3) rfl)) (by decide) (by decide)) (g := (mkF m 90 #[.val (.int p0), .val (.int p1), .val (.int p2), .val (.int p3), .val (.int p4), .val (.ref b1), .val (.int (2 : Int32)), .val (.int ((2 : Int32) + ((((p4.toUInt32 >>> ((8 : Int32) &&& 31).toUInt32).toInt32) &&& (255 : Int32)) % (3 : Int32)))), .unset] [(.int ((F1 p1).toInt8.toInt32)), (.int ((2 : Int32) + ((((p4.toUInt32 >>> ((8 : Int32) &&& 31).toUInt32).toInt32) &&& (255 : Int32)) % (3 : Int32)))), (.int (2 : Int32)), (.int (1 : Int32))])) rfl (by rw [hml]; rfl) (argsL := [(.int (1 : Int32)), (.int (2 : Int32)), (.int ((2 : Int32) + ((((p4.toUInt32 >>> ((8 : Int32) &&& 31).toUInt32).toInt32) &&& (255 : Int32)) % (3 : Int32)))), (.int ((F1 p1).toInt8.toInt32))]) (rest := []) (lenOf pd__IIIB_Z rfl) rfl (by show 2 * 0 + _ ≤ _; exact Nat.le_of_eq rfl) (hb hby at_90) (fun _ _ => ⟨rfl, e48, (by decide : 9 + 0 ≤ _), (by decide : 612 + 0 ≤ _)⟩)
            dsimp only [Pt.U, Pt.locs, Pt.cells, Pt.slots] at X51 ll51 ly51 lz51 st51 hQ51
            subst ll51 ly51 lz51
            obtain ⟨rfl, N51q, e51⟩ := hQ51
            have N51 := Fr.app N48 N51q
            have pre52 : ∀ t, Steps p.tables e below (T51.setTop (mkF m 93 #[.val (.int p0), .val (.int p1), .val (.int p2), .val (.int p3), .val (.int p4), .val (.ref b1), .val (.int (2 : Int32)), .val (.int ((2 : Int32) + ((((p4.toUInt32 >>> ((8 : Int32) &&& 31).toUInt32).toInt32) &&& (255 : Int32)) % (3 : Int32)))), .unset] [(.int (F2 (1 : Int32) (2 : Int32) ((2 : Int32) + ((((p4.toUInt32 >>> ((8 : Int32) &&& 31).toUInt32).toInt32) &&& (255 : Int32)) % (3 : Int32))) ((F1 p1).toInt8.toInt32)))])) t → Steps p.tables e below (s₁.setTop (entryFrame m #[(.int p0), (.int p1), (.int p2), (.int p3), (.int p4)] maxLocals)) t := fun t kt => pre49 t (by
              show Steps p.tables e below (T48.setTop (mkF m 78 #[.val (.int p0), .val (.int p1), .val (.int p2), .val (.int p3), .val (.int p4), .val (.ref b1), .val (.int (2 : Int32)), .val (.int ((2 : Int32) + ((((p4.toUInt32 >>> ((8 : Int32) &&& 31).toUInt32).toInt32) &&& (255 : Int32)) % (3 : Int32)))), .unset] [(.int (F2 (0 : Int32) (2 : Int32) ((2 : Int32) + ((((p4.toUInt32 >>> ((8 : Int32) &&& 31).toUInt32).toInt32) &&& (255 : Int32)) % (3 : Int32))) ((F1 p0).toInt8.toInt32)))])) _
              refine XS.ifNo X48.here hx rfl (hb hby at_78) rfl ((if0 _ _).trans (feq hc78).1) ?_
              refine XS.iconst X48.here hx rfl (hb hby at_81) ?_
              refine XS.iload X48.here hx rfl (hb hby at_82) rfl ?_
              refine XS.iload X48.here hx rfl (hb hby at_84) rfl ?_
              refine XS.aload X48.here hx rfl (hb hby at_86) rfl rfl ?_
              refine XS.iconst X48.here hx rfl (hb hby at_88) ?_
              refine X48.baloadBytes hx (j := (1 : Int32)) (v := (.int ((F1 p1).toInt8.toInt32))) (by rw [e48]; exact Ar50.1) (State.isArrayOf_alike hZ8.alike Ar50.2.1) Ar50.2.2 hin50 hat50 (g := (mkF m 89 #[.val (.int p0), .val (.int p1), .val (.int p2), .val (.int p3), .val (.int p4), .val (.ref b1), .val (.int (2 : Int32)), .val (.int ((2 : Int32) + ((((p4.toUInt32 >>> ((8 : Int32) &&& 31).toUInt32).toInt32) &&& (255 : Int32)) % (3 : Int32)))), .unset] [(.int (1 : Int32)), (.ref b1), (.int ((2 : Int32) + ((((p4.toUInt32 >>> ((8 : Int32) &&& 31).toUInt32).toInt32) &&& (255 : Int32)) % (3 : Int32)))), (.int (2 : Int32)), (.int (1 : Int32))])) rfl rfl (hb hby at_89) _ ?_
              refine st51 _ ?_
              exact kt)
            by_cases hc93 : (F2 (1 : Int32) (2 : Int32) ((2 : Int32) + ((((p4.toUInt32 >>> ((8 : Int32) &&& 31).toUInt32).toInt32) &&& (255 : Int32)) % (3 : Int32))) ((F1 p1).toInt8.toInt32)) = (0 : Int32)
            · refine ⟨T51, _, X51, N51, e51, fun t kt => pre52 t ?_⟩
              show Steps p.tables e below (T51.setTop (mkF m 93 #[.val (.int p0), .val (.int p1), .val (.int p2), .val (.int p3), .val (.int p4), .val (.ref b1), .val (.int (2 : Int32)), .val (.int ((2 : Int32) + ((((p4.toUInt32 >>> ((8 : Int32) &&& 31).toUInt32).toInt32) &&& (255 : Int32)) % (3 : Int32)))), .unset] [(.int (F2 (1 : Int32) (2 : Int32) ((2 : Int32) + ((((p4.toUInt32 >>> ((8 : Int32) &&& 31).toUInt32).toInt32) &&& (255 : Int32)) % (3 : Int32))) ((F1 p1).toInt8.toInt32)))])) _
              refine XS.ifYes X51.here hx rfl (pc0 := 93) (pc' := 130) rfl (hb hby at_93) rfl ((if0 _ _).trans (teq hc93).1) (by decide) (by decide) ?_
              refine XS.iconst X51.here hx rfl (hb hby at_130) ?_
              show Steps p.tables e below (T51.setTop (mkF m 131 #[.val (.int p0), .val (.int p1), .val (.int p2), .val (.int p3), .val (.int p4), .val (.ref b1), .val (.int (2 : Int32)), .val (.int ((2 : Int32) + ((((p4.toUInt32 >>> ((8 : Int32) &&& 31).toUInt32).toInt32) &&& (255 : Int32)) % (3 : Int32)))), .unset] [(.int (0 : Int32))])) _
              have qjS0 : (J0_78_S0_59 p0 p1 p2 p3 p4 wc fv) = (0 : Int32) := by unfold J0_78_S0_59; simp only [if_true, if_false, if_neg hc78, if_pos hc93]
              rw [qjS0] at kt
              exact kt
            · obtain ⟨cl53, Ar53, qa53, S53, Nl53, H53, G53⟩ := id V9
              have hin53 : ¬ ((2 : Int32) < 0 ∨ cl53.slots.size ≤ ((2 : Int32)).toNatClampNeg) := inb_of S53 ⟨by decide, by decide⟩
              have hat53 : cl53.slots[((2 : Int32)).toNatClampNeg]? = some (.int ((F1 p2).toInt8.toInt32)) := Has.at H53 hin53 rfl
              obtain ⟨_, _, ⟨T54, L54, k54, n54⟩, -, X54, ⟨Lc54, hQ54, ll54, ly54, lz54⟩, st54⟩ := Jvm.LawKit.callS X51 hx (y := (⟨"com/example/standbye/standbye/TextInputIsNamePinLaw", "fine", "(IIIB)Z"⟩ : MethodName)) hown8 (mvT hZ8 (hw _ (List.mem_of_getElem? (i := 5) rfl))) (mvT hZ8 (hw _ (List.mem_of_getElem? (i := 6) rfl))) (mvT hZ8 (hw _ (List.mem_of_getElem? (i := 3) rfl))) (mvT hZ8 (hw _ (List.mem_of_getElem? (i := 7) rfl))) (by decide) (backOf (W := 0) (rm2 l Z a0 hw [] (2 : Int32) (2 : Int32) ((2 : Int32) + ((((p4.toUInt32 >>> ((8 : Int32) &&& 31).toUInt32).toInt32) &&& (255 : Int32)) % (3 : Int32))) ((F1 p2).toInt8.toInt32) h9 n0 (Nat.le_trans (Nat.le_trans (Nat.le_trans (Nat.le_trans (Nat.le_trans (Nat.le_trans (Nat.le_trans (Nat.le_trans (Nat.le_trans Z0 E1.1) K2c.1) (Keep.of_wr W3).1) K4c.1) (Keep.of_wr W5).1) K6c.1) (Keep.of_wr W7).1) K8c.1) (Keep.of_wr W9).1) ) hZ8 (hw _ (List.mem_of_getElem? (i := 7) rfl)) (hw _ (List.mem_of_getElem? (i := 3) rfl)) (by decide) (by decide)) (g := (mkF m 105 #[.val (.int p0), .val (.int p1), .val (.int p2), .val (.int p3), .val (.int p4), .val (.ref b1), .val (.int (2 : Int32)), .val (.int ((2 : Int32) + ((((p4.toUInt32 >>> ((8 : Int32) &&& 31).toUInt32).toInt32) &&& (255 : Int32)) % (3 : Int32)))), .unset] [(.int ((F1 p2).toInt8.toInt32)), (.int ((2 : Int32) + ((((p4.toUInt32 >>> ((8 : Int32) &&& 31).toUInt32).toInt32) &&& (255 : Int32)) % (3 : Int32)))), (.int (2 : Int32)), (.int (2 : Int32))])) rfl (by rw [hml]; rfl) (argsL := [(.int (2 : Int32)), (.int (2 : Int32)), (.int ((2 : Int32) + ((((p4.toUInt32 >>> ((8 : Int32) &&& 31).toUInt32).toInt32) &&& (255 : Int32)) % (3 : Int32)))), (.int ((F1 p2).toInt8.toInt32))]) (rest := []) (lenOf pd__IIIB_Z rfl) rfl (by show 2 * 0 + _ ≤ _; exact Nat.le_of_eq rfl) (hb hby at_105) (fun _ _ => ⟨rfl, e51, (by decide : 9 + 0 ≤ _), (by decide : 612 + 0 ≤ _)⟩)
              dsimp only [Pt.U, Pt.locs, Pt.cells, Pt.slots] at X54 ll54 ly54 lz54 st54 hQ54
              subst ll54 ly54 lz54
              obtain ⟨rfl, N54q, e54⟩ := hQ54
              have N54 := Fr.app N51 N54q
              have pre55 : ∀ t, Steps p.tables e below (T54.setTop (mkF m 108 #[.val (.int p0), .val (.int p1), .val (.int p2), .val (.int p3), .val (.int p4), .val (.ref b1), .val (.int (2 : Int32)), .val (.int ((2 : Int32) + ((((p4.toUInt32 >>> ((8 : Int32) &&& 31).toUInt32).toInt32) &&& (255 : Int32)) % (3 : Int32)))), .unset] [(.int (F2 (2 : Int32) (2 : Int32) ((2 : Int32) + ((((p4.toUInt32 >>> ((8 : Int32) &&& 31).toUInt32).toInt32) &&& (255 : Int32)) % (3 : Int32))) ((F1 p2).toInt8.toInt32)))])) t → Steps p.tables e below (s₁.setTop (entryFrame m #[(.int p0), (.int p1), (.int p2), (.int p3), (.int p4)] maxLocals)) t := fun t kt => pre52 t (by
                show Steps p.tables e below (T51.setTop (mkF m 93 #[.val (.int p0), .val (.int p1), .val (.int p2), .val (.int p3), .val (.int p4), .val (.ref b1), .val (.int (2 : Int32)), .val (.int ((2 : Int32) + ((((p4.toUInt32 >>> ((8 : Int32) &&& 31).toUInt32).toInt32) &&& (255 : Int32)) % (3 : Int32)))), .unset] [(.int (F2 (1 : Int32) (2 : Int32) ((2 : Int32) + ((((p4.toUInt32 >>> ((8 : Int32) &&& 31).toUInt32).toInt32) &&& (255 : Int32)) % (3 : Int32))) ((F1 p1).toInt8.toInt32)))])) _
                refine XS.ifNo X51.here hx rfl (hb hby at_93) rfl ((if0 _ _).trans (feq hc93).1) ?_
                refine XS.iconst X51.here hx rfl (hb hby at_96) ?_
                refine XS.iload X51.here hx rfl (hb hby at_97) rfl ?_
                refine XS.iload X51.here hx rfl (hb hby at_99) rfl ?_
                refine XS.aload X51.here hx rfl (hb hby at_101) rfl rfl ?_
                refine XS.iconst X51.here hx rfl (hb hby at_103) ?_
                refine X51.baloadBytes hx (j := (2 : Int32)) (v := (.int ((F1 p2).toInt8.toInt32))) (by rw [e51]; exact Ar53.1) (State.isArrayOf_alike hZ8.alike Ar53.2.1) Ar53.2.2 hin53 hat53 (g := (mkF m 104 #[.val (.int p0), .val (.int p1), .val (.int p2), .val (.int p3), .val (.int p4), .val (.ref b1), .val (.int (2 : Int32)), .val (.int ((2 : Int32) + ((((p4.toUInt32 >>> ((8 : Int32) &&& 31).toUInt32).toInt32) &&& (255 : Int32)) % (3 : Int32)))), .unset] [(.int (2 : Int32)), (.ref b1), (.int ((2 : Int32) + ((((p4.toUInt32 >>> ((8 : Int32) &&& 31).toUInt32).toInt32) &&& (255 : Int32)) % (3 : Int32)))), (.int (2 : Int32)), (.int (2 : Int32))])) rfl rfl (hb hby at_104) _ ?_
                refine st54 _ ?_
                exact kt)
              by_cases hc108 : (F2 (2 : Int32) (2 : Int32) ((2 : Int32) + ((((p4.toUInt32 >>> ((8 : Int32) &&& 31).toUInt32).toInt32) &&& (255 : Int32)) % (3 : Int32))) ((F1 p2).toInt8.toInt32)) = (0 : Int32)
              · refine ⟨T54, _, X54, N54, e54, fun t kt => pre55 t ?_⟩
                show Steps p.tables e below (T54.setTop (mkF m 108 #[.val (.int p0), .val (.int p1), .val (.int p2), .val (.int p3), .val (.int p4), .val (.ref b1), .val (.int (2 : Int32)), .val (.int ((2 : Int32) + ((((p4.toUInt32 >>> ((8 : Int32) &&& 31).toUInt32).toInt32) &&& (255 : Int32)) % (3 : Int32)))), .unset] [(.int (F2 (2 : Int32) (2 : Int32) ((2 : Int32) + ((((p4.toUInt32 >>> ((8 : Int32) &&& 31).toUInt32).toInt32) &&& (255 : Int32)) % (3 : Int32))) ((F1 p2).toInt8.toInt32)))])) _
                refine XS.ifYes X54.here hx rfl (pc0 := 108) (pc' := 130) rfl (hb hby at_108) rfl ((if0 _ _).trans (teq hc108).1) (by decide) (by decide) ?_
                refine XS.iconst X54.here hx rfl (hb hby at_130) ?_
                show Steps p.tables e below (T54.setTop (mkF m 131 #[.val (.int p0), .val (.int p1), .val (.int p2), .val (.int p3), .val (.int p4), .val (.ref b1), .val (.int (2 : Int32)), .val (.int ((2 : Int32) + ((((p4.toUInt32 >>> ((8 : Int32) &&& 31).toUInt32).toInt32) &&& (255 : Int32)) % (3 : Int32)))), .unset] [(.int (0 : Int32))])) _
                have qjS0 : (J0_78_S0_59 p0 p1 p2 p3 p4 wc fv) = (0 : Int32) := by unfold J0_78_S0_59; simp only [if_true, if_false, if_neg hc78, if_neg hc93, if_pos hc108]
                rw [qjS0] at kt
                exact kt
              · obtain ⟨cl56, Ar56, qa56, S56, Nl56, H56, G56⟩ := id V9
                have hin56 : ¬ ((3 : Int32) < 0 ∨ cl56.slots.size ≤ ((3 : Int32)).toNatClampNeg) := inb_of S56 ⟨by decide, by decide⟩
                have hat56 : cl56.slots[((3 : Int32)).toNatClampNeg]? = some (.int ((F1 p3).toInt8.toInt32)) := Has.at H56 hin56 rfl
                obtain ⟨_, _, ⟨T57, L57, k57, n57⟩, -, X57, ⟨Lc57, hQ57, ll57, ly57, lz57⟩, st57⟩ := Jvm.LawKit.callS X54 hx (y := (⟨"com/example/standbye/standbye/TextInputIsNamePinLaw", "fine", "(IIIB)Z"⟩ : MethodName)) hown8 (mvT hZ8 (hw _ (List.mem_of_getElem? (i := 5) rfl))) (mvT hZ8 (hw _ (List.mem_of_getElem? (i := 6) rfl))) (mvT hZ8 (hw _ (List.mem_of_getElem? (i := 3) rfl))) (mvT hZ8 (hw _ (List.mem_of_getElem? (i := 7) rfl))) (by decide) (backOf (W := 0) (rm2 l Z a0 hw [] (3 : Int32) (2 : Int32) ((2 : Int32) + ((((p4.toUInt32 >>> ((8 : Int32) &&& 31).toUInt32).toInt32) &&& (255 : Int32)) % (3 : Int32))) ((F1 p3).toInt8.toInt32) h9 n0 (Nat.le_trans (Nat.le_trans (Nat.le_trans (Nat.le_trans (Nat.le_trans (Nat.le_trans (Nat.le_trans (Nat.le_trans (Nat.le_trans Z0 E1.1) K2c.1) (Keep.of_wr W3).1) K4c.1) (Keep.of_wr W5).1) K6c.1) (Keep.of_wr W7).1) K8c.1) (Keep.of_wr W9).1) ) hZ8 (hw _ (List.mem_of_getElem? (i := 7) rfl)) (hw _ (List.mem_of_getElem? (i := 3) rfl)) (by decide) (by decide)) (g := (mkF m 120 #[.val (.int p0), .val (.int p1), .val (.int p2), .val (.int p3), .val (.int p4), .val (.ref b1), .val (.int (2 : Int32)), .val (.int ((2 : Int32) + ((((p4.toUInt32 >>> ((8 : Int32) &&& 31).toUInt32).toInt32) &&& (255 : Int32)) % (3 : Int32)))), .unset] [(.int ((F1 p3).toInt8.toInt32)), (.int ((2 : Int32) + ((((p4.toUInt32 >>> ((8 : Int32) &&& 31).toUInt32).toInt32) &&& (255 : Int32)) % (3 : Int32)))), (.int (2 : Int32)), (.int (3 : Int32))])) rfl (by rw [hml]; rfl) (argsL := [(.int (3 : Int32)), (.int (2 : Int32)), (.int ((2 : Int32) + ((((p4.toUInt32 >>> ((8 : Int32) &&& 31).toUInt32).toInt32) &&& (255 : Int32)) % (3 : Int32)))), (.int ((F1 p3).toInt8.toInt32))]) (rest := []) (lenOf pd__IIIB_Z rfl) rfl (by show 2 * 0 + _ ≤ _; exact Nat.le_of_eq rfl) (hb hby at_120) (fun _ _ => ⟨rfl, e54, (by decide : 9 + 0 ≤ _), (by decide : 612 + 0 ≤ _)⟩)
                dsimp only [Pt.U, Pt.locs, Pt.cells, Pt.slots] at X57 ll57 ly57 lz57 st57 hQ57
                subst ll57 ly57 lz57
                obtain ⟨rfl, N57q, e57⟩ := hQ57
                have N57 := Fr.app N54 N57q
                have pre58 : ∀ t, Steps p.tables e below (T57.setTop (mkF m 123 #[.val (.int p0), .val (.int p1), .val (.int p2), .val (.int p3), .val (.int p4), .val (.ref b1), .val (.int (2 : Int32)), .val (.int ((2 : Int32) + ((((p4.toUInt32 >>> ((8 : Int32) &&& 31).toUInt32).toInt32) &&& (255 : Int32)) % (3 : Int32)))), .unset] [(.int (F2 (3 : Int32) (2 : Int32) ((2 : Int32) + ((((p4.toUInt32 >>> ((8 : Int32) &&& 31).toUInt32).toInt32) &&& (255 : Int32)) % (3 : Int32))) ((F1 p3).toInt8.toInt32)))])) t → Steps p.tables e below (s₁.setTop (entryFrame m #[(.int p0), (.int p1), (.int p2), (.int p3), (.int p4)] maxLocals)) t := fun t kt => pre55 t (by
                  show Steps p.tables e below (T54.setTop (mkF m 108 #[.val (.int p0), .val (.int p1), .val (.int p2), .val (.int p3), .val (.int p4), .val (.ref b1), .val (.int (2 : Int32)), .val (.int ((2 : Int32) + ((((p4.toUInt32 >>> ((8 : Int32) &&& 31).toUInt32).toInt32) &&& (255 : Int32)) % (3 : Int32)))), .unset] [(.int (F2 (2 : Int32) (2 : Int32) ((2 : Int32) + ((((p4.toUInt32 >>> ((8 : Int32) &&& 31).toUInt32).toInt32) &&& (255 : Int32)) % (3 : Int32))) ((F1 p2).toInt8.toInt32)))])) _
                  refine XS.ifNo X54.here hx rfl (hb hby at_108) rfl ((if0 _ _).trans (feq hc108).1) ?_
                  refine XS.iconst X54.here hx rfl (hb hby at_111) ?_
                  refine XS.iload X54.here hx rfl (hb hby at_112) rfl ?_
                  refine XS.iload X54.here hx rfl (hb hby at_114) rfl ?_
                  refine XS.aload X54.here hx rfl (hb hby at_116) rfl rfl ?_
                  refine XS.iconst X54.here hx rfl (hb hby at_118) ?_
                  refine X54.baloadBytes hx (j := (3 : Int32)) (v := (.int ((F1 p3).toInt8.toInt32))) (by rw [e54]; exact Ar56.1) (State.isArrayOf_alike hZ8.alike Ar56.2.1) Ar56.2.2 hin56 hat56 (g := (mkF m 119 #[.val (.int p0), .val (.int p1), .val (.int p2), .val (.int p3), .val (.int p4), .val (.ref b1), .val (.int (2 : Int32)), .val (.int ((2 : Int32) + ((((p4.toUInt32 >>> ((8 : Int32) &&& 31).toUInt32).toInt32) &&& (255 : Int32)) % (3 : Int32)))), .unset] [(.int (3 : Int32)), (.ref b1), (.int ((2 : Int32) + ((((p4.toUInt32 >>> ((8 : Int32) &&& 31).toUInt32).toInt32) &&& (255 : Int32)) % (3 : Int32)))), (.int (2 : Int32)), (.int (3 : Int32))])) rfl rfl (hb hby at_119) _ ?_
                  refine st57 _ ?_
                  exact kt)
                by_cases hc123 : (F2 (3 : Int32) (2 : Int32) ((2 : Int32) + ((((p4.toUInt32 >>> ((8 : Int32) &&& 31).toUInt32).toInt32) &&& (255 : Int32)) % (3 : Int32))) ((F1 p3).toInt8.toInt32)) = (0 : Int32)
                · refine ⟨T57, _, X57, N57, e57, fun t kt => pre58 t ?_⟩
                  show Steps p.tables e below (T57.setTop (mkF m 123 #[.val (.int p0), .val (.int p1), .val (.int p2), .val (.int p3), .val (.int p4), .val (.ref b1), .val (.int (2 : Int32)), .val (.int ((2 : Int32) + ((((p4.toUInt32 >>> ((8 : Int32) &&& 31).toUInt32).toInt32) &&& (255 : Int32)) % (3 : Int32)))), .unset] [(.int (F2 (3 : Int32) (2 : Int32) ((2 : Int32) + ((((p4.toUInt32 >>> ((8 : Int32) &&& 31).toUInt32).toInt32) &&& (255 : Int32)) % (3 : Int32))) ((F1 p3).toInt8.toInt32)))])) _
                  refine XS.ifYes X57.here hx rfl (pc0 := 123) (pc' := 130) rfl (hb hby at_123) rfl ((if0 _ _).trans (teq hc123).1) (by decide) (by decide) ?_
                  refine XS.iconst X57.here hx rfl (hb hby at_130) ?_
                  show Steps p.tables e below (T57.setTop (mkF m 131 #[.val (.int p0), .val (.int p1), .val (.int p2), .val (.int p3), .val (.int p4), .val (.ref b1), .val (.int (2 : Int32)), .val (.int ((2 : Int32) + ((((p4.toUInt32 >>> ((8 : Int32) &&& 31).toUInt32).toInt32) &&& (255 : Int32)) % (3 : Int32)))), .unset] [(.int (0 : Int32))])) _
                  have qjS0 : (J0_78_S0_59 p0 p1 p2 p3 p4 wc fv) = (0 : Int32) := by unfold J0_78_S0_59; simp only [if_true, if_false, if_neg hc78, if_neg hc93, if_neg hc108, if_pos hc123]
                  rw [qjS0] at kt
                  exact kt
                · refine ⟨T57, _, X57, N57, e57, fun t kt => pre58 t ?_⟩
                  show Steps p.tables e below (T57.setTop (mkF m 123 #[.val (.int p0), .val (.int p1), .val (.int p2), .val (.int p3), .val (.int p4), .val (.ref b1), .val (.int (2 : Int32)), .val (.int ((2 : Int32) + ((((p4.toUInt32 >>> ((8 : Int32) &&& 31).toUInt32).toInt32) &&& (255 : Int32)) % (3 : Int32)))), .unset] [(.int (F2 (3 : Int32) (2 : Int32) ((2 : Int32) + ((((p4.toUInt32 >>> ((8 : Int32) &&& 31).toUInt32).toInt32) &&& (255 : Int32)) % (3 : Int32))) ((F1 p3).toInt8.toInt32)))])) _
                  refine XS.ifNo X57.here hx rfl (hb hby at_123) rfl ((if0 _ _).trans (feq hc123).1) ?_
                  refine XS.iconst X57.here hx rfl (hb hby at_126) ?_
                  refine XS.goto X57.here hx rfl (pc0 := 127) (pc' := 131) rfl (hb hby at_127) (by decide) (by decide) ?_
                  show Steps p.tables e below (T57.setTop (mkF m 131 #[.val (.int p0), .val (.int p1), .val (.int p2), .val (.int p3), .val (.int p4), .val (.ref b1), .val (.int (2 : Int32)), .val (.int ((2 : Int32) + ((((p4.toUInt32 >>> ((8 : Int32) &&& 31).toUInt32).toInt32) &&& (255 : Int32)) % (3 : Int32)))), .unset] [(.int (1 : Int32))])) _
                  have qjS0 : (J0_78_S0_59 p0 p1 p2 p3 p4 wc fv) = (1 : Int32) := by unfold J0_78_S0_59; simp only [if_true, if_false, if_neg hc78, if_neg hc93, if_neg hc108, if_neg hc123]
                  rw [qjS0] at kt
                  exact kt
        obtain ⟨_, _, ⟨T60, L60, k60, n60⟩, -, X60, ⟨Lc60, hQ60, ll60, ly60, lz60⟩, st60⟩ := Jvm.LawKit.callS Xj59 hx (y := (⟨"com/example/standbye/standbye/TextInput", "isName", "([BII)Z"⟩ : MethodName)) hown8 (mvT hZ8 (hw _ (List.mem_of_getElem? (i := 8) rfl))) (mvT hZ8 (hw _ (List.mem_of_getElem? (i := 9) rfl))) (mvT hZ8 (hw _ (List.mem_of_getElem? (i := 10) rfl))) (mvT hZ8 (hw _ (List.mem_of_getElem? (i := 11) rfl))) (by decide) (backOf (W := 0) (rm3s2 l Z a0 hw [] b1 ((2 : Int32) + ((((p4.toUInt32 >>> ((8 : Int32) &&& 31).toUInt32).toInt32) &&& (255 : Int32)) % (3 : Int32))) k1 ((F1 p0).toInt8.toInt32) ((F1 p1).toInt8.toInt32) ((F1 p2).toInt8.toInt32) ((F1 p3).toInt8.toInt32) h9 n0 (Nat.le_trans (Nat.le_trans (Nat.le_trans (Nat.le_trans (Nat.le_trans (Nat.le_trans (Nat.le_trans (Nat.le_trans (Nat.le_trans Z0 E1.1) K2c.1) (Keep.of_wr W3).1) K4c.1) (Keep.of_wr W5).1) K6c.1) (Keep.of_wr W7).1) K8c.1) (Keep.of_wr W9).1) V9 (own_le2 p4)) hZ8 (hw _ (List.mem_of_getElem? (i := 11) rfl)) (hw _ (List.mem_of_getElem? (i := 10) rfl)) (by decide) (by decide)) (g := (mkF m 139 #[.val (.int p0), .val (.int p1), .val (.int p2), .val (.int p3), .val (.int p4), .val (.ref b1), .val (.int (2 : Int32)), .val (.int ((2 : Int32) + ((((p4.toUInt32 >>> ((8 : Int32) &&& 31).toUInt32).toInt32) &&& (255 : Int32)) % (3 : Int32)))), .val (.int (J0_78_S0_59 p0 p1 p2 p3 p4 wc fv))] [(.int ((2 : Int32) + ((((p4.toUInt32 >>> ((8 : Int32) &&& 31).toUInt32).toInt32) &&& (255 : Int32)) % (3 : Int32)))), (.int (2 : Int32)), (.ref b1)])) rfl (by rw [hml]; rfl) (argsL := [(.ref b1), (.int (2 : Int32)), (.int ((2 : Int32) + ((((p4.toUInt32 >>> ((8 : Int32) &&& 31).toUInt32).toInt32) &&& (255 : Int32)) % (3 : Int32))))]) (rest := []) (lenOf pd___BII_Z rfl) rfl (by show 2 * 0 + _ ≤ _; exact Nat.le_of_eq rfl) (hb hby at_139) (fun _ _ => ⟨rfl, ej59, (by decide : 9 + 0 ≤ _), (by decide : 612 + 0 ≤ _)⟩)
        dsimp only [Pt.U, Pt.locs, Pt.cells, Pt.slots] at X60 ll60 ly60 lz60 st60 hQ60
        subst ll60 ly60 lz60
        obtain ⟨rfl, N60q, e60⟩ := hQ60
        have N60 := Fr.app Nj59 N60q
        have pre61 : ∀ t, Steps p.tables e below (T60.setTop (mkF m 144 #[.val (.int p0), .val (.int p1), .val (.int p2), .val (.int p3), .val (.int p4), .val (.ref b1), .val (.int (2 : Int32)), .val (.int ((2 : Int32) + ((((p4.toUInt32 >>> ((8 : Int32) &&& 31).toUInt32).toInt32) &&& (255 : Int32)) % (3 : Int32)))), .val (.int (J0_78_S0_59 p0 p1 p2 p3 p4 wc fv))] [(.int (J0_78_S0_59 p0 p1 p2 p3 p4 wc fv)), (.int (F3s2 ((2 : Int32) + ((((p4.toUInt32 >>> ((8 : Int32) &&& 31).toUInt32).toInt32) &&& (255 : Int32)) % (3 : Int32))) ((F1 p0).toInt8.toInt32) ((F1 p1).toInt8.toInt32) ((F1 p2).toInt8.toInt32) ((F1 p3).toInt8.toInt32)))])) t → Steps p.tables e below (s₁.setTop (entryFrame m #[(.int p0), (.int p1), (.int p2), (.int p3), (.int p4)] maxLocals)) t := fun t kt => pre59 t (by
          show Steps p.tables e below (Tj59.setTop (mkF m 131 #[.val (.int p0), .val (.int p1), .val (.int p2), .val (.int p3), .val (.int p4), .val (.ref b1), .val (.int (2 : Int32)), .val (.int ((2 : Int32) + ((((p4.toUInt32 >>> ((8 : Int32) &&& 31).toUInt32).toInt32) &&& (255 : Int32)) % (3 : Int32)))), .unset] [(.int (J0_78_S0_59 p0 p1 p2 p3 p4 wc fv))])) _
          refine XS.istore Xj59.here hx rfl (hb hby at_131) rfl (l' := #[.val (.int p0), .val (.int p1), .val (.int p2), .val (.int p3), .val (.int p4), .val (.ref b1), .val (.int (2 : Int32)), .val (.int ((2 : Int32) + ((((p4.toUInt32 >>> ((8 : Int32) &&& 31).toUInt32).toInt32) &&& (255 : Int32)) % (3 : Int32)))), .val (.int (J0_78_S0_59 p0 p1 p2 p3 p4 wc fv))]) rfl ?_
          refine XS.aload Xj59.here hx rfl (hb hby at_133) rfl rfl ?_
          refine XS.iload Xj59.here hx rfl (hb hby at_135) rfl ?_
          refine XS.iload Xj59.here hx rfl (hb hby at_137) rfl ?_
          refine st60 _ ?_
          refine XS.iload X60.here hx rfl (hb hby at_142) rfl ?_
          exact kt)
        by_cases hc144 : (F3s2 ((2 : Int32) + ((((p4.toUInt32 >>> ((8 : Int32) &&& 31).toUInt32).toInt32) &&& (255 : Int32)) % (3 : Int32))) ((F1 p0).toInt8.toInt32) ((F1 p1).toInt8.toInt32) ((F1 p2).toInt8.toInt32) ((F1 p3).toInt8.toInt32)) = (J0_78_S0_59 p0 p1 p2 p3 p4 wc fv)
        · obtain ⟨fs, hr, hrun, hended, hEnd⟩ := X60.leaveW hS8 (by rw [e60]; exact (Nat.le_trans (Nat.le_refl T8.heap.size) (Keep.of_wr W9).1)) (v := some (.int (1 : Int32))) (fun h => by rw [Bd.returns] at h; cases h)
          have CRe := CHr.trans CR9 (CHv.at X60 hZ8 hEL CR9.1)
          refine ⟨_, _, pre61 _ ?_, hrun, hended, _, _, rfl, ?_, ?_, hEnd.1, hEnd.2.1, hEnd.2.2.1, hEnd.2.2.2.mono (by decide) (by decide)⟩
          · show Steps p.tables e below (T60.setTop (mkF m 144 #[.val (.int p0), .val (.int p1), .val (.int p2), .val (.int p3), .val (.int p4), .val (.ref b1), .val (.int (2 : Int32)), .val (.int ((2 : Int32) + ((((p4.toUInt32 >>> ((8 : Int32) &&& 31).toUInt32).toInt32) &&& (255 : Int32)) % (3 : Int32)))), .val (.int (J0_78_S0_59 p0 p1 p2 p3 p4 wc fv))] [(.int (J0_78_S0_59 p0 p1 p2 p3 p4 wc fv)), (.int (F3s2 ((2 : Int32) + ((((p4.toUInt32 >>> ((8 : Int32) &&& 31).toUInt32).toInt32) &&& (255 : Int32)) % (3 : Int32))) ((F1 p0).toInt8.toInt32) ((F1 p1).toInt8.toInt32) ((F1 p2).toInt8.toInt32) ((F1 p3).toInt8.toInt32)))])) _
            refine XS.icmpNo X60.here hx rfl (hb hby at_144) rfl (teq hc144).2 ?_
            refine XS.iconst X60.here hx rfl (hb hby at_147) ?_
            refine XS.goto X60.here hx rfl (pc0 := 148) (pc' := 152) rfl (hb hby at_148) (by decide) (by decide) ?_
            show Steps p.tables e below (T60.setTop (mkF m 152 #[.val (.int p0), .val (.int p1), .val (.int p2), .val (.int p3), .val (.int p4), .val (.ref b1), .val (.int (2 : Int32)), .val (.int ((2 : Int32) + ((((p4.toUInt32 >>> ((8 : Int32) &&& 31).toUInt32).toInt32) &&& (255 : Int32)) % (3 : Int32)))), .val (.int (J0_78_S0_59 p0 p1 p2 p3 p4 wc fv))] [(.int (1 : Int32))])) _
            exact retN X60 hx (t := .boolean) Bd.returns (by simp) (hb hby at_152) hr
          · show Q0 Z p0 p1 p2 p3 p4 wc fv h0 n0 _ T60.heap _
            rw [e60]
            exact ⟨(by unfold F0; simp only [if_neg hs0, if_neg hs1, if_pos hs2, if_pos hc144]), N60⟩
          · show CHr Z ELs s.vm s.heap T60.vm T60.heap
            rw [hh, e60]; exact CRe
        · obtain ⟨fs, hr, hrun, hended, hEnd⟩ := X60.leaveW hS8 (by rw [e60]; exact (Nat.le_trans (Nat.le_refl T8.heap.size) (Keep.of_wr W9).1)) (v := some (.int (0 : Int32))) (fun h => by rw [Bd.returns] at h; cases h)
          have CRe := CHr.trans CR9 (CHv.at X60 hZ8 hEL CR9.1)
          refine ⟨_, _, pre61 _ ?_, hrun, hended, _, _, rfl, ?_, ?_, hEnd.1, hEnd.2.1, hEnd.2.2.1, hEnd.2.2.2.mono (by decide) (by decide)⟩
          · show Steps p.tables e below (T60.setTop (mkF m 144 #[.val (.int p0), .val (.int p1), .val (.int p2), .val (.int p3), .val (.int p4), .val (.ref b1), .val (.int (2 : Int32)), .val (.int ((2 : Int32) + ((((p4.toUInt32 >>> ((8 : Int32) &&& 31).toUInt32).toInt32) &&& (255 : Int32)) % (3 : Int32)))), .val (.int (J0_78_S0_59 p0 p1 p2 p3 p4 wc fv))] [(.int (J0_78_S0_59 p0 p1 p2 p3 p4 wc fv)), (.int (F3s2 ((2 : Int32) + ((((p4.toUInt32 >>> ((8 : Int32) &&& 31).toUInt32).toInt32) &&& (255 : Int32)) % (3 : Int32))) ((F1 p0).toInt8.toInt32) ((F1 p1).toInt8.toInt32) ((F1 p2).toInt8.toInt32) ((F1 p3).toInt8.toInt32)))])) _
            refine XS.icmpYes X60.here hx rfl (pc0 := 144) (pc' := 151) rfl (hb hby at_144) rfl (feq hc144).2 (by decide) (by decide) ?_
            refine XS.iconst X60.here hx rfl (hb hby at_151) ?_
            show Steps p.tables e below (T60.setTop (mkF m 152 #[.val (.int p0), .val (.int p1), .val (.int p2), .val (.int p3), .val (.int p4), .val (.ref b1), .val (.int (2 : Int32)), .val (.int ((2 : Int32) + ((((p4.toUInt32 >>> ((8 : Int32) &&& 31).toUInt32).toInt32) &&& (255 : Int32)) % (3 : Int32)))), .val (.int (J0_78_S0_59 p0 p1 p2 p3 p4 wc fv))] [(.int (0 : Int32))])) _
            exact retN X60 hx (t := .boolean) Bd.returns (by simp) (hb hby at_152) hr
          · show Q0 Z p0 p1 p2 p3 p4 wc fv h0 n0 _ T60.heap _
            rw [e60]
            exact ⟨(by unfold F0; simp only [if_neg hs0, if_neg hs1, if_pos hs2, if_neg hc144]), N60⟩
          · show CHr Z ELs s.vm s.heap T60.vm T60.heap
            rw [hh, e60]; exact CRe
      · by_cases hs3 : (A0_45 p0 p1 p2 p3 p4 wc fv) = (3 : Int32)
        · have qr62 : (A0_45 p0 p1 p2 p3 p4 wc fv) = (3 : Int32) := hs3
          have pre63 : ∀ t, Steps p.tables e below (T9.setTop (mkF m 47 #[.val (.int p0), .val (.int p1), .val (.int p2), .val (.int p3), .val (.int p4), .val (.ref b1), .val (.int (3 : Int32)), .unset, .unset] [])) t → Steps p.tables e below (s₁.setTop (entryFrame m #[(.int p0), (.int p1), (.int p2), (.int p3), (.int p4)] maxLocals)) t := fun t kt => pre10 t (by rw [qr62]; exact kt)
          obtain ⟨cl64, Ar64, qa64, S64, Nl64, H64, G64⟩ := id V9
          have hin64 : ¬ ((0 : Int32) < 0 ∨ cl64.slots.size ≤ ((0 : Int32)).toNatClampNeg) := inb_of S64 ⟨by decide, by decide⟩
          have hat64 : cl64.slots[((0 : Int32)).toNatClampNeg]? = some (.int ((F1 p0).toInt8.toInt32)) := Has.at H64 hin64 rfl
          obtain ⟨_, _, ⟨T65, L65, k65, n65⟩, -, X65, ⟨Lc65, hQ65, ll65, ly65, lz65⟩, st65⟩ := Jvm.LawKit.callS X9 hx (y := (⟨"com/example/standbye/standbye/TextInputIsNamePinLaw", "fine", "(IIIB)Z"⟩ : MethodName)) hown8 (mvT hZ8 (hw _ (List.mem_of_getElem? (i := 5) rfl))) (mvT hZ8 (hw _ (List.mem_of_getElem? (i := 6) rfl))) (mvT hZ8 (hw _ (List.mem_of_getElem? (i := 3) rfl))) (mvT hZ8 (hw _ (List.mem_of_getElem? (i := 7) rfl))) (by decide) (backOf (W := 0) (rm2 l Z a0 hw [] (0 : Int32) (3 : Int32) ((3 : Int32) + ((((p4.toUInt32 >>> ((8 : Int32) &&& 31).toUInt32).toInt32) &&& (255 : Int32)) % (2 : Int32))) ((F1 p0).toInt8.toInt32) h9 n0 (Nat.le_trans (Nat.le_trans (Nat.le_trans (Nat.le_trans (Nat.le_trans (Nat.le_trans (Nat.le_trans (Nat.le_trans (Nat.le_trans Z0 E1.1) K2c.1) (Keep.of_wr W3).1) K4c.1) (Keep.of_wr W5).1) K6c.1) (Keep.of_wr W7).1) K8c.1) (Keep.of_wr W9).1) ) hZ8 (hw _ (List.mem_of_getElem? (i := 7) rfl)) (hw _ (List.mem_of_getElem? (i := 3) rfl)) (by decide) (by decide)) (g := (mkF m 75 #[.val (.int p0), .val (.int p1), .val (.int p2), .val (.int p3), .val (.int p4), .val (.ref b1), .val (.int (3 : Int32)), .val (.int ((3 : Int32) + ((((p4.toUInt32 >>> ((8 : Int32) &&& 31).toUInt32).toInt32) &&& (255 : Int32)) % (2 : Int32)))), .unset] [(.int ((F1 p0).toInt8.toInt32)), (.int ((3 : Int32) + ((((p4.toUInt32 >>> ((8 : Int32) &&& 31).toUInt32).toInt32) &&& (255 : Int32)) % (2 : Int32)))), (.int (3 : Int32)), (.int (0 : Int32))])) rfl (by rw [hml]; rfl) (argsL := [(.int (0 : Int32)), (.int (3 : Int32)), (.int ((3 : Int32) + ((((p4.toUInt32 >>> ((8 : Int32) &&& 31).toUInt32).toInt32) &&& (255 : Int32)) % (2 : Int32)))), (.int ((F1 p0).toInt8.toInt32))]) (rest := []) (lenOf pd__IIIB_Z rfl) rfl (by show 2 * 0 + _ ≤ _; exact Nat.le_of_eq rfl) (hb hby at_75) (fun _ _ => ⟨rfl, e9, (by decide : 9 + 0 ≤ _), (by decide : 612 + 0 ≤ _)⟩)
          dsimp only [Pt.U, Pt.locs, Pt.cells, Pt.slots] at X65 ll65 ly65 lz65 st65 hQ65
          subst ll65 ly65 lz65
          obtain ⟨rfl, N65q, e65⟩ := hQ65
          have N65 := Fr.app N9 N65q
          have pre66 : ∀ t, Steps p.tables e below (T65.setTop (mkF m 78 #[.val (.int p0), .val (.int p1), .val (.int p2), .val (.int p3), .val (.int p4), .val (.ref b1), .val (.int (3 : Int32)), .val (.int ((3 : Int32) + ((((p4.toUInt32 >>> ((8 : Int32) &&& 31).toUInt32).toInt32) &&& (255 : Int32)) % (2 : Int32)))), .unset] [(.int (F2 (0 : Int32) (3 : Int32) ((3 : Int32) + ((((p4.toUInt32 >>> ((8 : Int32) &&& 31).toUInt32).toInt32) &&& (255 : Int32)) % (2 : Int32))) ((F1 p0).toInt8.toInt32)))])) t → Steps p.tables e below (s₁.setTop (entryFrame m #[(.int p0), (.int p1), (.int p2), (.int p3), (.int p4)] maxLocals)) t := fun t kt => pre63 t (by
            show Steps p.tables e below (T9.setTop (mkF m 47 #[.val (.int p0), .val (.int p1), .val (.int p2), .val (.int p3), .val (.int p4), .val (.ref b1), .val (.int (3 : Int32)), .unset, .unset] [])) _
            refine XS.iload X9.here hx rfl (hb hby at_47) rfl ?_
            refine XS.iload X9.here hx rfl (hb hby at_49) rfl ?_
            refine XS.bipush X9.here hx rfl (hb hby at_51) ?_
            refine XS.iushr X9.here hx rfl (hb hby at_53) rfl ?_
            refine XS.sipush X9.here hx rfl (hb hby at_54) ?_
            refine XS.iand X9.here hx rfl (hb hby at_57) rfl ?_
            refine XS.iconst X9.here hx rfl (hb hby at_58) ?_
            refine XS.iload X9.here hx rfl (hb hby at_59) rfl ?_
            show Steps p.tables e below (T9.setTop (mkF m 61 #[.val (.int p0), .val (.int p1), .val (.int p2), .val (.int p3), .val (.int p4), .val (.ref b1), .val (.int (3 : Int32)), .unset, .unset] [(.int (3 : Int32)), (.int (5 : Int32)), (.int (((p4.toUInt32 >>> ((8 : Int32) &&& 31).toUInt32).toInt32) &&& (255 : Int32))), (.int (3 : Int32))])) _
            refine XS.isub X9.here hx rfl (hb hby at_61) rfl ?_
            refine iremM X9 hx rfl (hb hby at_62) rfl (by decide) ?_
            refine XS.iadd X9.here hx rfl (hb hby at_63) rfl ?_
            refine XS.istore X9.here hx rfl (hb hby at_64) rfl (l' := #[.val (.int p0), .val (.int p1), .val (.int p2), .val (.int p3), .val (.int p4), .val (.ref b1), .val (.int (3 : Int32)), .val (.int ((3 : Int32) + ((((p4.toUInt32 >>> ((8 : Int32) &&& 31).toUInt32).toInt32) &&& (255 : Int32)) % (2 : Int32)))), .unset]) rfl ?_
            refine XS.iconst X9.here hx rfl (hb hby at_66) ?_
            refine XS.iload X9.here hx rfl (hb hby at_67) rfl ?_
            refine XS.iload X9.here hx rfl (hb hby at_69) rfl ?_
            refine XS.aload X9.here hx rfl (hb hby at_71) rfl rfl ?_
            show Steps p.tables e below (T9.setTop (mkF m 73 #[.val (.int p0), .val (.int p1), .val (.int p2), .val (.int p3), .val (.int p4), .val (.ref b1), .val (.int (3 : Int32)), .val (.int ((3 : Int32) + ((((p4.toUInt32 >>> ((8 : Int32) &&& 31).toUInt32).toInt32) &&& (255 : Int32)) % (2 : Int32)))), .unset] [(.ref b1), (.int ((3 : Int32) + ((((p4.toUInt32 >>> ((8 : Int32) &&& 31).toUInt32).toInt32) &&& (255 : Int32)) % (2 : Int32)))), (.int (3 : Int32)), (.int (0 : Int32))])) _
            refine XS.iconst X9.here hx rfl (hb hby at_73) ?_
            refine X9.baloadBytes hx (j := (0 : Int32)) (v := (.int ((F1 p0).toInt8.toInt32))) (by rw [e9]; exact Ar64.1) (State.isArrayOf_alike hZ8.alike Ar64.2.1) Ar64.2.2 hin64 hat64 (g := (mkF m 74 #[.val (.int p0), .val (.int p1), .val (.int p2), .val (.int p3), .val (.int p4), .val (.ref b1), .val (.int (3 : Int32)), .val (.int ((3 : Int32) + ((((p4.toUInt32 >>> ((8 : Int32) &&& 31).toUInt32).toInt32) &&& (255 : Int32)) % (2 : Int32)))), .unset] [(.int (0 : Int32)), (.ref b1), (.int ((3 : Int32) + ((((p4.toUInt32 >>> ((8 : Int32) &&& 31).toUInt32).toInt32) &&& (255 : Int32)) % (2 : Int32)))), (.int (3 : Int32)), (.int (0 : Int32))])) rfl rfl (hb hby at_74) _ ?_
            refine st65 _ ?_
            exact kt)
          obtain ⟨Tj76, lj76, Xj76, Nj76, ej76, pre76⟩ : ∃ (T' : State) (locs' : List Loc), Stand p l e room_1 (s.setVm T8.vm) m #[(.int p0), (.int p1), (.int p2), (.int p3), (.int p4)] below meth c T' locs' 9 612 ∧ Fr n0 locs' ∧ T'.heap = h9 ∧ ∀ t, Steps p.tables e below (T'.setTop (mkF m 131 #[.val (.int p0), .val (.int p1), .val (.int p2), .val (.int p3), .val (.int p4), .val (.ref b1), .val (.int (3 : Int32)), .val (.int ((3 : Int32) + ((((p4.toUInt32 >>> ((8 : Int32) &&& 31).toUInt32).toInt32) &&& (255 : Int32)) % (2 : Int32)))), .unset] [(.int (J0_78_S0_76 p0 p1 p2 p3 p4 wc fv))])) t → Steps p.tables e below (s₁.setTop (entryFrame m #[(.int p0), (.int p1), (.int p2), (.int p3), (.int p4)] maxLocals)) t := by
            by_cases hc78 : (F2 (0 : Int32) (3 : Int32) ((3 : Int32) + ((((p4.toUInt32 >>> ((8 : Int32) &&& 31).toUInt32).toInt32) &&& (255 : Int32)) % (2 : Int32))) ((F1 p0).toInt8.toInt32)) = (0 : Int32)
            · refine ⟨T65, _, X65, N65, e65, fun t kt => pre66 t ?_⟩
              show Steps p.tables e below (T65.setTop (mkF m 78 #[.val (.int p0), .val (.int p1), .val (.int p2), .val (.int p3), .val (.int p4), .val (.ref b1), .val (.int (3 : Int32)), .val (.int ((3 : Int32) + ((((p4.toUInt32 >>> ((8 : Int32) &&& 31).toUInt32).toInt32) &&& (255 : Int32)) % (2 : Int32)))), .unset] [(.int (F2 (0 : Int32) (3 : Int32) ((3 : Int32) + ((((p4.toUInt32 >>> ((8 : Int32) &&& 31).toUInt32).toInt32) &&& (255 : Int32)) % (2 : Int32))) ((F1 p0).toInt8.toInt32)))])) _
              refine XS.ifYes X65.here hx rfl (pc0 := 78) (pc' := 130) rfl (hb hby at_78) rfl ((if0 _ _).trans (teq hc78).1) (by decide) (by decide) ?_
              refine XS.iconst X65.here hx rfl (hb hby at_130) ?_
              show Steps p.tables e below (T65.setTop (mkF m 131 #[.val (.int p0), .val (.int p1), .val (.int p2), .val (.int p3), .val (.int p4), .val (.ref b1), .val (.int (3 : Int32)), .val (.int ((3 : Int32) + ((((p4.toUInt32 >>> ((8 : Int32) &&& 31).toUInt32).toInt32) &&& (255 : Int32)) % (2 : Int32)))), .unset] [(.int (0 : Int32))])) _
              have qjS0 : (J0_78_S0_76 p0 p1 p2 p3 p4 wc fv) = (0 : Int32) := by unfold J0_78_S0_76; simp only [if_true, if_false, if_pos hc78]
              rw [qjS0] at kt
              exact kt
            · obtain ⟨cl67, Ar67, qa67, S67, Nl67, H67, G67⟩ := id V9
              have hin67 : ¬ ((1 : Int32) < 0 ∨ cl67.slots.size ≤ ((1 : Int32)).toNatClampNeg) := inb_of S67 ⟨by decide, by decide⟩
              have hat67 : cl67.slots[((1 : Int32)).toNatClampNeg]? = some (.int ((F1 p1).toInt8.toInt32)) := Has.at H67 hin67 rfl
              obtain ⟨_, _, ⟨T68, L68, k68, n68⟩, -, X68, ⟨Lc68, hQ68, ll68, ly68, lz68⟩, st68⟩ := Jvm.LawKit.callS X65 hx (y := (⟨"com/example/standbye/standbye/TextInputIsNamePinLaw", "fine", "(IIIB)Z"⟩ : MethodName)) hown8 (mvT hZ8 (hw _ (List.mem_of_getElem? (i := 5) rfl))) (mvT hZ8 (hw _ (List.mem_of_getElem? (i := 6) rfl))) (mvT hZ8 (hw _ (List.mem_of_getElem? (i := 3) rfl))) (mvT hZ8 (hw _ (List.mem_of_getElem? (i := 7) rfl))) (by decide) (backOf (W := 0) (rm2 l Z a0 hw [] (1 : Int32) (3 : Int32) ((3 : Int32) + ((((p4.toUInt32 >>> ((8 : Int32) &&& 31).toUInt32).toInt32) &&& (255 : Int32)) % (2 : Int32))) ((F1 p1).toInt8.toInt32) h9 n0 (Nat.le_trans (Nat.le_trans (Nat.le_trans (Nat.le_trans (Nat.le_trans (Nat.le_trans (Nat.le_trans (Nat.le_trans (Nat.le_trans Z0 E1.1) K2c.1) (Keep.of_wr W3).1) K4c.1) (Keep.of_wr W5).1) K6c.1) (Keep.of_wr W7).1) K8c.1) (Keep.of_wr W9).1) ) hZ8 (hw _ (List.mem_of_getElem? (i := 7) rfl)) (hw _ (List.mem_of_getElem? (i := 3) rfl)) (by decide) (by decide)) (g := (mkF m 90 #[.val (.int p0), .val (.int p1), .val (.int p2), .val (.int p3), .val (.int p4), .val (.ref b1), .val (.int (3 : Int32)), .val (.int ((3 : Int32) + ((((p4.toUInt32 >>> ((8 : Int32) &&& 31).toUInt32).toInt32) &&& (255 : Int32)) % (2 : Int32)))), .unset] [(.int ((F1 p1).toInt8.toInt32)), (.int ((3 : Int32) + ((((p4.toUInt32 >>> ((8 : Int32) &&& 31).toUInt32).toInt32) &&& (255 : Int32)) % (2 : Int32)))), (.int (3 : Int32)), (.int (1 : Int32))])) rfl (by rw [hml]; rfl) (argsL := [(.int (1 : Int32)), (.int (3 : Int32)), (.int ((3 : Int32) + ((((p4.toUInt32 >>> ((8 : Int32) &&& 31).toUInt32).toInt32) &&& (255 : Int32)) % (2 : Int32)))), (.int ((F1 p1).toInt8.toInt32))]) (rest := []) (lenOf pd__IIIB_Z rfl) rfl (by show 2 * 0 + _ ≤ _; exact Nat.le_of_eq rfl) (hb hby at_90) (fun _ _ => ⟨rfl, e65, (by decide : 9 + 0 ≤ _), (by decide : 612 + 0 ≤ _)⟩)
              dsimp only [Pt.U, Pt.locs, Pt.cells, Pt.slots] at X68 ll68 ly68 lz68 st68 hQ68
              subst ll68 ly68 lz68
              obtain ⟨rfl, N68q, e68⟩ := hQ68
              have N68 := Fr.app N65 N68q
              have pre69 : ∀ t, Steps p.tables e below (T68.setTop (mkF m 93 #[.val (.int p0), .val (.int p1), .val (.int p2), .val (.int p3), .val (.int p4), .val (.ref b1), .val (.int (3 : Int32)), .val (.int ((3 : Int32) + ((((p4.toUInt32 >>> ((8 : Int32) &&& 31).toUInt32).toInt32) &&& (255 : Int32)) % (2 : Int32)))), .unset] [(.int (F2 (1 : Int32) (3 : Int32) ((3 : Int32) + ((((p4.toUInt32 >>> ((8 : Int32) &&& 31).toUInt32).toInt32) &&& (255 : Int32)) % (2 : Int32))) ((F1 p1).toInt8.toInt32)))])) t → Steps p.tables e below (s₁.setTop (entryFrame m #[(.int p0), (.int p1), (.int p2), (.int p3), (.int p4)] maxLocals)) t := fun t kt => pre66 t (by
                show Steps p.tables e below (T65.setTop (mkF m 78 #[.val (.int p0), .val (.int p1), .val (.int p2), .val (.int p3), .val (.int p4), .val (.ref b1), .val (.int (3 : Int32)), .val (.int ((3 : Int32) + ((((p4.toUInt32 >>> ((8 : Int32) &&& 31).toUInt32).toInt32) &&& (255 : Int32)) % (2 : Int32)))), .unset] [(.int (F2 (0 : Int32) (3 : Int32) ((3 : Int32) + ((((p4.toUInt32 >>> ((8 : Int32) &&& 31).toUInt32).toInt32) &&& (255 : Int32)) % (2 : Int32))) ((F1 p0).toInt8.toInt32)))])) _
                refine XS.ifNo X65.here hx rfl (hb hby at_78) rfl ((if0 _ _).trans (feq hc78).1) ?_
                refine XS.iconst X65.here hx rfl (hb hby at_81) ?_
                refine XS.iload X65.here hx rfl (hb hby at_82) rfl ?_
                refine XS.iload X65.here hx rfl (hb hby at_84) rfl ?_
                refine XS.aload X65.here hx rfl (hb hby at_86) rfl rfl ?_
                refine XS.iconst X65.here hx rfl (hb hby at_88) ?_
                refine X65.baloadBytes hx (j := (1 : Int32)) (v := (.int ((F1 p1).toInt8.toInt32))) (by rw [e65]; exact Ar67.1) (State.isArrayOf_alike hZ8.alike Ar67.2.1) Ar67.2.2 hin67 hat67 (g := (mkF m 89 #[.val (.int p0), .val (.int p1), .val (.int p2), .val (.int p3), .val (.int p4), .val (.ref b1), .val (.int (3 : Int32)), .val (.int ((3 : Int32) + ((((p4.toUInt32 >>> ((8 : Int32) &&& 31).toUInt32).toInt32) &&& (255 : Int32)) % (2 : Int32)))), .unset] [(.int (1 : Int32)), (.ref b1), (.int ((3 : Int32) + ((((p4.toUInt32 >>> ((8 : Int32) &&& 31).toUInt32).toInt32) &&& (255 : Int32)) % (2 : Int32)))), (.int (3 : Int32)), (.int (1 : Int32))])) rfl rfl (hb hby at_89) _ ?_
                refine st68 _ ?_
                exact kt)
              by_cases hc93 : (F2 (1 : Int32) (3 : Int32) ((3 : Int32) + ((((p4.toUInt32 >>> ((8 : Int32) &&& 31).toUInt32).toInt32) &&& (255 : Int32)) % (2 : Int32))) ((F1 p1).toInt8.toInt32)) = (0 : Int32)
              · refine ⟨T68, _, X68, N68, e68, fun t kt => pre69 t ?_⟩
                show Steps p.tables e below (T68.setTop (mkF m 93 #[.val (.int p0), .val (.int p1), .val (.int p2), .val (.int p3), .val (.int p4), .val (.ref b1), .val (.int (3 : Int32)), .val (.int ((3 : Int32) + ((((p4.toUInt32 >>> ((8 : Int32) &&& 31).toUInt32).toInt32) &&& (255 : Int32)) % (2 : Int32)))), .unset] [(.int (F2 (1 : Int32) (3 : Int32) ((3 : Int32) + ((((p4.toUInt32 >>> ((8 : Int32) &&& 31).toUInt32).toInt32) &&& (255 : Int32)) % (2 : Int32))) ((F1 p1).toInt8.toInt32)))])) _
                refine XS.ifYes X68.here hx rfl (pc0 := 93) (pc' := 130) rfl (hb hby at_93) rfl ((if0 _ _).trans (teq hc93).1) (by decide) (by decide) ?_
                refine XS.iconst X68.here hx rfl (hb hby at_130) ?_
                show Steps p.tables e below (T68.setTop (mkF m 131 #[.val (.int p0), .val (.int p1), .val (.int p2), .val (.int p3), .val (.int p4), .val (.ref b1), .val (.int (3 : Int32)), .val (.int ((3 : Int32) + ((((p4.toUInt32 >>> ((8 : Int32) &&& 31).toUInt32).toInt32) &&& (255 : Int32)) % (2 : Int32)))), .unset] [(.int (0 : Int32))])) _
                have qjS0 : (J0_78_S0_76 p0 p1 p2 p3 p4 wc fv) = (0 : Int32) := by unfold J0_78_S0_76; simp only [if_true, if_false, if_neg hc78, if_pos hc93]
                rw [qjS0] at kt
                exact kt
              · obtain ⟨cl70, Ar70, qa70, S70, Nl70, H70, G70⟩ := id V9
                have hin70 : ¬ ((2 : Int32) < 0 ∨ cl70.slots.size ≤ ((2 : Int32)).toNatClampNeg) := inb_of S70 ⟨by decide, by decide⟩
                have hat70 : cl70.slots[((2 : Int32)).toNatClampNeg]? = some (.int ((F1 p2).toInt8.toInt32)) := Has.at H70 hin70 rfl
                obtain ⟨_, _, ⟨T71, L71, k71, n71⟩, -, X71, ⟨Lc71, hQ71, ll71, ly71, lz71⟩, st71⟩ := Jvm.LawKit.callS X68 hx (y := (⟨"com/example/standbye/standbye/TextInputIsNamePinLaw", "fine", "(IIIB)Z"⟩ : MethodName)) hown8 (mvT hZ8 (hw _ (List.mem_of_getElem? (i := 5) rfl))) (mvT hZ8 (hw _ (List.mem_of_getElem? (i := 6) rfl))) (mvT hZ8 (hw _ (List.mem_of_getElem? (i := 3) rfl))) (mvT hZ8 (hw _ (List.mem_of_getElem? (i := 7) rfl))) (by decide) (backOf (W := 0) (rm2 l Z a0 hw [] (2 : Int32) (3 : Int32) ((3 : Int32) + ((((p4.toUInt32 >>> ((8 : Int32) &&& 31).toUInt32).toInt32) &&& (255 : Int32)) % (2 : Int32))) ((F1 p2).toInt8.toInt32) h9 n0 (Nat.le_trans (Nat.le_trans (Nat.le_trans (Nat.le_trans (Nat.le_trans (Nat.le_trans (Nat.le_trans (Nat.le_trans (Nat.le_trans Z0 E1.1) K2c.1) (Keep.of_wr W3).1) K4c.1) (Keep.of_wr W5).1) K6c.1) (Keep.of_wr W7).1) K8c.1) (Keep.of_wr W9).1) ) hZ8 (hw _ (List.mem_of_getElem? (i := 7) rfl)) (hw _ (List.mem_of_getElem? (i := 3) rfl)) (by decide) (by decide)) (g := (mkF m 105 #[.val (.int p0), .val (.int p1), .val (.int p2), .val (.int p3), .val (.int p4), .val (.ref b1), .val (.int (3 : Int32)), .val (.int ((3 : Int32) + ((((p4.toUInt32 >>> ((8 : Int32) &&& 31).toUInt32).toInt32) &&& (255 : Int32)) % (2 : Int32)))), .unset] [(.int ((F1 p2).toInt8.toInt32)), (.int ((3 : Int32) + ((((p4.toUInt32 >>> ((8 : Int32) &&& 31).toUInt32).toInt32) &&& (255 : Int32)) % (2 : Int32)))), (.int (3 : Int32)), (.int (2 : Int32))])) rfl (by rw [hml]; rfl) (argsL := [(.int (2 : Int32)), (.int (3 : Int32)), (.int ((3 : Int32) + ((((p4.toUInt32 >>> ((8 : Int32) &&& 31).toUInt32).toInt32) &&& (255 : Int32)) % (2 : Int32)))), (.int ((F1 p2).toInt8.toInt32))]) (rest := []) (lenOf pd__IIIB_Z rfl) rfl (by show 2 * 0 + _ ≤ _; exact Nat.le_of_eq rfl) (hb hby at_105) (fun _ _ => ⟨rfl, e68, (by decide : 9 + 0 ≤ _), (by decide : 612 + 0 ≤ _)⟩)
                dsimp only [Pt.U, Pt.locs, Pt.cells, Pt.slots] at X71 ll71 ly71 lz71 st71 hQ71
                subst ll71 ly71 lz71
                obtain ⟨rfl, N71q, e71⟩ := hQ71
                have N71 := Fr.app N68 N71q
                have pre72 : ∀ t, Steps p.tables e below (T71.setTop (mkF m 108 #[.val (.int p0), .val (.int p1), .val (.int p2), .val (.int p3), .val (.int p4), .val (.ref b1), .val (.int (3 : Int32)), .val (.int ((3 : Int32) + ((((p4.toUInt32 >>> ((8 : Int32) &&& 31).toUInt32).toInt32) &&& (255 : Int32)) % (2 : Int32)))), .unset] [(.int (F2 (2 : Int32) (3 : Int32) ((3 : Int32) + ((((p4.toUInt32 >>> ((8 : Int32) &&& 31).toUInt32).toInt32) &&& (255 : Int32)) % (2 : Int32))) ((F1 p2).toInt8.toInt32)))])) t → Steps p.tables e below (s₁.setTop (entryFrame m #[(.int p0), (.int p1), (.int p2), (.int p3), (.int p4)] maxLocals)) t := fun t kt => pre69 t (by
                  show Steps p.tables e below (T68.setTop (mkF m 93 #[.val (.int p0), .val (.int p1), .val (.int p2), .val (.int p3), .val (.int p4), .val (.ref b1), .val (.int (3 : Int32)), .val (.int ((3 : Int32) + ((((p4.toUInt32 >>> ((8 : Int32) &&& 31).toUInt32).toInt32) &&& (255 : Int32)) % (2 : Int32)))), .unset] [(.int (F2 (1 : Int32) (3 : Int32) ((3 : Int32) + ((((p4.toUInt32 >>> ((8 : Int32) &&& 31).toUInt32).toInt32) &&& (255 : Int32)) % (2 : Int32))) ((F1 p1).toInt8.toInt32)))])) _
                  refine XS.ifNo X68.here hx rfl (hb hby at_93) rfl ((if0 _ _).trans (feq hc93).1) ?_
                  refine XS.iconst X68.here hx rfl (hb hby at_96) ?_
                  refine XS.iload X68.here hx rfl (hb hby at_97) rfl ?_
                  refine XS.iload X68.here hx rfl (hb hby at_99) rfl ?_
                  refine XS.aload X68.here hx rfl (hb hby at_101) rfl rfl ?_
                  refine XS.iconst X68.here hx rfl (hb hby at_103) ?_
                  refine X68.baloadBytes hx (j := (2 : Int32)) (v := (.int ((F1 p2).toInt8.toInt32))) (by rw [e68]; exact Ar70.1) (State.isArrayOf_alike hZ8.alike Ar70.2.1) Ar70.2.2 hin70 hat70 (g := (mkF m 104 #[.val (.int p0), .val (.int p1), .val (.int p2), .val (.int p3), .val (.int p4), .val (.ref b1), .val (.int (3 : Int32)), .val (.int ((3 : Int32) + ((((p4.toUInt32 >>> ((8 : Int32) &&& 31).toUInt32).toInt32) &&& (255 : Int32)) % (2 : Int32)))), .unset] [(.int (2 : Int32)), (.ref b1), (.int ((3 : Int32) + ((((p4.toUInt32 >>> ((8 : Int32) &&& 31).toUInt32).toInt32) &&& (255 : Int32)) % (2 : Int32)))), (.int (3 : Int32)), (.int (2 : Int32))])) rfl rfl (hb hby at_104) _ ?_
                  refine st71 _ ?_
                  exact kt)
                by_cases hc108 : (F2 (2 : Int32) (3 : Int32) ((3 : Int32) + ((((p4.toUInt32 >>> ((8 : Int32) &&& 31).toUInt32).toInt32) &&& (255 : Int32)) % (2 : Int32))) ((F1 p2).toInt8.toInt32)) = (0 : Int32)
                · refine ⟨T71, _, X71, N71, e71, fun t kt => pre72 t ?_⟩
                  show Steps p.tables e below (T71.setTop (mkF m 108 #[.val (.int p0), .val (.int p1), .val (.int p2), .val (.int p3), .val (.int p4), .val (.ref b1), .val (.int (3 : Int32)), .val (.int ((3 : Int32) + ((((p4.toUInt32 >>> ((8 : Int32) &&& 31).toUInt32).toInt32) &&& (255 : Int32)) % (2 : Int32)))), .unset] [(.int (F2 (2 : Int32) (3 : Int32) ((3 : Int32) + ((((p4.toUInt32 >>> ((8 : Int32) &&& 31).toUInt32).toInt32) &&& (255 : Int32)) % (2 : Int32))) ((F1 p2).toInt8.toInt32)))])) _
                  refine XS.ifYes X71.here hx rfl (pc0 := 108) (pc' := 130) rfl (hb hby at_108) rfl ((if0 _ _).trans (teq hc108).1) (by decide) (by decide) ?_
                  refine XS.iconst X71.here hx rfl (hb hby at_130) ?_
                  show Steps p.tables e below (T71.setTop (mkF m 131 #[.val (.int p0), .val (.int p1), .val (.int p2), .val (.int p3), .val (.int p4), .val (.ref b1), .val (.int (3 : Int32)), .val (.int ((3 : Int32) + ((((p4.toUInt32 >>> ((8 : Int32) &&& 31).toUInt32).toInt32) &&& (255 : Int32)) % (2 : Int32)))), .unset] [(.int (0 : Int32))])) _
                  have qjS0 : (J0_78_S0_76 p0 p1 p2 p3 p4 wc fv) = (0 : Int32) := by unfold J0_78_S0_76; simp only [if_true, if_false, if_neg hc78, if_neg hc93, if_pos hc108]
                  rw [qjS0] at kt
                  exact kt
                · obtain ⟨cl73, Ar73, qa73, S73, Nl73, H73, G73⟩ := id V9
                  have hin73 : ¬ ((3 : Int32) < 0 ∨ cl73.slots.size ≤ ((3 : Int32)).toNatClampNeg) := inb_of S73 ⟨by decide, by decide⟩
                  have hat73 : cl73.slots[((3 : Int32)).toNatClampNeg]? = some (.int ((F1 p3).toInt8.toInt32)) := Has.at H73 hin73 rfl
                  obtain ⟨_, _, ⟨T74, L74, k74, n74⟩, -, X74, ⟨Lc74, hQ74, ll74, ly74, lz74⟩, st74⟩ := Jvm.LawKit.callS X71 hx (y := (⟨"com/example/standbye/standbye/TextInputIsNamePinLaw", "fine", "(IIIB)Z"⟩ : MethodName)) hown8 (mvT hZ8 (hw _ (List.mem_of_getElem? (i := 5) rfl))) (mvT hZ8 (hw _ (List.mem_of_getElem? (i := 6) rfl))) (mvT hZ8 (hw _ (List.mem_of_getElem? (i := 3) rfl))) (mvT hZ8 (hw _ (List.mem_of_getElem? (i := 7) rfl))) (by decide) (backOf (W := 0) (rm2 l Z a0 hw [] (3 : Int32) (3 : Int32) ((3 : Int32) + ((((p4.toUInt32 >>> ((8 : Int32) &&& 31).toUInt32).toInt32) &&& (255 : Int32)) % (2 : Int32))) ((F1 p3).toInt8.toInt32) h9 n0 (Nat.le_trans (Nat.le_trans (Nat.le_trans (Nat.le_trans (Nat.le_trans (Nat.le_trans (Nat.le_trans (Nat.le_trans (Nat.le_trans Z0 E1.1) K2c.1) (Keep.of_wr W3).1) K4c.1) (Keep.of_wr W5).1) K6c.1) (Keep.of_wr W7).1) K8c.1) (Keep.of_wr W9).1) ) hZ8 (hw _ (List.mem_of_getElem? (i := 7) rfl)) (hw _ (List.mem_of_getElem? (i := 3) rfl)) (by decide) (by decide)) (g := (mkF m 120 #[.val (.int p0), .val (.int p1), .val (.int p2), .val (.int p3), .val (.int p4), .val (.ref b1), .val (.int (3 : Int32)), .val (.int ((3 : Int32) + ((((p4.toUInt32 >>> ((8 : Int32) &&& 31).toUInt32).toInt32) &&& (255 : Int32)) % (2 : Int32)))), .unset] [(.int ((F1 p3).toInt8.toInt32)), (.int ((3 : Int32) + ((((p4.toUInt32 >>> ((8 : Int32) &&& 31).toUInt32).toInt32) &&& (255 : Int32)) % (2 : Int32)))), (.int (3 : Int32)), (.int (3 : Int32))])) rfl (by rw [hml]; rfl) (argsL := [(.int (3 : Int32)), (.int (3 : Int32)), (.int ((3 : Int32) + ((((p4.toUInt32 >>> ((8 : Int32) &&& 31).toUInt32).toInt32) &&& (255 : Int32)) % (2 : Int32)))), (.int ((F1 p3).toInt8.toInt32))]) (rest := []) (lenOf pd__IIIB_Z rfl) rfl (by show 2 * 0 + _ ≤ _; exact Nat.le_of_eq rfl) (hb hby at_120) (fun _ _ => ⟨rfl, e71, (by decide : 9 + 0 ≤ _), (by decide : 612 + 0 ≤ _)⟩)
                  dsimp only [Pt.U, Pt.locs, Pt.cells, Pt.slots] at X74 ll74 ly74 lz74 st74 hQ74
                  subst ll74 ly74 lz74
                  obtain ⟨rfl, N74q, e74⟩ := hQ74
                  have N74 := Fr.app N71 N74q
                  have pre75 : ∀ t, Steps p.tables e below (T74.setTop (mkF m 123 #[.val (.int p0), .val (.int p1), .val (.int p2), .val (.int p3), .val (.int p4), .val (.ref b1), .val (.int (3 : Int32)), .val (.int ((3 : Int32) + ((((p4.toUInt32 >>> ((8 : Int32) &&& 31).toUInt32).toInt32) &&& (255 : Int32)) % (2 : Int32)))), .unset] [(.int (F2 (3 : Int32) (3 : Int32) ((3 : Int32) + ((((p4.toUInt32 >>> ((8 : Int32) &&& 31).toUInt32).toInt32) &&& (255 : Int32)) % (2 : Int32))) ((F1 p3).toInt8.toInt32)))])) t → Steps p.tables e below (s₁.setTop (entryFrame m #[(.int p0), (.int p1), (.int p2), (.int p3), (.int p4)] maxLocals)) t := fun t kt => pre72 t (by
                    show Steps p.tables e below (T71.setTop (mkF m 108 #[.val (.int p0), .val (.int p1), .val (.int p2), .val (.int p3), .val (.int p4), .val (.ref b1), .val (.int (3 : Int32)), .val (.int ((3 : Int32) + ((((p4.toUInt32 >>> ((8 : Int32) &&& 31).toUInt32).toInt32) &&& (255 : Int32)) % (2 : Int32)))), .unset] [(.int (F2 (2 : Int32) (3 : Int32) ((3 : Int32) + ((((p4.toUInt32 >>> ((8 : Int32) &&& 31).toUInt32).toInt32) &&& (255 : Int32)) % (2 : Int32))) ((F1 p2).toInt8.toInt32)))])) _
                    refine XS.ifNo X71.here hx rfl (hb hby at_108) rfl ((if0 _ _).trans (feq hc108).1) ?_
                    refine XS.iconst X71.here hx rfl (hb hby at_111) ?_
                    refine XS.iload X71.here hx rfl (hb hby at_112) rfl ?_
                    refine XS.iload X71.here hx rfl (hb hby at_114) rfl ?_
                    refine XS.aload X71.here hx rfl (hb hby at_116) rfl rfl ?_
                    refine XS.iconst X71.here hx rfl (hb hby at_118) ?_
                    refine X71.baloadBytes hx (j := (3 : Int32)) (v := (.int ((F1 p3).toInt8.toInt32))) (by rw [e71]; exact Ar73.1) (State.isArrayOf_alike hZ8.alike Ar73.2.1) Ar73.2.2 hin73 hat73 (g := (mkF m 119 #[.val (.int p0), .val (.int p1), .val (.int p2), .val (.int p3), .val (.int p4), .val (.ref b1), .val (.int (3 : Int32)), .val (.int ((3 : Int32) + ((((p4.toUInt32 >>> ((8 : Int32) &&& 31).toUInt32).toInt32) &&& (255 : Int32)) % (2 : Int32)))), .unset] [(.int (3 : Int32)), (.ref b1), (.int ((3 : Int32) + ((((p4.toUInt32 >>> ((8 : Int32) &&& 31).toUInt32).toInt32) &&& (255 : Int32)) % (2 : Int32)))), (.int (3 : Int32)), (.int (3 : Int32))])) rfl rfl (hb hby at_119) _ ?_
                    refine st74 _ ?_
                    exact kt)
                  by_cases hc123 : (F2 (3 : Int32) (3 : Int32) ((3 : Int32) + ((((p4.toUInt32 >>> ((8 : Int32) &&& 31).toUInt32).toInt32) &&& (255 : Int32)) % (2 : Int32))) ((F1 p3).toInt8.toInt32)) = (0 : Int32)
                  · refine ⟨T74, _, X74, N74, e74, fun t kt => pre75 t ?_⟩
                    show Steps p.tables e below (T74.setTop (mkF m 123 #[.val (.int p0), .val (.int p1), .val (.int p2), .val (.int p3), .val (.int p4), .val (.ref b1), .val (.int (3 : Int32)), .val (.int ((3 : Int32) + ((((p4.toUInt32 >>> ((8 : Int32) &&& 31).toUInt32).toInt32) &&& (255 : Int32)) % (2 : Int32)))), .unset] [(.int (F2 (3 : Int32) (3 : Int32) ((3 : Int32) + ((((p4.toUInt32 >>> ((8 : Int32) &&& 31).toUInt32).toInt32) &&& (255 : Int32)) % (2 : Int32))) ((F1 p3).toInt8.toInt32)))])) _
                    refine XS.ifYes X74.here hx rfl (pc0 := 123) (pc' := 130) rfl (hb hby at_123) rfl ((if0 _ _).trans (teq hc123).1) (by decide) (by decide) ?_
                    refine XS.iconst X74.here hx rfl (hb hby at_130) ?_
                    show Steps p.tables e below (T74.setTop (mkF m 131 #[.val (.int p0), .val (.int p1), .val (.int p2), .val (.int p3), .val (.int p4), .val (.ref b1), .val (.int (3 : Int32)), .val (.int ((3 : Int32) + ((((p4.toUInt32 >>> ((8 : Int32) &&& 31).toUInt32).toInt32) &&& (255 : Int32)) % (2 : Int32)))), .unset] [(.int (0 : Int32))])) _
                    have qjS0 : (J0_78_S0_76 p0 p1 p2 p3 p4 wc fv) = (0 : Int32) := by unfold J0_78_S0_76; simp only [if_true, if_false, if_neg hc78, if_neg hc93, if_neg hc108, if_pos hc123]
                    rw [qjS0] at kt
                    exact kt
                  · refine ⟨T74, _, X74, N74, e74, fun t kt => pre75 t ?_⟩
                    show Steps p.tables e below (T74.setTop (mkF m 123 #[.val (.int p0), .val (.int p1), .val (.int p2), .val (.int p3), .val (.int p4), .val (.ref b1), .val (.int (3 : Int32)), .val (.int ((3 : Int32) + ((((p4.toUInt32 >>> ((8 : Int32) &&& 31).toUInt32).toInt32) &&& (255 : Int32)) % (2 : Int32)))), .unset] [(.int (F2 (3 : Int32) (3 : Int32) ((3 : Int32) + ((((p4.toUInt32 >>> ((8 : Int32) &&& 31).toUInt32).toInt32) &&& (255 : Int32)) % (2 : Int32))) ((F1 p3).toInt8.toInt32)))])) _
                    refine XS.ifNo X74.here hx rfl (hb hby at_123) rfl ((if0 _ _).trans (feq hc123).1) ?_
                    refine XS.iconst X74.here hx rfl (hb hby at_126) ?_
                    refine XS.goto X74.here hx rfl (pc0 := 127) (pc' := 131) rfl (hb hby at_127) (by decide) (by decide) ?_
                    show Steps p.tables e below (T74.setTop (mkF m 131 #[.val (.int p0), .val (.int p1), .val (.int p2), .val (.int p3), .val (.int p4), .val (.ref b1), .val (.int (3 : Int32)), .val (.int ((3 : Int32) + ((((p4.toUInt32 >>> ((8 : Int32) &&& 31).toUInt32).toInt32) &&& (255 : Int32)) % (2 : Int32)))), .unset] [(.int (1 : Int32))])) _
                    have qjS0 : (J0_78_S0_76 p0 p1 p2 p3 p4 wc fv) = (1 : Int32) := by unfold J0_78_S0_76; simp only [if_true, if_false, if_neg hc78, if_neg hc93, if_neg hc108, if_neg hc123]
                    rw [qjS0] at kt
                    exact kt
          obtain ⟨_, _, ⟨T77, L77, k77, n77⟩, -, X77, ⟨Lc77, hQ77, ll77, ly77, lz77⟩, st77⟩ := Jvm.LawKit.callS Xj76 hx (y := (⟨"com/example/standbye/standbye/TextInput", "isName", "([BII)Z"⟩ : MethodName)) hown8 (mvT hZ8 (hw _ (List.mem_of_getElem? (i := 8) rfl))) (mvT hZ8 (hw _ (List.mem_of_getElem? (i := 9) rfl))) (mvT hZ8 (hw _ (List.mem_of_getElem? (i := 10) rfl))) (mvT hZ8 (hw _ (List.mem_of_getElem? (i := 11) rfl))) (by decide) (backOf (W := 0) (rm3s3 l Z a0 hw [] b1 ((3 : Int32) + ((((p4.toUInt32 >>> ((8 : Int32) &&& 31).toUInt32).toInt32) &&& (255 : Int32)) % (2 : Int32))) k1 ((F1 p0).toInt8.toInt32) ((F1 p1).toInt8.toInt32) ((F1 p2).toInt8.toInt32) ((F1 p3).toInt8.toInt32) h9 n0 (Nat.le_trans (Nat.le_trans (Nat.le_trans (Nat.le_trans (Nat.le_trans (Nat.le_trans (Nat.le_trans (Nat.le_trans (Nat.le_trans Z0 E1.1) K2c.1) (Keep.of_wr W3).1) K4c.1) (Keep.of_wr W5).1) K6c.1) (Keep.of_wr W7).1) K8c.1) (Keep.of_wr W9).1) V9 (own_le3 p4)) hZ8 (hw _ (List.mem_of_getElem? (i := 11) rfl)) (hw _ (List.mem_of_getElem? (i := 10) rfl)) (by decide) (by decide)) (g := (mkF m 139 #[.val (.int p0), .val (.int p1), .val (.int p2), .val (.int p3), .val (.int p4), .val (.ref b1), .val (.int (3 : Int32)), .val (.int ((3 : Int32) + ((((p4.toUInt32 >>> ((8 : Int32) &&& 31).toUInt32).toInt32) &&& (255 : Int32)) % (2 : Int32)))), .val (.int (J0_78_S0_76 p0 p1 p2 p3 p4 wc fv))] [(.int ((3 : Int32) + ((((p4.toUInt32 >>> ((8 : Int32) &&& 31).toUInt32).toInt32) &&& (255 : Int32)) % (2 : Int32)))), (.int (3 : Int32)), (.ref b1)])) rfl (by rw [hml]; rfl) (argsL := [(.ref b1), (.int (3 : Int32)), (.int ((3 : Int32) + ((((p4.toUInt32 >>> ((8 : Int32) &&& 31).toUInt32).toInt32) &&& (255 : Int32)) % (2 : Int32))))]) (rest := []) (lenOf pd___BII_Z rfl) rfl (by show 2 * 0 + _ ≤ _; exact Nat.le_of_eq rfl) (hb hby at_139) (fun _ _ => ⟨rfl, ej76, (by decide : 9 + 0 ≤ _), (by decide : 612 + 0 ≤ _)⟩)
          dsimp only [Pt.U, Pt.locs, Pt.cells, Pt.slots] at X77 ll77 ly77 lz77 st77 hQ77
          subst ll77 ly77 lz77
          obtain ⟨rfl, N77q, e77⟩ := hQ77
          have N77 := Fr.app Nj76 N77q
          have pre78 : ∀ t, Steps p.tables e below (T77.setTop (mkF m 144 #[.val (.int p0), .val (.int p1), .val (.int p2), .val (.int p3), .val (.int p4), .val (.ref b1), .val (.int (3 : Int32)), .val (.int ((3 : Int32) + ((((p4.toUInt32 >>> ((8 : Int32) &&& 31).toUInt32).toInt32) &&& (255 : Int32)) % (2 : Int32)))), .val (.int (J0_78_S0_76 p0 p1 p2 p3 p4 wc fv))] [(.int (J0_78_S0_76 p0 p1 p2 p3 p4 wc fv)), (.int (F3s3 ((3 : Int32) + ((((p4.toUInt32 >>> ((8 : Int32) &&& 31).toUInt32).toInt32) &&& (255 : Int32)) % (2 : Int32))) ((F1 p0).toInt8.toInt32) ((F1 p1).toInt8.toInt32) ((F1 p2).toInt8.toInt32) ((F1 p3).toInt8.toInt32)))])) t → Steps p.tables e below (s₁.setTop (entryFrame m #[(.int p0), (.int p1), (.int p2), (.int p3), (.int p4)] maxLocals)) t := fun t kt => pre76 t (by
            show Steps p.tables e below (Tj76.setTop (mkF m 131 #[.val (.int p0), .val (.int p1), .val (.int p2), .val (.int p3), .val (.int p4), .val (.ref b1), .val (.int (3 : Int32)), .val (.int ((3 : Int32) + ((((p4.toUInt32 >>> ((8 : Int32) &&& 31).toUInt32).toInt32) &&& (255 : Int32)) % (2 : Int32)))), .unset] [(.int (J0_78_S0_76 p0 p1 p2 p3 p4 wc fv))])) _
            refine XS.istore Xj76.here hx rfl (hb hby at_131) rfl (l' := #[.val (.int p0), .val (.int p1), .val (.int p2), .val (.int p3), .val (.int p4), .val (.ref b1), .val (.int (3 : Int32)), .val (.int ((3 : Int32) + ((((p4.toUInt32 >>> ((8 : Int32) &&& 31).toUInt32).toInt32) &&& (255 : Int32)) % (2 : Int32)))), .val (.int (J0_78_S0_76 p0 p1 p2 p3 p4 wc fv))]) rfl ?_
            refine XS.aload Xj76.here hx rfl (hb hby at_133) rfl rfl ?_
            refine XS.iload Xj76.here hx rfl (hb hby at_135) rfl ?_
            refine XS.iload Xj76.here hx rfl (hb hby at_137) rfl ?_
            refine st77 _ ?_
            refine XS.iload X77.here hx rfl (hb hby at_142) rfl ?_
            exact kt)
          by_cases hc144 : (F3s3 ((3 : Int32) + ((((p4.toUInt32 >>> ((8 : Int32) &&& 31).toUInt32).toInt32) &&& (255 : Int32)) % (2 : Int32))) ((F1 p0).toInt8.toInt32) ((F1 p1).toInt8.toInt32) ((F1 p2).toInt8.toInt32) ((F1 p3).toInt8.toInt32)) = (J0_78_S0_76 p0 p1 p2 p3 p4 wc fv)
          · obtain ⟨fs, hr, hrun, hended, hEnd⟩ := X77.leaveW hS8 (by rw [e77]; exact (Nat.le_trans (Nat.le_refl T8.heap.size) (Keep.of_wr W9).1)) (v := some (.int (1 : Int32))) (fun h => by rw [Bd.returns] at h; cases h)
            have CRe := CHr.trans CR9 (CHv.at X77 hZ8 hEL CR9.1)
            refine ⟨_, _, pre78 _ ?_, hrun, hended, _, _, rfl, ?_, ?_, hEnd.1, hEnd.2.1, hEnd.2.2.1, hEnd.2.2.2.mono (by decide) (by decide)⟩
            · show Steps p.tables e below (T77.setTop (mkF m 144 #[.val (.int p0), .val (.int p1), .val (.int p2), .val (.int p3), .val (.int p4), .val (.ref b1), .val (.int (3 : Int32)), .val (.int ((3 : Int32) + ((((p4.toUInt32 >>> ((8 : Int32) &&& 31).toUInt32).toInt32) &&& (255 : Int32)) % (2 : Int32)))), .val (.int (J0_78_S0_76 p0 p1 p2 p3 p4 wc fv))] [(.int (J0_78_S0_76 p0 p1 p2 p3 p4 wc fv)), (.int (F3s3 ((3 : Int32) + ((((p4.toUInt32 >>> ((8 : Int32) &&& 31).toUInt32).toInt32) &&& (255 : Int32)) % (2 : Int32))) ((F1 p0).toInt8.toInt32) ((F1 p1).toInt8.toInt32) ((F1 p2).toInt8.toInt32) ((F1 p3).toInt8.toInt32)))])) _
              refine XS.icmpNo X77.here hx rfl (hb hby at_144) rfl (teq hc144).2 ?_
              refine XS.iconst X77.here hx rfl (hb hby at_147) ?_
              refine XS.goto X77.here hx rfl (pc0 := 148) (pc' := 152) rfl (hb hby at_148) (by decide) (by decide) ?_
              show Steps p.tables e below (T77.setTop (mkF m 152 #[.val (.int p0), .val (.int p1), .val (.int p2), .val (.int p3), .val (.int p4), .val (.ref b1), .val (.int (3 : Int32)), .val (.int ((3 : Int32) + ((((p4.toUInt32 >>> ((8 : Int32) &&& 31).toUInt32).toInt32) &&& (255 : Int32)) % (2 : Int32)))), .val (.int (J0_78_S0_76 p0 p1 p2 p3 p4 wc fv))] [(.int (1 : Int32))])) _
              exact retN X77 hx (t := .boolean) Bd.returns (by simp) (hb hby at_152) hr
            · show Q0 Z p0 p1 p2 p3 p4 wc fv h0 n0 _ T77.heap _
              rw [e77]
              exact ⟨(by unfold F0; simp only [if_neg hs0, if_neg hs1, if_neg hs2, if_pos hs3, if_pos hc144]), N77⟩
            · show CHr Z ELs s.vm s.heap T77.vm T77.heap
              rw [hh, e77]; exact CRe
          · obtain ⟨fs, hr, hrun, hended, hEnd⟩ := X77.leaveW hS8 (by rw [e77]; exact (Nat.le_trans (Nat.le_refl T8.heap.size) (Keep.of_wr W9).1)) (v := some (.int (0 : Int32))) (fun h => by rw [Bd.returns] at h; cases h)
            have CRe := CHr.trans CR9 (CHv.at X77 hZ8 hEL CR9.1)
            refine ⟨_, _, pre78 _ ?_, hrun, hended, _, _, rfl, ?_, ?_, hEnd.1, hEnd.2.1, hEnd.2.2.1, hEnd.2.2.2.mono (by decide) (by decide)⟩
            · show Steps p.tables e below (T77.setTop (mkF m 144 #[.val (.int p0), .val (.int p1), .val (.int p2), .val (.int p3), .val (.int p4), .val (.ref b1), .val (.int (3 : Int32)), .val (.int ((3 : Int32) + ((((p4.toUInt32 >>> ((8 : Int32) &&& 31).toUInt32).toInt32) &&& (255 : Int32)) % (2 : Int32)))), .val (.int (J0_78_S0_76 p0 p1 p2 p3 p4 wc fv))] [(.int (J0_78_S0_76 p0 p1 p2 p3 p4 wc fv)), (.int (F3s3 ((3 : Int32) + ((((p4.toUInt32 >>> ((8 : Int32) &&& 31).toUInt32).toInt32) &&& (255 : Int32)) % (2 : Int32))) ((F1 p0).toInt8.toInt32) ((F1 p1).toInt8.toInt32) ((F1 p2).toInt8.toInt32) ((F1 p3).toInt8.toInt32)))])) _
              refine XS.icmpYes X77.here hx rfl (pc0 := 144) (pc' := 151) rfl (hb hby at_144) rfl (feq hc144).2 (by decide) (by decide) ?_
              refine XS.iconst X77.here hx rfl (hb hby at_151) ?_
              show Steps p.tables e below (T77.setTop (mkF m 152 #[.val (.int p0), .val (.int p1), .val (.int p2), .val (.int p3), .val (.int p4), .val (.ref b1), .val (.int (3 : Int32)), .val (.int ((3 : Int32) + ((((p4.toUInt32 >>> ((8 : Int32) &&& 31).toUInt32).toInt32) &&& (255 : Int32)) % (2 : Int32)))), .val (.int (J0_78_S0_76 p0 p1 p2 p3 p4 wc fv))] [(.int (0 : Int32))])) _
              exact retN X77 hx (t := .boolean) Bd.returns (by simp) (hb hby at_152) hr
            · show Q0 Z p0 p1 p2 p3 p4 wc fv h0 n0 _ T77.heap _
              rw [e77]
              exact ⟨(by unfold F0; simp only [if_neg hs0, if_neg hs1, if_neg hs2, if_pos hs3, if_neg hc144]), N77⟩
            · show CHr Z ELs s.vm s.heap T77.vm T77.heap
              rw [hh, e77]; exact CRe
        · by_cases hs4 : (A0_45 p0 p1 p2 p3 p4 wc fv) = (4 : Int32)
          · have qr79 : (A0_45 p0 p1 p2 p3 p4 wc fv) = (4 : Int32) := hs4
            have pre80 : ∀ t, Steps p.tables e below (T9.setTop (mkF m 47 #[.val (.int p0), .val (.int p1), .val (.int p2), .val (.int p3), .val (.int p4), .val (.ref b1), .val (.int (4 : Int32)), .unset, .unset] [])) t → Steps p.tables e below (s₁.setTop (entryFrame m #[(.int p0), (.int p1), (.int p2), (.int p3), (.int p4)] maxLocals)) t := fun t kt => pre10 t (by rw [qr79]; exact kt)
            obtain ⟨cl81, Ar81, qa81, S81, Nl81, H81, G81⟩ := id V9
            have hin81 : ¬ ((0 : Int32) < 0 ∨ cl81.slots.size ≤ ((0 : Int32)).toNatClampNeg) := inb_of S81 ⟨by decide, by decide⟩
            have hat81 : cl81.slots[((0 : Int32)).toNatClampNeg]? = some (.int ((F1 p0).toInt8.toInt32)) := Has.at H81 hin81 rfl
            obtain ⟨_, _, ⟨T82, L82, k82, n82⟩, -, X82, ⟨Lc82, hQ82, ll82, ly82, lz82⟩, st82⟩ := Jvm.LawKit.callS X9 hx (y := (⟨"com/example/standbye/standbye/TextInputIsNamePinLaw", "fine", "(IIIB)Z"⟩ : MethodName)) hown8 (mvT hZ8 (hw _ (List.mem_of_getElem? (i := 5) rfl))) (mvT hZ8 (hw _ (List.mem_of_getElem? (i := 6) rfl))) (mvT hZ8 (hw _ (List.mem_of_getElem? (i := 3) rfl))) (mvT hZ8 (hw _ (List.mem_of_getElem? (i := 7) rfl))) (by decide) (backOf (W := 0) (rm2 l Z a0 hw [] (0 : Int32) (4 : Int32) ((4 : Int32) + ((((p4.toUInt32 >>> ((8 : Int32) &&& 31).toUInt32).toInt32) &&& (255 : Int32)) % (1 : Int32))) ((F1 p0).toInt8.toInt32) h9 n0 (Nat.le_trans (Nat.le_trans (Nat.le_trans (Nat.le_trans (Nat.le_trans (Nat.le_trans (Nat.le_trans (Nat.le_trans (Nat.le_trans Z0 E1.1) K2c.1) (Keep.of_wr W3).1) K4c.1) (Keep.of_wr W5).1) K6c.1) (Keep.of_wr W7).1) K8c.1) (Keep.of_wr W9).1) ) hZ8 (hw _ (List.mem_of_getElem? (i := 7) rfl)) (hw _ (List.mem_of_getElem? (i := 3) rfl)) (by decide) (by decide)) (g := (mkF m 75 #[.val (.int p0), .val (.int p1), .val (.int p2), .val (.int p3), .val (.int p4), .val (.ref b1), .val (.int (4 : Int32)), .val (.int ((4 : Int32) + ((((p4.toUInt32 >>> ((8 : Int32) &&& 31).toUInt32).toInt32) &&& (255 : Int32)) % (1 : Int32)))), .unset] [(.int ((F1 p0).toInt8.toInt32)), (.int ((4 : Int32) + ((((p4.toUInt32 >>> ((8 : Int32) &&& 31).toUInt32).toInt32) &&& (255 : Int32)) % (1 : Int32)))), (.int (4 : Int32)), (.int (0 : Int32))])) rfl (by rw [hml]; rfl) (argsL := [(.int (0 : Int32)), (.int (4 : Int32)), (.int ((4 : Int32) + ((((p4.toUInt32 >>> ((8 : Int32) &&& 31).toUInt32).toInt32) &&& (255 : Int32)) % (1 : Int32)))), (.int ((F1 p0).toInt8.toInt32))]) (rest := []) (lenOf pd__IIIB_Z rfl) rfl (by show 2 * 0 + _ ≤ _; exact Nat.le_of_eq rfl) (hb hby at_75) (fun _ _ => ⟨rfl, e9, (by decide : 9 + 0 ≤ _), (by decide : 612 + 0 ≤ _)⟩)
            dsimp only [Pt.U, Pt.locs, Pt.cells, Pt.slots] at X82 ll82 ly82 lz82 st82 hQ82
            subst ll82 ly82 lz82
            obtain ⟨rfl, N82q, e82⟩ := hQ82
            have N82 := Fr.app N9 N82q
            have pre83 : ∀ t, Steps p.tables e below (T82.setTop (mkF m 78 #[.val (.int p0), .val (.int p1), .val (.int p2), .val (.int p3), .val (.int p4), .val (.ref b1), .val (.int (4 : Int32)), .val (.int ((4 : Int32) + ((((p4.toUInt32 >>> ((8 : Int32) &&& 31).toUInt32).toInt32) &&& (255 : Int32)) % (1 : Int32)))), .unset] [(.int (F2 (0 : Int32) (4 : Int32) ((4 : Int32) + ((((p4.toUInt32 >>> ((8 : Int32) &&& 31).toUInt32).toInt32) &&& (255 : Int32)) % (1 : Int32))) ((F1 p0).toInt8.toInt32)))])) t → Steps p.tables e below (s₁.setTop (entryFrame m #[(.int p0), (.int p1), (.int p2), (.int p3), (.int p4)] maxLocals)) t := fun t kt => pre80 t (by
              show Steps p.tables e below (T9.setTop (mkF m 47 #[.val (.int p0), .val (.int p1), .val (.int p2), .val (.int p3), .val (.int p4), .val (.ref b1), .val (.int (4 : Int32)), .unset, .unset] [])) _
              refine XS.iload X9.here hx rfl (hb hby at_47) rfl ?_
              refine XS.iload X9.here hx rfl (hb hby at_49) rfl ?_
              refine XS.bipush X9.here hx rfl (hb hby at_51) ?_
              refine XS.iushr X9.here hx rfl (hb hby at_53) rfl ?_
              refine XS.sipush X9.here hx rfl (hb hby at_54) ?_
              refine XS.iand X9.here hx rfl (hb hby at_57) rfl ?_
              refine XS.iconst X9.here hx rfl (hb hby at_58) ?_
              refine XS.iload X9.here hx rfl (hb hby at_59) rfl ?_
              show Steps p.tables e below (T9.setTop (mkF m 61 #[.val (.int p0), .val (.int p1), .val (.int p2), .val (.int p3), .val (.int p4), .val (.ref b1), .val (.int (4 : Int32)), .unset, .unset] [(.int (4 : Int32)), (.int (5 : Int32)), (.int (((p4.toUInt32 >>> ((8 : Int32) &&& 31).toUInt32).toInt32) &&& (255 : Int32))), (.int (4 : Int32))])) _
              refine XS.isub X9.here hx rfl (hb hby at_61) rfl ?_
              refine iremM X9 hx rfl (hb hby at_62) rfl (by decide) ?_
              refine XS.iadd X9.here hx rfl (hb hby at_63) rfl ?_
              refine XS.istore X9.here hx rfl (hb hby at_64) rfl (l' := #[.val (.int p0), .val (.int p1), .val (.int p2), .val (.int p3), .val (.int p4), .val (.ref b1), .val (.int (4 : Int32)), .val (.int ((4 : Int32) + ((((p4.toUInt32 >>> ((8 : Int32) &&& 31).toUInt32).toInt32) &&& (255 : Int32)) % (1 : Int32)))), .unset]) rfl ?_
              refine XS.iconst X9.here hx rfl (hb hby at_66) ?_
              refine XS.iload X9.here hx rfl (hb hby at_67) rfl ?_
              refine XS.iload X9.here hx rfl (hb hby at_69) rfl ?_
              refine XS.aload X9.here hx rfl (hb hby at_71) rfl rfl ?_
              show Steps p.tables e below (T9.setTop (mkF m 73 #[.val (.int p0), .val (.int p1), .val (.int p2), .val (.int p3), .val (.int p4), .val (.ref b1), .val (.int (4 : Int32)), .val (.int ((4 : Int32) + ((((p4.toUInt32 >>> ((8 : Int32) &&& 31).toUInt32).toInt32) &&& (255 : Int32)) % (1 : Int32)))), .unset] [(.ref b1), (.int ((4 : Int32) + ((((p4.toUInt32 >>> ((8 : Int32) &&& 31).toUInt32).toInt32) &&& (255 : Int32)) % (1 : Int32)))), (.int (4 : Int32)), (.int (0 : Int32))])) _
              refine XS.iconst X9.here hx rfl (hb hby at_73) ?_
              refine X9.baloadBytes hx (j := (0 : Int32)) (v := (.int ((F1 p0).toInt8.toInt32))) (by rw [e9]; exact Ar81.1) (State.isArrayOf_alike hZ8.alike Ar81.2.1) Ar81.2.2 hin81 hat81 (g := (mkF m 74 #[.val (.int p0), .val (.int p1), .val (.int p2), .val (.int p3), .val (.int p4), .val (.ref b1), .val (.int (4 : Int32)), .val (.int ((4 : Int32) + ((((p4.toUInt32 >>> ((8 : Int32) &&& 31).toUInt32).toInt32) &&& (255 : Int32)) % (1 : Int32)))), .unset] [(.int (0 : Int32)), (.ref b1), (.int ((4 : Int32) + ((((p4.toUInt32 >>> ((8 : Int32) &&& 31).toUInt32).toInt32) &&& (255 : Int32)) % (1 : Int32)))), (.int (4 : Int32)), (.int (0 : Int32))])) rfl rfl (hb hby at_74) _ ?_
              refine st82 _ ?_
              exact kt)
            obtain ⟨Tj93, lj93, Xj93, Nj93, ej93, pre93⟩ : ∃ (T' : State) (locs' : List Loc), Stand p l e room_1 (s.setVm T8.vm) m #[(.int p0), (.int p1), (.int p2), (.int p3), (.int p4)] below meth c T' locs' 9 612 ∧ Fr n0 locs' ∧ T'.heap = h9 ∧ ∀ t, Steps p.tables e below (T'.setTop (mkF m 131 #[.val (.int p0), .val (.int p1), .val (.int p2), .val (.int p3), .val (.int p4), .val (.ref b1), .val (.int (4 : Int32)), .val (.int ((4 : Int32) + ((((p4.toUInt32 >>> ((8 : Int32) &&& 31).toUInt32).toInt32) &&& (255 : Int32)) % (1 : Int32)))), .unset] [(.int (J0_78_S0_93 p0 p1 p2 p3 p4 wc fv))])) t → Steps p.tables e below (s₁.setTop (entryFrame m #[(.int p0), (.int p1), (.int p2), (.int p3), (.int p4)] maxLocals)) t := by
              by_cases hc78 : (F2 (0 : Int32) (4 : Int32) ((4 : Int32) + ((((p4.toUInt32 >>> ((8 : Int32) &&& 31).toUInt32).toInt32) &&& (255 : Int32)) % (1 : Int32))) ((F1 p0).toInt8.toInt32)) = (0 : Int32)
              · refine ⟨T82, _, X82, N82, e82, fun t kt => pre83 t ?_⟩
                show Steps p.tables e below (T82.setTop (mkF m 78 #[.val (.int p0), .val (.int p1), .val (.int p2), .val (.int p3), .val (.int p4), .val (.ref b1), .val (.int (4 : Int32)), .val (.int ((4 : Int32) + ((((p4.toUInt32 >>> ((8 : Int32) &&& 31).toUInt32).toInt32) &&& (255 : Int32)) % (1 : Int32)))), .unset] [(.int (F2 (0 : Int32) (4 : Int32) ((4 : Int32) + ((((p4.toUInt32 >>> ((8 : Int32) &&& 31).toUInt32).toInt32) &&& (255 : Int32)) % (1 : Int32))) ((F1 p0).toInt8.toInt32)))])) _
                refine XS.ifYes X82.here hx rfl (pc0 := 78) (pc' := 130) rfl (hb hby at_78) rfl ((if0 _ _).trans (teq hc78).1) (by decide) (by decide) ?_
                refine XS.iconst X82.here hx rfl (hb hby at_130) ?_
                show Steps p.tables e below (T82.setTop (mkF m 131 #[.val (.int p0), .val (.int p1), .val (.int p2), .val (.int p3), .val (.int p4), .val (.ref b1), .val (.int (4 : Int32)), .val (.int ((4 : Int32) + ((((p4.toUInt32 >>> ((8 : Int32) &&& 31).toUInt32).toInt32) &&& (255 : Int32)) % (1 : Int32)))), .unset] [(.int (0 : Int32))])) _
                have qjS0 : (J0_78_S0_93 p0 p1 p2 p3 p4 wc fv) = (0 : Int32) := by unfold J0_78_S0_93; simp only [if_true, if_false, if_pos hc78]
                rw [qjS0] at kt
                exact kt
              · obtain ⟨cl84, Ar84, qa84, S84, Nl84, H84, G84⟩ := id V9
                have hin84 : ¬ ((1 : Int32) < 0 ∨ cl84.slots.size ≤ ((1 : Int32)).toNatClampNeg) := inb_of S84 ⟨by decide, by decide⟩
                have hat84 : cl84.slots[((1 : Int32)).toNatClampNeg]? = some (.int ((F1 p1).toInt8.toInt32)) := Has.at H84 hin84 rfl
                obtain ⟨_, _, ⟨T85, L85, k85, n85⟩, -, X85, ⟨Lc85, hQ85, ll85, ly85, lz85⟩, st85⟩ := Jvm.LawKit.callS X82 hx (y := (⟨"com/example/standbye/standbye/TextInputIsNamePinLaw", "fine", "(IIIB)Z"⟩ : MethodName)) hown8 (mvT hZ8 (hw _ (List.mem_of_getElem? (i := 5) rfl))) (mvT hZ8 (hw _ (List.mem_of_getElem? (i := 6) rfl))) (mvT hZ8 (hw _ (List.mem_of_getElem? (i := 3) rfl))) (mvT hZ8 (hw _ (List.mem_of_getElem? (i := 7) rfl))) (by decide) (backOf (W := 0) (rm2 l Z a0 hw [] (1 : Int32) (4 : Int32) ((4 : Int32) + ((((p4.toUInt32 >>> ((8 : Int32) &&& 31).toUInt32).toInt32) &&& (255 : Int32)) % (1 : Int32))) ((F1 p1).toInt8.toInt32) h9 n0 (Nat.le_trans (Nat.le_trans (Nat.le_trans (Nat.le_trans (Nat.le_trans (Nat.le_trans (Nat.le_trans (Nat.le_trans (Nat.le_trans Z0 E1.1) K2c.1) (Keep.of_wr W3).1) K4c.1) (Keep.of_wr W5).1) K6c.1) (Keep.of_wr W7).1) K8c.1) (Keep.of_wr W9).1) ) hZ8 (hw _ (List.mem_of_getElem? (i := 7) rfl)) (hw _ (List.mem_of_getElem? (i := 3) rfl)) (by decide) (by decide)) (g := (mkF m 90 #[.val (.int p0), .val (.int p1), .val (.int p2), .val (.int p3), .val (.int p4), .val (.ref b1), .val (.int (4 : Int32)), .val (.int ((4 : Int32) + ((((p4.toUInt32 >>> ((8 : Int32) &&& 31).toUInt32).toInt32) &&& (255 : Int32)) % (1 : Int32)))), .unset] [(.int ((F1 p1).toInt8.toInt32)), (.int ((4 : Int32) + ((((p4.toUInt32 >>> ((8 : Int32) &&& 31).toUInt32).toInt32) &&& (255 : Int32)) % (1 : Int32)))), (.int (4 : Int32)), (.int (1 : Int32))])) rfl (by rw [hml]; rfl) (argsL := [(.int (1 : Int32)), (.int (4 : Int32)), (.int ((4 : Int32) + ((((p4.toUInt32 >>> ((8 : Int32) &&& 31).toUInt32).toInt32) &&& (255 : Int32)) % (1 : Int32)))), (.int ((F1 p1).toInt8.toInt32))]) (rest := []) (lenOf pd__IIIB_Z rfl) rfl (by show 2 * 0 + _ ≤ _; exact Nat.le_of_eq rfl) (hb hby at_90) (fun _ _ => ⟨rfl, e82, (by decide : 9 + 0 ≤ _), (by decide : 612 + 0 ≤ _)⟩)
                dsimp only [Pt.U, Pt.locs, Pt.cells, Pt.slots] at X85 ll85 ly85 lz85 st85 hQ85
                subst ll85 ly85 lz85
                obtain ⟨rfl, N85q, e85⟩ := hQ85
                have N85 := Fr.app N82 N85q
                have pre86 : ∀ t, Steps p.tables e below (T85.setTop (mkF m 93 #[.val (.int p0), .val (.int p1), .val (.int p2), .val (.int p3), .val (.int p4), .val (.ref b1), .val (.int (4 : Int32)), .val (.int ((4 : Int32) + ((((p4.toUInt32 >>> ((8 : Int32) &&& 31).toUInt32).toInt32) &&& (255 : Int32)) % (1 : Int32)))), .unset] [(.int (F2 (1 : Int32) (4 : Int32) ((4 : Int32) + ((((p4.toUInt32 >>> ((8 : Int32) &&& 31).toUInt32).toInt32) &&& (255 : Int32)) % (1 : Int32))) ((F1 p1).toInt8.toInt32)))])) t → Steps p.tables e below (s₁.setTop (entryFrame m #[(.int p0), (.int p1), (.int p2), (.int p3), (.int p4)] maxLocals)) t := fun t kt => pre83 t (by
                  show Steps p.tables e below (T82.setTop (mkF m 78 #[.val (.int p0), .val (.int p1), .val (.int p2), .val (.int p3), .val (.int p4), .val (.ref b1), .val (.int (4 : Int32)), .val (.int ((4 : Int32) + ((((p4.toUInt32 >>> ((8 : Int32) &&& 31).toUInt32).toInt32) &&& (255 : Int32)) % (1 : Int32)))), .unset] [(.int (F2 (0 : Int32) (4 : Int32) ((4 : Int32) + ((((p4.toUInt32 >>> ((8 : Int32) &&& 31).toUInt32).toInt32) &&& (255 : Int32)) % (1 : Int32))) ((F1 p0).toInt8.toInt32)))])) _
                  refine XS.ifNo X82.here hx rfl (hb hby at_78) rfl ((if0 _ _).trans (feq hc78).1) ?_
                  refine XS.iconst X82.here hx rfl (hb hby at_81) ?_
                  refine XS.iload X82.here hx rfl (hb hby at_82) rfl ?_
                  refine XS.iload X82.here hx rfl (hb hby at_84) rfl ?_
                  refine XS.aload X82.here hx rfl (hb hby at_86) rfl rfl ?_
                  refine XS.iconst X82.here hx rfl (hb hby at_88) ?_
                  refine X82.baloadBytes hx (j := (1 : Int32)) (v := (.int ((F1 p1).toInt8.toInt32))) (by rw [e82]; exact Ar84.1) (State.isArrayOf_alike hZ8.alike Ar84.2.1) Ar84.2.2 hin84 hat84 (g := (mkF m 89 #[.val (.int p0), .val (.int p1), .val (.int p2), .val (.int p3), .val (.int p4), .val (.ref b1), .val (.int (4 : Int32)), .val (.int ((4 : Int32) + ((((p4.toUInt32 >>> ((8 : Int32) &&& 31).toUInt32).toInt32) &&& (255 : Int32)) % (1 : Int32)))), .unset] [(.int (1 : Int32)), (.ref b1), (.int ((4 : Int32) + ((((p4.toUInt32 >>> ((8 : Int32) &&& 31).toUInt32).toInt32) &&& (255 : Int32)) % (1 : Int32)))), (.int (4 : Int32)), (.int (1 : Int32))])) rfl rfl (hb hby at_89) _ ?_
                  refine st85 _ ?_
                  exact kt)
                by_cases hc93 : (F2 (1 : Int32) (4 : Int32) ((4 : Int32) + ((((p4.toUInt32 >>> ((8 : Int32) &&& 31).toUInt32).toInt32) &&& (255 : Int32)) % (1 : Int32))) ((F1 p1).toInt8.toInt32)) = (0 : Int32)
                · refine ⟨T85, _, X85, N85, e85, fun t kt => pre86 t ?_⟩
                  show Steps p.tables e below (T85.setTop (mkF m 93 #[.val (.int p0), .val (.int p1), .val (.int p2), .val (.int p3), .val (.int p4), .val (.ref b1), .val (.int (4 : Int32)), .val (.int ((4 : Int32) + ((((p4.toUInt32 >>> ((8 : Int32) &&& 31).toUInt32).toInt32) &&& (255 : Int32)) % (1 : Int32)))), .unset] [(.int (F2 (1 : Int32) (4 : Int32) ((4 : Int32) + ((((p4.toUInt32 >>> ((8 : Int32) &&& 31).toUInt32).toInt32) &&& (255 : Int32)) % (1 : Int32))) ((F1 p1).toInt8.toInt32)))])) _
                  refine XS.ifYes X85.here hx rfl (pc0 := 93) (pc' := 130) rfl (hb hby at_93) rfl ((if0 _ _).trans (teq hc93).1) (by decide) (by decide) ?_
                  refine XS.iconst X85.here hx rfl (hb hby at_130) ?_
                  show Steps p.tables e below (T85.setTop (mkF m 131 #[.val (.int p0), .val (.int p1), .val (.int p2), .val (.int p3), .val (.int p4), .val (.ref b1), .val (.int (4 : Int32)), .val (.int ((4 : Int32) + ((((p4.toUInt32 >>> ((8 : Int32) &&& 31).toUInt32).toInt32) &&& (255 : Int32)) % (1 : Int32)))), .unset] [(.int (0 : Int32))])) _
                  have qjS0 : (J0_78_S0_93 p0 p1 p2 p3 p4 wc fv) = (0 : Int32) := by unfold J0_78_S0_93; simp only [if_true, if_false, if_neg hc78, if_pos hc93]
                  rw [qjS0] at kt
                  exact kt
                · obtain ⟨cl87, Ar87, qa87, S87, Nl87, H87, G87⟩ := id V9
                  have hin87 : ¬ ((2 : Int32) < 0 ∨ cl87.slots.size ≤ ((2 : Int32)).toNatClampNeg) := inb_of S87 ⟨by decide, by decide⟩
                  have hat87 : cl87.slots[((2 : Int32)).toNatClampNeg]? = some (.int ((F1 p2).toInt8.toInt32)) := Has.at H87 hin87 rfl
                  obtain ⟨_, _, ⟨T88, L88, k88, n88⟩, -, X88, ⟨Lc88, hQ88, ll88, ly88, lz88⟩, st88⟩ := Jvm.LawKit.callS X85 hx (y := (⟨"com/example/standbye/standbye/TextInputIsNamePinLaw", "fine", "(IIIB)Z"⟩ : MethodName)) hown8 (mvT hZ8 (hw _ (List.mem_of_getElem? (i := 5) rfl))) (mvT hZ8 (hw _ (List.mem_of_getElem? (i := 6) rfl))) (mvT hZ8 (hw _ (List.mem_of_getElem? (i := 3) rfl))) (mvT hZ8 (hw _ (List.mem_of_getElem? (i := 7) rfl))) (by decide) (backOf (W := 0) (rm2 l Z a0 hw [] (2 : Int32) (4 : Int32) ((4 : Int32) + ((((p4.toUInt32 >>> ((8 : Int32) &&& 31).toUInt32).toInt32) &&& (255 : Int32)) % (1 : Int32))) ((F1 p2).toInt8.toInt32) h9 n0 (Nat.le_trans (Nat.le_trans (Nat.le_trans (Nat.le_trans (Nat.le_trans (Nat.le_trans (Nat.le_trans (Nat.le_trans (Nat.le_trans Z0 E1.1) K2c.1) (Keep.of_wr W3).1) K4c.1) (Keep.of_wr W5).1) K6c.1) (Keep.of_wr W7).1) K8c.1) (Keep.of_wr W9).1) ) hZ8 (hw _ (List.mem_of_getElem? (i := 7) rfl)) (hw _ (List.mem_of_getElem? (i := 3) rfl)) (by decide) (by decide)) (g := (mkF m 105 #[.val (.int p0), .val (.int p1), .val (.int p2), .val (.int p3), .val (.int p4), .val (.ref b1), .val (.int (4 : Int32)), .val (.int ((4 : Int32) + ((((p4.toUInt32 >>> ((8 : Int32) &&& 31).toUInt32).toInt32) &&& (255 : Int32)) % (1 : Int32)))), .unset] [(.int ((F1 p2).toInt8.toInt32)), (.int ((4 : Int32) + ((((p4.toUInt32 >>> ((8 : Int32) &&& 31).toUInt32).toInt32) &&& (255 : Int32)) % (1 : Int32)))), (.int (4 : Int32)), (.int (2 : Int32))])) rfl (by rw [hml]; rfl) (argsL := [(.int (2 : Int32)), (.int (4 : Int32)), (.int ((4 : Int32) + ((((p4.toUInt32 >>> ((8 : Int32) &&& 31).toUInt32).toInt32) &&& (255 : Int32)) % (1 : Int32)))), (.int ((F1 p2).toInt8.toInt32))]) (rest := []) (lenOf pd__IIIB_Z rfl) rfl (by show 2 * 0 + _ ≤ _; exact Nat.le_of_eq rfl) (hb hby at_105) (fun _ _ => ⟨rfl, e85, (by decide : 9 + 0 ≤ _), (by decide : 612 + 0 ≤ _)⟩)
                  dsimp only [Pt.U, Pt.locs, Pt.cells, Pt.slots] at X88 ll88 ly88 lz88 st88 hQ88
                  subst ll88 ly88 lz88
                  obtain ⟨rfl, N88q, e88⟩ := hQ88
                  have N88 := Fr.app N85 N88q
                  have pre89 : ∀ t, Steps p.tables e below (T88.setTop (mkF m 108 #[.val (.int p0), .val (.int p1), .val (.int p2), .val (.int p3), .val (.int p4), .val (.ref b1), .val (.int (4 : Int32)), .val (.int ((4 : Int32) + ((((p4.toUInt32 >>> ((8 : Int32) &&& 31).toUInt32).toInt32) &&& (255 : Int32)) % (1 : Int32)))), .unset] [(.int (F2 (2 : Int32) (4 : Int32) ((4 : Int32) + ((((p4.toUInt32 >>> ((8 : Int32) &&& 31).toUInt32).toInt32) &&& (255 : Int32)) % (1 : Int32))) ((F1 p2).toInt8.toInt32)))])) t → Steps p.tables e below (s₁.setTop (entryFrame m #[(.int p0), (.int p1), (.int p2), (.int p3), (.int p4)] maxLocals)) t := fun t kt => pre86 t (by
                    show Steps p.tables e below (T85.setTop (mkF m 93 #[.val (.int p0), .val (.int p1), .val (.int p2), .val (.int p3), .val (.int p4), .val (.ref b1), .val (.int (4 : Int32)), .val (.int ((4 : Int32) + ((((p4.toUInt32 >>> ((8 : Int32) &&& 31).toUInt32).toInt32) &&& (255 : Int32)) % (1 : Int32)))), .unset] [(.int (F2 (1 : Int32) (4 : Int32) ((4 : Int32) + ((((p4.toUInt32 >>> ((8 : Int32) &&& 31).toUInt32).toInt32) &&& (255 : Int32)) % (1 : Int32))) ((F1 p1).toInt8.toInt32)))])) _
                    refine XS.ifNo X85.here hx rfl (hb hby at_93) rfl ((if0 _ _).trans (feq hc93).1) ?_
                    refine XS.iconst X85.here hx rfl (hb hby at_96) ?_
                    refine XS.iload X85.here hx rfl (hb hby at_97) rfl ?_
                    refine XS.iload X85.here hx rfl (hb hby at_99) rfl ?_
                    refine XS.aload X85.here hx rfl (hb hby at_101) rfl rfl ?_
                    refine XS.iconst X85.here hx rfl (hb hby at_103) ?_
                    refine X85.baloadBytes hx (j := (2 : Int32)) (v := (.int ((F1 p2).toInt8.toInt32))) (by rw [e85]; exact Ar87.1) (State.isArrayOf_alike hZ8.alike Ar87.2.1) Ar87.2.2 hin87 hat87 (g := (mkF m 104 #[.val (.int p0), .val (.int p1), .val (.int p2), .val (.int p3), .val (.int p4), .val (.ref b1), .val (.int (4 : Int32)), .val (.int ((4 : Int32) + ((((p4.toUInt32 >>> ((8 : Int32) &&& 31).toUInt32).toInt32) &&& (255 : Int32)) % (1 : Int32)))), .unset] [(.int (2 : Int32)), (.ref b1), (.int ((4 : Int32) + ((((p4.toUInt32 >>> ((8 : Int32) &&& 31).toUInt32).toInt32) &&& (255 : Int32)) % (1 : Int32)))), (.int (4 : Int32)), (.int (2 : Int32))])) rfl rfl (hb hby at_104) _ ?_
                    refine st88 _ ?_
                    exact kt)
                  by_cases hc108 : (F2 (2 : Int32) (4 : Int32) ((4 : Int32) + ((((p4.toUInt32 >>> ((8 : Int32) &&& 31).toUInt32).toInt32) &&& (255 : Int32)) % (1 : Int32))) ((F1 p2).toInt8.toInt32)) = (0 : Int32)
                  · refine ⟨T88, _, X88, N88, e88, fun t kt => pre89 t ?_⟩
                    show Steps p.tables e below (T88.setTop (mkF m 108 #[.val (.int p0), .val (.int p1), .val (.int p2), .val (.int p3), .val (.int p4), .val (.ref b1), .val (.int (4 : Int32)), .val (.int ((4 : Int32) + ((((p4.toUInt32 >>> ((8 : Int32) &&& 31).toUInt32).toInt32) &&& (255 : Int32)) % (1 : Int32)))), .unset] [(.int (F2 (2 : Int32) (4 : Int32) ((4 : Int32) + ((((p4.toUInt32 >>> ((8 : Int32) &&& 31).toUInt32).toInt32) &&& (255 : Int32)) % (1 : Int32))) ((F1 p2).toInt8.toInt32)))])) _
                    refine XS.ifYes X88.here hx rfl (pc0 := 108) (pc' := 130) rfl (hb hby at_108) rfl ((if0 _ _).trans (teq hc108).1) (by decide) (by decide) ?_
                    refine XS.iconst X88.here hx rfl (hb hby at_130) ?_
                    show Steps p.tables e below (T88.setTop (mkF m 131 #[.val (.int p0), .val (.int p1), .val (.int p2), .val (.int p3), .val (.int p4), .val (.ref b1), .val (.int (4 : Int32)), .val (.int ((4 : Int32) + ((((p4.toUInt32 >>> ((8 : Int32) &&& 31).toUInt32).toInt32) &&& (255 : Int32)) % (1 : Int32)))), .unset] [(.int (0 : Int32))])) _
                    have qjS0 : (J0_78_S0_93 p0 p1 p2 p3 p4 wc fv) = (0 : Int32) := by unfold J0_78_S0_93; simp only [if_true, if_false, if_neg hc78, if_neg hc93, if_pos hc108]
                    rw [qjS0] at kt
                    exact kt
                  · obtain ⟨cl90, Ar90, qa90, S90, Nl90, H90, G90⟩ := id V9
                    have hin90 : ¬ ((3 : Int32) < 0 ∨ cl90.slots.size ≤ ((3 : Int32)).toNatClampNeg) := inb_of S90 ⟨by decide, by decide⟩
                    have hat90 : cl90.slots[((3 : Int32)).toNatClampNeg]? = some (.int ((F1 p3).toInt8.toInt32)) := Has.at H90 hin90 rfl
                    obtain ⟨_, _, ⟨T91, L91, k91, n91⟩, -, X91, ⟨Lc91, hQ91, ll91, ly91, lz91⟩, st91⟩ := Jvm.LawKit.callS X88 hx (y := (⟨"com/example/standbye/standbye/TextInputIsNamePinLaw", "fine", "(IIIB)Z"⟩ : MethodName)) hown8 (mvT hZ8 (hw _ (List.mem_of_getElem? (i := 5) rfl))) (mvT hZ8 (hw _ (List.mem_of_getElem? (i := 6) rfl))) (mvT hZ8 (hw _ (List.mem_of_getElem? (i := 3) rfl))) (mvT hZ8 (hw _ (List.mem_of_getElem? (i := 7) rfl))) (by decide) (backOf (W := 0) (rm2 l Z a0 hw [] (3 : Int32) (4 : Int32) ((4 : Int32) + ((((p4.toUInt32 >>> ((8 : Int32) &&& 31).toUInt32).toInt32) &&& (255 : Int32)) % (1 : Int32))) ((F1 p3).toInt8.toInt32) h9 n0 (Nat.le_trans (Nat.le_trans (Nat.le_trans (Nat.le_trans (Nat.le_trans (Nat.le_trans (Nat.le_trans (Nat.le_trans (Nat.le_trans Z0 E1.1) K2c.1) (Keep.of_wr W3).1) K4c.1) (Keep.of_wr W5).1) K6c.1) (Keep.of_wr W7).1) K8c.1) (Keep.of_wr W9).1) ) hZ8 (hw _ (List.mem_of_getElem? (i := 7) rfl)) (hw _ (List.mem_of_getElem? (i := 3) rfl)) (by decide) (by decide)) (g := (mkF m 120 #[.val (.int p0), .val (.int p1), .val (.int p2), .val (.int p3), .val (.int p4), .val (.ref b1), .val (.int (4 : Int32)), .val (.int ((4 : Int32) + ((((p4.toUInt32 >>> ((8 : Int32) &&& 31).toUInt32).toInt32) &&& (255 : Int32)) % (1 : Int32)))), .unset] [(.int ((F1 p3).toInt8.toInt32)), (.int ((4 : Int32) + ((((p4.toUInt32 >>> ((8 : Int32) &&& 31).toUInt32).toInt32) &&& (255 : Int32)) % (1 : Int32)))), (.int (4 : Int32)), (.int (3 : Int32))])) rfl (by rw [hml]; rfl) (argsL := [(.int (3 : Int32)), (.int (4 : Int32)), (.int ((4 : Int32) + ((((p4.toUInt32 >>> ((8 : Int32) &&& 31).toUInt32).toInt32) &&& (255 : Int32)) % (1 : Int32)))), (.int ((F1 p3).toInt8.toInt32))]) (rest := []) (lenOf pd__IIIB_Z rfl) rfl (by show 2 * 0 + _ ≤ _; exact Nat.le_of_eq rfl) (hb hby at_120) (fun _ _ => ⟨rfl, e88, (by decide : 9 + 0 ≤ _), (by decide : 612 + 0 ≤ _)⟩)
                    dsimp only [Pt.U, Pt.locs, Pt.cells, Pt.slots] at X91 ll91 ly91 lz91 st91 hQ91
                    subst ll91 ly91 lz91
                    obtain ⟨rfl, N91q, e91⟩ := hQ91
                    have N91 := Fr.app N88 N91q
                    have pre92 : ∀ t, Steps p.tables e below (T91.setTop (mkF m 123 #[.val (.int p0), .val (.int p1), .val (.int p2), .val (.int p3), .val (.int p4), .val (.ref b1), .val (.int (4 : Int32)), .val (.int ((4 : Int32) + ((((p4.toUInt32 >>> ((8 : Int32) &&& 31).toUInt32).toInt32) &&& (255 : Int32)) % (1 : Int32)))), .unset] [(.int (F2 (3 : Int32) (4 : Int32) ((4 : Int32) + ((((p4.toUInt32 >>> ((8 : Int32) &&& 31).toUInt32).toInt32) &&& (255 : Int32)) % (1 : Int32))) ((F1 p3).toInt8.toInt32)))])) t → Steps p.tables e below (s₁.setTop (entryFrame m #[(.int p0), (.int p1), (.int p2), (.int p3), (.int p4)] maxLocals)) t := fun t kt => pre89 t (by
                      show Steps p.tables e below (T88.setTop (mkF m 108 #[.val (.int p0), .val (.int p1), .val (.int p2), .val (.int p3), .val (.int p4), .val (.ref b1), .val (.int (4 : Int32)), .val (.int ((4 : Int32) + ((((p4.toUInt32 >>> ((8 : Int32) &&& 31).toUInt32).toInt32) &&& (255 : Int32)) % (1 : Int32)))), .unset] [(.int (F2 (2 : Int32) (4 : Int32) ((4 : Int32) + ((((p4.toUInt32 >>> ((8 : Int32) &&& 31).toUInt32).toInt32) &&& (255 : Int32)) % (1 : Int32))) ((F1 p2).toInt8.toInt32)))])) _
                      refine XS.ifNo X88.here hx rfl (hb hby at_108) rfl ((if0 _ _).trans (feq hc108).1) ?_
                      refine XS.iconst X88.here hx rfl (hb hby at_111) ?_
                      refine XS.iload X88.here hx rfl (hb hby at_112) rfl ?_
                      refine XS.iload X88.here hx rfl (hb hby at_114) rfl ?_
                      refine XS.aload X88.here hx rfl (hb hby at_116) rfl rfl ?_
                      refine XS.iconst X88.here hx rfl (hb hby at_118) ?_
                      refine X88.baloadBytes hx (j := (3 : Int32)) (v := (.int ((F1 p3).toInt8.toInt32))) (by rw [e88]; exact Ar90.1) (State.isArrayOf_alike hZ8.alike Ar90.2.1) Ar90.2.2 hin90 hat90 (g := (mkF m 119 #[.val (.int p0), .val (.int p1), .val (.int p2), .val (.int p3), .val (.int p4), .val (.ref b1), .val (.int (4 : Int32)), .val (.int ((4 : Int32) + ((((p4.toUInt32 >>> ((8 : Int32) &&& 31).toUInt32).toInt32) &&& (255 : Int32)) % (1 : Int32)))), .unset] [(.int (3 : Int32)), (.ref b1), (.int ((4 : Int32) + ((((p4.toUInt32 >>> ((8 : Int32) &&& 31).toUInt32).toInt32) &&& (255 : Int32)) % (1 : Int32)))), (.int (4 : Int32)), (.int (3 : Int32))])) rfl rfl (hb hby at_119) _ ?_
                      refine st91 _ ?_
                      exact kt)
                    by_cases hc123 : (F2 (3 : Int32) (4 : Int32) ((4 : Int32) + ((((p4.toUInt32 >>> ((8 : Int32) &&& 31).toUInt32).toInt32) &&& (255 : Int32)) % (1 : Int32))) ((F1 p3).toInt8.toInt32)) = (0 : Int32)
                    · refine ⟨T91, _, X91, N91, e91, fun t kt => pre92 t ?_⟩
                      show Steps p.tables e below (T91.setTop (mkF m 123 #[.val (.int p0), .val (.int p1), .val (.int p2), .val (.int p3), .val (.int p4), .val (.ref b1), .val (.int (4 : Int32)), .val (.int ((4 : Int32) + ((((p4.toUInt32 >>> ((8 : Int32) &&& 31).toUInt32).toInt32) &&& (255 : Int32)) % (1 : Int32)))), .unset] [(.int (F2 (3 : Int32) (4 : Int32) ((4 : Int32) + ((((p4.toUInt32 >>> ((8 : Int32) &&& 31).toUInt32).toInt32) &&& (255 : Int32)) % (1 : Int32))) ((F1 p3).toInt8.toInt32)))])) _
                      refine XS.ifYes X91.here hx rfl (pc0 := 123) (pc' := 130) rfl (hb hby at_123) rfl ((if0 _ _).trans (teq hc123).1) (by decide) (by decide) ?_
                      refine XS.iconst X91.here hx rfl (hb hby at_130) ?_
                      show Steps p.tables e below (T91.setTop (mkF m 131 #[.val (.int p0), .val (.int p1), .val (.int p2), .val (.int p3), .val (.int p4), .val (.ref b1), .val (.int (4 : Int32)), .val (.int ((4 : Int32) + ((((p4.toUInt32 >>> ((8 : Int32) &&& 31).toUInt32).toInt32) &&& (255 : Int32)) % (1 : Int32)))), .unset] [(.int (0 : Int32))])) _
                      have qjS0 : (J0_78_S0_93 p0 p1 p2 p3 p4 wc fv) = (0 : Int32) := by unfold J0_78_S0_93; simp only [if_true, if_false, if_neg hc78, if_neg hc93, if_neg hc108, if_pos hc123]
                      rw [qjS0] at kt
                      exact kt
                    · refine ⟨T91, _, X91, N91, e91, fun t kt => pre92 t ?_⟩
                      show Steps p.tables e below (T91.setTop (mkF m 123 #[.val (.int p0), .val (.int p1), .val (.int p2), .val (.int p3), .val (.int p4), .val (.ref b1), .val (.int (4 : Int32)), .val (.int ((4 : Int32) + ((((p4.toUInt32 >>> ((8 : Int32) &&& 31).toUInt32).toInt32) &&& (255 : Int32)) % (1 : Int32)))), .unset] [(.int (F2 (3 : Int32) (4 : Int32) ((4 : Int32) + ((((p4.toUInt32 >>> ((8 : Int32) &&& 31).toUInt32).toInt32) &&& (255 : Int32)) % (1 : Int32))) ((F1 p3).toInt8.toInt32)))])) _
                      refine XS.ifNo X91.here hx rfl (hb hby at_123) rfl ((if0 _ _).trans (feq hc123).1) ?_
                      refine XS.iconst X91.here hx rfl (hb hby at_126) ?_
                      refine XS.goto X91.here hx rfl (pc0 := 127) (pc' := 131) rfl (hb hby at_127) (by decide) (by decide) ?_
                      show Steps p.tables e below (T91.setTop (mkF m 131 #[.val (.int p0), .val (.int p1), .val (.int p2), .val (.int p3), .val (.int p4), .val (.ref b1), .val (.int (4 : Int32)), .val (.int ((4 : Int32) + ((((p4.toUInt32 >>> ((8 : Int32) &&& 31).toUInt32).toInt32) &&& (255 : Int32)) % (1 : Int32)))), .unset] [(.int (1 : Int32))])) _
                      have qjS0 : (J0_78_S0_93 p0 p1 p2 p3 p4 wc fv) = (1 : Int32) := by unfold J0_78_S0_93; simp only [if_true, if_false, if_neg hc78, if_neg hc93, if_neg hc108, if_neg hc123]
                      rw [qjS0] at kt
                      exact kt
            obtain ⟨_, _, ⟨T94, L94, k94, n94⟩, -, X94, ⟨Lc94, hQ94, ll94, ly94, lz94⟩, st94⟩ := Jvm.LawKit.callS Xj93 hx (y := (⟨"com/example/standbye/standbye/TextInput", "isName", "([BII)Z"⟩ : MethodName)) hown8 (mvT hZ8 (hw _ (List.mem_of_getElem? (i := 8) rfl))) (mvT hZ8 (hw _ (List.mem_of_getElem? (i := 9) rfl))) (mvT hZ8 (hw _ (List.mem_of_getElem? (i := 10) rfl))) (mvT hZ8 (hw _ (List.mem_of_getElem? (i := 11) rfl))) (by decide) (backOf (W := 0) (rm3s4 l Z a0 hw [] b1 ((4 : Int32) + ((((p4.toUInt32 >>> ((8 : Int32) &&& 31).toUInt32).toInt32) &&& (255 : Int32)) % (1 : Int32))) k1 ((F1 p0).toInt8.toInt32) ((F1 p1).toInt8.toInt32) ((F1 p2).toInt8.toInt32) ((F1 p3).toInt8.toInt32) h9 n0 (Nat.le_trans (Nat.le_trans (Nat.le_trans (Nat.le_trans (Nat.le_trans (Nat.le_trans (Nat.le_trans (Nat.le_trans (Nat.le_trans Z0 E1.1) K2c.1) (Keep.of_wr W3).1) K4c.1) (Keep.of_wr W5).1) K6c.1) (Keep.of_wr W7).1) K8c.1) (Keep.of_wr W9).1) V9 (own_le4 p4)) hZ8 (hw _ (List.mem_of_getElem? (i := 11) rfl)) (hw _ (List.mem_of_getElem? (i := 10) rfl)) (by decide) (by decide)) (g := (mkF m 139 #[.val (.int p0), .val (.int p1), .val (.int p2), .val (.int p3), .val (.int p4), .val (.ref b1), .val (.int (4 : Int32)), .val (.int ((4 : Int32) + ((((p4.toUInt32 >>> ((8 : Int32) &&& 31).toUInt32).toInt32) &&& (255 : Int32)) % (1 : Int32)))), .val (.int (J0_78_S0_93 p0 p1 p2 p3 p4 wc fv))] [(.int ((4 : Int32) + ((((p4.toUInt32 >>> ((8 : Int32) &&& 31).toUInt32).toInt32) &&& (255 : Int32)) % (1 : Int32)))), (.int (4 : Int32)), (.ref b1)])) rfl (by rw [hml]; rfl) (argsL := [(.ref b1), (.int (4 : Int32)), (.int ((4 : Int32) + ((((p4.toUInt32 >>> ((8 : Int32) &&& 31).toUInt32).toInt32) &&& (255 : Int32)) % (1 : Int32))))]) (rest := []) (lenOf pd___BII_Z rfl) rfl (by show 2 * 0 + _ ≤ _; exact Nat.le_of_eq rfl) (hb hby at_139) (fun _ _ => ⟨rfl, ej93, (by decide : 9 + 0 ≤ _), (by decide : 612 + 0 ≤ _)⟩)
            dsimp only [Pt.U, Pt.locs, Pt.cells, Pt.slots] at X94 ll94 ly94 lz94 st94 hQ94
            subst ll94 ly94 lz94
            obtain ⟨rfl, N94q, e94⟩ := hQ94
            have N94 := Fr.app Nj93 N94q
            have pre95 : ∀ t, Steps p.tables e below (T94.setTop (mkF m 144 #[.val (.int p0), .val (.int p1), .val (.int p2), .val (.int p3), .val (.int p4), .val (.ref b1), .val (.int (4 : Int32)), .val (.int ((4 : Int32) + ((((p4.toUInt32 >>> ((8 : Int32) &&& 31).toUInt32).toInt32) &&& (255 : Int32)) % (1 : Int32)))), .val (.int (J0_78_S0_93 p0 p1 p2 p3 p4 wc fv))] [(.int (J0_78_S0_93 p0 p1 p2 p3 p4 wc fv)), (.int (F3s4 ((4 : Int32) + ((((p4.toUInt32 >>> ((8 : Int32) &&& 31).toUInt32).toInt32) &&& (255 : Int32)) % (1 : Int32))) ((F1 p0).toInt8.toInt32) ((F1 p1).toInt8.toInt32) ((F1 p2).toInt8.toInt32) ((F1 p3).toInt8.toInt32)))])) t → Steps p.tables e below (s₁.setTop (entryFrame m #[(.int p0), (.int p1), (.int p2), (.int p3), (.int p4)] maxLocals)) t := fun t kt => pre93 t (by
              show Steps p.tables e below (Tj93.setTop (mkF m 131 #[.val (.int p0), .val (.int p1), .val (.int p2), .val (.int p3), .val (.int p4), .val (.ref b1), .val (.int (4 : Int32)), .val (.int ((4 : Int32) + ((((p4.toUInt32 >>> ((8 : Int32) &&& 31).toUInt32).toInt32) &&& (255 : Int32)) % (1 : Int32)))), .unset] [(.int (J0_78_S0_93 p0 p1 p2 p3 p4 wc fv))])) _
              refine XS.istore Xj93.here hx rfl (hb hby at_131) rfl (l' := #[.val (.int p0), .val (.int p1), .val (.int p2), .val (.int p3), .val (.int p4), .val (.ref b1), .val (.int (4 : Int32)), .val (.int ((4 : Int32) + ((((p4.toUInt32 >>> ((8 : Int32) &&& 31).toUInt32).toInt32) &&& (255 : Int32)) % (1 : Int32)))), .val (.int (J0_78_S0_93 p0 p1 p2 p3 p4 wc fv))]) rfl ?_
              refine XS.aload Xj93.here hx rfl (hb hby at_133) rfl rfl ?_
              refine XS.iload Xj93.here hx rfl (hb hby at_135) rfl ?_
              refine XS.iload Xj93.here hx rfl (hb hby at_137) rfl ?_
              refine st94 _ ?_
              refine XS.iload X94.here hx rfl (hb hby at_142) rfl ?_
              exact kt)
            by_cases hc144 : (F3s4 ((4 : Int32) + ((((p4.toUInt32 >>> ((8 : Int32) &&& 31).toUInt32).toInt32) &&& (255 : Int32)) % (1 : Int32))) ((F1 p0).toInt8.toInt32) ((F1 p1).toInt8.toInt32) ((F1 p2).toInt8.toInt32) ((F1 p3).toInt8.toInt32)) = (J0_78_S0_93 p0 p1 p2 p3 p4 wc fv)
            · obtain ⟨fs, hr, hrun, hended, hEnd⟩ := X94.leaveW hS8 (by rw [e94]; exact (Nat.le_trans (Nat.le_refl T8.heap.size) (Keep.of_wr W9).1)) (v := some (.int (1 : Int32))) (fun h => by rw [Bd.returns] at h; cases h)
              have CRe := CHr.trans CR9 (CHv.at X94 hZ8 hEL CR9.1)
              refine ⟨_, _, pre95 _ ?_, hrun, hended, _, _, rfl, ?_, ?_, hEnd.1, hEnd.2.1, hEnd.2.2.1, hEnd.2.2.2.mono (by decide) (by decide)⟩
              · show Steps p.tables e below (T94.setTop (mkF m 144 #[.val (.int p0), .val (.int p1), .val (.int p2), .val (.int p3), .val (.int p4), .val (.ref b1), .val (.int (4 : Int32)), .val (.int ((4 : Int32) + ((((p4.toUInt32 >>> ((8 : Int32) &&& 31).toUInt32).toInt32) &&& (255 : Int32)) % (1 : Int32)))), .val (.int (J0_78_S0_93 p0 p1 p2 p3 p4 wc fv))] [(.int (J0_78_S0_93 p0 p1 p2 p3 p4 wc fv)), (.int (F3s4 ((4 : Int32) + ((((p4.toUInt32 >>> ((8 : Int32) &&& 31).toUInt32).toInt32) &&& (255 : Int32)) % (1 : Int32))) ((F1 p0).toInt8.toInt32) ((F1 p1).toInt8.toInt32) ((F1 p2).toInt8.toInt32) ((F1 p3).toInt8.toInt32)))])) _
                refine XS.icmpNo X94.here hx rfl (hb hby at_144) rfl (teq hc144).2 ?_
                refine XS.iconst X94.here hx rfl (hb hby at_147) ?_
                refine XS.goto X94.here hx rfl (pc0 := 148) (pc' := 152) rfl (hb hby at_148) (by decide) (by decide) ?_
                show Steps p.tables e below (T94.setTop (mkF m 152 #[.val (.int p0), .val (.int p1), .val (.int p2), .val (.int p3), .val (.int p4), .val (.ref b1), .val (.int (4 : Int32)), .val (.int ((4 : Int32) + ((((p4.toUInt32 >>> ((8 : Int32) &&& 31).toUInt32).toInt32) &&& (255 : Int32)) % (1 : Int32)))), .val (.int (J0_78_S0_93 p0 p1 p2 p3 p4 wc fv))] [(.int (1 : Int32))])) _
                exact retN X94 hx (t := .boolean) Bd.returns (by simp) (hb hby at_152) hr
              · show Q0 Z p0 p1 p2 p3 p4 wc fv h0 n0 _ T94.heap _
                rw [e94]
                exact ⟨(by unfold F0; simp only [if_neg hs0, if_neg hs1, if_neg hs2, if_neg hs3, if_pos hs4, if_pos hc144]), N94⟩
              · show CHr Z ELs s.vm s.heap T94.vm T94.heap
                rw [hh, e94]; exact CRe
            · obtain ⟨fs, hr, hrun, hended, hEnd⟩ := X94.leaveW hS8 (by rw [e94]; exact (Nat.le_trans (Nat.le_refl T8.heap.size) (Keep.of_wr W9).1)) (v := some (.int (0 : Int32))) (fun h => by rw [Bd.returns] at h; cases h)
              have CRe := CHr.trans CR9 (CHv.at X94 hZ8 hEL CR9.1)
              refine ⟨_, _, pre95 _ ?_, hrun, hended, _, _, rfl, ?_, ?_, hEnd.1, hEnd.2.1, hEnd.2.2.1, hEnd.2.2.2.mono (by decide) (by decide)⟩
              · show Steps p.tables e below (T94.setTop (mkF m 144 #[.val (.int p0), .val (.int p1), .val (.int p2), .val (.int p3), .val (.int p4), .val (.ref b1), .val (.int (4 : Int32)), .val (.int ((4 : Int32) + ((((p4.toUInt32 >>> ((8 : Int32) &&& 31).toUInt32).toInt32) &&& (255 : Int32)) % (1 : Int32)))), .val (.int (J0_78_S0_93 p0 p1 p2 p3 p4 wc fv))] [(.int (J0_78_S0_93 p0 p1 p2 p3 p4 wc fv)), (.int (F3s4 ((4 : Int32) + ((((p4.toUInt32 >>> ((8 : Int32) &&& 31).toUInt32).toInt32) &&& (255 : Int32)) % (1 : Int32))) ((F1 p0).toInt8.toInt32) ((F1 p1).toInt8.toInt32) ((F1 p2).toInt8.toInt32) ((F1 p3).toInt8.toInt32)))])) _
                refine XS.icmpYes X94.here hx rfl (pc0 := 144) (pc' := 151) rfl (hb hby at_144) rfl (feq hc144).2 (by decide) (by decide) ?_
                refine XS.iconst X94.here hx rfl (hb hby at_151) ?_
                show Steps p.tables e below (T94.setTop (mkF m 152 #[.val (.int p0), .val (.int p1), .val (.int p2), .val (.int p3), .val (.int p4), .val (.ref b1), .val (.int (4 : Int32)), .val (.int ((4 : Int32) + ((((p4.toUInt32 >>> ((8 : Int32) &&& 31).toUInt32).toInt32) &&& (255 : Int32)) % (1 : Int32)))), .val (.int (J0_78_S0_93 p0 p1 p2 p3 p4 wc fv))] [(.int (0 : Int32))])) _
                exact retN X94 hx (t := .boolean) Bd.returns (by simp) (hb hby at_152) hr
              · show Q0 Z p0 p1 p2 p3 p4 wc fv h0 n0 _ T94.heap _
                rw [e94]
                exact ⟨(by unfold F0; simp only [if_neg hs0, if_neg hs1, if_neg hs2, if_neg hs3, if_pos hs4, if_neg hc144]), N94⟩
              · show CHr Z ELs s.vm s.heap T94.vm T94.heap
                rw [hh, e94]; exact CRe
          · exact absurd (own_five p4) (by unfold A0_45 at *; simp_all)
/-! THE PLAIN LAW -/
theorem own_i8 : ∀ n : Fin 256, own_nm ((Int32.ofNat n.1).toInt8.toInt32) = (if F9 ((Int32.ofNat n.1).toInt8.toInt32) = 0 then 0 else 1) := by decide +kernel
theorem own_nmok (x : Int32) : own_nm (x.toInt8.toInt32) = (if F9 (x.toInt8.toInt32) = 0 then 0 else 1) := by
  have m := c_mask x 255 8 (by decide) (by decide)
  have a := c_i2b x
  have b := c_i2b (x &&& 255)
  have e : x.toInt8.toInt32 = (x &&& 255).toInt8.toInt32 := by apply Int32.toInt_inj.mp; omega
  have h : (Int32.ofNat (x &&& 255).toInt.toNat).toInt = ((x &&& 255).toInt.toNat : Int) := Int32.toInt_ofNat_small (by omega)
  have q : x &&& 255 = Int32.ofNat (x &&& 255).toInt.toNat := by apply Int32.toInt_inj.mp; omega
  rw [e, q]; exact own_i8 ⟨(x &&& 255).toInt.toNat, by omega⟩
theorem own_b8 (x : Int32) : x.toInt8.toInt32.toInt8.toInt32 = x.toInt8.toInt32 := by simp
theorem own_in (i s e y : Int32) (h1 : ¬ i < s) (h2 : i < e) : (F2 i s e y = 0) ↔ (F9 y = 0) := by
  unfold F2 J2_2_S0
  rw [if_neg h1, if_pos h2, if_neg (by decide)]
  split
  · rename_i h; simp [h]
  · rename_i h; simp [h]
theorem own_out (i s e y : Int32) (h : i < s ∨ ¬ i < e) : ¬ (F2 i s e y = 0) := by
  unfold F2 J2_2_S0
  by_cases h1 : i < s
  · rw [if_pos h1, if_pos rfl]; decide
  · rw [if_neg h1, if_neg (h.resolve_left h1), if_pos rfl]; decide
theorem own_nm1 {x : Int32} (h : ¬ F9 (x.toInt8.toInt32) = 0) : own_nm (x.toInt8.toInt32) = 1 := by rw [own_nmok, if_neg h]
theorem own_nm0 {x : Int32} (h : F9 (x.toInt8.toInt32) = 0) : ¬ own_nm (x.toInt8.toInt32) = 1 := by rw [own_nmok, if_pos h]; decide
theorem own_c00 (p0 p1 p2 p3 : Int32) : F3s0 (0 : Int32) ((F1 p0).toInt8.toInt32) ((F1 p1).toInt8.toInt32) ((F1 p2).toInt8.toInt32) ((F1 p3).toInt8.toInt32) = (if (F2 (0 : Int32) (0 : Int32) (0 : Int32) ((F1 p0).toInt8.toInt32)) = (0 : Int32) then (0 : Int32) else (if (F2 (1 : Int32) (0 : Int32) (0 : Int32) ((F1 p1).toInt8.toInt32)) = (0 : Int32) then (0 : Int32) else (if (F2 (2 : Int32) (0 : Int32) (0 : Int32) ((F1 p2).toInt8.toInt32)) = (0 : Int32) then (0 : Int32) else (if (F2 (3 : Int32) (0 : Int32) (0 : Int32) ((F1 p3).toInt8.toInt32)) = (0 : Int32) then (0 : Int32) else (1 : Int32))))) := by
  unfold F3s0
  simp only [if_neg (own_out (0 : Int32) (0 : Int32) (0 : Int32) ((F1 p0).toInt8.toInt32) (by decide)), if_neg (own_out (1 : Int32) (0 : Int32) (0 : Int32) ((F1 p1).toInt8.toInt32) (by decide)), if_neg (own_out (2 : Int32) (0 : Int32) (0 : Int32) ((F1 p2).toInt8.toInt32) (by decide)), if_neg (own_out (3 : Int32) (0 : Int32) (0 : Int32) ((F1 p3).toInt8.toInt32) (by decide)), if_neg (show ¬ (0 : Int32) < (0 : Int32) by decide)]

theorem own_c01 (p0 p1 p2 p3 : Int32) : F3s0 (1 : Int32) ((F1 p0).toInt8.toInt32) ((F1 p1).toInt8.toInt32) ((F1 p2).toInt8.toInt32) ((F1 p3).toInt8.toInt32) = (if (F2 (0 : Int32) (0 : Int32) (1 : Int32) ((F1 p0).toInt8.toInt32)) = (0 : Int32) then (0 : Int32) else (if (F2 (1 : Int32) (0 : Int32) (1 : Int32) ((F1 p1).toInt8.toInt32)) = (0 : Int32) then (0 : Int32) else (if (F2 (2 : Int32) (0 : Int32) (1 : Int32) ((F1 p2).toInt8.toInt32)) = (0 : Int32) then (0 : Int32) else (if (F2 (3 : Int32) (0 : Int32) (1 : Int32) ((F1 p3).toInt8.toInt32)) = (0 : Int32) then (0 : Int32) else (1 : Int32))))) := by
  unfold F3s0
  simp only [if_neg (own_out (1 : Int32) (0 : Int32) (1 : Int32) ((F1 p1).toInt8.toInt32) (by decide)), if_neg (own_out (2 : Int32) (0 : Int32) (1 : Int32) ((F1 p2).toInt8.toInt32) (by decide)), if_neg (own_out (3 : Int32) (0 : Int32) (1 : Int32) ((F1 p3).toInt8.toInt32) (by decide)), own_in (0 : Int32) (0 : Int32) (1 : Int32) ((F1 p0).toInt8.toInt32) (by decide) (by decide), if_pos (show (0 : Int32) < (1 : Int32) by decide), if_neg (show ¬ (1 : Int32) < (1 : Int32) by decide)]
  by_cases g0 : F9 ((F1 p0).toInt8.toInt32) = 0
  · simp only [if_pos g0, if_neg (own_nm0 g0)]
  · simp only [if_neg g0, if_pos (own_nm1 g0)]
theorem own_c02 (p0 p1 p2 p3 : Int32) : F3s0 (2 : Int32) ((F1 p0).toInt8.toInt32) ((F1 p1).toInt8.toInt32) ((F1 p2).toInt8.toInt32) ((F1 p3).toInt8.toInt32) = (if (F2 (0 : Int32) (0 : Int32) (2 : Int32) ((F1 p0).toInt8.toInt32)) = (0 : Int32) then (0 : Int32) else (if (F2 (1 : Int32) (0 : Int32) (2 : Int32) ((F1 p1).toInt8.toInt32)) = (0 : Int32) then (0 : Int32) else (if (F2 (2 : Int32) (0 : Int32) (2 : Int32) ((F1 p2).toInt8.toInt32)) = (0 : Int32) then (0 : Int32) else (if (F2 (3 : Int32) (0 : Int32) (2 : Int32) ((F1 p3).toInt8.toInt32)) = (0 : Int32) then (0 : Int32) else (1 : Int32))))) := by
  unfold F3s0
  simp only [if_neg (own_out (2 : Int32) (0 : Int32) (2 : Int32) ((F1 p2).toInt8.toInt32) (by decide)), if_neg (own_out (3 : Int32) (0 : Int32) (2 : Int32) ((F1 p3).toInt8.toInt32) (by decide)), own_in (0 : Int32) (0 : Int32) (2 : Int32) ((F1 p0).toInt8.toInt32) (by decide) (by decide), own_in (1 : Int32) (0 : Int32) (2 : Int32) ((F1 p1).toInt8.toInt32) (by decide) (by decide), if_pos (show (0 : Int32) < (2 : Int32) by decide), if_pos (show (1 : Int32) < (2 : Int32) by decide), if_neg (show ¬ (2 : Int32) < (2 : Int32) by decide)]
  by_cases g0 : F9 ((F1 p0).toInt8.toInt32) = 0
  · simp only [if_pos g0, if_neg (own_nm0 g0)]
  · simp only [if_neg g0, if_pos (own_nm1 g0)]
    by_cases g1 : F9 ((F1 p1).toInt8.toInt32) = 0
    · simp only [if_pos g1, if_neg (own_nm0 g1)]
    · simp only [if_neg g1, if_pos (own_nm1 g1)]
theorem own_c03 (p0 p1 p2 p3 : Int32) : F3s0 (3 : Int32) ((F1 p0).toInt8.toInt32) ((F1 p1).toInt8.toInt32) ((F1 p2).toInt8.toInt32) ((F1 p3).toInt8.toInt32) = (if (F2 (0 : Int32) (0 : Int32) (3 : Int32) ((F1 p0).toInt8.toInt32)) = (0 : Int32) then (0 : Int32) else (if (F2 (1 : Int32) (0 : Int32) (3 : Int32) ((F1 p1).toInt8.toInt32)) = (0 : Int32) then (0 : Int32) else (if (F2 (2 : Int32) (0 : Int32) (3 : Int32) ((F1 p2).toInt8.toInt32)) = (0 : Int32) then (0 : Int32) else (if (F2 (3 : Int32) (0 : Int32) (3 : Int32) ((F1 p3).toInt8.toInt32)) = (0 : Int32) then (0 : Int32) else (1 : Int32))))) := by
  unfold F3s0
  simp only [if_neg (own_out (3 : Int32) (0 : Int32) (3 : Int32) ((F1 p3).toInt8.toInt32) (by decide)), own_in (0 : Int32) (0 : Int32) (3 : Int32) ((F1 p0).toInt8.toInt32) (by decide) (by decide), own_in (1 : Int32) (0 : Int32) (3 : Int32) ((F1 p1).toInt8.toInt32) (by decide) (by decide), own_in (2 : Int32) (0 : Int32) (3 : Int32) ((F1 p2).toInt8.toInt32) (by decide) (by decide), if_pos (show (0 : Int32) < (3 : Int32) by decide), if_pos (show (1 : Int32) < (3 : Int32) by decide), if_pos (show (2 : Int32) < (3 : Int32) by decide), if_neg (show ¬ (3 : Int32) < (3 : Int32) by decide)]
  by_cases g0 : F9 ((F1 p0).toInt8.toInt32) = 0
  · simp only [if_pos g0, if_neg (own_nm0 g0)]
  · simp only [if_neg g0, if_pos (own_nm1 g0)]
    by_cases g1 : F9 ((F1 p1).toInt8.toInt32) = 0
    · simp only [if_pos g1, if_neg (own_nm0 g1)]
    · simp only [if_neg g1, if_pos (own_nm1 g1)]
      by_cases g2 : F9 ((F1 p2).toInt8.toInt32) = 0
      · simp only [if_pos g2, if_neg (own_nm0 g2)]
      · simp only [if_neg g2, if_pos (own_nm1 g2)]
theorem own_c04 (p0 p1 p2 p3 : Int32) : F3s0 (4 : Int32) ((F1 p0).toInt8.toInt32) ((F1 p1).toInt8.toInt32) ((F1 p2).toInt8.toInt32) ((F1 p3).toInt8.toInt32) = (if (F2 (0 : Int32) (0 : Int32) (4 : Int32) ((F1 p0).toInt8.toInt32)) = (0 : Int32) then (0 : Int32) else (if (F2 (1 : Int32) (0 : Int32) (4 : Int32) ((F1 p1).toInt8.toInt32)) = (0 : Int32) then (0 : Int32) else (if (F2 (2 : Int32) (0 : Int32) (4 : Int32) ((F1 p2).toInt8.toInt32)) = (0 : Int32) then (0 : Int32) else (if (F2 (3 : Int32) (0 : Int32) (4 : Int32) ((F1 p3).toInt8.toInt32)) = (0 : Int32) then (0 : Int32) else (1 : Int32))))) := by
  unfold F3s0
  simp only [own_in (0 : Int32) (0 : Int32) (4 : Int32) ((F1 p0).toInt8.toInt32) (by decide) (by decide), own_in (1 : Int32) (0 : Int32) (4 : Int32) ((F1 p1).toInt8.toInt32) (by decide) (by decide), own_in (2 : Int32) (0 : Int32) (4 : Int32) ((F1 p2).toInt8.toInt32) (by decide) (by decide), own_in (3 : Int32) (0 : Int32) (4 : Int32) ((F1 p3).toInt8.toInt32) (by decide) (by decide), if_pos (show (0 : Int32) < (4 : Int32) by decide), if_pos (show (1 : Int32) < (4 : Int32) by decide), if_pos (show (2 : Int32) < (4 : Int32) by decide), if_pos (show (3 : Int32) < (4 : Int32) by decide)]
  by_cases g0 : F9 ((F1 p0).toInt8.toInt32) = 0
  · simp only [if_pos g0, if_neg (own_nm0 g0)]
  · simp only [if_neg g0, if_pos (own_nm1 g0)]
    by_cases g1 : F9 ((F1 p1).toInt8.toInt32) = 0
    · simp only [if_pos g1, if_neg (own_nm0 g1)]
    · simp only [if_neg g1, if_pos (own_nm1 g1)]
      by_cases g2 : F9 ((F1 p2).toInt8.toInt32) = 0
      · simp only [if_pos g2, if_neg (own_nm0 g2)]
      · simp only [if_neg g2, if_pos (own_nm1 g2)]
        by_cases g3 : F9 ((F1 p3).toInt8.toInt32) = 0
        · simp only [if_pos g3, if_neg (own_nm0 g3)]
        · simp only [if_neg g3, if_pos (own_nm1 g3)]
theorem own_c0 (p0 p1 p2 p3 p4 wc : Int32) (fv : Value) : F3s0 ((0 : Int32) + ((((p4.toUInt32 >>> ((8 : Int32) &&& 31).toUInt32).toInt32) &&& (255 : Int32)) % (5 : Int32))) ((F1 p0).toInt8.toInt32) ((F1 p1).toInt8.toInt32) ((F1 p2).toInt8.toInt32) ((F1 p3).toInt8.toInt32) = J0_78_S0 p0 p1 p2 p3 p4 wc fv := by
  unfold J0_78_S0
  have h := own_end0 p4
  generalize ((0 : Int32) + ((((p4.toUInt32 >>> ((8 : Int32) &&& 31).toUInt32).toInt32) &&& (255 : Int32)) % (5 : Int32))) = e at h ⊢
  rcases h with rfl | rfl | rfl | rfl | rfl
  · exact own_c00 p0 p1 p2 p3
  · exact own_c01 p0 p1 p2 p3
  · exact own_c02 p0 p1 p2 p3
  · exact own_c03 p0 p1 p2 p3
  · exact own_c04 p0 p1 p2 p3
theorem own_c11 (p0 p1 p2 p3 : Int32) : F3s1 (1 : Int32) ((F1 p0).toInt8.toInt32) ((F1 p1).toInt8.toInt32) ((F1 p2).toInt8.toInt32) ((F1 p3).toInt8.toInt32) = (if (F2 (0 : Int32) (1 : Int32) (1 : Int32) ((F1 p0).toInt8.toInt32)) = (0 : Int32) then (0 : Int32) else (if (F2 (1 : Int32) (1 : Int32) (1 : Int32) ((F1 p1).toInt8.toInt32)) = (0 : Int32) then (0 : Int32) else (if (F2 (2 : Int32) (1 : Int32) (1 : Int32) ((F1 p2).toInt8.toInt32)) = (0 : Int32) then (0 : Int32) else (if (F2 (3 : Int32) (1 : Int32) (1 : Int32) ((F1 p3).toInt8.toInt32)) = (0 : Int32) then (0 : Int32) else (1 : Int32))))) := by
  unfold F3s1
  simp only [if_neg (own_out (0 : Int32) (1 : Int32) (1 : Int32) ((F1 p0).toInt8.toInt32) (by decide)), if_neg (own_out (1 : Int32) (1 : Int32) (1 : Int32) ((F1 p1).toInt8.toInt32) (by decide)), if_neg (own_out (2 : Int32) (1 : Int32) (1 : Int32) ((F1 p2).toInt8.toInt32) (by decide)), if_neg (own_out (3 : Int32) (1 : Int32) (1 : Int32) ((F1 p3).toInt8.toInt32) (by decide)), if_neg (show ¬ (1 : Int32) < (1 : Int32) by decide)]

theorem own_c12 (p0 p1 p2 p3 : Int32) : F3s1 (2 : Int32) ((F1 p0).toInt8.toInt32) ((F1 p1).toInt8.toInt32) ((F1 p2).toInt8.toInt32) ((F1 p3).toInt8.toInt32) = (if (F2 (0 : Int32) (1 : Int32) (2 : Int32) ((F1 p0).toInt8.toInt32)) = (0 : Int32) then (0 : Int32) else (if (F2 (1 : Int32) (1 : Int32) (2 : Int32) ((F1 p1).toInt8.toInt32)) = (0 : Int32) then (0 : Int32) else (if (F2 (2 : Int32) (1 : Int32) (2 : Int32) ((F1 p2).toInt8.toInt32)) = (0 : Int32) then (0 : Int32) else (if (F2 (3 : Int32) (1 : Int32) (2 : Int32) ((F1 p3).toInt8.toInt32)) = (0 : Int32) then (0 : Int32) else (1 : Int32))))) := by
  unfold F3s1
  simp only [if_neg (own_out (0 : Int32) (1 : Int32) (2 : Int32) ((F1 p0).toInt8.toInt32) (by decide)), if_neg (own_out (2 : Int32) (1 : Int32) (2 : Int32) ((F1 p2).toInt8.toInt32) (by decide)), if_neg (own_out (3 : Int32) (1 : Int32) (2 : Int32) ((F1 p3).toInt8.toInt32) (by decide)), own_in (1 : Int32) (1 : Int32) (2 : Int32) ((F1 p1).toInt8.toInt32) (by decide) (by decide), if_pos (show (1 : Int32) < (2 : Int32) by decide), if_neg (show ¬ (2 : Int32) < (2 : Int32) by decide)]
  by_cases g1 : F9 ((F1 p1).toInt8.toInt32) = 0
  · simp only [if_pos g1, if_neg (own_nm0 g1)]
  · simp only [if_neg g1, if_pos (own_nm1 g1)]
theorem own_c13 (p0 p1 p2 p3 : Int32) : F3s1 (3 : Int32) ((F1 p0).toInt8.toInt32) ((F1 p1).toInt8.toInt32) ((F1 p2).toInt8.toInt32) ((F1 p3).toInt8.toInt32) = (if (F2 (0 : Int32) (1 : Int32) (3 : Int32) ((F1 p0).toInt8.toInt32)) = (0 : Int32) then (0 : Int32) else (if (F2 (1 : Int32) (1 : Int32) (3 : Int32) ((F1 p1).toInt8.toInt32)) = (0 : Int32) then (0 : Int32) else (if (F2 (2 : Int32) (1 : Int32) (3 : Int32) ((F1 p2).toInt8.toInt32)) = (0 : Int32) then (0 : Int32) else (if (F2 (3 : Int32) (1 : Int32) (3 : Int32) ((F1 p3).toInt8.toInt32)) = (0 : Int32) then (0 : Int32) else (1 : Int32))))) := by
  unfold F3s1
  simp only [if_neg (own_out (0 : Int32) (1 : Int32) (3 : Int32) ((F1 p0).toInt8.toInt32) (by decide)), if_neg (own_out (3 : Int32) (1 : Int32) (3 : Int32) ((F1 p3).toInt8.toInt32) (by decide)), own_in (1 : Int32) (1 : Int32) (3 : Int32) ((F1 p1).toInt8.toInt32) (by decide) (by decide), own_in (2 : Int32) (1 : Int32) (3 : Int32) ((F1 p2).toInt8.toInt32) (by decide) (by decide), if_pos (show (1 : Int32) < (3 : Int32) by decide), if_pos (show (2 : Int32) < (3 : Int32) by decide), if_neg (show ¬ (3 : Int32) < (3 : Int32) by decide)]
  by_cases g1 : F9 ((F1 p1).toInt8.toInt32) = 0
  · simp only [if_pos g1, if_neg (own_nm0 g1)]
  · simp only [if_neg g1, if_pos (own_nm1 g1)]
    by_cases g2 : F9 ((F1 p2).toInt8.toInt32) = 0
    · simp only [if_pos g2, if_neg (own_nm0 g2)]
    · simp only [if_neg g2, if_pos (own_nm1 g2)]
theorem own_c14 (p0 p1 p2 p3 : Int32) : F3s1 (4 : Int32) ((F1 p0).toInt8.toInt32) ((F1 p1).toInt8.toInt32) ((F1 p2).toInt8.toInt32) ((F1 p3).toInt8.toInt32) = (if (F2 (0 : Int32) (1 : Int32) (4 : Int32) ((F1 p0).toInt8.toInt32)) = (0 : Int32) then (0 : Int32) else (if (F2 (1 : Int32) (1 : Int32) (4 : Int32) ((F1 p1).toInt8.toInt32)) = (0 : Int32) then (0 : Int32) else (if (F2 (2 : Int32) (1 : Int32) (4 : Int32) ((F1 p2).toInt8.toInt32)) = (0 : Int32) then (0 : Int32) else (if (F2 (3 : Int32) (1 : Int32) (4 : Int32) ((F1 p3).toInt8.toInt32)) = (0 : Int32) then (0 : Int32) else (1 : Int32))))) := by
  unfold F3s1
  simp only [if_neg (own_out (0 : Int32) (1 : Int32) (4 : Int32) ((F1 p0).toInt8.toInt32) (by decide)), own_in (1 : Int32) (1 : Int32) (4 : Int32) ((F1 p1).toInt8.toInt32) (by decide) (by decide), own_in (2 : Int32) (1 : Int32) (4 : Int32) ((F1 p2).toInt8.toInt32) (by decide) (by decide), own_in (3 : Int32) (1 : Int32) (4 : Int32) ((F1 p3).toInt8.toInt32) (by decide) (by decide), if_pos (show (1 : Int32) < (4 : Int32) by decide), if_pos (show (2 : Int32) < (4 : Int32) by decide), if_pos (show (3 : Int32) < (4 : Int32) by decide)]
  by_cases g1 : F9 ((F1 p1).toInt8.toInt32) = 0
  · simp only [if_pos g1, if_neg (own_nm0 g1)]
  · simp only [if_neg g1, if_pos (own_nm1 g1)]
    by_cases g2 : F9 ((F1 p2).toInt8.toInt32) = 0
    · simp only [if_pos g2, if_neg (own_nm0 g2)]
    · simp only [if_neg g2, if_pos (own_nm1 g2)]
      by_cases g3 : F9 ((F1 p3).toInt8.toInt32) = 0
      · simp only [if_pos g3, if_neg (own_nm0 g3)]
      · simp only [if_neg g3, if_pos (own_nm1 g3)]
theorem own_c1 (p0 p1 p2 p3 p4 wc : Int32) (fv : Value) : F3s1 ((1 : Int32) + ((((p4.toUInt32 >>> ((8 : Int32) &&& 31).toUInt32).toInt32) &&& (255 : Int32)) % (4 : Int32))) ((F1 p0).toInt8.toInt32) ((F1 p1).toInt8.toInt32) ((F1 p2).toInt8.toInt32) ((F1 p3).toInt8.toInt32) = J0_78_S0_42 p0 p1 p2 p3 p4 wc fv := by
  unfold J0_78_S0_42
  have h := own_end1 p4
  generalize ((1 : Int32) + ((((p4.toUInt32 >>> ((8 : Int32) &&& 31).toUInt32).toInt32) &&& (255 : Int32)) % (4 : Int32))) = e at h ⊢
  rcases h with rfl | rfl | rfl | rfl
  · exact own_c11 p0 p1 p2 p3
  · exact own_c12 p0 p1 p2 p3
  · exact own_c13 p0 p1 p2 p3
  · exact own_c14 p0 p1 p2 p3
theorem own_c22 (p0 p1 p2 p3 : Int32) : F3s2 (2 : Int32) ((F1 p0).toInt8.toInt32) ((F1 p1).toInt8.toInt32) ((F1 p2).toInt8.toInt32) ((F1 p3).toInt8.toInt32) = (if (F2 (0 : Int32) (2 : Int32) (2 : Int32) ((F1 p0).toInt8.toInt32)) = (0 : Int32) then (0 : Int32) else (if (F2 (1 : Int32) (2 : Int32) (2 : Int32) ((F1 p1).toInt8.toInt32)) = (0 : Int32) then (0 : Int32) else (if (F2 (2 : Int32) (2 : Int32) (2 : Int32) ((F1 p2).toInt8.toInt32)) = (0 : Int32) then (0 : Int32) else (if (F2 (3 : Int32) (2 : Int32) (2 : Int32) ((F1 p3).toInt8.toInt32)) = (0 : Int32) then (0 : Int32) else (1 : Int32))))) := by
  unfold F3s2
  simp only [if_neg (own_out (0 : Int32) (2 : Int32) (2 : Int32) ((F1 p0).toInt8.toInt32) (by decide)), if_neg (own_out (1 : Int32) (2 : Int32) (2 : Int32) ((F1 p1).toInt8.toInt32) (by decide)), if_neg (own_out (2 : Int32) (2 : Int32) (2 : Int32) ((F1 p2).toInt8.toInt32) (by decide)), if_neg (own_out (3 : Int32) (2 : Int32) (2 : Int32) ((F1 p3).toInt8.toInt32) (by decide)), if_neg (show ¬ (2 : Int32) < (2 : Int32) by decide)]

theorem own_c23 (p0 p1 p2 p3 : Int32) : F3s2 (3 : Int32) ((F1 p0).toInt8.toInt32) ((F1 p1).toInt8.toInt32) ((F1 p2).toInt8.toInt32) ((F1 p3).toInt8.toInt32) = (if (F2 (0 : Int32) (2 : Int32) (3 : Int32) ((F1 p0).toInt8.toInt32)) = (0 : Int32) then (0 : Int32) else (if (F2 (1 : Int32) (2 : Int32) (3 : Int32) ((F1 p1).toInt8.toInt32)) = (0 : Int32) then (0 : Int32) else (if (F2 (2 : Int32) (2 : Int32) (3 : Int32) ((F1 p2).toInt8.toInt32)) = (0 : Int32) then (0 : Int32) else (if (F2 (3 : Int32) (2 : Int32) (3 : Int32) ((F1 p3).toInt8.toInt32)) = (0 : Int32) then (0 : Int32) else (1 : Int32))))) := by
  unfold F3s2
  simp only [if_neg (own_out (0 : Int32) (2 : Int32) (3 : Int32) ((F1 p0).toInt8.toInt32) (by decide)), if_neg (own_out (1 : Int32) (2 : Int32) (3 : Int32) ((F1 p1).toInt8.toInt32) (by decide)), if_neg (own_out (3 : Int32) (2 : Int32) (3 : Int32) ((F1 p3).toInt8.toInt32) (by decide)), own_in (2 : Int32) (2 : Int32) (3 : Int32) ((F1 p2).toInt8.toInt32) (by decide) (by decide), if_pos (show (2 : Int32) < (3 : Int32) by decide), if_neg (show ¬ (3 : Int32) < (3 : Int32) by decide)]
  by_cases g2 : F9 ((F1 p2).toInt8.toInt32) = 0
  · simp only [if_pos g2, if_neg (own_nm0 g2)]
  · simp only [if_neg g2, if_pos (own_nm1 g2)]
theorem own_c24 (p0 p1 p2 p3 : Int32) : F3s2 (4 : Int32) ((F1 p0).toInt8.toInt32) ((F1 p1).toInt8.toInt32) ((F1 p2).toInt8.toInt32) ((F1 p3).toInt8.toInt32) = (if (F2 (0 : Int32) (2 : Int32) (4 : Int32) ((F1 p0).toInt8.toInt32)) = (0 : Int32) then (0 : Int32) else (if (F2 (1 : Int32) (2 : Int32) (4 : Int32) ((F1 p1).toInt8.toInt32)) = (0 : Int32) then (0 : Int32) else (if (F2 (2 : Int32) (2 : Int32) (4 : Int32) ((F1 p2).toInt8.toInt32)) = (0 : Int32) then (0 : Int32) else (if (F2 (3 : Int32) (2 : Int32) (4 : Int32) ((F1 p3).toInt8.toInt32)) = (0 : Int32) then (0 : Int32) else (1 : Int32))))) := by
  unfold F3s2
  simp only [if_neg (own_out (0 : Int32) (2 : Int32) (4 : Int32) ((F1 p0).toInt8.toInt32) (by decide)), if_neg (own_out (1 : Int32) (2 : Int32) (4 : Int32) ((F1 p1).toInt8.toInt32) (by decide)), own_in (2 : Int32) (2 : Int32) (4 : Int32) ((F1 p2).toInt8.toInt32) (by decide) (by decide), own_in (3 : Int32) (2 : Int32) (4 : Int32) ((F1 p3).toInt8.toInt32) (by decide) (by decide), if_pos (show (2 : Int32) < (4 : Int32) by decide), if_pos (show (3 : Int32) < (4 : Int32) by decide)]
  by_cases g2 : F9 ((F1 p2).toInt8.toInt32) = 0
  · simp only [if_pos g2, if_neg (own_nm0 g2)]
  · simp only [if_neg g2, if_pos (own_nm1 g2)]
    by_cases g3 : F9 ((F1 p3).toInt8.toInt32) = 0
    · simp only [if_pos g3, if_neg (own_nm0 g3)]
    · simp only [if_neg g3, if_pos (own_nm1 g3)]
theorem own_c2 (p0 p1 p2 p3 p4 wc : Int32) (fv : Value) : F3s2 ((2 : Int32) + ((((p4.toUInt32 >>> ((8 : Int32) &&& 31).toUInt32).toInt32) &&& (255 : Int32)) % (3 : Int32))) ((F1 p0).toInt8.toInt32) ((F1 p1).toInt8.toInt32) ((F1 p2).toInt8.toInt32) ((F1 p3).toInt8.toInt32) = J0_78_S0_59 p0 p1 p2 p3 p4 wc fv := by
  unfold J0_78_S0_59
  have h := own_end2 p4
  generalize ((2 : Int32) + ((((p4.toUInt32 >>> ((8 : Int32) &&& 31).toUInt32).toInt32) &&& (255 : Int32)) % (3 : Int32))) = e at h ⊢
  rcases h with rfl | rfl | rfl
  · exact own_c22 p0 p1 p2 p3
  · exact own_c23 p0 p1 p2 p3
  · exact own_c24 p0 p1 p2 p3
theorem own_c33 (p0 p1 p2 p3 : Int32) : F3s3 (3 : Int32) ((F1 p0).toInt8.toInt32) ((F1 p1).toInt8.toInt32) ((F1 p2).toInt8.toInt32) ((F1 p3).toInt8.toInt32) = (if (F2 (0 : Int32) (3 : Int32) (3 : Int32) ((F1 p0).toInt8.toInt32)) = (0 : Int32) then (0 : Int32) else (if (F2 (1 : Int32) (3 : Int32) (3 : Int32) ((F1 p1).toInt8.toInt32)) = (0 : Int32) then (0 : Int32) else (if (F2 (2 : Int32) (3 : Int32) (3 : Int32) ((F1 p2).toInt8.toInt32)) = (0 : Int32) then (0 : Int32) else (if (F2 (3 : Int32) (3 : Int32) (3 : Int32) ((F1 p3).toInt8.toInt32)) = (0 : Int32) then (0 : Int32) else (1 : Int32))))) := by
  unfold F3s3
  simp only [if_neg (own_out (0 : Int32) (3 : Int32) (3 : Int32) ((F1 p0).toInt8.toInt32) (by decide)), if_neg (own_out (1 : Int32) (3 : Int32) (3 : Int32) ((F1 p1).toInt8.toInt32) (by decide)), if_neg (own_out (2 : Int32) (3 : Int32) (3 : Int32) ((F1 p2).toInt8.toInt32) (by decide)), if_neg (own_out (3 : Int32) (3 : Int32) (3 : Int32) ((F1 p3).toInt8.toInt32) (by decide)), if_neg (show ¬ (3 : Int32) < (3 : Int32) by decide)]

theorem own_c34 (p0 p1 p2 p3 : Int32) : F3s3 (4 : Int32) ((F1 p0).toInt8.toInt32) ((F1 p1).toInt8.toInt32) ((F1 p2).toInt8.toInt32) ((F1 p3).toInt8.toInt32) = (if (F2 (0 : Int32) (3 : Int32) (4 : Int32) ((F1 p0).toInt8.toInt32)) = (0 : Int32) then (0 : Int32) else (if (F2 (1 : Int32) (3 : Int32) (4 : Int32) ((F1 p1).toInt8.toInt32)) = (0 : Int32) then (0 : Int32) else (if (F2 (2 : Int32) (3 : Int32) (4 : Int32) ((F1 p2).toInt8.toInt32)) = (0 : Int32) then (0 : Int32) else (if (F2 (3 : Int32) (3 : Int32) (4 : Int32) ((F1 p3).toInt8.toInt32)) = (0 : Int32) then (0 : Int32) else (1 : Int32))))) := by
  unfold F3s3
  simp only [if_neg (own_out (0 : Int32) (3 : Int32) (4 : Int32) ((F1 p0).toInt8.toInt32) (by decide)), if_neg (own_out (1 : Int32) (3 : Int32) (4 : Int32) ((F1 p1).toInt8.toInt32) (by decide)), if_neg (own_out (2 : Int32) (3 : Int32) (4 : Int32) ((F1 p2).toInt8.toInt32) (by decide)), own_in (3 : Int32) (3 : Int32) (4 : Int32) ((F1 p3).toInt8.toInt32) (by decide) (by decide), if_pos (show (3 : Int32) < (4 : Int32) by decide)]
  by_cases g3 : F9 ((F1 p3).toInt8.toInt32) = 0
  · simp only [if_pos g3, if_neg (own_nm0 g3)]
  · simp only [if_neg g3, if_pos (own_nm1 g3)]
theorem own_c3 (p0 p1 p2 p3 p4 wc : Int32) (fv : Value) : F3s3 ((3 : Int32) + ((((p4.toUInt32 >>> ((8 : Int32) &&& 31).toUInt32).toInt32) &&& (255 : Int32)) % (2 : Int32))) ((F1 p0).toInt8.toInt32) ((F1 p1).toInt8.toInt32) ((F1 p2).toInt8.toInt32) ((F1 p3).toInt8.toInt32) = J0_78_S0_76 p0 p1 p2 p3 p4 wc fv := by
  unfold J0_78_S0_76
  have h := own_end3 p4
  generalize ((3 : Int32) + ((((p4.toUInt32 >>> ((8 : Int32) &&& 31).toUInt32).toInt32) &&& (255 : Int32)) % (2 : Int32))) = e at h ⊢
  rcases h with rfl | rfl
  · exact own_c33 p0 p1 p2 p3
  · exact own_c34 p0 p1 p2 p3
theorem own_c44 (p0 p1 p2 p3 : Int32) : F3s4 (4 : Int32) ((F1 p0).toInt8.toInt32) ((F1 p1).toInt8.toInt32) ((F1 p2).toInt8.toInt32) ((F1 p3).toInt8.toInt32) = (if (F2 (0 : Int32) (4 : Int32) (4 : Int32) ((F1 p0).toInt8.toInt32)) = (0 : Int32) then (0 : Int32) else (if (F2 (1 : Int32) (4 : Int32) (4 : Int32) ((F1 p1).toInt8.toInt32)) = (0 : Int32) then (0 : Int32) else (if (F2 (2 : Int32) (4 : Int32) (4 : Int32) ((F1 p2).toInt8.toInt32)) = (0 : Int32) then (0 : Int32) else (if (F2 (3 : Int32) (4 : Int32) (4 : Int32) ((F1 p3).toInt8.toInt32)) = (0 : Int32) then (0 : Int32) else (1 : Int32))))) := by
  unfold F3s4
  simp only [if_neg (own_out (0 : Int32) (4 : Int32) (4 : Int32) ((F1 p0).toInt8.toInt32) (by decide)), if_neg (own_out (1 : Int32) (4 : Int32) (4 : Int32) ((F1 p1).toInt8.toInt32) (by decide)), if_neg (own_out (2 : Int32) (4 : Int32) (4 : Int32) ((F1 p2).toInt8.toInt32) (by decide)), if_neg (own_out (3 : Int32) (4 : Int32) (4 : Int32) ((F1 p3).toInt8.toInt32) (by decide))]

theorem own_c4 (p0 p1 p2 p3 p4 wc : Int32) (fv : Value) : F3s4 ((4 : Int32) + ((((p4.toUInt32 >>> ((8 : Int32) &&& 31).toUInt32).toInt32) &&& (255 : Int32)) % (1 : Int32))) ((F1 p0).toInt8.toInt32) ((F1 p1).toInt8.toInt32) ((F1 p2).toInt8.toInt32) ((F1 p3).toInt8.toInt32) = J0_78_S0_93 p0 p1 p2 p3 p4 wc fv := by
  unfold J0_78_S0_93
  have h := own_end4 p4
  generalize ((4 : Int32) + ((((p4.toUInt32 >>> ((8 : Int32) &&& 31).toUInt32).toInt32) &&& (255 : Int32)) % (1 : Int32))) = e at h ⊢
  rcases h with rfl
  · exact own_c44 p0 p1 p2 p3
theorem own_law (p0 p1 p2 p3 p4 wc : Int32) (fv : Value) : F0 p0 p1 p2 p3 p4 wc fv = 1 := by
  unfold F0
  rw [if_pos (own_c0 p0 p1 p2 p3 p4 wc fv), if_pos (own_c1 p0 p1 p2 p3 p4 wc fv), if_pos (own_c2 p0 p1 p2 p3 p4 wc fv), if_pos (own_c3 p0 p1 p2 p3 p4 wc fv), if_pos (own_c4 p0 p1 p2 p3 p4 wc fv)]
  simp only [ite_self]
set_option maxRecDepth 65536 in
set_option maxHeartbeats 40000000 in
theorem comes_1 {Post : Tables → Env → Array Value → State → Outcome → State → Prop} (hpost : ∀ tb e args s v u, (limb_1_1.after args s (.returned v) u = true ∧ limb_1_2.after args s (.returned v) u = true ∧ True) → ReturnedEndW s (.returned v) u (Jvm.fieldLocs frame_1_writes args s ++ Jvm.arrayLocs frame_1_arrays args s ++ Jvm.staticLocs frame_1_statics s) 16 1152 → Post tb e args s (.returned v) u) :
    ArmFor flags0 classFile x code maxLocals ret World_1 tables_1 room_1 Calls_1 rest_1 Pre_1 Post := by
  intro l hfl _ _ p e ha hc hk s m args below hf hA hF happ hP
  obtain ⟨hcalls, hrest, hpre⟩ := hP
  obtain ⟨-, -, -, hnamed, -, -, -, hat⟩ := (Spec.applies_iff hf).mp happ
  obtain ⟨hg, hn⟩ := and_e (Cond.before_iff.mp (show (Jvm.Cond.and given_1 narrow_1).before args s = true from hpre))
  obtain ⟨g1, g2⟩ := and_e hg
  obtain ⟨g3, g4⟩ := and_e g2
  obtain ⟨g5, g6⟩ := and_e g4
  obtain ⟨g7, g8⟩ := and_e g6
  obtain ⟨g9, g10⟩ := and_e g8
  obtain ⟨w0, w1, w2, w3, w4, rfl⟩ : ∃ w0 w1 w2 w3 w4 : Value, args = #[w0, w1, w2, w3, w4] := by
    have hs : args.size = 5 := by simpa [Cond.value, given_1] using g1
    obtain ⟨L⟩ := args
    match L, hs with
    | [w0, w1, w2, w3, w4], _ => exact ⟨w0, w1, w2, w3, w4, rfl⟩
  have hw := fun d (hd : d ∈ tables_1) => atoms_spec (ws := Jvm.Cond.code x code maxLocals ret :: tables_1) hat d (List.mem_cons_of_mem _ hd)
  have hfit : Fit s := fun {y c} hc i hi => by
    obtain ⟨ha, rfl⟩ := Array.getElem?_eq_some_iff.mp hc
    have q := List.all_eq_true.mp ((Array.all_eq_true_iff_forall_mem.mp hF) _ (Array.getElem_mem ha)) i (List.mem_range.mpr hi)
    simpa [Array.getElem?_eq_getElem hi] using q
  obtain ⟨hsets, hown0⟩ := atoms_of _ (rest_1_c_eq ▸ (show rest_1_c.before _ s = true from hrest))
  have hr0 := Cond.before_iff.mp hown0
  obtain ⟨i0, ei0⟩ := is_v g3
  obtain rfl : w0 = (.int i0) := Option.some.inj ei0
  obtain ⟨i1, ei1⟩ := is_v g5
  obtain rfl : w1 = (.int i1) := Option.some.inj ei1
  obtain ⟨i2, ei2⟩ := is_v g7
  obtain rfl : w2 = (.int i2) := Option.some.inj ei2
  obtain ⟨i3, ei3⟩ := is_v g9
  obtain rfl : w3 = (.int i3) := Option.some.inj ei3
  obtain ⟨i4, ei4⟩ := is_v g10
  obtain rfl : w4 = (.int i4) := Option.some.inj ei4
  have n3c := not_v (Cond.before_iff.mp (hsets _ (List.mem_of_getElem? (i := 2) rfl)))
  obtain ⟨wc, ewc⟩ := is_v (Cond.before_iff.mp (hsets _ (List.mem_of_getElem? (i := 1) rfl)))
  have S_wc : Sta s s.heap "java/lang/String" "COMPACT_STRINGS" "Z" (.int wc) := Sta.start ewc (Or.inl (hsets _ (List.mem_of_getElem? (i := 0) rfl)))
  have hwc : ¬ (wc = (0 : Int32)) := gotF (Cond.eq_ints ewc (Term.int_eval (0))) n3c
  obtain ⟨fv, efv, h_fv⟩ := isR_v (Cond.before_iff.mp (hsets _ (List.mem_of_getElem? (i := 8) rfl)))
  have S_fv : Sta s s.heap "jdk/internal/util/Preconditions" "SIOOBE_FORMATTER" "Ljava/util/function/BiFunction;" fv := Sta.start efv (Or.inl (hsets _ (List.mem_of_getElem? (i := 7) rfl)))
  obtain ⟨n, o, h1, h2, h3, _, L, rfl, ⟨rfl, N⟩, _, hq⟩ := rm0 l s _ hw tables_1 i0 i1 i2 i3 i4 wc fv s.heap s.heap.size (Nat.le_refl _) S_wc hwc S_fv h_fv p e ha hc hk s m _ below hf ((Spec.applies_iff_loose hf).mp happ).1 ⟨rfl, State.Warmed39.refl s, rfl, CHv.start (own_EW hw) (fun p hp => hcalls.1 p hp) (hsets _ (List.mem_of_getElem? (i := 2) rfl)) (own_strW hw _ (by simp [Bundle.stringAtoms])) (own_strW hw _ (by simp [Bundle.stringAtoms, Bundle.sN]))⟩ trivial
  refine ⟨n, _, h1, h2, h3, hpost _ _ _ _ _ _ ⟨Cond.after_iff.mpr rfl, Cond.after_iff.mpr (eq_i res_at (Term.int_eval (1)) (congrArg Value.int (own_law i0 i1 i2 i3 i4 wc fv))), trivial⟩ ⟨hq.1, hq.2.1, hq.2.2.1, (hq.2.2.2.sift fun y hy => Or.inr (N y hy)).mono (by decide) (by decide)⟩⟩
theorem main_1_1 : Claimed_1_1 := comes_1 fun _ _ _ _ _ _ h hF => ⟨h.1, hF⟩
theorem main_1_2 : Claimed_1_2 := comes_1 fun _ _ _ _ _ _ h hF => ⟨h.2.1, hF⟩
end Jvm.Pilot.@@N@@
namespace Jvm.Pilot.@@N@@
open Jvm Jvm.ClassFile Sem Op Lib Jvm.Free Jvm.Stand Jvm.Pilot.@@N@@.Jvm.D
/-! MADE BY PROGRAM (witnessworld.py) out of the Statement's table words and the real class files: 18 classes; the members and pool entries that the words name. The judged class is class 1, her method 4. -/
namespace start1
open Jvm.ClassFile
def u (s : String) : CpInfo := .utf8 (stringToUtf16 s)
/-- a pool by its gaps: so many unusable entries, then the entry; so many at the end -/
def gap : Nat → List CpInfo → List CpInfo
  | 0, r => r
  | n + 1, r => .unusable :: gap n r
def poolList (es : List (Nat × CpInfo)) (last : Nat) : List CpInfo := es.foldr (fun e r => gap e.1 (e.2 :: r)) (gap last [])
def pool (es : List (Nat × CpInfo)) (last : Nat) : Array CpInfo := ⟨poolList es last⟩
def fileOf (pool : Array CpInfo) (this : Nat) (attrs : Array Attribute := #[]) (ms : Array MethodInfo := #[]) (fl : Nat := 33) (sup : Nat := 0) (ifs : Array Nat := #[]) (fds : Array FieldInfo := #[]) : ClassFile where
  minorVersion := 0
  majorVersion := 65
  constantPool := pool
  accessFlags := fl
  thisClass := this
  superClass := sup
  interfaces := ifs
  fields := fds
  methods := ms
  attributes := attrs
def plain (name : String) (sup : Option ClassId) : Class where
  name := name
  kind := .ordinary
  loader := none
  accessFlags := 33
  super := sup
  interfaces := #[]
  cf := none
  fields := #[]
  methods := #[]
  instanceTypes := #[]
  staticTypes := #[]
  resolved := #[]
  callSites := []
  init := .initialized
  statics := none
  mirror := none

def pool0 : Array CpInfo := pool [(5, u "<init>"), (0, u "()V"), (1, .class_ 10), (1, u "java/lang/Object")] 113

def k0m0 : Method := { name := "<init>", desc := "()V", sig := { parameters := [], returnType := none }, accessFlags := 1, code := none }
/-- java/lang/Object -/
def k0 : Class := { plain "java/lang/Object" none with
  accessFlags := 33
  interfaces := #[]
  cf := some (fileOf pool0 8 #[] #[{ accessFlags := 1, nameIndex := 5, descriptorIndex := 6, attributes := #[] }] 33 0 #[] #[])
  fields := #[]
  methods := #[k0m0]
  instanceTypes := #[]
  staticTypes := #[]
  resolved := Array.replicate 124 none
  statics := none }

def pool1 : Array CpInfo := pool [(2, .class_ 4), (1, u "java/lang/Object"), (0, u "<init>"), (0, u "()V"), (0, .string 8), (0, u "abcdefghijklmnopqrstuvwxyz0123456789-"), (0, .methodref 10 11), (0, .class_ 12), (0, .nameAndType 13 14), (0, u "java/lang/String"), (0, u "charAt"), (0, u "(I)C"), (0, .methodref 16 17), (0, .class_ 18), (0, .nameAndType 19 20), (0, u "com/example/standbye/standbye/TextInputIsNamePinLaw"), (0, u "ok"), (0, u "(B)Z"), (0, .methodref 16 22), (0, .nameAndType 23 24), (0, u "pick"), (0, u "(I)B"), (0, .methodref 16 26), (0, .nameAndType 27 28), (0, u "fine"), (0, u "(IIIB)Z"), (0, .methodref 30 31), (0, .class_ 32), (0, .nameAndType 33 34), (0, u "com/example/standbye/standbye/TextInput"), (0, u "isName"), (0, u "([BII)Z"), (3, u "law"), (0, u "(IIIII)Z")] 4

def k1m0 : Method := { name := "<init>", desc := "()V", sig := { parameters := [], returnType := none }, accessFlags := 1, code := none }
def k1c1 : Code := { maxStack := 3, maxLocals := 1, code := method_2_code, exceptionTable := #[], attributes := #[] }
def k1m1 : Method := { name := "pick", desc := "(I)B", sig := { parameters := [.int], returnType := some .byte }, accessFlags := 10, code := some k1c1 }
def k1c2 : Code := { maxStack := 2, maxLocals := 2, code := method_3_code, exceptionTable := #[], attributes := #[] }
def k1m2 : Method := { name := "ok", desc := "(B)Z", sig := { parameters := [.byte], returnType := some .boolean }, accessFlags := 10, code := some k1c2 }
def k1c3 : Code := { maxStack := 2, maxLocals := 5, code := method_4_code, exceptionTable := #[], attributes := #[] }
def k1m3 : Method := { name := "fine", desc := "(IIIB)Z", sig := { parameters := [.int, .int, .int, .byte], returnType := some .boolean }, accessFlags := 10, code := some k1c3 }
def k1c4 : Code := { maxStack := 5, maxLocals := 9, code := code, exceptionTable := #[], attributes := #[] }
def k1m4 : Method := { name := "law", desc := "(IIIII)Z", sig := { parameters := [.int, .int, .int, .int, .int], returnType := some .boolean }, accessFlags := 9, code := some k1c4 }
/-- com/example/standbye/standbye/TextInputIsNamePinLaw -/
def k1 : Class := { plain "com/example/standbye/standbye/TextInputIsNamePinLaw" (some 0) with
  accessFlags := 49
  interfaces := #[]
  cf := some (fileOf pool1 16 #[] #[{ accessFlags := 1, nameIndex := 5, descriptorIndex := 6, attributes := #[] }, { accessFlags := 10, nameIndex := 23, descriptorIndex := 24, attributes := #[] }, { accessFlags := 10, nameIndex := 19, descriptorIndex := 20, attributes := #[] }, { accessFlags := 10, nameIndex := 27, descriptorIndex := 28, attributes := #[] }, { accessFlags := 9, nameIndex := 38, descriptorIndex := 39, attributes := #[] }] 49 2 #[] #[])
  fields := #[]
  methods := #[k1m0, k1m1, k1m2, k1m3, k1m4]
  instanceTypes := #[]
  staticTypes := #[]
  resolved := Array.replicate 44 none
  statics := none }

def pool2 : Array CpInfo := pool [(2, .class_ 4), (1, u "java/lang/Object"), (3, .class_ 10), (1, u "com/example/standbye/standbye/BufferedInput"), (0, u "in"), (0, u "Ljava/io/InputStream;"), (2, u "buffer"), (0, u "[B"), (2, u "offset"), (0, u "I"), (2, u "length"), (14, u "ended"), (0, u "Z")] 10

/-- com/example/standbye/standbye/BufferedInput -/
def k2 : Class := { plain "com/example/standbye/standbye/BufferedInput" (some 0) with
  accessFlags := 1056
  interfaces := #[]
  cf := some (fileOf pool2 8 #[] #[] 1056 2 #[] #[{ accessFlags := 18, nameIndex := 11, descriptorIndex := 12, attributes := #[] }, { accessFlags := 16, nameIndex := 15, descriptorIndex := 16, attributes := #[] }, { accessFlags := 0, nameIndex := 19, descriptorIndex := 20, attributes := #[] }, { accessFlags := 0, nameIndex := 23, descriptorIndex := 20, attributes := #[] }, { accessFlags := 0, nameIndex := 38, descriptorIndex := 39, attributes := #[] }])
  fields := #[{ name := "in", type := (.object "java/io/InputStream"), accessFlags := 18, slot := 0, constantValue := 0 }, { name := "buffer", type := (.array .byte), accessFlags := 16, slot := 1, constantValue := 0 }, { name := "offset", type := .int, accessFlags := 0, slot := 2, constantValue := 0 }, { name := "length", type := .int, accessFlags := 0, slot := 3, constantValue := 0 }, { name := "ended", type := .boolean, accessFlags := 0, slot := 4, constantValue := 0 }]
  methods := #[]
  instanceTypes := #[(.object "java/io/InputStream"), (.array .byte), .int, .int, .boolean]
  staticTypes := #[]
  resolved := Array.replicate 50 none
  statics := none }

def pool3 : Array CpInfo := pool [(3, .class_ 4), (0, u "com/example/standbye/standbye/TextInput"), (2, .class_ 9), (1, u "com/example/standbye/standbye/BufferedInput"), (159, u "isName"), (0, u "([BII)Z")] 195

def k3c0 : Code := { maxStack := 2, maxLocals := 5, code := prog_47_method_8_code, exceptionTable := #[], attributes := #[] }
def k3m0 : Method := { name := "isName", desc := "([BII)Z", sig := { parameters := [(.array .byte), .int, .int], returnType := some .boolean }, accessFlags := 8, code := some k3c0 }
/-- com/example/standbye/standbye/TextInput -/
def k3 : Class := { plain "com/example/standbye/standbye/TextInput" (some 2) with
  accessFlags := 32
  interfaces := #[]
  cf := some (fileOf pool3 3 #[] #[{ accessFlags := 8, nameIndex := 169, descriptorIndex := 170, attributes := #[] }] 32 7 #[] #[])
  fields := #[]
  methods := #[k3m0]
  instanceTypes := #[]
  staticTypes := #[]
  resolved := Array.replicate 366 none
  statics := none }

def pool4 : Array CpInfo := pool [(1, .class_ 2), (0, u "java/io/Serializable"), (0, .class_ 4), (0, u "java/lang/Object")] 2

/-- java/io/Serializable -/
def k4 : Class := { plain "java/io/Serializable" (some 0) with
  accessFlags := 1537
  interfaces := #[]
  cf := some (fileOf pool4 1 #[] #[] 1537 3 #[] #[])
  fields := #[]
  methods := #[]
  instanceTypes := #[]
  staticTypes := #[]
  resolved := Array.replicate 7 none
  statics := none }

def pool5 : Array CpInfo := pool [(1, .class_ 2), (0, u "java/lang/Comparable"), (0, .class_ 4), (0, u "java/lang/Object")] 7

/-- java/lang/Comparable -/
def k5 : Class := { plain "java/lang/Comparable" (some 0) with
  accessFlags := 1537
  interfaces := #[]
  cf := some (fileOf pool5 1 #[] #[] 1537 3 #[] #[])
  fields := #[]
  methods := #[]
  instanceTypes := #[]
  staticTypes := #[]
  resolved := Array.replicate 12 none
  statics := none }

def pool6 : Array CpInfo := pool [(2, .class_ 4), (1, u "java/lang/CharSequence"), (42, .class_ 48), (0, u "java/lang/CharSequence$1CodePointIterator"), (10, .class_ 60), (0, u "java/lang/CharSequence$1CharIterator"), (5, .class_ 67), (0, u "java/lang/Object")] 63

/-- java/lang/CharSequence -/
def k6 : Class := { plain "java/lang/CharSequence" (some 0) with
  accessFlags := 1537
  interfaces := #[]
  cf := some (fileOf pool6 2 #[.nestMembers #[47, 59]] #[] 1537 66 #[] #[])
  fields := #[]
  methods := #[]
  instanceTypes := #[]
  staticTypes := #[]
  resolved := Array.replicate 131 none
  statics := none }

def pool7 : Array CpInfo := pool [(1, .class_ 2), (0, u "java/lang/constant/Constable"), (0, .class_ 4), (0, u "java/lang/Object")] 6

/-- java/lang/constant/Constable -/
def k7 : Class := { plain "java/lang/constant/Constable" (some 0) with
  accessFlags := 1537
  interfaces := #[]
  cf := some (fileOf pool7 1 #[] #[] 1537 3 #[] #[])
  fields := #[]
  methods := #[]
  instanceTypes := #[]
  staticTypes := #[]
  resolved := Array.replicate 11 none
  statics := none }

def pool8 : Array CpInfo := pool [(1, .class_ 2), (0, u "java/lang/constant/ConstantDesc"), (0, .class_ 4), (0, u "java/lang/Object")] 32

/-- java/lang/constant/ConstantDesc -/
def k8 : Class := { plain "java/lang/constant/ConstantDesc" (some 0) with
  accessFlags := 1537
  interfaces := #[]
  cf := some (fileOf pool8 1 #[] #[] 1537 3 #[] #[])
  fields := #[]
  methods := #[]
  instanceTypes := #[]
  staticTypes := #[]
  resolved := Array.replicate 37 none
  statics := none }

def pool9 : Array CpInfo := pool [(2, .class_ 4), (1, u "java/lang/Object"), (0, u "<init>"), (0, u "()V"), (2, .fieldref 10 11), (0, .class_ 12), (0, .nameAndType 13 14), (0, u "java/lang/String"), (0, u "value"), (0, u "[B"), (0, .fieldref 10 16), (0, .nameAndType 17 18), (0, u "coder"), (0, u "B"), (2, u "hash"), (0, u "I"), (2, u "hashIsZero"), (0, u "Z"), (11, .fieldref 10 39), (0, .nameAndType 40 26), (0, u "COMPACT_STRINGS"), (66, .class_ 109), (1, u "java/lang/StringLatin1"), (32, u "()Z"), (220, u "([BI)C"), (27, u "(II)V"), (35, u "(I)C"), (64, .methodref 10 493), (0, .nameAndType 494 142), (0, u "isLatin1"), (0, .methodref 107 496), (0, .nameAndType 497 363), (0, u "charAt"), (3, u "checkIndex"), (73, .class_ 576), (0, u "java/lang/CharSequence"), (22, u "CASE_INSENSITIVE_ORDER"), (0, u "Ljava/util/Comparator;"), (452, .fieldref 1054 1055), (0, .class_ 1056), (0, .nameAndType 1057 1058), (0, u "jdk/internal/util/Preconditions"), (0, u "SIOOBE_FORMATTER"), (0, u "Ljava/util/function/BiFunction;"), (0, .methodref 1054 1060), (0, .nameAndType 501 1061), (0, u "(IILjava/util/function/BiFunction;)I"), (39, u "serialPersistentFields"), (0, u "[Ljava/io/ObjectStreamField;"), (0, .class_ 1104), (0, u "java/lang/String$CaseInsensitiveComparator"), (1, .class_ 1107), (0, u "java/io/Serializable"), (0, .class_ 1109), (0, u "java/lang/Comparable"), (0, .class_ 1111), (0, u "java/lang/constant/Constable"), (0, .class_ 1113), (0, u "java/lang/constant/ConstantDesc"), (2, u "serialVersionUID"), (0, u "J"), (3, u "REPL"), (0, u "C"), (2, u "LATIN1"), (1, u "UTF16")] 323

def k9m0 : Method := { name := "<init>", desc := "()V", sig := { parameters := [], returnType := none }, accessFlags := 1, code := none }
def k9c1 : Code := { maxStack := 2, maxLocals := 2, code := jdk_42_method_56_code, exceptionTable := #[], attributes := #[] }
def k9m1 : Method := { name := "charAt", desc := "(I)C", sig := { parameters := [.int], returnType := some .char }, accessFlags := 1, code := some k9c1 }
def k9c2 : Code := { maxStack := 1, maxLocals := 1, code := jdk_42_method_154_code, exceptionTable := #[], attributes := #[] }
def k9m2 : Method := { name := "isLatin1", desc := "()Z", sig := { parameters := [], returnType := some .boolean }, accessFlags := 0, code := some k9c2 }
def k9c3 : Code := { maxStack := 3, maxLocals := 2, code := jdk_42_method_155_code, exceptionTable := #[], attributes := #[] }
def k9m3 : Method := { name := "checkIndex", desc := "(II)V", sig := { parameters := [.int, .int], returnType := none }, accessFlags := 8, code := some k9c3 }
/-- java/lang/String -/
def k9 : Class := { plain "java/lang/String" (some 0) with
  accessFlags := 49
  interfaces := #[4, 5, 6, 7, 8]
  cf := some (fileOf pool9 10 #[.nestMembers #[1103]] #[{ accessFlags := 1, nameIndex := 5, descriptorIndex := 6, attributes := #[] }, { accessFlags := 1, nameIndex := 497, descriptorIndex := 427, attributes := #[] }, { accessFlags := 0, nameIndex := 494, descriptorIndex := 142, attributes := #[] }, { accessFlags := 8, nameIndex := 501, descriptorIndex := 391, attributes := #[] }] 49 2 #[1106, 1108, 575, 1110, 1112] #[{ accessFlags := 18, nameIndex := 13, descriptorIndex := 14, attributes := #[] }, { accessFlags := 18, nameIndex := 17, descriptorIndex := 18, attributes := #[] }, { accessFlags := 2, nameIndex := 21, descriptorIndex := 22, attributes := #[] }, { accessFlags := 2, nameIndex := 25, descriptorIndex := 26, attributes := #[] }, { accessFlags := 26, nameIndex := 1116, descriptorIndex := 1117, attributes := #[] }, { accessFlags := 24, nameIndex := 40, descriptorIndex := 26, attributes := #[] }, { accessFlags := 26, nameIndex := 1101, descriptorIndex := 1102, attributes := #[] }, { accessFlags := 26, nameIndex := 1121, descriptorIndex := 1122, attributes := #[] }, { accessFlags := 25, nameIndex := 599, descriptorIndex := 600, attributes := #[] }, { accessFlags := 24, nameIndex := 1125, descriptorIndex := 18, attributes := #[] }, { accessFlags := 24, nameIndex := 1127, descriptorIndex := 18, attributes := #[] }])
  fields := #[{ name := "value", type := (.array .byte), accessFlags := 18, slot := 0, constantValue := 0 }, { name := "coder", type := .byte, accessFlags := 18, slot := 1, constantValue := 0 }, { name := "hash", type := .int, accessFlags := 2, slot := 2, constantValue := 0 }, { name := "hashIsZero", type := .boolean, accessFlags := 2, slot := 3, constantValue := 0 }, { name := "serialVersionUID", type := .long, accessFlags := 26, slot := 0, constantValue := 0 }, { name := "COMPACT_STRINGS", type := .boolean, accessFlags := 24, slot := 1, constantValue := 0 }, { name := "serialPersistentFields", type := (.array (.object "java/io/ObjectStreamField")), accessFlags := 26, slot := 2, constantValue := 0 }, { name := "REPL", type := .char, accessFlags := 26, slot := 3, constantValue := 0 }, { name := "CASE_INSENSITIVE_ORDER", type := (.object "java/util/Comparator"), accessFlags := 25, slot := 4, constantValue := 0 }, { name := "LATIN1", type := .byte, accessFlags := 24, slot := 5, constantValue := 0 }, { name := "UTF16", type := .byte, accessFlags := 24, slot := 6, constantValue := 0 }]
  methods := #[k9m0, k9m1, k9m2, k9m3]
  instanceTypes := #[(.array .byte), .byte, .int, .boolean]
  staticTypes := #[.long, .boolean, (.array (.object "java/io/ObjectStreamField")), .char, (.object "java/util/Comparator"), .byte, .byte]
  resolved := Array.replicate 1451 none
  statics := some 0 }

def pool10 : Array CpInfo := pool [(1, .class_ 2), (0, u "java/lang/String"), (1, .class_ 6), (1, u "java/lang/Object"), (0, u "<init>"), (0, u "()V"), (0, .methodref 1 10), (0, .nameAndType 11 12), (0, u "checkIndex"), (0, u "(II)V"), (1, .class_ 16), (1, u "java/lang/StringLatin1"), (36, u "([BI)C"), (67, u "$assertionsDisabled"), (0, u "Z"), (98, .class_ 223), (1, u "java/lang/StringLatin1$LinesSpliterator"), (28, u "charAt"), (137, .class_ 391), (0, u "java/lang/StringLatin1$CharsSpliterator")] 3

def k10m0 : Method := { name := "<init>", desc := "()V", sig := { parameters := [], returnType := none }, accessFlags := 0, code := none }
def k10c1 : Code := { maxStack := 2, maxLocals := 2, code := jdk_43_method_2_code, exceptionTable := #[], attributes := #[] }
def k10m1 : Method := { name := "charAt", desc := "([BI)C", sig := { parameters := [(.array .byte), .int], returnType := some .char }, accessFlags := 9, code := some k10c1 }
/-- java/lang/StringLatin1 -/
def k10 : Class := { plain "java/lang/StringLatin1" (some 0) with
  accessFlags := 48
  interfaces := #[]
  cf := some (fileOf pool10 14 #[.nestMembers #[390, 221]] #[{ accessFlags := 0, nameIndex := 7, descriptorIndex := 8, attributes := #[] }, { accessFlags := 9, nameIndex := 252, descriptorIndex := 53, attributes := #[] }] 48 4 #[] #[{ accessFlags := 4120, nameIndex := 121, descriptorIndex := 122, attributes := #[] }])
  fields := #[{ name := "$assertionsDisabled", type := .boolean, accessFlags := 4120, slot := 0, constantValue := 0 }]
  methods := #[k10m0, k10m1]
  instanceTypes := #[]
  staticTypes := #[.boolean]
  resolved := Array.replicate 395 none
  statics := none }

def pool11 : Array CpInfo := pool [(2, .class_ 4), (1, u "java/lang/Object"), (0, u "<init>"), (0, u "()V"), (17, .class_ 26), (1, u "jdk/internal/util/Preconditions"), (6, u "checkIndex"), (21, .class_ 56), (0, u "jdk/internal/util/Preconditions$4"), (57, .class_ 115), (0, u "jdk/internal/util/Preconditions$1"), (7, u "SIOOBE_FORMATTER"), (0, u "Ljava/util/function/BiFunction;"), (0, .class_ 126), (0, u "jdk/internal/util/Preconditions$2"), (3, u "AIOOBE_FORMATTER"), (0, .class_ 132), (0, u "jdk/internal/util/Preconditions$3"), (3, u "IOOBE_FORMATTER"), (41, u "(IILjava/util/function/BiFunction;)I")] 15

def k11m0 : Method := { name := "<init>", desc := "()V", sig := { parameters := [], returnType := none }, accessFlags := 1, code := none }
def k11c1 : Code := { maxStack := 3, maxLocals := 3, code := jdk_41_method_11_code, exceptionTable := #[], attributes := #[] }
def k11m1 : Method := { name := "checkIndex", desc := "(IILjava/util/function/BiFunction;)I", sig := { parameters := [.int, .int, (.object "java/util/function/BiFunction")], returnType := some .int }, accessFlags := 9, code := some k11c1 }
/-- jdk/internal/util/Preconditions -/
def k11 : Class := { plain "jdk/internal/util/Preconditions" (some 0) with
  accessFlags := 33
  interfaces := #[]
  cf := some (fileOf pool11 24 #[.nestMembers #[55, 131, 125, 114]] #[{ accessFlags := 1, nameIndex := 5, descriptorIndex := 6, attributes := #[] }, { accessFlags := 9, nameIndex := 33, descriptorIndex := 178, attributes := #[] }] 33 2 #[] #[{ accessFlags := 25, nameIndex := 123, descriptorIndex := 124, attributes := #[] }, { accessFlags := 25, nameIndex := 130, descriptorIndex := 124, attributes := #[] }, { accessFlags := 25, nameIndex := 136, descriptorIndex := 124, attributes := #[] }])
  fields := #[{ name := "SIOOBE_FORMATTER", type := (.object "java/util/function/BiFunction"), accessFlags := 25, slot := 0, constantValue := 0 }, { name := "AIOOBE_FORMATTER", type := (.object "java/util/function/BiFunction"), accessFlags := 25, slot := 1, constantValue := 0 }, { name := "IOOBE_FORMATTER", type := (.object "java/util/function/BiFunction"), accessFlags := 25, slot := 2, constantValue := 0 }]
  methods := #[k11m0, k11m1]
  instanceTypes := #[]
  staticTypes := #[(.object "java/util/function/BiFunction"), (.object "java/util/function/BiFunction"), (.object "java/util/function/BiFunction")]
  resolved := Array.replicate 194 none
  statics := some 1 }

def pool12 : Array CpInfo := pool [(9, u "<init>"), (6, .class_ 18), (1, u "java/lang/Object"), (0, u "()V"), (1, .class_ 23), (1, u "jdk/internal/util/ArraysSupport"), (0, u "LOG2_ARRAY_LONG_INDEX_SCALE"), (0, u "I"), (2, u "U"), (0, u "Ljdk/internal/misc/Unsafe;"), (8, u "BIG_ENDIAN"), (0, u "Z"), (8, u "LOG2_BYTE_BIT_SIZE"), (4, u "LOG2_ARRAY_INT_INDEX_SCALE"), (54, u "JLA"), (0, u "Ljdk/internal/access/JavaLangAccess;"), (11, u "LOG2_ARRAY_BOOLEAN_INDEX_SCALE"), (9, u "LOG2_ARRAY_BYTE_INDEX_SCALE"), (5, u "LOG2_ARRAY_CHAR_INDEX_SCALE"), (5, u "LOG2_ARRAY_SHORT_INDEX_SCALE"), (18, u "LOG2_ARRAY_FLOAT_INDEX_SCALE"), (24, u "LOG2_ARRAY_DOUBLE_INDEX_SCALE"), (89, u "T_BOOLEAN"), (2, u "T_CHAR"), (1, u "T_FLOAT"), (1, u "T_DOUBLE"), (1, u "T_BYTE"), (1, u "T_SHORT"), (1, u "T_INT"), (1, u "T_LONG"), (1, u "SOFT_MAX_ARRAY_LENGTH")] 83

def k12m0 : Method := { name := "<init>", desc := "()V", sig := { parameters := [], returnType := none }, accessFlags := 2, code := none }
/-- jdk/internal/util/ArraysSupport -/
def k12 : Class := { plain "jdk/internal/util/ArraysSupport" (some 0) with
  accessFlags := 33
  interfaces := #[]
  cf := some (fileOf pool12 21 #[] #[{ accessFlags := 2, nameIndex := 9, descriptorIndex := 19, attributes := #[] }] 33 16 #[] #[{ accessFlags := 24, nameIndex := 28, descriptorIndex := 29, attributes := #[] }, { accessFlags := 26, nameIndex := 38, descriptorIndex := 39, attributes := #[] }, { accessFlags := 25, nameIndex := 121, descriptorIndex := 25, attributes := #[] }, { accessFlags := 25, nameIndex := 131, descriptorIndex := 25, attributes := #[] }, { accessFlags := 25, nameIndex := 137, descriptorIndex := 25, attributes := #[] }, { accessFlags := 25, nameIndex := 143, descriptorIndex := 25, attributes := #[] }, { accessFlags := 25, nameIndex := 53, descriptorIndex := 25, attributes := #[] }, { accessFlags := 25, nameIndex := 24, descriptorIndex := 25, attributes := #[] }, { accessFlags := 25, nameIndex := 162, descriptorIndex := 25, attributes := #[] }, { accessFlags := 25, nameIndex := 187, descriptorIndex := 25, attributes := #[] }, { accessFlags := 26, nameIndex := 48, descriptorIndex := 25, attributes := #[] }, { accessFlags := 25, nameIndex := 277, descriptorIndex := 25, attributes := #[] }, { accessFlags := 25, nameIndex := 280, descriptorIndex := 25, attributes := #[] }, { accessFlags := 25, nameIndex := 282, descriptorIndex := 25, attributes := #[] }, { accessFlags := 25, nameIndex := 284, descriptorIndex := 25, attributes := #[] }, { accessFlags := 25, nameIndex := 286, descriptorIndex := 25, attributes := #[] }, { accessFlags := 25, nameIndex := 288, descriptorIndex := 25, attributes := #[] }, { accessFlags := 25, nameIndex := 290, descriptorIndex := 25, attributes := #[] }, { accessFlags := 25, nameIndex := 292, descriptorIndex := 25, attributes := #[] }, { accessFlags := 26, nameIndex := 108, descriptorIndex := 109, attributes := #[] }, { accessFlags := 25, nameIndex := 294, descriptorIndex := 25, attributes := #[] }])
  fields := #[{ name := "U", type := (.object "jdk/internal/misc/Unsafe"), accessFlags := 24, slot := 0, constantValue := 0 }, { name := "BIG_ENDIAN", type := .boolean, accessFlags := 26, slot := 1, constantValue := 0 }, { name := "LOG2_ARRAY_BOOLEAN_INDEX_SCALE", type := .int, accessFlags := 25, slot := 2, constantValue := 0 }, { name := "LOG2_ARRAY_BYTE_INDEX_SCALE", type := .int, accessFlags := 25, slot := 3, constantValue := 0 }, { name := "LOG2_ARRAY_CHAR_INDEX_SCALE", type := .int, accessFlags := 25, slot := 4, constantValue := 0 }, { name := "LOG2_ARRAY_SHORT_INDEX_SCALE", type := .int, accessFlags := 25, slot := 5, constantValue := 0 }, { name := "LOG2_ARRAY_INT_INDEX_SCALE", type := .int, accessFlags := 25, slot := 6, constantValue := 0 }, { name := "LOG2_ARRAY_LONG_INDEX_SCALE", type := .int, accessFlags := 25, slot := 7, constantValue := 0 }, { name := "LOG2_ARRAY_FLOAT_INDEX_SCALE", type := .int, accessFlags := 25, slot := 8, constantValue := 0 }, { name := "LOG2_ARRAY_DOUBLE_INDEX_SCALE", type := .int, accessFlags := 25, slot := 9, constantValue := 0 }, { name := "LOG2_BYTE_BIT_SIZE", type := .int, accessFlags := 26, slot := 10, constantValue := 0 }, { name := "T_BOOLEAN", type := .int, accessFlags := 25, slot := 11, constantValue := 0 }, { name := "T_CHAR", type := .int, accessFlags := 25, slot := 12, constantValue := 0 }, { name := "T_FLOAT", type := .int, accessFlags := 25, slot := 13, constantValue := 0 }, { name := "T_DOUBLE", type := .int, accessFlags := 25, slot := 14, constantValue := 0 }, { name := "T_BYTE", type := .int, accessFlags := 25, slot := 15, constantValue := 0 }, { name := "T_SHORT", type := .int, accessFlags := 25, slot := 16, constantValue := 0 }, { name := "T_INT", type := .int, accessFlags := 25, slot := 17, constantValue := 0 }, { name := "T_LONG", type := .int, accessFlags := 25, slot := 18, constantValue := 0 }, { name := "JLA", type := (.object "jdk/internal/access/JavaLangAccess"), accessFlags := 26, slot := 19, constantValue := 0 }, { name := "SOFT_MAX_ARRAY_LENGTH", type := .int, accessFlags := 25, slot := 20, constantValue := 0 }]
  methods := #[k12m0]
  instanceTypes := #[]
  staticTypes := #[(.object "jdk/internal/misc/Unsafe"), .boolean, .int, .int, .int, .int, .int, .int, .int, .int, .int, .int, .int, .int, .int, .int, .int, .int, .int, (.object "jdk/internal/access/JavaLangAccess"), .int]
  resolved := Array.replicate 378 none
  statics := none }

def pool13 : Array CpInfo := pool [(1, u "java/lang/Cloneable"), (0, .class_ 1), (0, u "java/lang/Object"), (0, .class_ 3)] 3

/-- java/lang/Cloneable -/
def k13 : Class := { plain "java/lang/Cloneable" (some 0) with
  accessFlags := 1537
  interfaces := #[]
  cf := some (fileOf pool13 2 #[] #[] 1537 4 #[] #[])
  fields := #[]
  methods := #[]
  instanceTypes := #[]
  staticTypes := #[]
  resolved := Array.replicate 8 none
  statics := none }

/-- the primitive byte -/
def k14 : Class := { plain "byte" none with kind := .primitive 'B', accessFlags := 0x411 }
/-- [B -/
def k15 : Class := { plain "[B" (some 0) with kind := .array 14 .byte, interfaces := #[13, 4], accessFlags := 1041 }

/-- the primitive int -/
def k16 : Class := { plain "int" none with kind := .primitive 'I', accessFlags := 0x411 }
/-- [I -/
def k17 : Class := { plain "[I" (some 0) with kind := .array 16 .int, interfaces := #[13, 4], accessFlags := 1041 }

def heap : Heap := #[{ cls := 9, slots := #[.long 0, .int 1, .null, .int 0, .null, .int 0, .int 0], vm := .statics 9 },
  { cls := 11, slots := #[.null, .null, .null], vm := .statics 11 }]
def classes : Array Class := #[k0, k1, k2, k3, k4, k5, k6, k7, k8, k9, k10, k11, k12, k13, k14, k15, k16, k17]
def interned : List (Array UInt16 × Addr) := []
def slotsUsed : Nat := 10
def theMethod : MethodId := ⟨1, 4⟩
def args0 : Array Value := #[.int 5, .int 300, .int 7, .int 8, .int 9]
def aboutOver (below : List Frame) : State where
  vm := { classes := classes, interned := interned.toArray }
  heap := heap
  slotsUsed := slotsUsed
  threads := #[{ frames := .invoking theMethod args0 :: below }]
def below0 : List Frame := [.native { method := ⟨0, 0⟩, args := #[] }]
def about1 : State := aboutOver below0
def p0 : Program := .bare "" "" ""
def e0 : Env := launch0.env 0 0 0
theorem w_frames : about1.frames = Frame.invoking theMethod args0 :: below0 := rfl
set_option maxRecDepth 65536 in
theorem w_args : argsFit about1.vm theMethod args0 = true := by decide +kernel
set_option maxRecDepth 65536 in
theorem w_heap : heapFits about1 = true := by decide +kernel
set_option maxRecDepth 65536 in
theorem w_runnable : about1.curStatus? = some .runnable := by decide +kernel
set_option maxRecDepth 65536 in
theorem w_alone : about1.alone = true := by decide +kernel
set_option maxRecDepth 65536 in
theorem w_named : about1.methodNamed? x = some theMethod := by decide +kernel
set_option maxRecDepth 65536 in
theorem w_hears : about1.hears theMethod below0 = true := by decide +kernel
set_option maxRecDepth 65536 in
theorem w_ripe : about1.ripe theMethod args0 below0 = true := by decide +kernel
theorem w_running : about1.status = .running := rfl
set_option maxRecDepth 65536 in
theorem w_room : about1.hasRoom e0.platform room_1 = true :=
  launch0.hasRoom_least _ room_1 (by decide +kernel) (by decide +kernel) (by decide +kernel) (by decide +kernel) (by decide +kernel) (by decide +kernel)
theorem allAtoms_all (ts : List Jvm.Cond) (a : Array Jvm.Value) (st : Jvm.State) : (allAtoms ts).before a st = ts.all (fun c => c.before a st) := by
  induction ts with
  | nil => rfl
  | cons c t ih =>
    show (Jvm.Cond.and c (allAtoms t)).before a st = _
    rw [Jvm.Cond.before_and, ih, List.all_cons]
def words1 : List Jvm.Cond := Jvm.Cond.code x code maxLocals ret :: tables_1
/-- a 'code' word, met by the world's own term for the bytes: nothing is compared byte by byte -/
theorem code_word {y : MethodName} {bytes : ByteArray} {mx : Nat} {rt : Option FieldType} {a : Array Value} {s : State} {m : MethodId} {meth : Method} {c : Code} (h1 : s.methodNamed? y = some m) (h2 : s.vm.method? m = some meth) (h3 : meth.code = some c) (h4 : c.code = bytes)
    (h5 : (c.maxLocals == mx && c.exceptionTable.isEmpty && decide (c.maxStack ≤ mostOperands) && decide (meth.sig.returnType = rt) && !meth.locks && decide (parseMethodDescriptor y.desc = some meth.sig)) = true) : (Jvm.Cond.code y bytes mx rt).before a s = true := by
  simp only [Bool.and_eq_true, beq_iff_eq, Bool.not_eq_true', decide_eq_true_eq] at h5
  obtain ⟨⟨⟨⟨⟨g1, g2⟩, g3⟩, g4⟩, g5⟩, g6⟩ := h5
  simp [Cond.before, Cond.holds, Cond.value, h1, h2, h3, h4, g1, g2, g3, g4, g5, g6]
def isCode : Jvm.Cond → Bool
  | .code _ _ _ _ => true
  | _ => false
theorem all_split {L : List Jvm.Cond} {P : Jvm.Cond → Bool} (h1 : L.all (fun c => isCode c || P c) = true) (h2 : ∀ c ∈ L.filter isCode, P c = true) : L.all P = true := by
  refine List.all_eq_true.mpr fun c hc => ?_
  have h := List.all_eq_true.mp h1 c hc
  rcases Bool.eq_false_or_eq_true (isCode c) with hi | hi
  · exact h2 c (List.mem_filter.mpr ⟨hc, hi⟩)
  · simpa [hi] using h
set_option maxRecDepth 65536 in
theorem w_c0 : (Jvm.Cond.code x code maxLocals ret).before args0 about1 = true := code_word (m := ⟨1, 4⟩) (meth := k1m4) (c := k1c4) (by decide +kernel) rfl rfl rfl (by decide +kernel)
set_option maxRecDepth 65536 in
theorem w_c1 : (Jvm.Cond.code ({ cls := "com/example/standbye/standbye/TextInputIsNamePinLaw", name := "pick", desc := "(I)B" } : Jvm.MethodName) method_2_code (1 : Nat) (Option.some Jvm.ClassFile.FieldType.byte)).before args0 about1 = true := code_word (m := ⟨1, 1⟩) (meth := k1m1) (c := k1c1) (by decide +kernel) rfl rfl rfl (by decide +kernel)
set_option maxRecDepth 65536 in
theorem w_c2 : (Jvm.Cond.code ({ cls := "com/example/standbye/standbye/TextInputIsNamePinLaw", name := "fine", desc := "(IIIB)Z" } : Jvm.MethodName) method_4_code (5 : Nat) (Option.some Jvm.ClassFile.FieldType.boolean)).before args0 about1 = true := code_word (m := ⟨1, 3⟩) (meth := k1m3) (c := k1c3) (by decide +kernel) rfl rfl rfl (by decide +kernel)
set_option maxRecDepth 65536 in
theorem w_c3 : (Jvm.Cond.code ({ cls := "com/example/standbye/standbye/TextInput", name := "isName", desc := "([BII)Z" } : Jvm.MethodName) prog_47_method_8_code (5 : Nat) (Option.some Jvm.ClassFile.FieldType.boolean)).before args0 about1 = true := code_word (m := ⟨3, 0⟩) (meth := k3m0) (c := k3c0) (by decide +kernel) rfl rfl rfl (by decide +kernel)
set_option maxRecDepth 65536 in
theorem w_c4 : (Jvm.Cond.code ({ cls := "java/lang/String", name := "charAt", desc := "(I)C" } : Jvm.MethodName) jdk_42_method_56_code (2 : Nat) (Option.some Jvm.ClassFile.FieldType.char)).before args0 about1 = true := code_word (m := ⟨9, 1⟩) (meth := k9m1) (c := k9c1) (by decide +kernel) rfl rfl rfl (by decide +kernel)
set_option maxRecDepth 65536 in
theorem w_c5 : (Jvm.Cond.code ({ cls := "java/lang/String", name := "isLatin1", desc := "()Z" } : Jvm.MethodName) jdk_42_method_154_code (1 : Nat) (Option.some Jvm.ClassFile.FieldType.boolean)).before args0 about1 = true := code_word (m := ⟨9, 2⟩) (meth := k9m2) (c := k9c2) (by decide +kernel) rfl rfl rfl (by decide +kernel)
set_option maxRecDepth 65536 in
theorem w_c6 : (Jvm.Cond.code ({ cls := "java/lang/StringLatin1", name := "charAt", desc := "([BI)C" } : Jvm.MethodName) jdk_43_method_2_code (2 : Nat) (Option.some Jvm.ClassFile.FieldType.char)).before args0 about1 = true := code_word (m := ⟨10, 1⟩) (meth := k10m1) (c := k10c1) (by decide +kernel) rfl rfl rfl (by decide +kernel)
set_option maxRecDepth 65536 in
theorem w_c7 : (Jvm.Cond.code ({ cls := "java/lang/String", name := "checkIndex", desc := "(II)V" } : Jvm.MethodName) jdk_42_method_155_code (2 : Nat) (Option.none : Option Jvm.ClassFile.FieldType)).before args0 about1 = true := code_word (m := ⟨9, 3⟩) (meth := k9m3) (c := k9c3) (by decide +kernel) rfl rfl rfl (by decide +kernel)
set_option maxRecDepth 65536 in
theorem w_c8 : (Jvm.Cond.code ({ cls := "jdk/internal/util/Preconditions", name := "checkIndex", desc := "(IILjava/util/function/BiFunction;)I" } : Jvm.MethodName) jdk_41_method_11_code (3 : Nat) (Option.some Jvm.ClassFile.FieldType.int)).before args0 about1 = true := code_word (m := ⟨11, 1⟩) (meth := k11m1) (c := k11c1) (by decide +kernel) rfl rfl rfl (by decide +kernel)
set_option maxRecDepth 65536 in
theorem w_c9 : (Jvm.Cond.code ({ cls := "com/example/standbye/standbye/TextInputIsNamePinLaw", name := "ok", desc := "(B)Z" } : Jvm.MethodName) method_3_code (2 : Nat) (Option.some Jvm.ClassFile.FieldType.boolean)).before args0 about1 = true := code_word (m := ⟨1, 2⟩) (meth := k1m2) (c := k1c2) (by decide +kernel) rfl rfl rfl (by decide +kernel)
def codes1 : List Jvm.Cond := [Jvm.Cond.code x code maxLocals ret, Jvm.Cond.code ({ cls := "com/example/standbye/standbye/TextInputIsNamePinLaw", name := "pick", desc := "(I)B" } : Jvm.MethodName) method_2_code (1 : Nat) (Option.some Jvm.ClassFile.FieldType.byte), Jvm.Cond.code ({ cls := "com/example/standbye/standbye/TextInputIsNamePinLaw", name := "fine", desc := "(IIIB)Z" } : Jvm.MethodName) method_4_code (5 : Nat) (Option.some Jvm.ClassFile.FieldType.boolean), Jvm.Cond.code ({ cls := "com/example/standbye/standbye/TextInput", name := "isName", desc := "([BII)Z" } : Jvm.MethodName) prog_47_method_8_code (5 : Nat) (Option.some Jvm.ClassFile.FieldType.boolean), Jvm.Cond.code ({ cls := "java/lang/String", name := "charAt", desc := "(I)C" } : Jvm.MethodName) jdk_42_method_56_code (2 : Nat) (Option.some Jvm.ClassFile.FieldType.char), Jvm.Cond.code ({ cls := "java/lang/String", name := "isLatin1", desc := "()Z" } : Jvm.MethodName) jdk_42_method_154_code (1 : Nat) (Option.some Jvm.ClassFile.FieldType.boolean), Jvm.Cond.code ({ cls := "java/lang/StringLatin1", name := "charAt", desc := "([BI)C" } : Jvm.MethodName) jdk_43_method_2_code (2 : Nat) (Option.some Jvm.ClassFile.FieldType.char), Jvm.Cond.code ({ cls := "java/lang/String", name := "checkIndex", desc := "(II)V" } : Jvm.MethodName) jdk_42_method_155_code (2 : Nat) (Option.none : Option Jvm.ClassFile.FieldType), Jvm.Cond.code ({ cls := "jdk/internal/util/Preconditions", name := "checkIndex", desc := "(IILjava/util/function/BiFunction;)I" } : Jvm.MethodName) jdk_41_method_11_code (3 : Nat) (Option.some Jvm.ClassFile.FieldType.int), Jvm.Cond.code ({ cls := "com/example/standbye/standbye/TextInputIsNamePinLaw", name := "ok", desc := "(B)Z" } : Jvm.MethodName) method_3_code (2 : Nat) (Option.some Jvm.ClassFile.FieldType.boolean)]
set_option maxRecDepth 65536 in
theorem codes_eq : words1.filter isCode = codes1 := rfl
theorem w_codes : ∀ c ∈ words1.filter isCode, c.before args0 about1 = true := by
  rw [codes_eq]
  intro c hc
  simp only [codes1, List.mem_cons, List.not_mem_nil, or_false] at hc
  rcases hc with rfl | rfl | rfl | rfl | rfl | rfl | rfl | rfl | rfl | rfl
  · exact w_c0
  · exact w_c1
  · exact w_c2
  · exact w_c3
  · exact w_c4
  · exact w_c5
  · exact w_c6
  · exact w_c7
  · exact w_c8
  · exact w_c9
set_option maxRecDepth 65536 in
theorem w_t1 : (words1.take 24).all (fun c => isCode c || c.before args0 about1) = true := by decide +kernel
set_option maxRecDepth 65536 in
theorem w_t2 : (words1.drop 24).all (fun c => isCode c || c.before args0 about1) = true := by decide +kernel
theorem w_tables : (allAtoms (Jvm.Cond.code x code maxLocals ret :: tables_1)).before args0 about1 = true := by
  rw [allAtoms_all]
  show words1.all (fun c => c.before args0 about1) = true
  refine all_split ?_ w_codes
  rw [← List.take_append_drop 24 words1, List.all_append, w_t1, w_t2]
  rfl
set_option maxRecDepth 65536 in
theorem w_rest : rest_1_c.before args0 about1 = true := by decide +kernel
set_option maxRecDepth 65536 in
theorem w_case : (Jvm.Cond.and given_1 narrow_1).before args0 about1 = true := by decide +kernel
set_option maxRecDepth 65536 in
theorem w_consts : constsHeld consts_1 about1 := Jvm.Lit.constsHeldB_iff.mp (by decide +kernel)
theorem w_applies : (headSpec (Jvm.Cond.code x code maxLocals ret :: tables_1) room_1).applies x e0.platform about1 = true :=
  (Spec.applies_iff w_frames).mpr ⟨w_running, w_runnable, w_alone, w_named, w_hears, w_ripe, w_room, w_tables⟩
theorem atStart : AtStart classFile x code maxLocals ret World_1 tables_1 room_1 Calls_1 rest_1 Pre_1 launch0 p0 e0 about1 theMethod args0 below0 :=
  ⟨lists_1, trivial, launch0.admits_env _ _ _, launch0.least_env, fairChoices_fair.cas, fairChoices_fair.clock, w_frames, w_args, w_heap, w_applies, ⟨w_consts, trivial⟩, w_rest, w_case⟩
end start1
theorem witness_1 : WitnessClaimed_1 := ⟨start1.p0, start1.e0, start1.about1, start1.theMethod, start1.args0, start1.below0, start1.atStart⟩
end Jvm.Pilot.@@N@@
