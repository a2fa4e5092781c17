import JvmDerived
import JvmDerived.Pilot.@@N@@Statement
import JvmDerived.Pilot.@@N@@Code
set_option linter.unusedVariables false
set_option linter.unusedSimpArgs false
namespace Jvm.RoadKit
open Sem ClassFile Op Lib Jvm.Stand Jvm.Free Jvm.LawKit
section New
variable {p : Program} {l : Launch} {e : Env} {R : Room} {s : State} {m : MethodId} {args : Array Value} {below : List Frame} {meth : Method} {c : Code} {T : State} {locs : List Loc} {cells slots : Nat}
theorem retI (X : Stand p l e R s m args below meth c T locs cells slots) (hx : p.tables.exec = Jvm.exec) {pc : Nat} {Ls : Array Slot} {z : Int32} {rest : List Value} (hret : meth.sig.returnType = some .int) (hd : decode c.code pc = .ok (.ireturn, 1)) {fs : List Frame}
    (hl : ∀ (f : JFrame) (acts : List Action), f.method = m → f.locked = none → f.entered = [] → (doReturn e (T.setTop f) acts (some (.int z))).1 = T.setFrames fs) : Steps p.tables e below (T.setTop (mkF m pc Ls (.int z :: rest))) (T.setFrames fs) := by
  have hm' : T.vm.method? m = some meth := X.method'
  have hn : narrow .int (.int z) = .int z := rfl
  show Steps p.tables e below (T.setTop { method := m, pc := pc, locals := Ls, stack := _ :: rest, locked := none }) _
  jvm_step X.here [X.here.top, hx, hd, hm', hret, hn]
  first | (intro acts; rw [hl _ acts rfl rfl rfl]) | rw [hl _ _ rfl rfl rfl]
  exact Steps.refl _
end New
end Jvm.RoadKit
namespace Jvm.Pilot.@@N@@
open Jvm Jvm.ClassFile Sem Op Lib Jvm.Free Jvm.Stand Jvm.LawKit Jvm.RoadKit Bundle Jvm.Pilot.@@N@@.Jvm.D
theorem own_staK {Z : State} {h h' : Heap} {ws : List Addr} {C n d : String} {v : Value} (F : Sta Z h C n d v) (K : Keep h h' ws) (q : ∀ x ∈ ws, ∀ c : Cell, h[x]? = some c → c.vm.isStatics = false) : Sta Z h' C n d v := by
  obtain ⟨cf, i, k, f, st, cell, h1, h2, h3, h4, h5, h6, h7⟩ := F
  exact ⟨cf, i, k, f, st, cell, h1, h2, h3, h4, K.2.1 st cell h5 (fun z => by have := q st z cell h5; rw [h6] at this; cases this), h6, h7⟩
theorem own_exaN {Z : State} {h : Heap} {a : Addr} {C : String} (E : Exa Z h a C) : ∀ c : Cell, h[a]? = some c → c.vm.isStatics = false := fun c hc => by
  obtain ⟨c', k, h1, -, -, h4, -⟩ := E
  cases h1.symm.trans hc; exact h4
theorem d2_0 : decode jdk_43_method_3_code 0 = .ok (.iload_n 0, 1) := by decide +kernel
theorem d2_1 : decode jdk_43_method_3_code 1 = .ok (.sipush 255, 3) := by decide +kernel
theorem d2_4 : decode jdk_43_method_3_code 4 = .ok (.if_icmp .gt 7, 3) := by decide +kernel
theorem d2_7 : decode jdk_43_method_3_code 7 = .ok (.iconst 1, 1) := by decide +kernel
theorem d2_8 : decode jdk_43_method_3_code 8 = .ok (.goto 4, 3) := by decide +kernel
theorem d2_11 : decode jdk_43_method_3_code 11 = .ok (.iconst 0, 1) := by decide +kernel
theorem d2_12 : decode jdk_43_method_3_code 12 = .ok (.ireturn, 1) := by decide +kernel
theorem pn_java_lang_StringLatin1 : plainName "java/lang/StringLatin1" = true := by first | (simp [plainName, overriddenIn]; done) | decide +kernel
theorem ef_2 (p0 : Int32)  (m : MethodId) : entryFrame m #[(.int p0)] 1 = mkF m 0 #[.val (.int p0)] [] := by first | (simp [entryFrame, mkF, argsToLocals, Value.category]; done) | rfl
def F2 (p0 : Int32) : Int32 := (if (255 : Int32) < p0 then (0 : Int32) else (1 : Int32))
def Q2 (Z : State) (p0 : Int32)  (h0 : Heap) (n0 : Nat) (v : Option Value) (h : Heap) (L : List Loc) : Prop := v = some (.int (F2 p0)) ∧ Fr n0 L ∧ h = h0
set_option maxRecDepth 65536 in
set_option maxHeartbeats 40000000 in
theorem rm2 (l : Launch) (Z : State) (a0 : Array Value) (hw : ∀ d ∈ tables_1, d.before a0 Z = true) (ws : List Jvm.Cond) (p0 : Int32)  (h0 : Heap) (n0 : Nat) (Z0 : n0 ≤ h0.size) :
    MetFree l (⟨"java/lang/StringLatin1", "canEncode", "(C)Z"⟩ : MethodName) (head1 (Jvm.Cond.code (⟨"java/lang/StringLatin1", "canEncode", "(C)Z"⟩ : MethodName) jdk_43_method_3_code 1 (some .boolean) :: ws) ({ frames := 0, cells := 0, slots := 0, locals := 0 } : Room)) (fun a U => a = #[(.int p0)] ∧ Z.Warmed39 U.vm ∧ U.heap = h0) (fun _ _ _ _ _ => True) (fun _ U o U' => ∃ v L, o = .returned v ∧ Q2 Z p0 h0 n0 v U'.heap L ∧ FrameEnd U o U' L ({ frames := 0, cells := 0, slots := 0, locals := 0 } : Room).cells ({ frames := 0, cells := 0, slots := 0, locals := 0 } : Room).slots) := by
  refine MetFree.of_bodySF (plainFor_of_name pn_java_lang_StringLatin1) hisR ?_
  intro p e s m args below meth c s₁ Bd hml0 hP hK
  obtain ⟨rfl, hZ, hh⟩ := hP
  have hx := Bd.exec
  have hby := Bd.bytes
  have hml : c.maxLocals = 1 := hml0
  have hown : s.vm.findClass "java/lang/StringLatin1" = some m.cls := findClass_of_methodNamed Bd.named
  have hnm := (name_of_methodNamed Bd.named Bd.method).1
  have X0 : Stand p l e ({ frames := 0, cells := 0, slots := 0, locals := 0 } : Room) s m #[(.int p0)] below meth c s₁ [] 0 0 := Stand.of_body Bd
  have e0 : s₁.heap = h0 := by rw [← hh, Bd.state]; rfl
  have N0 := Fr.nil n0
  have pre0 : ∀ t, Steps p.tables e below (s₁.setTop (mkF m 0 #[.val (.int p0)] [])) t → Steps p.tables e below (s₁.setTop (entryFrame m #[(.int p0)] 1)) t := fun t k => castTop (ef_2 p0 m) k
  have pre1 : ∀ t, Steps p.tables e below (s₁.setTop (mkF m 4 #[.val (.int p0)] [(.int (255 : Int32)), (.int p0)])) t → Steps p.tables e below (s₁.setTop (entryFrame m #[(.int p0)] 1)) t := fun t kt => pre0 t (by
    show Steps p.tables e below (s₁.setTop (mkF m 0 #[.val (.int p0)] [])) _
    refine XS.iloadN X0.here hx rfl (hb hby d2_0) rfl ?_
    show Steps p.tables e below (s₁.setTop (mkF m 1 #[.val (.int p0)] [(.int p0)])) _
    refine XS.sipush X0.here hx rfl (hb hby d2_1) ?_
    exact kt)
  by_cases hc4 : (255 : Int32) < p0
  · obtain ⟨fs, hr, hrun, hended, hW, hsame⟩ := X0.leave (v := some (.int (0 : Int32))) (fun h => by rw [Bd.returns] at h; cases h)
    refine ⟨_, _, pre1 _ ?_, hrun, hended, _, _, rfl, ?_, ⟨_, rfl⟩, hW, hsame.mono (by decide) (by decide)⟩
    · show Steps p.tables e below (s₁.setTop (mkF m 4 #[.val (.int p0)] [(.int (255 : Int32)), (.int p0)])) _
      refine XS.icmpYes X0.here hx rfl (pc0 := 4) (pc' := 11) rfl (hb hby d2_4) rfl (tlt hc4).2.2.1 (by decide) (by decide) ?_
      show Steps p.tables e below (s₁.setTop (mkF m 11 #[.val (.int p0)] [])) _
      refine XS.iconst X0.here hx rfl (hb hby d2_11) ?_
      show Steps p.tables e below (s₁.setTop (mkF m 12 #[.val (.int p0)] [(.int (0 : Int32))])) _
      exact retN X0 hx (t := .boolean) Bd.returns (by simp) (hb hby d2_12) hr
    · show Q2 Z p0 h0 n0 _ s₁.heap _
      rw [e0]
      exact ⟨(by unfold F2; simp only [if_pos hc4]), N0, rfl⟩
  · obtain ⟨fs, hr, hrun, hended, hW, hsame⟩ := X0.leave (v := some (.int (1 : Int32))) (fun h => by rw [Bd.returns] at h; cases h)
    refine ⟨_, _, pre1 _ ?_, hrun, hended, _, _, rfl, ?_, ⟨_, rfl⟩, hW, hsame.mono (by decide) (by decide)⟩
    · show Steps p.tables e below (s₁.setTop (mkF m 4 #[.val (.int p0)] [(.int (255 : Int32)), (.int p0)])) _
      refine XS.icmpNo X0.here hx rfl (hb hby d2_4) rfl (flt hc4).2.2.1 ?_
      show Steps p.tables e below (s₁.setTop (mkF m 7 #[.val (.int p0)] [])) _
      refine XS.iconst X0.here hx rfl (hb hby d2_7) ?_
      show Steps p.tables e below (s₁.setTop (mkF m 8 #[.val (.int p0)] [(.int (1 : Int32))])) _
      refine XS.goto X0.here hx rfl (pc0 := 8) (pc' := 12) rfl (hb hby d2_8) (by decide) (by decide) ?_
      show Steps p.tables e below (s₁.setTop (mkF m 12 #[.val (.int p0)] [(.int (1 : Int32))])) _
      exact retN X0 hx (t := .boolean) Bd.returns (by simp) (hb hby d2_12) hr
    · show Q2 Z p0 h0 n0 _ s₁.heap _
      rw [e0]
      exact ⟨(by unfold F2; simp only [if_neg hc4]), N0, rfl⟩
theorem d3_0 : decode jdk_43_method_46_code 0 = .ok (.iconst 1, 1) := by decide +kernel
theorem d3_1 : decode jdk_43_method_46_code 1 = .ok (.newarray .byte, 2) := by decide +kernel
theorem d3_3 : decode jdk_43_method_46_code 3 = .ok (.dup, 1) := by decide +kernel
theorem d3_4 : decode jdk_43_method_46_code 4 = .ok (.iconst 0, 1) := by decide +kernel
theorem d3_5 : decode jdk_43_method_46_code 5 = .ok (.iload_n 0, 1) := by decide +kernel
theorem d3_6 : decode jdk_43_method_46_code 6 = .ok (.i2b, 1) := by decide +kernel
theorem d3_7 : decode jdk_43_method_46_code 7 = .ok (.bastore, 1) := by decide +kernel
theorem d3_8 : decode jdk_43_method_46_code 8 = .ok (.areturn, 1) := by decide +kernel
theorem ef_3 (p0 : Int32)  (m : MethodId) : entryFrame m #[(.int p0)] 1 = mkF m 0 #[.val (.int p0)] [] := by first | (simp [entryFrame, mkF, argsToLocals, Value.category]; done) | rfl
def Q3 (Z : State) (p0 : Int32)  (h0 : Heap) (n0 : Nat) (v : Option Value) (h : Heap) (L : List Loc) : Prop := ∃ b : Addr, v = some (.ref b) ∧ Fr n0 L ∧ Keep h0 h [] ∧ h0.size ≤ b
set_option maxRecDepth 65536 in
set_option maxHeartbeats 40000000 in
theorem rm3 (l : Launch) (Z : State) (a0 : Array Value) (hw : ∀ d ∈ tables_1, d.before a0 Z = true) (ws : List Jvm.Cond) (p0 : Int32)  (h0 : Heap) (n0 : Nat) (Z0 : n0 ≤ h0.size) :
    MetFree l (⟨"java/lang/StringLatin1", "toBytes", "(C)[B"⟩ : MethodName) (head1 (Jvm.Cond.code (⟨"java/lang/StringLatin1", "toBytes", "(C)[B"⟩ : MethodName) jdk_43_method_46_code 1 (some (.array .byte)) :: ws) ({ frames := 0, cells := 1, slots := 1, locals := 0 } : Room)) (fun a U => a = #[(.int p0)] ∧ Z.Warmed39 U.vm ∧ U.heap = h0) (fun _ _ _ _ _ => True) (fun _ U o U' => ∃ v L, o = .returned v ∧ Q3 Z p0 h0 n0 v U'.heap L ∧ FrameEnd U o U' L ({ frames := 0, cells := 1, slots := 1, locals := 0 } : Room).cells ({ frames := 0, cells := 1, slots := 1, locals := 0 } : Room).slots) := by
  refine MetFree.of_bodySF (plainFor_of_name pn_java_lang_StringLatin1) hisR ?_
  intro p e s m args below meth c s₁ Bd hml0 hP hK
  obtain ⟨rfl, hZ, hh⟩ := hP
  have hx := Bd.exec
  have hby := Bd.bytes
  have hml : c.maxLocals = 1 := hml0
  have hown : s.vm.findClass "java/lang/StringLatin1" = some m.cls := findClass_of_methodNamed Bd.named
  have hnm := (name_of_methodNamed Bd.named Bd.method).1
  have X0 : Stand p l e ({ frames := 0, cells := 1, slots := 1, locals := 0 } : Room) s m #[(.int p0)] below meth c s₁ [] 0 0 := Stand.of_body Bd
  have e0 : s₁.heap = h0 := by rw [← hh, Bd.state]; rfl
  have N0 := Fr.nil n0
  have pre0 : ∀ t, Steps p.tables e below (s₁.setTop (mkF m 0 #[.val (.int p0)] [])) t → Steps p.tables e below (s₁.setTop (entryFrame m #[(.int p0)] 1)) t := fun t k => castTop (ef_3 p0 m) k
  obtain ⟨T1, h1, k1, X1, e1, E1, A1, st1⟩ := newP X0 hx hZ (hw _ (List.mem_of_getElem? (i := 14) rfl)) e0 (g := (mkF m 1 #[.val (.int p0)] [(.int (1 : Int32))])) rfl (hb hby d3_1) rfl (by decide) (cap := 1) (by decide) (by decide) (by decide) (by decide)
  obtain ⟨b1, g1⟩ : ∃ z, z = h0.size := ⟨_, rfl⟩
  rw [← g1] at A1 st1
  have g_b1 : n0 ≤ b1 := Nat.le_trans Z0 (Nat.le_of_eq g1.symm)
  have sz_b1 : h0.size ≤ b1 := Nat.le_trans (Keep.refl h0 []).1 (Nat.le_of_eq g1.symm)
  have V_b1 : Arv Z h1 b1 k1 .byte (1 : Int32) [(.int (0 : Int32))] (.int (0 : Int32)) := (Arv.new A1 (by decide)).pad (pad_rep [] (.int (0 : Int32)) 1)
  have K1 : Keep h0 h1 [] := (Keep.refl h0 []).ext E1
  obtain ⟨cl2, Ar2, qa2, S2, Nl2, H2, G2⟩ := id V_b1
  have hin2 : ¬ ((0 : Int32) < 0 ∨ cl2.slots.size ≤ ((0 : Int32)).toNatClampNeg) := inb_of S2 ⟨by decide, by decide⟩
  obtain ⟨T2, h2, X2, e2, W2, st2⟩ := stB X1 hx hZ e1 Ar2 (j := (0 : Int32)) hin2 (g := (mkF m 7 #[.val (.int p0)] [(.int (p0.toInt8.toInt32)), (.int (0 : Int32)), (.ref b1), (.ref b1)])) rfl rfl (hb hby d3_7)
  have V2 : Arv Z h2 b1 k1 .byte (1 : Int32) [(.int ((p0.toInt8.toInt32).toInt8.toInt32))] (.int (0 : Int32)) := Arv.set Ar2 qa2 S2 Nl2 H2 G2 (fits_nar_byte _) W2 0 rfl (Nat.le_of_ble_eq_true rfl)
  have K2 : Keep h0 h2 [] := K1.wr W2 (Or.inr sz_b1)
  have N2 := Fr.snoc X2 N0 g_b1
  obtain ⟨fs, hr, hrun, hended, hW, hsame⟩ := X2.leave (v := some (.ref b1)) (fun h => by rw [Bd.returns] at h; cases h)
  refine ⟨_, _, pre0 _ ?_, hrun, hended, _, _, rfl, ?_, ⟨_, rfl⟩, hW, hsame.mono (by decide) (by decide)⟩
  · show Steps p.tables e below (s₁.setTop (mkF m 0 #[.val (.int p0)] [])) _
    refine XS.iconst X0.here hx rfl (hb hby d3_0) ?_
    show Steps p.tables e below (s₁.setTop (mkF m 1 #[.val (.int p0)] [(.int (1 : Int32))])) _
    refine st1 _ ?_
    show Steps p.tables e below (T1.setTop (mkF m 3 #[.val (.int p0)] [(.ref b1)])) _
    refine XS.dup X1.here hx rfl (hb hby d3_3) rfl rfl ?_
    show Steps p.tables e below (T1.setTop (mkF m 4 #[.val (.int p0)] [(.ref b1), (.ref b1)])) _
    refine XS.iconst X1.here hx rfl (hb hby d3_4) ?_
    show Steps p.tables e below (T1.setTop (mkF m 5 #[.val (.int p0)] [(.int (0 : Int32)), (.ref b1), (.ref b1)])) _
    refine XS.iloadN X1.here hx rfl (hb hby d3_5) rfl ?_
    show Steps p.tables e below (T1.setTop (mkF m 6 #[.val (.int p0)] [(.int p0), (.int (0 : Int32)), (.ref b1), (.ref b1)])) _
    refine XS.i2b X1.here hx rfl (hb hby d3_6) rfl ?_
    show Steps p.tables e below (T1.setTop (mkF m 7 #[.val (.int p0)] [(.int (p0.toInt8.toInt32)), (.int (0 : Int32)), (.ref b1), (.ref b1)])) _
    refine st2 _ ?_
    show Steps p.tables e below (T2.setTop (mkF m 8 #[.val (.int p0)] [(.ref b1)])) _
    exact retOut X2 hx Bd.returns rfl (Or.inr (Or.inr (Or.inr (Or.inr ⟨rfl, rfl, rfl⟩)))) (hb hby d3_8) hr
  · show Q3 Z p0 h0 n0 _ T2.heap _
    rw [e2]
    exact ⟨b1, rfl, N2, K2, sz_b1⟩
theorem d4_0 : decode jdk_42_method_151_code 0 = .ok (.aload_n 0, 1) := by decide +kernel
theorem d4_1 : decode jdk_42_method_151_code 1 = .ok (.invokespecial 1, 3) := by decide +kernel
theorem d4_4 : decode jdk_42_method_151_code 4 = .ok (.aload_n 0, 1) := by decide +kernel
theorem d4_5 : decode jdk_42_method_151_code 5 = .ok (.aload_n 1, 1) := by decide +kernel
theorem d4_6 : decode jdk_42_method_151_code 6 = .ok (.putfield 9, 3) := by decide +kernel
theorem d4_9 : decode jdk_42_method_151_code 9 = .ok (.aload_n 0, 1) := by decide +kernel
theorem d4_10 : decode jdk_42_method_151_code 10 = .ok (.iload_n 2, 1) := by decide +kernel
theorem d4_11 : decode jdk_42_method_151_code 11 = .ok (.putfield 15, 3) := by decide +kernel
theorem d4_14 : decode jdk_42_method_151_code 14 = .ok (.return_, 1) := by decide +kernel
theorem pn_java_lang_String : plainName "java/lang/String" = true := by first | (simp [plainName, overriddenIn]; done) | decide +kernel
theorem ef_4 (r0 : Addr) (r1 : Addr) (p2 : Int32)  (m : MethodId) : entryFrame m #[(.ref r0), (.ref r1), (.int p2)] 3 = mkF m 0 #[.val (.ref r0), .val (.ref r1), .val (.int p2)] [] := by first | (simp [entryFrame, mkF, argsToLocals, Value.category]; done) | rfl
def Q4 (Z : State) (r0 : Addr) (r1 : Addr) (p2 : Int32)  (h0 : Heap) (n0 : Nat) (v : Option Value) (h : Heap) (L : List Loc) : Prop := v = none ∧ Fr n0 L ∧ Keep h0 h [r0] ∧ Exa Z h r0 "java/lang/String"
set_option maxRecDepth 65536 in
set_option maxHeartbeats 40000000 in
theorem rm4 (l : Launch) (Z : State) (a0 : Array Value) (hw : ∀ d ∈ tables_1, d.before a0 Z = true) (ws : List Jvm.Cond) (r0 : Addr) (r1 : Addr) (p2 : Int32)  (h0 : Heap) (n0 : Nat) (Z0 : n0 ≤ h0.size) (E_r : Exa Z h0 r0 "java/lang/String") (F_v : Fld Z h0 r0 "java/lang/String" "value" "[B" .null) (F_c : Fld Z h0 r0 "java/lang/String" "coder" "B" (.int (0 : Int32))) (g_r0 : n0 ≤ r0) :
    MetFree l (⟨"java/lang/String", "<init>", "([BB)V"⟩ : MethodName) (head1 (Jvm.Cond.code (⟨"java/lang/String", "<init>", "([BB)V"⟩ : MethodName) jdk_42_method_151_code 3 none :: ws) ({ frames := 1, cells := 0, slots := 0, locals := 12 } : Room)) (fun a U => a = #[(.ref r0), (.ref r1), (.int p2)] ∧ Z.Warmed39 U.vm ∧ U.heap = h0) (fun _ _ _ _ _ => True) (fun _ U o U' => ∃ v L, o = .returned v ∧ Q4 Z r0 r1 p2 h0 n0 v U'.heap L ∧ FrameEnd U o U' L ({ frames := 1, cells := 0, slots := 0, locals := 12 } : Room).cells ({ frames := 1, cells := 0, slots := 0, locals := 12 } : Room).slots) := by
  refine MetFree.of_bodySF (plainFor_of_name pn_java_lang_String) hisR ?_
  intro p e s m args below meth c s₁ Bd hml0 hP hK
  obtain ⟨rfl, hZ, hh⟩ := hP
  have hx := Bd.exec
  have hby := Bd.bytes
  have hml : c.maxLocals = 3 := hml0
  have hown : s.vm.findClass "java/lang/String" = some m.cls := findClass_of_methodNamed Bd.named
  have hnm := (name_of_methodNamed Bd.named Bd.method).1
  have X0 : Stand p l e ({ frames := 1, cells := 0, slots := 0, locals := 12 } : Room) s m #[(.ref r0), (.ref r1), (.int p2)] below meth c s₁ [] 0 0 := Stand.of_body Bd
  have e0 : s₁.heap = h0 := by rw [← hh, Bd.state]; rfl
  have N0 := Fr.nil n0
  have pre0 : ∀ t, Steps p.tables e below (s₁.setTop (mkF m 0 #[.val (.ref r0), .val (.ref r1), .val (.int p2)] [])) t → Steps p.tables e below (s₁.setTop (entryFrame m #[(.ref r0), (.ref r1), (.int p2)] 3)) t := fun t k => castTop (ef_4 r0 r1 p2 m) k
  obtain ⟨T1, X1, e1, st1⟩ := initO X0 hx hZ hown (hw _ (List.mem_of_getElem? (i := 19) rfl)) (hw _ (List.mem_of_getElem? (i := 20) rfl)) (hw _ (List.mem_of_getElem? (i := 21) rfl)) e0 (g := (mkF m 1 #[.val (.ref r0), .val (.ref r1), .val (.int p2)] [(.ref r0)])) rfl (by rw [hml]; rfl) rfl (hb hby d4_1) (by decide) (W := 0) (by show 2 * 0 + _ ≤ _; exact Nat.le_of_eq rfl) (by decide)
  obtain ⟨T2, h2, X2, e2, W2, st2⟩ := putF X1 hx hZ hown (host := "") (Or.inl (hw _ (List.mem_of_getElem? (i := 22) rfl))) Via.refl e1 F_v E_r (Or.inr ⟨(hw _ (List.mem_of_getElem? (i := 23) rfl)), rfl, hnm⟩) (hw _ (List.mem_of_getElem? (i := 10) rfl)) (ty := (.array .byte)) (by decide) rfl rfl (g := (mkF m 6 #[.val (.ref r0), .val (.ref r1), .val (.int p2)] [(.ref r1), (.ref r0)])) rfl rfl (hb hby d4_6)
  have Fw2 : Fld Z h2 r0 "java/lang/String" "value" "[B" (.ref r1) := Fld.same W2 F_v
  have K2 : Keep h0 h2 [r0] := (Keep.refl h0 [r0]).wr W2 (Or.inl (List.mem_of_getElem? (i := 0) rfl))
  have N2 := Fr.snoc X2 N0 g_r0
  obtain ⟨T3, h3, X3, e3, W3, st3⟩ := putFN X2 hx hZ hown (hw _ (List.mem_of_getElem? (i := 24) rfl)) Via.refl e2 (Fld.other W2 F_c (Or.inr (slot_ne (Or.inr (hw _ (List.mem_of_getElem? (i := 25) rfl))) (Or.inr (hw _ (List.mem_of_getElem? (i := 23) rfl))) (by decide) (t := .byte) (t' := (.array .byte)) (by decide) (by decide)))) (Exa.wr W2 E_r) (Or.inr ⟨(hw _ (List.mem_of_getElem? (i := 25) rfl)), rfl, hnm⟩) (hw _ (List.mem_of_getElem? (i := 10) rfl)) (ty := .byte) (v' := (.int (nar .byte p2))) (by decide) rfl (fits_nar_byte _) (g := (mkF m 11 #[.val (.ref r0), .val (.ref r1), .val (.int p2)] [(.int p2), (.ref r0)])) rfl rfl (hb hby d4_11)
  have Fw3 : Fld Z h3 r0 "java/lang/String" "coder" "B" (.int (nar .byte p2)) := Fld.same W3 (Fld.other W2 F_c (Or.inr (slot_ne (Or.inr (hw _ (List.mem_of_getElem? (i := 25) rfl))) (Or.inr (hw _ (List.mem_of_getElem? (i := 23) rfl))) (by decide) (t := .byte) (t' := (.array .byte)) (by decide) (by decide))))
  have K3 : Keep h0 h3 [r0] := K2.wr W3 (Or.inl (List.mem_of_getElem? (i := 0) rfl))
  have N3 := Fr.snoc X3 N2 g_r0
  obtain ⟨fs, hr, hrun, hended, hW, hsame⟩ := X3.leave (v := none) (fun _ => rfl)
  refine ⟨_, _, pre0 _ ?_, hrun, hended, _, _, rfl, ?_, ⟨_, rfl⟩, hW, hsame.mono (by decide) (by decide)⟩
  · show Steps p.tables e below (s₁.setTop (mkF m 0 #[.val (.ref r0), .val (.ref r1), .val (.int p2)] [])) _
    refine XS.aloadN X0.here hx rfl (hb hby d4_0) rfl rfl ?_
    show Steps p.tables e below (s₁.setTop (mkF m 1 #[.val (.ref r0), .val (.ref r1), .val (.int p2)] [(.ref r0)])) _
    refine st1 _ ?_
    show Steps p.tables e below (T1.setTop (mkF m 4 #[.val (.ref r0), .val (.ref r1), .val (.int p2)] [])) _
    refine XS.aloadN X1.here hx rfl (hb hby d4_4) rfl rfl ?_
    show Steps p.tables e below (T1.setTop (mkF m 5 #[.val (.ref r0), .val (.ref r1), .val (.int p2)] [(.ref r0)])) _
    refine XS.aloadN X1.here hx rfl (hb hby d4_5) rfl rfl ?_
    show Steps p.tables e below (T1.setTop (mkF m 6 #[.val (.ref r0), .val (.ref r1), .val (.int p2)] [(.ref r1), (.ref r0)])) _
    refine st2 _ ?_
    show Steps p.tables e below (T2.setTop (mkF m 9 #[.val (.ref r0), .val (.ref r1), .val (.int p2)] [])) _
    refine XS.aloadN X2.here hx rfl (hb hby d4_9) rfl rfl ?_
    show Steps p.tables e below (T2.setTop (mkF m 10 #[.val (.ref r0), .val (.ref r1), .val (.int p2)] [(.ref r0)])) _
    refine XS.iloadN X2.here hx rfl (hb hby d4_10) rfl ?_
    show Steps p.tables e below (T2.setTop (mkF m 11 #[.val (.ref r0), .val (.ref r1), .val (.int p2)] [(.int p2), (.ref r0)])) _
    refine st3 _ ?_
    show Steps p.tables e below (T3.setTop (mkF m 14 #[.val (.ref r0), .val (.ref r1), .val (.int p2)] [])) _
    exact X3.returnOut hx Bd.returns (hb hby d4_14) hr
  · show Q4 Z r0 r1 p2 h0 n0 _ T3.heap _
    rw [e3]
    exact ⟨rfl, N3, K3, (Exa.wr W3 (Exa.wr W2 E_r))⟩
theorem d1_0 : decode jdk_42_method_139_code 0 = .ok (.getstatic 38, 3) := by decide +kernel
theorem d1_3 : decode jdk_42_method_139_code 3 = .ok (.ifCond .eq 23, 3) := by decide +kernel
theorem d1_6 : decode jdk_42_method_139_code 6 = .ok (.iload_n 0, 1) := by decide +kernel
theorem d1_7 : decode jdk_42_method_139_code 7 = .ok (.invokestatic 1015, 3) := by decide +kernel
theorem d1_10 : decode jdk_42_method_139_code 10 = .ok (.ifCond .eq 16, 3) := by decide +kernel
theorem d1_13 : decode jdk_42_method_139_code 13 = .ok (.new 10, 3) := by decide +kernel
theorem d1_16 : decode jdk_42_method_139_code 16 = .ok (.dup, 1) := by decide +kernel
theorem d1_17 : decode jdk_42_method_139_code 17 = .ok (.iload_n 0, 1) := by decide +kernel
theorem d1_18 : decode jdk_42_method_139_code 18 = .ok (.invokestatic 1018, 3) := by decide +kernel
theorem d1_21 : decode jdk_42_method_139_code 21 = .ok (.iconst 0, 1) := by decide +kernel
theorem d1_22 : decode jdk_42_method_139_code 22 = .ok (.invokespecial 209, 3) := by decide +kernel
theorem d1_25 : decode jdk_42_method_139_code 25 = .ok (.areturn, 1) := by decide +kernel
theorem pd__C_Z : parseMethodDescriptor "(C)Z" = some ⟨[.char], some .boolean⟩ := by decide +kernel
theorem pd__C__B : parseMethodDescriptor "(C)[B" = some ⟨[.char], some (.array .byte)⟩ := by decide +kernel
theorem pd___BB_V : parseMethodDescriptor "([BB)V" = some ⟨[(.array .byte), .byte], none⟩ := by decide +kernel
theorem ef_1 (p0 : Int32) (wc : Int32) (m : MethodId) : entryFrame m #[(.int p0)] 1 = mkF m 0 #[.val (.int p0)] [] := by first | (simp [entryFrame, mkF, argsToLocals, Value.category]; done) | rfl
def Q1 (Z : State) (p0 : Int32) (wc : Int32) (h0 : Heap) (n0 : Nat) (v : Option Value) (h : Heap) (L : List Loc) : Prop := ∃ b : Addr, v = some (.ref b) ∧ Fr n0 L ∧ Keep h0 h [] ∧ h0.size ≤ b ∧ Exa Z h b "java/lang/String"
set_option maxRecDepth 65536 in
set_option maxHeartbeats 40000000 in
theorem rm1 (l : Launch) (Z : State) (a0 : Array Value) (hw : ∀ d ∈ tables_1, d.before a0 Z = true) (ws : List Jvm.Cond) (p0 : Int32) (wc : Int32) (h0 : Heap) (n0 : Nat) (Z0 : n0 ≤ h0.size) (S_c : Sta Z h0 "java/lang/String" "COMPACT_STRINGS" "Z" (.int wc)) (hwc : ¬ (wc = (0 : Int32))) (hp : ¬ ((255 : Int32) < p0)) :
    MetFree l (⟨"java/lang/String", "valueOf", "(C)Ljava/lang/String;"⟩ : MethodName) (head1 (Jvm.Cond.code (⟨"java/lang/String", "valueOf", "(C)Ljava/lang/String;"⟩ : MethodName) jdk_42_method_139_code 1 (some (.object "java/lang/String")) :: ws) ({ frames := 2, cells := 2, slots := 5, locals := 27 } : Room)) (fun a U => a = #[(.int p0)] ∧ Z.Warmed39 U.vm ∧ U.heap = h0) (fun _ _ _ _ _ => True) (fun _ U o U' => ∃ v L, o = .returned v ∧ Q1 Z p0 wc h0 n0 v U'.heap L ∧ FrameEnd U o U' L ({ frames := 2, cells := 2, slots := 5, locals := 27 } : Room).cells ({ frames := 2, cells := 2, slots := 5, locals := 27 } : Room).slots) := by
  refine MetFree.of_bodySF (plainFor_of_name pn_java_lang_String) hisR ?_
  intro p e s m args below meth c s₁ Bd hml0 hP hK
  obtain ⟨rfl, hZ, hh⟩ := hP
  have hx := Bd.exec
  have hby := Bd.bytes
  have hml : c.maxLocals = 1 := hml0
  have hown : s.vm.findClass "java/lang/String" = some m.cls := findClass_of_methodNamed Bd.named
  have hnm := (name_of_methodNamed Bd.named Bd.method).1
  have X0 : Stand p l e ({ frames := 2, cells := 2, slots := 5, locals := 27 } : Room) s m #[(.int p0)] below meth c s₁ [] 0 0 := Stand.of_body Bd
  have e0 : s₁.heap = h0 := by rw [← hh, Bd.state]; rfl
  have N0 := Fr.nil n0
  have pre0 : ∀ t, Steps p.tables e below (s₁.setTop (mkF m 0 #[.val (.int p0)] [])) t → Steps p.tables e below (s₁.setTop (entryFrame m #[(.int p0)] 1)) t := fun t k => castTop (ef_1 p0 wc m) k
  obtain ⟨T1, X1, e1, st1⟩ := getS2 X0 hx hZ hown (host := "") (Or.inl (hw _ (List.mem_of_getElem? (i := 4) rfl))) Via.refl e0 S_c (g := (mkF m 0 #[.val (.int p0)] [])) rfl (hb hby d1_0)
  obtain ⟨_, _, ⟨T2, L2, k2, n2⟩, -, X2, ⟨Lc2, hQ2, ll2, ly2, lz2⟩, st2⟩ := Jvm.LawKit.callS X1 hx (y := (⟨"java/lang/StringLatin1", "canEncode", "(C)Z"⟩ : MethodName)) hown (mvT hZ (hw _ (List.mem_of_getElem? (i := 5) rfl))) (mvT hZ (hw _ (List.mem_of_getElem? (i := 6) rfl))) (mvT hZ (hw _ (List.mem_of_getElem? (i := 7) rfl))) (mvT hZ (hw _ (List.mem_of_getElem? (i := 8) rfl))) (by decide) (backOf (W := 0) (rm2 l Z a0 hw [] p0 h0 n0 Z0 ) hZ (hw _ (List.mem_of_getElem? (i := 8) rfl)) (hw _ (List.mem_of_getElem? (i := 7) rfl)) (by decide) (by decide)) (g := (mkF m 7 #[.val (.int p0)] [(.int p0)])) rfl (by rw [hml]; rfl) (argsL := [(.int p0)]) (rest := []) (lenOf pd__C_Z rfl) rfl (by show 2 * 0 + _ ≤ _; exact Nat.le_of_eq rfl) (hb hby d1_7) (fun _ _ => ⟨rfl, e1, (by decide : 0 + 0 ≤ _), (by decide : 0 + 0 ≤ _)⟩)
  dsimp only [Pt.U, Pt.locs, Pt.cells, Pt.slots] at X2 ll2 ly2 lz2 st2 hQ2
  subst ll2 ly2 lz2
  obtain ⟨rfl, N2q, e2⟩ := hQ2
  have N2 := Fr.app N0 N2q
  have hc10 : ¬ ((F2 p0) = (0 : Int32)) := by unfold F2; rw [if_neg hp]; decide
  obtain ⟨T3, h3, X3, e3, E3, A3, D3, U3, st3⟩ := newO X2 hx hZ hown (hw _ (List.mem_of_getElem? (i := 9) rfl)) (hw _ (List.mem_of_getElem? (i := 10) rfl)) (hw _ (List.mem_of_getElem? (i := 2) rfl)) e2 (g := (mkF m 13 #[.val (.int p0)] [])) rfl (hb hby d1_13) (by decide) (by decide)
  obtain ⟨b3, g3⟩ : ∃ z, z = h0.size := ⟨_, rfl⟩
  rw [← g3] at A3 D3 st3
  have g_b3 : n0 ≤ b3 := Nat.le_trans Z0 (Nat.le_of_eq g3.symm)
  have sz_b3 : h0.size ≤ b3 := Nat.le_trans (Keep.refl h0 []).1 (Nat.le_of_eq g3.symm)
  have K3 : Keep h0 h3 [] := (Keep.refl h0 []).ext E3
  have F_value_b3 : Fld Z h3 b3 "java/lang/String" "value" "[B" .null := D3 (Or.inr (hw _ (List.mem_of_getElem? (i := 23) rfl))) (ty := (.array .byte)) (by decide)
  have F_coder_b3 : Fld Z h3 b3 "java/lang/String" "coder" "B" (.int (0 : Int32)) := D3 (Or.inr (hw _ (List.mem_of_getElem? (i := 25) rfl))) (ty := .byte) (by decide)
  obtain ⟨_, _, ⟨T4, L4, k4, n4⟩, -, X4, ⟨Lc4, hQ4, ll4, ly4, lz4⟩, st4⟩ := Jvm.LawKit.callS X3 hx (y := (⟨"java/lang/StringLatin1", "toBytes", "(C)[B"⟩ : MethodName)) hown (mvT hZ (hw _ (List.mem_of_getElem? (i := 11) rfl))) (mvT hZ (hw _ (List.mem_of_getElem? (i := 12) rfl))) (mvT hZ (hw _ (List.mem_of_getElem? (i := 7) rfl))) (mvT hZ (hw _ (List.mem_of_getElem? (i := 13) rfl))) (by decide) (backOf (W := 2) (rm3 l Z a0 hw [] p0 h3 n0 (Nat.le_trans Z0 E3.1) ) hZ (hw _ (List.mem_of_getElem? (i := 13) rfl)) (hw _ (List.mem_of_getElem? (i := 7) rfl)) (by decide) (by decide)) (g := (mkF m 18 #[.val (.int p0)] [(.int p0), (.ref b3), (.ref b3)])) rfl (by rw [hml]; rfl) (argsL := [(.int p0)]) (rest := [(.ref b3), (.ref b3)]) (lenOf pd__C__B rfl) rfl (by show 2 * 0 + _ ≤ _; exact Nat.le_of_eq rfl) (hb hby d1_18) (fun _ _ => ⟨rfl, e3, (by decide : 1 + 1 ≤ _), (by decide : 4 + 1 ≤ _)⟩)
  dsimp only [Pt.U, Pt.locs, Pt.cells, Pt.slots] at X4 ll4 ly4 lz4 st4 hQ4
  subst ll4 ly4 lz4
  obtain ⟨b4, rfl, N4q, K4c, u4⟩ := hQ4
  have ne5 : b3 ≠ b4 := Nat.ne_of_lt (Nat.lt_of_lt_of_le A3.lt u4)
  have g_b4 : n0 ≤ b4 := Nat.le_trans (Nat.le_trans Z0 E3.1) u4
  have sz_b4 : h0.size ≤ b4 := Nat.le_trans K3.1 u4
  have N4 := Fr.app N2 N4q
  have K4 : Keep h0 T4.heap [] := K3.trans K4c all0
  obtain ⟨_, _, ⟨T6, L6, k6, n6⟩, -, X6, ⟨Lc6, hQ6, ll6, ly6, lz6⟩, st6⟩ := X4.specialBack hx (y := (⟨"java/lang/String", "<init>", "([BB)V"⟩ : MethodName)) rfl hown (mvT hZ (hw _ (List.mem_of_getElem? (i := 15) rfl))) (mvT hZ (hw _ (List.mem_of_getElem? (i := 16) rfl))) (mvT hZ (hw _ (List.mem_of_getElem? (i := 18) rfl))) (by decide) (backOf (W := 1) (rm4 l Z a0 hw [] b3 b4 (0 : Int32) T4.heap n0 (Nat.le_trans (Nat.le_trans Z0 E3.1) K4c.1) (Exa.keep A3 K4c) (F_value_b3.keep K4c nin0) (F_coder_b3.keep K4c nin0) g_b3) hZ (hw _ (List.mem_of_getElem? (i := 18) rfl)) (hw _ (List.mem_of_getElem? (i := 2) rfl)) (by decide) (by decide)) (g := (mkF m 22 #[.val (.int p0)] [(.int (0 : Int32)), (.ref b4), (.ref b3), (.ref b3)])) rfl (by rw [hml]; rfl) (Steps.refl _) (a := b3) (argsL := [(.ref b4), (.int (0 : Int32))]) (rest := [(.ref b3)]) (lenOf pd___BB_V rfl) rfl (by show 2 * 0 + _ ≤ _; exact Nat.le_of_eq rfl) (hb hby d1_22) (fun _ _ => ⟨rfl, (rfl : T4.heap = T4.heap), (by decide : 2 + 0 ≤ _), (by decide : 5 + 0 ≤ _)⟩)
  dsimp only [Pt.U, Pt.locs, Pt.cells, Pt.slots] at X6 ll6 ly6 lz6 st6 hQ6
  subst ll6 ly6 lz6
  obtain ⟨rfl, N6q, K6c, P6_0⟩ := hQ6
  have N6 := Fr.app N4 N6q
  have K6 : Keep h0 T6.heap [] := K4.trans K6c (allS (Or.inr sz_b3) all0)
  obtain ⟨fs, hr, hrun, hended, hW, hsame⟩ := X6.leave (v := some (.ref b3)) (fun h => by rw [Bd.returns] at h; cases h)
  refine ⟨_, _, pre0 _ ?_, hrun, hended, _, _, rfl, ?_, ⟨_, rfl⟩, hW, hsame.mono (by decide) (by decide)⟩
  · show Steps p.tables e below (s₁.setTop (mkF m 0 #[.val (.int p0)] [])) _
    refine st1 _ ?_
    show Steps p.tables e below (T1.setTop (mkF m 3 #[.val (.int p0)] [(.int wc)])) _
    refine XS.ifNo X1.here hx rfl (hb hby d1_3) rfl ((if0 _ _).trans (feq hwc).1) ?_
    show Steps p.tables e below (T1.setTop (mkF m 6 #[.val (.int p0)] [])) _
    refine XS.iloadN X1.here hx rfl (hb hby d1_6) rfl ?_
    show Steps p.tables e below (T1.setTop (mkF m 7 #[.val (.int p0)] [(.int p0)])) _
    refine st2 _ ?_
    show Steps p.tables e below (T2.setTop (mkF m 10 #[.val (.int p0)] [(.int (F2 p0))])) _
    refine XS.ifNo X2.here hx rfl (hb hby d1_10) rfl ((if0 _ _).trans (feq hc10).1) ?_
    show Steps p.tables e below (T2.setTop (mkF m 13 #[.val (.int p0)] [])) _
    refine st3 _ ?_
    show Steps p.tables e below (T3.setTop (mkF m 16 #[.val (.int p0)] [(.ref b3)])) _
    refine XS.dup X3.here hx rfl (hb hby d1_16) rfl rfl ?_
    show Steps p.tables e below (T3.setTop (mkF m 17 #[.val (.int p0)] [(.ref b3), (.ref b3)])) _
    refine XS.iloadN X3.here hx rfl (hb hby d1_17) rfl ?_
    show Steps p.tables e below (T3.setTop (mkF m 18 #[.val (.int p0)] [(.int p0), (.ref b3), (.ref b3)])) _
    refine st4 _ ?_
    show Steps p.tables e below (T4.setTop (mkF m 21 #[.val (.int p0)] [(.ref b4), (.ref b3), (.ref b3)])) _
    refine XS.iconst X4.here hx rfl (hb hby d1_21) ?_
    show Steps p.tables e below (T4.setTop (mkF m 22 #[.val (.int p0)] [(.int (0 : Int32)), (.ref b4), (.ref b3), (.ref b3)])) _
    refine st6.trans ?_
    show Steps p.tables e below (T6.setTop (mkF m 25 #[.val (.int p0)] [(.ref b3)])) _
    exact retOut X6 hx Bd.returns rfl (Or.inr (Or.inr (Or.inr (Or.inr ⟨rfl, rfl, rfl⟩)))) (hb hby d1_25) hr
  · show Q1 Z p0 wc h0 n0 _ T6.heap _
    rw [(rfl : T6.heap = T6.heap)]
    exact ⟨b3, rfl, N6, K6, sz_b3, P6_0⟩
theorem own_c (x m : Int32) (h0 : 0 ≤ m.toInt) (h1 : m.toInt ≤ 255) : ¬ ((255 : Int32) < (x &&& m).toUInt32.toUInt16.toUInt32.toInt32) := by
  have a := c_and x m h0
  have b := c_i2c (x &&& m)
  rw [Int32.lt_iff_toInt_lt]
  have e : (255 : Int32).toInt = 255 := by decide
  omega
theorem d7_0 : decode jdk_30_method_1_code 0 = .ok (.aload_n 0, 1) := by decide +kernel
theorem d7_1 : decode jdk_30_method_1_code 1 = .ok (.invokespecial 1, 3) := by decide +kernel
theorem d7_4 : decode jdk_30_method_1_code 4 = .ok (.return_, 1) := by decide +kernel
theorem pn_java_lang_Record : plainName "java/lang/Record" = true := by first | (simp [plainName, overriddenIn]; done) | decide +kernel
theorem ef_7 (r0 : Addr)  (m : MethodId) : entryFrame m #[(.ref r0)] 1 = mkF m 0 #[.val (.ref r0)] [] := by first | (simp [entryFrame, mkF, argsToLocals, Value.category]; done) | rfl
def Q7 (Z : State) (r0 : Addr)  (h0 : Heap) (n0 : Nat) (v : Option Value) (h : Heap) (L : List Loc) : Prop := v = none ∧ Fr n0 L ∧ h = h0
set_option maxRecDepth 65536 in
set_option maxHeartbeats 40000000 in
theorem rm7 (l : Launch) (Z : State) (a0 : Array Value) (hw : ∀ d ∈ tables_1, d.before a0 Z = true) (ws : List Jvm.Cond) (r0 : Addr)  (h0 : Heap) (n0 : Nat) (Z0 : n0 ≤ h0.size) :
    MetFree l (⟨"java/lang/Record", "<init>", "()V"⟩ : MethodName) (head1 (Jvm.Cond.code (⟨"java/lang/Record", "<init>", "()V"⟩ : MethodName) jdk_30_method_1_code 1 none :: ws) ({ frames := 1, cells := 0, slots := 0, locals := 12 } : Room)) (fun a U => a = #[(.ref r0)] ∧ Z.Warmed39 U.vm ∧ U.heap = h0) (fun _ _ _ _ _ => True) (fun _ U o U' => ∃ v L, o = .returned v ∧ Q7 Z r0 h0 n0 v U'.heap L ∧ FrameEnd U o U' L ({ frames := 1, cells := 0, slots := 0, locals := 12 } : Room).cells ({ frames := 1, cells := 0, slots := 0, locals := 12 } : Room).slots) := by
  refine MetFree.of_bodySF (plainFor_of_name pn_java_lang_Record) hisR ?_
  intro p e s m args below meth c s₁ Bd hml0 hP hK
  obtain ⟨rfl, hZ, hh⟩ := hP
  have hx := Bd.exec
  have hby := Bd.bytes
  have hml : c.maxLocals = 1 := hml0
  have hown : s.vm.findClass "java/lang/Record" = some m.cls := findClass_of_methodNamed Bd.named
  have hnm := (name_of_methodNamed Bd.named Bd.method).1
  have X0 : Stand p l e ({ frames := 1, cells := 0, slots := 0, locals := 12 } : Room) s m #[(.ref r0)] below meth c s₁ [] 0 0 := Stand.of_body Bd
  have e0 : s₁.heap = h0 := by rw [← hh, Bd.state]; rfl
  have N0 := Fr.nil n0
  have pre0 : ∀ t, Steps p.tables e below (s₁.setTop (mkF m 0 #[.val (.ref r0)] [])) t → Steps p.tables e below (s₁.setTop (entryFrame m #[(.ref r0)] 1)) t := fun t k => castTop (ef_7 r0 m) k
  obtain ⟨T1, X1, e1, st1⟩ := initO X0 hx hZ hown (hw _ (List.mem_of_getElem? (i := 37) rfl)) (hw _ (List.mem_of_getElem? (i := 20) rfl)) (hw _ (List.mem_of_getElem? (i := 21) rfl)) e0 (g := (mkF m 1 #[.val (.ref r0)] [(.ref r0)])) rfl (by rw [hml]; rfl) rfl (hb hby d7_1) (by decide) (W := 0) (by show 2 * 0 + _ ≤ _; exact Nat.le_of_eq rfl) (by decide)
  obtain ⟨fs, hr, hrun, hended, hW, hsame⟩ := X1.leave (v := none) (fun _ => rfl)
  refine ⟨_, _, pre0 _ ?_, hrun, hended, _, _, rfl, ?_, ⟨_, rfl⟩, hW, hsame.mono (by decide) (by decide)⟩
  · show Steps p.tables e below (s₁.setTop (mkF m 0 #[.val (.ref r0)] [])) _
    refine XS.aloadN X0.here hx rfl (hb hby d7_0) rfl rfl ?_
    show Steps p.tables e below (s₁.setTop (mkF m 1 #[.val (.ref r0)] [(.ref r0)])) _
    refine st1 _ ?_
    show Steps p.tables e below (T1.setTop (mkF m 4 #[.val (.ref r0)] [])) _
    exact X1.returnOut hx Bd.returns (hb hby d7_4) hr
  · show Q7 Z r0 h0 n0 _ T1.heap _
    rw [e1]
    exact ⟨rfl, N0, rfl⟩
theorem d6_0 : decode prog_40_method_1_code 0 = .ok (.aload_n 0, 1) := by decide +kernel
theorem d6_1 : decode prog_40_method_1_code 1 = .ok (.invokespecial 5, 3) := by decide +kernel
theorem d6_4 : decode prog_40_method_1_code 4 = .ok (.aload_n 0, 1) := by decide +kernel
theorem d6_5 : decode prog_40_method_1_code 5 = .ok (.lload_n 1, 1) := by decide +kernel
theorem d6_6 : decode prog_40_method_1_code 6 = .ok (.putfield 11, 3) := by decide +kernel
theorem d6_9 : decode prog_40_method_1_code 9 = .ok (.aload_n 0, 1) := by decide +kernel
theorem d6_10 : decode prog_40_method_1_code 10 = .ok (.lload_n 3, 1) := by decide +kernel
theorem d6_11 : decode prog_40_method_1_code 11 = .ok (.putfield 17, 3) := by decide +kernel
theorem d6_14 : decode prog_40_method_1_code 14 = .ok (.aload_n 0, 1) := by decide +kernel
theorem d6_15 : decode prog_40_method_1_code 15 = .ok (.iload 5, 2) := by decide +kernel
theorem d6_17 : decode prog_40_method_1_code 17 = .ok (.putfield 20, 3) := by decide +kernel
theorem d6_20 : decode prog_40_method_1_code 20 = .ok (.aload_n 0, 1) := by decide +kernel
theorem d6_21 : decode prog_40_method_1_code 21 = .ok (.aload 6, 2) := by decide +kernel
theorem d6_23 : decode prog_40_method_1_code 23 = .ok (.putfield 24, 3) := by decide +kernel
theorem d6_26 : decode prog_40_method_1_code 26 = .ok (.aload_n 0, 1) := by decide +kernel
theorem d6_27 : decode prog_40_method_1_code 27 = .ok (.aload 7, 2) := by decide +kernel
theorem d6_29 : decode prog_40_method_1_code 29 = .ok (.putfield 28, 3) := by decide +kernel
theorem d6_32 : decode prog_40_method_1_code 32 = .ok (.aload_n 0, 1) := by decide +kernel
theorem d6_33 : decode prog_40_method_1_code 33 = .ok (.lload 8, 2) := by decide +kernel
theorem d6_35 : decode prog_40_method_1_code 35 = .ok (.putfield 31, 3) := by decide +kernel
theorem d6_38 : decode prog_40_method_1_code 38 = .ok (.aload_n 0, 1) := by decide +kernel
theorem d6_39 : decode prog_40_method_1_code 39 = .ok (.lload 10, 2) := by decide +kernel
theorem d6_41 : decode prog_40_method_1_code 41 = .ok (.putfield 34, 3) := by decide +kernel
theorem d6_44 : decode prog_40_method_1_code 44 = .ok (.aload_n 0, 1) := by decide +kernel
theorem d6_45 : decode prog_40_method_1_code 45 = .ok (.aload 12, 2) := by decide +kernel
theorem d6_47 : decode prog_40_method_1_code 47 = .ok (.putfield 37, 3) := by decide +kernel
theorem d6_50 : decode prog_40_method_1_code 50 = .ok (.return_, 1) := by decide +kernel
theorem pn_com_example_recourse_recourse_store_StoredDeadLetter : plainName "com/example/recourse/recourse/store/StoredDeadLetter" = true := by first | (simp [plainName, overriddenIn]; done) | decide +kernel
theorem pd___V : parseMethodDescriptor "()V" = some ⟨[], none⟩ := by decide +kernel
theorem ef_6 (r0 : Addr) (q1 : Int64) (q2 : Int64) (p3 : Int32) (r4 : Addr) (r5 : Addr) (q6 : Int64) (q7 : Int64) (r8 : Addr)  (m : MethodId) : entryFrame m #[(.ref r0), (.long q1), (.long q2), (.int p3), (.ref r4), (.ref r5), (.long q6), (.long q7), (.ref r8)] 13 = mkF m 0 #[.val (.ref r0), .val (.long q1), .second, .val (.long q2), .second, .val (.int p3), .val (.ref r4), .val (.ref r5), .val (.long q6), .second, .val (.long q7), .second, .val (.ref r8)] [] := by first | (simp [entryFrame, mkF, argsToLocals, Value.category]; done) | rfl
def Q6 (Z : State) (r0 : Addr) (q1 : Int64) (q2 : Int64) (p3 : Int32) (r4 : Addr) (r5 : Addr) (q6 : Int64) (q7 : Int64) (r8 : Addr)  (h0 : Heap) (n0 : Nat) (v : Option Value) (h : Heap) (L : List Loc) : Prop := v = none ∧ Fr n0 L ∧ Keep h0 h [r0] ∧ Exa Z h r0 "com/example/recourse/recourse/store/StoredDeadLetter" ∧ Fld Z h r0 "com/example/recourse/recourse/store/StoredDeadLetter" "sequence" "J" (.long q1) ∧ Fld Z h r0 "com/example/recourse/recourse/store/StoredDeadLetter" "originSequence" "J" (.long q2) ∧ Fld Z h r0 "com/example/recourse/recourse/store/StoredDeadLetter" "reconsumeTimes" "I" (.int p3) ∧ Fld Z h r0 "com/example/recourse/recourse/store/StoredDeadLetter" "topic" "Ljava/lang/String;" (.ref r4) ∧ Fld Z h r0 "com/example/recourse/recourse/store/StoredDeadLetter" "group" "Ljava/lang/String;" (.ref r5) ∧ Fld Z h r0 "com/example/recourse/recourse/store/StoredDeadLetter" "failedSequence" "J" (.long q6) ∧ Fld Z h r0 "com/example/recourse/recourse/store/StoredDeadLetter" "deadLetteredAtMillis" "J" (.long q7) ∧ Fld Z h r0 "com/example/recourse/recourse/store/StoredDeadLetter" "deadLetterTopic" "Ljava/lang/String;" (.ref r8)
set_option maxRecDepth 65536 in
set_option maxHeartbeats 40000000 in
theorem rm6 (l : Launch) (Z : State) (a0 : Array Value) (hw : ∀ d ∈ tables_1, d.before a0 Z = true) (ws : List Jvm.Cond) (r0 : Addr) (q1 : Int64) (q2 : Int64) (p3 : Int32) (r4 : Addr) (r5 : Addr) (q6 : Int64) (q7 : Int64) (r8 : Addr)  (h0 : Heap) (n0 : Nat) (Z0 : n0 ≤ h0.size) (E_r : Exa Z h0 r0 "com/example/recourse/recourse/store/StoredDeadLetter") (F_sequence : Fld Z h0 r0 "com/example/recourse/recourse/store/StoredDeadLetter" "sequence" "J" (.long (0 : Int64))) (F_originSequence : Fld Z h0 r0 "com/example/recourse/recourse/store/StoredDeadLetter" "originSequence" "J" (.long (0 : Int64))) (F_reconsumeTimes : Fld Z h0 r0 "com/example/recourse/recourse/store/StoredDeadLetter" "reconsumeTimes" "I" (.int (0 : Int32))) (F_topic : Fld Z h0 r0 "com/example/recourse/recourse/store/StoredDeadLetter" "topic" "Ljava/lang/String;" .null) (F_group : Fld Z h0 r0 "com/example/recourse/recourse/store/StoredDeadLetter" "group" "Ljava/lang/String;" .null) (F_failedSequence : Fld Z h0 r0 "com/example/recourse/recourse/store/StoredDeadLetter" "failedSequence" "J" (.long (0 : Int64))) (F_deadLetteredAtMillis : Fld Z h0 r0 "com/example/recourse/recourse/store/StoredDeadLetter" "deadLetteredAtMillis" "J" (.long (0 : Int64))) (F_deadLetterTopic : Fld Z h0 r0 "com/example/recourse/recourse/store/StoredDeadLetter" "deadLetterTopic" "Ljava/lang/String;" .null) (g_r0 : n0 ≤ r0) :
    MetFree l (⟨"com/example/recourse/recourse/store/StoredDeadLetter", "<init>", "(JJILjava/lang/String;Ljava/lang/String;JJLjava/lang/String;)V"⟩ : MethodName) (head1 (Jvm.Cond.code (⟨"com/example/recourse/recourse/store/StoredDeadLetter", "<init>", "(JJILjava/lang/String;Ljava/lang/String;JJLjava/lang/String;)V"⟩ : MethodName) prog_40_method_1_code 13 none :: ws) ({ frames := 2, cells := 0, slots := 0, locals := 24 } : Room)) (fun a U => a = #[(.ref r0), (.long q1), (.long q2), (.int p3), (.ref r4), (.ref r5), (.long q6), (.long q7), (.ref r8)] ∧ Z.Warmed39 U.vm ∧ U.heap = h0) (fun _ _ _ _ _ => True) (fun _ U o U' => ∃ v L, o = .returned v ∧ Q6 Z r0 q1 q2 p3 r4 r5 q6 q7 r8 h0 n0 v U'.heap L ∧ FrameEnd U o U' L ({ frames := 2, cells := 0, slots := 0, locals := 24 } : Room).cells ({ frames := 2, cells := 0, slots := 0, locals := 24 } : Room).slots) := by
  refine MetFree.of_bodySF (plainFor_of_name pn_com_example_recourse_recourse_store_StoredDeadLetter) hisR ?_
  intro p e s m args below meth c s₁ Bd hml0 hP hK
  obtain ⟨rfl, hZ, hh⟩ := hP
  have hx := Bd.exec
  have hby := Bd.bytes
  have hml : c.maxLocals = 13 := hml0
  have hown : s.vm.findClass "com/example/recourse/recourse/store/StoredDeadLetter" = some m.cls := findClass_of_methodNamed Bd.named
  have hnm := (name_of_methodNamed Bd.named Bd.method).1
  have X0 : Stand p l e ({ frames := 2, cells := 0, slots := 0, locals := 24 } : Room) s m #[(.ref r0), (.long q1), (.long q2), (.int p3), (.ref r4), (.ref r5), (.long q6), (.long q7), (.ref r8)] below meth c s₁ [] 0 0 := Stand.of_body Bd
  have e0 : s₁.heap = h0 := by rw [← hh, Bd.state]; rfl
  have N0 := Fr.nil n0
  have pre0 : ∀ t, Steps p.tables e below (s₁.setTop (mkF m 0 #[.val (.ref r0), .val (.long q1), .second, .val (.long q2), .second, .val (.int p3), .val (.ref r4), .val (.ref r5), .val (.long q6), .second, .val (.long q7), .second, .val (.ref r8)] [])) t → Steps p.tables e below (s₁.setTop (entryFrame m #[(.ref r0), (.long q1), (.long q2), (.int p3), (.ref r4), (.ref r5), (.long q6), (.long q7), (.ref r8)] 13)) t := fun t k => castTop (ef_6 r0 q1 q2 p3 r4 r5 q6 q7 r8 m) k
  obtain ⟨_, _, ⟨T1, L1, k1, n1⟩, -, X1, ⟨Lc1, hQ1, ll1, ly1, lz1⟩, st1⟩ := X0.specialBack hx (y := (⟨"java/lang/Record", "<init>", "()V"⟩ : MethodName)) rfl hown (mvT hZ (hw _ (List.mem_of_getElem? (i := 32) rfl))) (mvT hZ (hw _ (List.mem_of_getElem? (i := 33) rfl))) (mvT hZ (hw _ (List.mem_of_getElem? (i := 36) rfl))) (by decide) (backOf (W := 0) (rm7 l Z a0 hw [] r0 h0 n0 Z0 ) hZ (hw _ (List.mem_of_getElem? (i := 36) rfl)) (hw _ (List.mem_of_getElem? (i := 35) rfl)) (by decide) (by decide)) (g := (mkF m 1 #[.val (.ref r0), .val (.long q1), .second, .val (.long q2), .second, .val (.int p3), .val (.ref r4), .val (.ref r5), .val (.long q6), .second, .val (.long q7), .second, .val (.ref r8)] [(.ref r0)])) rfl (by rw [hml]; rfl) (Steps.refl _) (a := r0) (argsL := []) (rest := []) (lenOf pd___V rfl) rfl (by show 2 * 0 + _ ≤ _; exact Nat.le_of_eq rfl) (hb hby d6_1) (fun _ _ => ⟨rfl, e0, (by decide : 0 + 0 ≤ _), (by decide : 0 + 0 ≤ _)⟩)
  dsimp only [Pt.U, Pt.locs, Pt.cells, Pt.slots] at X1 ll1 ly1 lz1 st1 hQ1
  subst ll1 ly1 lz1
  obtain ⟨rfl, N1q, e1⟩ := hQ1
  have N1 := Fr.app N0 N1q
  obtain ⟨T2, h2, X2, e2, W2, st2⟩ := putF X1 hx hZ hown (host := "") (Or.inl (hw _ (List.mem_of_getElem? (i := 38) rfl))) Via.refl e1 F_sequence E_r (Or.inr ⟨(hw _ (List.mem_of_getElem? (i := 39) rfl)), rfl, hnm⟩) (hw _ (List.mem_of_getElem? (i := 27) rfl)) (ty := .long) (by decide) rfl rfl (g := (mkF m 6 #[.val (.ref r0), .val (.long q1), .second, .val (.long q2), .second, .val (.int p3), .val (.ref r4), .val (.ref r5), .val (.long q6), .second, .val (.long q7), .second, .val (.ref r8)] [(.long q1), (.ref r0)])) rfl rfl (hb hby d6_6)
  have Fw2 : Fld Z h2 r0 "com/example/recourse/recourse/store/StoredDeadLetter" "sequence" "J" (.long q1) := Fld.same W2 F_sequence
  have K2 : Keep h0 h2 [r0] := (Keep.refl h0 [r0]).wr W2 (Or.inl (List.mem_of_getElem? (i := 0) rfl))
  have N2 := Fr.snoc X2 N1 g_r0
  obtain ⟨T3, h3, X3, e3, W3, st3⟩ := putF X2 hx hZ hown (host := "") (Or.inl (hw _ (List.mem_of_getElem? (i := 40) rfl))) Via.refl e2 (Fld.other W2 F_originSequence (Or.inr (slot_ne (Or.inr (hw _ (List.mem_of_getElem? (i := 41) rfl))) (Or.inr (hw _ (List.mem_of_getElem? (i := 39) rfl))) (by decide) (t := .long) (t' := .long) (by decide) (by decide)))) (Exa.wr W2 E_r) (Or.inr ⟨(hw _ (List.mem_of_getElem? (i := 41) rfl)), rfl, hnm⟩) (hw _ (List.mem_of_getElem? (i := 27) rfl)) (ty := .long) (by decide) rfl rfl (g := (mkF m 11 #[.val (.ref r0), .val (.long q1), .second, .val (.long q2), .second, .val (.int p3), .val (.ref r4), .val (.ref r5), .val (.long q6), .second, .val (.long q7), .second, .val (.ref r8)] [(.long q2), (.ref r0)])) rfl rfl (hb hby d6_11)
  have Fw3 : Fld Z h3 r0 "com/example/recourse/recourse/store/StoredDeadLetter" "originSequence" "J" (.long q2) := Fld.same W3 (Fld.other W2 F_originSequence (Or.inr (slot_ne (Or.inr (hw _ (List.mem_of_getElem? (i := 41) rfl))) (Or.inr (hw _ (List.mem_of_getElem? (i := 39) rfl))) (by decide) (t := .long) (t' := .long) (by decide) (by decide))))
  have K3 : Keep h0 h3 [r0] := K2.wr W3 (Or.inl (List.mem_of_getElem? (i := 0) rfl))
  have N3 := Fr.snoc X3 N2 g_r0
  obtain ⟨T4, h4, X4, e4, W4, st4⟩ := putF X3 hx hZ hown (host := "") (Or.inl (hw _ (List.mem_of_getElem? (i := 42) rfl))) Via.refl e3 (Fld.other W3 (Fld.other W2 F_reconsumeTimes (Or.inr (slot_ne (Or.inr (hw _ (List.mem_of_getElem? (i := 43) rfl))) (Or.inr (hw _ (List.mem_of_getElem? (i := 39) rfl))) (by decide) (t := .int) (t' := .long) (by decide) (by decide)))) (Or.inr (slot_ne (Or.inr (hw _ (List.mem_of_getElem? (i := 43) rfl))) (Or.inr (hw _ (List.mem_of_getElem? (i := 41) rfl))) (by decide) (t := .int) (t' := .long) (by decide) (by decide)))) (Exa.wr W3 (Exa.wr W2 E_r)) (Or.inr ⟨(hw _ (List.mem_of_getElem? (i := 43) rfl)), rfl, hnm⟩) (hw _ (List.mem_of_getElem? (i := 27) rfl)) (ty := .int) (by decide) rfl rfl (g := (mkF m 17 #[.val (.ref r0), .val (.long q1), .second, .val (.long q2), .second, .val (.int p3), .val (.ref r4), .val (.ref r5), .val (.long q6), .second, .val (.long q7), .second, .val (.ref r8)] [(.int p3), (.ref r0)])) rfl rfl (hb hby d6_17)
  have Fw4 : Fld Z h4 r0 "com/example/recourse/recourse/store/StoredDeadLetter" "reconsumeTimes" "I" (.int p3) := Fld.same W4 (Fld.other W3 (Fld.other W2 F_reconsumeTimes (Or.inr (slot_ne (Or.inr (hw _ (List.mem_of_getElem? (i := 43) rfl))) (Or.inr (hw _ (List.mem_of_getElem? (i := 39) rfl))) (by decide) (t := .int) (t' := .long) (by decide) (by decide)))) (Or.inr (slot_ne (Or.inr (hw _ (List.mem_of_getElem? (i := 43) rfl))) (Or.inr (hw _ (List.mem_of_getElem? (i := 41) rfl))) (by decide) (t := .int) (t' := .long) (by decide) (by decide))))
  have K4 : Keep h0 h4 [r0] := K3.wr W4 (Or.inl (List.mem_of_getElem? (i := 0) rfl))
  have N4 := Fr.snoc X4 N3 g_r0
  obtain ⟨T5, h5, X5, e5, W5, st5⟩ := putF X4 hx hZ hown (host := "") (Or.inl (hw _ (List.mem_of_getElem? (i := 44) rfl))) Via.refl e4 (Fld.other W4 (Fld.other W3 (Fld.other W2 F_topic (Or.inr (slot_ne (Or.inr (hw _ (List.mem_of_getElem? (i := 45) rfl))) (Or.inr (hw _ (List.mem_of_getElem? (i := 39) rfl))) (by decide) (t := (.object "java/lang/String")) (t' := .long) (by decide) (by decide)))) (Or.inr (slot_ne (Or.inr (hw _ (List.mem_of_getElem? (i := 45) rfl))) (Or.inr (hw _ (List.mem_of_getElem? (i := 41) rfl))) (by decide) (t := (.object "java/lang/String")) (t' := .long) (by decide) (by decide)))) (Or.inr (slot_ne (Or.inr (hw _ (List.mem_of_getElem? (i := 45) rfl))) (Or.inr (hw _ (List.mem_of_getElem? (i := 43) rfl))) (by decide) (t := (.object "java/lang/String")) (t' := .int) (by decide) (by decide)))) (Exa.wr W4 (Exa.wr W3 (Exa.wr W2 E_r))) (Or.inr ⟨(hw _ (List.mem_of_getElem? (i := 45) rfl)), rfl, hnm⟩) (hw _ (List.mem_of_getElem? (i := 27) rfl)) (ty := (.object "java/lang/String")) (by decide) rfl rfl (g := (mkF m 23 #[.val (.ref r0), .val (.long q1), .second, .val (.long q2), .second, .val (.int p3), .val (.ref r4), .val (.ref r5), .val (.long q6), .second, .val (.long q7), .second, .val (.ref r8)] [(.ref r4), (.ref r0)])) rfl rfl (hb hby d6_23)
  have Fw5 : Fld Z h5 r0 "com/example/recourse/recourse/store/StoredDeadLetter" "topic" "Ljava/lang/String;" (.ref r4) := Fld.same W5 (Fld.other W4 (Fld.other W3 (Fld.other W2 F_topic (Or.inr (slot_ne (Or.inr (hw _ (List.mem_of_getElem? (i := 45) rfl))) (Or.inr (hw _ (List.mem_of_getElem? (i := 39) rfl))) (by decide) (t := (.object "java/lang/String")) (t' := .long) (by decide) (by decide)))) (Or.inr (slot_ne (Or.inr (hw _ (List.mem_of_getElem? (i := 45) rfl))) (Or.inr (hw _ (List.mem_of_getElem? (i := 41) rfl))) (by decide) (t := (.object "java/lang/String")) (t' := .long) (by decide) (by decide)))) (Or.inr (slot_ne (Or.inr (hw _ (List.mem_of_getElem? (i := 45) rfl))) (Or.inr (hw _ (List.mem_of_getElem? (i := 43) rfl))) (by decide) (t := (.object "java/lang/String")) (t' := .int) (by decide) (by decide))))
  have K5 : Keep h0 h5 [r0] := K4.wr W5 (Or.inl (List.mem_of_getElem? (i := 0) rfl))
  have N5 := Fr.snoc X5 N4 g_r0
  obtain ⟨T6, h6, X6, e6, W6, st6⟩ := putF X5 hx hZ hown (host := "") (Or.inl (hw _ (List.mem_of_getElem? (i := 46) rfl))) Via.refl e5 (Fld.other W5 (Fld.other W4 (Fld.other W3 (Fld.other W2 F_group (Or.inr (slot_ne (Or.inr (hw _ (List.mem_of_getElem? (i := 47) rfl))) (Or.inr (hw _ (List.mem_of_getElem? (i := 39) rfl))) (by decide) (t := (.object "java/lang/String")) (t' := .long) (by decide) (by decide)))) (Or.inr (slot_ne (Or.inr (hw _ (List.mem_of_getElem? (i := 47) rfl))) (Or.inr (hw _ (List.mem_of_getElem? (i := 41) rfl))) (by decide) (t := (.object "java/lang/String")) (t' := .long) (by decide) (by decide)))) (Or.inr (slot_ne (Or.inr (hw _ (List.mem_of_getElem? (i := 47) rfl))) (Or.inr (hw _ (List.mem_of_getElem? (i := 43) rfl))) (by decide) (t := (.object "java/lang/String")) (t' := .int) (by decide) (by decide)))) (Or.inr (slot_ne (Or.inr (hw _ (List.mem_of_getElem? (i := 47) rfl))) (Or.inr (hw _ (List.mem_of_getElem? (i := 45) rfl))) (by decide) (t := (.object "java/lang/String")) (t' := (.object "java/lang/String")) (by decide) (by decide)))) (Exa.wr W5 (Exa.wr W4 (Exa.wr W3 (Exa.wr W2 E_r)))) (Or.inr ⟨(hw _ (List.mem_of_getElem? (i := 47) rfl)), rfl, hnm⟩) (hw _ (List.mem_of_getElem? (i := 27) rfl)) (ty := (.object "java/lang/String")) (by decide) rfl rfl (g := (mkF m 29 #[.val (.ref r0), .val (.long q1), .second, .val (.long q2), .second, .val (.int p3), .val (.ref r4), .val (.ref r5), .val (.long q6), .second, .val (.long q7), .second, .val (.ref r8)] [(.ref r5), (.ref r0)])) rfl rfl (hb hby d6_29)
  have Fw6 : Fld Z h6 r0 "com/example/recourse/recourse/store/StoredDeadLetter" "group" "Ljava/lang/String;" (.ref r5) := Fld.same W6 (Fld.other W5 (Fld.other W4 (Fld.other W3 (Fld.other W2 F_group (Or.inr (slot_ne (Or.inr (hw _ (List.mem_of_getElem? (i := 47) rfl))) (Or.inr (hw _ (List.mem_of_getElem? (i := 39) rfl))) (by decide) (t := (.object "java/lang/String")) (t' := .long) (by decide) (by decide)))) (Or.inr (slot_ne (Or.inr (hw _ (List.mem_of_getElem? (i := 47) rfl))) (Or.inr (hw _ (List.mem_of_getElem? (i := 41) rfl))) (by decide) (t := (.object "java/lang/String")) (t' := .long) (by decide) (by decide)))) (Or.inr (slot_ne (Or.inr (hw _ (List.mem_of_getElem? (i := 47) rfl))) (Or.inr (hw _ (List.mem_of_getElem? (i := 43) rfl))) (by decide) (t := (.object "java/lang/String")) (t' := .int) (by decide) (by decide)))) (Or.inr (slot_ne (Or.inr (hw _ (List.mem_of_getElem? (i := 47) rfl))) (Or.inr (hw _ (List.mem_of_getElem? (i := 45) rfl))) (by decide) (t := (.object "java/lang/String")) (t' := (.object "java/lang/String")) (by decide) (by decide))))
  have K6 : Keep h0 h6 [r0] := K5.wr W6 (Or.inl (List.mem_of_getElem? (i := 0) rfl))
  have N6 := Fr.snoc X6 N5 g_r0
  obtain ⟨T7, h7, X7, e7, W7, st7⟩ := putF X6 hx hZ hown (host := "") (Or.inl (hw _ (List.mem_of_getElem? (i := 48) rfl))) Via.refl e6 (Fld.other W6 (Fld.other W5 (Fld.other W4 (Fld.other W3 (Fld.other W2 F_failedSequence (Or.inr (slot_ne (Or.inr (hw _ (List.mem_of_getElem? (i := 49) rfl))) (Or.inr (hw _ (List.mem_of_getElem? (i := 39) rfl))) (by decide) (t := .long) (t' := .long) (by decide) (by decide)))) (Or.inr (slot_ne (Or.inr (hw _ (List.mem_of_getElem? (i := 49) rfl))) (Or.inr (hw _ (List.mem_of_getElem? (i := 41) rfl))) (by decide) (t := .long) (t' := .long) (by decide) (by decide)))) (Or.inr (slot_ne (Or.inr (hw _ (List.mem_of_getElem? (i := 49) rfl))) (Or.inr (hw _ (List.mem_of_getElem? (i := 43) rfl))) (by decide) (t := .long) (t' := .int) (by decide) (by decide)))) (Or.inr (slot_ne (Or.inr (hw _ (List.mem_of_getElem? (i := 49) rfl))) (Or.inr (hw _ (List.mem_of_getElem? (i := 45) rfl))) (by decide) (t := .long) (t' := (.object "java/lang/String")) (by decide) (by decide)))) (Or.inr (slot_ne (Or.inr (hw _ (List.mem_of_getElem? (i := 49) rfl))) (Or.inr (hw _ (List.mem_of_getElem? (i := 47) rfl))) (by decide) (t := .long) (t' := (.object "java/lang/String")) (by decide) (by decide)))) (Exa.wr W6 (Exa.wr W5 (Exa.wr W4 (Exa.wr W3 (Exa.wr W2 E_r))))) (Or.inr ⟨(hw _ (List.mem_of_getElem? (i := 49) rfl)), rfl, hnm⟩) (hw _ (List.mem_of_getElem? (i := 27) rfl)) (ty := .long) (by decide) rfl rfl (g := (mkF m 35 #[.val (.ref r0), .val (.long q1), .second, .val (.long q2), .second, .val (.int p3), .val (.ref r4), .val (.ref r5), .val (.long q6), .second, .val (.long q7), .second, .val (.ref r8)] [(.long q6), (.ref r0)])) rfl rfl (hb hby d6_35)
  have Fw7 : Fld Z h7 r0 "com/example/recourse/recourse/store/StoredDeadLetter" "failedSequence" "J" (.long q6) := Fld.same W7 (Fld.other W6 (Fld.other W5 (Fld.other W4 (Fld.other W3 (Fld.other W2 F_failedSequence (Or.inr (slot_ne (Or.inr (hw _ (List.mem_of_getElem? (i := 49) rfl))) (Or.inr (hw _ (List.mem_of_getElem? (i := 39) rfl))) (by decide) (t := .long) (t' := .long) (by decide) (by decide)))) (Or.inr (slot_ne (Or.inr (hw _ (List.mem_of_getElem? (i := 49) rfl))) (Or.inr (hw _ (List.mem_of_getElem? (i := 41) rfl))) (by decide) (t := .long) (t' := .long) (by decide) (by decide)))) (Or.inr (slot_ne (Or.inr (hw _ (List.mem_of_getElem? (i := 49) rfl))) (Or.inr (hw _ (List.mem_of_getElem? (i := 43) rfl))) (by decide) (t := .long) (t' := .int) (by decide) (by decide)))) (Or.inr (slot_ne (Or.inr (hw _ (List.mem_of_getElem? (i := 49) rfl))) (Or.inr (hw _ (List.mem_of_getElem? (i := 45) rfl))) (by decide) (t := .long) (t' := (.object "java/lang/String")) (by decide) (by decide)))) (Or.inr (slot_ne (Or.inr (hw _ (List.mem_of_getElem? (i := 49) rfl))) (Or.inr (hw _ (List.mem_of_getElem? (i := 47) rfl))) (by decide) (t := .long) (t' := (.object "java/lang/String")) (by decide) (by decide))))
  have K7 : Keep h0 h7 [r0] := K6.wr W7 (Or.inl (List.mem_of_getElem? (i := 0) rfl))
  have N7 := Fr.snoc X7 N6 g_r0
  obtain ⟨T8, h8, X8, e8, W8, st8⟩ := putF X7 hx hZ hown (host := "") (Or.inl (hw _ (List.mem_of_getElem? (i := 50) rfl))) Via.refl e7 (Fld.other W7 (Fld.other W6 (Fld.other W5 (Fld.other W4 (Fld.other W3 (Fld.other W2 F_deadLetteredAtMillis (Or.inr (slot_ne (Or.inr (hw _ (List.mem_of_getElem? (i := 51) rfl))) (Or.inr (hw _ (List.mem_of_getElem? (i := 39) rfl))) (by decide) (t := .long) (t' := .long) (by decide) (by decide)))) (Or.inr (slot_ne (Or.inr (hw _ (List.mem_of_getElem? (i := 51) rfl))) (Or.inr (hw _ (List.mem_of_getElem? (i := 41) rfl))) (by decide) (t := .long) (t' := .long) (by decide) (by decide)))) (Or.inr (slot_ne (Or.inr (hw _ (List.mem_of_getElem? (i := 51) rfl))) (Or.inr (hw _ (List.mem_of_getElem? (i := 43) rfl))) (by decide) (t := .long) (t' := .int) (by decide) (by decide)))) (Or.inr (slot_ne (Or.inr (hw _ (List.mem_of_getElem? (i := 51) rfl))) (Or.inr (hw _ (List.mem_of_getElem? (i := 45) rfl))) (by decide) (t := .long) (t' := (.object "java/lang/String")) (by decide) (by decide)))) (Or.inr (slot_ne (Or.inr (hw _ (List.mem_of_getElem? (i := 51) rfl))) (Or.inr (hw _ (List.mem_of_getElem? (i := 47) rfl))) (by decide) (t := .long) (t' := (.object "java/lang/String")) (by decide) (by decide)))) (Or.inr (slot_ne (Or.inr (hw _ (List.mem_of_getElem? (i := 51) rfl))) (Or.inr (hw _ (List.mem_of_getElem? (i := 49) rfl))) (by decide) (t := .long) (t' := .long) (by decide) (by decide)))) (Exa.wr W7 (Exa.wr W6 (Exa.wr W5 (Exa.wr W4 (Exa.wr W3 (Exa.wr W2 E_r)))))) (Or.inr ⟨(hw _ (List.mem_of_getElem? (i := 51) rfl)), rfl, hnm⟩) (hw _ (List.mem_of_getElem? (i := 27) rfl)) (ty := .long) (by decide) rfl rfl (g := (mkF m 41 #[.val (.ref r0), .val (.long q1), .second, .val (.long q2), .second, .val (.int p3), .val (.ref r4), .val (.ref r5), .val (.long q6), .second, .val (.long q7), .second, .val (.ref r8)] [(.long q7), (.ref r0)])) rfl rfl (hb hby d6_41)
  have Fw8 : Fld Z h8 r0 "com/example/recourse/recourse/store/StoredDeadLetter" "deadLetteredAtMillis" "J" (.long q7) := Fld.same W8 (Fld.other W7 (Fld.other W6 (Fld.other W5 (Fld.other W4 (Fld.other W3 (Fld.other W2 F_deadLetteredAtMillis (Or.inr (slot_ne (Or.inr (hw _ (List.mem_of_getElem? (i := 51) rfl))) (Or.inr (hw _ (List.mem_of_getElem? (i := 39) rfl))) (by decide) (t := .long) (t' := .long) (by decide) (by decide)))) (Or.inr (slot_ne (Or.inr (hw _ (List.mem_of_getElem? (i := 51) rfl))) (Or.inr (hw _ (List.mem_of_getElem? (i := 41) rfl))) (by decide) (t := .long) (t' := .long) (by decide) (by decide)))) (Or.inr (slot_ne (Or.inr (hw _ (List.mem_of_getElem? (i := 51) rfl))) (Or.inr (hw _ (List.mem_of_getElem? (i := 43) rfl))) (by decide) (t := .long) (t' := .int) (by decide) (by decide)))) (Or.inr (slot_ne (Or.inr (hw _ (List.mem_of_getElem? (i := 51) rfl))) (Or.inr (hw _ (List.mem_of_getElem? (i := 45) rfl))) (by decide) (t := .long) (t' := (.object "java/lang/String")) (by decide) (by decide)))) (Or.inr (slot_ne (Or.inr (hw _ (List.mem_of_getElem? (i := 51) rfl))) (Or.inr (hw _ (List.mem_of_getElem? (i := 47) rfl))) (by decide) (t := .long) (t' := (.object "java/lang/String")) (by decide) (by decide)))) (Or.inr (slot_ne (Or.inr (hw _ (List.mem_of_getElem? (i := 51) rfl))) (Or.inr (hw _ (List.mem_of_getElem? (i := 49) rfl))) (by decide) (t := .long) (t' := .long) (by decide) (by decide))))
  have K8 : Keep h0 h8 [r0] := K7.wr W8 (Or.inl (List.mem_of_getElem? (i := 0) rfl))
  have N8 := Fr.snoc X8 N7 g_r0
  obtain ⟨T9, h9, X9, e9, W9, st9⟩ := putF X8 hx hZ hown (host := "") (Or.inl (hw _ (List.mem_of_getElem? (i := 52) rfl))) Via.refl e8 (Fld.other W8 (Fld.other W7 (Fld.other W6 (Fld.other W5 (Fld.other W4 (Fld.other W3 (Fld.other W2 F_deadLetterTopic (Or.inr (slot_ne (Or.inr (hw _ (List.mem_of_getElem? (i := 53) rfl))) (Or.inr (hw _ (List.mem_of_getElem? (i := 39) rfl))) (by decide) (t := (.object "java/lang/String")) (t' := .long) (by decide) (by decide)))) (Or.inr (slot_ne (Or.inr (hw _ (List.mem_of_getElem? (i := 53) rfl))) (Or.inr (hw _ (List.mem_of_getElem? (i := 41) rfl))) (by decide) (t := (.object "java/lang/String")) (t' := .long) (by decide) (by decide)))) (Or.inr (slot_ne (Or.inr (hw _ (List.mem_of_getElem? (i := 53) rfl))) (Or.inr (hw _ (List.mem_of_getElem? (i := 43) rfl))) (by decide) (t := (.object "java/lang/String")) (t' := .int) (by decide) (by decide)))) (Or.inr (slot_ne (Or.inr (hw _ (List.mem_of_getElem? (i := 53) rfl))) (Or.inr (hw _ (List.mem_of_getElem? (i := 45) rfl))) (by decide) (t := (.object "java/lang/String")) (t' := (.object "java/lang/String")) (by decide) (by decide)))) (Or.inr (slot_ne (Or.inr (hw _ (List.mem_of_getElem? (i := 53) rfl))) (Or.inr (hw _ (List.mem_of_getElem? (i := 47) rfl))) (by decide) (t := (.object "java/lang/String")) (t' := (.object "java/lang/String")) (by decide) (by decide)))) (Or.inr (slot_ne (Or.inr (hw _ (List.mem_of_getElem? (i := 53) rfl))) (Or.inr (hw _ (List.mem_of_getElem? (i := 49) rfl))) (by decide) (t := (.object "java/lang/String")) (t' := .long) (by decide) (by decide)))) (Or.inr (slot_ne (Or.inr (hw _ (List.mem_of_getElem? (i := 53) rfl))) (Or.inr (hw _ (List.mem_of_getElem? (i := 51) rfl))) (by decide) (t := (.object "java/lang/String")) (t' := .long) (by decide) (by decide)))) (Exa.wr W8 (Exa.wr W7 (Exa.wr W6 (Exa.wr W5 (Exa.wr W4 (Exa.wr W3 (Exa.wr W2 E_r))))))) (Or.inr ⟨(hw _ (List.mem_of_getElem? (i := 53) rfl)), rfl, hnm⟩) (hw _ (List.mem_of_getElem? (i := 27) rfl)) (ty := (.object "java/lang/String")) (by decide) rfl rfl (g := (mkF m 47 #[.val (.ref r0), .val (.long q1), .second, .val (.long q2), .second, .val (.int p3), .val (.ref r4), .val (.ref r5), .val (.long q6), .second, .val (.long q7), .second, .val (.ref r8)] [(.ref r8), (.ref r0)])) rfl rfl (hb hby d6_47)
  have Fw9 : Fld Z h9 r0 "com/example/recourse/recourse/store/StoredDeadLetter" "deadLetterTopic" "Ljava/lang/String;" (.ref r8) := Fld.same W9 (Fld.other W8 (Fld.other W7 (Fld.other W6 (Fld.other W5 (Fld.other W4 (Fld.other W3 (Fld.other W2 F_deadLetterTopic (Or.inr (slot_ne (Or.inr (hw _ (List.mem_of_getElem? (i := 53) rfl))) (Or.inr (hw _ (List.mem_of_getElem? (i := 39) rfl))) (by decide) (t := (.object "java/lang/String")) (t' := .long) (by decide) (by decide)))) (Or.inr (slot_ne (Or.inr (hw _ (List.mem_of_getElem? (i := 53) rfl))) (Or.inr (hw _ (List.mem_of_getElem? (i := 41) rfl))) (by decide) (t := (.object "java/lang/String")) (t' := .long) (by decide) (by decide)))) (Or.inr (slot_ne (Or.inr (hw _ (List.mem_of_getElem? (i := 53) rfl))) (Or.inr (hw _ (List.mem_of_getElem? (i := 43) rfl))) (by decide) (t := (.object "java/lang/String")) (t' := .int) (by decide) (by decide)))) (Or.inr (slot_ne (Or.inr (hw _ (List.mem_of_getElem? (i := 53) rfl))) (Or.inr (hw _ (List.mem_of_getElem? (i := 45) rfl))) (by decide) (t := (.object "java/lang/String")) (t' := (.object "java/lang/String")) (by decide) (by decide)))) (Or.inr (slot_ne (Or.inr (hw _ (List.mem_of_getElem? (i := 53) rfl))) (Or.inr (hw _ (List.mem_of_getElem? (i := 47) rfl))) (by decide) (t := (.object "java/lang/String")) (t' := (.object "java/lang/String")) (by decide) (by decide)))) (Or.inr (slot_ne (Or.inr (hw _ (List.mem_of_getElem? (i := 53) rfl))) (Or.inr (hw _ (List.mem_of_getElem? (i := 49) rfl))) (by decide) (t := (.object "java/lang/String")) (t' := .long) (by decide) (by decide)))) (Or.inr (slot_ne (Or.inr (hw _ (List.mem_of_getElem? (i := 53) rfl))) (Or.inr (hw _ (List.mem_of_getElem? (i := 51) rfl))) (by decide) (t := (.object "java/lang/String")) (t' := .long) (by decide) (by decide))))
  have K9 : Keep h0 h9 [r0] := K8.wr W9 (Or.inl (List.mem_of_getElem? (i := 0) rfl))
  have N9 := Fr.snoc X9 N8 g_r0
  obtain ⟨fs, hr, hrun, hended, hW, hsame⟩ := X9.leave (v := none) (fun _ => rfl)
  refine ⟨_, _, pre0 _ ?_, hrun, hended, _, _, rfl, ?_, ⟨_, rfl⟩, hW, hsame.mono (by decide) (by decide)⟩
  · show Steps p.tables e below (s₁.setTop (mkF m 0 #[.val (.ref r0), .val (.long q1), .second, .val (.long q2), .second, .val (.int p3), .val (.ref r4), .val (.ref r5), .val (.long q6), .second, .val (.long q7), .second, .val (.ref r8)] [])) _
    refine XS.aloadN X0.here hx rfl (hb hby d6_0) rfl rfl ?_
    show Steps p.tables e below (s₁.setTop (mkF m 1 #[.val (.ref r0), .val (.long q1), .second, .val (.long q2), .second, .val (.int p3), .val (.ref r4), .val (.ref r5), .val (.long q6), .second, .val (.long q7), .second, .val (.ref r8)] [(.ref r0)])) _
    refine st1.trans ?_
    show Steps p.tables e below (T1.setTop (mkF m 4 #[.val (.ref r0), .val (.long q1), .second, .val (.long q2), .second, .val (.int p3), .val (.ref r4), .val (.ref r5), .val (.long q6), .second, .val (.long q7), .second, .val (.ref r8)] [])) _
    refine XS.aloadN X1.here hx rfl (hb hby d6_4) rfl rfl ?_
    show Steps p.tables e below (T1.setTop (mkF m 5 #[.val (.ref r0), .val (.long q1), .second, .val (.long q2), .second, .val (.int p3), .val (.ref r4), .val (.ref r5), .val (.long q6), .second, .val (.long q7), .second, .val (.ref r8)] [(.ref r0)])) _
    refine XS.lloadN X1.here hx rfl (hb hby d6_5) rfl ?_
    show Steps p.tables e below (T1.setTop (mkF m 6 #[.val (.ref r0), .val (.long q1), .second, .val (.long q2), .second, .val (.int p3), .val (.ref r4), .val (.ref r5), .val (.long q6), .second, .val (.long q7), .second, .val (.ref r8)] [(.long q1), (.ref r0)])) _
    refine st2 _ ?_
    show Steps p.tables e below (T2.setTop (mkF m 9 #[.val (.ref r0), .val (.long q1), .second, .val (.long q2), .second, .val (.int p3), .val (.ref r4), .val (.ref r5), .val (.long q6), .second, .val (.long q7), .second, .val (.ref r8)] [])) _
    refine XS.aloadN X2.here hx rfl (hb hby d6_9) rfl rfl ?_
    show Steps p.tables e below (T2.setTop (mkF m 10 #[.val (.ref r0), .val (.long q1), .second, .val (.long q2), .second, .val (.int p3), .val (.ref r4), .val (.ref r5), .val (.long q6), .second, .val (.long q7), .second, .val (.ref r8)] [(.ref r0)])) _
    refine XS.lloadN X2.here hx rfl (hb hby d6_10) rfl ?_
    show Steps p.tables e below (T2.setTop (mkF m 11 #[.val (.ref r0), .val (.long q1), .second, .val (.long q2), .second, .val (.int p3), .val (.ref r4), .val (.ref r5), .val (.long q6), .second, .val (.long q7), .second, .val (.ref r8)] [(.long q2), (.ref r0)])) _
    refine st3 _ ?_
    show Steps p.tables e below (T3.setTop (mkF m 14 #[.val (.ref r0), .val (.long q1), .second, .val (.long q2), .second, .val (.int p3), .val (.ref r4), .val (.ref r5), .val (.long q6), .second, .val (.long q7), .second, .val (.ref r8)] [])) _
    refine XS.aloadN X3.here hx rfl (hb hby d6_14) rfl rfl ?_
    show Steps p.tables e below (T3.setTop (mkF m 15 #[.val (.ref r0), .val (.long q1), .second, .val (.long q2), .second, .val (.int p3), .val (.ref r4), .val (.ref r5), .val (.long q6), .second, .val (.long q7), .second, .val (.ref r8)] [(.ref r0)])) _
    refine XS.iload X3.here hx rfl (hb hby d6_15) rfl ?_
    show Steps p.tables e below (T3.setTop (mkF m 17 #[.val (.ref r0), .val (.long q1), .second, .val (.long q2), .second, .val (.int p3), .val (.ref r4), .val (.ref r5), .val (.long q6), .second, .val (.long q7), .second, .val (.ref r8)] [(.int p3), (.ref r0)])) _
    refine st4 _ ?_
    show Steps p.tables e below (T4.setTop (mkF m 20 #[.val (.ref r0), .val (.long q1), .second, .val (.long q2), .second, .val (.int p3), .val (.ref r4), .val (.ref r5), .val (.long q6), .second, .val (.long q7), .second, .val (.ref r8)] [])) _
    refine XS.aloadN X4.here hx rfl (hb hby d6_20) rfl rfl ?_
    show Steps p.tables e below (T4.setTop (mkF m 21 #[.val (.ref r0), .val (.long q1), .second, .val (.long q2), .second, .val (.int p3), .val (.ref r4), .val (.ref r5), .val (.long q6), .second, .val (.long q7), .second, .val (.ref r8)] [(.ref r0)])) _
    refine XS.aload X4.here hx rfl (hb hby d6_21) rfl rfl ?_
    show Steps p.tables e below (T4.setTop (mkF m 23 #[.val (.ref r0), .val (.long q1), .second, .val (.long q2), .second, .val (.int p3), .val (.ref r4), .val (.ref r5), .val (.long q6), .second, .val (.long q7), .second, .val (.ref r8)] [(.ref r4), (.ref r0)])) _
    refine st5 _ ?_
    show Steps p.tables e below (T5.setTop (mkF m 26 #[.val (.ref r0), .val (.long q1), .second, .val (.long q2), .second, .val (.int p3), .val (.ref r4), .val (.ref r5), .val (.long q6), .second, .val (.long q7), .second, .val (.ref r8)] [])) _
    refine XS.aloadN X5.here hx rfl (hb hby d6_26) rfl rfl ?_
    show Steps p.tables e below (T5.setTop (mkF m 27 #[.val (.ref r0), .val (.long q1), .second, .val (.long q2), .second, .val (.int p3), .val (.ref r4), .val (.ref r5), .val (.long q6), .second, .val (.long q7), .second, .val (.ref r8)] [(.ref r0)])) _
    refine XS.aload X5.here hx rfl (hb hby d6_27) rfl rfl ?_
    show Steps p.tables e below (T5.setTop (mkF m 29 #[.val (.ref r0), .val (.long q1), .second, .val (.long q2), .second, .val (.int p3), .val (.ref r4), .val (.ref r5), .val (.long q6), .second, .val (.long q7), .second, .val (.ref r8)] [(.ref r5), (.ref r0)])) _
    refine st6 _ ?_
    show Steps p.tables e below (T6.setTop (mkF m 32 #[.val (.ref r0), .val (.long q1), .second, .val (.long q2), .second, .val (.int p3), .val (.ref r4), .val (.ref r5), .val (.long q6), .second, .val (.long q7), .second, .val (.ref r8)] [])) _
    refine XS.aloadN X6.here hx rfl (hb hby d6_32) rfl rfl ?_
    show Steps p.tables e below (T6.setTop (mkF m 33 #[.val (.ref r0), .val (.long q1), .second, .val (.long q2), .second, .val (.int p3), .val (.ref r4), .val (.ref r5), .val (.long q6), .second, .val (.long q7), .second, .val (.ref r8)] [(.ref r0)])) _
    refine XS.lload X6.here hx rfl (hb hby d6_33) rfl ?_
    show Steps p.tables e below (T6.setTop (mkF m 35 #[.val (.ref r0), .val (.long q1), .second, .val (.long q2), .second, .val (.int p3), .val (.ref r4), .val (.ref r5), .val (.long q6), .second, .val (.long q7), .second, .val (.ref r8)] [(.long q6), (.ref r0)])) _
    refine st7 _ ?_
    show Steps p.tables e below (T7.setTop (mkF m 38 #[.val (.ref r0), .val (.long q1), .second, .val (.long q2), .second, .val (.int p3), .val (.ref r4), .val (.ref r5), .val (.long q6), .second, .val (.long q7), .second, .val (.ref r8)] [])) _
    refine XS.aloadN X7.here hx rfl (hb hby d6_38) rfl rfl ?_
    show Steps p.tables e below (T7.setTop (mkF m 39 #[.val (.ref r0), .val (.long q1), .second, .val (.long q2), .second, .val (.int p3), .val (.ref r4), .val (.ref r5), .val (.long q6), .second, .val (.long q7), .second, .val (.ref r8)] [(.ref r0)])) _
    refine XS.lload X7.here hx rfl (hb hby d6_39) rfl ?_
    show Steps p.tables e below (T7.setTop (mkF m 41 #[.val (.ref r0), .val (.long q1), .second, .val (.long q2), .second, .val (.int p3), .val (.ref r4), .val (.ref r5), .val (.long q6), .second, .val (.long q7), .second, .val (.ref r8)] [(.long q7), (.ref r0)])) _
    refine st8 _ ?_
    show Steps p.tables e below (T8.setTop (mkF m 44 #[.val (.ref r0), .val (.long q1), .second, .val (.long q2), .second, .val (.int p3), .val (.ref r4), .val (.ref r5), .val (.long q6), .second, .val (.long q7), .second, .val (.ref r8)] [])) _
    refine XS.aloadN X8.here hx rfl (hb hby d6_44) rfl rfl ?_
    show Steps p.tables e below (T8.setTop (mkF m 45 #[.val (.ref r0), .val (.long q1), .second, .val (.long q2), .second, .val (.int p3), .val (.ref r4), .val (.ref r5), .val (.long q6), .second, .val (.long q7), .second, .val (.ref r8)] [(.ref r0)])) _
    refine XS.aload X8.here hx rfl (hb hby d6_45) rfl rfl ?_
    show Steps p.tables e below (T8.setTop (mkF m 47 #[.val (.ref r0), .val (.long q1), .second, .val (.long q2), .second, .val (.int p3), .val (.ref r4), .val (.ref r5), .val (.long q6), .second, .val (.long q7), .second, .val (.ref r8)] [(.ref r8), (.ref r0)])) _
    refine st9 _ ?_
    show Steps p.tables e below (T9.setTop (mkF m 50 #[.val (.ref r0), .val (.long q1), .second, .val (.long q2), .second, .val (.int p3), .val (.ref r4), .val (.ref r5), .val (.long q6), .second, .val (.long q7), .second, .val (.ref r8)] [])) _
    exact X9.returnOut hx Bd.returns (hb hby d6_50) hr
  · show Q6 Z r0 q1 q2 p3 r4 r5 q6 q7 r8 h0 n0 _ T9.heap _
    rw [e9]
    exact ⟨rfl, N9, K9, (Exa.wr W9 (Exa.wr W8 (Exa.wr W7 (Exa.wr W6 (Exa.wr W5 (Exa.wr W4 (Exa.wr W3 (Exa.wr W2 E_r)))))))), (Fld.other W9 (Fld.other W8 (Fld.other W7 (Fld.other W6 (Fld.other W5 (Fld.other W4 (Fld.other W3 Fw2 (Or.inr (slot_ne (Or.inr (hw _ (List.mem_of_getElem? (i := 39) rfl))) (Or.inr (hw _ (List.mem_of_getElem? (i := 41) rfl))) (by decide) (t := .long) (t' := .long) (by decide) (by decide)))) (Or.inr (slot_ne (Or.inr (hw _ (List.mem_of_getElem? (i := 39) rfl))) (Or.inr (hw _ (List.mem_of_getElem? (i := 43) rfl))) (by decide) (t := .long) (t' := .int) (by decide) (by decide)))) (Or.inr (slot_ne (Or.inr (hw _ (List.mem_of_getElem? (i := 39) rfl))) (Or.inr (hw _ (List.mem_of_getElem? (i := 45) rfl))) (by decide) (t := .long) (t' := (.object "java/lang/String")) (by decide) (by decide)))) (Or.inr (slot_ne (Or.inr (hw _ (List.mem_of_getElem? (i := 39) rfl))) (Or.inr (hw _ (List.mem_of_getElem? (i := 47) rfl))) (by decide) (t := .long) (t' := (.object "java/lang/String")) (by decide) (by decide)))) (Or.inr (slot_ne (Or.inr (hw _ (List.mem_of_getElem? (i := 39) rfl))) (Or.inr (hw _ (List.mem_of_getElem? (i := 49) rfl))) (by decide) (t := .long) (t' := .long) (by decide) (by decide)))) (Or.inr (slot_ne (Or.inr (hw _ (List.mem_of_getElem? (i := 39) rfl))) (Or.inr (hw _ (List.mem_of_getElem? (i := 51) rfl))) (by decide) (t := .long) (t' := .long) (by decide) (by decide)))) (Or.inr (slot_ne (Or.inr (hw _ (List.mem_of_getElem? (i := 39) rfl))) (Or.inr (hw _ (List.mem_of_getElem? (i := 53) rfl))) (by decide) (t := .long) (t' := (.object "java/lang/String")) (by decide) (by decide)))), (Fld.other W9 (Fld.other W8 (Fld.other W7 (Fld.other W6 (Fld.other W5 (Fld.other W4 Fw3 (Or.inr (slot_ne (Or.inr (hw _ (List.mem_of_getElem? (i := 41) rfl))) (Or.inr (hw _ (List.mem_of_getElem? (i := 43) rfl))) (by decide) (t := .long) (t' := .int) (by decide) (by decide)))) (Or.inr (slot_ne (Or.inr (hw _ (List.mem_of_getElem? (i := 41) rfl))) (Or.inr (hw _ (List.mem_of_getElem? (i := 45) rfl))) (by decide) (t := .long) (t' := (.object "java/lang/String")) (by decide) (by decide)))) (Or.inr (slot_ne (Or.inr (hw _ (List.mem_of_getElem? (i := 41) rfl))) (Or.inr (hw _ (List.mem_of_getElem? (i := 47) rfl))) (by decide) (t := .long) (t' := (.object "java/lang/String")) (by decide) (by decide)))) (Or.inr (slot_ne (Or.inr (hw _ (List.mem_of_getElem? (i := 41) rfl))) (Or.inr (hw _ (List.mem_of_getElem? (i := 49) rfl))) (by decide) (t := .long) (t' := .long) (by decide) (by decide)))) (Or.inr (slot_ne (Or.inr (hw _ (List.mem_of_getElem? (i := 41) rfl))) (Or.inr (hw _ (List.mem_of_getElem? (i := 51) rfl))) (by decide) (t := .long) (t' := .long) (by decide) (by decide)))) (Or.inr (slot_ne (Or.inr (hw _ (List.mem_of_getElem? (i := 41) rfl))) (Or.inr (hw _ (List.mem_of_getElem? (i := 53) rfl))) (by decide) (t := .long) (t' := (.object "java/lang/String")) (by decide) (by decide)))), (Fld.other W9 (Fld.other W8 (Fld.other W7 (Fld.other W6 (Fld.other W5 Fw4 (Or.inr (slot_ne (Or.inr (hw _ (List.mem_of_getElem? (i := 43) rfl))) (Or.inr (hw _ (List.mem_of_getElem? (i := 45) rfl))) (by decide) (t := .int) (t' := (.object "java/lang/String")) (by decide) (by decide)))) (Or.inr (slot_ne (Or.inr (hw _ (List.mem_of_getElem? (i := 43) rfl))) (Or.inr (hw _ (List.mem_of_getElem? (i := 47) rfl))) (by decide) (t := .int) (t' := (.object "java/lang/String")) (by decide) (by decide)))) (Or.inr (slot_ne (Or.inr (hw _ (List.mem_of_getElem? (i := 43) rfl))) (Or.inr (hw _ (List.mem_of_getElem? (i := 49) rfl))) (by decide) (t := .int) (t' := .long) (by decide) (by decide)))) (Or.inr (slot_ne (Or.inr (hw _ (List.mem_of_getElem? (i := 43) rfl))) (Or.inr (hw _ (List.mem_of_getElem? (i := 51) rfl))) (by decide) (t := .int) (t' := .long) (by decide) (by decide)))) (Or.inr (slot_ne (Or.inr (hw _ (List.mem_of_getElem? (i := 43) rfl))) (Or.inr (hw _ (List.mem_of_getElem? (i := 53) rfl))) (by decide) (t := .int) (t' := (.object "java/lang/String")) (by decide) (by decide)))), (Fld.other W9 (Fld.other W8 (Fld.other W7 (Fld.other W6 Fw5 (Or.inr (slot_ne (Or.inr (hw _ (List.mem_of_getElem? (i := 45) rfl))) (Or.inr (hw _ (List.mem_of_getElem? (i := 47) rfl))) (by decide) (t := (.object "java/lang/String")) (t' := (.object "java/lang/String")) (by decide) (by decide)))) (Or.inr (slot_ne (Or.inr (hw _ (List.mem_of_getElem? (i := 45) rfl))) (Or.inr (hw _ (List.mem_of_getElem? (i := 49) rfl))) (by decide) (t := (.object "java/lang/String")) (t' := .long) (by decide) (by decide)))) (Or.inr (slot_ne (Or.inr (hw _ (List.mem_of_getElem? (i := 45) rfl))) (Or.inr (hw _ (List.mem_of_getElem? (i := 51) rfl))) (by decide) (t := (.object "java/lang/String")) (t' := .long) (by decide) (by decide)))) (Or.inr (slot_ne (Or.inr (hw _ (List.mem_of_getElem? (i := 45) rfl))) (Or.inr (hw _ (List.mem_of_getElem? (i := 53) rfl))) (by decide) (t := (.object "java/lang/String")) (t' := (.object "java/lang/String")) (by decide) (by decide)))), (Fld.other W9 (Fld.other W8 (Fld.other W7 Fw6 (Or.inr (slot_ne (Or.inr (hw _ (List.mem_of_getElem? (i := 47) rfl))) (Or.inr (hw _ (List.mem_of_getElem? (i := 49) rfl))) (by decide) (t := (.object "java/lang/String")) (t' := .long) (by decide) (by decide)))) (Or.inr (slot_ne (Or.inr (hw _ (List.mem_of_getElem? (i := 47) rfl))) (Or.inr (hw _ (List.mem_of_getElem? (i := 51) rfl))) (by decide) (t := (.object "java/lang/String")) (t' := .long) (by decide) (by decide)))) (Or.inr (slot_ne (Or.inr (hw _ (List.mem_of_getElem? (i := 47) rfl))) (Or.inr (hw _ (List.mem_of_getElem? (i := 53) rfl))) (by decide) (t := (.object "java/lang/String")) (t' := (.object "java/lang/String")) (by decide) (by decide)))), (Fld.other W9 (Fld.other W8 Fw7 (Or.inr (slot_ne (Or.inr (hw _ (List.mem_of_getElem? (i := 49) rfl))) (Or.inr (hw _ (List.mem_of_getElem? (i := 51) rfl))) (by decide) (t := .long) (t' := .long) (by decide) (by decide)))) (Or.inr (slot_ne (Or.inr (hw _ (List.mem_of_getElem? (i := 49) rfl))) (Or.inr (hw _ (List.mem_of_getElem? (i := 53) rfl))) (by decide) (t := .long) (t' := (.object "java/lang/String")) (by decide) (by decide)))), (Fld.other W9 Fw8 (Or.inr (slot_ne (Or.inr (hw _ (List.mem_of_getElem? (i := 51) rfl))) (Or.inr (hw _ (List.mem_of_getElem? (i := 53) rfl))) (by decide) (t := .long) (t' := (.object "java/lang/String")) (by decide) (by decide)))), Fw9⟩
theorem ef_6n (r0 : Addr) (q1 : Int64) (q2 : Int64) (p3 : Int32) (q6 : Int64) (q7 : Int64)  (m : MethodId) : entryFrame m #[(.ref r0), (.long q1), (.long q2), (.int p3), .null, .null, (.long q6), (.long q7), .null] 13 = mkF m 0 #[.val (.ref r0), .val (.long q1), .second, .val (.long q2), .second, .val (.int p3), .val .null, .val .null, .val (.long q6), .second, .val (.long q7), .second, .val .null] [] := by first | (simp [entryFrame, mkF, argsToLocals, Value.category]; done) | rfl
def Q6n (Z : State) (r0 : Addr) (q1 : Int64) (q2 : Int64) (p3 : Int32) (q6 : Int64) (q7 : Int64)  (h0 : Heap) (n0 : Nat) (v : Option Value) (h : Heap) (L : List Loc) : Prop := v = none ∧ Fr n0 L ∧ Keep h0 h [r0] ∧ Exa Z h r0 "com/example/recourse/recourse/store/StoredDeadLetter" ∧ Fld Z h r0 "com/example/recourse/recourse/store/StoredDeadLetter" "sequence" "J" (.long q1) ∧ Fld Z h r0 "com/example/recourse/recourse/store/StoredDeadLetter" "originSequence" "J" (.long q2) ∧ Fld Z h r0 "com/example/recourse/recourse/store/StoredDeadLetter" "reconsumeTimes" "I" (.int p3) ∧ Fld Z h r0 "com/example/recourse/recourse/store/StoredDeadLetter" "topic" "Ljava/lang/String;" .null ∧ Fld Z h r0 "com/example/recourse/recourse/store/StoredDeadLetter" "group" "Ljava/lang/String;" .null ∧ Fld Z h r0 "com/example/recourse/recourse/store/StoredDeadLetter" "failedSequence" "J" (.long q6) ∧ Fld Z h r0 "com/example/recourse/recourse/store/StoredDeadLetter" "deadLetteredAtMillis" "J" (.long q7) ∧ Fld Z h r0 "com/example/recourse/recourse/store/StoredDeadLetter" "deadLetterTopic" "Ljava/lang/String;" .null
set_option maxRecDepth 65536 in
set_option maxHeartbeats 40000000 in
theorem rm6n (l : Launch) (Z : State) (a0 : Array Value) (hw : ∀ d ∈ tables_1, d.before a0 Z = true) (ws : List Jvm.Cond) (r0 : Addr) (q1 : Int64) (q2 : Int64) (p3 : Int32) (q6 : Int64) (q7 : Int64)  (h0 : Heap) (n0 : Nat) (Z0 : n0 ≤ h0.size) (E_r : Exa Z h0 r0 "com/example/recourse/recourse/store/StoredDeadLetter") (F_sequence : Fld Z h0 r0 "com/example/recourse/recourse/store/StoredDeadLetter" "sequence" "J" (.long (0 : Int64))) (F_originSequence : Fld Z h0 r0 "com/example/recourse/recourse/store/StoredDeadLetter" "originSequence" "J" (.long (0 : Int64))) (F_reconsumeTimes : Fld Z h0 r0 "com/example/recourse/recourse/store/StoredDeadLetter" "reconsumeTimes" "I" (.int (0 : Int32))) (F_topic : Fld Z h0 r0 "com/example/recourse/recourse/store/StoredDeadLetter" "topic" "Ljava/lang/String;" .null) (F_group : Fld Z h0 r0 "com/example/recourse/recourse/store/StoredDeadLetter" "group" "Ljava/lang/String;" .null) (F_failedSequence : Fld Z h0 r0 "com/example/recourse/recourse/store/StoredDeadLetter" "failedSequence" "J" (.long (0 : Int64))) (F_deadLetteredAtMillis : Fld Z h0 r0 "com/example/recourse/recourse/store/StoredDeadLetter" "deadLetteredAtMillis" "J" (.long (0 : Int64))) (F_deadLetterTopic : Fld Z h0 r0 "com/example/recourse/recourse/store/StoredDeadLetter" "deadLetterTopic" "Ljava/lang/String;" .null) (g_r0 : n0 ≤ r0) :
    MetFree l (⟨"com/example/recourse/recourse/store/StoredDeadLetter", "<init>", "(JJILjava/lang/String;Ljava/lang/String;JJLjava/lang/String;)V"⟩ : MethodName) (head1 (Jvm.Cond.code (⟨"com/example/recourse/recourse/store/StoredDeadLetter", "<init>", "(JJILjava/lang/String;Ljava/lang/String;JJLjava/lang/String;)V"⟩ : MethodName) prog_40_method_1_code 13 none :: ws) ({ frames := 2, cells := 0, slots := 0, locals := 24 } : Room)) (fun a U => a = #[(.ref r0), (.long q1), (.long q2), (.int p3), .null, .null, (.long q6), (.long q7), .null] ∧ Z.Warmed39 U.vm ∧ U.heap = h0) (fun _ _ _ _ _ => True) (fun _ U o U' => ∃ v L, o = .returned v ∧ Q6n Z r0 q1 q2 p3 q6 q7 h0 n0 v U'.heap L ∧ FrameEnd U o U' L ({ frames := 2, cells := 0, slots := 0, locals := 24 } : Room).cells ({ frames := 2, cells := 0, slots := 0, locals := 24 } : Room).slots) := by
  refine MetFree.of_bodySF (plainFor_of_name pn_com_example_recourse_recourse_store_StoredDeadLetter) hisR ?_
  intro p e s m args below meth c s₁ Bd hml0 hP hK
  obtain ⟨rfl, hZ, hh⟩ := hP
  have hx := Bd.exec
  have hby := Bd.bytes
  have hml : c.maxLocals = 13 := hml0
  have hown : s.vm.findClass "com/example/recourse/recourse/store/StoredDeadLetter" = some m.cls := findClass_of_methodNamed Bd.named
  have hnm := (name_of_methodNamed Bd.named Bd.method).1
  have X0 : Stand p l e ({ frames := 2, cells := 0, slots := 0, locals := 24 } : Room) s m #[(.ref r0), (.long q1), (.long q2), (.int p3), .null, .null, (.long q6), (.long q7), .null] below meth c s₁ [] 0 0 := Stand.of_body Bd
  have e0 : s₁.heap = h0 := by rw [← hh, Bd.state]; rfl
  have N0 := Fr.nil n0
  have pre0 : ∀ t, Steps p.tables e below (s₁.setTop (mkF m 0 #[.val (.ref r0), .val (.long q1), .second, .val (.long q2), .second, .val (.int p3), .val .null, .val .null, .val (.long q6), .second, .val (.long q7), .second, .val .null] [])) t → Steps p.tables e below (s₁.setTop (entryFrame m #[(.ref r0), (.long q1), (.long q2), (.int p3), .null, .null, (.long q6), (.long q7), .null] 13)) t := fun t k => castTop (ef_6n r0 q1 q2 p3 q6 q7 m) k
  obtain ⟨_, _, ⟨T1, L1, k1, n1⟩, -, X1, ⟨Lc1, hQ1, ll1, ly1, lz1⟩, st1⟩ := X0.specialBack hx (y := (⟨"java/lang/Record", "<init>", "()V"⟩ : MethodName)) rfl hown (mvT hZ (hw _ (List.mem_of_getElem? (i := 32) rfl))) (mvT hZ (hw _ (List.mem_of_getElem? (i := 33) rfl))) (mvT hZ (hw _ (List.mem_of_getElem? (i := 36) rfl))) (by decide) (backOf (W := 0) (rm7 l Z a0 hw [] r0 h0 n0 Z0 ) hZ (hw _ (List.mem_of_getElem? (i := 36) rfl)) (hw _ (List.mem_of_getElem? (i := 35) rfl)) (by decide) (by decide)) (g := (mkF m 1 #[.val (.ref r0), .val (.long q1), .second, .val (.long q2), .second, .val (.int p3), .val .null, .val .null, .val (.long q6), .second, .val (.long q7), .second, .val .null] [(.ref r0)])) rfl (by rw [hml]; rfl) (Steps.refl _) (a := r0) (argsL := []) (rest := []) (lenOf pd___V rfl) rfl (by show 2 * 0 + _ ≤ _; exact Nat.le_of_eq rfl) (hb hby d6_1) (fun _ _ => ⟨rfl, e0, (by decide : 0 + 0 ≤ _), (by decide : 0 + 0 ≤ _)⟩)
  dsimp only [Pt.U, Pt.locs, Pt.cells, Pt.slots] at X1 ll1 ly1 lz1 st1 hQ1
  subst ll1 ly1 lz1
  obtain ⟨rfl, N1q, e1⟩ := hQ1
  have N1 := Fr.app N0 N1q
  obtain ⟨T2, h2, X2, e2, W2, st2⟩ := putF X1 hx hZ hown (host := "") (Or.inl (hw _ (List.mem_of_getElem? (i := 38) rfl))) Via.refl e1 F_sequence E_r (Or.inr ⟨(hw _ (List.mem_of_getElem? (i := 39) rfl)), rfl, hnm⟩) (hw _ (List.mem_of_getElem? (i := 27) rfl)) (ty := .long) (by decide) rfl rfl (g := (mkF m 6 #[.val (.ref r0), .val (.long q1), .second, .val (.long q2), .second, .val (.int p3), .val .null, .val .null, .val (.long q6), .second, .val (.long q7), .second, .val .null] [(.long q1), (.ref r0)])) rfl rfl (hb hby d6_6)
  have Fw2 : Fld Z h2 r0 "com/example/recourse/recourse/store/StoredDeadLetter" "sequence" "J" (.long q1) := Fld.same W2 F_sequence
  have K2 : Keep h0 h2 [r0] := (Keep.refl h0 [r0]).wr W2 (Or.inl (List.mem_of_getElem? (i := 0) rfl))
  have N2 := Fr.snoc X2 N1 g_r0
  obtain ⟨T3, h3, X3, e3, W3, st3⟩ := putF X2 hx hZ hown (host := "") (Or.inl (hw _ (List.mem_of_getElem? (i := 40) rfl))) Via.refl e2 (Fld.other W2 F_originSequence (Or.inr (slot_ne (Or.inr (hw _ (List.mem_of_getElem? (i := 41) rfl))) (Or.inr (hw _ (List.mem_of_getElem? (i := 39) rfl))) (by decide) (t := .long) (t' := .long) (by decide) (by decide)))) (Exa.wr W2 E_r) (Or.inr ⟨(hw _ (List.mem_of_getElem? (i := 41) rfl)), rfl, hnm⟩) (hw _ (List.mem_of_getElem? (i := 27) rfl)) (ty := .long) (by decide) rfl rfl (g := (mkF m 11 #[.val (.ref r0), .val (.long q1), .second, .val (.long q2), .second, .val (.int p3), .val .null, .val .null, .val (.long q6), .second, .val (.long q7), .second, .val .null] [(.long q2), (.ref r0)])) rfl rfl (hb hby d6_11)
  have Fw3 : Fld Z h3 r0 "com/example/recourse/recourse/store/StoredDeadLetter" "originSequence" "J" (.long q2) := Fld.same W3 (Fld.other W2 F_originSequence (Or.inr (slot_ne (Or.inr (hw _ (List.mem_of_getElem? (i := 41) rfl))) (Or.inr (hw _ (List.mem_of_getElem? (i := 39) rfl))) (by decide) (t := .long) (t' := .long) (by decide) (by decide))))
  have K3 : Keep h0 h3 [r0] := K2.wr W3 (Or.inl (List.mem_of_getElem? (i := 0) rfl))
  have N3 := Fr.snoc X3 N2 g_r0
  obtain ⟨T4, h4, X4, e4, W4, st4⟩ := putF X3 hx hZ hown (host := "") (Or.inl (hw _ (List.mem_of_getElem? (i := 42) rfl))) Via.refl e3 (Fld.other W3 (Fld.other W2 F_reconsumeTimes (Or.inr (slot_ne (Or.inr (hw _ (List.mem_of_getElem? (i := 43) rfl))) (Or.inr (hw _ (List.mem_of_getElem? (i := 39) rfl))) (by decide) (t := .int) (t' := .long) (by decide) (by decide)))) (Or.inr (slot_ne (Or.inr (hw _ (List.mem_of_getElem? (i := 43) rfl))) (Or.inr (hw _ (List.mem_of_getElem? (i := 41) rfl))) (by decide) (t := .int) (t' := .long) (by decide) (by decide)))) (Exa.wr W3 (Exa.wr W2 E_r)) (Or.inr ⟨(hw _ (List.mem_of_getElem? (i := 43) rfl)), rfl, hnm⟩) (hw _ (List.mem_of_getElem? (i := 27) rfl)) (ty := .int) (by decide) rfl rfl (g := (mkF m 17 #[.val (.ref r0), .val (.long q1), .second, .val (.long q2), .second, .val (.int p3), .val .null, .val .null, .val (.long q6), .second, .val (.long q7), .second, .val .null] [(.int p3), (.ref r0)])) rfl rfl (hb hby d6_17)
  have Fw4 : Fld Z h4 r0 "com/example/recourse/recourse/store/StoredDeadLetter" "reconsumeTimes" "I" (.int p3) := Fld.same W4 (Fld.other W3 (Fld.other W2 F_reconsumeTimes (Or.inr (slot_ne (Or.inr (hw _ (List.mem_of_getElem? (i := 43) rfl))) (Or.inr (hw _ (List.mem_of_getElem? (i := 39) rfl))) (by decide) (t := .int) (t' := .long) (by decide) (by decide)))) (Or.inr (slot_ne (Or.inr (hw _ (List.mem_of_getElem? (i := 43) rfl))) (Or.inr (hw _ (List.mem_of_getElem? (i := 41) rfl))) (by decide) (t := .int) (t' := .long) (by decide) (by decide))))
  have K4 : Keep h0 h4 [r0] := K3.wr W4 (Or.inl (List.mem_of_getElem? (i := 0) rfl))
  have N4 := Fr.snoc X4 N3 g_r0
  obtain ⟨T5, h5, X5, e5, W5, st5⟩ := putF X4 hx hZ hown (host := "") (Or.inl (hw _ (List.mem_of_getElem? (i := 44) rfl))) Via.refl e4 (Fld.other W4 (Fld.other W3 (Fld.other W2 F_topic (Or.inr (slot_ne (Or.inr (hw _ (List.mem_of_getElem? (i := 45) rfl))) (Or.inr (hw _ (List.mem_of_getElem? (i := 39) rfl))) (by decide) (t := (.object "java/lang/String")) (t' := .long) (by decide) (by decide)))) (Or.inr (slot_ne (Or.inr (hw _ (List.mem_of_getElem? (i := 45) rfl))) (Or.inr (hw _ (List.mem_of_getElem? (i := 41) rfl))) (by decide) (t := (.object "java/lang/String")) (t' := .long) (by decide) (by decide)))) (Or.inr (slot_ne (Or.inr (hw _ (List.mem_of_getElem? (i := 45) rfl))) (Or.inr (hw _ (List.mem_of_getElem? (i := 43) rfl))) (by decide) (t := (.object "java/lang/String")) (t' := .int) (by decide) (by decide)))) (Exa.wr W4 (Exa.wr W3 (Exa.wr W2 E_r))) (Or.inr ⟨(hw _ (List.mem_of_getElem? (i := 45) rfl)), rfl, hnm⟩) (hw _ (List.mem_of_getElem? (i := 27) rfl)) (ty := (.object "java/lang/String")) (by decide) rfl rfl (g := (mkF m 23 #[.val (.ref r0), .val (.long q1), .second, .val (.long q2), .second, .val (.int p3), .val .null, .val .null, .val (.long q6), .second, .val (.long q7), .second, .val .null] [.null, (.ref r0)])) rfl rfl (hb hby d6_23)
  have Fw5 : Fld Z h5 r0 "com/example/recourse/recourse/store/StoredDeadLetter" "topic" "Ljava/lang/String;" .null := Fld.same W5 (Fld.other W4 (Fld.other W3 (Fld.other W2 F_topic (Or.inr (slot_ne (Or.inr (hw _ (List.mem_of_getElem? (i := 45) rfl))) (Or.inr (hw _ (List.mem_of_getElem? (i := 39) rfl))) (by decide) (t := (.object "java/lang/String")) (t' := .long) (by decide) (by decide)))) (Or.inr (slot_ne (Or.inr (hw _ (List.mem_of_getElem? (i := 45) rfl))) (Or.inr (hw _ (List.mem_of_getElem? (i := 41) rfl))) (by decide) (t := (.object "java/lang/String")) (t' := .long) (by decide) (by decide)))) (Or.inr (slot_ne (Or.inr (hw _ (List.mem_of_getElem? (i := 45) rfl))) (Or.inr (hw _ (List.mem_of_getElem? (i := 43) rfl))) (by decide) (t := (.object "java/lang/String")) (t' := .int) (by decide) (by decide))))
  have K5 : Keep h0 h5 [r0] := K4.wr W5 (Or.inl (List.mem_of_getElem? (i := 0) rfl))
  have N5 := Fr.snoc X5 N4 g_r0
  obtain ⟨T6, h6, X6, e6, W6, st6⟩ := putF X5 hx hZ hown (host := "") (Or.inl (hw _ (List.mem_of_getElem? (i := 46) rfl))) Via.refl e5 (Fld.other W5 (Fld.other W4 (Fld.other W3 (Fld.other W2 F_group (Or.inr (slot_ne (Or.inr (hw _ (List.mem_of_getElem? (i := 47) rfl))) (Or.inr (hw _ (List.mem_of_getElem? (i := 39) rfl))) (by decide) (t := (.object "java/lang/String")) (t' := .long) (by decide) (by decide)))) (Or.inr (slot_ne (Or.inr (hw _ (List.mem_of_getElem? (i := 47) rfl))) (Or.inr (hw _ (List.mem_of_getElem? (i := 41) rfl))) (by decide) (t := (.object "java/lang/String")) (t' := .long) (by decide) (by decide)))) (Or.inr (slot_ne (Or.inr (hw _ (List.mem_of_getElem? (i := 47) rfl))) (Or.inr (hw _ (List.mem_of_getElem? (i := 43) rfl))) (by decide) (t := (.object "java/lang/String")) (t' := .int) (by decide) (by decide)))) (Or.inr (slot_ne (Or.inr (hw _ (List.mem_of_getElem? (i := 47) rfl))) (Or.inr (hw _ (List.mem_of_getElem? (i := 45) rfl))) (by decide) (t := (.object "java/lang/String")) (t' := (.object "java/lang/String")) (by decide) (by decide)))) (Exa.wr W5 (Exa.wr W4 (Exa.wr W3 (Exa.wr W2 E_r)))) (Or.inr ⟨(hw _ (List.mem_of_getElem? (i := 47) rfl)), rfl, hnm⟩) (hw _ (List.mem_of_getElem? (i := 27) rfl)) (ty := (.object "java/lang/String")) (by decide) rfl rfl (g := (mkF m 29 #[.val (.ref r0), .val (.long q1), .second, .val (.long q2), .second, .val (.int p3), .val .null, .val .null, .val (.long q6), .second, .val (.long q7), .second, .val .null] [.null, (.ref r0)])) rfl rfl (hb hby d6_29)
  have Fw6 : Fld Z h6 r0 "com/example/recourse/recourse/store/StoredDeadLetter" "group" "Ljava/lang/String;" .null := Fld.same W6 (Fld.other W5 (Fld.other W4 (Fld.other W3 (Fld.other W2 F_group (Or.inr (slot_ne (Or.inr (hw _ (List.mem_of_getElem? (i := 47) rfl))) (Or.inr (hw _ (List.mem_of_getElem? (i := 39) rfl))) (by decide) (t := (.object "java/lang/String")) (t' := .long) (by decide) (by decide)))) (Or.inr (slot_ne (Or.inr (hw _ (List.mem_of_getElem? (i := 47) rfl))) (Or.inr (hw _ (List.mem_of_getElem? (i := 41) rfl))) (by decide) (t := (.object "java/lang/String")) (t' := .long) (by decide) (by decide)))) (Or.inr (slot_ne (Or.inr (hw _ (List.mem_of_getElem? (i := 47) rfl))) (Or.inr (hw _ (List.mem_of_getElem? (i := 43) rfl))) (by decide) (t := (.object "java/lang/String")) (t' := .int) (by decide) (by decide)))) (Or.inr (slot_ne (Or.inr (hw _ (List.mem_of_getElem? (i := 47) rfl))) (Or.inr (hw _ (List.mem_of_getElem? (i := 45) rfl))) (by decide) (t := (.object "java/lang/String")) (t' := (.object "java/lang/String")) (by decide) (by decide))))
  have K6 : Keep h0 h6 [r0] := K5.wr W6 (Or.inl (List.mem_of_getElem? (i := 0) rfl))
  have N6 := Fr.snoc X6 N5 g_r0
  obtain ⟨T7, h7, X7, e7, W7, st7⟩ := putF X6 hx hZ hown (host := "") (Or.inl (hw _ (List.mem_of_getElem? (i := 48) rfl))) Via.refl e6 (Fld.other W6 (Fld.other W5 (Fld.other W4 (Fld.other W3 (Fld.other W2 F_failedSequence (Or.inr (slot_ne (Or.inr (hw _ (List.mem_of_getElem? (i := 49) rfl))) (Or.inr (hw _ (List.mem_of_getElem? (i := 39) rfl))) (by decide) (t := .long) (t' := .long) (by decide) (by decide)))) (Or.inr (slot_ne (Or.inr (hw _ (List.mem_of_getElem? (i := 49) rfl))) (Or.inr (hw _ (List.mem_of_getElem? (i := 41) rfl))) (by decide) (t := .long) (t' := .long) (by decide) (by decide)))) (Or.inr (slot_ne (Or.inr (hw _ (List.mem_of_getElem? (i := 49) rfl))) (Or.inr (hw _ (List.mem_of_getElem? (i := 43) rfl))) (by decide) (t := .long) (t' := .int) (by decide) (by decide)))) (Or.inr (slot_ne (Or.inr (hw _ (List.mem_of_getElem? (i := 49) rfl))) (Or.inr (hw _ (List.mem_of_getElem? (i := 45) rfl))) (by decide) (t := .long) (t' := (.object "java/lang/String")) (by decide) (by decide)))) (Or.inr (slot_ne (Or.inr (hw _ (List.mem_of_getElem? (i := 49) rfl))) (Or.inr (hw _ (List.mem_of_getElem? (i := 47) rfl))) (by decide) (t := .long) (t' := (.object "java/lang/String")) (by decide) (by decide)))) (Exa.wr W6 (Exa.wr W5 (Exa.wr W4 (Exa.wr W3 (Exa.wr W2 E_r))))) (Or.inr ⟨(hw _ (List.mem_of_getElem? (i := 49) rfl)), rfl, hnm⟩) (hw _ (List.mem_of_getElem? (i := 27) rfl)) (ty := .long) (by decide) rfl rfl (g := (mkF m 35 #[.val (.ref r0), .val (.long q1), .second, .val (.long q2), .second, .val (.int p3), .val .null, .val .null, .val (.long q6), .second, .val (.long q7), .second, .val .null] [(.long q6), (.ref r0)])) rfl rfl (hb hby d6_35)
  have Fw7 : Fld Z h7 r0 "com/example/recourse/recourse/store/StoredDeadLetter" "failedSequence" "J" (.long q6) := Fld.same W7 (Fld.other W6 (Fld.other W5 (Fld.other W4 (Fld.other W3 (Fld.other W2 F_failedSequence (Or.inr (slot_ne (Or.inr (hw _ (List.mem_of_getElem? (i := 49) rfl))) (Or.inr (hw _ (List.mem_of_getElem? (i := 39) rfl))) (by decide) (t := .long) (t' := .long) (by decide) (by decide)))) (Or.inr (slot_ne (Or.inr (hw _ (List.mem_of_getElem? (i := 49) rfl))) (Or.inr (hw _ (List.mem_of_getElem? (i := 41) rfl))) (by decide) (t := .long) (t' := .long) (by decide) (by decide)))) (Or.inr (slot_ne (Or.inr (hw _ (List.mem_of_getElem? (i := 49) rfl))) (Or.inr (hw _ (List.mem_of_getElem? (i := 43) rfl))) (by decide) (t := .long) (t' := .int) (by decide) (by decide)))) (Or.inr (slot_ne (Or.inr (hw _ (List.mem_of_getElem? (i := 49) rfl))) (Or.inr (hw _ (List.mem_of_getElem? (i := 45) rfl))) (by decide) (t := .long) (t' := (.object "java/lang/String")) (by decide) (by decide)))) (Or.inr (slot_ne (Or.inr (hw _ (List.mem_of_getElem? (i := 49) rfl))) (Or.inr (hw _ (List.mem_of_getElem? (i := 47) rfl))) (by decide) (t := .long) (t' := (.object "java/lang/String")) (by decide) (by decide))))
  have K7 : Keep h0 h7 [r0] := K6.wr W7 (Or.inl (List.mem_of_getElem? (i := 0) rfl))
  have N7 := Fr.snoc X7 N6 g_r0
  obtain ⟨T8, h8, X8, e8, W8, st8⟩ := putF X7 hx hZ hown (host := "") (Or.inl (hw _ (List.mem_of_getElem? (i := 50) rfl))) Via.refl e7 (Fld.other W7 (Fld.other W6 (Fld.other W5 (Fld.other W4 (Fld.other W3 (Fld.other W2 F_deadLetteredAtMillis (Or.inr (slot_ne (Or.inr (hw _ (List.mem_of_getElem? (i := 51) rfl))) (Or.inr (hw _ (List.mem_of_getElem? (i := 39) rfl))) (by decide) (t := .long) (t' := .long) (by decide) (by decide)))) (Or.inr (slot_ne (Or.inr (hw _ (List.mem_of_getElem? (i := 51) rfl))) (Or.inr (hw _ (List.mem_of_getElem? (i := 41) rfl))) (by decide) (t := .long) (t' := .long) (by decide) (by decide)))) (Or.inr (slot_ne (Or.inr (hw _ (List.mem_of_getElem? (i := 51) rfl))) (Or.inr (hw _ (List.mem_of_getElem? (i := 43) rfl))) (by decide) (t := .long) (t' := .int) (by decide) (by decide)))) (Or.inr (slot_ne (Or.inr (hw _ (List.mem_of_getElem? (i := 51) rfl))) (Or.inr (hw _ (List.mem_of_getElem? (i := 45) rfl))) (by decide) (t := .long) (t' := (.object "java/lang/String")) (by decide) (by decide)))) (Or.inr (slot_ne (Or.inr (hw _ (List.mem_of_getElem? (i := 51) rfl))) (Or.inr (hw _ (List.mem_of_getElem? (i := 47) rfl))) (by decide) (t := .long) (t' := (.object "java/lang/String")) (by decide) (by decide)))) (Or.inr (slot_ne (Or.inr (hw _ (List.mem_of_getElem? (i := 51) rfl))) (Or.inr (hw _ (List.mem_of_getElem? (i := 49) rfl))) (by decide) (t := .long) (t' := .long) (by decide) (by decide)))) (Exa.wr W7 (Exa.wr W6 (Exa.wr W5 (Exa.wr W4 (Exa.wr W3 (Exa.wr W2 E_r)))))) (Or.inr ⟨(hw _ (List.mem_of_getElem? (i := 51) rfl)), rfl, hnm⟩) (hw _ (List.mem_of_getElem? (i := 27) rfl)) (ty := .long) (by decide) rfl rfl (g := (mkF m 41 #[.val (.ref r0), .val (.long q1), .second, .val (.long q2), .second, .val (.int p3), .val .null, .val .null, .val (.long q6), .second, .val (.long q7), .second, .val .null] [(.long q7), (.ref r0)])) rfl rfl (hb hby d6_41)
  have Fw8 : Fld Z h8 r0 "com/example/recourse/recourse/store/StoredDeadLetter" "deadLetteredAtMillis" "J" (.long q7) := Fld.same W8 (Fld.other W7 (Fld.other W6 (Fld.other W5 (Fld.other W4 (Fld.other W3 (Fld.other W2 F_deadLetteredAtMillis (Or.inr (slot_ne (Or.inr (hw _ (List.mem_of_getElem? (i := 51) rfl))) (Or.inr (hw _ (List.mem_of_getElem? (i := 39) rfl))) (by decide) (t := .long) (t' := .long) (by decide) (by decide)))) (Or.inr (slot_ne (Or.inr (hw _ (List.mem_of_getElem? (i := 51) rfl))) (Or.inr (hw _ (List.mem_of_getElem? (i := 41) rfl))) (by decide) (t := .long) (t' := .long) (by decide) (by decide)))) (Or.inr (slot_ne (Or.inr (hw _ (List.mem_of_getElem? (i := 51) rfl))) (Or.inr (hw _ (List.mem_of_getElem? (i := 43) rfl))) (by decide) (t := .long) (t' := .int) (by decide) (by decide)))) (Or.inr (slot_ne (Or.inr (hw _ (List.mem_of_getElem? (i := 51) rfl))) (Or.inr (hw _ (List.mem_of_getElem? (i := 45) rfl))) (by decide) (t := .long) (t' := (.object "java/lang/String")) (by decide) (by decide)))) (Or.inr (slot_ne (Or.inr (hw _ (List.mem_of_getElem? (i := 51) rfl))) (Or.inr (hw _ (List.mem_of_getElem? (i := 47) rfl))) (by decide) (t := .long) (t' := (.object "java/lang/String")) (by decide) (by decide)))) (Or.inr (slot_ne (Or.inr (hw _ (List.mem_of_getElem? (i := 51) rfl))) (Or.inr (hw _ (List.mem_of_getElem? (i := 49) rfl))) (by decide) (t := .long) (t' := .long) (by decide) (by decide))))
  have K8 : Keep h0 h8 [r0] := K7.wr W8 (Or.inl (List.mem_of_getElem? (i := 0) rfl))
  have N8 := Fr.snoc X8 N7 g_r0
  obtain ⟨T9, h9, X9, e9, W9, st9⟩ := putF X8 hx hZ hown (host := "") (Or.inl (hw _ (List.mem_of_getElem? (i := 52) rfl))) Via.refl e8 (Fld.other W8 (Fld.other W7 (Fld.other W6 (Fld.other W5 (Fld.other W4 (Fld.other W3 (Fld.other W2 F_deadLetterTopic (Or.inr (slot_ne (Or.inr (hw _ (List.mem_of_getElem? (i := 53) rfl))) (Or.inr (hw _ (List.mem_of_getElem? (i := 39) rfl))) (by decide) (t := (.object "java/lang/String")) (t' := .long) (by decide) (by decide)))) (Or.inr (slot_ne (Or.inr (hw _ (List.mem_of_getElem? (i := 53) rfl))) (Or.inr (hw _ (List.mem_of_getElem? (i := 41) rfl))) (by decide) (t := (.object "java/lang/String")) (t' := .long) (by decide) (by decide)))) (Or.inr (slot_ne (Or.inr (hw _ (List.mem_of_getElem? (i := 53) rfl))) (Or.inr (hw _ (List.mem_of_getElem? (i := 43) rfl))) (by decide) (t := (.object "java/lang/String")) (t' := .int) (by decide) (by decide)))) (Or.inr (slot_ne (Or.inr (hw _ (List.mem_of_getElem? (i := 53) rfl))) (Or.inr (hw _ (List.mem_of_getElem? (i := 45) rfl))) (by decide) (t := (.object "java/lang/String")) (t' := (.object "java/lang/String")) (by decide) (by decide)))) (Or.inr (slot_ne (Or.inr (hw _ (List.mem_of_getElem? (i := 53) rfl))) (Or.inr (hw _ (List.mem_of_getElem? (i := 47) rfl))) (by decide) (t := (.object "java/lang/String")) (t' := (.object "java/lang/String")) (by decide) (by decide)))) (Or.inr (slot_ne (Or.inr (hw _ (List.mem_of_getElem? (i := 53) rfl))) (Or.inr (hw _ (List.mem_of_getElem? (i := 49) rfl))) (by decide) (t := (.object "java/lang/String")) (t' := .long) (by decide) (by decide)))) (Or.inr (slot_ne (Or.inr (hw _ (List.mem_of_getElem? (i := 53) rfl))) (Or.inr (hw _ (List.mem_of_getElem? (i := 51) rfl))) (by decide) (t := (.object "java/lang/String")) (t' := .long) (by decide) (by decide)))) (Exa.wr W8 (Exa.wr W7 (Exa.wr W6 (Exa.wr W5 (Exa.wr W4 (Exa.wr W3 (Exa.wr W2 E_r))))))) (Or.inr ⟨(hw _ (List.mem_of_getElem? (i := 53) rfl)), rfl, hnm⟩) (hw _ (List.mem_of_getElem? (i := 27) rfl)) (ty := (.object "java/lang/String")) (by decide) rfl rfl (g := (mkF m 47 #[.val (.ref r0), .val (.long q1), .second, .val (.long q2), .second, .val (.int p3), .val .null, .val .null, .val (.long q6), .second, .val (.long q7), .second, .val .null] [.null, (.ref r0)])) rfl rfl (hb hby d6_47)
  have Fw9 : Fld Z h9 r0 "com/example/recourse/recourse/store/StoredDeadLetter" "deadLetterTopic" "Ljava/lang/String;" .null := Fld.same W9 (Fld.other W8 (Fld.other W7 (Fld.other W6 (Fld.other W5 (Fld.other W4 (Fld.other W3 (Fld.other W2 F_deadLetterTopic (Or.inr (slot_ne (Or.inr (hw _ (List.mem_of_getElem? (i := 53) rfl))) (Or.inr (hw _ (List.mem_of_getElem? (i := 39) rfl))) (by decide) (t := (.object "java/lang/String")) (t' := .long) (by decide) (by decide)))) (Or.inr (slot_ne (Or.inr (hw _ (List.mem_of_getElem? (i := 53) rfl))) (Or.inr (hw _ (List.mem_of_getElem? (i := 41) rfl))) (by decide) (t := (.object "java/lang/String")) (t' := .long) (by decide) (by decide)))) (Or.inr (slot_ne (Or.inr (hw _ (List.mem_of_getElem? (i := 53) rfl))) (Or.inr (hw _ (List.mem_of_getElem? (i := 43) rfl))) (by decide) (t := (.object "java/lang/String")) (t' := .int) (by decide) (by decide)))) (Or.inr (slot_ne (Or.inr (hw _ (List.mem_of_getElem? (i := 53) rfl))) (Or.inr (hw _ (List.mem_of_getElem? (i := 45) rfl))) (by decide) (t := (.object "java/lang/String")) (t' := (.object "java/lang/String")) (by decide) (by decide)))) (Or.inr (slot_ne (Or.inr (hw _ (List.mem_of_getElem? (i := 53) rfl))) (Or.inr (hw _ (List.mem_of_getElem? (i := 47) rfl))) (by decide) (t := (.object "java/lang/String")) (t' := (.object "java/lang/String")) (by decide) (by decide)))) (Or.inr (slot_ne (Or.inr (hw _ (List.mem_of_getElem? (i := 53) rfl))) (Or.inr (hw _ (List.mem_of_getElem? (i := 49) rfl))) (by decide) (t := (.object "java/lang/String")) (t' := .long) (by decide) (by decide)))) (Or.inr (slot_ne (Or.inr (hw _ (List.mem_of_getElem? (i := 53) rfl))) (Or.inr (hw _ (List.mem_of_getElem? (i := 51) rfl))) (by decide) (t := (.object "java/lang/String")) (t' := .long) (by decide) (by decide))))
  have K9 : Keep h0 h9 [r0] := K8.wr W9 (Or.inl (List.mem_of_getElem? (i := 0) rfl))
  have N9 := Fr.snoc X9 N8 g_r0
  obtain ⟨fs, hr, hrun, hended, hW, hsame⟩ := X9.leave (v := none) (fun _ => rfl)
  refine ⟨_, _, pre0 _ ?_, hrun, hended, _, _, rfl, ?_, ⟨_, rfl⟩, hW, hsame.mono (by decide) (by decide)⟩
  · show Steps p.tables e below (s₁.setTop (mkF m 0 #[.val (.ref r0), .val (.long q1), .second, .val (.long q2), .second, .val (.int p3), .val .null, .val .null, .val (.long q6), .second, .val (.long q7), .second, .val .null] [])) _
    refine XS.aloadN X0.here hx rfl (hb hby d6_0) rfl rfl ?_
    show Steps p.tables e below (s₁.setTop (mkF m 1 #[.val (.ref r0), .val (.long q1), .second, .val (.long q2), .second, .val (.int p3), .val .null, .val .null, .val (.long q6), .second, .val (.long q7), .second, .val .null] [(.ref r0)])) _
    refine st1.trans ?_
    show Steps p.tables e below (T1.setTop (mkF m 4 #[.val (.ref r0), .val (.long q1), .second, .val (.long q2), .second, .val (.int p3), .val .null, .val .null, .val (.long q6), .second, .val (.long q7), .second, .val .null] [])) _
    refine XS.aloadN X1.here hx rfl (hb hby d6_4) rfl rfl ?_
    show Steps p.tables e below (T1.setTop (mkF m 5 #[.val (.ref r0), .val (.long q1), .second, .val (.long q2), .second, .val (.int p3), .val .null, .val .null, .val (.long q6), .second, .val (.long q7), .second, .val .null] [(.ref r0)])) _
    refine XS.lloadN X1.here hx rfl (hb hby d6_5) rfl ?_
    show Steps p.tables e below (T1.setTop (mkF m 6 #[.val (.ref r0), .val (.long q1), .second, .val (.long q2), .second, .val (.int p3), .val .null, .val .null, .val (.long q6), .second, .val (.long q7), .second, .val .null] [(.long q1), (.ref r0)])) _
    refine st2 _ ?_
    show Steps p.tables e below (T2.setTop (mkF m 9 #[.val (.ref r0), .val (.long q1), .second, .val (.long q2), .second, .val (.int p3), .val .null, .val .null, .val (.long q6), .second, .val (.long q7), .second, .val .null] [])) _
    refine XS.aloadN X2.here hx rfl (hb hby d6_9) rfl rfl ?_
    show Steps p.tables e below (T2.setTop (mkF m 10 #[.val (.ref r0), .val (.long q1), .second, .val (.long q2), .second, .val (.int p3), .val .null, .val .null, .val (.long q6), .second, .val (.long q7), .second, .val .null] [(.ref r0)])) _
    refine XS.lloadN X2.here hx rfl (hb hby d6_10) rfl ?_
    show Steps p.tables e below (T2.setTop (mkF m 11 #[.val (.ref r0), .val (.long q1), .second, .val (.long q2), .second, .val (.int p3), .val .null, .val .null, .val (.long q6), .second, .val (.long q7), .second, .val .null] [(.long q2), (.ref r0)])) _
    refine st3 _ ?_
    show Steps p.tables e below (T3.setTop (mkF m 14 #[.val (.ref r0), .val (.long q1), .second, .val (.long q2), .second, .val (.int p3), .val .null, .val .null, .val (.long q6), .second, .val (.long q7), .second, .val .null] [])) _
    refine XS.aloadN X3.here hx rfl (hb hby d6_14) rfl rfl ?_
    show Steps p.tables e below (T3.setTop (mkF m 15 #[.val (.ref r0), .val (.long q1), .second, .val (.long q2), .second, .val (.int p3), .val .null, .val .null, .val (.long q6), .second, .val (.long q7), .second, .val .null] [(.ref r0)])) _
    refine XS.iload X3.here hx rfl (hb hby d6_15) rfl ?_
    show Steps p.tables e below (T3.setTop (mkF m 17 #[.val (.ref r0), .val (.long q1), .second, .val (.long q2), .second, .val (.int p3), .val .null, .val .null, .val (.long q6), .second, .val (.long q7), .second, .val .null] [(.int p3), (.ref r0)])) _
    refine st4 _ ?_
    show Steps p.tables e below (T4.setTop (mkF m 20 #[.val (.ref r0), .val (.long q1), .second, .val (.long q2), .second, .val (.int p3), .val .null, .val .null, .val (.long q6), .second, .val (.long q7), .second, .val .null] [])) _
    refine XS.aloadN X4.here hx rfl (hb hby d6_20) rfl rfl ?_
    show Steps p.tables e below (T4.setTop (mkF m 21 #[.val (.ref r0), .val (.long q1), .second, .val (.long q2), .second, .val (.int p3), .val .null, .val .null, .val (.long q6), .second, .val (.long q7), .second, .val .null] [(.ref r0)])) _
    refine XS.aload X4.here hx rfl (hb hby d6_21) rfl rfl ?_
    show Steps p.tables e below (T4.setTop (mkF m 23 #[.val (.ref r0), .val (.long q1), .second, .val (.long q2), .second, .val (.int p3), .val .null, .val .null, .val (.long q6), .second, .val (.long q7), .second, .val .null] [.null, (.ref r0)])) _
    refine st5 _ ?_
    show Steps p.tables e below (T5.setTop (mkF m 26 #[.val (.ref r0), .val (.long q1), .second, .val (.long q2), .second, .val (.int p3), .val .null, .val .null, .val (.long q6), .second, .val (.long q7), .second, .val .null] [])) _
    refine XS.aloadN X5.here hx rfl (hb hby d6_26) rfl rfl ?_
    show Steps p.tables e below (T5.setTop (mkF m 27 #[.val (.ref r0), .val (.long q1), .second, .val (.long q2), .second, .val (.int p3), .val .null, .val .null, .val (.long q6), .second, .val (.long q7), .second, .val .null] [(.ref r0)])) _
    refine XS.aload X5.here hx rfl (hb hby d6_27) rfl rfl ?_
    show Steps p.tables e below (T5.setTop (mkF m 29 #[.val (.ref r0), .val (.long q1), .second, .val (.long q2), .second, .val (.int p3), .val .null, .val .null, .val (.long q6), .second, .val (.long q7), .second, .val .null] [.null, (.ref r0)])) _
    refine st6 _ ?_
    show Steps p.tables e below (T6.setTop (mkF m 32 #[.val (.ref r0), .val (.long q1), .second, .val (.long q2), .second, .val (.int p3), .val .null, .val .null, .val (.long q6), .second, .val (.long q7), .second, .val .null] [])) _
    refine XS.aloadN X6.here hx rfl (hb hby d6_32) rfl rfl ?_
    show Steps p.tables e below (T6.setTop (mkF m 33 #[.val (.ref r0), .val (.long q1), .second, .val (.long q2), .second, .val (.int p3), .val .null, .val .null, .val (.long q6), .second, .val (.long q7), .second, .val .null] [(.ref r0)])) _
    refine XS.lload X6.here hx rfl (hb hby d6_33) rfl ?_
    show Steps p.tables e below (T6.setTop (mkF m 35 #[.val (.ref r0), .val (.long q1), .second, .val (.long q2), .second, .val (.int p3), .val .null, .val .null, .val (.long q6), .second, .val (.long q7), .second, .val .null] [(.long q6), (.ref r0)])) _
    refine st7 _ ?_
    show Steps p.tables e below (T7.setTop (mkF m 38 #[.val (.ref r0), .val (.long q1), .second, .val (.long q2), .second, .val (.int p3), .val .null, .val .null, .val (.long q6), .second, .val (.long q7), .second, .val .null] [])) _
    refine XS.aloadN X7.here hx rfl (hb hby d6_38) rfl rfl ?_
    show Steps p.tables e below (T7.setTop (mkF m 39 #[.val (.ref r0), .val (.long q1), .second, .val (.long q2), .second, .val (.int p3), .val .null, .val .null, .val (.long q6), .second, .val (.long q7), .second, .val .null] [(.ref r0)])) _
    refine XS.lload X7.here hx rfl (hb hby d6_39) rfl ?_
    show Steps p.tables e below (T7.setTop (mkF m 41 #[.val (.ref r0), .val (.long q1), .second, .val (.long q2), .second, .val (.int p3), .val .null, .val .null, .val (.long q6), .second, .val (.long q7), .second, .val .null] [(.long q7), (.ref r0)])) _
    refine st8 _ ?_
    show Steps p.tables e below (T8.setTop (mkF m 44 #[.val (.ref r0), .val (.long q1), .second, .val (.long q2), .second, .val (.int p3), .val .null, .val .null, .val (.long q6), .second, .val (.long q7), .second, .val .null] [])) _
    refine XS.aloadN X8.here hx rfl (hb hby d6_44) rfl rfl ?_
    show Steps p.tables e below (T8.setTop (mkF m 45 #[.val (.ref r0), .val (.long q1), .second, .val (.long q2), .second, .val (.int p3), .val .null, .val .null, .val (.long q6), .second, .val (.long q7), .second, .val .null] [(.ref r0)])) _
    refine XS.aload X8.here hx rfl (hb hby d6_45) rfl rfl ?_
    show Steps p.tables e below (T8.setTop (mkF m 47 #[.val (.ref r0), .val (.long q1), .second, .val (.long q2), .second, .val (.int p3), .val .null, .val .null, .val (.long q6), .second, .val (.long q7), .second, .val .null] [.null, (.ref r0)])) _
    refine st9 _ ?_
    show Steps p.tables e below (T9.setTop (mkF m 50 #[.val (.ref r0), .val (.long q1), .second, .val (.long q2), .second, .val (.int p3), .val .null, .val .null, .val (.long q6), .second, .val (.long q7), .second, .val .null] [])) _
    exact X9.returnOut hx Bd.returns (hb hby d6_50) hr
  · show Q6n Z r0 q1 q2 p3 q6 q7 h0 n0 _ T9.heap _
    rw [e9]
    exact ⟨rfl, N9, K9, (Exa.wr W9 (Exa.wr W8 (Exa.wr W7 (Exa.wr W6 (Exa.wr W5 (Exa.wr W4 (Exa.wr W3 (Exa.wr W2 E_r)))))))), (Fld.other W9 (Fld.other W8 (Fld.other W7 (Fld.other W6 (Fld.other W5 (Fld.other W4 (Fld.other W3 Fw2 (Or.inr (slot_ne (Or.inr (hw _ (List.mem_of_getElem? (i := 39) rfl))) (Or.inr (hw _ (List.mem_of_getElem? (i := 41) rfl))) (by decide) (t := .long) (t' := .long) (by decide) (by decide)))) (Or.inr (slot_ne (Or.inr (hw _ (List.mem_of_getElem? (i := 39) rfl))) (Or.inr (hw _ (List.mem_of_getElem? (i := 43) rfl))) (by decide) (t := .long) (t' := .int) (by decide) (by decide)))) (Or.inr (slot_ne (Or.inr (hw _ (List.mem_of_getElem? (i := 39) rfl))) (Or.inr (hw _ (List.mem_of_getElem? (i := 45) rfl))) (by decide) (t := .long) (t' := (.object "java/lang/String")) (by decide) (by decide)))) (Or.inr (slot_ne (Or.inr (hw _ (List.mem_of_getElem? (i := 39) rfl))) (Or.inr (hw _ (List.mem_of_getElem? (i := 47) rfl))) (by decide) (t := .long) (t' := (.object "java/lang/String")) (by decide) (by decide)))) (Or.inr (slot_ne (Or.inr (hw _ (List.mem_of_getElem? (i := 39) rfl))) (Or.inr (hw _ (List.mem_of_getElem? (i := 49) rfl))) (by decide) (t := .long) (t' := .long) (by decide) (by decide)))) (Or.inr (slot_ne (Or.inr (hw _ (List.mem_of_getElem? (i := 39) rfl))) (Or.inr (hw _ (List.mem_of_getElem? (i := 51) rfl))) (by decide) (t := .long) (t' := .long) (by decide) (by decide)))) (Or.inr (slot_ne (Or.inr (hw _ (List.mem_of_getElem? (i := 39) rfl))) (Or.inr (hw _ (List.mem_of_getElem? (i := 53) rfl))) (by decide) (t := .long) (t' := (.object "java/lang/String")) (by decide) (by decide)))), (Fld.other W9 (Fld.other W8 (Fld.other W7 (Fld.other W6 (Fld.other W5 (Fld.other W4 Fw3 (Or.inr (slot_ne (Or.inr (hw _ (List.mem_of_getElem? (i := 41) rfl))) (Or.inr (hw _ (List.mem_of_getElem? (i := 43) rfl))) (by decide) (t := .long) (t' := .int) (by decide) (by decide)))) (Or.inr (slot_ne (Or.inr (hw _ (List.mem_of_getElem? (i := 41) rfl))) (Or.inr (hw _ (List.mem_of_getElem? (i := 45) rfl))) (by decide) (t := .long) (t' := (.object "java/lang/String")) (by decide) (by decide)))) (Or.inr (slot_ne (Or.inr (hw _ (List.mem_of_getElem? (i := 41) rfl))) (Or.inr (hw _ (List.mem_of_getElem? (i := 47) rfl))) (by decide) (t := .long) (t' := (.object "java/lang/String")) (by decide) (by decide)))) (Or.inr (slot_ne (Or.inr (hw _ (List.mem_of_getElem? (i := 41) rfl))) (Or.inr (hw _ (List.mem_of_getElem? (i := 49) rfl))) (by decide) (t := .long) (t' := .long) (by decide) (by decide)))) (Or.inr (slot_ne (Or.inr (hw _ (List.mem_of_getElem? (i := 41) rfl))) (Or.inr (hw _ (List.mem_of_getElem? (i := 51) rfl))) (by decide) (t := .long) (t' := .long) (by decide) (by decide)))) (Or.inr (slot_ne (Or.inr (hw _ (List.mem_of_getElem? (i := 41) rfl))) (Or.inr (hw _ (List.mem_of_getElem? (i := 53) rfl))) (by decide) (t := .long) (t' := (.object "java/lang/String")) (by decide) (by decide)))), (Fld.other W9 (Fld.other W8 (Fld.other W7 (Fld.other W6 (Fld.other W5 Fw4 (Or.inr (slot_ne (Or.inr (hw _ (List.mem_of_getElem? (i := 43) rfl))) (Or.inr (hw _ (List.mem_of_getElem? (i := 45) rfl))) (by decide) (t := .int) (t' := (.object "java/lang/String")) (by decide) (by decide)))) (Or.inr (slot_ne (Or.inr (hw _ (List.mem_of_getElem? (i := 43) rfl))) (Or.inr (hw _ (List.mem_of_getElem? (i := 47) rfl))) (by decide) (t := .int) (t' := (.object "java/lang/String")) (by decide) (by decide)))) (Or.inr (slot_ne (Or.inr (hw _ (List.mem_of_getElem? (i := 43) rfl))) (Or.inr (hw _ (List.mem_of_getElem? (i := 49) rfl))) (by decide) (t := .int) (t' := .long) (by decide) (by decide)))) (Or.inr (slot_ne (Or.inr (hw _ (List.mem_of_getElem? (i := 43) rfl))) (Or.inr (hw _ (List.mem_of_getElem? (i := 51) rfl))) (by decide) (t := .int) (t' := .long) (by decide) (by decide)))) (Or.inr (slot_ne (Or.inr (hw _ (List.mem_of_getElem? (i := 43) rfl))) (Or.inr (hw _ (List.mem_of_getElem? (i := 53) rfl))) (by decide) (t := .int) (t' := (.object "java/lang/String")) (by decide) (by decide)))), (Fld.other W9 (Fld.other W8 (Fld.other W7 (Fld.other W6 Fw5 (Or.inr (slot_ne (Or.inr (hw _ (List.mem_of_getElem? (i := 45) rfl))) (Or.inr (hw _ (List.mem_of_getElem? (i := 47) rfl))) (by decide) (t := (.object "java/lang/String")) (t' := (.object "java/lang/String")) (by decide) (by decide)))) (Or.inr (slot_ne (Or.inr (hw _ (List.mem_of_getElem? (i := 45) rfl))) (Or.inr (hw _ (List.mem_of_getElem? (i := 49) rfl))) (by decide) (t := (.object "java/lang/String")) (t' := .long) (by decide) (by decide)))) (Or.inr (slot_ne (Or.inr (hw _ (List.mem_of_getElem? (i := 45) rfl))) (Or.inr (hw _ (List.mem_of_getElem? (i := 51) rfl))) (by decide) (t := (.object "java/lang/String")) (t' := .long) (by decide) (by decide)))) (Or.inr (slot_ne (Or.inr (hw _ (List.mem_of_getElem? (i := 45) rfl))) (Or.inr (hw _ (List.mem_of_getElem? (i := 53) rfl))) (by decide) (t := (.object "java/lang/String")) (t' := (.object "java/lang/String")) (by decide) (by decide)))), (Fld.other W9 (Fld.other W8 (Fld.other W7 Fw6 (Or.inr (slot_ne (Or.inr (hw _ (List.mem_of_getElem? (i := 47) rfl))) (Or.inr (hw _ (List.mem_of_getElem? (i := 49) rfl))) (by decide) (t := (.object "java/lang/String")) (t' := .long) (by decide) (by decide)))) (Or.inr (slot_ne (Or.inr (hw _ (List.mem_of_getElem? (i := 47) rfl))) (Or.inr (hw _ (List.mem_of_getElem? (i := 51) rfl))) (by decide) (t := (.object "java/lang/String")) (t' := .long) (by decide) (by decide)))) (Or.inr (slot_ne (Or.inr (hw _ (List.mem_of_getElem? (i := 47) rfl))) (Or.inr (hw _ (List.mem_of_getElem? (i := 53) rfl))) (by decide) (t := (.object "java/lang/String")) (t' := (.object "java/lang/String")) (by decide) (by decide)))), (Fld.other W9 (Fld.other W8 Fw7 (Or.inr (slot_ne (Or.inr (hw _ (List.mem_of_getElem? (i := 49) rfl))) (Or.inr (hw _ (List.mem_of_getElem? (i := 51) rfl))) (by decide) (t := .long) (t' := .long) (by decide) (by decide)))) (Or.inr (slot_ne (Or.inr (hw _ (List.mem_of_getElem? (i := 49) rfl))) (Or.inr (hw _ (List.mem_of_getElem? (i := 53) rfl))) (by decide) (t := .long) (t' := (.object "java/lang/String")) (by decide) (by decide)))), (Fld.other W9 Fw8 (Or.inr (slot_ne (Or.inr (hw _ (List.mem_of_getElem? (i := 51) rfl))) (Or.inr (hw _ (List.mem_of_getElem? (i := 53) rfl))) (by decide) (t := .long) (t' := (.object "java/lang/String")) (by decide) (by decide)))), Fw9⟩
theorem d8_0 : decode prog_40_method_2_code 0 = .ok (.new 12, 3) := by decide +kernel
theorem d8_3 : decode prog_40_method_2_code 3 = .ok (.dup, 1) := by decide +kernel
theorem d8_4 : decode prog_40_method_2_code 4 = .ok (.aload_n 0, 1) := by decide +kernel
theorem d8_5 : decode prog_40_method_2_code 5 = .ok (.getfield 11, 3) := by decide +kernel
theorem d8_8 : decode prog_40_method_2_code 8 = .ok (.aload_n 0, 1) := by decide +kernel
theorem d8_9 : decode prog_40_method_2_code 9 = .ok (.getfield 17, 3) := by decide +kernel
theorem d8_12 : decode prog_40_method_2_code 12 = .ok (.aload_n 0, 1) := by decide +kernel
theorem d8_13 : decode prog_40_method_2_code 13 = .ok (.getfield 20, 3) := by decide +kernel
theorem d8_16 : decode prog_40_method_2_code 16 = .ok (.aload_n 1, 1) := by decide +kernel
theorem d8_17 : decode prog_40_method_2_code 17 = .ok (.aload_n 2, 1) := by decide +kernel
theorem d8_18 : decode prog_40_method_2_code 18 = .ok (.lload_n 3, 1) := by decide +kernel
theorem d8_19 : decode prog_40_method_2_code 19 = .ok (.lload 5, 2) := by decide +kernel
theorem d8_21 : decode prog_40_method_2_code 21 = .ok (.aload 7, 2) := by decide +kernel
theorem d8_23 : decode prog_40_method_2_code 23 = .ok (.invokespecial 40, 3) := by decide +kernel
theorem d8_26 : decode prog_40_method_2_code 26 = .ok (.areturn, 1) := by decide +kernel
theorem pd__JJILjava_lang_String_Ljava_lang_String_JJLjava_lang_String__V : parseMethodDescriptor "(JJILjava/lang/String;Ljava/lang/String;JJLjava/lang/String;)V" = some ⟨[.long, .long, .int, (.object "java/lang/String"), (.object "java/lang/String"), .long, .long, (.object "java/lang/String")], none⟩ := by decide +kernel
theorem ef_8 (r0 : Addr) (r1 : Addr) (r2 : Addr) (q3 : Int64) (q4 : Int64) (r5 : Addr) (s0 s1 : Int64) (s2 : Int32) (m : MethodId) : entryFrame m #[(.ref r0), (.ref r1), (.ref r2), (.long q3), (.long q4), (.ref r5)] 8 = mkF m 0 #[.val (.ref r0), .val (.ref r1), .val (.ref r2), .val (.long q3), .second, .val (.long q4), .second, .val (.ref r5)] [] := by first | (simp [entryFrame, mkF, argsToLocals, Value.category]; done) | rfl
def Q8 (Z : State) (r0 : Addr) (r1 : Addr) (r2 : Addr) (q3 : Int64) (q4 : Int64) (r5 : Addr) (s0 s1 : Int64) (s2 : Int32) (h0 : Heap) (n0 : Nat) (v : Option Value) (h : Heap) (L : List Loc) : Prop := ∃ b : Addr, v = some (.ref b) ∧ Fr n0 L ∧ Keep h0 h [] ∧ h0.size ≤ b ∧ Exa Z h b "com/example/recourse/recourse/store/StoredDeadLetter" ∧ Fld Z h b "com/example/recourse/recourse/store/StoredDeadLetter" "sequence" "J" (.long s0) ∧ Fld Z h b "com/example/recourse/recourse/store/StoredDeadLetter" "originSequence" "J" (.long s1) ∧ Fld Z h b "com/example/recourse/recourse/store/StoredDeadLetter" "reconsumeTimes" "I" (.int s2) ∧ Fld Z h b "com/example/recourse/recourse/store/StoredDeadLetter" "topic" "Ljava/lang/String;" (.ref r1) ∧ Fld Z h b "com/example/recourse/recourse/store/StoredDeadLetter" "group" "Ljava/lang/String;" (.ref r2) ∧ Fld Z h b "com/example/recourse/recourse/store/StoredDeadLetter" "failedSequence" "J" (.long q3) ∧ Fld Z h b "com/example/recourse/recourse/store/StoredDeadLetter" "deadLetteredAtMillis" "J" (.long q4) ∧ Fld Z h b "com/example/recourse/recourse/store/StoredDeadLetter" "deadLetterTopic" "Ljava/lang/String;" (.ref r5)
set_option maxRecDepth 65536 in
set_option maxHeartbeats 40000000 in
theorem rm8 (l : Launch) (Z : State) (a0 : Array Value) (hw : ∀ d ∈ tables_1, d.before a0 Z = true) (ws : List Jvm.Cond) (r0 : Addr) (r1 : Addr) (r2 : Addr) (q3 : Int64) (q4 : Int64) (r5 : Addr) (s0 s1 : Int64) (s2 : Int32) (h0 : Heap) (n0 : Nat) (Z0 : n0 ≤ h0.size) (G_sequence : Fld Z h0 r0 "com/example/recourse/recourse/store/StoredDeadLetter" "sequence" "J" (.long s0)) (G_originSequence : Fld Z h0 r0 "com/example/recourse/recourse/store/StoredDeadLetter" "originSequence" "J" (.long s1)) (G_reconsumeTimes : Fld Z h0 r0 "com/example/recourse/recourse/store/StoredDeadLetter" "reconsumeTimes" "I" (.int s2)) :
    MetFree l (⟨"com/example/recourse/recourse/store/StoredDeadLetter", "withOrigin", "(Ljava/lang/String;Ljava/lang/String;JJLjava/lang/String;)Lcom/example/recourse/recourse/store/StoredDeadLetter;"⟩ : MethodName) (head1 (Jvm.Cond.code (⟨"com/example/recourse/recourse/store/StoredDeadLetter", "withOrigin", "(Ljava/lang/String;Ljava/lang/String;JJLjava/lang/String;)Lcom/example/recourse/recourse/store/StoredDeadLetter;"⟩ : MethodName) prog_40_method_2_code 8 (some (.object "com/example/recourse/recourse/store/StoredDeadLetter")) :: ws) ({ frames := 3, cells := 1, slots := 8, locals := 49 } : Room)) (fun a U => a = #[(.ref r0), (.ref r1), (.ref r2), (.long q3), (.long q4), (.ref r5)] ∧ Z.Warmed39 U.vm ∧ U.heap = h0) (fun _ _ _ _ _ => True) (fun _ U o U' => ∃ v L, o = .returned v ∧ Q8 Z r0 r1 r2 q3 q4 r5 s0 s1 s2 h0 n0 v U'.heap L ∧ FrameEnd U o U' L ({ frames := 3, cells := 1, slots := 8, locals := 49 } : Room).cells ({ frames := 3, cells := 1, slots := 8, locals := 49 } : Room).slots) := by
  refine MetFree.of_bodySF (plainFor_of_name pn_com_example_recourse_recourse_store_StoredDeadLetter) hisR ?_
  intro p e s m args below meth c s₁ Bd hml0 hP hK
  obtain ⟨rfl, hZ, hh⟩ := hP
  have hx := Bd.exec
  have hby := Bd.bytes
  have hml : c.maxLocals = 8 := hml0
  have hown : s.vm.findClass "com/example/recourse/recourse/store/StoredDeadLetter" = some m.cls := findClass_of_methodNamed Bd.named
  have hnm := (name_of_methodNamed Bd.named Bd.method).1
  have X0 : Stand p l e ({ frames := 3, cells := 1, slots := 8, locals := 49 } : Room) s m #[(.ref r0), (.ref r1), (.ref r2), (.long q3), (.long q4), (.ref r5)] below meth c s₁ [] 0 0 := Stand.of_body Bd
  have e0 : s₁.heap = h0 := by rw [← hh, Bd.state]; rfl
  have N0 := Fr.nil n0
  have pre0 : ∀ t, Steps p.tables e below (s₁.setTop (mkF m 0 #[.val (.ref r0), .val (.ref r1), .val (.ref r2), .val (.long q3), .second, .val (.long q4), .second, .val (.ref r5)] [])) t → Steps p.tables e below (s₁.setTop (entryFrame m #[(.ref r0), (.ref r1), (.ref r2), (.long q3), (.long q4), (.ref r5)] 8)) t := fun t k => castTop (ef_8 r0 r1 r2 q3 q4 r5 s0 s1 s2 m) k
  obtain ⟨T1, h1, X1, e1, E1, A1, D1, U1, st1⟩ := newO X0 hx hZ hown (hw _ (List.mem_of_getElem? (i := 59) rfl)) (hw _ (List.mem_of_getElem? (i := 27) rfl)) (hw _ (List.mem_of_getElem? (i := 28) rfl)) e0 (g := (mkF m 0 #[.val (.ref r0), .val (.ref r1), .val (.ref r2), .val (.long q3), .second, .val (.long q4), .second, .val (.ref r5)] [])) rfl (hb hby d8_0) (by decide) (by decide)
  obtain ⟨b1, g1⟩ : ∃ z, z = h0.size := ⟨_, rfl⟩
  rw [← g1] at A1 D1 st1
  have ne2 : r0 ≠ b1 := Nat.ne_of_lt (Nat.lt_of_lt_of_le G_sequence.lt (Nat.le_of_eq g1.symm))
  have g_b1 : n0 ≤ b1 := Nat.le_trans Z0 (Nat.le_of_eq g1.symm)
  have sz_b1 : h0.size ≤ b1 := Nat.le_trans (Keep.refl h0 []).1 (Nat.le_of_eq g1.symm)
  have K1 : Keep h0 h1 [] := (Keep.refl h0 []).ext E1
  have F_sequence_b1 : Fld Z h1 b1 "com/example/recourse/recourse/store/StoredDeadLetter" "sequence" "J" (.long (0 : Int64)) := D1 (Or.inr (hw _ (List.mem_of_getElem? (i := 39) rfl))) (ty := .long) (by decide)
  have F_originSequence_b1 : Fld Z h1 b1 "com/example/recourse/recourse/store/StoredDeadLetter" "originSequence" "J" (.long (0 : Int64)) := D1 (Or.inr (hw _ (List.mem_of_getElem? (i := 41) rfl))) (ty := .long) (by decide)
  have F_reconsumeTimes_b1 : Fld Z h1 b1 "com/example/recourse/recourse/store/StoredDeadLetter" "reconsumeTimes" "I" (.int (0 : Int32)) := D1 (Or.inr (hw _ (List.mem_of_getElem? (i := 43) rfl))) (ty := .int) (by decide)
  have F_topic_b1 : Fld Z h1 b1 "com/example/recourse/recourse/store/StoredDeadLetter" "topic" "Ljava/lang/String;" .null := D1 (Or.inr (hw _ (List.mem_of_getElem? (i := 45) rfl))) (ty := (.object "java/lang/String")) (by decide)
  have F_group_b1 : Fld Z h1 b1 "com/example/recourse/recourse/store/StoredDeadLetter" "group" "Ljava/lang/String;" .null := D1 (Or.inr (hw _ (List.mem_of_getElem? (i := 47) rfl))) (ty := (.object "java/lang/String")) (by decide)
  have F_failedSequence_b1 : Fld Z h1 b1 "com/example/recourse/recourse/store/StoredDeadLetter" "failedSequence" "J" (.long (0 : Int64)) := D1 (Or.inr (hw _ (List.mem_of_getElem? (i := 49) rfl))) (ty := .long) (by decide)
  have F_deadLetteredAtMillis_b1 : Fld Z h1 b1 "com/example/recourse/recourse/store/StoredDeadLetter" "deadLetteredAtMillis" "J" (.long (0 : Int64)) := D1 (Or.inr (hw _ (List.mem_of_getElem? (i := 51) rfl))) (ty := .long) (by decide)
  have F_deadLetterTopic_b1 : Fld Z h1 b1 "com/example/recourse/recourse/store/StoredDeadLetter" "deadLetterTopic" "Ljava/lang/String;" .null := D1 (Or.inr (hw _ (List.mem_of_getElem? (i := 53) rfl))) (ty := (.object "java/lang/String")) (by decide)
  obtain ⟨T3, X3, e3, st3⟩ := getF X1 hx hZ hown (host := "") (Or.inl (hw _ (List.mem_of_getElem? (i := 38) rfl))) Via.refl e1 (Fld.ext E1 G_sequence) (g := (mkF m 5 #[.val (.ref r0), .val (.ref r1), .val (.ref r2), .val (.long q3), .second, .val (.long q4), .second, .val (.ref r5)] [(.ref r0), (.ref b1), (.ref b1)])) rfl rfl (hb hby d8_5)
  obtain ⟨T4, X4, e4, st4⟩ := getF X3 hx hZ hown (host := "") (Or.inl (hw _ (List.mem_of_getElem? (i := 40) rfl))) Via.refl e3 (Fld.ext E1 G_originSequence) (g := (mkF m 9 #[.val (.ref r0), .val (.ref r1), .val (.ref r2), .val (.long q3), .second, .val (.long q4), .second, .val (.ref r5)] [(.ref r0), (.long s0), (.ref b1), (.ref b1)])) rfl rfl (hb hby d8_9)
  obtain ⟨T5, X5, e5, st5⟩ := getF X4 hx hZ hown (host := "") (Or.inl (hw _ (List.mem_of_getElem? (i := 42) rfl))) Via.refl e4 (Fld.ext E1 G_reconsumeTimes) (g := (mkF m 13 #[.val (.ref r0), .val (.ref r1), .val (.ref r2), .val (.long q3), .second, .val (.long q4), .second, .val (.ref r5)] [(.ref r0), (.long s1), (.long s0), (.ref b1), (.ref b1)])) rfl rfl (hb hby d8_13)
  obtain ⟨_, _, ⟨T6, L6, k6, n6⟩, -, X6, ⟨Lc6, hQ6, ll6, ly6, lz6⟩, st6⟩ := X5.specialBack hx (y := (⟨"com/example/recourse/recourse/store/StoredDeadLetter", "<init>", "(JJILjava/lang/String;Ljava/lang/String;JJLjava/lang/String;)V"⟩ : MethodName)) rfl hown (mvT hZ (hw _ (List.mem_of_getElem? (i := 60) rfl))) (mvT hZ (hw _ (List.mem_of_getElem? (i := 30) rfl))) (mvT hZ (hw _ (List.mem_of_getElem? (i := 31) rfl))) (by decide) (backOf (W := 1) (rm6 l Z a0 hw [] b1 s0 s1 s2 r1 r2 q3 q4 r5 h1 n0 (Nat.le_trans Z0 E1.1) A1 F_sequence_b1 F_originSequence_b1 F_reconsumeTimes_b1 F_topic_b1 F_group_b1 F_failedSequence_b1 F_deadLetteredAtMillis_b1 F_deadLetterTopic_b1 g_b1) hZ (hw _ (List.mem_of_getElem? (i := 31) rfl)) (hw _ (List.mem_of_getElem? (i := 28) rfl)) (by decide) (by decide)) (g := (mkF m 23 #[.val (.ref r0), .val (.ref r1), .val (.ref r2), .val (.long q3), .second, .val (.long q4), .second, .val (.ref r5)] [(.ref r5), (.long q4), (.long q3), (.ref r2), (.ref r1), (.int s2), (.long s1), (.long s0), (.ref b1), (.ref b1)])) rfl (by rw [hml]; rfl) (Steps.refl _) (a := b1) (argsL := [(.long s0), (.long s1), (.int s2), (.ref r1), (.ref r2), (.long q3), (.long q4), (.ref r5)]) (rest := [(.ref b1)]) (lenOf pd__JJILjava_lang_String_Ljava_lang_String_JJLjava_lang_String__V rfl) rfl (by show 2 * 0 + _ ≤ _; exact Nat.le_of_eq rfl) (hb hby d8_23) (fun _ _ => ⟨rfl, e5, (by decide : 1 + 0 ≤ _), (by decide : 8 + 0 ≤ _)⟩)
  dsimp only [Pt.U, Pt.locs, Pt.cells, Pt.slots] at X6 ll6 ly6 lz6 st6 hQ6
  subst ll6 ly6 lz6
  obtain ⟨rfl, N6q, K6c, P6_0, P6_1, P6_2, P6_3, P6_4, P6_5, P6_6, P6_7, P6_8⟩ := hQ6
  have N6 := Fr.app N0 N6q
  have K6 : Keep h0 T6.heap [] := K1.trans K6c (allS (Or.inr sz_b1) all0)
  obtain ⟨fs, hr, hrun, hended, hW, hsame⟩ := X6.leave (v := some (.ref b1)) (fun h => by rw [Bd.returns] at h; cases h)
  refine ⟨_, _, pre0 _ ?_, hrun, hended, _, _, rfl, ?_, ⟨_, rfl⟩, hW, hsame.mono (by decide) (by decide)⟩
  · show Steps p.tables e below (s₁.setTop (mkF m 0 #[.val (.ref r0), .val (.ref r1), .val (.ref r2), .val (.long q3), .second, .val (.long q4), .second, .val (.ref r5)] [])) _
    refine st1 _ ?_
    show Steps p.tables e below (T1.setTop (mkF m 3 #[.val (.ref r0), .val (.ref r1), .val (.ref r2), .val (.long q3), .second, .val (.long q4), .second, .val (.ref r5)] [(.ref b1)])) _
    refine XS.dup X1.here hx rfl (hb hby d8_3) rfl rfl ?_
    show Steps p.tables e below (T1.setTop (mkF m 4 #[.val (.ref r0), .val (.ref r1), .val (.ref r2), .val (.long q3), .second, .val (.long q4), .second, .val (.ref r5)] [(.ref b1), (.ref b1)])) _
    refine XS.aloadN X1.here hx rfl (hb hby d8_4) rfl rfl ?_
    show Steps p.tables e below (T1.setTop (mkF m 5 #[.val (.ref r0), .val (.ref r1), .val (.ref r2), .val (.long q3), .second, .val (.long q4), .second, .val (.ref r5)] [(.ref r0), (.ref b1), (.ref b1)])) _
    refine st3 _ ?_
    show Steps p.tables e below (T3.setTop (mkF m 8 #[.val (.ref r0), .val (.ref r1), .val (.ref r2), .val (.long q3), .second, .val (.long q4), .second, .val (.ref r5)] [(.long s0), (.ref b1), (.ref b1)])) _
    refine XS.aloadN X3.here hx rfl (hb hby d8_8) rfl rfl ?_
    show Steps p.tables e below (T3.setTop (mkF m 9 #[.val (.ref r0), .val (.ref r1), .val (.ref r2), .val (.long q3), .second, .val (.long q4), .second, .val (.ref r5)] [(.ref r0), (.long s0), (.ref b1), (.ref b1)])) _
    refine st4 _ ?_
    show Steps p.tables e below (T4.setTop (mkF m 12 #[.val (.ref r0), .val (.ref r1), .val (.ref r2), .val (.long q3), .second, .val (.long q4), .second, .val (.ref r5)] [(.long s1), (.long s0), (.ref b1), (.ref b1)])) _
    refine XS.aloadN X4.here hx rfl (hb hby d8_12) rfl rfl ?_
    show Steps p.tables e below (T4.setTop (mkF m 13 #[.val (.ref r0), .val (.ref r1), .val (.ref r2), .val (.long q3), .second, .val (.long q4), .second, .val (.ref r5)] [(.ref r0), (.long s1), (.long s0), (.ref b1), (.ref b1)])) _
    refine st5 _ ?_
    show Steps p.tables e below (T5.setTop (mkF m 16 #[.val (.ref r0), .val (.ref r1), .val (.ref r2), .val (.long q3), .second, .val (.long q4), .second, .val (.ref r5)] [(.int s2), (.long s1), (.long s0), (.ref b1), (.ref b1)])) _
    refine XS.aloadN X5.here hx rfl (hb hby d8_16) rfl rfl ?_
    show Steps p.tables e below (T5.setTop (mkF m 17 #[.val (.ref r0), .val (.ref r1), .val (.ref r2), .val (.long q3), .second, .val (.long q4), .second, .val (.ref r5)] [(.ref r1), (.int s2), (.long s1), (.long s0), (.ref b1), (.ref b1)])) _
    refine XS.aloadN X5.here hx rfl (hb hby d8_17) rfl rfl ?_
    show Steps p.tables e below (T5.setTop (mkF m 18 #[.val (.ref r0), .val (.ref r1), .val (.ref r2), .val (.long q3), .second, .val (.long q4), .second, .val (.ref r5)] [(.ref r2), (.ref r1), (.int s2), (.long s1), (.long s0), (.ref b1), (.ref b1)])) _
    refine XS.lloadN X5.here hx rfl (hb hby d8_18) rfl ?_
    show Steps p.tables e below (T5.setTop (mkF m 19 #[.val (.ref r0), .val (.ref r1), .val (.ref r2), .val (.long q3), .second, .val (.long q4), .second, .val (.ref r5)] [(.long q3), (.ref r2), (.ref r1), (.int s2), (.long s1), (.long s0), (.ref b1), (.ref b1)])) _
    refine XS.lload X5.here hx rfl (hb hby d8_19) rfl ?_
    show Steps p.tables e below (T5.setTop (mkF m 21 #[.val (.ref r0), .val (.ref r1), .val (.ref r2), .val (.long q3), .second, .val (.long q4), .second, .val (.ref r5)] [(.long q4), (.long q3), (.ref r2), (.ref r1), (.int s2), (.long s1), (.long s0), (.ref b1), (.ref b1)])) _
    refine XS.aload X5.here hx rfl (hb hby d8_21) rfl rfl ?_
    show Steps p.tables e below (T5.setTop (mkF m 23 #[.val (.ref r0), .val (.ref r1), .val (.ref r2), .val (.long q3), .second, .val (.long q4), .second, .val (.ref r5)] [(.ref r5), (.long q4), (.long q3), (.ref r2), (.ref r1), (.int s2), (.long s1), (.long s0), (.ref b1), (.ref b1)])) _
    refine st6.trans ?_
    show Steps p.tables e below (T6.setTop (mkF m 26 #[.val (.ref r0), .val (.ref r1), .val (.ref r2), .val (.long q3), .second, .val (.long q4), .second, .val (.ref r5)] [(.ref b1)])) _
    exact retOut X6 hx Bd.returns rfl (Or.inr (Or.inr (Or.inr (Or.inr ⟨rfl, rfl, rfl⟩)))) (hb hby d8_26) hr
  · show Q8 Z r0 r1 r2 q3 q4 r5 s0 s1 s2 h0 n0 _ T6.heap _
    rw [(rfl : T6.heap = T6.heap)]
    exact ⟨b1, rfl, N6, K6, sz_b1, P6_0, P6_1, P6_2, P6_3, P6_4, P6_5, P6_6, P6_7, P6_8⟩
theorem d9_0 : decode prog_40_method_9_code 0 = .ok (.aload_n 0, 1) := by decide +kernel
theorem d9_1 : decode prog_40_method_9_code 1 = .ok (.getfield 11, 3) := by decide +kernel
theorem d9_4 : decode prog_40_method_9_code 4 = .ok (.lreturn, 1) := by decide +kernel
theorem ef_9 (r0 : Addr) (w : Int64) (m : MethodId) : entryFrame m #[(.ref r0)] 1 = mkF m 0 #[.val (.ref r0)] [] := by first | (simp [entryFrame, mkF, argsToLocals, Value.category]; done) | rfl
def Q9 (Z : State) (r0 : Addr) (w : Int64) (h0 : Heap) (n0 : Nat) (v : Option Value) (h : Heap) (L : List Loc) : Prop := v = some (.long w) ∧ Fr n0 L ∧ h = h0
set_option maxRecDepth 65536 in
set_option maxHeartbeats 40000000 in
theorem rm9 (l : Launch) (Z : State) (a0 : Array Value) (hw : ∀ d ∈ tables_1, d.before a0 Z = true) (ws : List Jvm.Cond) (r0 : Addr) (w : Int64) (h0 : Heap) (n0 : Nat) (Z0 : n0 ≤ h0.size) (F_w : Fld Z h0 r0 "com/example/recourse/recourse/store/StoredDeadLetter" "sequence" "J" (.long w)) :
    MetFree l (⟨"com/example/recourse/recourse/store/StoredDeadLetter", "sequence", "()J"⟩ : MethodName) (head1 (Jvm.Cond.code (⟨"com/example/recourse/recourse/store/StoredDeadLetter", "sequence", "()J"⟩ : MethodName) prog_40_method_9_code 1 (some .long) :: ws) ({ frames := 0, cells := 0, slots := 0, locals := 0 } : Room)) (fun a U => a = #[(.ref r0)] ∧ Z.Warmed39 U.vm ∧ U.heap = h0) (fun _ _ _ _ _ => True) (fun _ U o U' => ∃ v L, o = .returned v ∧ Q9 Z r0 w h0 n0 v U'.heap L ∧ FrameEnd U o U' L ({ frames := 0, cells := 0, slots := 0, locals := 0 } : Room).cells ({ frames := 0, cells := 0, slots := 0, locals := 0 } : Room).slots) := by
  refine MetFree.of_bodySF (plainFor_of_name pn_com_example_recourse_recourse_store_StoredDeadLetter) hisR ?_
  intro p e s m args below meth c s₁ Bd hml0 hP hK
  obtain ⟨rfl, hZ, hh⟩ := hP
  have hx := Bd.exec
  have hby := Bd.bytes
  have hml : c.maxLocals = 1 := hml0
  have hown : s.vm.findClass "com/example/recourse/recourse/store/StoredDeadLetter" = some m.cls := findClass_of_methodNamed Bd.named
  have hnm := (name_of_methodNamed Bd.named Bd.method).1
  have X0 : Stand p l e ({ frames := 0, cells := 0, slots := 0, locals := 0 } : Room) s m #[(.ref r0)] below meth c s₁ [] 0 0 := Stand.of_body Bd
  have e0 : s₁.heap = h0 := by rw [← hh, Bd.state]; rfl
  have N0 := Fr.nil n0
  have pre0 : ∀ t, Steps p.tables e below (s₁.setTop (mkF m 0 #[.val (.ref r0)] [])) t → Steps p.tables e below (s₁.setTop (entryFrame m #[(.ref r0)] 1)) t := fun t k => castTop (ef_9 r0 w m) k
  obtain ⟨T1, X1, e1, st1⟩ := getF X0 hx hZ hown (host := "") (Or.inl (hw _ (List.mem_of_getElem? (i := 38) rfl))) Via.refl e0 F_w (g := (mkF m 1 #[.val (.ref r0)] [(.ref r0)])) rfl rfl (hb hby d9_1)
  obtain ⟨fs, hr, hrun, hended, hW, hsame⟩ := X1.leave (v := some (.long w)) (fun h => by rw [Bd.returns] at h; cases h)
  refine ⟨_, _, pre0 _ ?_, hrun, hended, _, _, rfl, ?_, ⟨_, rfl⟩, hW, hsame.mono (by decide) (by decide)⟩
  · show Steps p.tables e below (s₁.setTop (mkF m 0 #[.val (.ref r0)] [])) _
    refine XS.aloadN X0.here hx rfl (hb hby d9_0) rfl rfl ?_
    show Steps p.tables e below (s₁.setTop (mkF m 1 #[.val (.ref r0)] [(.ref r0)])) _
    refine st1 _ ?_
    show Steps p.tables e below (T1.setTop (mkF m 4 #[.val (.ref r0)] [(.long w)])) _
    exact retOut X1 hx (t := .long) Bd.returns rfl (Or.inr (Or.inl ⟨rfl, rfl, _, rfl⟩)) (hb hby d9_4) hr
  · show Q9 Z r0 w h0 n0 _ T1.heap _
    rw [e1]
    exact ⟨rfl, N0, rfl⟩
theorem d10_0 : decode prog_40_method_10_code 0 = .ok (.aload_n 0, 1) := by decide +kernel
theorem d10_1 : decode prog_40_method_10_code 1 = .ok (.getfield 17, 3) := by decide +kernel
theorem d10_4 : decode prog_40_method_10_code 4 = .ok (.lreturn, 1) := by decide +kernel
theorem ef_10 (r0 : Addr) (w : Int64) (m : MethodId) : entryFrame m #[(.ref r0)] 1 = mkF m 0 #[.val (.ref r0)] [] := by first | (simp [entryFrame, mkF, argsToLocals, Value.category]; done) | rfl
def Q10 (Z : State) (r0 : Addr) (w : Int64) (h0 : Heap) (n0 : Nat) (v : Option Value) (h : Heap) (L : List Loc) : Prop := v = some (.long w) ∧ Fr n0 L ∧ h = h0
set_option maxRecDepth 65536 in
set_option maxHeartbeats 40000000 in
theorem rm10 (l : Launch) (Z : State) (a0 : Array Value) (hw : ∀ d ∈ tables_1, d.before a0 Z = true) (ws : List Jvm.Cond) (r0 : Addr) (w : Int64) (h0 : Heap) (n0 : Nat) (Z0 : n0 ≤ h0.size) (F_w : Fld Z h0 r0 "com/example/recourse/recourse/store/StoredDeadLetter" "originSequence" "J" (.long w)) :
    MetFree l (⟨"com/example/recourse/recourse/store/StoredDeadLetter", "originSequence", "()J"⟩ : MethodName) (head1 (Jvm.Cond.code (⟨"com/example/recourse/recourse/store/StoredDeadLetter", "originSequence", "()J"⟩ : MethodName) prog_40_method_10_code 1 (some .long) :: ws) ({ frames := 0, cells := 0, slots := 0, locals := 0 } : Room)) (fun a U => a = #[(.ref r0)] ∧ Z.Warmed39 U.vm ∧ U.heap = h0) (fun _ _ _ _ _ => True) (fun _ U o U' => ∃ v L, o = .returned v ∧ Q10 Z r0 w h0 n0 v U'.heap L ∧ FrameEnd U o U' L ({ frames := 0, cells := 0, slots := 0, locals := 0 } : Room).cells ({ frames := 0, cells := 0, slots := 0, locals := 0 } : Room).slots) := by
  refine MetFree.of_bodySF (plainFor_of_name pn_com_example_recourse_recourse_store_StoredDeadLetter) hisR ?_
  intro p e s m args below meth c s₁ Bd hml0 hP hK
  obtain ⟨rfl, hZ, hh⟩ := hP
  have hx := Bd.exec
  have hby := Bd.bytes
  have hml : c.maxLocals = 1 := hml0
  have hown : s.vm.findClass "com/example/recourse/recourse/store/StoredDeadLetter" = some m.cls := findClass_of_methodNamed Bd.named
  have hnm := (name_of_methodNamed Bd.named Bd.method).1
  have X0 : Stand p l e ({ frames := 0, cells := 0, slots := 0, locals := 0 } : Room) s m #[(.ref r0)] below meth c s₁ [] 0 0 := Stand.of_body Bd
  have e0 : s₁.heap = h0 := by rw [← hh, Bd.state]; rfl
  have N0 := Fr.nil n0
  have pre0 : ∀ t, Steps p.tables e below (s₁.setTop (mkF m 0 #[.val (.ref r0)] [])) t → Steps p.tables e below (s₁.setTop (entryFrame m #[(.ref r0)] 1)) t := fun t k => castTop (ef_10 r0 w m) k
  obtain ⟨T1, X1, e1, st1⟩ := getF X0 hx hZ hown (host := "") (Or.inl (hw _ (List.mem_of_getElem? (i := 40) rfl))) Via.refl e0 F_w (g := (mkF m 1 #[.val (.ref r0)] [(.ref r0)])) rfl rfl (hb hby d10_1)
  obtain ⟨fs, hr, hrun, hended, hW, hsame⟩ := X1.leave (v := some (.long w)) (fun h => by rw [Bd.returns] at h; cases h)
  refine ⟨_, _, pre0 _ ?_, hrun, hended, _, _, rfl, ?_, ⟨_, rfl⟩, hW, hsame.mono (by decide) (by decide)⟩
  · show Steps p.tables e below (s₁.setTop (mkF m 0 #[.val (.ref r0)] [])) _
    refine XS.aloadN X0.here hx rfl (hb hby d10_0) rfl rfl ?_
    show Steps p.tables e below (s₁.setTop (mkF m 1 #[.val (.ref r0)] [(.ref r0)])) _
    refine st1 _ ?_
    show Steps p.tables e below (T1.setTop (mkF m 4 #[.val (.ref r0)] [(.long w)])) _
    exact retOut X1 hx (t := .long) Bd.returns rfl (Or.inr (Or.inl ⟨rfl, rfl, _, rfl⟩)) (hb hby d10_4) hr
  · show Q10 Z r0 w h0 n0 _ T1.heap _
    rw [e1]
    exact ⟨rfl, N0, rfl⟩
theorem d11_0 : decode prog_40_method_11_code 0 = .ok (.aload_n 0, 1) := by decide +kernel
theorem d11_1 : decode prog_40_method_11_code 1 = .ok (.getfield 20, 3) := by decide +kernel
theorem d11_4 : decode prog_40_method_11_code 4 = .ok (.ireturn, 1) := by decide +kernel
theorem ef_11 (r0 : Addr) (w : Int32) (m : MethodId) : entryFrame m #[(.ref r0)] 1 = mkF m 0 #[.val (.ref r0)] [] := by first | (simp [entryFrame, mkF, argsToLocals, Value.category]; done) | rfl
def Q11 (Z : State) (r0 : Addr) (w : Int32) (h0 : Heap) (n0 : Nat) (v : Option Value) (h : Heap) (L : List Loc) : Prop := v = some (.int w) ∧ Fr n0 L ∧ h = h0
set_option maxRecDepth 65536 in
set_option maxHeartbeats 40000000 in
theorem rm11 (l : Launch) (Z : State) (a0 : Array Value) (hw : ∀ d ∈ tables_1, d.before a0 Z = true) (ws : List Jvm.Cond) (r0 : Addr) (w : Int32) (h0 : Heap) (n0 : Nat) (Z0 : n0 ≤ h0.size) (F_w : Fld Z h0 r0 "com/example/recourse/recourse/store/StoredDeadLetter" "reconsumeTimes" "I" (.int w)) :
    MetFree l (⟨"com/example/recourse/recourse/store/StoredDeadLetter", "reconsumeTimes", "()I"⟩ : MethodName) (head1 (Jvm.Cond.code (⟨"com/example/recourse/recourse/store/StoredDeadLetter", "reconsumeTimes", "()I"⟩ : MethodName) prog_40_method_11_code 1 (some .int) :: ws) ({ frames := 0, cells := 0, slots := 0, locals := 0 } : Room)) (fun a U => a = #[(.ref r0)] ∧ Z.Warmed39 U.vm ∧ U.heap = h0) (fun _ _ _ _ _ => True) (fun _ U o U' => ∃ v L, o = .returned v ∧ Q11 Z r0 w h0 n0 v U'.heap L ∧ FrameEnd U o U' L ({ frames := 0, cells := 0, slots := 0, locals := 0 } : Room).cells ({ frames := 0, cells := 0, slots := 0, locals := 0 } : Room).slots) := by
  refine MetFree.of_bodySF (plainFor_of_name pn_com_example_recourse_recourse_store_StoredDeadLetter) hisR ?_
  intro p e s m args below meth c s₁ Bd hml0 hP hK
  obtain ⟨rfl, hZ, hh⟩ := hP
  have hx := Bd.exec
  have hby := Bd.bytes
  have hml : c.maxLocals = 1 := hml0
  have hown : s.vm.findClass "com/example/recourse/recourse/store/StoredDeadLetter" = some m.cls := findClass_of_methodNamed Bd.named
  have hnm := (name_of_methodNamed Bd.named Bd.method).1
  have X0 : Stand p l e ({ frames := 0, cells := 0, slots := 0, locals := 0 } : Room) s m #[(.ref r0)] below meth c s₁ [] 0 0 := Stand.of_body Bd
  have e0 : s₁.heap = h0 := by rw [← hh, Bd.state]; rfl
  have N0 := Fr.nil n0
  have pre0 : ∀ t, Steps p.tables e below (s₁.setTop (mkF m 0 #[.val (.ref r0)] [])) t → Steps p.tables e below (s₁.setTop (entryFrame m #[(.ref r0)] 1)) t := fun t k => castTop (ef_11 r0 w m) k
  obtain ⟨T1, X1, e1, st1⟩ := getF X0 hx hZ hown (host := "") (Or.inl (hw _ (List.mem_of_getElem? (i := 42) rfl))) Via.refl e0 F_w (g := (mkF m 1 #[.val (.ref r0)] [(.ref r0)])) rfl rfl (hb hby d11_1)
  obtain ⟨fs, hr, hrun, hended, hW, hsame⟩ := X1.leave (v := some (.int w)) (fun h => by rw [Bd.returns] at h; cases h)
  refine ⟨_, _, pre0 _ ?_, hrun, hended, _, _, rfl, ?_, ⟨_, rfl⟩, hW, hsame.mono (by decide) (by decide)⟩
  · show Steps p.tables e below (s₁.setTop (mkF m 0 #[.val (.ref r0)] [])) _
    refine XS.aloadN X0.here hx rfl (hb hby d11_0) rfl rfl ?_
    show Steps p.tables e below (s₁.setTop (mkF m 1 #[.val (.ref r0)] [(.ref r0)])) _
    refine st1 _ ?_
    show Steps p.tables e below (T1.setTop (mkF m 4 #[.val (.ref r0)] [(.int w)])) _
    exact retI X1 hx Bd.returns (hb hby d11_4) hr
  · show Q11 Z r0 w h0 n0 _ T1.heap _
    rw [e1]
    exact ⟨rfl, N0, rfl⟩
theorem d12_0 : decode prog_40_method_12_code 0 = .ok (.aload_n 0, 1) := by decide +kernel
theorem d12_1 : decode prog_40_method_12_code 1 = .ok (.getfield 24, 3) := by decide +kernel
theorem d12_4 : decode prog_40_method_12_code 4 = .ok (.areturn, 1) := by decide +kernel
theorem ef_12 (r0 : Addr) (w : Addr) (m : MethodId) : entryFrame m #[(.ref r0)] 1 = mkF m 0 #[.val (.ref r0)] [] := by first | (simp [entryFrame, mkF, argsToLocals, Value.category]; done) | rfl
def Q12 (Z : State) (r0 : Addr) (w : Addr) (h0 : Heap) (n0 : Nat) (v : Option Value) (h : Heap) (L : List Loc) : Prop := v = some (.ref w) ∧ Fr n0 L ∧ h = h0
set_option maxRecDepth 65536 in
set_option maxHeartbeats 40000000 in
theorem rm12 (l : Launch) (Z : State) (a0 : Array Value) (hw : ∀ d ∈ tables_1, d.before a0 Z = true) (ws : List Jvm.Cond) (r0 : Addr) (w : Addr) (h0 : Heap) (n0 : Nat) (Z0 : n0 ≤ h0.size) (F_w : Fld Z h0 r0 "com/example/recourse/recourse/store/StoredDeadLetter" "topic" "Ljava/lang/String;" (.ref w)) :
    MetFree l (⟨"com/example/recourse/recourse/store/StoredDeadLetter", "topic", "()Ljava/lang/String;"⟩ : MethodName) (head1 (Jvm.Cond.code (⟨"com/example/recourse/recourse/store/StoredDeadLetter", "topic", "()Ljava/lang/String;"⟩ : MethodName) prog_40_method_12_code 1 (some (.object "java/lang/String")) :: ws) ({ frames := 0, cells := 0, slots := 0, locals := 0 } : Room)) (fun a U => a = #[(.ref r0)] ∧ Z.Warmed39 U.vm ∧ U.heap = h0) (fun _ _ _ _ _ => True) (fun _ U o U' => ∃ v L, o = .returned v ∧ Q12 Z r0 w h0 n0 v U'.heap L ∧ FrameEnd U o U' L ({ frames := 0, cells := 0, slots := 0, locals := 0 } : Room).cells ({ frames := 0, cells := 0, slots := 0, locals := 0 } : Room).slots) := by
  refine MetFree.of_bodySF (plainFor_of_name pn_com_example_recourse_recourse_store_StoredDeadLetter) hisR ?_
  intro p e s m args below meth c s₁ Bd hml0 hP hK
  obtain ⟨rfl, hZ, hh⟩ := hP
  have hx := Bd.exec
  have hby := Bd.bytes
  have hml : c.maxLocals = 1 := hml0
  have hown : s.vm.findClass "com/example/recourse/recourse/store/StoredDeadLetter" = some m.cls := findClass_of_methodNamed Bd.named
  have hnm := (name_of_methodNamed Bd.named Bd.method).1
  have X0 : Stand p l e ({ frames := 0, cells := 0, slots := 0, locals := 0 } : Room) s m #[(.ref r0)] below meth c s₁ [] 0 0 := Stand.of_body Bd
  have e0 : s₁.heap = h0 := by rw [← hh, Bd.state]; rfl
  have N0 := Fr.nil n0
  have pre0 : ∀ t, Steps p.tables e below (s₁.setTop (mkF m 0 #[.val (.ref r0)] [])) t → Steps p.tables e below (s₁.setTop (entryFrame m #[(.ref r0)] 1)) t := fun t k => castTop (ef_12 r0 w m) k
  obtain ⟨T1, X1, e1, st1⟩ := getF X0 hx hZ hown (host := "") (Or.inl (hw _ (List.mem_of_getElem? (i := 44) rfl))) Via.refl e0 F_w (g := (mkF m 1 #[.val (.ref r0)] [(.ref r0)])) rfl rfl (hb hby d12_1)
  obtain ⟨fs, hr, hrun, hended, hW, hsame⟩ := X1.leave (v := some (.ref w)) (fun h => by rw [Bd.returns] at h; cases h)
  refine ⟨_, _, pre0 _ ?_, hrun, hended, _, _, rfl, ?_, ⟨_, rfl⟩, hW, hsame.mono (by decide) (by decide)⟩
  · show Steps p.tables e below (s₁.setTop (mkF m 0 #[.val (.ref r0)] [])) _
    refine XS.aloadN X0.here hx rfl (hb hby d12_0) rfl rfl ?_
    show Steps p.tables e below (s₁.setTop (mkF m 1 #[.val (.ref r0)] [(.ref r0)])) _
    refine st1 _ ?_
    show Steps p.tables e below (T1.setTop (mkF m 4 #[.val (.ref r0)] [(.ref w)])) _
    exact retOut X1 hx Bd.returns rfl (Or.inr (Or.inr (Or.inr (Or.inr ⟨rfl, rfl, rfl⟩)))) (hb hby d12_4) hr
  · show Q12 Z r0 w h0 n0 _ T1.heap _
    rw [e1]
    exact ⟨rfl, N0, rfl⟩
theorem d14_0 : decode prog_40_method_13_code 0 = .ok (.aload_n 0, 1) := by decide +kernel
theorem d14_1 : decode prog_40_method_13_code 1 = .ok (.getfield 28, 3) := by decide +kernel
theorem d14_4 : decode prog_40_method_13_code 4 = .ok (.areturn, 1) := by decide +kernel
theorem ef_14 (r0 : Addr) (w : Addr) (m : MethodId) : entryFrame m #[(.ref r0)] 1 = mkF m 0 #[.val (.ref r0)] [] := by first | (simp [entryFrame, mkF, argsToLocals, Value.category]; done) | rfl
def Q14 (Z : State) (r0 : Addr) (w : Addr) (h0 : Heap) (n0 : Nat) (v : Option Value) (h : Heap) (L : List Loc) : Prop := v = some (.ref w) ∧ Fr n0 L ∧ h = h0
set_option maxRecDepth 65536 in
set_option maxHeartbeats 40000000 in
theorem rm14 (l : Launch) (Z : State) (a0 : Array Value) (hw : ∀ d ∈ tables_1, d.before a0 Z = true) (ws : List Jvm.Cond) (r0 : Addr) (w : Addr) (h0 : Heap) (n0 : Nat) (Z0 : n0 ≤ h0.size) (F_w : Fld Z h0 r0 "com/example/recourse/recourse/store/StoredDeadLetter" "group" "Ljava/lang/String;" (.ref w)) :
    MetFree l (⟨"com/example/recourse/recourse/store/StoredDeadLetter", "group", "()Ljava/lang/String;"⟩ : MethodName) (head1 (Jvm.Cond.code (⟨"com/example/recourse/recourse/store/StoredDeadLetter", "group", "()Ljava/lang/String;"⟩ : MethodName) prog_40_method_13_code 1 (some (.object "java/lang/String")) :: ws) ({ frames := 0, cells := 0, slots := 0, locals := 0 } : Room)) (fun a U => a = #[(.ref r0)] ∧ Z.Warmed39 U.vm ∧ U.heap = h0) (fun _ _ _ _ _ => True) (fun _ U o U' => ∃ v L, o = .returned v ∧ Q14 Z r0 w h0 n0 v U'.heap L ∧ FrameEnd U o U' L ({ frames := 0, cells := 0, slots := 0, locals := 0 } : Room).cells ({ frames := 0, cells := 0, slots := 0, locals := 0 } : Room).slots) := by
  refine MetFree.of_bodySF (plainFor_of_name pn_com_example_recourse_recourse_store_StoredDeadLetter) hisR ?_
  intro p e s m args below meth c s₁ Bd hml0 hP hK
  obtain ⟨rfl, hZ, hh⟩ := hP
  have hx := Bd.exec
  have hby := Bd.bytes
  have hml : c.maxLocals = 1 := hml0
  have hown : s.vm.findClass "com/example/recourse/recourse/store/StoredDeadLetter" = some m.cls := findClass_of_methodNamed Bd.named
  have hnm := (name_of_methodNamed Bd.named Bd.method).1
  have X0 : Stand p l e ({ frames := 0, cells := 0, slots := 0, locals := 0 } : Room) s m #[(.ref r0)] below meth c s₁ [] 0 0 := Stand.of_body Bd
  have e0 : s₁.heap = h0 := by rw [← hh, Bd.state]; rfl
  have N0 := Fr.nil n0
  have pre0 : ∀ t, Steps p.tables e below (s₁.setTop (mkF m 0 #[.val (.ref r0)] [])) t → Steps p.tables e below (s₁.setTop (entryFrame m #[(.ref r0)] 1)) t := fun t k => castTop (ef_14 r0 w m) k
  obtain ⟨T1, X1, e1, st1⟩ := getF X0 hx hZ hown (host := "") (Or.inl (hw _ (List.mem_of_getElem? (i := 46) rfl))) Via.refl e0 F_w (g := (mkF m 1 #[.val (.ref r0)] [(.ref r0)])) rfl rfl (hb hby d14_1)
  obtain ⟨fs, hr, hrun, hended, hW, hsame⟩ := X1.leave (v := some (.ref w)) (fun h => by rw [Bd.returns] at h; cases h)
  refine ⟨_, _, pre0 _ ?_, hrun, hended, _, _, rfl, ?_, ⟨_, rfl⟩, hW, hsame.mono (by decide) (by decide)⟩
  · show Steps p.tables e below (s₁.setTop (mkF m 0 #[.val (.ref r0)] [])) _
    refine XS.aloadN X0.here hx rfl (hb hby d14_0) rfl rfl ?_
    show Steps p.tables e below (s₁.setTop (mkF m 1 #[.val (.ref r0)] [(.ref r0)])) _
    refine st1 _ ?_
    show Steps p.tables e below (T1.setTop (mkF m 4 #[.val (.ref r0)] [(.ref w)])) _
    exact retOut X1 hx Bd.returns rfl (Or.inr (Or.inr (Or.inr (Or.inr ⟨rfl, rfl, rfl⟩)))) (hb hby d14_4) hr
  · show Q14 Z r0 w h0 n0 _ T1.heap _
    rw [e1]
    exact ⟨rfl, N0, rfl⟩
theorem d15_0 : decode prog_40_method_14_code 0 = .ok (.aload_n 0, 1) := by decide +kernel
theorem d15_1 : decode prog_40_method_14_code 1 = .ok (.getfield 31, 3) := by decide +kernel
theorem d15_4 : decode prog_40_method_14_code 4 = .ok (.lreturn, 1) := by decide +kernel
theorem ef_15 (r0 : Addr) (w : Int64) (m : MethodId) : entryFrame m #[(.ref r0)] 1 = mkF m 0 #[.val (.ref r0)] [] := by first | (simp [entryFrame, mkF, argsToLocals, Value.category]; done) | rfl
def Q15 (Z : State) (r0 : Addr) (w : Int64) (h0 : Heap) (n0 : Nat) (v : Option Value) (h : Heap) (L : List Loc) : Prop := v = some (.long w) ∧ Fr n0 L ∧ h = h0
set_option maxRecDepth 65536 in
set_option maxHeartbeats 40000000 in
theorem rm15 (l : Launch) (Z : State) (a0 : Array Value) (hw : ∀ d ∈ tables_1, d.before a0 Z = true) (ws : List Jvm.Cond) (r0 : Addr) (w : Int64) (h0 : Heap) (n0 : Nat) (Z0 : n0 ≤ h0.size) (F_w : Fld Z h0 r0 "com/example/recourse/recourse/store/StoredDeadLetter" "failedSequence" "J" (.long w)) :
    MetFree l (⟨"com/example/recourse/recourse/store/StoredDeadLetter", "failedSequence", "()J"⟩ : MethodName) (head1 (Jvm.Cond.code (⟨"com/example/recourse/recourse/store/StoredDeadLetter", "failedSequence", "()J"⟩ : MethodName) prog_40_method_14_code 1 (some .long) :: ws) ({ frames := 0, cells := 0, slots := 0, locals := 0 } : Room)) (fun a U => a = #[(.ref r0)] ∧ Z.Warmed39 U.vm ∧ U.heap = h0) (fun _ _ _ _ _ => True) (fun _ U o U' => ∃ v L, o = .returned v ∧ Q15 Z r0 w h0 n0 v U'.heap L ∧ FrameEnd U o U' L ({ frames := 0, cells := 0, slots := 0, locals := 0 } : Room).cells ({ frames := 0, cells := 0, slots := 0, locals := 0 } : Room).slots) := by
  refine MetFree.of_bodySF (plainFor_of_name pn_com_example_recourse_recourse_store_StoredDeadLetter) hisR ?_
  intro p e s m args below meth c s₁ Bd hml0 hP hK
  obtain ⟨rfl, hZ, hh⟩ := hP
  have hx := Bd.exec
  have hby := Bd.bytes
  have hml : c.maxLocals = 1 := hml0
  have hown : s.vm.findClass "com/example/recourse/recourse/store/StoredDeadLetter" = some m.cls := findClass_of_methodNamed Bd.named
  have hnm := (name_of_methodNamed Bd.named Bd.method).1
  have X0 : Stand p l e ({ frames := 0, cells := 0, slots := 0, locals := 0 } : Room) s m #[(.ref r0)] below meth c s₁ [] 0 0 := Stand.of_body Bd
  have e0 : s₁.heap = h0 := by rw [← hh, Bd.state]; rfl
  have N0 := Fr.nil n0
  have pre0 : ∀ t, Steps p.tables e below (s₁.setTop (mkF m 0 #[.val (.ref r0)] [])) t → Steps p.tables e below (s₁.setTop (entryFrame m #[(.ref r0)] 1)) t := fun t k => castTop (ef_15 r0 w m) k
  obtain ⟨T1, X1, e1, st1⟩ := getF X0 hx hZ hown (host := "") (Or.inl (hw _ (List.mem_of_getElem? (i := 48) rfl))) Via.refl e0 F_w (g := (mkF m 1 #[.val (.ref r0)] [(.ref r0)])) rfl rfl (hb hby d15_1)
  obtain ⟨fs, hr, hrun, hended, hW, hsame⟩ := X1.leave (v := some (.long w)) (fun h => by rw [Bd.returns] at h; cases h)
  refine ⟨_, _, pre0 _ ?_, hrun, hended, _, _, rfl, ?_, ⟨_, rfl⟩, hW, hsame.mono (by decide) (by decide)⟩
  · show Steps p.tables e below (s₁.setTop (mkF m 0 #[.val (.ref r0)] [])) _
    refine XS.aloadN X0.here hx rfl (hb hby d15_0) rfl rfl ?_
    show Steps p.tables e below (s₁.setTop (mkF m 1 #[.val (.ref r0)] [(.ref r0)])) _
    refine st1 _ ?_
    show Steps p.tables e below (T1.setTop (mkF m 4 #[.val (.ref r0)] [(.long w)])) _
    exact retOut X1 hx (t := .long) Bd.returns rfl (Or.inr (Or.inl ⟨rfl, rfl, _, rfl⟩)) (hb hby d15_4) hr
  · show Q15 Z r0 w h0 n0 _ T1.heap _
    rw [e1]
    exact ⟨rfl, N0, rfl⟩
theorem d16_0 : decode prog_40_method_15_code 0 = .ok (.aload_n 0, 1) := by decide +kernel
theorem d16_1 : decode prog_40_method_15_code 1 = .ok (.getfield 34, 3) := by decide +kernel
theorem d16_4 : decode prog_40_method_15_code 4 = .ok (.lreturn, 1) := by decide +kernel
theorem ef_16 (r0 : Addr) (w : Int64) (m : MethodId) : entryFrame m #[(.ref r0)] 1 = mkF m 0 #[.val (.ref r0)] [] := by first | (simp [entryFrame, mkF, argsToLocals, Value.category]; done) | rfl
def Q16 (Z : State) (r0 : Addr) (w : Int64) (h0 : Heap) (n0 : Nat) (v : Option Value) (h : Heap) (L : List Loc) : Prop := v = some (.long w) ∧ Fr n0 L ∧ h = h0
set_option maxRecDepth 65536 in
set_option maxHeartbeats 40000000 in
theorem rm16 (l : Launch) (Z : State) (a0 : Array Value) (hw : ∀ d ∈ tables_1, d.before a0 Z = true) (ws : List Jvm.Cond) (r0 : Addr) (w : Int64) (h0 : Heap) (n0 : Nat) (Z0 : n0 ≤ h0.size) (F_w : Fld Z h0 r0 "com/example/recourse/recourse/store/StoredDeadLetter" "deadLetteredAtMillis" "J" (.long w)) :
    MetFree l (⟨"com/example/recourse/recourse/store/StoredDeadLetter", "deadLetteredAtMillis", "()J"⟩ : MethodName) (head1 (Jvm.Cond.code (⟨"com/example/recourse/recourse/store/StoredDeadLetter", "deadLetteredAtMillis", "()J"⟩ : MethodName) prog_40_method_15_code 1 (some .long) :: ws) ({ frames := 0, cells := 0, slots := 0, locals := 0 } : Room)) (fun a U => a = #[(.ref r0)] ∧ Z.Warmed39 U.vm ∧ U.heap = h0) (fun _ _ _ _ _ => True) (fun _ U o U' => ∃ v L, o = .returned v ∧ Q16 Z r0 w h0 n0 v U'.heap L ∧ FrameEnd U o U' L ({ frames := 0, cells := 0, slots := 0, locals := 0 } : Room).cells ({ frames := 0, cells := 0, slots := 0, locals := 0 } : Room).slots) := by
  refine MetFree.of_bodySF (plainFor_of_name pn_com_example_recourse_recourse_store_StoredDeadLetter) hisR ?_
  intro p e s m args below meth c s₁ Bd hml0 hP hK
  obtain ⟨rfl, hZ, hh⟩ := hP
  have hx := Bd.exec
  have hby := Bd.bytes
  have hml : c.maxLocals = 1 := hml0
  have hown : s.vm.findClass "com/example/recourse/recourse/store/StoredDeadLetter" = some m.cls := findClass_of_methodNamed Bd.named
  have hnm := (name_of_methodNamed Bd.named Bd.method).1
  have X0 : Stand p l e ({ frames := 0, cells := 0, slots := 0, locals := 0 } : Room) s m #[(.ref r0)] below meth c s₁ [] 0 0 := Stand.of_body Bd
  have e0 : s₁.heap = h0 := by rw [← hh, Bd.state]; rfl
  have N0 := Fr.nil n0
  have pre0 : ∀ t, Steps p.tables e below (s₁.setTop (mkF m 0 #[.val (.ref r0)] [])) t → Steps p.tables e below (s₁.setTop (entryFrame m #[(.ref r0)] 1)) t := fun t k => castTop (ef_16 r0 w m) k
  obtain ⟨T1, X1, e1, st1⟩ := getF X0 hx hZ hown (host := "") (Or.inl (hw _ (List.mem_of_getElem? (i := 50) rfl))) Via.refl e0 F_w (g := (mkF m 1 #[.val (.ref r0)] [(.ref r0)])) rfl rfl (hb hby d16_1)
  obtain ⟨fs, hr, hrun, hended, hW, hsame⟩ := X1.leave (v := some (.long w)) (fun h => by rw [Bd.returns] at h; cases h)
  refine ⟨_, _, pre0 _ ?_, hrun, hended, _, _, rfl, ?_, ⟨_, rfl⟩, hW, hsame.mono (by decide) (by decide)⟩
  · show Steps p.tables e below (s₁.setTop (mkF m 0 #[.val (.ref r0)] [])) _
    refine XS.aloadN X0.here hx rfl (hb hby d16_0) rfl rfl ?_
    show Steps p.tables e below (s₁.setTop (mkF m 1 #[.val (.ref r0)] [(.ref r0)])) _
    refine st1 _ ?_
    show Steps p.tables e below (T1.setTop (mkF m 4 #[.val (.ref r0)] [(.long w)])) _
    exact retOut X1 hx (t := .long) Bd.returns rfl (Or.inr (Or.inl ⟨rfl, rfl, _, rfl⟩)) (hb hby d16_4) hr
  · show Q16 Z r0 w h0 n0 _ T1.heap _
    rw [e1]
    exact ⟨rfl, N0, rfl⟩
theorem d17_0 : decode prog_40_method_16_code 0 = .ok (.aload_n 0, 1) := by decide +kernel
theorem d17_1 : decode prog_40_method_16_code 1 = .ok (.getfield 37, 3) := by decide +kernel
theorem d17_4 : decode prog_40_method_16_code 4 = .ok (.areturn, 1) := by decide +kernel
theorem ef_17 (r0 : Addr) (w : Addr) (m : MethodId) : entryFrame m #[(.ref r0)] 1 = mkF m 0 #[.val (.ref r0)] [] := by first | (simp [entryFrame, mkF, argsToLocals, Value.category]; done) | rfl
def Q17 (Z : State) (r0 : Addr) (w : Addr) (h0 : Heap) (n0 : Nat) (v : Option Value) (h : Heap) (L : List Loc) : Prop := v = some (.ref w) ∧ Fr n0 L ∧ h = h0
set_option maxRecDepth 65536 in
set_option maxHeartbeats 40000000 in
theorem rm17 (l : Launch) (Z : State) (a0 : Array Value) (hw : ∀ d ∈ tables_1, d.before a0 Z = true) (ws : List Jvm.Cond) (r0 : Addr) (w : Addr) (h0 : Heap) (n0 : Nat) (Z0 : n0 ≤ h0.size) (F_w : Fld Z h0 r0 "com/example/recourse/recourse/store/StoredDeadLetter" "deadLetterTopic" "Ljava/lang/String;" (.ref w)) :
    MetFree l (⟨"com/example/recourse/recourse/store/StoredDeadLetter", "deadLetterTopic", "()Ljava/lang/String;"⟩ : MethodName) (head1 (Jvm.Cond.code (⟨"com/example/recourse/recourse/store/StoredDeadLetter", "deadLetterTopic", "()Ljava/lang/String;"⟩ : MethodName) prog_40_method_16_code 1 (some (.object "java/lang/String")) :: ws) ({ frames := 0, cells := 0, slots := 0, locals := 0 } : Room)) (fun a U => a = #[(.ref r0)] ∧ Z.Warmed39 U.vm ∧ U.heap = h0) (fun _ _ _ _ _ => True) (fun _ U o U' => ∃ v L, o = .returned v ∧ Q17 Z r0 w h0 n0 v U'.heap L ∧ FrameEnd U o U' L ({ frames := 0, cells := 0, slots := 0, locals := 0 } : Room).cells ({ frames := 0, cells := 0, slots := 0, locals := 0 } : Room).slots) := by
  refine MetFree.of_bodySF (plainFor_of_name pn_com_example_recourse_recourse_store_StoredDeadLetter) hisR ?_
  intro p e s m args below meth c s₁ Bd hml0 hP hK
  obtain ⟨rfl, hZ, hh⟩ := hP
  have hx := Bd.exec
  have hby := Bd.bytes
  have hml : c.maxLocals = 1 := hml0
  have hown : s.vm.findClass "com/example/recourse/recourse/store/StoredDeadLetter" = some m.cls := findClass_of_methodNamed Bd.named
  have hnm := (name_of_methodNamed Bd.named Bd.method).1
  have X0 : Stand p l e ({ frames := 0, cells := 0, slots := 0, locals := 0 } : Room) s m #[(.ref r0)] below meth c s₁ [] 0 0 := Stand.of_body Bd
  have e0 : s₁.heap = h0 := by rw [← hh, Bd.state]; rfl
  have N0 := Fr.nil n0
  have pre0 : ∀ t, Steps p.tables e below (s₁.setTop (mkF m 0 #[.val (.ref r0)] [])) t → Steps p.tables e below (s₁.setTop (entryFrame m #[(.ref r0)] 1)) t := fun t k => castTop (ef_17 r0 w m) k
  obtain ⟨T1, X1, e1, st1⟩ := getF X0 hx hZ hown (host := "") (Or.inl (hw _ (List.mem_of_getElem? (i := 52) rfl))) Via.refl e0 F_w (g := (mkF m 1 #[.val (.ref r0)] [(.ref r0)])) rfl rfl (hb hby d17_1)
  obtain ⟨fs, hr, hrun, hended, hW, hsame⟩ := X1.leave (v := some (.ref w)) (fun h => by rw [Bd.returns] at h; cases h)
  refine ⟨_, _, pre0 _ ?_, hrun, hended, _, _, rfl, ?_, ⟨_, rfl⟩, hW, hsame.mono (by decide) (by decide)⟩
  · show Steps p.tables e below (s₁.setTop (mkF m 0 #[.val (.ref r0)] [])) _
    refine XS.aloadN X0.here hx rfl (hb hby d17_0) rfl rfl ?_
    show Steps p.tables e below (s₁.setTop (mkF m 1 #[.val (.ref r0)] [(.ref r0)])) _
    refine st1 _ ?_
    show Steps p.tables e below (T1.setTop (mkF m 4 #[.val (.ref r0)] [(.ref w)])) _
    exact retOut X1 hx Bd.returns rfl (Or.inr (Or.inr (Or.inr (Or.inr ⟨rfl, rfl, rfl⟩)))) (hb hby d17_4) hr
  · show Q17 Z r0 w h0 n0 _ T1.heap _
    rw [e1]
    exact ⟨rfl, N0, rfl⟩
theorem d13_0 : decode jdk_42_method_66_code 0 = .ok (.aload_n 0, 1) := by decide +kernel
theorem d13_1 : decode jdk_42_method_66_code 1 = .ok (.aload_n 1, 1) := by decide +kernel
theorem d13_2 : decode jdk_42_method_66_code 2 = .ok (.if_acmp .ne 5, 3) := by decide +kernel
theorem d13_5 : decode jdk_42_method_66_code 5 = .ok (.iconst 1, 1) := by decide +kernel
theorem d13_6 : decode jdk_42_method_66_code 6 = .ok (.ireturn, 1) := by decide +kernel
theorem ef_13 (r0 : Addr)  (m : MethodId) : entryFrame m #[(.ref r0), (.ref r0)] 3 = mkF m 0 #[.val (.ref r0), .val (.ref r0), .unset] [] := by first | (simp [entryFrame, mkF, argsToLocals, Value.category]; done) | rfl
def F13 (r0 : Addr) : Int32 := (1 : Int32)
def Q13 (Z : State) (r0 : Addr)  (h0 : Heap) (n0 : Nat) (v : Option Value) (h : Heap) (L : List Loc) : Prop := v = some (.int (F13 r0)) ∧ Fr n0 L ∧ h = h0
set_option maxRecDepth 65536 in
set_option maxHeartbeats 40000000 in
theorem rm13 (l : Launch) (Z : State) (a0 : Array Value) (hw : ∀ d ∈ tables_1, d.before a0 Z = true) (ws : List Jvm.Cond) (r0 : Addr)  (h0 : Heap) (n0 : Nat) (Z0 : n0 ≤ h0.size) :
    MetFree l (⟨"java/lang/String", "equals", "(Ljava/lang/Object;)Z"⟩ : MethodName) (head1 (Jvm.Cond.code (⟨"java/lang/String", "equals", "(Ljava/lang/Object;)Z"⟩ : MethodName) jdk_42_method_66_code 3 (some .boolean) :: ws) ({ frames := 0, cells := 0, slots := 0, locals := 0 } : Room)) (fun a U => a = #[(.ref r0), (.ref r0)] ∧ Z.Warmed39 U.vm ∧ U.heap = h0) (fun _ _ _ _ _ => True) (fun _ U o U' => ∃ v L, o = .returned v ∧ Q13 Z r0 h0 n0 v U'.heap L ∧ FrameEnd U o U' L ({ frames := 0, cells := 0, slots := 0, locals := 0 } : Room).cells ({ frames := 0, cells := 0, slots := 0, locals := 0 } : Room).slots) := by
  refine MetFree.of_bodySF (plainFor_of_name pn_java_lang_String) hisR ?_
  intro p e s m args below meth c s₁ Bd hml0 hP hK
  obtain ⟨rfl, hZ, hh⟩ := hP
  have hx := Bd.exec
  have hby := Bd.bytes
  have hml : c.maxLocals = 3 := hml0
  have hown : s.vm.findClass "java/lang/String" = some m.cls := findClass_of_methodNamed Bd.named
  have hnm := (name_of_methodNamed Bd.named Bd.method).1
  have X0 : Stand p l e ({ frames := 0, cells := 0, slots := 0, locals := 0 } : Room) s m #[(.ref r0), (.ref r0)] below meth c s₁ [] 0 0 := Stand.of_body Bd
  have e0 : s₁.heap = h0 := by rw [← hh, Bd.state]; rfl
  have N0 := Fr.nil n0
  have pre0 : ∀ t, Steps p.tables e below (s₁.setTop (mkF m 0 #[.val (.ref r0), .val (.ref r0), .unset] [])) t → Steps p.tables e below (s₁.setTop (entryFrame m #[(.ref r0), (.ref r0)] 3)) t := fun t k => castTop (ef_13 r0 m) k
  obtain ⟨fs, hr, hrun, hended, hW, hsame⟩ := X0.leave (v := some (.int (1 : Int32))) (fun h => by rw [Bd.returns] at h; cases h)
  refine ⟨_, _, pre0 _ ?_, hrun, hended, _, _, rfl, ?_, ⟨_, rfl⟩, hW, hsame.mono (by decide) (by decide)⟩
  · show Steps p.tables e below (s₁.setTop (mkF m 0 #[.val (.ref r0), .val (.ref r0), .unset] [])) _
    refine XS.aloadN X0.here hx rfl (hb hby d13_0) rfl rfl ?_
    show Steps p.tables e below (s₁.setTop (mkF m 1 #[.val (.ref r0), .val (.ref r0), .unset] [(.ref r0)])) _
    refine XS.aloadN X0.here hx rfl (hb hby d13_1) rfl rfl ?_
    show Steps p.tables e below (s₁.setTop (mkF m 2 #[.val (.ref r0), .val (.ref r0), .unset] [(.ref r0), (.ref r0)])) _
    refine Jvm.RoadKit.acmp (g := (mkF m 2 #[.val (.ref r0), .val (.ref r0), .unset] [(.ref r0), (.ref r0)])) X0 hx rfl rfl rfl (pc0 := 2) (pc' := 5) (same := true) rfl (hb hby d13_2) rfl (decide_eq_true rfl) (by decide) (by decide) ?_
    show Steps p.tables e below (s₁.setTop (mkF m 5 #[.val (.ref r0), .val (.ref r0), .unset] [])) _
    refine XS.iconst X0.here hx rfl (hb hby d13_5) ?_
    show Steps p.tables e below (s₁.setTop (mkF m 6 #[.val (.ref r0), .val (.ref r0), .unset] [(.int (1 : Int32))])) _
    exact retN X0 hx (t := .boolean) Bd.returns (by simp) (hb hby d13_6) hr
  · show Q13 Z r0 h0 n0 _ s₁.heap _
    rw [e0]
    exact ⟨rfl, N0, rfl⟩
theorem pn_com_example_recourse_recourse_store_StoredDeadLetterWithOriginPinLaw : plainName "com/example/recourse/recourse/store/StoredDeadLetterWithOriginPinLaw" = true := by first | (simp [plainName, overriddenIn]; done) | decide +kernel
theorem pd__C_Ljava_lang_String_ : parseMethodDescriptor "(C)Ljava/lang/String;" = some ⟨[.char], some (.object "java/lang/String")⟩ := by decide +kernel
theorem pd__Ljava_lang_String_Ljava_lang_String_JJLjava_lang_String__Lcom_example_recourse_recourse_store_StoredDeadLetter_ : parseMethodDescriptor "(Ljava/lang/String;Ljava/lang/String;JJLjava/lang/String;)Lcom/example/recourse/recourse/store/StoredDeadLetter;" = some ⟨[(.object "java/lang/String"), (.object "java/lang/String"), .long, .long, (.object "java/lang/String")], some (.object "com/example/recourse/recourse/store/StoredDeadLetter")⟩ := by decide +kernel
theorem pd___J : parseMethodDescriptor "()J" = some ⟨[], some .long⟩ := by decide +kernel
theorem pd___I : parseMethodDescriptor "()I" = some ⟨[], some .int⟩ := by decide +kernel
theorem pd___Ljava_lang_String_ : parseMethodDescriptor "()Ljava/lang/String;" = some ⟨[], some (.object "java/lang/String")⟩ := by decide +kernel
theorem pd__Ljava_lang_Object__Z : parseMethodDescriptor "(Ljava/lang/Object;)Z" = some ⟨[(.object "java/lang/Object")], some .boolean⟩ := by decide +kernel
theorem ef_0 (q0 : Int64) (q1 : Int64) (p2 : Int32) (q3 : Int64) (q4 : Int64) (p5 : Int32) (wc : Int32) (m : MethodId) : entryFrame m #[(.long q0), (.long q1), (.int p2), (.long q3), (.long q4), (.int p5)] maxLocals = mkF m 0 #[.val (.long q0), .second, .val (.long q1), .second, .val (.int p2), .val (.long q3), .second, .val (.long q4), .second, .val (.int p5), .unset, .unset, .unset, .unset, .unset, .unset] [] := by first | (simp [entryFrame, mkF, argsToLocals, Value.category, maxLocals]; done) | rfl
def F0 (q0 : Int64) (q1 : Int64) (p2 : Int32) (q3 : Int64) (q4 : Int64) (p5 : Int32) (wc : Int32) : Int32 := (if p5 < (0 : Int32) then (1 : Int32) else (1 : Int32))
def Q0 (Z : State) (q0 : Int64) (q1 : Int64) (p2 : Int32) (q3 : Int64) (q4 : Int64) (p5 : Int32) (wc : Int32) (h0 : Heap) (n0 : Nat) (v : Option Value) (h : Heap) (L : List Loc) : Prop := v = some (.int (F0 q0 q1 p2 q3 q4 p5 wc)) ∧ Fr n0 L
set_option maxRecDepth 65536 in
set_option maxHeartbeats 40000000 in
theorem rm0 (l : Launch) (Z : State) (a0 : Array Value) (hw : ∀ d ∈ tables_1, d.before a0 Z = true) (ws : List Jvm.Cond) (q0 : Int64) (q1 : Int64) (p2 : Int32) (q3 : Int64) (q4 : Int64) (p5 : Int32) (wc : Int32) (h0 : Heap) (n0 : Nat) (Z0 : n0 ≤ h0.size) (S_c : Sta Z h0 "java/lang/String" "COMPACT_STRINGS" "Z" (.int wc)) (hwc : ¬ (wc = (0 : Int32))) :
    MetFree l x (head1 (Jvm.Cond.code x code maxLocals ret :: ws) room_1) (fun a U => a = #[(.long q0), (.long q1), (.int p2), (.long q3), (.long q4), (.int p5)] ∧ Z.Warmed39 U.vm ∧ U.heap = h0) (fun _ _ _ _ _ => True) (fun _ U o U' => ∃ v L, o = .returned v ∧ Q0 Z q0 q1 p2 q3 q4 p5 wc h0 n0 v U'.heap L ∧ FrameEnd U o U' L room_1.cells room_1.slots) := by
  refine MetFree.of_bodySF (plainFor_of_name pn_com_example_recourse_recourse_store_StoredDeadLetterWithOriginPinLaw) hisR ?_
  intro p e s m args below meth c s₁ Bd hml0 hP hK
  obtain ⟨rfl, hZ, hh⟩ := hP
  have hx := Bd.exec
  have hby := Bd.bytes
  have hml : c.maxLocals = 16 := hml0
  have hown : s.vm.findClass "com/example/recourse/recourse/store/StoredDeadLetterWithOriginPinLaw" = some m.cls := findClass_of_methodNamed Bd.named
  have hnm := (name_of_methodNamed Bd.named Bd.method).1
  have X0 : Stand p l e room_1 s m #[(.long q0), (.long q1), (.int p2), (.long q3), (.long q4), (.int p5)] below meth c s₁ [] 0 0 := Stand.of_body Bd
  have e0 : s₁.heap = h0 := by rw [← hh, Bd.state]; rfl
  have N0 := Fr.nil n0
  have pre0 : ∀ t, Steps p.tables e below (s₁.setTop (mkF m 0 #[.val (.long q0), .second, .val (.long q1), .second, .val (.int p2), .val (.long q3), .second, .val (.long q4), .second, .val (.int p5), .unset, .unset, .unset, .unset, .unset, .unset] [])) t → Steps p.tables e below (s₁.setTop (entryFrame m #[(.long q0), (.long q1), (.int p2), (.long q3), (.long q4), (.int p5)] maxLocals)) t := fun t k => castTop (ef_0 q0 q1 p2 q3 q4 p5 wc m) k
  have pre1 : ∀ t, Steps p.tables e below (s₁.setTop (mkF m 2 #[.val (.long q0), .second, .val (.long q1), .second, .val (.int p2), .val (.long q3), .second, .val (.long q4), .second, .val (.int p5), .unset, .unset, .unset, .unset, .unset, .unset] [(.int p5)])) t → Steps p.tables e below (s₁.setTop (entryFrame m #[(.long q0), (.long q1), (.int p2), (.long q3), (.long q4), (.int p5)] maxLocals)) t := fun t kt => pre0 t (by
    show Steps p.tables e below (s₁.setTop (mkF m 0 #[.val (.long q0), .second, .val (.long q1), .second, .val (.int p2), .val (.long q3), .second, .val (.long q4), .second, .val (.int p5), .unset, .unset, .unset, .unset, .unset, .unset] [])) _
    refine XS.iload X0.here hx rfl (hb hby at_0) rfl ?_
    exact kt)
  by_cases hc2 : p5 < (0 : Int32)
  · obtain ⟨_, _, ⟨T2, L2, k2, n2⟩, -, X2, ⟨Lc2, hQ2, ll2, ly2, lz2⟩, st2⟩ := Jvm.LawKit.callS X0 hx (y := (⟨"java/lang/String", "valueOf", "(C)Ljava/lang/String;"⟩ : MethodName)) hown (mvT hZ (hw _ (List.mem_of_getElem? (i := 0) rfl))) (mvT hZ (hw _ (List.mem_of_getElem? (i := 1) rfl))) (mvT hZ (hw _ (List.mem_of_getElem? (i := 2) rfl))) (mvT hZ (hw _ (List.mem_of_getElem? (i := 3) rfl))) (by decide) (backOf (W := 0) (rm1 l Z a0 hw [] ((p5 &&& (255 : Int32)).toUInt32.toUInt16.toUInt32.toInt32) wc h0 n0 Z0 S_c hwc (own_c p5 (255 : Int32) (by decide) (by decide))) hZ (hw _ (List.mem_of_getElem? (i := 3) rfl)) (hw _ (List.mem_of_getElem? (i := 2) rfl)) (by decide) (by decide)) (g := (mkF m 30 #[.val (.long q0), .second, .val (.long q1), .second, .val (.int p2), .val (.long q3), .second, .val (.long q4), .second, .val (.int p5), .val .null, .unset, .unset, .unset, .unset, .unset] [(.int ((p5 &&& (255 : Int32)).toUInt32.toUInt16.toUInt32.toInt32))])) rfl (by rw [hml]; rfl) (argsL := [(.int ((p5 &&& (255 : Int32)).toUInt32.toUInt16.toUInt32.toInt32))]) (rest := []) (lenOf pd__C_Ljava_lang_String_ rfl) rfl (by show 2 * 0 + _ ≤ _; exact Nat.le_of_eq rfl) (hb hby at_30) (fun _ _ => ⟨rfl, e0, (by decide : 0 + 2 ≤ _), (by decide : 0 + 5 ≤ _)⟩)
    dsimp only [Pt.U, Pt.locs, Pt.cells, Pt.slots] at X2 ll2 ly2 lz2 st2 hQ2
    subst ll2 ly2 lz2
    obtain ⟨b2, rfl, N2q, K2c, u2, P2_0⟩ := hQ2
    have g_b2 : n0 ≤ b2 := Nat.le_trans Z0 u2
    have sz_b2 : h0.size ≤ b2 := Nat.le_trans (Keep.refl h0 []).1 u2
    have N2 := Fr.app N0 N2q
    have K2 : Keep h0 T2.heap [] := (Keep.refl h0 []).trans K2c all0
    obtain ⟨_, _, ⟨T3, L3, k3, n3⟩, -, X3, ⟨Lc3, hQ3, ll3, ly3, lz3⟩, st3⟩ := Jvm.LawKit.callS X2 hx (y := (⟨"java/lang/String", "valueOf", "(C)Ljava/lang/String;"⟩ : MethodName)) hown (mvT hZ (hw _ (List.mem_of_getElem? (i := 0) rfl))) (mvT hZ (hw _ (List.mem_of_getElem? (i := 1) rfl))) (mvT hZ (hw _ (List.mem_of_getElem? (i := 2) rfl))) (mvT hZ (hw _ (List.mem_of_getElem? (i := 3) rfl))) (by decide) (backOf (W := 0) (rm1 l Z a0 hw [] ((((p5.toUInt32 >>> ((8 : Int32) &&& 31).toUInt32).toInt32) &&& (255 : Int32)).toUInt32.toUInt16.toUInt32.toInt32) wc T2.heap n0 (Nat.le_trans Z0 K2c.1) (own_staK S_c K2c all0) hwc (own_c ((p5.toUInt32 >>> ((8 : Int32) &&& 31).toUInt32).toInt32) (255 : Int32) (by decide) (by decide))) hZ (hw _ (List.mem_of_getElem? (i := 3) rfl)) (hw _ (List.mem_of_getElem? (i := 2) rfl)) (by decide) (by decide)) (g := (mkF m 45 #[.val (.long q0), .second, .val (.long q1), .second, .val (.int p2), .val (.long q3), .second, .val (.long q4), .second, .val (.int p5), .val .null, .val (.ref b2), .unset, .unset, .unset, .unset] [(.int ((((p5.toUInt32 >>> ((8 : Int32) &&& 31).toUInt32).toInt32) &&& (255 : Int32)).toUInt32.toUInt16.toUInt32.toInt32))])) rfl (by rw [hml]; rfl) (argsL := [(.int ((((p5.toUInt32 >>> ((8 : Int32) &&& 31).toUInt32).toInt32) &&& (255 : Int32)).toUInt32.toUInt16.toUInt32.toInt32))]) (rest := []) (lenOf pd__C_Ljava_lang_String_ rfl) rfl (by show 2 * 0 + _ ≤ _; exact Nat.le_of_eq rfl) (hb hby at_45) (fun _ _ => ⟨rfl, (rfl : T2.heap = T2.heap), (by decide : 2 + 2 ≤ _), (by decide : 5 + 5 ≤ _)⟩)
    dsimp only [Pt.U, Pt.locs, Pt.cells, Pt.slots] at X3 ll3 ly3 lz3 st3 hQ3
    subst ll3 ly3 lz3
    obtain ⟨b3, rfl, N3q, K3c, u3, P3_0⟩ := hQ3
    have ne4 : b2 ≠ b3 := Nat.ne_of_lt (Nat.lt_of_lt_of_le P2_0.lt u3)
    have g_b3 : n0 ≤ b3 := Nat.le_trans (Nat.le_trans Z0 K2c.1) u3
    have sz_b3 : h0.size ≤ b3 := Nat.le_trans K2.1 u3
    have N3 := Fr.app N2 N3q
    have K3 : Keep h0 T3.heap [] := K2.trans K3c all0
    obtain ⟨_, _, ⟨T5, L5, k5, n5⟩, -, X5, ⟨Lc5, hQ5, ll5, ly5, lz5⟩, st5⟩ := Jvm.LawKit.callS X3 hx (y := (⟨"java/lang/String", "valueOf", "(C)Ljava/lang/String;"⟩ : MethodName)) hown (mvT hZ (hw _ (List.mem_of_getElem? (i := 0) rfl))) (mvT hZ (hw _ (List.mem_of_getElem? (i := 1) rfl))) (mvT hZ (hw _ (List.mem_of_getElem? (i := 2) rfl))) (mvT hZ (hw _ (List.mem_of_getElem? (i := 3) rfl))) (by decide) (backOf (W := 0) (rm1 l Z a0 hw [] ((((p5.toUInt32 >>> ((16 : Int32) &&& 31).toUInt32).toInt32) &&& (255 : Int32)).toUInt32.toUInt16.toUInt32.toInt32) wc T3.heap n0 (Nat.le_trans (Nat.le_trans Z0 K2c.1) K3c.1) (own_staK (own_staK S_c K2c all0) K3c all0) hwc (own_c ((p5.toUInt32 >>> ((16 : Int32) &&& 31).toUInt32).toInt32) (255 : Int32) (by decide) (by decide))) hZ (hw _ (List.mem_of_getElem? (i := 3) rfl)) (hw _ (List.mem_of_getElem? (i := 2) rfl)) (by decide) (by decide)) (g := (mkF m 60 #[.val (.long q0), .second, .val (.long q1), .second, .val (.int p2), .val (.long q3), .second, .val (.long q4), .second, .val (.int p5), .val .null, .val (.ref b2), .val (.ref b3), .unset, .unset, .unset] [(.int ((((p5.toUInt32 >>> ((16 : Int32) &&& 31).toUInt32).toInt32) &&& (255 : Int32)).toUInt32.toUInt16.toUInt32.toInt32))])) rfl (by rw [hml]; rfl) (argsL := [(.int ((((p5.toUInt32 >>> ((16 : Int32) &&& 31).toUInt32).toInt32) &&& (255 : Int32)).toUInt32.toUInt16.toUInt32.toInt32))]) (rest := []) (lenOf pd__C_Ljava_lang_String_ rfl) rfl (by show 2 * 0 + _ ≤ _; exact Nat.le_of_eq rfl) (hb hby at_60) (fun _ _ => ⟨rfl, (rfl : T3.heap = T3.heap), (by decide : 4 + 2 ≤ _), (by decide : 10 + 5 ≤ _)⟩)
    dsimp only [Pt.U, Pt.locs, Pt.cells, Pt.slots] at X5 ll5 ly5 lz5 st5 hQ5
    subst ll5 ly5 lz5
    obtain ⟨b5, rfl, N5q, K5c, u5, P5_0⟩ := hQ5
    have ne6 : b2 ≠ b5 := Nat.ne_of_lt (Nat.lt_of_lt_of_le (Exa.keep P2_0 K3c).lt u5)
    have ne7 : b3 ≠ b5 := Nat.ne_of_lt (Nat.lt_of_lt_of_le P3_0.lt u5)
    have g_b5 : n0 ≤ b5 := Nat.le_trans (Nat.le_trans (Nat.le_trans Z0 K2c.1) K3c.1) u5
    have sz_b5 : h0.size ≤ b5 := Nat.le_trans K3.1 u5
    have N5 := Fr.app N3 N5q
    have K5 : Keep h0 T5.heap [] := K3.trans K5c all0
    obtain ⟨T8, h8, X8, e8, E8, A8, D8, U8, st8⟩ := newO X5 hx hZ hown (hw _ (List.mem_of_getElem? (i := 26) rfl)) (hw _ (List.mem_of_getElem? (i := 27) rfl)) (hw _ (List.mem_of_getElem? (i := 28) rfl)) (rfl : T5.heap = T5.heap) (g := (mkF m 65 #[.val (.long q0), .second, .val (.long q1), .second, .val (.int p2), .val (.long q3), .second, .val (.long q4), .second, .val (.int p5), .val .null, .val (.ref b2), .val (.ref b3), .val (.ref b5), .unset, .unset] [])) rfl (hb hby at_65) (by decide) (by decide)
    obtain ⟨b8, g8⟩ : ∃ z, z = T5.heap.size := ⟨_, rfl⟩
    rw [← g8] at A8 D8 st8
    have ne9 : b2 ≠ b8 := Nat.ne_of_lt (Nat.lt_of_lt_of_le (Exa.keep (Exa.keep P2_0 K3c) K5c).lt (Nat.le_of_eq g8.symm))
    have ne10 : b3 ≠ b8 := Nat.ne_of_lt (Nat.lt_of_lt_of_le (Exa.keep P3_0 K5c).lt (Nat.le_of_eq g8.symm))
    have ne11 : b5 ≠ b8 := Nat.ne_of_lt (Nat.lt_of_lt_of_le P5_0.lt (Nat.le_of_eq g8.symm))
    have g_b8 : n0 ≤ b8 := Nat.le_trans (Nat.le_trans (Nat.le_trans (Nat.le_trans Z0 K2c.1) K3c.1) K5c.1) (Nat.le_of_eq g8.symm)
    have sz_b8 : h0.size ≤ b8 := Nat.le_trans K5.1 (Nat.le_of_eq g8.symm)
    have K8 : Keep h0 h8 [] := K5.ext E8
    have F_sequence_b8 : Fld Z h8 b8 "com/example/recourse/recourse/store/StoredDeadLetter" "sequence" "J" (.long (0 : Int64)) := D8 (Or.inr (hw _ (List.mem_of_getElem? (i := 39) rfl))) (ty := .long) (by decide)
    have F_originSequence_b8 : Fld Z h8 b8 "com/example/recourse/recourse/store/StoredDeadLetter" "originSequence" "J" (.long (0 : Int64)) := D8 (Or.inr (hw _ (List.mem_of_getElem? (i := 41) rfl))) (ty := .long) (by decide)
    have F_reconsumeTimes_b8 : Fld Z h8 b8 "com/example/recourse/recourse/store/StoredDeadLetter" "reconsumeTimes" "I" (.int (0 : Int32)) := D8 (Or.inr (hw _ (List.mem_of_getElem? (i := 43) rfl))) (ty := .int) (by decide)
    have F_topic_b8 : Fld Z h8 b8 "com/example/recourse/recourse/store/StoredDeadLetter" "topic" "Ljava/lang/String;" .null := D8 (Or.inr (hw _ (List.mem_of_getElem? (i := 45) rfl))) (ty := (.object "java/lang/String")) (by decide)
    have F_group_b8 : Fld Z h8 b8 "com/example/recourse/recourse/store/StoredDeadLetter" "group" "Ljava/lang/String;" .null := D8 (Or.inr (hw _ (List.mem_of_getElem? (i := 47) rfl))) (ty := (.object "java/lang/String")) (by decide)
    have F_failedSequence_b8 : Fld Z h8 b8 "com/example/recourse/recourse/store/StoredDeadLetter" "failedSequence" "J" (.long (0 : Int64)) := D8 (Or.inr (hw _ (List.mem_of_getElem? (i := 49) rfl))) (ty := .long) (by decide)
    have F_deadLetteredAtMillis_b8 : Fld Z h8 b8 "com/example/recourse/recourse/store/StoredDeadLetter" "deadLetteredAtMillis" "J" (.long (0 : Int64)) := D8 (Or.inr (hw _ (List.mem_of_getElem? (i := 51) rfl))) (ty := .long) (by decide)
    have F_deadLetterTopic_b8 : Fld Z h8 b8 "com/example/recourse/recourse/store/StoredDeadLetter" "deadLetterTopic" "Ljava/lang/String;" .null := D8 (Or.inr (hw _ (List.mem_of_getElem? (i := 53) rfl))) (ty := (.object "java/lang/String")) (by decide)
    obtain ⟨_, _, ⟨T12, L12, k12, n12⟩, -, X12, ⟨Lc12, hQ12, ll12, ly12, lz12⟩, st12⟩ := X8.specialBack hx (y := (⟨"com/example/recourse/recourse/store/StoredDeadLetter", "<init>", "(JJILjava/lang/String;Ljava/lang/String;JJLjava/lang/String;)V"⟩ : MethodName)) rfl hown (mvT hZ (hw _ (List.mem_of_getElem? (i := 29) rfl))) (mvT hZ (hw _ (List.mem_of_getElem? (i := 30) rfl))) (mvT hZ (hw _ (List.mem_of_getElem? (i := 31) rfl))) (by decide) (backOf (W := 1) (rm6n l Z a0 hw [] b8 q0 q1 p2 (q3 + (1 : Int64)) (q4 + (1 : Int64)) h8 n0 (Nat.le_trans (Nat.le_trans (Nat.le_trans (Nat.le_trans Z0 K2c.1) K3c.1) K5c.1) E8.1) A8 F_sequence_b8 F_originSequence_b8 F_reconsumeTimes_b8 F_topic_b8 F_group_b8 F_failedSequence_b8 F_deadLetteredAtMillis_b8 F_deadLetterTopic_b8 g_b8) hZ (hw _ (List.mem_of_getElem? (i := 31) rfl)) (hw _ (List.mem_of_getElem? (i := 28) rfl)) (by decide) (by decide)) (g := (mkF m 87 #[.val (.long q0), .second, .val (.long q1), .second, .val (.int p2), .val (.long q3), .second, .val (.long q4), .second, .val (.int p5), .val .null, .val (.ref b2), .val (.ref b3), .val (.ref b5), .unset, .unset] [.null, (.long (q4 + (1 : Int64))), (.long (q3 + (1 : Int64))), .null, .null, (.int p2), (.long q1), (.long q0), (.ref b8), (.ref b8)])) rfl (by rw [hml]; rfl) (Steps.refl _) (a := b8) (argsL := [(.long q0), (.long q1), (.int p2), .null, .null, (.long (q3 + (1 : Int64))), (.long (q4 + (1 : Int64))), .null]) (rest := [(.ref b8)]) (lenOf pd__JJILjava_lang_String_Ljava_lang_String_JJLjava_lang_String__V rfl) rfl (by show 2 * 0 + _ ≤ _; exact Nat.le_of_eq rfl) (hb hby at_87) (fun _ _ => ⟨rfl, e8, (by decide : 7 + 0 ≤ _), (by decide : 23 + 0 ≤ _)⟩)
    dsimp only [Pt.U, Pt.locs, Pt.cells, Pt.slots] at X12 ll12 ly12 lz12 st12 hQ12
    subst ll12 ly12 lz12
    obtain ⟨rfl, N12q, K12c, P12_0, P12_1, P12_2, P12_3, P12_4, P12_5, P12_6, P12_7, P12_8⟩ := hQ12
    have N12 := Fr.app N5 N12q
    have K12 : Keep h0 T12.heap [] := K8.trans K12c (allS (Or.inr sz_b8) all0)
    obtain ⟨cq13, kq13, q13a, q13b, q13c⟩ := isOf hZ (rfl : T12.heap = T12.heap) P12_0
    obtain ⟨_, _, ⟨T13, L13, k13, n13⟩, -, X13, ⟨Lc13, hQ13, ll13, ly13, lz13⟩, st13⟩ := X12.virtualBack hx (y := (⟨"com/example/recourse/recourse/store/StoredDeadLetter", "withOrigin", "(Ljava/lang/String;Ljava/lang/String;JJLjava/lang/String;)Lcom/example/recourse/recourse/store/StoredDeadLetter;"⟩ : MethodName)) (z := (⟨"com/example/recourse/recourse/store/StoredDeadLetter", "withOrigin", "(Ljava/lang/String;Ljava/lang/String;JJLjava/lang/String;)Lcom/example/recourse/recourse/store/StoredDeadLetter;"⟩ : MethodName)) hown (mvT hZ (hw _ (List.mem_of_getElem? (i := 54) rfl))) (mvT hZ (hw _ (List.mem_of_getElem? (i := 55) rfl))) (notFace_of_selects (args := #[]) (mvT hZ (hw _ (List.mem_of_getElem? (i := 57) rfl)))) (mvT hZ (hw _ (List.mem_of_getElem? (i := 57) rfl))) (mvT hZ (hw _ (List.mem_of_getElem? (i := 56) rfl))) (by decide) (backOf (W := 0) (rm8 l Z a0 hw [] b8 b2 b3 q3 q4 b5 q0 q1 p2 T12.heap n0 (Nat.le_trans (Nat.le_trans (Nat.le_trans (Nat.le_trans (Nat.le_trans Z0 K2c.1) K3c.1) K5c.1) E8.1) K12c.1) P12_1 P12_2 P12_3) hZ (hw _ (List.mem_of_getElem? (i := 58) rfl)) (hw _ (List.mem_of_getElem? (i := 28) rfl)) (by decide) (by decide)) q13a q13c (g := (mkF m 104 #[.val (.long q0), .second, .val (.long q1), .second, .val (.int p2), .val (.long q3), .second, .val (.long q4), .second, .val (.int p5), .val .null, .val (.ref b2), .val (.ref b3), .val (.ref b5), .val (.ref b8), .unset] [(.ref b5), (.long q4), (.long q3), (.ref b3), (.ref b2), (.ref b8)])) rfl (by rw [hml]; rfl) (Steps.refl _) (argsL := [(.ref b2), (.ref b3), (.long q3), (.long q4), (.ref b5)]) (rest := []) (lenOf pd__Ljava_lang_String_Ljava_lang_String_JJLjava_lang_String__Lcom_example_recourse_recourse_store_StoredDeadLetter_ rfl) rfl (by show 2 * 0 + _ ≤ _; exact Nat.le_of_eq rfl) (hb hby at_104) (fun _ _ => ⟨rfl, (rfl : T12.heap = T12.heap), (by decide : 7 + 1 ≤ _), (by decide : 23 + 8 ≤ _)⟩)
    dsimp only [Pt.U, Pt.locs, Pt.cells, Pt.slots] at X13 ll13 ly13 lz13 st13 hQ13
    subst ll13 ly13 lz13
    obtain ⟨b13, rfl, N13q, K13c, u13, P13_0, P13_1, P13_2, P13_3, P13_4, P13_5, P13_6, P13_7, P13_8⟩ := hQ13
    have ne14 : b2 ≠ b13 := Nat.ne_of_lt (Nat.lt_of_lt_of_le (Exa.keep (Exa.ext E8 (Exa.keep (Exa.keep P2_0 K3c) K5c)) K12c).lt u13)
    have ne15 : b3 ≠ b13 := Nat.ne_of_lt (Nat.lt_of_lt_of_le (Exa.keep (Exa.ext E8 (Exa.keep P3_0 K5c)) K12c).lt u13)
    have ne16 : b5 ≠ b13 := Nat.ne_of_lt (Nat.lt_of_lt_of_le (Exa.keep (Exa.ext E8 P5_0) K12c).lt u13)
    have ne17 : b8 ≠ b13 := Nat.ne_of_lt (Nat.lt_of_lt_of_le P12_0.lt u13)
    have g_b13 : n0 ≤ b13 := Nat.le_trans (Nat.le_trans (Nat.le_trans (Nat.le_trans (Nat.le_trans (Nat.le_trans Z0 K2c.1) K3c.1) K5c.1) E8.1) K12c.1) u13
    have sz_b13 : h0.size ≤ b13 := Nat.le_trans K12.1 u13
    have N13 := Fr.app N12 N13q
    have K13 : Keep h0 T13.heap [] := K12.trans K13c all0
    obtain ⟨cq18, kq18, q18a, q18b, q18c⟩ := isOf hZ (rfl : T13.heap = T13.heap) P13_0
    obtain ⟨_, _, ⟨T18, L18, k18, n18⟩, -, X18, ⟨Lc18, hQ18, ll18, ly18, lz18⟩, st18⟩ := X13.virtualBack hx (y := (⟨"com/example/recourse/recourse/store/StoredDeadLetter", "sequence", "()J"⟩ : MethodName)) (z := (⟨"com/example/recourse/recourse/store/StoredDeadLetter", "sequence", "()J"⟩ : MethodName)) hown (mvT hZ (hw _ (List.mem_of_getElem? (i := 61) rfl))) (mvT hZ (hw _ (List.mem_of_getElem? (i := 62) rfl))) (notFace_of_selects (args := #[]) (mvT hZ (hw _ (List.mem_of_getElem? (i := 64) rfl)))) (mvT hZ (hw _ (List.mem_of_getElem? (i := 64) rfl))) (mvT hZ (hw _ (List.mem_of_getElem? (i := 63) rfl))) (by decide) (backOf (W := 0) (rm9 l Z a0 hw [] b13 q0 T13.heap n0 (Nat.le_trans (Nat.le_trans (Nat.le_trans (Nat.le_trans (Nat.le_trans (Nat.le_trans Z0 K2c.1) K3c.1) K5c.1) E8.1) K12c.1) K13c.1) P13_1) hZ (hw _ (List.mem_of_getElem? (i := 65) rfl)) (hw _ (List.mem_of_getElem? (i := 28) rfl)) (by decide) (by decide)) q18a q18c (g := (mkF m 118 #[.val (.long q0), .second, .val (.long q1), .second, .val (.int p2), .val (.long q3), .second, .val (.long q4), .second, .val (.int p5), .val .null, .val (.ref b2), .val (.ref b3), .val (.ref b5), .val (.ref b8), .val (.ref b13)] [(.ref b13)])) rfl (by rw [hml]; rfl) (Steps.refl _) (argsL := []) (rest := []) (lenOf pd___J rfl) rfl (by show 2 * 0 + _ ≤ _; exact Nat.le_of_eq rfl) (hb hby at_118) (fun _ _ => ⟨rfl, (rfl : T13.heap = T13.heap), (by decide : 8 + 0 ≤ _), (by decide : 31 + 0 ≤ _)⟩)
    dsimp only [Pt.U, Pt.locs, Pt.cells, Pt.slots] at X18 ll18 ly18 lz18 st18 hQ18
    subst ll18 ly18 lz18
    obtain ⟨rfl, N18q, e18⟩ := hQ18
    have N18 := Fr.app N13 N18q
    obtain ⟨cq19, kq19, q19a, q19b, q19c⟩ := isOf hZ e18 P13_0
    obtain ⟨_, _, ⟨T19, L19, k19, n19⟩, -, X19, ⟨Lc19, hQ19, ll19, ly19, lz19⟩, st19⟩ := X18.virtualBack hx (y := (⟨"com/example/recourse/recourse/store/StoredDeadLetter", "originSequence", "()J"⟩ : MethodName)) (z := (⟨"com/example/recourse/recourse/store/StoredDeadLetter", "originSequence", "()J"⟩ : MethodName)) hown (mvT hZ (hw _ (List.mem_of_getElem? (i := 66) rfl))) (mvT hZ (hw _ (List.mem_of_getElem? (i := 67) rfl))) (notFace_of_selects (args := #[]) (mvT hZ (hw _ (List.mem_of_getElem? (i := 69) rfl)))) (mvT hZ (hw _ (List.mem_of_getElem? (i := 69) rfl))) (mvT hZ (hw _ (List.mem_of_getElem? (i := 68) rfl))) (by decide) (backOf (W := 0) (rm10 l Z a0 hw [] b13 q1 T13.heap n0 (Nat.le_trans (Nat.le_trans (Nat.le_trans (Nat.le_trans (Nat.le_trans (Nat.le_trans Z0 K2c.1) K3c.1) K5c.1) E8.1) K12c.1) K13c.1) P13_2) hZ (hw _ (List.mem_of_getElem? (i := 70) rfl)) (hw _ (List.mem_of_getElem? (i := 28) rfl)) (by decide) (by decide)) q19a q19c (g := (mkF m 128 #[.val (.long q0), .second, .val (.long q1), .second, .val (.int p2), .val (.long q3), .second, .val (.long q4), .second, .val (.int p5), .val .null, .val (.ref b2), .val (.ref b3), .val (.ref b5), .val (.ref b8), .val (.ref b13)] [(.ref b13)])) rfl (by rw [hml]; rfl) (Steps.refl _) (argsL := []) (rest := []) (lenOf pd___J rfl) rfl (by show 2 * 0 + _ ≤ _; exact Nat.le_of_eq rfl) (hb hby at_128) (fun _ _ => ⟨rfl, e18, (by decide : 8 + 0 ≤ _), (by decide : 31 + 0 ≤ _)⟩)
    dsimp only [Pt.U, Pt.locs, Pt.cells, Pt.slots] at X19 ll19 ly19 lz19 st19 hQ19
    subst ll19 ly19 lz19
    obtain ⟨rfl, N19q, e19⟩ := hQ19
    have N19 := Fr.app N18 N19q
    obtain ⟨cq20, kq20, q20a, q20b, q20c⟩ := isOf hZ e19 P13_0
    obtain ⟨_, _, ⟨T20, L20, k20, n20⟩, -, X20, ⟨Lc20, hQ20, ll20, ly20, lz20⟩, st20⟩ := X19.virtualBack hx (y := (⟨"com/example/recourse/recourse/store/StoredDeadLetter", "reconsumeTimes", "()I"⟩ : MethodName)) (z := (⟨"com/example/recourse/recourse/store/StoredDeadLetter", "reconsumeTimes", "()I"⟩ : MethodName)) hown (mvT hZ (hw _ (List.mem_of_getElem? (i := 71) rfl))) (mvT hZ (hw _ (List.mem_of_getElem? (i := 72) rfl))) (notFace_of_selects (args := #[]) (mvT hZ (hw _ (List.mem_of_getElem? (i := 74) rfl)))) (mvT hZ (hw _ (List.mem_of_getElem? (i := 74) rfl))) (mvT hZ (hw _ (List.mem_of_getElem? (i := 73) rfl))) (by decide) (backOf (W := 0) (rm11 l Z a0 hw [] b13 p2 T13.heap n0 (Nat.le_trans (Nat.le_trans (Nat.le_trans (Nat.le_trans (Nat.le_trans (Nat.le_trans Z0 K2c.1) K3c.1) K5c.1) E8.1) K12c.1) K13c.1) P13_3) hZ (hw _ (List.mem_of_getElem? (i := 75) rfl)) (hw _ (List.mem_of_getElem? (i := 28) rfl)) (by decide) (by decide)) q20a q20c (g := (mkF m 138 #[.val (.long q0), .second, .val (.long q1), .second, .val (.int p2), .val (.long q3), .second, .val (.long q4), .second, .val (.int p5), .val .null, .val (.ref b2), .val (.ref b3), .val (.ref b5), .val (.ref b8), .val (.ref b13)] [(.ref b13)])) rfl (by rw [hml]; rfl) (Steps.refl _) (argsL := []) (rest := []) (lenOf pd___I rfl) rfl (by show 2 * 0 + _ ≤ _; exact Nat.le_of_eq rfl) (hb hby at_138) (fun _ _ => ⟨rfl, e19, (by decide : 8 + 0 ≤ _), (by decide : 31 + 0 ≤ _)⟩)
    dsimp only [Pt.U, Pt.locs, Pt.cells, Pt.slots] at X20 ll20 ly20 lz20 st20 hQ20
    subst ll20 ly20 lz20
    obtain ⟨rfl, N20q, e20⟩ := hQ20
    have N20 := Fr.app N19 N20q
    obtain ⟨cq21, kq21, q21a, q21b, q21c⟩ := isOf hZ e20 P13_0
    obtain ⟨_, _, ⟨T21, L21, k21, n21⟩, -, X21, ⟨Lc21, hQ21, ll21, ly21, lz21⟩, st21⟩ := X20.virtualBack hx (y := (⟨"com/example/recourse/recourse/store/StoredDeadLetter", "topic", "()Ljava/lang/String;"⟩ : MethodName)) (z := (⟨"com/example/recourse/recourse/store/StoredDeadLetter", "topic", "()Ljava/lang/String;"⟩ : MethodName)) hown (mvT hZ (hw _ (List.mem_of_getElem? (i := 76) rfl))) (mvT hZ (hw _ (List.mem_of_getElem? (i := 77) rfl))) (notFace_of_selects (args := #[]) (mvT hZ (hw _ (List.mem_of_getElem? (i := 79) rfl)))) (mvT hZ (hw _ (List.mem_of_getElem? (i := 79) rfl))) (mvT hZ (hw _ (List.mem_of_getElem? (i := 78) rfl))) (by decide) (backOf (W := 1) (rm12 l Z a0 hw [] b13 b2 T13.heap n0 (Nat.le_trans (Nat.le_trans (Nat.le_trans (Nat.le_trans (Nat.le_trans (Nat.le_trans Z0 K2c.1) K3c.1) K5c.1) E8.1) K12c.1) K13c.1) P13_4) hZ (hw _ (List.mem_of_getElem? (i := 80) rfl)) (hw _ (List.mem_of_getElem? (i := 28) rfl)) (by decide) (by decide)) q21a q21c (g := (mkF m 150 #[.val (.long q0), .second, .val (.long q1), .second, .val (.int p2), .val (.long q3), .second, .val (.long q4), .second, .val (.int p5), .val .null, .val (.ref b2), .val (.ref b3), .val (.ref b5), .val (.ref b8), .val (.ref b13)] [(.ref b13), (.ref b2)])) rfl (by rw [hml]; rfl) (Steps.refl _) (argsL := []) (rest := [(.ref b2)]) (lenOf pd___Ljava_lang_String_ rfl) rfl (by show 2 * 0 + _ ≤ _; exact Nat.le_of_eq rfl) (hb hby at_150) (fun _ _ => ⟨rfl, e20, (by decide : 8 + 0 ≤ _), (by decide : 31 + 0 ≤ _)⟩)
    dsimp only [Pt.U, Pt.locs, Pt.cells, Pt.slots] at X21 ll21 ly21 lz21 st21 hQ21
    subst ll21 ly21 lz21
    obtain ⟨rfl, N21q, e21⟩ := hQ21
    have N21 := Fr.app N20 N21q
    obtain ⟨cq22, kq22, q22a, q22b, q22c⟩ := isOf hZ e21 (Exa.keep (Exa.keep (Exa.ext E8 (Exa.keep (Exa.keep P2_0 K3c) K5c)) K12c) K13c)
    obtain ⟨_, _, ⟨T22, L22, k22, n22⟩, -, X22, ⟨Lc22, hQ22, ll22, ly22, lz22⟩, st22⟩ := X21.virtualBack hx (y := (⟨"java/lang/String", "equals", "(Ljava/lang/Object;)Z"⟩ : MethodName)) (z := (⟨"java/lang/String", "equals", "(Ljava/lang/Object;)Z"⟩ : MethodName)) hown (mvT hZ (hw _ (List.mem_of_getElem? (i := 81) rfl))) (mvT hZ (hw _ (List.mem_of_getElem? (i := 82) rfl))) (notFace_of_selects (args := #[]) (mvT hZ (hw _ (List.mem_of_getElem? (i := 84) rfl)))) (mvT hZ (hw _ (List.mem_of_getElem? (i := 84) rfl))) (mvT hZ (hw _ (List.mem_of_getElem? (i := 83) rfl))) (by decide) (backOf (W := 0) (rm13 l Z a0 hw [] b2 T13.heap n0 (Nat.le_trans (Nat.le_trans (Nat.le_trans (Nat.le_trans (Nat.le_trans (Nat.le_trans Z0 K2c.1) K3c.1) K5c.1) E8.1) K12c.1) K13c.1) ) hZ (hw _ (List.mem_of_getElem? (i := 85) rfl)) (hw _ (List.mem_of_getElem? (i := 2) rfl)) (by decide) (by decide)) q22a q22c (g := (mkF m 153 #[.val (.long q0), .second, .val (.long q1), .second, .val (.int p2), .val (.long q3), .second, .val (.long q4), .second, .val (.int p5), .val .null, .val (.ref b2), .val (.ref b3), .val (.ref b5), .val (.ref b8), .val (.ref b13)] [(.ref b2), (.ref b2)])) rfl (by rw [hml]; rfl) (Steps.refl _) (argsL := [(.ref b2)]) (rest := []) (lenOf pd__Ljava_lang_Object__Z rfl) rfl (by show 2 * 0 + _ ≤ _; exact Nat.le_of_eq rfl) (hb hby at_153) (fun _ _ => ⟨rfl, e21, (by decide : 8 + 0 ≤ _), (by decide : 31 + 0 ≤ _)⟩)
    dsimp only [Pt.U, Pt.locs, Pt.cells, Pt.slots] at X22 ll22 ly22 lz22 st22 hQ22
    subst ll22 ly22 lz22
    obtain ⟨rfl, N22q, e22⟩ := hQ22
    have N22 := Fr.app N21 N22q
    have hc156 : ¬ ((F13 b2) = (0 : Int32)) := by unfold F13; decide
    obtain ⟨cq23, kq23, q23a, q23b, q23c⟩ := isOf hZ e22 P13_0
    obtain ⟨_, _, ⟨T23, L23, k23, n23⟩, -, X23, ⟨Lc23, hQ23, ll23, ly23, lz23⟩, st23⟩ := X22.virtualBack hx (y := (⟨"com/example/recourse/recourse/store/StoredDeadLetter", "group", "()Ljava/lang/String;"⟩ : MethodName)) (z := (⟨"com/example/recourse/recourse/store/StoredDeadLetter", "group", "()Ljava/lang/String;"⟩ : MethodName)) hown (mvT hZ (hw _ (List.mem_of_getElem? (i := 86) rfl))) (mvT hZ (hw _ (List.mem_of_getElem? (i := 87) rfl))) (notFace_of_selects (args := #[]) (mvT hZ (hw _ (List.mem_of_getElem? (i := 89) rfl)))) (mvT hZ (hw _ (List.mem_of_getElem? (i := 89) rfl))) (mvT hZ (hw _ (List.mem_of_getElem? (i := 88) rfl))) (by decide) (backOf (W := 1) (rm14 l Z a0 hw [] b13 b3 T13.heap n0 (Nat.le_trans (Nat.le_trans (Nat.le_trans (Nat.le_trans (Nat.le_trans (Nat.le_trans Z0 K2c.1) K3c.1) K5c.1) E8.1) K12c.1) K13c.1) P13_5) hZ (hw _ (List.mem_of_getElem? (i := 90) rfl)) (hw _ (List.mem_of_getElem? (i := 28) rfl)) (by decide) (by decide)) q23a q23c (g := (mkF m 163 #[.val (.long q0), .second, .val (.long q1), .second, .val (.int p2), .val (.long q3), .second, .val (.long q4), .second, .val (.int p5), .val .null, .val (.ref b2), .val (.ref b3), .val (.ref b5), .val (.ref b8), .val (.ref b13)] [(.ref b13), (.ref b3)])) rfl (by rw [hml]; rfl) (Steps.refl _) (argsL := []) (rest := [(.ref b3)]) (lenOf pd___Ljava_lang_String_ rfl) rfl (by show 2 * 0 + _ ≤ _; exact Nat.le_of_eq rfl) (hb hby at_163) (fun _ _ => ⟨rfl, e22, (by decide : 8 + 0 ≤ _), (by decide : 31 + 0 ≤ _)⟩)
    dsimp only [Pt.U, Pt.locs, Pt.cells, Pt.slots] at X23 ll23 ly23 lz23 st23 hQ23
    subst ll23 ly23 lz23
    obtain ⟨rfl, N23q, e23⟩ := hQ23
    have N23 := Fr.app N22 N23q
    obtain ⟨cq24, kq24, q24a, q24b, q24c⟩ := isOf hZ e23 (Exa.keep (Exa.keep (Exa.ext E8 (Exa.keep P3_0 K5c)) K12c) K13c)
    obtain ⟨_, _, ⟨T24, L24, k24, n24⟩, -, X24, ⟨Lc24, hQ24, ll24, ly24, lz24⟩, st24⟩ := X23.virtualBack hx (y := (⟨"java/lang/String", "equals", "(Ljava/lang/Object;)Z"⟩ : MethodName)) (z := (⟨"java/lang/String", "equals", "(Ljava/lang/Object;)Z"⟩ : MethodName)) hown (mvT hZ (hw _ (List.mem_of_getElem? (i := 81) rfl))) (mvT hZ (hw _ (List.mem_of_getElem? (i := 82) rfl))) (notFace_of_selects (args := #[]) (mvT hZ (hw _ (List.mem_of_getElem? (i := 84) rfl)))) (mvT hZ (hw _ (List.mem_of_getElem? (i := 84) rfl))) (mvT hZ (hw _ (List.mem_of_getElem? (i := 83) rfl))) (by decide) (backOf (W := 0) (rm13 l Z a0 hw [] b3 T13.heap n0 (Nat.le_trans (Nat.le_trans (Nat.le_trans (Nat.le_trans (Nat.le_trans (Nat.le_trans Z0 K2c.1) K3c.1) K5c.1) E8.1) K12c.1) K13c.1) ) hZ (hw _ (List.mem_of_getElem? (i := 85) rfl)) (hw _ (List.mem_of_getElem? (i := 2) rfl)) (by decide) (by decide)) q24a q24c (g := (mkF m 166 #[.val (.long q0), .second, .val (.long q1), .second, .val (.int p2), .val (.long q3), .second, .val (.long q4), .second, .val (.int p5), .val .null, .val (.ref b2), .val (.ref b3), .val (.ref b5), .val (.ref b8), .val (.ref b13)] [(.ref b3), (.ref b3)])) rfl (by rw [hml]; rfl) (Steps.refl _) (argsL := [(.ref b3)]) (rest := []) (lenOf pd__Ljava_lang_Object__Z rfl) rfl (by show 2 * 0 + _ ≤ _; exact Nat.le_of_eq rfl) (hb hby at_166) (fun _ _ => ⟨rfl, e23, (by decide : 8 + 0 ≤ _), (by decide : 31 + 0 ≤ _)⟩)
    dsimp only [Pt.U, Pt.locs, Pt.cells, Pt.slots] at X24 ll24 ly24 lz24 st24 hQ24
    subst ll24 ly24 lz24
    obtain ⟨rfl, N24q, e24⟩ := hQ24
    have N24 := Fr.app N23 N24q
    have hc169 : ¬ ((F13 b3) = (0 : Int32)) := by unfold F13; decide
    obtain ⟨cq25, kq25, q25a, q25b, q25c⟩ := isOf hZ e24 P13_0
    obtain ⟨_, _, ⟨T25, L25, k25, n25⟩, -, X25, ⟨Lc25, hQ25, ll25, ly25, lz25⟩, st25⟩ := X24.virtualBack hx (y := (⟨"com/example/recourse/recourse/store/StoredDeadLetter", "failedSequence", "()J"⟩ : MethodName)) (z := (⟨"com/example/recourse/recourse/store/StoredDeadLetter", "failedSequence", "()J"⟩ : MethodName)) hown (mvT hZ (hw _ (List.mem_of_getElem? (i := 91) rfl))) (mvT hZ (hw _ (List.mem_of_getElem? (i := 92) rfl))) (notFace_of_selects (args := #[]) (mvT hZ (hw _ (List.mem_of_getElem? (i := 94) rfl)))) (mvT hZ (hw _ (List.mem_of_getElem? (i := 94) rfl))) (mvT hZ (hw _ (List.mem_of_getElem? (i := 93) rfl))) (by decide) (backOf (W := 0) (rm15 l Z a0 hw [] b13 q3 T13.heap n0 (Nat.le_trans (Nat.le_trans (Nat.le_trans (Nat.le_trans (Nat.le_trans (Nat.le_trans Z0 K2c.1) K3c.1) K5c.1) E8.1) K12c.1) K13c.1) P13_6) hZ (hw _ (List.mem_of_getElem? (i := 95) rfl)) (hw _ (List.mem_of_getElem? (i := 28) rfl)) (by decide) (by decide)) q25a q25c (g := (mkF m 174 #[.val (.long q0), .second, .val (.long q1), .second, .val (.int p2), .val (.long q3), .second, .val (.long q4), .second, .val (.int p5), .val .null, .val (.ref b2), .val (.ref b3), .val (.ref b5), .val (.ref b8), .val (.ref b13)] [(.ref b13)])) rfl (by rw [hml]; rfl) (Steps.refl _) (argsL := []) (rest := []) (lenOf pd___J rfl) rfl (by show 2 * 0 + _ ≤ _; exact Nat.le_of_eq rfl) (hb hby at_174) (fun _ _ => ⟨rfl, e24, (by decide : 8 + 0 ≤ _), (by decide : 31 + 0 ≤ _)⟩)
    dsimp only [Pt.U, Pt.locs, Pt.cells, Pt.slots] at X25 ll25 ly25 lz25 st25 hQ25
    subst ll25 ly25 lz25
    obtain ⟨rfl, N25q, e25⟩ := hQ25
    have N25 := Fr.app N24 N25q
    obtain ⟨cq26, kq26, q26a, q26b, q26c⟩ := isOf hZ e25 P13_0
    obtain ⟨_, _, ⟨T26, L26, k26, n26⟩, -, X26, ⟨Lc26, hQ26, ll26, ly26, lz26⟩, st26⟩ := X25.virtualBack hx (y := (⟨"com/example/recourse/recourse/store/StoredDeadLetter", "deadLetteredAtMillis", "()J"⟩ : MethodName)) (z := (⟨"com/example/recourse/recourse/store/StoredDeadLetter", "deadLetteredAtMillis", "()J"⟩ : MethodName)) hown (mvT hZ (hw _ (List.mem_of_getElem? (i := 96) rfl))) (mvT hZ (hw _ (List.mem_of_getElem? (i := 97) rfl))) (notFace_of_selects (args := #[]) (mvT hZ (hw _ (List.mem_of_getElem? (i := 99) rfl)))) (mvT hZ (hw _ (List.mem_of_getElem? (i := 99) rfl))) (mvT hZ (hw _ (List.mem_of_getElem? (i := 98) rfl))) (by decide) (backOf (W := 0) (rm16 l Z a0 hw [] b13 q4 T13.heap n0 (Nat.le_trans (Nat.le_trans (Nat.le_trans (Nat.le_trans (Nat.le_trans (Nat.le_trans Z0 K2c.1) K3c.1) K5c.1) E8.1) K12c.1) K13c.1) P13_7) hZ (hw _ (List.mem_of_getElem? (i := 100) rfl)) (hw _ (List.mem_of_getElem? (i := 28) rfl)) (by decide) (by decide)) q26a q26c (g := (mkF m 185 #[.val (.long q0), .second, .val (.long q1), .second, .val (.int p2), .val (.long q3), .second, .val (.long q4), .second, .val (.int p5), .val .null, .val (.ref b2), .val (.ref b3), .val (.ref b5), .val (.ref b8), .val (.ref b13)] [(.ref b13)])) rfl (by rw [hml]; rfl) (Steps.refl _) (argsL := []) (rest := []) (lenOf pd___J rfl) rfl (by show 2 * 0 + _ ≤ _; exact Nat.le_of_eq rfl) (hb hby at_185) (fun _ _ => ⟨rfl, e25, (by decide : 8 + 0 ≤ _), (by decide : 31 + 0 ≤ _)⟩)
    dsimp only [Pt.U, Pt.locs, Pt.cells, Pt.slots] at X26 ll26 ly26 lz26 st26 hQ26
    subst ll26 ly26 lz26
    obtain ⟨rfl, N26q, e26⟩ := hQ26
    have N26 := Fr.app N25 N26q
    obtain ⟨cq27, kq27, q27a, q27b, q27c⟩ := isOf hZ e26 P13_0
    obtain ⟨_, _, ⟨T27, L27, k27, n27⟩, -, X27, ⟨Lc27, hQ27, ll27, ly27, lz27⟩, st27⟩ := X26.virtualBack hx (y := (⟨"com/example/recourse/recourse/store/StoredDeadLetter", "deadLetterTopic", "()Ljava/lang/String;"⟩ : MethodName)) (z := (⟨"com/example/recourse/recourse/store/StoredDeadLetter", "deadLetterTopic", "()Ljava/lang/String;"⟩ : MethodName)) hown (mvT hZ (hw _ (List.mem_of_getElem? (i := 101) rfl))) (mvT hZ (hw _ (List.mem_of_getElem? (i := 102) rfl))) (notFace_of_selects (args := #[]) (mvT hZ (hw _ (List.mem_of_getElem? (i := 104) rfl)))) (mvT hZ (hw _ (List.mem_of_getElem? (i := 104) rfl))) (mvT hZ (hw _ (List.mem_of_getElem? (i := 103) rfl))) (by decide) (backOf (W := 1) (rm17 l Z a0 hw [] b13 b5 T13.heap n0 (Nat.le_trans (Nat.le_trans (Nat.le_trans (Nat.le_trans (Nat.le_trans (Nat.le_trans Z0 K2c.1) K3c.1) K5c.1) E8.1) K12c.1) K13c.1) P13_8) hZ (hw _ (List.mem_of_getElem? (i := 105) rfl)) (hw _ (List.mem_of_getElem? (i := 28) rfl)) (by decide) (by decide)) q27a q27c (g := (mkF m 198 #[.val (.long q0), .second, .val (.long q1), .second, .val (.int p2), .val (.long q3), .second, .val (.long q4), .second, .val (.int p5), .val .null, .val (.ref b2), .val (.ref b3), .val (.ref b5), .val (.ref b8), .val (.ref b13)] [(.ref b13), (.ref b5)])) rfl (by rw [hml]; rfl) (Steps.refl _) (argsL := []) (rest := [(.ref b5)]) (lenOf pd___Ljava_lang_String_ rfl) rfl (by show 2 * 0 + _ ≤ _; exact Nat.le_of_eq rfl) (hb hby at_198) (fun _ _ => ⟨rfl, e26, (by decide : 8 + 0 ≤ _), (by decide : 31 + 0 ≤ _)⟩)
    dsimp only [Pt.U, Pt.locs, Pt.cells, Pt.slots] at X27 ll27 ly27 lz27 st27 hQ27
    subst ll27 ly27 lz27
    obtain ⟨rfl, N27q, e27⟩ := hQ27
    have N27 := Fr.app N26 N27q
    obtain ⟨cq28, kq28, q28a, q28b, q28c⟩ := isOf hZ e27 (Exa.keep (Exa.keep (Exa.ext E8 P5_0) K12c) K13c)
    obtain ⟨_, _, ⟨T28, L28, k28, n28⟩, -, X28, ⟨Lc28, hQ28, ll28, ly28, lz28⟩, st28⟩ := X27.virtualBack hx (y := (⟨"java/lang/String", "equals", "(Ljava/lang/Object;)Z"⟩ : MethodName)) (z := (⟨"java/lang/String", "equals", "(Ljava/lang/Object;)Z"⟩ : MethodName)) hown (mvT hZ (hw _ (List.mem_of_getElem? (i := 81) rfl))) (mvT hZ (hw _ (List.mem_of_getElem? (i := 82) rfl))) (notFace_of_selects (args := #[]) (mvT hZ (hw _ (List.mem_of_getElem? (i := 84) rfl)))) (mvT hZ (hw _ (List.mem_of_getElem? (i := 84) rfl))) (mvT hZ (hw _ (List.mem_of_getElem? (i := 83) rfl))) (by decide) (backOf (W := 0) (rm13 l Z a0 hw [] b5 T13.heap n0 (Nat.le_trans (Nat.le_trans (Nat.le_trans (Nat.le_trans (Nat.le_trans (Nat.le_trans Z0 K2c.1) K3c.1) K5c.1) E8.1) K12c.1) K13c.1) ) hZ (hw _ (List.mem_of_getElem? (i := 85) rfl)) (hw _ (List.mem_of_getElem? (i := 2) rfl)) (by decide) (by decide)) q28a q28c (g := (mkF m 201 #[.val (.long q0), .second, .val (.long q1), .second, .val (.int p2), .val (.long q3), .second, .val (.long q4), .second, .val (.int p5), .val .null, .val (.ref b2), .val (.ref b3), .val (.ref b5), .val (.ref b8), .val (.ref b13)] [(.ref b5), (.ref b5)])) rfl (by rw [hml]; rfl) (Steps.refl _) (argsL := [(.ref b5)]) (rest := []) (lenOf pd__Ljava_lang_Object__Z rfl) rfl (by show 2 * 0 + _ ≤ _; exact Nat.le_of_eq rfl) (hb hby at_201) (fun _ _ => ⟨rfl, e27, (by decide : 8 + 0 ≤ _), (by decide : 31 + 0 ≤ _)⟩)
    dsimp only [Pt.U, Pt.locs, Pt.cells, Pt.slots] at X28 ll28 ly28 lz28 st28 hQ28
    subst ll28 ly28 lz28
    obtain ⟨rfl, N28q, e28⟩ := hQ28
    have N28 := Fr.app N27 N28q
    have hc204 : ¬ ((F13 b5) = (0 : Int32)) := by unfold F13; decide
    obtain ⟨fs, hr, hrun, hended, hW, hsame⟩ := X28.leave (v := some (.int (1 : Int32))) (fun h => by rw [Bd.returns] at h; cases h)
    refine ⟨_, _, pre1 _ ?_, hrun, hended, _, _, rfl, ?_, ⟨_, rfl⟩, hW, hsame.mono (by decide) (by decide)⟩
    · show Steps p.tables e below (s₁.setTop (mkF m 2 #[.val (.long q0), .second, .val (.long q1), .second, .val (.int p2), .val (.long q3), .second, .val (.long q4), .second, .val (.int p5), .unset, .unset, .unset, .unset, .unset, .unset] [(.int p5)])) _
      refine XS.ifNo X0.here hx rfl (hb hby at_2) rfl ((if0 _ _).trans (tlt hc2).2.1) ?_
      show Steps p.tables e below (s₁.setTop (mkF m 5 #[.val (.long q0), .second, .val (.long q1), .second, .val (.int p2), .val (.long q3), .second, .val (.long q4), .second, .val (.int p5), .unset, .unset, .unset, .unset, .unset, .unset] [])) _
      refine XS.aconstNull X0.here hx rfl (hb hby at_5) ?_
      show Steps p.tables e below (s₁.setTop (mkF m 6 #[.val (.long q0), .second, .val (.long q1), .second, .val (.int p2), .val (.long q3), .second, .val (.long q4), .second, .val (.int p5), .unset, .unset, .unset, .unset, .unset, .unset] [.null])) _
      refine XS.goto X0.here hx rfl (pc0 := 6) (pc' := 21) rfl (hb hby at_6) (by decide) (by decide) ?_
      show Steps p.tables e below (s₁.setTop (mkF m 21 #[.val (.long q0), .second, .val (.long q1), .second, .val (.int p2), .val (.long q3), .second, .val (.long q4), .second, .val (.int p5), .unset, .unset, .unset, .unset, .unset, .unset] [.null])) _
      refine XS.astore X0.here hx rfl (hb hby at_21) rfl rfl (l' := #[.val (.long q0), .second, .val (.long q1), .second, .val (.int p2), .val (.long q3), .second, .val (.long q4), .second, .val (.int p5), .val .null, .unset, .unset, .unset, .unset, .unset]) rfl ?_
      show Steps p.tables e below (s₁.setTop (mkF m 23 #[.val (.long q0), .second, .val (.long q1), .second, .val (.int p2), .val (.long q3), .second, .val (.long q4), .second, .val (.int p5), .val .null, .unset, .unset, .unset, .unset, .unset] [])) _
      refine XS.iload X0.here hx rfl (hb hby at_23) rfl ?_
      show Steps p.tables e below (s₁.setTop (mkF m 25 #[.val (.long q0), .second, .val (.long q1), .second, .val (.int p2), .val (.long q3), .second, .val (.long q4), .second, .val (.int p5), .val .null, .unset, .unset, .unset, .unset, .unset] [(.int p5)])) _
      refine XS.sipush X0.here hx rfl (hb hby at_25) ?_
      show Steps p.tables e below (s₁.setTop (mkF m 28 #[.val (.long q0), .second, .val (.long q1), .second, .val (.int p2), .val (.long q3), .second, .val (.long q4), .second, .val (.int p5), .val .null, .unset, .unset, .unset, .unset, .unset] [(.int (255 : Int32)), (.int p5)])) _
      refine XS.iand X0.here hx rfl (hb hby at_28) rfl ?_
      show Steps p.tables e below (s₁.setTop (mkF m 29 #[.val (.long q0), .second, .val (.long q1), .second, .val (.int p2), .val (.long q3), .second, .val (.long q4), .second, .val (.int p5), .val .null, .unset, .unset, .unset, .unset, .unset] [(.int (p5 &&& (255 : Int32)))])) _
      refine XS.i2c X0.here hx rfl (hb hby at_29) rfl ?_
      show Steps p.tables e below (s₁.setTop (mkF m 30 #[.val (.long q0), .second, .val (.long q1), .second, .val (.int p2), .val (.long q3), .second, .val (.long q4), .second, .val (.int p5), .val .null, .unset, .unset, .unset, .unset, .unset] [(.int ((p5 &&& (255 : Int32)).toUInt32.toUInt16.toUInt32.toInt32))])) _
      refine st2 _ ?_
      show Steps p.tables e below (T2.setTop (mkF m 33 #[.val (.long q0), .second, .val (.long q1), .second, .val (.int p2), .val (.long q3), .second, .val (.long q4), .second, .val (.int p5), .val .null, .unset, .unset, .unset, .unset, .unset] [(.ref b2)])) _
      refine XS.astore X2.here hx rfl (hb hby at_33) rfl rfl (l' := #[.val (.long q0), .second, .val (.long q1), .second, .val (.int p2), .val (.long q3), .second, .val (.long q4), .second, .val (.int p5), .val .null, .val (.ref b2), .unset, .unset, .unset, .unset]) rfl ?_
      show Steps p.tables e below (T2.setTop (mkF m 35 #[.val (.long q0), .second, .val (.long q1), .second, .val (.int p2), .val (.long q3), .second, .val (.long q4), .second, .val (.int p5), .val .null, .val (.ref b2), .unset, .unset, .unset, .unset] [])) _
      refine XS.iload X2.here hx rfl (hb hby at_35) rfl ?_
      show Steps p.tables e below (T2.setTop (mkF m 37 #[.val (.long q0), .second, .val (.long q1), .second, .val (.int p2), .val (.long q3), .second, .val (.long q4), .second, .val (.int p5), .val .null, .val (.ref b2), .unset, .unset, .unset, .unset] [(.int p5)])) _
      refine XS.bipush X2.here hx rfl (hb hby at_37) ?_
      show Steps p.tables e below (T2.setTop (mkF m 39 #[.val (.long q0), .second, .val (.long q1), .second, .val (.int p2), .val (.long q3), .second, .val (.long q4), .second, .val (.int p5), .val .null, .val (.ref b2), .unset, .unset, .unset, .unset] [(.int (8 : Int32)), (.int p5)])) _
      refine XS.iushr X2.here hx rfl (hb hby at_39) rfl ?_
      show Steps p.tables e below (T2.setTop (mkF m 40 #[.val (.long q0), .second, .val (.long q1), .second, .val (.int p2), .val (.long q3), .second, .val (.long q4), .second, .val (.int p5), .val .null, .val (.ref b2), .unset, .unset, .unset, .unset] [(.int ((p5.toUInt32 >>> ((8 : Int32) &&& 31).toUInt32).toInt32))])) _
      refine XS.sipush X2.here hx rfl (hb hby at_40) ?_
      show Steps p.tables e below (T2.setTop (mkF m 43 #[.val (.long q0), .second, .val (.long q1), .second, .val (.int p2), .val (.long q3), .second, .val (.long q4), .second, .val (.int p5), .val .null, .val (.ref b2), .unset, .unset, .unset, .unset] [(.int (255 : Int32)), (.int ((p5.toUInt32 >>> ((8 : Int32) &&& 31).toUInt32).toInt32))])) _
      refine XS.iand X2.here hx rfl (hb hby at_43) rfl ?_
      show Steps p.tables e below (T2.setTop (mkF m 44 #[.val (.long q0), .second, .val (.long q1), .second, .val (.int p2), .val (.long q3), .second, .val (.long q4), .second, .val (.int p5), .val .null, .val (.ref b2), .unset, .unset, .unset, .unset] [(.int (((p5.toUInt32 >>> ((8 : Int32) &&& 31).toUInt32).toInt32) &&& (255 : Int32)))])) _
      refine XS.i2c X2.here hx rfl (hb hby at_44) rfl ?_
      show Steps p.tables e below (T2.setTop (mkF m 45 #[.val (.long q0), .second, .val (.long q1), .second, .val (.int p2), .val (.long q3), .second, .val (.long q4), .second, .val (.int p5), .val .null, .val (.ref b2), .unset, .unset, .unset, .unset] [(.int ((((p5.toUInt32 >>> ((8 : Int32) &&& 31).toUInt32).toInt32) &&& (255 : Int32)).toUInt32.toUInt16.toUInt32.toInt32))])) _
      refine st3 _ ?_
      show Steps p.tables e below (T3.setTop (mkF m 48 #[.val (.long q0), .second, .val (.long q1), .second, .val (.int p2), .val (.long q3), .second, .val (.long q4), .second, .val (.int p5), .val .null, .val (.ref b2), .unset, .unset, .unset, .unset] [(.ref b3)])) _
      refine XS.astore X3.here hx rfl (hb hby at_48) rfl rfl (l' := #[.val (.long q0), .second, .val (.long q1), .second, .val (.int p2), .val (.long q3), .second, .val (.long q4), .second, .val (.int p5), .val .null, .val (.ref b2), .val (.ref b3), .unset, .unset, .unset]) rfl ?_
      show Steps p.tables e below (T3.setTop (mkF m 50 #[.val (.long q0), .second, .val (.long q1), .second, .val (.int p2), .val (.long q3), .second, .val (.long q4), .second, .val (.int p5), .val .null, .val (.ref b2), .val (.ref b3), .unset, .unset, .unset] [])) _
      refine XS.iload X3.here hx rfl (hb hby at_50) rfl ?_
      show Steps p.tables e below (T3.setTop (mkF m 52 #[.val (.long q0), .second, .val (.long q1), .second, .val (.int p2), .val (.long q3), .second, .val (.long q4), .second, .val (.int p5), .val .null, .val (.ref b2), .val (.ref b3), .unset, .unset, .unset] [(.int p5)])) _
      refine XS.bipush X3.here hx rfl (hb hby at_52) ?_
      show Steps p.tables e below (T3.setTop (mkF m 54 #[.val (.long q0), .second, .val (.long q1), .second, .val (.int p2), .val (.long q3), .second, .val (.long q4), .second, .val (.int p5), .val .null, .val (.ref b2), .val (.ref b3), .unset, .unset, .unset] [(.int (16 : Int32)), (.int p5)])) _
      refine XS.iushr X3.here hx rfl (hb hby at_54) rfl ?_
      show Steps p.tables e below (T3.setTop (mkF m 55 #[.val (.long q0), .second, .val (.long q1), .second, .val (.int p2), .val (.long q3), .second, .val (.long q4), .second, .val (.int p5), .val .null, .val (.ref b2), .val (.ref b3), .unset, .unset, .unset] [(.int ((p5.toUInt32 >>> ((16 : Int32) &&& 31).toUInt32).toInt32))])) _
      refine XS.sipush X3.here hx rfl (hb hby at_55) ?_
      show Steps p.tables e below (T3.setTop (mkF m 58 #[.val (.long q0), .second, .val (.long q1), .second, .val (.int p2), .val (.long q3), .second, .val (.long q4), .second, .val (.int p5), .val .null, .val (.ref b2), .val (.ref b3), .unset, .unset, .unset] [(.int (255 : Int32)), (.int ((p5.toUInt32 >>> ((16 : Int32) &&& 31).toUInt32).toInt32))])) _
      refine XS.iand X3.here hx rfl (hb hby at_58) rfl ?_
      show Steps p.tables e below (T3.setTop (mkF m 59 #[.val (.long q0), .second, .val (.long q1), .second, .val (.int p2), .val (.long q3), .second, .val (.long q4), .second, .val (.int p5), .val .null, .val (.ref b2), .val (.ref b3), .unset, .unset, .unset] [(.int (((p5.toUInt32 >>> ((16 : Int32) &&& 31).toUInt32).toInt32) &&& (255 : Int32)))])) _
      refine XS.i2c X3.here hx rfl (hb hby at_59) rfl ?_
      show Steps p.tables e below (T3.setTop (mkF m 60 #[.val (.long q0), .second, .val (.long q1), .second, .val (.int p2), .val (.long q3), .second, .val (.long q4), .second, .val (.int p5), .val .null, .val (.ref b2), .val (.ref b3), .unset, .unset, .unset] [(.int ((((p5.toUInt32 >>> ((16 : Int32) &&& 31).toUInt32).toInt32) &&& (255 : Int32)).toUInt32.toUInt16.toUInt32.toInt32))])) _
      refine st5 _ ?_
      show Steps p.tables e below (T5.setTop (mkF m 63 #[.val (.long q0), .second, .val (.long q1), .second, .val (.int p2), .val (.long q3), .second, .val (.long q4), .second, .val (.int p5), .val .null, .val (.ref b2), .val (.ref b3), .unset, .unset, .unset] [(.ref b5)])) _
      refine XS.astore X5.here hx rfl (hb hby at_63) rfl rfl (l' := #[.val (.long q0), .second, .val (.long q1), .second, .val (.int p2), .val (.long q3), .second, .val (.long q4), .second, .val (.int p5), .val .null, .val (.ref b2), .val (.ref b3), .val (.ref b5), .unset, .unset]) rfl ?_
      show Steps p.tables e below (T5.setTop (mkF m 65 #[.val (.long q0), .second, .val (.long q1), .second, .val (.int p2), .val (.long q3), .second, .val (.long q4), .second, .val (.int p5), .val .null, .val (.ref b2), .val (.ref b3), .val (.ref b5), .unset, .unset] [])) _
      refine st8 _ ?_
      show Steps p.tables e below (T8.setTop (mkF m 68 #[.val (.long q0), .second, .val (.long q1), .second, .val (.int p2), .val (.long q3), .second, .val (.long q4), .second, .val (.int p5), .val .null, .val (.ref b2), .val (.ref b3), .val (.ref b5), .unset, .unset] [(.ref b8)])) _
      refine XS.dup X8.here hx rfl (hb hby at_68) rfl rfl ?_
      show Steps p.tables e below (T8.setTop (mkF m 69 #[.val (.long q0), .second, .val (.long q1), .second, .val (.int p2), .val (.long q3), .second, .val (.long q4), .second, .val (.int p5), .val .null, .val (.ref b2), .val (.ref b3), .val (.ref b5), .unset, .unset] [(.ref b8), (.ref b8)])) _
      refine XS.lloadN X8.here hx rfl (hb hby at_69) rfl ?_
      show Steps p.tables e below (T8.setTop (mkF m 70 #[.val (.long q0), .second, .val (.long q1), .second, .val (.int p2), .val (.long q3), .second, .val (.long q4), .second, .val (.int p5), .val .null, .val (.ref b2), .val (.ref b3), .val (.ref b5), .unset, .unset] [(.long q0), (.ref b8), (.ref b8)])) _
      refine XS.lloadN X8.here hx rfl (hb hby at_70) rfl ?_
      show Steps p.tables e below (T8.setTop (mkF m 71 #[.val (.long q0), .second, .val (.long q1), .second, .val (.int p2), .val (.long q3), .second, .val (.long q4), .second, .val (.int p5), .val .null, .val (.ref b2), .val (.ref b3), .val (.ref b5), .unset, .unset] [(.long q1), (.long q0), (.ref b8), (.ref b8)])) _
      refine XS.iload X8.here hx rfl (hb hby at_71) rfl ?_
      show Steps p.tables e below (T8.setTop (mkF m 73 #[.val (.long q0), .second, .val (.long q1), .second, .val (.int p2), .val (.long q3), .second, .val (.long q4), .second, .val (.int p5), .val .null, .val (.ref b2), .val (.ref b3), .val (.ref b5), .unset, .unset] [(.int p2), (.long q1), (.long q0), (.ref b8), (.ref b8)])) _
      refine XS.aload X8.here hx rfl (hb hby at_73) rfl rfl ?_
      show Steps p.tables e below (T8.setTop (mkF m 75 #[.val (.long q0), .second, .val (.long q1), .second, .val (.int p2), .val (.long q3), .second, .val (.long q4), .second, .val (.int p5), .val .null, .val (.ref b2), .val (.ref b3), .val (.ref b5), .unset, .unset] [.null, (.int p2), (.long q1), (.long q0), (.ref b8), (.ref b8)])) _
      refine XS.aload X8.here hx rfl (hb hby at_75) rfl rfl ?_
      show Steps p.tables e below (T8.setTop (mkF m 77 #[.val (.long q0), .second, .val (.long q1), .second, .val (.int p2), .val (.long q3), .second, .val (.long q4), .second, .val (.int p5), .val .null, .val (.ref b2), .val (.ref b3), .val (.ref b5), .unset, .unset] [.null, .null, (.int p2), (.long q1), (.long q0), (.ref b8), (.ref b8)])) _
      refine XS.lload X8.here hx rfl (hb hby at_77) rfl ?_
      show Steps p.tables e below (T8.setTop (mkF m 79 #[.val (.long q0), .second, .val (.long q1), .second, .val (.int p2), .val (.long q3), .second, .val (.long q4), .second, .val (.int p5), .val .null, .val (.ref b2), .val (.ref b3), .val (.ref b5), .unset, .unset] [(.long q3), .null, .null, (.int p2), (.long q1), (.long q0), (.ref b8), (.ref b8)])) _
      refine XS.lconst X8.here hx rfl (hb hby at_79) ?_
      show Steps p.tables e below (T8.setTop (mkF m 80 #[.val (.long q0), .second, .val (.long q1), .second, .val (.int p2), .val (.long q3), .second, .val (.long q4), .second, .val (.int p5), .val .null, .val (.ref b2), .val (.ref b3), .val (.ref b5), .unset, .unset] [(.long (1 : Int64)), (.long q3), .null, .null, (.int p2), (.long q1), (.long q0), (.ref b8), (.ref b8)])) _
      refine XS.ladd X8.here hx rfl (hb hby at_80) rfl ?_
      show Steps p.tables e below (T8.setTop (mkF m 81 #[.val (.long q0), .second, .val (.long q1), .second, .val (.int p2), .val (.long q3), .second, .val (.long q4), .second, .val (.int p5), .val .null, .val (.ref b2), .val (.ref b3), .val (.ref b5), .unset, .unset] [(.long (q3 + (1 : Int64))), .null, .null, (.int p2), (.long q1), (.long q0), (.ref b8), (.ref b8)])) _
      refine XS.lload X8.here hx rfl (hb hby at_81) rfl ?_
      show Steps p.tables e below (T8.setTop (mkF m 83 #[.val (.long q0), .second, .val (.long q1), .second, .val (.int p2), .val (.long q3), .second, .val (.long q4), .second, .val (.int p5), .val .null, .val (.ref b2), .val (.ref b3), .val (.ref b5), .unset, .unset] [(.long q4), (.long (q3 + (1 : Int64))), .null, .null, (.int p2), (.long q1), (.long q0), (.ref b8), (.ref b8)])) _
      refine XS.lconst X8.here hx rfl (hb hby at_83) ?_
      show Steps p.tables e below (T8.setTop (mkF m 84 #[.val (.long q0), .second, .val (.long q1), .second, .val (.int p2), .val (.long q3), .second, .val (.long q4), .second, .val (.int p5), .val .null, .val (.ref b2), .val (.ref b3), .val (.ref b5), .unset, .unset] [(.long (1 : Int64)), (.long q4), (.long (q3 + (1 : Int64))), .null, .null, (.int p2), (.long q1), (.long q0), (.ref b8), (.ref b8)])) _
      refine XS.ladd X8.here hx rfl (hb hby at_84) rfl ?_
      show Steps p.tables e below (T8.setTop (mkF m 85 #[.val (.long q0), .second, .val (.long q1), .second, .val (.int p2), .val (.long q3), .second, .val (.long q4), .second, .val (.int p5), .val .null, .val (.ref b2), .val (.ref b3), .val (.ref b5), .unset, .unset] [(.long (q4 + (1 : Int64))), (.long (q3 + (1 : Int64))), .null, .null, (.int p2), (.long q1), (.long q0), (.ref b8), (.ref b8)])) _
      refine XS.aload X8.here hx rfl (hb hby at_85) rfl rfl ?_
      show Steps p.tables e below (T8.setTop (mkF m 87 #[.val (.long q0), .second, .val (.long q1), .second, .val (.int p2), .val (.long q3), .second, .val (.long q4), .second, .val (.int p5), .val .null, .val (.ref b2), .val (.ref b3), .val (.ref b5), .unset, .unset] [.null, (.long (q4 + (1 : Int64))), (.long (q3 + (1 : Int64))), .null, .null, (.int p2), (.long q1), (.long q0), (.ref b8), (.ref b8)])) _
      refine st12.trans ?_
      show Steps p.tables e below (T12.setTop (mkF m 90 #[.val (.long q0), .second, .val (.long q1), .second, .val (.int p2), .val (.long q3), .second, .val (.long q4), .second, .val (.int p5), .val .null, .val (.ref b2), .val (.ref b3), .val (.ref b5), .unset, .unset] [(.ref b8)])) _
      refine XS.astore X12.here hx rfl (hb hby at_90) rfl rfl (l' := #[.val (.long q0), .second, .val (.long q1), .second, .val (.int p2), .val (.long q3), .second, .val (.long q4), .second, .val (.int p5), .val .null, .val (.ref b2), .val (.ref b3), .val (.ref b5), .val (.ref b8), .unset]) rfl ?_
      show Steps p.tables e below (T12.setTop (mkF m 92 #[.val (.long q0), .second, .val (.long q1), .second, .val (.int p2), .val (.long q3), .second, .val (.long q4), .second, .val (.int p5), .val .null, .val (.ref b2), .val (.ref b3), .val (.ref b5), .val (.ref b8), .unset] [])) _
      refine XS.aload X12.here hx rfl (hb hby at_92) rfl rfl ?_
      show Steps p.tables e below (T12.setTop (mkF m 94 #[.val (.long q0), .second, .val (.long q1), .second, .val (.int p2), .val (.long q3), .second, .val (.long q4), .second, .val (.int p5), .val .null, .val (.ref b2), .val (.ref b3), .val (.ref b5), .val (.ref b8), .unset] [(.ref b8)])) _
      refine XS.aload X12.here hx rfl (hb hby at_94) rfl rfl ?_
      show Steps p.tables e below (T12.setTop (mkF m 96 #[.val (.long q0), .second, .val (.long q1), .second, .val (.int p2), .val (.long q3), .second, .val (.long q4), .second, .val (.int p5), .val .null, .val (.ref b2), .val (.ref b3), .val (.ref b5), .val (.ref b8), .unset] [(.ref b2), (.ref b8)])) _
      refine XS.aload X12.here hx rfl (hb hby at_96) rfl rfl ?_
      show Steps p.tables e below (T12.setTop (mkF m 98 #[.val (.long q0), .second, .val (.long q1), .second, .val (.int p2), .val (.long q3), .second, .val (.long q4), .second, .val (.int p5), .val .null, .val (.ref b2), .val (.ref b3), .val (.ref b5), .val (.ref b8), .unset] [(.ref b3), (.ref b2), (.ref b8)])) _
      refine XS.lload X12.here hx rfl (hb hby at_98) rfl ?_
      show Steps p.tables e below (T12.setTop (mkF m 100 #[.val (.long q0), .second, .val (.long q1), .second, .val (.int p2), .val (.long q3), .second, .val (.long q4), .second, .val (.int p5), .val .null, .val (.ref b2), .val (.ref b3), .val (.ref b5), .val (.ref b8), .unset] [(.long q3), (.ref b3), (.ref b2), (.ref b8)])) _
      refine XS.lload X12.here hx rfl (hb hby at_100) rfl ?_
      show Steps p.tables e below (T12.setTop (mkF m 102 #[.val (.long q0), .second, .val (.long q1), .second, .val (.int p2), .val (.long q3), .second, .val (.long q4), .second, .val (.int p5), .val .null, .val (.ref b2), .val (.ref b3), .val (.ref b5), .val (.ref b8), .unset] [(.long q4), (.long q3), (.ref b3), (.ref b2), (.ref b8)])) _
      refine XS.aload X12.here hx rfl (hb hby at_102) rfl rfl ?_
      show Steps p.tables e below (T12.setTop (mkF m 104 #[.val (.long q0), .second, .val (.long q1), .second, .val (.int p2), .val (.long q3), .second, .val (.long q4), .second, .val (.int p5), .val .null, .val (.ref b2), .val (.ref b3), .val (.ref b5), .val (.ref b8), .unset] [(.ref b5), (.long q4), (.long q3), (.ref b3), (.ref b2), (.ref b8)])) _
      refine st13.trans ?_
      show Steps p.tables e below (T13.setTop (mkF m 107 #[.val (.long q0), .second, .val (.long q1), .second, .val (.int p2), .val (.long q3), .second, .val (.long q4), .second, .val (.int p5), .val .null, .val (.ref b2), .val (.ref b3), .val (.ref b5), .val (.ref b8), .unset] [(.ref b13)])) _
      refine XS.astore X13.here hx rfl (hb hby at_107) rfl rfl (l' := #[.val (.long q0), .second, .val (.long q1), .second, .val (.int p2), .val (.long q3), .second, .val (.long q4), .second, .val (.int p5), .val .null, .val (.ref b2), .val (.ref b3), .val (.ref b5), .val (.ref b8), .val (.ref b13)]) rfl ?_
      show Steps p.tables e below (T13.setTop (mkF m 109 #[.val (.long q0), .second, .val (.long q1), .second, .val (.int p2), .val (.long q3), .second, .val (.long q4), .second, .val (.int p5), .val .null, .val (.ref b2), .val (.ref b3), .val (.ref b5), .val (.ref b8), .val (.ref b13)] [])) _
      refine XS.aload X13.here hx rfl (hb hby at_109) rfl rfl ?_
      show Steps p.tables e below (T13.setTop (mkF m 111 #[.val (.long q0), .second, .val (.long q1), .second, .val (.int p2), .val (.long q3), .second, .val (.long q4), .second, .val (.int p5), .val .null, .val (.ref b2), .val (.ref b3), .val (.ref b5), .val (.ref b8), .val (.ref b13)] [(.ref b13)])) _
      refine XS.ifnonnullYes X13.here hx rfl (pc0 := 111) (pc' := 116) rfl (hb hby at_111) rfl (by decide) (by decide) ?_
      show Steps p.tables e below (T13.setTop (mkF m 116 #[.val (.long q0), .second, .val (.long q1), .second, .val (.int p2), .val (.long q3), .second, .val (.long q4), .second, .val (.int p5), .val .null, .val (.ref b2), .val (.ref b3), .val (.ref b5), .val (.ref b8), .val (.ref b13)] [])) _
      refine XS.aload X13.here hx rfl (hb hby at_116) rfl rfl ?_
      show Steps p.tables e below (T13.setTop (mkF m 118 #[.val (.long q0), .second, .val (.long q1), .second, .val (.int p2), .val (.long q3), .second, .val (.long q4), .second, .val (.int p5), .val .null, .val (.ref b2), .val (.ref b3), .val (.ref b5), .val (.ref b8), .val (.ref b13)] [(.ref b13)])) _
      refine st18.trans ?_
      show Steps p.tables e below (T18.setTop (mkF m 121 #[.val (.long q0), .second, .val (.long q1), .second, .val (.int p2), .val (.long q3), .second, .val (.long q4), .second, .val (.int p5), .val .null, .val (.ref b2), .val (.ref b3), .val (.ref b5), .val (.ref b8), .val (.ref b13)] [(.long q0)])) _
      refine XS.lloadN X18.here hx rfl (hb hby at_121) rfl ?_
      show Steps p.tables e below (T18.setTop (mkF m 122 #[.val (.long q0), .second, .val (.long q1), .second, .val (.int p2), .val (.long q3), .second, .val (.long q4), .second, .val (.int p5), .val .null, .val (.ref b2), .val (.ref b3), .val (.ref b5), .val (.ref b8), .val (.ref b13)] [(.long q0), (.long q0)])) _
      refine XS.lcmp X18.here hx rfl (hb hby at_122) rfl ?_
      show Steps p.tables e below (T18.setTop (mkF m 123 #[.val (.long q0), .second, .val (.long q1), .second, .val (.int p2), .val (.long q3), .second, .val (.long q4), .second, .val (.int p5), .val .null, .val (.ref b2), .val (.ref b3), .val (.ref b5), .val (.ref b8), .val (.ref b13)] [(.int (lcmpW q0 q0))])) _
      refine XS.ifNo X18.here hx rfl (hb hby at_123) rfl ((if0 _ _).trans (teq ((lw_eq q0 q0).mpr rfl)).2) ?_
      show Steps p.tables e below (T18.setTop (mkF m 126 #[.val (.long q0), .second, .val (.long q1), .second, .val (.int p2), .val (.long q3), .second, .val (.long q4), .second, .val (.int p5), .val .null, .val (.ref b2), .val (.ref b3), .val (.ref b5), .val (.ref b8), .val (.ref b13)] [])) _
      refine XS.aload X18.here hx rfl (hb hby at_126) rfl rfl ?_
      show Steps p.tables e below (T18.setTop (mkF m 128 #[.val (.long q0), .second, .val (.long q1), .second, .val (.int p2), .val (.long q3), .second, .val (.long q4), .second, .val (.int p5), .val .null, .val (.ref b2), .val (.ref b3), .val (.ref b5), .val (.ref b8), .val (.ref b13)] [(.ref b13)])) _
      refine st19.trans ?_
      show Steps p.tables e below (T19.setTop (mkF m 131 #[.val (.long q0), .second, .val (.long q1), .second, .val (.int p2), .val (.long q3), .second, .val (.long q4), .second, .val (.int p5), .val .null, .val (.ref b2), .val (.ref b3), .val (.ref b5), .val (.ref b8), .val (.ref b13)] [(.long q1)])) _
      refine XS.lloadN X19.here hx rfl (hb hby at_131) rfl ?_
      show Steps p.tables e below (T19.setTop (mkF m 132 #[.val (.long q0), .second, .val (.long q1), .second, .val (.int p2), .val (.long q3), .second, .val (.long q4), .second, .val (.int p5), .val .null, .val (.ref b2), .val (.ref b3), .val (.ref b5), .val (.ref b8), .val (.ref b13)] [(.long q1), (.long q1)])) _
      refine XS.lcmp X19.here hx rfl (hb hby at_132) rfl ?_
      show Steps p.tables e below (T19.setTop (mkF m 133 #[.val (.long q0), .second, .val (.long q1), .second, .val (.int p2), .val (.long q3), .second, .val (.long q4), .second, .val (.int p5), .val .null, .val (.ref b2), .val (.ref b3), .val (.ref b5), .val (.ref b8), .val (.ref b13)] [(.int (lcmpW q1 q1))])) _
      refine XS.ifNo X19.here hx rfl (hb hby at_133) rfl ((if0 _ _).trans (teq ((lw_eq q1 q1).mpr rfl)).2) ?_
      show Steps p.tables e below (T19.setTop (mkF m 136 #[.val (.long q0), .second, .val (.long q1), .second, .val (.int p2), .val (.long q3), .second, .val (.long q4), .second, .val (.int p5), .val .null, .val (.ref b2), .val (.ref b3), .val (.ref b5), .val (.ref b8), .val (.ref b13)] [])) _
      refine XS.aload X19.here hx rfl (hb hby at_136) rfl rfl ?_
      show Steps p.tables e below (T19.setTop (mkF m 138 #[.val (.long q0), .second, .val (.long q1), .second, .val (.int p2), .val (.long q3), .second, .val (.long q4), .second, .val (.int p5), .val .null, .val (.ref b2), .val (.ref b3), .val (.ref b5), .val (.ref b8), .val (.ref b13)] [(.ref b13)])) _
      refine st20.trans ?_
      show Steps p.tables e below (T20.setTop (mkF m 141 #[.val (.long q0), .second, .val (.long q1), .second, .val (.int p2), .val (.long q3), .second, .val (.long q4), .second, .val (.int p5), .val .null, .val (.ref b2), .val (.ref b3), .val (.ref b5), .val (.ref b8), .val (.ref b13)] [(.int p2)])) _
      refine XS.iload X20.here hx rfl (hb hby at_141) rfl ?_
      show Steps p.tables e below (T20.setTop (mkF m 143 #[.val (.long q0), .second, .val (.long q1), .second, .val (.int p2), .val (.long q3), .second, .val (.long q4), .second, .val (.int p5), .val .null, .val (.ref b2), .val (.ref b3), .val (.ref b5), .val (.ref b8), .val (.ref b13)] [(.int p2), (.int p2)])) _
      refine XS.icmpNo X20.here hx rfl (hb hby at_143) rfl (teq (rfl : p2 = p2)).2 ?_
      show Steps p.tables e below (T20.setTop (mkF m 146 #[.val (.long q0), .second, .val (.long q1), .second, .val (.int p2), .val (.long q3), .second, .val (.long q4), .second, .val (.int p5), .val .null, .val (.ref b2), .val (.ref b3), .val (.ref b5), .val (.ref b8), .val (.ref b13)] [])) _
      refine XS.aload X20.here hx rfl (hb hby at_146) rfl rfl ?_
      show Steps p.tables e below (T20.setTop (mkF m 148 #[.val (.long q0), .second, .val (.long q1), .second, .val (.int p2), .val (.long q3), .second, .val (.long q4), .second, .val (.int p5), .val .null, .val (.ref b2), .val (.ref b3), .val (.ref b5), .val (.ref b8), .val (.ref b13)] [(.ref b2)])) _
      refine XS.aload X20.here hx rfl (hb hby at_148) rfl rfl ?_
      show Steps p.tables e below (T20.setTop (mkF m 150 #[.val (.long q0), .second, .val (.long q1), .second, .val (.int p2), .val (.long q3), .second, .val (.long q4), .second, .val (.int p5), .val .null, .val (.ref b2), .val (.ref b3), .val (.ref b5), .val (.ref b8), .val (.ref b13)] [(.ref b13), (.ref b2)])) _
      refine st21.trans ?_
      show Steps p.tables e below (T21.setTop (mkF m 153 #[.val (.long q0), .second, .val (.long q1), .second, .val (.int p2), .val (.long q3), .second, .val (.long q4), .second, .val (.int p5), .val .null, .val (.ref b2), .val (.ref b3), .val (.ref b5), .val (.ref b8), .val (.ref b13)] [(.ref b2), (.ref b2)])) _
      refine st22.trans ?_
      show Steps p.tables e below (T22.setTop (mkF m 156 #[.val (.long q0), .second, .val (.long q1), .second, .val (.int p2), .val (.long q3), .second, .val (.long q4), .second, .val (.int p5), .val .null, .val (.ref b2), .val (.ref b3), .val (.ref b5), .val (.ref b8), .val (.ref b13)] [(.int (F13 b2))])) _
      refine XS.ifNo X22.here hx rfl (hb hby at_156) rfl ((if0 _ _).trans (feq hc156).1) ?_
      show Steps p.tables e below (T22.setTop (mkF m 159 #[.val (.long q0), .second, .val (.long q1), .second, .val (.int p2), .val (.long q3), .second, .val (.long q4), .second, .val (.int p5), .val .null, .val (.ref b2), .val (.ref b3), .val (.ref b5), .val (.ref b8), .val (.ref b13)] [])) _
      refine XS.aload X22.here hx rfl (hb hby at_159) rfl rfl ?_
      show Steps p.tables e below (T22.setTop (mkF m 161 #[.val (.long q0), .second, .val (.long q1), .second, .val (.int p2), .val (.long q3), .second, .val (.long q4), .second, .val (.int p5), .val .null, .val (.ref b2), .val (.ref b3), .val (.ref b5), .val (.ref b8), .val (.ref b13)] [(.ref b3)])) _
      refine XS.aload X22.here hx rfl (hb hby at_161) rfl rfl ?_
      show Steps p.tables e below (T22.setTop (mkF m 163 #[.val (.long q0), .second, .val (.long q1), .second, .val (.int p2), .val (.long q3), .second, .val (.long q4), .second, .val (.int p5), .val .null, .val (.ref b2), .val (.ref b3), .val (.ref b5), .val (.ref b8), .val (.ref b13)] [(.ref b13), (.ref b3)])) _
      refine st23.trans ?_
      show Steps p.tables e below (T23.setTop (mkF m 166 #[.val (.long q0), .second, .val (.long q1), .second, .val (.int p2), .val (.long q3), .second, .val (.long q4), .second, .val (.int p5), .val .null, .val (.ref b2), .val (.ref b3), .val (.ref b5), .val (.ref b8), .val (.ref b13)] [(.ref b3), (.ref b3)])) _
      refine st24.trans ?_
      show Steps p.tables e below (T24.setTop (mkF m 169 #[.val (.long q0), .second, .val (.long q1), .second, .val (.int p2), .val (.long q3), .second, .val (.long q4), .second, .val (.int p5), .val .null, .val (.ref b2), .val (.ref b3), .val (.ref b5), .val (.ref b8), .val (.ref b13)] [(.int (F13 b3))])) _
      refine XS.ifNo X24.here hx rfl (hb hby at_169) rfl ((if0 _ _).trans (feq hc169).1) ?_
      show Steps p.tables e below (T24.setTop (mkF m 172 #[.val (.long q0), .second, .val (.long q1), .second, .val (.int p2), .val (.long q3), .second, .val (.long q4), .second, .val (.int p5), .val .null, .val (.ref b2), .val (.ref b3), .val (.ref b5), .val (.ref b8), .val (.ref b13)] [])) _
      refine XS.aload X24.here hx rfl (hb hby at_172) rfl rfl ?_
      show Steps p.tables e below (T24.setTop (mkF m 174 #[.val (.long q0), .second, .val (.long q1), .second, .val (.int p2), .val (.long q3), .second, .val (.long q4), .second, .val (.int p5), .val .null, .val (.ref b2), .val (.ref b3), .val (.ref b5), .val (.ref b8), .val (.ref b13)] [(.ref b13)])) _
      refine st25.trans ?_
      show Steps p.tables e below (T25.setTop (mkF m 177 #[.val (.long q0), .second, .val (.long q1), .second, .val (.int p2), .val (.long q3), .second, .val (.long q4), .second, .val (.int p5), .val .null, .val (.ref b2), .val (.ref b3), .val (.ref b5), .val (.ref b8), .val (.ref b13)] [(.long q3)])) _
      refine XS.lload X25.here hx rfl (hb hby at_177) rfl ?_
      show Steps p.tables e below (T25.setTop (mkF m 179 #[.val (.long q0), .second, .val (.long q1), .second, .val (.int p2), .val (.long q3), .second, .val (.long q4), .second, .val (.int p5), .val .null, .val (.ref b2), .val (.ref b3), .val (.ref b5), .val (.ref b8), .val (.ref b13)] [(.long q3), (.long q3)])) _
      refine XS.lcmp X25.here hx rfl (hb hby at_179) rfl ?_
      show Steps p.tables e below (T25.setTop (mkF m 180 #[.val (.long q0), .second, .val (.long q1), .second, .val (.int p2), .val (.long q3), .second, .val (.long q4), .second, .val (.int p5), .val .null, .val (.ref b2), .val (.ref b3), .val (.ref b5), .val (.ref b8), .val (.ref b13)] [(.int (lcmpW q3 q3))])) _
      refine XS.ifNo X25.here hx rfl (hb hby at_180) rfl ((if0 _ _).trans (teq ((lw_eq q3 q3).mpr rfl)).2) ?_
      show Steps p.tables e below (T25.setTop (mkF m 183 #[.val (.long q0), .second, .val (.long q1), .second, .val (.int p2), .val (.long q3), .second, .val (.long q4), .second, .val (.int p5), .val .null, .val (.ref b2), .val (.ref b3), .val (.ref b5), .val (.ref b8), .val (.ref b13)] [])) _
      refine XS.aload X25.here hx rfl (hb hby at_183) rfl rfl ?_
      show Steps p.tables e below (T25.setTop (mkF m 185 #[.val (.long q0), .second, .val (.long q1), .second, .val (.int p2), .val (.long q3), .second, .val (.long q4), .second, .val (.int p5), .val .null, .val (.ref b2), .val (.ref b3), .val (.ref b5), .val (.ref b8), .val (.ref b13)] [(.ref b13)])) _
      refine st26.trans ?_
      show Steps p.tables e below (T26.setTop (mkF m 188 #[.val (.long q0), .second, .val (.long q1), .second, .val (.int p2), .val (.long q3), .second, .val (.long q4), .second, .val (.int p5), .val .null, .val (.ref b2), .val (.ref b3), .val (.ref b5), .val (.ref b8), .val (.ref b13)] [(.long q4)])) _
      refine XS.lload X26.here hx rfl (hb hby at_188) rfl ?_
      show Steps p.tables e below (T26.setTop (mkF m 190 #[.val (.long q0), .second, .val (.long q1), .second, .val (.int p2), .val (.long q3), .second, .val (.long q4), .second, .val (.int p5), .val .null, .val (.ref b2), .val (.ref b3), .val (.ref b5), .val (.ref b8), .val (.ref b13)] [(.long q4), (.long q4)])) _
      refine XS.lcmp X26.here hx rfl (hb hby at_190) rfl ?_
      show Steps p.tables e below (T26.setTop (mkF m 191 #[.val (.long q0), .second, .val (.long q1), .second, .val (.int p2), .val (.long q3), .second, .val (.long q4), .second, .val (.int p5), .val .null, .val (.ref b2), .val (.ref b3), .val (.ref b5), .val (.ref b8), .val (.ref b13)] [(.int (lcmpW q4 q4))])) _
      refine XS.ifNo X26.here hx rfl (hb hby at_191) rfl ((if0 _ _).trans (teq ((lw_eq q4 q4).mpr rfl)).2) ?_
      show Steps p.tables e below (T26.setTop (mkF m 194 #[.val (.long q0), .second, .val (.long q1), .second, .val (.int p2), .val (.long q3), .second, .val (.long q4), .second, .val (.int p5), .val .null, .val (.ref b2), .val (.ref b3), .val (.ref b5), .val (.ref b8), .val (.ref b13)] [])) _
      refine XS.aload X26.here hx rfl (hb hby at_194) rfl rfl ?_
      show Steps p.tables e below (T26.setTop (mkF m 196 #[.val (.long q0), .second, .val (.long q1), .second, .val (.int p2), .val (.long q3), .second, .val (.long q4), .second, .val (.int p5), .val .null, .val (.ref b2), .val (.ref b3), .val (.ref b5), .val (.ref b8), .val (.ref b13)] [(.ref b5)])) _
      refine XS.aload X26.here hx rfl (hb hby at_196) rfl rfl ?_
      show Steps p.tables e below (T26.setTop (mkF m 198 #[.val (.long q0), .second, .val (.long q1), .second, .val (.int p2), .val (.long q3), .second, .val (.long q4), .second, .val (.int p5), .val .null, .val (.ref b2), .val (.ref b3), .val (.ref b5), .val (.ref b8), .val (.ref b13)] [(.ref b13), (.ref b5)])) _
      refine st27.trans ?_
      show Steps p.tables e below (T27.setTop (mkF m 201 #[.val (.long q0), .second, .val (.long q1), .second, .val (.int p2), .val (.long q3), .second, .val (.long q4), .second, .val (.int p5), .val .null, .val (.ref b2), .val (.ref b3), .val (.ref b5), .val (.ref b8), .val (.ref b13)] [(.ref b5), (.ref b5)])) _
      refine st28.trans ?_
      show Steps p.tables e below (T28.setTop (mkF m 204 #[.val (.long q0), .second, .val (.long q1), .second, .val (.int p2), .val (.long q3), .second, .val (.long q4), .second, .val (.int p5), .val .null, .val (.ref b2), .val (.ref b3), .val (.ref b5), .val (.ref b8), .val (.ref b13)] [(.int (F13 b5))])) _
      refine XS.ifNo X28.here hx rfl (hb hby at_204) rfl ((if0 _ _).trans (feq hc204).1) ?_
      show Steps p.tables e below (T28.setTop (mkF m 207 #[.val (.long q0), .second, .val (.long q1), .second, .val (.int p2), .val (.long q3), .second, .val (.long q4), .second, .val (.int p5), .val .null, .val (.ref b2), .val (.ref b3), .val (.ref b5), .val (.ref b8), .val (.ref b13)] [])) _
      refine XS.iconst X28.here hx rfl (hb hby at_207) ?_
      show Steps p.tables e below (T28.setTop (mkF m 208 #[.val (.long q0), .second, .val (.long q1), .second, .val (.int p2), .val (.long q3), .second, .val (.long q4), .second, .val (.int p5), .val .null, .val (.ref b2), .val (.ref b3), .val (.ref b5), .val (.ref b8), .val (.ref b13)] [(.int (1 : Int32))])) _
      refine XS.goto X28.here hx rfl (pc0 := 208) (pc' := 212) rfl (hb hby at_208) (by decide) (by decide) ?_
      show Steps p.tables e below (T28.setTop (mkF m 212 #[.val (.long q0), .second, .val (.long q1), .second, .val (.int p2), .val (.long q3), .second, .val (.long q4), .second, .val (.int p5), .val .null, .val (.ref b2), .val (.ref b3), .val (.ref b5), .val (.ref b8), .val (.ref b13)] [(.int (1 : Int32))])) _
      exact retN X28 hx (t := .boolean) Bd.returns (by simp) (hb hby at_212) hr
    · show Q0 Z q0 q1 p2 q3 q4 p5 wc h0 n0 _ T28.heap _
      rw [e28]
      exact ⟨(by unfold F0; simp only [if_pos hc2]), N28⟩
  · obtain ⟨_, _, ⟨T29, L29, k29, n29⟩, -, X29, ⟨Lc29, hQ29, ll29, ly29, lz29⟩, st29⟩ := Jvm.LawKit.callS X0 hx (y := (⟨"java/lang/String", "valueOf", "(C)Ljava/lang/String;"⟩ : MethodName)) hown (mvT hZ (hw _ (List.mem_of_getElem? (i := 0) rfl))) (mvT hZ (hw _ (List.mem_of_getElem? (i := 1) rfl))) (mvT hZ (hw _ (List.mem_of_getElem? (i := 2) rfl))) (mvT hZ (hw _ (List.mem_of_getElem? (i := 3) rfl))) (by decide) (backOf (W := 0) (rm1 l Z a0 hw [] ((((p5.toUInt32 >>> ((24 : Int32) &&& 31).toUInt32).toInt32) &&& (127 : Int32)).toUInt32.toUInt16.toUInt32.toInt32) wc h0 n0 Z0 S_c hwc (own_c ((p5.toUInt32 >>> ((24 : Int32) &&& 31).toUInt32).toInt32) (127 : Int32) (by decide) (by decide))) hZ (hw _ (List.mem_of_getElem? (i := 3) rfl)) (hw _ (List.mem_of_getElem? (i := 2) rfl)) (by decide) (by decide)) (g := (mkF m 18 #[.val (.long q0), .second, .val (.long q1), .second, .val (.int p2), .val (.long q3), .second, .val (.long q4), .second, .val (.int p5), .unset, .unset, .unset, .unset, .unset, .unset] [(.int ((((p5.toUInt32 >>> ((24 : Int32) &&& 31).toUInt32).toInt32) &&& (127 : Int32)).toUInt32.toUInt16.toUInt32.toInt32))])) rfl (by rw [hml]; rfl) (argsL := [(.int ((((p5.toUInt32 >>> ((24 : Int32) &&& 31).toUInt32).toInt32) &&& (127 : Int32)).toUInt32.toUInt16.toUInt32.toInt32))]) (rest := []) (lenOf pd__C_Ljava_lang_String_ rfl) rfl (by show 2 * 0 + _ ≤ _; exact Nat.le_of_eq rfl) (hb hby at_18) (fun _ _ => ⟨rfl, e0, (by decide : 0 + 2 ≤ _), (by decide : 0 + 5 ≤ _)⟩)
    dsimp only [Pt.U, Pt.locs, Pt.cells, Pt.slots] at X29 ll29 ly29 lz29 st29 hQ29
    subst ll29 ly29 lz29
    obtain ⟨b29, rfl, N29q, K29c, u29, P29_0⟩ := hQ29
    have g_b29 : n0 ≤ b29 := Nat.le_trans Z0 u29
    have sz_b29 : h0.size ≤ b29 := Nat.le_trans (Keep.refl h0 []).1 u29
    have N29 := Fr.app N0 N29q
    have K29 : Keep h0 T29.heap [] := (Keep.refl h0 []).trans K29c all0
    obtain ⟨_, _, ⟨T30, L30, k30, n30⟩, -, X30, ⟨Lc30, hQ30, ll30, ly30, lz30⟩, st30⟩ := Jvm.LawKit.callS X29 hx (y := (⟨"java/lang/String", "valueOf", "(C)Ljava/lang/String;"⟩ : MethodName)) hown (mvT hZ (hw _ (List.mem_of_getElem? (i := 0) rfl))) (mvT hZ (hw _ (List.mem_of_getElem? (i := 1) rfl))) (mvT hZ (hw _ (List.mem_of_getElem? (i := 2) rfl))) (mvT hZ (hw _ (List.mem_of_getElem? (i := 3) rfl))) (by decide) (backOf (W := 0) (rm1 l Z a0 hw [] ((p5 &&& (255 : Int32)).toUInt32.toUInt16.toUInt32.toInt32) wc T29.heap n0 (Nat.le_trans Z0 K29c.1) (own_staK S_c K29c all0) hwc (own_c p5 (255 : Int32) (by decide) (by decide))) hZ (hw _ (List.mem_of_getElem? (i := 3) rfl)) (hw _ (List.mem_of_getElem? (i := 2) rfl)) (by decide) (by decide)) (g := (mkF m 30 #[.val (.long q0), .second, .val (.long q1), .second, .val (.int p2), .val (.long q3), .second, .val (.long q4), .second, .val (.int p5), .val (.ref b29), .unset, .unset, .unset, .unset, .unset] [(.int ((p5 &&& (255 : Int32)).toUInt32.toUInt16.toUInt32.toInt32))])) rfl (by rw [hml]; rfl) (argsL := [(.int ((p5 &&& (255 : Int32)).toUInt32.toUInt16.toUInt32.toInt32))]) (rest := []) (lenOf pd__C_Ljava_lang_String_ rfl) rfl (by show 2 * 0 + _ ≤ _; exact Nat.le_of_eq rfl) (hb hby at_30) (fun _ _ => ⟨rfl, (rfl : T29.heap = T29.heap), (by decide : 2 + 2 ≤ _), (by decide : 5 + 5 ≤ _)⟩)
    dsimp only [Pt.U, Pt.locs, Pt.cells, Pt.slots] at X30 ll30 ly30 lz30 st30 hQ30
    subst ll30 ly30 lz30
    obtain ⟨b30, rfl, N30q, K30c, u30, P30_0⟩ := hQ30
    have ne31 : b29 ≠ b30 := Nat.ne_of_lt (Nat.lt_of_lt_of_le P29_0.lt u30)
    have g_b30 : n0 ≤ b30 := Nat.le_trans (Nat.le_trans Z0 K29c.1) u30
    have sz_b30 : h0.size ≤ b30 := Nat.le_trans K29.1 u30
    have N30 := Fr.app N29 N30q
    have K30 : Keep h0 T30.heap [] := K29.trans K30c all0
    obtain ⟨_, _, ⟨T32, L32, k32, n32⟩, -, X32, ⟨Lc32, hQ32, ll32, ly32, lz32⟩, st32⟩ := Jvm.LawKit.callS X30 hx (y := (⟨"java/lang/String", "valueOf", "(C)Ljava/lang/String;"⟩ : MethodName)) hown (mvT hZ (hw _ (List.mem_of_getElem? (i := 0) rfl))) (mvT hZ (hw _ (List.mem_of_getElem? (i := 1) rfl))) (mvT hZ (hw _ (List.mem_of_getElem? (i := 2) rfl))) (mvT hZ (hw _ (List.mem_of_getElem? (i := 3) rfl))) (by decide) (backOf (W := 0) (rm1 l Z a0 hw [] ((((p5.toUInt32 >>> ((8 : Int32) &&& 31).toUInt32).toInt32) &&& (255 : Int32)).toUInt32.toUInt16.toUInt32.toInt32) wc T30.heap n0 (Nat.le_trans (Nat.le_trans Z0 K29c.1) K30c.1) (own_staK (own_staK S_c K29c all0) K30c all0) hwc (own_c ((p5.toUInt32 >>> ((8 : Int32) &&& 31).toUInt32).toInt32) (255 : Int32) (by decide) (by decide))) hZ (hw _ (List.mem_of_getElem? (i := 3) rfl)) (hw _ (List.mem_of_getElem? (i := 2) rfl)) (by decide) (by decide)) (g := (mkF m 45 #[.val (.long q0), .second, .val (.long q1), .second, .val (.int p2), .val (.long q3), .second, .val (.long q4), .second, .val (.int p5), .val (.ref b29), .val (.ref b30), .unset, .unset, .unset, .unset] [(.int ((((p5.toUInt32 >>> ((8 : Int32) &&& 31).toUInt32).toInt32) &&& (255 : Int32)).toUInt32.toUInt16.toUInt32.toInt32))])) rfl (by rw [hml]; rfl) (argsL := [(.int ((((p5.toUInt32 >>> ((8 : Int32) &&& 31).toUInt32).toInt32) &&& (255 : Int32)).toUInt32.toUInt16.toUInt32.toInt32))]) (rest := []) (lenOf pd__C_Ljava_lang_String_ rfl) rfl (by show 2 * 0 + _ ≤ _; exact Nat.le_of_eq rfl) (hb hby at_45) (fun _ _ => ⟨rfl, (rfl : T30.heap = T30.heap), (by decide : 4 + 2 ≤ _), (by decide : 10 + 5 ≤ _)⟩)
    dsimp only [Pt.U, Pt.locs, Pt.cells, Pt.slots] at X32 ll32 ly32 lz32 st32 hQ32
    subst ll32 ly32 lz32
    obtain ⟨b32, rfl, N32q, K32c, u32, P32_0⟩ := hQ32
    have ne33 : b29 ≠ b32 := Nat.ne_of_lt (Nat.lt_of_lt_of_le (Exa.keep P29_0 K30c).lt u32)
    have ne34 : b30 ≠ b32 := Nat.ne_of_lt (Nat.lt_of_lt_of_le P30_0.lt u32)
    have g_b32 : n0 ≤ b32 := Nat.le_trans (Nat.le_trans (Nat.le_trans Z0 K29c.1) K30c.1) u32
    have sz_b32 : h0.size ≤ b32 := Nat.le_trans K30.1 u32
    have N32 := Fr.app N30 N32q
    have K32 : Keep h0 T32.heap [] := K30.trans K32c all0
    obtain ⟨_, _, ⟨T35, L35, k35, n35⟩, -, X35, ⟨Lc35, hQ35, ll35, ly35, lz35⟩, st35⟩ := Jvm.LawKit.callS X32 hx (y := (⟨"java/lang/String", "valueOf", "(C)Ljava/lang/String;"⟩ : MethodName)) hown (mvT hZ (hw _ (List.mem_of_getElem? (i := 0) rfl))) (mvT hZ (hw _ (List.mem_of_getElem? (i := 1) rfl))) (mvT hZ (hw _ (List.mem_of_getElem? (i := 2) rfl))) (mvT hZ (hw _ (List.mem_of_getElem? (i := 3) rfl))) (by decide) (backOf (W := 0) (rm1 l Z a0 hw [] ((((p5.toUInt32 >>> ((16 : Int32) &&& 31).toUInt32).toInt32) &&& (255 : Int32)).toUInt32.toUInt16.toUInt32.toInt32) wc T32.heap n0 (Nat.le_trans (Nat.le_trans (Nat.le_trans Z0 K29c.1) K30c.1) K32c.1) (own_staK (own_staK (own_staK S_c K29c all0) K30c all0) K32c all0) hwc (own_c ((p5.toUInt32 >>> ((16 : Int32) &&& 31).toUInt32).toInt32) (255 : Int32) (by decide) (by decide))) hZ (hw _ (List.mem_of_getElem? (i := 3) rfl)) (hw _ (List.mem_of_getElem? (i := 2) rfl)) (by decide) (by decide)) (g := (mkF m 60 #[.val (.long q0), .second, .val (.long q1), .second, .val (.int p2), .val (.long q3), .second, .val (.long q4), .second, .val (.int p5), .val (.ref b29), .val (.ref b30), .val (.ref b32), .unset, .unset, .unset] [(.int ((((p5.toUInt32 >>> ((16 : Int32) &&& 31).toUInt32).toInt32) &&& (255 : Int32)).toUInt32.toUInt16.toUInt32.toInt32))])) rfl (by rw [hml]; rfl) (argsL := [(.int ((((p5.toUInt32 >>> ((16 : Int32) &&& 31).toUInt32).toInt32) &&& (255 : Int32)).toUInt32.toUInt16.toUInt32.toInt32))]) (rest := []) (lenOf pd__C_Ljava_lang_String_ rfl) rfl (by show 2 * 0 + _ ≤ _; exact Nat.le_of_eq rfl) (hb hby at_60) (fun _ _ => ⟨rfl, (rfl : T32.heap = T32.heap), (by decide : 6 + 2 ≤ _), (by decide : 15 + 5 ≤ _)⟩)
    dsimp only [Pt.U, Pt.locs, Pt.cells, Pt.slots] at X35 ll35 ly35 lz35 st35 hQ35
    subst ll35 ly35 lz35
    obtain ⟨b35, rfl, N35q, K35c, u35, P35_0⟩ := hQ35
    have ne36 : b29 ≠ b35 := Nat.ne_of_lt (Nat.lt_of_lt_of_le (Exa.keep (Exa.keep P29_0 K30c) K32c).lt u35)
    have ne37 : b30 ≠ b35 := Nat.ne_of_lt (Nat.lt_of_lt_of_le (Exa.keep P30_0 K32c).lt u35)
    have ne38 : b32 ≠ b35 := Nat.ne_of_lt (Nat.lt_of_lt_of_le P32_0.lt u35)
    have g_b35 : n0 ≤ b35 := Nat.le_trans (Nat.le_trans (Nat.le_trans (Nat.le_trans Z0 K29c.1) K30c.1) K32c.1) u35
    have sz_b35 : h0.size ≤ b35 := Nat.le_trans K32.1 u35
    have N35 := Fr.app N32 N35q
    have K35 : Keep h0 T35.heap [] := K32.trans K35c all0
    obtain ⟨T39, h39, X39, e39, E39, A39, D39, U39, st39⟩ := newO X35 hx hZ hown (hw _ (List.mem_of_getElem? (i := 26) rfl)) (hw _ (List.mem_of_getElem? (i := 27) rfl)) (hw _ (List.mem_of_getElem? (i := 28) rfl)) (rfl : T35.heap = T35.heap) (g := (mkF m 65 #[.val (.long q0), .second, .val (.long q1), .second, .val (.int p2), .val (.long q3), .second, .val (.long q4), .second, .val (.int p5), .val (.ref b29), .val (.ref b30), .val (.ref b32), .val (.ref b35), .unset, .unset] [])) rfl (hb hby at_65) (by decide) (by decide)
    obtain ⟨b39, g39⟩ : ∃ z, z = T35.heap.size := ⟨_, rfl⟩
    rw [← g39] at A39 D39 st39
    have ne40 : b29 ≠ b39 := Nat.ne_of_lt (Nat.lt_of_lt_of_le (Exa.keep (Exa.keep (Exa.keep P29_0 K30c) K32c) K35c).lt (Nat.le_of_eq g39.symm))
    have ne41 : b30 ≠ b39 := Nat.ne_of_lt (Nat.lt_of_lt_of_le (Exa.keep (Exa.keep P30_0 K32c) K35c).lt (Nat.le_of_eq g39.symm))
    have ne42 : b32 ≠ b39 := Nat.ne_of_lt (Nat.lt_of_lt_of_le (Exa.keep P32_0 K35c).lt (Nat.le_of_eq g39.symm))
    have ne43 : b35 ≠ b39 := Nat.ne_of_lt (Nat.lt_of_lt_of_le P35_0.lt (Nat.le_of_eq g39.symm))
    have g_b39 : n0 ≤ b39 := Nat.le_trans (Nat.le_trans (Nat.le_trans (Nat.le_trans (Nat.le_trans Z0 K29c.1) K30c.1) K32c.1) K35c.1) (Nat.le_of_eq g39.symm)
    have sz_b39 : h0.size ≤ b39 := Nat.le_trans K35.1 (Nat.le_of_eq g39.symm)
    have K39 : Keep h0 h39 [] := K35.ext E39
    have F_sequence_b39 : Fld Z h39 b39 "com/example/recourse/recourse/store/StoredDeadLetter" "sequence" "J" (.long (0 : Int64)) := D39 (Or.inr (hw _ (List.mem_of_getElem? (i := 39) rfl))) (ty := .long) (by decide)
    have F_originSequence_b39 : Fld Z h39 b39 "com/example/recourse/recourse/store/StoredDeadLetter" "originSequence" "J" (.long (0 : Int64)) := D39 (Or.inr (hw _ (List.mem_of_getElem? (i := 41) rfl))) (ty := .long) (by decide)
    have F_reconsumeTimes_b39 : Fld Z h39 b39 "com/example/recourse/recourse/store/StoredDeadLetter" "reconsumeTimes" "I" (.int (0 : Int32)) := D39 (Or.inr (hw _ (List.mem_of_getElem? (i := 43) rfl))) (ty := .int) (by decide)
    have F_topic_b39 : Fld Z h39 b39 "com/example/recourse/recourse/store/StoredDeadLetter" "topic" "Ljava/lang/String;" .null := D39 (Or.inr (hw _ (List.mem_of_getElem? (i := 45) rfl))) (ty := (.object "java/lang/String")) (by decide)
    have F_group_b39 : Fld Z h39 b39 "com/example/recourse/recourse/store/StoredDeadLetter" "group" "Ljava/lang/String;" .null := D39 (Or.inr (hw _ (List.mem_of_getElem? (i := 47) rfl))) (ty := (.object "java/lang/String")) (by decide)
    have F_failedSequence_b39 : Fld Z h39 b39 "com/example/recourse/recourse/store/StoredDeadLetter" "failedSequence" "J" (.long (0 : Int64)) := D39 (Or.inr (hw _ (List.mem_of_getElem? (i := 49) rfl))) (ty := .long) (by decide)
    have F_deadLetteredAtMillis_b39 : Fld Z h39 b39 "com/example/recourse/recourse/store/StoredDeadLetter" "deadLetteredAtMillis" "J" (.long (0 : Int64)) := D39 (Or.inr (hw _ (List.mem_of_getElem? (i := 51) rfl))) (ty := .long) (by decide)
    have F_deadLetterTopic_b39 : Fld Z h39 b39 "com/example/recourse/recourse/store/StoredDeadLetter" "deadLetterTopic" "Ljava/lang/String;" .null := D39 (Or.inr (hw _ (List.mem_of_getElem? (i := 53) rfl))) (ty := (.object "java/lang/String")) (by decide)
    obtain ⟨_, _, ⟨T44, L44, k44, n44⟩, -, X44, ⟨Lc44, hQ44, ll44, ly44, lz44⟩, st44⟩ := X39.specialBack hx (y := (⟨"com/example/recourse/recourse/store/StoredDeadLetter", "<init>", "(JJILjava/lang/String;Ljava/lang/String;JJLjava/lang/String;)V"⟩ : MethodName)) rfl hown (mvT hZ (hw _ (List.mem_of_getElem? (i := 29) rfl))) (mvT hZ (hw _ (List.mem_of_getElem? (i := 30) rfl))) (mvT hZ (hw _ (List.mem_of_getElem? (i := 31) rfl))) (by decide) (backOf (W := 1) (rm6 l Z a0 hw [] b39 q0 q1 p2 b29 b29 (q3 + (1 : Int64)) (q4 + (1 : Int64)) b29 h39 n0 (Nat.le_trans (Nat.le_trans (Nat.le_trans (Nat.le_trans (Nat.le_trans Z0 K29c.1) K30c.1) K32c.1) K35c.1) E39.1) A39 F_sequence_b39 F_originSequence_b39 F_reconsumeTimes_b39 F_topic_b39 F_group_b39 F_failedSequence_b39 F_deadLetteredAtMillis_b39 F_deadLetterTopic_b39 g_b39) hZ (hw _ (List.mem_of_getElem? (i := 31) rfl)) (hw _ (List.mem_of_getElem? (i := 28) rfl)) (by decide) (by decide)) (g := (mkF m 87 #[.val (.long q0), .second, .val (.long q1), .second, .val (.int p2), .val (.long q3), .second, .val (.long q4), .second, .val (.int p5), .val (.ref b29), .val (.ref b30), .val (.ref b32), .val (.ref b35), .unset, .unset] [(.ref b29), (.long (q4 + (1 : Int64))), (.long (q3 + (1 : Int64))), (.ref b29), (.ref b29), (.int p2), (.long q1), (.long q0), (.ref b39), (.ref b39)])) rfl (by rw [hml]; rfl) (Steps.refl _) (a := b39) (argsL := [(.long q0), (.long q1), (.int p2), (.ref b29), (.ref b29), (.long (q3 + (1 : Int64))), (.long (q4 + (1 : Int64))), (.ref b29)]) (rest := [(.ref b39)]) (lenOf pd__JJILjava_lang_String_Ljava_lang_String_JJLjava_lang_String__V rfl) rfl (by show 2 * 0 + _ ≤ _; exact Nat.le_of_eq rfl) (hb hby at_87) (fun _ _ => ⟨rfl, e39, (by decide : 9 + 0 ≤ _), (by decide : 28 + 0 ≤ _)⟩)
    dsimp only [Pt.U, Pt.locs, Pt.cells, Pt.slots] at X44 ll44 ly44 lz44 st44 hQ44
    subst ll44 ly44 lz44
    obtain ⟨rfl, N44q, K44c, P44_0, P44_1, P44_2, P44_3, P44_4, P44_5, P44_6, P44_7, P44_8⟩ := hQ44
    have N44 := Fr.app N35 N44q
    have K44 : Keep h0 T44.heap [] := K39.trans K44c (allS (Or.inr sz_b39) all0)
    obtain ⟨cq45, kq45, q45a, q45b, q45c⟩ := isOf hZ (rfl : T44.heap = T44.heap) P44_0
    obtain ⟨_, _, ⟨T45, L45, k45, n45⟩, -, X45, ⟨Lc45, hQ45, ll45, ly45, lz45⟩, st45⟩ := X44.virtualBack hx (y := (⟨"com/example/recourse/recourse/store/StoredDeadLetter", "withOrigin", "(Ljava/lang/String;Ljava/lang/String;JJLjava/lang/String;)Lcom/example/recourse/recourse/store/StoredDeadLetter;"⟩ : MethodName)) (z := (⟨"com/example/recourse/recourse/store/StoredDeadLetter", "withOrigin", "(Ljava/lang/String;Ljava/lang/String;JJLjava/lang/String;)Lcom/example/recourse/recourse/store/StoredDeadLetter;"⟩ : MethodName)) hown (mvT hZ (hw _ (List.mem_of_getElem? (i := 54) rfl))) (mvT hZ (hw _ (List.mem_of_getElem? (i := 55) rfl))) (notFace_of_selects (args := #[]) (mvT hZ (hw _ (List.mem_of_getElem? (i := 57) rfl)))) (mvT hZ (hw _ (List.mem_of_getElem? (i := 57) rfl))) (mvT hZ (hw _ (List.mem_of_getElem? (i := 56) rfl))) (by decide) (backOf (W := 0) (rm8 l Z a0 hw [] b39 b30 b32 q3 q4 b35 q0 q1 p2 T44.heap n0 (Nat.le_trans (Nat.le_trans (Nat.le_trans (Nat.le_trans (Nat.le_trans (Nat.le_trans Z0 K29c.1) K30c.1) K32c.1) K35c.1) E39.1) K44c.1) P44_1 P44_2 P44_3) hZ (hw _ (List.mem_of_getElem? (i := 58) rfl)) (hw _ (List.mem_of_getElem? (i := 28) rfl)) (by decide) (by decide)) q45a q45c (g := (mkF m 104 #[.val (.long q0), .second, .val (.long q1), .second, .val (.int p2), .val (.long q3), .second, .val (.long q4), .second, .val (.int p5), .val (.ref b29), .val (.ref b30), .val (.ref b32), .val (.ref b35), .val (.ref b39), .unset] [(.ref b35), (.long q4), (.long q3), (.ref b32), (.ref b30), (.ref b39)])) rfl (by rw [hml]; rfl) (Steps.refl _) (argsL := [(.ref b30), (.ref b32), (.long q3), (.long q4), (.ref b35)]) (rest := []) (lenOf pd__Ljava_lang_String_Ljava_lang_String_JJLjava_lang_String__Lcom_example_recourse_recourse_store_StoredDeadLetter_ rfl) rfl (by show 2 * 0 + _ ≤ _; exact Nat.le_of_eq rfl) (hb hby at_104) (fun _ _ => ⟨rfl, (rfl : T44.heap = T44.heap), (by decide : 9 + 1 ≤ _), (by decide : 28 + 8 ≤ _)⟩)
    dsimp only [Pt.U, Pt.locs, Pt.cells, Pt.slots] at X45 ll45 ly45 lz45 st45 hQ45
    subst ll45 ly45 lz45
    obtain ⟨b45, rfl, N45q, K45c, u45, P45_0, P45_1, P45_2, P45_3, P45_4, P45_5, P45_6, P45_7, P45_8⟩ := hQ45
    have ne46 : b29 ≠ b45 := Nat.ne_of_lt (Nat.lt_of_lt_of_le (Exa.keep (Exa.ext E39 (Exa.keep (Exa.keep (Exa.keep P29_0 K30c) K32c) K35c)) K44c).lt u45)
    have ne47 : b30 ≠ b45 := Nat.ne_of_lt (Nat.lt_of_lt_of_le (Exa.keep (Exa.ext E39 (Exa.keep (Exa.keep P30_0 K32c) K35c)) K44c).lt u45)
    have ne48 : b32 ≠ b45 := Nat.ne_of_lt (Nat.lt_of_lt_of_le (Exa.keep (Exa.ext E39 (Exa.keep P32_0 K35c)) K44c).lt u45)
    have ne49 : b35 ≠ b45 := Nat.ne_of_lt (Nat.lt_of_lt_of_le (Exa.keep (Exa.ext E39 P35_0) K44c).lt u45)
    have ne50 : b39 ≠ b45 := Nat.ne_of_lt (Nat.lt_of_lt_of_le P44_0.lt u45)
    have g_b45 : n0 ≤ b45 := Nat.le_trans (Nat.le_trans (Nat.le_trans (Nat.le_trans (Nat.le_trans (Nat.le_trans (Nat.le_trans Z0 K29c.1) K30c.1) K32c.1) K35c.1) E39.1) K44c.1) u45
    have sz_b45 : h0.size ≤ b45 := Nat.le_trans K44.1 u45
    have N45 := Fr.app N44 N45q
    have K45 : Keep h0 T45.heap [] := K44.trans K45c all0
    obtain ⟨cq51, kq51, q51a, q51b, q51c⟩ := isOf hZ (rfl : T45.heap = T45.heap) P45_0
    obtain ⟨_, _, ⟨T51, L51, k51, n51⟩, -, X51, ⟨Lc51, hQ51, ll51, ly51, lz51⟩, st51⟩ := X45.virtualBack hx (y := (⟨"com/example/recourse/recourse/store/StoredDeadLetter", "sequence", "()J"⟩ : MethodName)) (z := (⟨"com/example/recourse/recourse/store/StoredDeadLetter", "sequence", "()J"⟩ : MethodName)) hown (mvT hZ (hw _ (List.mem_of_getElem? (i := 61) rfl))) (mvT hZ (hw _ (List.mem_of_getElem? (i := 62) rfl))) (notFace_of_selects (args := #[]) (mvT hZ (hw _ (List.mem_of_getElem? (i := 64) rfl)))) (mvT hZ (hw _ (List.mem_of_getElem? (i := 64) rfl))) (mvT hZ (hw _ (List.mem_of_getElem? (i := 63) rfl))) (by decide) (backOf (W := 0) (rm9 l Z a0 hw [] b45 q0 T45.heap n0 (Nat.le_trans (Nat.le_trans (Nat.le_trans (Nat.le_trans (Nat.le_trans (Nat.le_trans (Nat.le_trans Z0 K29c.1) K30c.1) K32c.1) K35c.1) E39.1) K44c.1) K45c.1) P45_1) hZ (hw _ (List.mem_of_getElem? (i := 65) rfl)) (hw _ (List.mem_of_getElem? (i := 28) rfl)) (by decide) (by decide)) q51a q51c (g := (mkF m 118 #[.val (.long q0), .second, .val (.long q1), .second, .val (.int p2), .val (.long q3), .second, .val (.long q4), .second, .val (.int p5), .val (.ref b29), .val (.ref b30), .val (.ref b32), .val (.ref b35), .val (.ref b39), .val (.ref b45)] [(.ref b45)])) rfl (by rw [hml]; rfl) (Steps.refl _) (argsL := []) (rest := []) (lenOf pd___J rfl) rfl (by show 2 * 0 + _ ≤ _; exact Nat.le_of_eq rfl) (hb hby at_118) (fun _ _ => ⟨rfl, (rfl : T45.heap = T45.heap), (by decide : 10 + 0 ≤ _), (by decide : 36 + 0 ≤ _)⟩)
    dsimp only [Pt.U, Pt.locs, Pt.cells, Pt.slots] at X51 ll51 ly51 lz51 st51 hQ51
    subst ll51 ly51 lz51
    obtain ⟨rfl, N51q, e51⟩ := hQ51
    have N51 := Fr.app N45 N51q
    obtain ⟨cq52, kq52, q52a, q52b, q52c⟩ := isOf hZ e51 P45_0
    obtain ⟨_, _, ⟨T52, L52, k52, n52⟩, -, X52, ⟨Lc52, hQ52, ll52, ly52, lz52⟩, st52⟩ := X51.virtualBack hx (y := (⟨"com/example/recourse/recourse/store/StoredDeadLetter", "originSequence", "()J"⟩ : MethodName)) (z := (⟨"com/example/recourse/recourse/store/StoredDeadLetter", "originSequence", "()J"⟩ : MethodName)) hown (mvT hZ (hw _ (List.mem_of_getElem? (i := 66) rfl))) (mvT hZ (hw _ (List.mem_of_getElem? (i := 67) rfl))) (notFace_of_selects (args := #[]) (mvT hZ (hw _ (List.mem_of_getElem? (i := 69) rfl)))) (mvT hZ (hw _ (List.mem_of_getElem? (i := 69) rfl))) (mvT hZ (hw _ (List.mem_of_getElem? (i := 68) rfl))) (by decide) (backOf (W := 0) (rm10 l Z a0 hw [] b45 q1 T45.heap n0 (Nat.le_trans (Nat.le_trans (Nat.le_trans (Nat.le_trans (Nat.le_trans (Nat.le_trans (Nat.le_trans Z0 K29c.1) K30c.1) K32c.1) K35c.1) E39.1) K44c.1) K45c.1) P45_2) hZ (hw _ (List.mem_of_getElem? (i := 70) rfl)) (hw _ (List.mem_of_getElem? (i := 28) rfl)) (by decide) (by decide)) q52a q52c (g := (mkF m 128 #[.val (.long q0), .second, .val (.long q1), .second, .val (.int p2), .val (.long q3), .second, .val (.long q4), .second, .val (.int p5), .val (.ref b29), .val (.ref b30), .val (.ref b32), .val (.ref b35), .val (.ref b39), .val (.ref b45)] [(.ref b45)])) rfl (by rw [hml]; rfl) (Steps.refl _) (argsL := []) (rest := []) (lenOf pd___J rfl) rfl (by show 2 * 0 + _ ≤ _; exact Nat.le_of_eq rfl) (hb hby at_128) (fun _ _ => ⟨rfl, e51, (by decide : 10 + 0 ≤ _), (by decide : 36 + 0 ≤ _)⟩)
    dsimp only [Pt.U, Pt.locs, Pt.cells, Pt.slots] at X52 ll52 ly52 lz52 st52 hQ52
    subst ll52 ly52 lz52
    obtain ⟨rfl, N52q, e52⟩ := hQ52
    have N52 := Fr.app N51 N52q
    obtain ⟨cq53, kq53, q53a, q53b, q53c⟩ := isOf hZ e52 P45_0
    obtain ⟨_, _, ⟨T53, L53, k53, n53⟩, -, X53, ⟨Lc53, hQ53, ll53, ly53, lz53⟩, st53⟩ := X52.virtualBack hx (y := (⟨"com/example/recourse/recourse/store/StoredDeadLetter", "reconsumeTimes", "()I"⟩ : MethodName)) (z := (⟨"com/example/recourse/recourse/store/StoredDeadLetter", "reconsumeTimes", "()I"⟩ : MethodName)) hown (mvT hZ (hw _ (List.mem_of_getElem? (i := 71) rfl))) (mvT hZ (hw _ (List.mem_of_getElem? (i := 72) rfl))) (notFace_of_selects (args := #[]) (mvT hZ (hw _ (List.mem_of_getElem? (i := 74) rfl)))) (mvT hZ (hw _ (List.mem_of_getElem? (i := 74) rfl))) (mvT hZ (hw _ (List.mem_of_getElem? (i := 73) rfl))) (by decide) (backOf (W := 0) (rm11 l Z a0 hw [] b45 p2 T45.heap n0 (Nat.le_trans (Nat.le_trans (Nat.le_trans (Nat.le_trans (Nat.le_trans (Nat.le_trans (Nat.le_trans Z0 K29c.1) K30c.1) K32c.1) K35c.1) E39.1) K44c.1) K45c.1) P45_3) hZ (hw _ (List.mem_of_getElem? (i := 75) rfl)) (hw _ (List.mem_of_getElem? (i := 28) rfl)) (by decide) (by decide)) q53a q53c (g := (mkF m 138 #[.val (.long q0), .second, .val (.long q1), .second, .val (.int p2), .val (.long q3), .second, .val (.long q4), .second, .val (.int p5), .val (.ref b29), .val (.ref b30), .val (.ref b32), .val (.ref b35), .val (.ref b39), .val (.ref b45)] [(.ref b45)])) rfl (by rw [hml]; rfl) (Steps.refl _) (argsL := []) (rest := []) (lenOf pd___I rfl) rfl (by show 2 * 0 + _ ≤ _; exact Nat.le_of_eq rfl) (hb hby at_138) (fun _ _ => ⟨rfl, e52, (by decide : 10 + 0 ≤ _), (by decide : 36 + 0 ≤ _)⟩)
    dsimp only [Pt.U, Pt.locs, Pt.cells, Pt.slots] at X53 ll53 ly53 lz53 st53 hQ53
    subst ll53 ly53 lz53
    obtain ⟨rfl, N53q, e53⟩ := hQ53
    have N53 := Fr.app N52 N53q
    obtain ⟨cq54, kq54, q54a, q54b, q54c⟩ := isOf hZ e53 P45_0
    obtain ⟨_, _, ⟨T54, L54, k54, n54⟩, -, X54, ⟨Lc54, hQ54, ll54, ly54, lz54⟩, st54⟩ := X53.virtualBack hx (y := (⟨"com/example/recourse/recourse/store/StoredDeadLetter", "topic", "()Ljava/lang/String;"⟩ : MethodName)) (z := (⟨"com/example/recourse/recourse/store/StoredDeadLetter", "topic", "()Ljava/lang/String;"⟩ : MethodName)) hown (mvT hZ (hw _ (List.mem_of_getElem? (i := 76) rfl))) (mvT hZ (hw _ (List.mem_of_getElem? (i := 77) rfl))) (notFace_of_selects (args := #[]) (mvT hZ (hw _ (List.mem_of_getElem? (i := 79) rfl)))) (mvT hZ (hw _ (List.mem_of_getElem? (i := 79) rfl))) (mvT hZ (hw _ (List.mem_of_getElem? (i := 78) rfl))) (by decide) (backOf (W := 1) (rm12 l Z a0 hw [] b45 b30 T45.heap n0 (Nat.le_trans (Nat.le_trans (Nat.le_trans (Nat.le_trans (Nat.le_trans (Nat.le_trans (Nat.le_trans Z0 K29c.1) K30c.1) K32c.1) K35c.1) E39.1) K44c.1) K45c.1) P45_4) hZ (hw _ (List.mem_of_getElem? (i := 80) rfl)) (hw _ (List.mem_of_getElem? (i := 28) rfl)) (by decide) (by decide)) q54a q54c (g := (mkF m 150 #[.val (.long q0), .second, .val (.long q1), .second, .val (.int p2), .val (.long q3), .second, .val (.long q4), .second, .val (.int p5), .val (.ref b29), .val (.ref b30), .val (.ref b32), .val (.ref b35), .val (.ref b39), .val (.ref b45)] [(.ref b45), (.ref b30)])) rfl (by rw [hml]; rfl) (Steps.refl _) (argsL := []) (rest := [(.ref b30)]) (lenOf pd___Ljava_lang_String_ rfl) rfl (by show 2 * 0 + _ ≤ _; exact Nat.le_of_eq rfl) (hb hby at_150) (fun _ _ => ⟨rfl, e53, (by decide : 10 + 0 ≤ _), (by decide : 36 + 0 ≤ _)⟩)
    dsimp only [Pt.U, Pt.locs, Pt.cells, Pt.slots] at X54 ll54 ly54 lz54 st54 hQ54
    subst ll54 ly54 lz54
    obtain ⟨rfl, N54q, e54⟩ := hQ54
    have N54 := Fr.app N53 N54q
    obtain ⟨cq55, kq55, q55a, q55b, q55c⟩ := isOf hZ e54 (Exa.keep (Exa.keep (Exa.ext E39 (Exa.keep (Exa.keep P30_0 K32c) K35c)) K44c) K45c)
    obtain ⟨_, _, ⟨T55, L55, k55, n55⟩, -, X55, ⟨Lc55, hQ55, ll55, ly55, lz55⟩, st55⟩ := X54.virtualBack hx (y := (⟨"java/lang/String", "equals", "(Ljava/lang/Object;)Z"⟩ : MethodName)) (z := (⟨"java/lang/String", "equals", "(Ljava/lang/Object;)Z"⟩ : MethodName)) hown (mvT hZ (hw _ (List.mem_of_getElem? (i := 81) rfl))) (mvT hZ (hw _ (List.mem_of_getElem? (i := 82) rfl))) (notFace_of_selects (args := #[]) (mvT hZ (hw _ (List.mem_of_getElem? (i := 84) rfl)))) (mvT hZ (hw _ (List.mem_of_getElem? (i := 84) rfl))) (mvT hZ (hw _ (List.mem_of_getElem? (i := 83) rfl))) (by decide) (backOf (W := 0) (rm13 l Z a0 hw [] b30 T45.heap n0 (Nat.le_trans (Nat.le_trans (Nat.le_trans (Nat.le_trans (Nat.le_trans (Nat.le_trans (Nat.le_trans Z0 K29c.1) K30c.1) K32c.1) K35c.1) E39.1) K44c.1) K45c.1) ) hZ (hw _ (List.mem_of_getElem? (i := 85) rfl)) (hw _ (List.mem_of_getElem? (i := 2) rfl)) (by decide) (by decide)) q55a q55c (g := (mkF m 153 #[.val (.long q0), .second, .val (.long q1), .second, .val (.int p2), .val (.long q3), .second, .val (.long q4), .second, .val (.int p5), .val (.ref b29), .val (.ref b30), .val (.ref b32), .val (.ref b35), .val (.ref b39), .val (.ref b45)] [(.ref b30), (.ref b30)])) rfl (by rw [hml]; rfl) (Steps.refl _) (argsL := [(.ref b30)]) (rest := []) (lenOf pd__Ljava_lang_Object__Z rfl) rfl (by show 2 * 0 + _ ≤ _; exact Nat.le_of_eq rfl) (hb hby at_153) (fun _ _ => ⟨rfl, e54, (by decide : 10 + 0 ≤ _), (by decide : 36 + 0 ≤ _)⟩)
    dsimp only [Pt.U, Pt.locs, Pt.cells, Pt.slots] at X55 ll55 ly55 lz55 st55 hQ55
    subst ll55 ly55 lz55
    obtain ⟨rfl, N55q, e55⟩ := hQ55
    have N55 := Fr.app N54 N55q
    have hc156 : ¬ ((F13 b30) = (0 : Int32)) := by unfold F13; decide
    obtain ⟨cq56, kq56, q56a, q56b, q56c⟩ := isOf hZ e55 P45_0
    obtain ⟨_, _, ⟨T56, L56, k56, n56⟩, -, X56, ⟨Lc56, hQ56, ll56, ly56, lz56⟩, st56⟩ := X55.virtualBack hx (y := (⟨"com/example/recourse/recourse/store/StoredDeadLetter", "group", "()Ljava/lang/String;"⟩ : MethodName)) (z := (⟨"com/example/recourse/recourse/store/StoredDeadLetter", "group", "()Ljava/lang/String;"⟩ : MethodName)) hown (mvT hZ (hw _ (List.mem_of_getElem? (i := 86) rfl))) (mvT hZ (hw _ (List.mem_of_getElem? (i := 87) rfl))) (notFace_of_selects (args := #[]) (mvT hZ (hw _ (List.mem_of_getElem? (i := 89) rfl)))) (mvT hZ (hw _ (List.mem_of_getElem? (i := 89) rfl))) (mvT hZ (hw _ (List.mem_of_getElem? (i := 88) rfl))) (by decide) (backOf (W := 1) (rm14 l Z a0 hw [] b45 b32 T45.heap n0 (Nat.le_trans (Nat.le_trans (Nat.le_trans (Nat.le_trans (Nat.le_trans (Nat.le_trans (Nat.le_trans Z0 K29c.1) K30c.1) K32c.1) K35c.1) E39.1) K44c.1) K45c.1) P45_5) hZ (hw _ (List.mem_of_getElem? (i := 90) rfl)) (hw _ (List.mem_of_getElem? (i := 28) rfl)) (by decide) (by decide)) q56a q56c (g := (mkF m 163 #[.val (.long q0), .second, .val (.long q1), .second, .val (.int p2), .val (.long q3), .second, .val (.long q4), .second, .val (.int p5), .val (.ref b29), .val (.ref b30), .val (.ref b32), .val (.ref b35), .val (.ref b39), .val (.ref b45)] [(.ref b45), (.ref b32)])) rfl (by rw [hml]; rfl) (Steps.refl _) (argsL := []) (rest := [(.ref b32)]) (lenOf pd___Ljava_lang_String_ rfl) rfl (by show 2 * 0 + _ ≤ _; exact Nat.le_of_eq rfl) (hb hby at_163) (fun _ _ => ⟨rfl, e55, (by decide : 10 + 0 ≤ _), (by decide : 36 + 0 ≤ _)⟩)
    dsimp only [Pt.U, Pt.locs, Pt.cells, Pt.slots] at X56 ll56 ly56 lz56 st56 hQ56
    subst ll56 ly56 lz56
    obtain ⟨rfl, N56q, e56⟩ := hQ56
    have N56 := Fr.app N55 N56q
    obtain ⟨cq57, kq57, q57a, q57b, q57c⟩ := isOf hZ e56 (Exa.keep (Exa.keep (Exa.ext E39 (Exa.keep P32_0 K35c)) K44c) K45c)
    obtain ⟨_, _, ⟨T57, L57, k57, n57⟩, -, X57, ⟨Lc57, hQ57, ll57, ly57, lz57⟩, st57⟩ := X56.virtualBack hx (y := (⟨"java/lang/String", "equals", "(Ljava/lang/Object;)Z"⟩ : MethodName)) (z := (⟨"java/lang/String", "equals", "(Ljava/lang/Object;)Z"⟩ : MethodName)) hown (mvT hZ (hw _ (List.mem_of_getElem? (i := 81) rfl))) (mvT hZ (hw _ (List.mem_of_getElem? (i := 82) rfl))) (notFace_of_selects (args := #[]) (mvT hZ (hw _ (List.mem_of_getElem? (i := 84) rfl)))) (mvT hZ (hw _ (List.mem_of_getElem? (i := 84) rfl))) (mvT hZ (hw _ (List.mem_of_getElem? (i := 83) rfl))) (by decide) (backOf (W := 0) (rm13 l Z a0 hw [] b32 T45.heap n0 (Nat.le_trans (Nat.le_trans (Nat.le_trans (Nat.le_trans (Nat.le_trans (Nat.le_trans (Nat.le_trans Z0 K29c.1) K30c.1) K32c.1) K35c.1) E39.1) K44c.1) K45c.1) ) hZ (hw _ (List.mem_of_getElem? (i := 85) rfl)) (hw _ (List.mem_of_getElem? (i := 2) rfl)) (by decide) (by decide)) q57a q57c (g := (mkF m 166 #[.val (.long q0), .second, .val (.long q1), .second, .val (.int p2), .val (.long q3), .second, .val (.long q4), .second, .val (.int p5), .val (.ref b29), .val (.ref b30), .val (.ref b32), .val (.ref b35), .val (.ref b39), .val (.ref b45)] [(.ref b32), (.ref b32)])) rfl (by rw [hml]; rfl) (Steps.refl _) (argsL := [(.ref b32)]) (rest := []) (lenOf pd__Ljava_lang_Object__Z rfl) rfl (by show 2 * 0 + _ ≤ _; exact Nat.le_of_eq rfl) (hb hby at_166) (fun _ _ => ⟨rfl, e56, (by decide : 10 + 0 ≤ _), (by decide : 36 + 0 ≤ _)⟩)
    dsimp only [Pt.U, Pt.locs, Pt.cells, Pt.slots] at X57 ll57 ly57 lz57 st57 hQ57
    subst ll57 ly57 lz57
    obtain ⟨rfl, N57q, e57⟩ := hQ57
    have N57 := Fr.app N56 N57q
    have hc169 : ¬ ((F13 b32) = (0 : Int32)) := by unfold F13; decide
    obtain ⟨cq58, kq58, q58a, q58b, q58c⟩ := isOf hZ e57 P45_0
    obtain ⟨_, _, ⟨T58, L58, k58, n58⟩, -, X58, ⟨Lc58, hQ58, ll58, ly58, lz58⟩, st58⟩ := X57.virtualBack hx (y := (⟨"com/example/recourse/recourse/store/StoredDeadLetter", "failedSequence", "()J"⟩ : MethodName)) (z := (⟨"com/example/recourse/recourse/store/StoredDeadLetter", "failedSequence", "()J"⟩ : MethodName)) hown (mvT hZ (hw _ (List.mem_of_getElem? (i := 91) rfl))) (mvT hZ (hw _ (List.mem_of_getElem? (i := 92) rfl))) (notFace_of_selects (args := #[]) (mvT hZ (hw _ (List.mem_of_getElem? (i := 94) rfl)))) (mvT hZ (hw _ (List.mem_of_getElem? (i := 94) rfl))) (mvT hZ (hw _ (List.mem_of_getElem? (i := 93) rfl))) (by decide) (backOf (W := 0) (rm15 l Z a0 hw [] b45 q3 T45.heap n0 (Nat.le_trans (Nat.le_trans (Nat.le_trans (Nat.le_trans (Nat.le_trans (Nat.le_trans (Nat.le_trans Z0 K29c.1) K30c.1) K32c.1) K35c.1) E39.1) K44c.1) K45c.1) P45_6) hZ (hw _ (List.mem_of_getElem? (i := 95) rfl)) (hw _ (List.mem_of_getElem? (i := 28) rfl)) (by decide) (by decide)) q58a q58c (g := (mkF m 174 #[.val (.long q0), .second, .val (.long q1), .second, .val (.int p2), .val (.long q3), .second, .val (.long q4), .second, .val (.int p5), .val (.ref b29), .val (.ref b30), .val (.ref b32), .val (.ref b35), .val (.ref b39), .val (.ref b45)] [(.ref b45)])) rfl (by rw [hml]; rfl) (Steps.refl _) (argsL := []) (rest := []) (lenOf pd___J rfl) rfl (by show 2 * 0 + _ ≤ _; exact Nat.le_of_eq rfl) (hb hby at_174) (fun _ _ => ⟨rfl, e57, (by decide : 10 + 0 ≤ _), (by decide : 36 + 0 ≤ _)⟩)
    dsimp only [Pt.U, Pt.locs, Pt.cells, Pt.slots] at X58 ll58 ly58 lz58 st58 hQ58
    subst ll58 ly58 lz58
    obtain ⟨rfl, N58q, e58⟩ := hQ58
    have N58 := Fr.app N57 N58q
    obtain ⟨cq59, kq59, q59a, q59b, q59c⟩ := isOf hZ e58 P45_0
    obtain ⟨_, _, ⟨T59, L59, k59, n59⟩, -, X59, ⟨Lc59, hQ59, ll59, ly59, lz59⟩, st59⟩ := X58.virtualBack hx (y := (⟨"com/example/recourse/recourse/store/StoredDeadLetter", "deadLetteredAtMillis", "()J"⟩ : MethodName)) (z := (⟨"com/example/recourse/recourse/store/StoredDeadLetter", "deadLetteredAtMillis", "()J"⟩ : MethodName)) hown (mvT hZ (hw _ (List.mem_of_getElem? (i := 96) rfl))) (mvT hZ (hw _ (List.mem_of_getElem? (i := 97) rfl))) (notFace_of_selects (args := #[]) (mvT hZ (hw _ (List.mem_of_getElem? (i := 99) rfl)))) (mvT hZ (hw _ (List.mem_of_getElem? (i := 99) rfl))) (mvT hZ (hw _ (List.mem_of_getElem? (i := 98) rfl))) (by decide) (backOf (W := 0) (rm16 l Z a0 hw [] b45 q4 T45.heap n0 (Nat.le_trans (Nat.le_trans (Nat.le_trans (Nat.le_trans (Nat.le_trans (Nat.le_trans (Nat.le_trans Z0 K29c.1) K30c.1) K32c.1) K35c.1) E39.1) K44c.1) K45c.1) P45_7) hZ (hw _ (List.mem_of_getElem? (i := 100) rfl)) (hw _ (List.mem_of_getElem? (i := 28) rfl)) (by decide) (by decide)) q59a q59c (g := (mkF m 185 #[.val (.long q0), .second, .val (.long q1), .second, .val (.int p2), .val (.long q3), .second, .val (.long q4), .second, .val (.int p5), .val (.ref b29), .val (.ref b30), .val (.ref b32), .val (.ref b35), .val (.ref b39), .val (.ref b45)] [(.ref b45)])) rfl (by rw [hml]; rfl) (Steps.refl _) (argsL := []) (rest := []) (lenOf pd___J rfl) rfl (by show 2 * 0 + _ ≤ _; exact Nat.le_of_eq rfl) (hb hby at_185) (fun _ _ => ⟨rfl, e58, (by decide : 10 + 0 ≤ _), (by decide : 36 + 0 ≤ _)⟩)
    dsimp only [Pt.U, Pt.locs, Pt.cells, Pt.slots] at X59 ll59 ly59 lz59 st59 hQ59
    subst ll59 ly59 lz59
    obtain ⟨rfl, N59q, e59⟩ := hQ59
    have N59 := Fr.app N58 N59q
    obtain ⟨cq60, kq60, q60a, q60b, q60c⟩ := isOf hZ e59 P45_0
    obtain ⟨_, _, ⟨T60, L60, k60, n60⟩, -, X60, ⟨Lc60, hQ60, ll60, ly60, lz60⟩, st60⟩ := X59.virtualBack hx (y := (⟨"com/example/recourse/recourse/store/StoredDeadLetter", "deadLetterTopic", "()Ljava/lang/String;"⟩ : MethodName)) (z := (⟨"com/example/recourse/recourse/store/StoredDeadLetter", "deadLetterTopic", "()Ljava/lang/String;"⟩ : MethodName)) hown (mvT hZ (hw _ (List.mem_of_getElem? (i := 101) rfl))) (mvT hZ (hw _ (List.mem_of_getElem? (i := 102) rfl))) (notFace_of_selects (args := #[]) (mvT hZ (hw _ (List.mem_of_getElem? (i := 104) rfl)))) (mvT hZ (hw _ (List.mem_of_getElem? (i := 104) rfl))) (mvT hZ (hw _ (List.mem_of_getElem? (i := 103) rfl))) (by decide) (backOf (W := 1) (rm17 l Z a0 hw [] b45 b35 T45.heap n0 (Nat.le_trans (Nat.le_trans (Nat.le_trans (Nat.le_trans (Nat.le_trans (Nat.le_trans (Nat.le_trans Z0 K29c.1) K30c.1) K32c.1) K35c.1) E39.1) K44c.1) K45c.1) P45_8) hZ (hw _ (List.mem_of_getElem? (i := 105) rfl)) (hw _ (List.mem_of_getElem? (i := 28) rfl)) (by decide) (by decide)) q60a q60c (g := (mkF m 198 #[.val (.long q0), .second, .val (.long q1), .second, .val (.int p2), .val (.long q3), .second, .val (.long q4), .second, .val (.int p5), .val (.ref b29), .val (.ref b30), .val (.ref b32), .val (.ref b35), .val (.ref b39), .val (.ref b45)] [(.ref b45), (.ref b35)])) rfl (by rw [hml]; rfl) (Steps.refl _) (argsL := []) (rest := [(.ref b35)]) (lenOf pd___Ljava_lang_String_ rfl) rfl (by show 2 * 0 + _ ≤ _; exact Nat.le_of_eq rfl) (hb hby at_198) (fun _ _ => ⟨rfl, e59, (by decide : 10 + 0 ≤ _), (by decide : 36 + 0 ≤ _)⟩)
    dsimp only [Pt.U, Pt.locs, Pt.cells, Pt.slots] at X60 ll60 ly60 lz60 st60 hQ60
    subst ll60 ly60 lz60
    obtain ⟨rfl, N60q, e60⟩ := hQ60
    have N60 := Fr.app N59 N60q
    obtain ⟨cq61, kq61, q61a, q61b, q61c⟩ := isOf hZ e60 (Exa.keep (Exa.keep (Exa.ext E39 P35_0) K44c) K45c)
    obtain ⟨_, _, ⟨T61, L61, k61, n61⟩, -, X61, ⟨Lc61, hQ61, ll61, ly61, lz61⟩, st61⟩ := X60.virtualBack hx (y := (⟨"java/lang/String", "equals", "(Ljava/lang/Object;)Z"⟩ : MethodName)) (z := (⟨"java/lang/String", "equals", "(Ljava/lang/Object;)Z"⟩ : MethodName)) hown (mvT hZ (hw _ (List.mem_of_getElem? (i := 81) rfl))) (mvT hZ (hw _ (List.mem_of_getElem? (i := 82) rfl))) (notFace_of_selects (args := #[]) (mvT hZ (hw _ (List.mem_of_getElem? (i := 84) rfl)))) (mvT hZ (hw _ (List.mem_of_getElem? (i := 84) rfl))) (mvT hZ (hw _ (List.mem_of_getElem? (i := 83) rfl))) (by decide) (backOf (W := 0) (rm13 l Z a0 hw [] b35 T45.heap n0 (Nat.le_trans (Nat.le_trans (Nat.le_trans (Nat.le_trans (Nat.le_trans (Nat.le_trans (Nat.le_trans Z0 K29c.1) K30c.1) K32c.1) K35c.1) E39.1) K44c.1) K45c.1) ) hZ (hw _ (List.mem_of_getElem? (i := 85) rfl)) (hw _ (List.mem_of_getElem? (i := 2) rfl)) (by decide) (by decide)) q61a q61c (g := (mkF m 201 #[.val (.long q0), .second, .val (.long q1), .second, .val (.int p2), .val (.long q3), .second, .val (.long q4), .second, .val (.int p5), .val (.ref b29), .val (.ref b30), .val (.ref b32), .val (.ref b35), .val (.ref b39), .val (.ref b45)] [(.ref b35), (.ref b35)])) rfl (by rw [hml]; rfl) (Steps.refl _) (argsL := [(.ref b35)]) (rest := []) (lenOf pd__Ljava_lang_Object__Z rfl) rfl (by show 2 * 0 + _ ≤ _; exact Nat.le_of_eq rfl) (hb hby at_201) (fun _ _ => ⟨rfl, e60, (by decide : 10 + 0 ≤ _), (by decide : 36 + 0 ≤ _)⟩)
    dsimp only [Pt.U, Pt.locs, Pt.cells, Pt.slots] at X61 ll61 ly61 lz61 st61 hQ61
    subst ll61 ly61 lz61
    obtain ⟨rfl, N61q, e61⟩ := hQ61
    have N61 := Fr.app N60 N61q
    have hc204 : ¬ ((F13 b35) = (0 : Int32)) := by unfold F13; decide
    obtain ⟨fs, hr, hrun, hended, hW, hsame⟩ := X61.leave (v := some (.int (1 : Int32))) (fun h => by rw [Bd.returns] at h; cases h)
    refine ⟨_, _, pre1 _ ?_, hrun, hended, _, _, rfl, ?_, ⟨_, rfl⟩, hW, hsame.mono (by decide) (by decide)⟩
    · show Steps p.tables e below (s₁.setTop (mkF m 2 #[.val (.long q0), .second, .val (.long q1), .second, .val (.int p2), .val (.long q3), .second, .val (.long q4), .second, .val (.int p5), .unset, .unset, .unset, .unset, .unset, .unset] [(.int p5)])) _
      refine XS.ifYes X0.here hx rfl (pc0 := 2) (pc' := 9) rfl (hb hby at_2) rfl ((if0 _ _).trans (flt hc2).2.1) (by decide) (by decide) ?_
      show Steps p.tables e below (s₁.setTop (mkF m 9 #[.val (.long q0), .second, .val (.long q1), .second, .val (.int p2), .val (.long q3), .second, .val (.long q4), .second, .val (.int p5), .unset, .unset, .unset, .unset, .unset, .unset] [])) _
      refine XS.iload X0.here hx rfl (hb hby at_9) rfl ?_
      show Steps p.tables e below (s₁.setTop (mkF m 11 #[.val (.long q0), .second, .val (.long q1), .second, .val (.int p2), .val (.long q3), .second, .val (.long q4), .second, .val (.int p5), .unset, .unset, .unset, .unset, .unset, .unset] [(.int p5)])) _
      refine XS.bipush X0.here hx rfl (hb hby at_11) ?_
      show Steps p.tables e below (s₁.setTop (mkF m 13 #[.val (.long q0), .second, .val (.long q1), .second, .val (.int p2), .val (.long q3), .second, .val (.long q4), .second, .val (.int p5), .unset, .unset, .unset, .unset, .unset, .unset] [(.int (24 : Int32)), (.int p5)])) _
      refine XS.iushr X0.here hx rfl (hb hby at_13) rfl ?_
      show Steps p.tables e below (s₁.setTop (mkF m 14 #[.val (.long q0), .second, .val (.long q1), .second, .val (.int p2), .val (.long q3), .second, .val (.long q4), .second, .val (.int p5), .unset, .unset, .unset, .unset, .unset, .unset] [(.int ((p5.toUInt32 >>> ((24 : Int32) &&& 31).toUInt32).toInt32))])) _
      refine XS.bipush X0.here hx rfl (hb hby at_14) ?_
      show Steps p.tables e below (s₁.setTop (mkF m 16 #[.val (.long q0), .second, .val (.long q1), .second, .val (.int p2), .val (.long q3), .second, .val (.long q4), .second, .val (.int p5), .unset, .unset, .unset, .unset, .unset, .unset] [(.int (127 : Int32)), (.int ((p5.toUInt32 >>> ((24 : Int32) &&& 31).toUInt32).toInt32))])) _
      refine XS.iand X0.here hx rfl (hb hby at_16) rfl ?_
      show Steps p.tables e below (s₁.setTop (mkF m 17 #[.val (.long q0), .second, .val (.long q1), .second, .val (.int p2), .val (.long q3), .second, .val (.long q4), .second, .val (.int p5), .unset, .unset, .unset, .unset, .unset, .unset] [(.int (((p5.toUInt32 >>> ((24 : Int32) &&& 31).toUInt32).toInt32) &&& (127 : Int32)))])) _
      refine XS.i2c X0.here hx rfl (hb hby at_17) rfl ?_
      show Steps p.tables e below (s₁.setTop (mkF m 18 #[.val (.long q0), .second, .val (.long q1), .second, .val (.int p2), .val (.long q3), .second, .val (.long q4), .second, .val (.int p5), .unset, .unset, .unset, .unset, .unset, .unset] [(.int ((((p5.toUInt32 >>> ((24 : Int32) &&& 31).toUInt32).toInt32) &&& (127 : Int32)).toUInt32.toUInt16.toUInt32.toInt32))])) _
      refine st29 _ ?_
      show Steps p.tables e below (T29.setTop (mkF m 21 #[.val (.long q0), .second, .val (.long q1), .second, .val (.int p2), .val (.long q3), .second, .val (.long q4), .second, .val (.int p5), .unset, .unset, .unset, .unset, .unset, .unset] [(.ref b29)])) _
      refine XS.astore X29.here hx rfl (hb hby at_21) rfl rfl (l' := #[.val (.long q0), .second, .val (.long q1), .second, .val (.int p2), .val (.long q3), .second, .val (.long q4), .second, .val (.int p5), .val (.ref b29), .unset, .unset, .unset, .unset, .unset]) rfl ?_
      show Steps p.tables e below (T29.setTop (mkF m 23 #[.val (.long q0), .second, .val (.long q1), .second, .val (.int p2), .val (.long q3), .second, .val (.long q4), .second, .val (.int p5), .val (.ref b29), .unset, .unset, .unset, .unset, .unset] [])) _
      refine XS.iload X29.here hx rfl (hb hby at_23) rfl ?_
      show Steps p.tables e below (T29.setTop (mkF m 25 #[.val (.long q0), .second, .val (.long q1), .second, .val (.int p2), .val (.long q3), .second, .val (.long q4), .second, .val (.int p5), .val (.ref b29), .unset, .unset, .unset, .unset, .unset] [(.int p5)])) _
      refine XS.sipush X29.here hx rfl (hb hby at_25) ?_
      show Steps p.tables e below (T29.setTop (mkF m 28 #[.val (.long q0), .second, .val (.long q1), .second, .val (.int p2), .val (.long q3), .second, .val (.long q4), .second, .val (.int p5), .val (.ref b29), .unset, .unset, .unset, .unset, .unset] [(.int (255 : Int32)), (.int p5)])) _
      refine XS.iand X29.here hx rfl (hb hby at_28) rfl ?_
      show Steps p.tables e below (T29.setTop (mkF m 29 #[.val (.long q0), .second, .val (.long q1), .second, .val (.int p2), .val (.long q3), .second, .val (.long q4), .second, .val (.int p5), .val (.ref b29), .unset, .unset, .unset, .unset, .unset] [(.int (p5 &&& (255 : Int32)))])) _
      refine XS.i2c X29.here hx rfl (hb hby at_29) rfl ?_
      show Steps p.tables e below (T29.setTop (mkF m 30 #[.val (.long q0), .second, .val (.long q1), .second, .val (.int p2), .val (.long q3), .second, .val (.long q4), .second, .val (.int p5), .val (.ref b29), .unset, .unset, .unset, .unset, .unset] [(.int ((p5 &&& (255 : Int32)).toUInt32.toUInt16.toUInt32.toInt32))])) _
      refine st30 _ ?_
      show Steps p.tables e below (T30.setTop (mkF m 33 #[.val (.long q0), .second, .val (.long q1), .second, .val (.int p2), .val (.long q3), .second, .val (.long q4), .second, .val (.int p5), .val (.ref b29), .unset, .unset, .unset, .unset, .unset] [(.ref b30)])) _
      refine XS.astore X30.here hx rfl (hb hby at_33) rfl rfl (l' := #[.val (.long q0), .second, .val (.long q1), .second, .val (.int p2), .val (.long q3), .second, .val (.long q4), .second, .val (.int p5), .val (.ref b29), .val (.ref b30), .unset, .unset, .unset, .unset]) rfl ?_
      show Steps p.tables e below (T30.setTop (mkF m 35 #[.val (.long q0), .second, .val (.long q1), .second, .val (.int p2), .val (.long q3), .second, .val (.long q4), .second, .val (.int p5), .val (.ref b29), .val (.ref b30), .unset, .unset, .unset, .unset] [])) _
      refine XS.iload X30.here hx rfl (hb hby at_35) rfl ?_
      show Steps p.tables e below (T30.setTop (mkF m 37 #[.val (.long q0), .second, .val (.long q1), .second, .val (.int p2), .val (.long q3), .second, .val (.long q4), .second, .val (.int p5), .val (.ref b29), .val (.ref b30), .unset, .unset, .unset, .unset] [(.int p5)])) _
      refine XS.bipush X30.here hx rfl (hb hby at_37) ?_
      show Steps p.tables e below (T30.setTop (mkF m 39 #[.val (.long q0), .second, .val (.long q1), .second, .val (.int p2), .val (.long q3), .second, .val (.long q4), .second, .val (.int p5), .val (.ref b29), .val (.ref b30), .unset, .unset, .unset, .unset] [(.int (8 : Int32)), (.int p5)])) _
      refine XS.iushr X30.here hx rfl (hb hby at_39) rfl ?_
      show Steps p.tables e below (T30.setTop (mkF m 40 #[.val (.long q0), .second, .val (.long q1), .second, .val (.int p2), .val (.long q3), .second, .val (.long q4), .second, .val (.int p5), .val (.ref b29), .val (.ref b30), .unset, .unset, .unset, .unset] [(.int ((p5.toUInt32 >>> ((8 : Int32) &&& 31).toUInt32).toInt32))])) _
      refine XS.sipush X30.here hx rfl (hb hby at_40) ?_
      show Steps p.tables e below (T30.setTop (mkF m 43 #[.val (.long q0), .second, .val (.long q1), .second, .val (.int p2), .val (.long q3), .second, .val (.long q4), .second, .val (.int p5), .val (.ref b29), .val (.ref b30), .unset, .unset, .unset, .unset] [(.int (255 : Int32)), (.int ((p5.toUInt32 >>> ((8 : Int32) &&& 31).toUInt32).toInt32))])) _
      refine XS.iand X30.here hx rfl (hb hby at_43) rfl ?_
      show Steps p.tables e below (T30.setTop (mkF m 44 #[.val (.long q0), .second, .val (.long q1), .second, .val (.int p2), .val (.long q3), .second, .val (.long q4), .second, .val (.int p5), .val (.ref b29), .val (.ref b30), .unset, .unset, .unset, .unset] [(.int (((p5.toUInt32 >>> ((8 : Int32) &&& 31).toUInt32).toInt32) &&& (255 : Int32)))])) _
      refine XS.i2c X30.here hx rfl (hb hby at_44) rfl ?_
      show Steps p.tables e below (T30.setTop (mkF m 45 #[.val (.long q0), .second, .val (.long q1), .second, .val (.int p2), .val (.long q3), .second, .val (.long q4), .second, .val (.int p5), .val (.ref b29), .val (.ref b30), .unset, .unset, .unset, .unset] [(.int ((((p5.toUInt32 >>> ((8 : Int32) &&& 31).toUInt32).toInt32) &&& (255 : Int32)).toUInt32.toUInt16.toUInt32.toInt32))])) _
      refine st32 _ ?_
      show Steps p.tables e below (T32.setTop (mkF m 48 #[.val (.long q0), .second, .val (.long q1), .second, .val (.int p2), .val (.long q3), .second, .val (.long q4), .second, .val (.int p5), .val (.ref b29), .val (.ref b30), .unset, .unset, .unset, .unset] [(.ref b32)])) _
      refine XS.astore X32.here hx rfl (hb hby at_48) rfl rfl (l' := #[.val (.long q0), .second, .val (.long q1), .second, .val (.int p2), .val (.long q3), .second, .val (.long q4), .second, .val (.int p5), .val (.ref b29), .val (.ref b30), .val (.ref b32), .unset, .unset, .unset]) rfl ?_
      show Steps p.tables e below (T32.setTop (mkF m 50 #[.val (.long q0), .second, .val (.long q1), .second, .val (.int p2), .val (.long q3), .second, .val (.long q4), .second, .val (.int p5), .val (.ref b29), .val (.ref b30), .val (.ref b32), .unset, .unset, .unset] [])) _
      refine XS.iload X32.here hx rfl (hb hby at_50) rfl ?_
      show Steps p.tables e below (T32.setTop (mkF m 52 #[.val (.long q0), .second, .val (.long q1), .second, .val (.int p2), .val (.long q3), .second, .val (.long q4), .second, .val (.int p5), .val (.ref b29), .val (.ref b30), .val (.ref b32), .unset, .unset, .unset] [(.int p5)])) _
      refine XS.bipush X32.here hx rfl (hb hby at_52) ?_
      show Steps p.tables e below (T32.setTop (mkF m 54 #[.val (.long q0), .second, .val (.long q1), .second, .val (.int p2), .val (.long q3), .second, .val (.long q4), .second, .val (.int p5), .val (.ref b29), .val (.ref b30), .val (.ref b32), .unset, .unset, .unset] [(.int (16 : Int32)), (.int p5)])) _
      refine XS.iushr X32.here hx rfl (hb hby at_54) rfl ?_
      show Steps p.tables e below (T32.setTop (mkF m 55 #[.val (.long q0), .second, .val (.long q1), .second, .val (.int p2), .val (.long q3), .second, .val (.long q4), .second, .val (.int p5), .val (.ref b29), .val (.ref b30), .val (.ref b32), .unset, .unset, .unset] [(.int ((p5.toUInt32 >>> ((16 : Int32) &&& 31).toUInt32).toInt32))])) _
      refine XS.sipush X32.here hx rfl (hb hby at_55) ?_
      show Steps p.tables e below (T32.setTop (mkF m 58 #[.val (.long q0), .second, .val (.long q1), .second, .val (.int p2), .val (.long q3), .second, .val (.long q4), .second, .val (.int p5), .val (.ref b29), .val (.ref b30), .val (.ref b32), .unset, .unset, .unset] [(.int (255 : Int32)), (.int ((p5.toUInt32 >>> ((16 : Int32) &&& 31).toUInt32).toInt32))])) _
      refine XS.iand X32.here hx rfl (hb hby at_58) rfl ?_
      show Steps p.tables e below (T32.setTop (mkF m 59 #[.val (.long q0), .second, .val (.long q1), .second, .val (.int p2), .val (.long q3), .second, .val (.long q4), .second, .val (.int p5), .val (.ref b29), .val (.ref b30), .val (.ref b32), .unset, .unset, .unset] [(.int (((p5.toUInt32 >>> ((16 : Int32) &&& 31).toUInt32).toInt32) &&& (255 : Int32)))])) _
      refine XS.i2c X32.here hx rfl (hb hby at_59) rfl ?_
      show Steps p.tables e below (T32.setTop (mkF m 60 #[.val (.long q0), .second, .val (.long q1), .second, .val (.int p2), .val (.long q3), .second, .val (.long q4), .second, .val (.int p5), .val (.ref b29), .val (.ref b30), .val (.ref b32), .unset, .unset, .unset] [(.int ((((p5.toUInt32 >>> ((16 : Int32) &&& 31).toUInt32).toInt32) &&& (255 : Int32)).toUInt32.toUInt16.toUInt32.toInt32))])) _
      refine st35 _ ?_
      show Steps p.tables e below (T35.setTop (mkF m 63 #[.val (.long q0), .second, .val (.long q1), .second, .val (.int p2), .val (.long q3), .second, .val (.long q4), .second, .val (.int p5), .val (.ref b29), .val (.ref b30), .val (.ref b32), .unset, .unset, .unset] [(.ref b35)])) _
      refine XS.astore X35.here hx rfl (hb hby at_63) rfl rfl (l' := #[.val (.long q0), .second, .val (.long q1), .second, .val (.int p2), .val (.long q3), .second, .val (.long q4), .second, .val (.int p5), .val (.ref b29), .val (.ref b30), .val (.ref b32), .val (.ref b35), .unset, .unset]) rfl ?_
      show Steps p.tables e below (T35.setTop (mkF m 65 #[.val (.long q0), .second, .val (.long q1), .second, .val (.int p2), .val (.long q3), .second, .val (.long q4), .second, .val (.int p5), .val (.ref b29), .val (.ref b30), .val (.ref b32), .val (.ref b35), .unset, .unset] [])) _
      refine st39 _ ?_
      show Steps p.tables e below (T39.setTop (mkF m 68 #[.val (.long q0), .second, .val (.long q1), .second, .val (.int p2), .val (.long q3), .second, .val (.long q4), .second, .val (.int p5), .val (.ref b29), .val (.ref b30), .val (.ref b32), .val (.ref b35), .unset, .unset] [(.ref b39)])) _
      refine XS.dup X39.here hx rfl (hb hby at_68) rfl rfl ?_
      show Steps p.tables e below (T39.setTop (mkF m 69 #[.val (.long q0), .second, .val (.long q1), .second, .val (.int p2), .val (.long q3), .second, .val (.long q4), .second, .val (.int p5), .val (.ref b29), .val (.ref b30), .val (.ref b32), .val (.ref b35), .unset, .unset] [(.ref b39), (.ref b39)])) _
      refine XS.lloadN X39.here hx rfl (hb hby at_69) rfl ?_
      show Steps p.tables e below (T39.setTop (mkF m 70 #[.val (.long q0), .second, .val (.long q1), .second, .val (.int p2), .val (.long q3), .second, .val (.long q4), .second, .val (.int p5), .val (.ref b29), .val (.ref b30), .val (.ref b32), .val (.ref b35), .unset, .unset] [(.long q0), (.ref b39), (.ref b39)])) _
      refine XS.lloadN X39.here hx rfl (hb hby at_70) rfl ?_
      show Steps p.tables e below (T39.setTop (mkF m 71 #[.val (.long q0), .second, .val (.long q1), .second, .val (.int p2), .val (.long q3), .second, .val (.long q4), .second, .val (.int p5), .val (.ref b29), .val (.ref b30), .val (.ref b32), .val (.ref b35), .unset, .unset] [(.long q1), (.long q0), (.ref b39), (.ref b39)])) _
      refine XS.iload X39.here hx rfl (hb hby at_71) rfl ?_
      show Steps p.tables e below (T39.setTop (mkF m 73 #[.val (.long q0), .second, .val (.long q1), .second, .val (.int p2), .val (.long q3), .second, .val (.long q4), .second, .val (.int p5), .val (.ref b29), .val (.ref b30), .val (.ref b32), .val (.ref b35), .unset, .unset] [(.int p2), (.long q1), (.long q0), (.ref b39), (.ref b39)])) _
      refine XS.aload X39.here hx rfl (hb hby at_73) rfl rfl ?_
      show Steps p.tables e below (T39.setTop (mkF m 75 #[.val (.long q0), .second, .val (.long q1), .second, .val (.int p2), .val (.long q3), .second, .val (.long q4), .second, .val (.int p5), .val (.ref b29), .val (.ref b30), .val (.ref b32), .val (.ref b35), .unset, .unset] [(.ref b29), (.int p2), (.long q1), (.long q0), (.ref b39), (.ref b39)])) _
      refine XS.aload X39.here hx rfl (hb hby at_75) rfl rfl ?_
      show Steps p.tables e below (T39.setTop (mkF m 77 #[.val (.long q0), .second, .val (.long q1), .second, .val (.int p2), .val (.long q3), .second, .val (.long q4), .second, .val (.int p5), .val (.ref b29), .val (.ref b30), .val (.ref b32), .val (.ref b35), .unset, .unset] [(.ref b29), (.ref b29), (.int p2), (.long q1), (.long q0), (.ref b39), (.ref b39)])) _
      refine XS.lload X39.here hx rfl (hb hby at_77) rfl ?_
      show Steps p.tables e below (T39.setTop (mkF m 79 #[.val (.long q0), .second, .val (.long q1), .second, .val (.int p2), .val (.long q3), .second, .val (.long q4), .second, .val (.int p5), .val (.ref b29), .val (.ref b30), .val (.ref b32), .val (.ref b35), .unset, .unset] [(.long q3), (.ref b29), (.ref b29), (.int p2), (.long q1), (.long q0), (.ref b39), (.ref b39)])) _
      refine XS.lconst X39.here hx rfl (hb hby at_79) ?_
      show Steps p.tables e below (T39.setTop (mkF m 80 #[.val (.long q0), .second, .val (.long q1), .second, .val (.int p2), .val (.long q3), .second, .val (.long q4), .second, .val (.int p5), .val (.ref b29), .val (.ref b30), .val (.ref b32), .val (.ref b35), .unset, .unset] [(.long (1 : Int64)), (.long q3), (.ref b29), (.ref b29), (.int p2), (.long q1), (.long q0), (.ref b39), (.ref b39)])) _
      refine XS.ladd X39.here hx rfl (hb hby at_80) rfl ?_
      show Steps p.tables e below (T39.setTop (mkF m 81 #[.val (.long q0), .second, .val (.long q1), .second, .val (.int p2), .val (.long q3), .second, .val (.long q4), .second, .val (.int p5), .val (.ref b29), .val (.ref b30), .val (.ref b32), .val (.ref b35), .unset, .unset] [(.long (q3 + (1 : Int64))), (.ref b29), (.ref b29), (.int p2), (.long q1), (.long q0), (.ref b39), (.ref b39)])) _
      refine XS.lload X39.here hx rfl (hb hby at_81) rfl ?_
      show Steps p.tables e below (T39.setTop (mkF m 83 #[.val (.long q0), .second, .val (.long q1), .second, .val (.int p2), .val (.long q3), .second, .val (.long q4), .second, .val (.int p5), .val (.ref b29), .val (.ref b30), .val (.ref b32), .val (.ref b35), .unset, .unset] [(.long q4), (.long (q3 + (1 : Int64))), (.ref b29), (.ref b29), (.int p2), (.long q1), (.long q0), (.ref b39), (.ref b39)])) _
      refine XS.lconst X39.here hx rfl (hb hby at_83) ?_
      show Steps p.tables e below (T39.setTop (mkF m 84 #[.val (.long q0), .second, .val (.long q1), .second, .val (.int p2), .val (.long q3), .second, .val (.long q4), .second, .val (.int p5), .val (.ref b29), .val (.ref b30), .val (.ref b32), .val (.ref b35), .unset, .unset] [(.long (1 : Int64)), (.long q4), (.long (q3 + (1 : Int64))), (.ref b29), (.ref b29), (.int p2), (.long q1), (.long q0), (.ref b39), (.ref b39)])) _
      refine XS.ladd X39.here hx rfl (hb hby at_84) rfl ?_
      show Steps p.tables e below (T39.setTop (mkF m 85 #[.val (.long q0), .second, .val (.long q1), .second, .val (.int p2), .val (.long q3), .second, .val (.long q4), .second, .val (.int p5), .val (.ref b29), .val (.ref b30), .val (.ref b32), .val (.ref b35), .unset, .unset] [(.long (q4 + (1 : Int64))), (.long (q3 + (1 : Int64))), (.ref b29), (.ref b29), (.int p2), (.long q1), (.long q0), (.ref b39), (.ref b39)])) _
      refine XS.aload X39.here hx rfl (hb hby at_85) rfl rfl ?_
      show Steps p.tables e below (T39.setTop (mkF m 87 #[.val (.long q0), .second, .val (.long q1), .second, .val (.int p2), .val (.long q3), .second, .val (.long q4), .second, .val (.int p5), .val (.ref b29), .val (.ref b30), .val (.ref b32), .val (.ref b35), .unset, .unset] [(.ref b29), (.long (q4 + (1 : Int64))), (.long (q3 + (1 : Int64))), (.ref b29), (.ref b29), (.int p2), (.long q1), (.long q0), (.ref b39), (.ref b39)])) _
      refine st44.trans ?_
      show Steps p.tables e below (T44.setTop (mkF m 90 #[.val (.long q0), .second, .val (.long q1), .second, .val (.int p2), .val (.long q3), .second, .val (.long q4), .second, .val (.int p5), .val (.ref b29), .val (.ref b30), .val (.ref b32), .val (.ref b35), .unset, .unset] [(.ref b39)])) _
      refine XS.astore X44.here hx rfl (hb hby at_90) rfl rfl (l' := #[.val (.long q0), .second, .val (.long q1), .second, .val (.int p2), .val (.long q3), .second, .val (.long q4), .second, .val (.int p5), .val (.ref b29), .val (.ref b30), .val (.ref b32), .val (.ref b35), .val (.ref b39), .unset]) rfl ?_
      show Steps p.tables e below (T44.setTop (mkF m 92 #[.val (.long q0), .second, .val (.long q1), .second, .val (.int p2), .val (.long q3), .second, .val (.long q4), .second, .val (.int p5), .val (.ref b29), .val (.ref b30), .val (.ref b32), .val (.ref b35), .val (.ref b39), .unset] [])) _
      refine XS.aload X44.here hx rfl (hb hby at_92) rfl rfl ?_
      show Steps p.tables e below (T44.setTop (mkF m 94 #[.val (.long q0), .second, .val (.long q1), .second, .val (.int p2), .val (.long q3), .second, .val (.long q4), .second, .val (.int p5), .val (.ref b29), .val (.ref b30), .val (.ref b32), .val (.ref b35), .val (.ref b39), .unset] [(.ref b39)])) _
      refine XS.aload X44.here hx rfl (hb hby at_94) rfl rfl ?_
      show Steps p.tables e below (T44.setTop (mkF m 96 #[.val (.long q0), .second, .val (.long q1), .second, .val (.int p2), .val (.long q3), .second, .val (.long q4), .second, .val (.int p5), .val (.ref b29), .val (.ref b30), .val (.ref b32), .val (.ref b35), .val (.ref b39), .unset] [(.ref b30), (.ref b39)])) _
      refine XS.aload X44.here hx rfl (hb hby at_96) rfl rfl ?_
      show Steps p.tables e below (T44.setTop (mkF m 98 #[.val (.long q0), .second, .val (.long q1), .second, .val (.int p2), .val (.long q3), .second, .val (.long q4), .second, .val (.int p5), .val (.ref b29), .val (.ref b30), .val (.ref b32), .val (.ref b35), .val (.ref b39), .unset] [(.ref b32), (.ref b30), (.ref b39)])) _
      refine XS.lload X44.here hx rfl (hb hby at_98) rfl ?_
      show Steps p.tables e below (T44.setTop (mkF m 100 #[.val (.long q0), .second, .val (.long q1), .second, .val (.int p2), .val (.long q3), .second, .val (.long q4), .second, .val (.int p5), .val (.ref b29), .val (.ref b30), .val (.ref b32), .val (.ref b35), .val (.ref b39), .unset] [(.long q3), (.ref b32), (.ref b30), (.ref b39)])) _
      refine XS.lload X44.here hx rfl (hb hby at_100) rfl ?_
      show Steps p.tables e below (T44.setTop (mkF m 102 #[.val (.long q0), .second, .val (.long q1), .second, .val (.int p2), .val (.long q3), .second, .val (.long q4), .second, .val (.int p5), .val (.ref b29), .val (.ref b30), .val (.ref b32), .val (.ref b35), .val (.ref b39), .unset] [(.long q4), (.long q3), (.ref b32), (.ref b30), (.ref b39)])) _
      refine XS.aload X44.here hx rfl (hb hby at_102) rfl rfl ?_
      show Steps p.tables e below (T44.setTop (mkF m 104 #[.val (.long q0), .second, .val (.long q1), .second, .val (.int p2), .val (.long q3), .second, .val (.long q4), .second, .val (.int p5), .val (.ref b29), .val (.ref b30), .val (.ref b32), .val (.ref b35), .val (.ref b39), .unset] [(.ref b35), (.long q4), (.long q3), (.ref b32), (.ref b30), (.ref b39)])) _
      refine st45.trans ?_
      show Steps p.tables e below (T45.setTop (mkF m 107 #[.val (.long q0), .second, .val (.long q1), .second, .val (.int p2), .val (.long q3), .second, .val (.long q4), .second, .val (.int p5), .val (.ref b29), .val (.ref b30), .val (.ref b32), .val (.ref b35), .val (.ref b39), .unset] [(.ref b45)])) _
      refine XS.astore X45.here hx rfl (hb hby at_107) rfl rfl (l' := #[.val (.long q0), .second, .val (.long q1), .second, .val (.int p2), .val (.long q3), .second, .val (.long q4), .second, .val (.int p5), .val (.ref b29), .val (.ref b30), .val (.ref b32), .val (.ref b35), .val (.ref b39), .val (.ref b45)]) rfl ?_
      show Steps p.tables e below (T45.setTop (mkF m 109 #[.val (.long q0), .second, .val (.long q1), .second, .val (.int p2), .val (.long q3), .second, .val (.long q4), .second, .val (.int p5), .val (.ref b29), .val (.ref b30), .val (.ref b32), .val (.ref b35), .val (.ref b39), .val (.ref b45)] [])) _
      refine XS.aload X45.here hx rfl (hb hby at_109) rfl rfl ?_
      show Steps p.tables e below (T45.setTop (mkF m 111 #[.val (.long q0), .second, .val (.long q1), .second, .val (.int p2), .val (.long q3), .second, .val (.long q4), .second, .val (.int p5), .val (.ref b29), .val (.ref b30), .val (.ref b32), .val (.ref b35), .val (.ref b39), .val (.ref b45)] [(.ref b45)])) _
      refine XS.ifnonnullYes X45.here hx rfl (pc0 := 111) (pc' := 116) rfl (hb hby at_111) rfl (by decide) (by decide) ?_
      show Steps p.tables e below (T45.setTop (mkF m 116 #[.val (.long q0), .second, .val (.long q1), .second, .val (.int p2), .val (.long q3), .second, .val (.long q4), .second, .val (.int p5), .val (.ref b29), .val (.ref b30), .val (.ref b32), .val (.ref b35), .val (.ref b39), .val (.ref b45)] [])) _
      refine XS.aload X45.here hx rfl (hb hby at_116) rfl rfl ?_
      show Steps p.tables e below (T45.setTop (mkF m 118 #[.val (.long q0), .second, .val (.long q1), .second, .val (.int p2), .val (.long q3), .second, .val (.long q4), .second, .val (.int p5), .val (.ref b29), .val (.ref b30), .val (.ref b32), .val (.ref b35), .val (.ref b39), .val (.ref b45)] [(.ref b45)])) _
      refine st51.trans ?_
      show Steps p.tables e below (T51.setTop (mkF m 121 #[.val (.long q0), .second, .val (.long q1), .second, .val (.int p2), .val (.long q3), .second, .val (.long q4), .second, .val (.int p5), .val (.ref b29), .val (.ref b30), .val (.ref b32), .val (.ref b35), .val (.ref b39), .val (.ref b45)] [(.long q0)])) _
      refine XS.lloadN X51.here hx rfl (hb hby at_121) rfl ?_
      show Steps p.tables e below (T51.setTop (mkF m 122 #[.val (.long q0), .second, .val (.long q1), .second, .val (.int p2), .val (.long q3), .second, .val (.long q4), .second, .val (.int p5), .val (.ref b29), .val (.ref b30), .val (.ref b32), .val (.ref b35), .val (.ref b39), .val (.ref b45)] [(.long q0), (.long q0)])) _
      refine XS.lcmp X51.here hx rfl (hb hby at_122) rfl ?_
      show Steps p.tables e below (T51.setTop (mkF m 123 #[.val (.long q0), .second, .val (.long q1), .second, .val (.int p2), .val (.long q3), .second, .val (.long q4), .second, .val (.int p5), .val (.ref b29), .val (.ref b30), .val (.ref b32), .val (.ref b35), .val (.ref b39), .val (.ref b45)] [(.int (lcmpW q0 q0))])) _
      refine XS.ifNo X51.here hx rfl (hb hby at_123) rfl ((if0 _ _).trans (teq ((lw_eq q0 q0).mpr rfl)).2) ?_
      show Steps p.tables e below (T51.setTop (mkF m 126 #[.val (.long q0), .second, .val (.long q1), .second, .val (.int p2), .val (.long q3), .second, .val (.long q4), .second, .val (.int p5), .val (.ref b29), .val (.ref b30), .val (.ref b32), .val (.ref b35), .val (.ref b39), .val (.ref b45)] [])) _
      refine XS.aload X51.here hx rfl (hb hby at_126) rfl rfl ?_
      show Steps p.tables e below (T51.setTop (mkF m 128 #[.val (.long q0), .second, .val (.long q1), .second, .val (.int p2), .val (.long q3), .second, .val (.long q4), .second, .val (.int p5), .val (.ref b29), .val (.ref b30), .val (.ref b32), .val (.ref b35), .val (.ref b39), .val (.ref b45)] [(.ref b45)])) _
      refine st52.trans ?_
      show Steps p.tables e below (T52.setTop (mkF m 131 #[.val (.long q0), .second, .val (.long q1), .second, .val (.int p2), .val (.long q3), .second, .val (.long q4), .second, .val (.int p5), .val (.ref b29), .val (.ref b30), .val (.ref b32), .val (.ref b35), .val (.ref b39), .val (.ref b45)] [(.long q1)])) _
      refine XS.lloadN X52.here hx rfl (hb hby at_131) rfl ?_
      show Steps p.tables e below (T52.setTop (mkF m 132 #[.val (.long q0), .second, .val (.long q1), .second, .val (.int p2), .val (.long q3), .second, .val (.long q4), .second, .val (.int p5), .val (.ref b29), .val (.ref b30), .val (.ref b32), .val (.ref b35), .val (.ref b39), .val (.ref b45)] [(.long q1), (.long q1)])) _
      refine XS.lcmp X52.here hx rfl (hb hby at_132) rfl ?_
      show Steps p.tables e below (T52.setTop (mkF m 133 #[.val (.long q0), .second, .val (.long q1), .second, .val (.int p2), .val (.long q3), .second, .val (.long q4), .second, .val (.int p5), .val (.ref b29), .val (.ref b30), .val (.ref b32), .val (.ref b35), .val (.ref b39), .val (.ref b45)] [(.int (lcmpW q1 q1))])) _
      refine XS.ifNo X52.here hx rfl (hb hby at_133) rfl ((if0 _ _).trans (teq ((lw_eq q1 q1).mpr rfl)).2) ?_
      show Steps p.tables e below (T52.setTop (mkF m 136 #[.val (.long q0), .second, .val (.long q1), .second, .val (.int p2), .val (.long q3), .second, .val (.long q4), .second, .val (.int p5), .val (.ref b29), .val (.ref b30), .val (.ref b32), .val (.ref b35), .val (.ref b39), .val (.ref b45)] [])) _
      refine XS.aload X52.here hx rfl (hb hby at_136) rfl rfl ?_
      show Steps p.tables e below (T52.setTop (mkF m 138 #[.val (.long q0), .second, .val (.long q1), .second, .val (.int p2), .val (.long q3), .second, .val (.long q4), .second, .val (.int p5), .val (.ref b29), .val (.ref b30), .val (.ref b32), .val (.ref b35), .val (.ref b39), .val (.ref b45)] [(.ref b45)])) _
      refine st53.trans ?_
      show Steps p.tables e below (T53.setTop (mkF m 141 #[.val (.long q0), .second, .val (.long q1), .second, .val (.int p2), .val (.long q3), .second, .val (.long q4), .second, .val (.int p5), .val (.ref b29), .val (.ref b30), .val (.ref b32), .val (.ref b35), .val (.ref b39), .val (.ref b45)] [(.int p2)])) _
      refine XS.iload X53.here hx rfl (hb hby at_141) rfl ?_
      show Steps p.tables e below (T53.setTop (mkF m 143 #[.val (.long q0), .second, .val (.long q1), .second, .val (.int p2), .val (.long q3), .second, .val (.long q4), .second, .val (.int p5), .val (.ref b29), .val (.ref b30), .val (.ref b32), .val (.ref b35), .val (.ref b39), .val (.ref b45)] [(.int p2), (.int p2)])) _
      refine XS.icmpNo X53.here hx rfl (hb hby at_143) rfl (teq (rfl : p2 = p2)).2 ?_
      show Steps p.tables e below (T53.setTop (mkF m 146 #[.val (.long q0), .second, .val (.long q1), .second, .val (.int p2), .val (.long q3), .second, .val (.long q4), .second, .val (.int p5), .val (.ref b29), .val (.ref b30), .val (.ref b32), .val (.ref b35), .val (.ref b39), .val (.ref b45)] [])) _
      refine XS.aload X53.here hx rfl (hb hby at_146) rfl rfl ?_
      show Steps p.tables e below (T53.setTop (mkF m 148 #[.val (.long q0), .second, .val (.long q1), .second, .val (.int p2), .val (.long q3), .second, .val (.long q4), .second, .val (.int p5), .val (.ref b29), .val (.ref b30), .val (.ref b32), .val (.ref b35), .val (.ref b39), .val (.ref b45)] [(.ref b30)])) _
      refine XS.aload X53.here hx rfl (hb hby at_148) rfl rfl ?_
      show Steps p.tables e below (T53.setTop (mkF m 150 #[.val (.long q0), .second, .val (.long q1), .second, .val (.int p2), .val (.long q3), .second, .val (.long q4), .second, .val (.int p5), .val (.ref b29), .val (.ref b30), .val (.ref b32), .val (.ref b35), .val (.ref b39), .val (.ref b45)] [(.ref b45), (.ref b30)])) _
      refine st54.trans ?_
      show Steps p.tables e below (T54.setTop (mkF m 153 #[.val (.long q0), .second, .val (.long q1), .second, .val (.int p2), .val (.long q3), .second, .val (.long q4), .second, .val (.int p5), .val (.ref b29), .val (.ref b30), .val (.ref b32), .val (.ref b35), .val (.ref b39), .val (.ref b45)] [(.ref b30), (.ref b30)])) _
      refine st55.trans ?_
      show Steps p.tables e below (T55.setTop (mkF m 156 #[.val (.long q0), .second, .val (.long q1), .second, .val (.int p2), .val (.long q3), .second, .val (.long q4), .second, .val (.int p5), .val (.ref b29), .val (.ref b30), .val (.ref b32), .val (.ref b35), .val (.ref b39), .val (.ref b45)] [(.int (F13 b30))])) _
      refine XS.ifNo X55.here hx rfl (hb hby at_156) rfl ((if0 _ _).trans (feq hc156).1) ?_
      show Steps p.tables e below (T55.setTop (mkF m 159 #[.val (.long q0), .second, .val (.long q1), .second, .val (.int p2), .val (.long q3), .second, .val (.long q4), .second, .val (.int p5), .val (.ref b29), .val (.ref b30), .val (.ref b32), .val (.ref b35), .val (.ref b39), .val (.ref b45)] [])) _
      refine XS.aload X55.here hx rfl (hb hby at_159) rfl rfl ?_
      show Steps p.tables e below (T55.setTop (mkF m 161 #[.val (.long q0), .second, .val (.long q1), .second, .val (.int p2), .val (.long q3), .second, .val (.long q4), .second, .val (.int p5), .val (.ref b29), .val (.ref b30), .val (.ref b32), .val (.ref b35), .val (.ref b39), .val (.ref b45)] [(.ref b32)])) _
      refine XS.aload X55.here hx rfl (hb hby at_161) rfl rfl ?_
      show Steps p.tables e below (T55.setTop (mkF m 163 #[.val (.long q0), .second, .val (.long q1), .second, .val (.int p2), .val (.long q3), .second, .val (.long q4), .second, .val (.int p5), .val (.ref b29), .val (.ref b30), .val (.ref b32), .val (.ref b35), .val (.ref b39), .val (.ref b45)] [(.ref b45), (.ref b32)])) _
      refine st56.trans ?_
      show Steps p.tables e below (T56.setTop (mkF m 166 #[.val (.long q0), .second, .val (.long q1), .second, .val (.int p2), .val (.long q3), .second, .val (.long q4), .second, .val (.int p5), .val (.ref b29), .val (.ref b30), .val (.ref b32), .val (.ref b35), .val (.ref b39), .val (.ref b45)] [(.ref b32), (.ref b32)])) _
      refine st57.trans ?_
      show Steps p.tables e below (T57.setTop (mkF m 169 #[.val (.long q0), .second, .val (.long q1), .second, .val (.int p2), .val (.long q3), .second, .val (.long q4), .second, .val (.int p5), .val (.ref b29), .val (.ref b30), .val (.ref b32), .val (.ref b35), .val (.ref b39), .val (.ref b45)] [(.int (F13 b32))])) _
      refine XS.ifNo X57.here hx rfl (hb hby at_169) rfl ((if0 _ _).trans (feq hc169).1) ?_
      show Steps p.tables e below (T57.setTop (mkF m 172 #[.val (.long q0), .second, .val (.long q1), .second, .val (.int p2), .val (.long q3), .second, .val (.long q4), .second, .val (.int p5), .val (.ref b29), .val (.ref b30), .val (.ref b32), .val (.ref b35), .val (.ref b39), .val (.ref b45)] [])) _
      refine XS.aload X57.here hx rfl (hb hby at_172) rfl rfl ?_
      show Steps p.tables e below (T57.setTop (mkF m 174 #[.val (.long q0), .second, .val (.long q1), .second, .val (.int p2), .val (.long q3), .second, .val (.long q4), .second, .val (.int p5), .val (.ref b29), .val (.ref b30), .val (.ref b32), .val (.ref b35), .val (.ref b39), .val (.ref b45)] [(.ref b45)])) _
      refine st58.trans ?_
      show Steps p.tables e below (T58.setTop (mkF m 177 #[.val (.long q0), .second, .val (.long q1), .second, .val (.int p2), .val (.long q3), .second, .val (.long q4), .second, .val (.int p5), .val (.ref b29), .val (.ref b30), .val (.ref b32), .val (.ref b35), .val (.ref b39), .val (.ref b45)] [(.long q3)])) _
      refine XS.lload X58.here hx rfl (hb hby at_177) rfl ?_
      show Steps p.tables e below (T58.setTop (mkF m 179 #[.val (.long q0), .second, .val (.long q1), .second, .val (.int p2), .val (.long q3), .second, .val (.long q4), .second, .val (.int p5), .val (.ref b29), .val (.ref b30), .val (.ref b32), .val (.ref b35), .val (.ref b39), .val (.ref b45)] [(.long q3), (.long q3)])) _
      refine XS.lcmp X58.here hx rfl (hb hby at_179) rfl ?_
      show Steps p.tables e below (T58.setTop (mkF m 180 #[.val (.long q0), .second, .val (.long q1), .second, .val (.int p2), .val (.long q3), .second, .val (.long q4), .second, .val (.int p5), .val (.ref b29), .val (.ref b30), .val (.ref b32), .val (.ref b35), .val (.ref b39), .val (.ref b45)] [(.int (lcmpW q3 q3))])) _
      refine XS.ifNo X58.here hx rfl (hb hby at_180) rfl ((if0 _ _).trans (teq ((lw_eq q3 q3).mpr rfl)).2) ?_
      show Steps p.tables e below (T58.setTop (mkF m 183 #[.val (.long q0), .second, .val (.long q1), .second, .val (.int p2), .val (.long q3), .second, .val (.long q4), .second, .val (.int p5), .val (.ref b29), .val (.ref b30), .val (.ref b32), .val (.ref b35), .val (.ref b39), .val (.ref b45)] [])) _
      refine XS.aload X58.here hx rfl (hb hby at_183) rfl rfl ?_
      show Steps p.tables e below (T58.setTop (mkF m 185 #[.val (.long q0), .second, .val (.long q1), .second, .val (.int p2), .val (.long q3), .second, .val (.long q4), .second, .val (.int p5), .val (.ref b29), .val (.ref b30), .val (.ref b32), .val (.ref b35), .val (.ref b39), .val (.ref b45)] [(.ref b45)])) _
      refine st59.trans ?_
      show Steps p.tables e below (T59.setTop (mkF m 188 #[.val (.long q0), .second, .val (.long q1), .second, .val (.int p2), .val (.long q3), .second, .val (.long q4), .second, .val (.int p5), .val (.ref b29), .val (.ref b30), .val (.ref b32), .val (.ref b35), .val (.ref b39), .val (.ref b45)] [(.long q4)])) _
      refine XS.lload X59.here hx rfl (hb hby at_188) rfl ?_
      show Steps p.tables e below (T59.setTop (mkF m 190 #[.val (.long q0), .second, .val (.long q1), .second, .val (.int p2), .val (.long q3), .second, .val (.long q4), .second, .val (.int p5), .val (.ref b29), .val (.ref b30), .val (.ref b32), .val (.ref b35), .val (.ref b39), .val (.ref b45)] [(.long q4), (.long q4)])) _
      refine XS.lcmp X59.here hx rfl (hb hby at_190) rfl ?_
      show Steps p.tables e below (T59.setTop (mkF m 191 #[.val (.long q0), .second, .val (.long q1), .second, .val (.int p2), .val (.long q3), .second, .val (.long q4), .second, .val (.int p5), .val (.ref b29), .val (.ref b30), .val (.ref b32), .val (.ref b35), .val (.ref b39), .val (.ref b45)] [(.int (lcmpW q4 q4))])) _
      refine XS.ifNo X59.here hx rfl (hb hby at_191) rfl ((if0 _ _).trans (teq ((lw_eq q4 q4).mpr rfl)).2) ?_
      show Steps p.tables e below (T59.setTop (mkF m 194 #[.val (.long q0), .second, .val (.long q1), .second, .val (.int p2), .val (.long q3), .second, .val (.long q4), .second, .val (.int p5), .val (.ref b29), .val (.ref b30), .val (.ref b32), .val (.ref b35), .val (.ref b39), .val (.ref b45)] [])) _
      refine XS.aload X59.here hx rfl (hb hby at_194) rfl rfl ?_
      show Steps p.tables e below (T59.setTop (mkF m 196 #[.val (.long q0), .second, .val (.long q1), .second, .val (.int p2), .val (.long q3), .second, .val (.long q4), .second, .val (.int p5), .val (.ref b29), .val (.ref b30), .val (.ref b32), .val (.ref b35), .val (.ref b39), .val (.ref b45)] [(.ref b35)])) _
      refine XS.aload X59.here hx rfl (hb hby at_196) rfl rfl ?_
      show Steps p.tables e below (T59.setTop (mkF m 198 #[.val (.long q0), .second, .val (.long q1), .second, .val (.int p2), .val (.long q3), .second, .val (.long q4), .second, .val (.int p5), .val (.ref b29), .val (.ref b30), .val (.ref b32), .val (.ref b35), .val (.ref b39), .val (.ref b45)] [(.ref b45), (.ref b35)])) _
      refine st60.trans ?_
      show Steps p.tables e below (T60.setTop (mkF m 201 #[.val (.long q0), .second, .val (.long q1), .second, .val (.int p2), .val (.long q3), .second, .val (.long q4), .second, .val (.int p5), .val (.ref b29), .val (.ref b30), .val (.ref b32), .val (.ref b35), .val (.ref b39), .val (.ref b45)] [(.ref b35), (.ref b35)])) _
      refine st61.trans ?_
      show Steps p.tables e below (T61.setTop (mkF m 204 #[.val (.long q0), .second, .val (.long q1), .second, .val (.int p2), .val (.long q3), .second, .val (.long q4), .second, .val (.int p5), .val (.ref b29), .val (.ref b30), .val (.ref b32), .val (.ref b35), .val (.ref b39), .val (.ref b45)] [(.int (F13 b35))])) _
      refine XS.ifNo X61.here hx rfl (hb hby at_204) rfl ((if0 _ _).trans (feq hc204).1) ?_
      show Steps p.tables e below (T61.setTop (mkF m 207 #[.val (.long q0), .second, .val (.long q1), .second, .val (.int p2), .val (.long q3), .second, .val (.long q4), .second, .val (.int p5), .val (.ref b29), .val (.ref b30), .val (.ref b32), .val (.ref b35), .val (.ref b39), .val (.ref b45)] [])) _
      refine XS.iconst X61.here hx rfl (hb hby at_207) ?_
      show Steps p.tables e below (T61.setTop (mkF m 208 #[.val (.long q0), .second, .val (.long q1), .second, .val (.int p2), .val (.long q3), .second, .val (.long q4), .second, .val (.int p5), .val (.ref b29), .val (.ref b30), .val (.ref b32), .val (.ref b35), .val (.ref b39), .val (.ref b45)] [(.int (1 : Int32))])) _
      refine XS.goto X61.here hx rfl (pc0 := 208) (pc' := 212) rfl (hb hby at_208) (by decide) (by decide) ?_
      show Steps p.tables e below (T61.setTop (mkF m 212 #[.val (.long q0), .second, .val (.long q1), .second, .val (.int p2), .val (.long q3), .second, .val (.long q4), .second, .val (.int p5), .val (.ref b29), .val (.ref b30), .val (.ref b32), .val (.ref b35), .val (.ref b39), .val (.ref b45)] [(.int (1 : Int32))])) _
      exact retN X61 hx (t := .boolean) Bd.returns (by simp) (hb hby at_212) hr
    · show Q0 Z q0 q1 p2 q3 q4 p5 wc h0 n0 _ T61.heap _
      rw [e61]
      exact ⟨(by unfold F0; simp only [if_neg hc2]), N61⟩
theorem own_law (q0 q1 : Int64) (p2 : Int32) (q3 q4 : Int64) (p5 wc : Int32) : F0 q0 q1 p2 q3 q4 p5 wc = 1 := by
  unfold F0; split <;> rfl
set_option maxRecDepth 65536 in
set_option maxHeartbeats 40000000 in
theorem comes_1 {Post : Tables → Env → Array Value → State → Outcome → State → Prop} (hpost : ∀ tb e args s v u, (limb_1_1.after args s (.returned v) u = true ∧ limb_1_2.after args s (.returned v) u = true ∧ True) → FrameEnd s (.returned v) u (Jvm.fieldLocs frame_1_writes args s ++ Jvm.arrayLocs frame_1_arrays args s ++ Jvm.staticLocs frame_1_statics s) 32 192 → Post tb e args s (.returned v) u) :
    ArmFor flags0 classFile x code maxLocals ret World_1 tables_1 room_1 Calls_1 rest_1 Pre_1 Post := by
  intro l hfl _ _ p e ha hc hk s m args below hf hA hF happ hP
  obtain ⟨hcalls, hrest, hpre⟩ := hP
  obtain ⟨-, -, -, hnamed, -, -, -, hat⟩ := (Spec.applies_iff hf).mp happ
  obtain ⟨hg, hn⟩ := and_e (Cond.before_iff.mp (show (Jvm.Cond.and given_1 narrow_1).before args s = true from hpre))
  obtain ⟨g1, g2⟩ := and_e hg
  obtain ⟨g3, g4⟩ := and_e g2
  obtain ⟨g5, g6⟩ := and_e g4
  obtain ⟨g7, g8⟩ := and_e g6
  obtain ⟨g9, g10⟩ := and_e g8
  obtain ⟨g11, g12⟩ := and_e g10
  obtain ⟨w0, w1, w2, w3, w4, w5, rfl⟩ : ∃ w0 w1 w2 w3 w4 w5 : Value, args = #[w0, w1, w2, w3, w4, w5] := by
    have hs : args.size = 6 := by simpa [Cond.value, given_1] using g1
    obtain ⟨L⟩ := args
    match L, hs with
    | [w0, w1, w2, w3, w4, w5], _ => exact ⟨w0, w1, w2, w3, w4, w5, rfl⟩
  have hw := fun d (hd : d ∈ tables_1) => atoms_spec (ws := Jvm.Cond.code x code maxLocals ret :: tables_1) hat d (List.mem_cons_of_mem _ hd)
  have hfit : Fit s := fun {y c} hc i hi => by
    obtain ⟨ha, rfl⟩ := Array.getElem?_eq_some_iff.mp hc
    have q := List.all_eq_true.mp ((Array.all_eq_true_iff_forall_mem.mp hF) _ (Array.getElem_mem ha)) i (List.mem_range.mpr hi)
    simpa [Array.getElem?_eq_getElem hi] using q
  obtain ⟨hsets, hown0⟩ := atoms_of _ (rest_1_c_eq ▸ (show rest_1_c.before _ s = true from hrest))
  have hr0 := Cond.before_iff.mp hown0
  obtain ⟨i0, ei0⟩ := isL_v g3
  obtain rfl : w0 = (.long i0) := Option.some.inj ei0
  obtain ⟨i1, ei1⟩ := isL_v g5
  obtain rfl : w1 = (.long i1) := Option.some.inj ei1
  obtain ⟨i2, ei2⟩ := is_v g7
  obtain rfl : w2 = (.int i2) := Option.some.inj ei2
  obtain ⟨i3, ei3⟩ := isL_v g9
  obtain rfl : w3 = (.long i3) := Option.some.inj ei3
  obtain ⟨i4, ei4⟩ := isL_v g11
  obtain rfl : w4 = (.long i4) := Option.some.inj ei4
  obtain ⟨i5, ei5⟩ := is_v g12
  obtain rfl : w5 = (.int i5) := Option.some.inj ei5
  have n3c := not_v (Cond.before_iff.mp (hsets _ (List.mem_of_getElem? (i := 2) rfl)))
  obtain ⟨wc, ewc⟩ := is_v (Cond.before_iff.mp (hsets _ (List.mem_of_getElem? (i := 1) rfl)))
  have S_wc : Sta s s.heap "java/lang/String" "COMPACT_STRINGS" "Z" (.int wc) := Sta.start ewc (Or.inl (hsets _ (List.mem_of_getElem? (i := 0) rfl)))
  have hwc : ¬ (wc = (0 : Int32)) := gotF (Cond.eq_ints ewc (Term.int_eval (0))) n3c
  obtain ⟨n, o, h1, h2, h3, _, L, rfl, ⟨rfl, N⟩, hq⟩ := rm0 l s _ hw tables_1 i0 i1 i2 i3 i4 i5 wc s.heap s.heap.size (Nat.le_refl _) S_wc hwc p e ha hc hk s m _ below hf ((Spec.applies_iff_loose hf).mp happ).1 ⟨rfl, State.Warmed39.refl s, rfl⟩ trivial
  refine ⟨n, _, h1, h2, h3, hpost _ _ _ _ _ _ ⟨Cond.after_iff.mpr rfl, Cond.after_iff.mpr (eq_i res_at (Term.int_eval (1)) (congrArg Value.int (own_law i0 i1 i2 i3 i4 i5 wc))), trivial⟩ ⟨hq.1, hq.2.1, (hq.2.2.sift fun y hy => Or.inr (N y hy)).mono (by decide) (by decide)⟩⟩
theorem main_1_1 : Claimed_1_1 := comes_1 fun _ _ _ _ _ _ h hF => ⟨h.1, hF⟩
theorem main_1_2 : Claimed_1_2 := comes_1 fun _ _ _ _ _ _ h hF => ⟨h.2.1, hF⟩
end Jvm.Pilot.@@N@@
namespace Jvm.Pilot.@@N@@
open Jvm Jvm.ClassFile Sem Op Lib Jvm.Free Jvm.Stand Jvm.Pilot.@@N@@.Jvm.D
/-! MADE BY PROGRAM (witnessworld.py) out of the Statement's table words and the real class files: 18 classes; the members and pool entries that the words name. The judged class is class 1, her method 1. -/
namespace start1
open Jvm.ClassFile
def u (s : String) : CpInfo := .utf8 (stringToUtf16 s)
/-- a pool by its gaps: so many unusable entries, then the entry; so many at the end -/
def gap : Nat → List CpInfo → List CpInfo
  | 0, r => r
  | n + 1, r => .unusable :: gap n r
def poolList (es : List (Nat × CpInfo)) (last : Nat) : List CpInfo := es.foldr (fun e r => gap e.1 (e.2 :: r)) (gap last [])
def pool (es : List (Nat × CpInfo)) (last : Nat) : Array CpInfo := ⟨poolList es last⟩
def fileOf (pool : Array CpInfo) (this : Nat) (attrs : Array Attribute := #[]) (ms : Array MethodInfo := #[]) (fl : Nat := 33) (sup : Nat := 0) (ifs : Array Nat := #[]) (fds : Array FieldInfo := #[]) : ClassFile where
  minorVersion := 0
  majorVersion := 65
  constantPool := pool
  accessFlags := fl
  thisClass := this
  superClass := sup
  interfaces := ifs
  fields := fds
  methods := ms
  attributes := attrs
def plain (name : String) (sup : Option ClassId) : Class where
  name := name
  kind := .ordinary
  loader := none
  accessFlags := 33
  super := sup
  interfaces := #[]
  cf := none
  fields := #[]
  methods := #[]
  instanceTypes := #[]
  staticTypes := #[]
  resolved := #[]
  callSites := []
  init := .initialized
  statics := none
  mirror := none

def pool0 : Array CpInfo := pool [(5, u "<init>"), (0, u "()V"), (1, .class_ 10), (1, u "java/lang/Object")] 113

def k0c0 : Code := { maxStack := 0, maxLocals := 1, code := object_method_1_code, exceptionTable := #[], attributes := #[] }
def k0m0 : Method := { name := "<init>", desc := "()V", sig := { parameters := [], returnType := none }, accessFlags := 1, code := some k0c0 }
/-- java/lang/Object -/
def k0 : Class := { plain "java/lang/Object" none with
  accessFlags := 33
  interfaces := #[]
  cf := some (fileOf pool0 8 #[] #[{ accessFlags := 1, nameIndex := 5, descriptorIndex := 6, attributes := #[] }] 33 0 #[] #[])
  fields := #[]
  methods := #[k0m0]
  instanceTypes := #[]
  staticTypes := #[]
  resolved := Array.replicate 124 none
  statics := none }

def pool1 : Array CpInfo := pool [(2, .class_ 4), (1, u "java/lang/Object"), (0, u "<init>"), (0, u "()V"), (0, .methodref 8 9), (0, .class_ 10), (0, .nameAndType 11 12), (0, u "java/lang/String"), (0, u "valueOf"), (0, u "(C)Ljava/lang/String;"), (0, .class_ 14), (0, u "com/example/recourse/recourse/store/StoredDeadLetter"), (0, .methodref 13 16), (0, .nameAndType 5 17), (0, u "(JJILjava/lang/String;Ljava/lang/String;JJLjava/lang/String;)V"), (0, .methodref 13 19), (0, .nameAndType 20 21), (0, u "withOrigin"), (0, u "(Ljava/lang/String;Ljava/lang/String;JJLjava/lang/String;)Lcom/example/recourse/recourse/store/StoredDeadLetter;"), (0, .methodref 13 23), (0, .nameAndType 24 25), (0, u "sequence"), (0, u "()J"), (0, .methodref 13 27), (0, .nameAndType 28 25), (0, u "originSequence"), (0, .methodref 13 30), (0, .nameAndType 31 32), (0, u "reconsumeTimes"), (0, u "()I"), (0, .methodref 13 34), (0, .nameAndType 35 36), (0, u "topic"), (0, u "()Ljava/lang/String;"), (0, .methodref 8 38), (0, .nameAndType 39 40), (0, u "equals"), (0, u "(Ljava/lang/Object;)Z"), (0, .methodref 13 42), (0, .nameAndType 43 36), (0, u "group"), (0, .methodref 13 45), (0, .nameAndType 46 25), (0, u "failedSequence"), (0, .methodref 13 48), (0, .nameAndType 49 25), (0, u "deadLetteredAtMillis"), (0, .methodref 13 51), (0, .nameAndType 52 36), (0, u "deadLetterTopic"), (0, .class_ 54), (0, u "com/example/recourse/recourse/store/StoredDeadLetterWithOriginPinLaw"), (2, u "law"), (0, u "(JJIJJI)Z")] 3

def k1m0 : Method := { name := "<init>", desc := "()V", sig := { parameters := [], returnType := none }, accessFlags := 1, code := none }
def k1c1 : Code := { maxStack := 15, maxLocals := 16, code := code, exceptionTable := #[], attributes := #[] }
def k1m1 : Method := { name := "law", desc := "(JJIJJI)Z", sig := { parameters := [.long, .long, .int, .long, .long, .int], returnType := some .boolean }, accessFlags := 9, code := some k1c1 }
/-- com/example/recourse/recourse/store/StoredDeadLetterWithOriginPinLaw -/
def k1 : Class := { plain "com/example/recourse/recourse/store/StoredDeadLetterWithOriginPinLaw" (some 0) with
  accessFlags := 49
  interfaces := #[]
  cf := some (fileOf pool1 53 #[] #[{ accessFlags := 1, nameIndex := 5, descriptorIndex := 6, attributes := #[] }, { accessFlags := 9, nameIndex := 57, descriptorIndex := 58, attributes := #[] }] 49 2 #[] #[])
  fields := #[]
  methods := #[k1m0, k1m1]
  instanceTypes := #[]
  staticTypes := #[]
  resolved := Array.replicate 62 none
  statics := none }

def pool2 : Array CpInfo := pool [(1, .class_ 2), (0, u "java/io/Serializable"), (0, .class_ 4), (0, u "java/lang/Object")] 2

/-- java/io/Serializable -/
def k2 : Class := { plain "java/io/Serializable" (some 0) with
  accessFlags := 1537
  interfaces := #[]
  cf := some (fileOf pool2 1 #[] #[] 1537 3 #[] #[])
  fields := #[]
  methods := #[]
  instanceTypes := #[]
  staticTypes := #[]
  resolved := Array.replicate 7 none
  statics := none }

def pool3 : Array CpInfo := pool [(1, .class_ 2), (0, u "java/lang/Comparable"), (0, .class_ 4), (0, u "java/lang/Object")] 7

/-- java/lang/Comparable -/
def k3 : Class := { plain "java/lang/Comparable" (some 0) with
  accessFlags := 1537
  interfaces := #[]
  cf := some (fileOf pool3 1 #[] #[] 1537 3 #[] #[])
  fields := #[]
  methods := #[]
  instanceTypes := #[]
  staticTypes := #[]
  resolved := Array.replicate 12 none
  statics := none }

def pool4 : Array CpInfo := pool [(2, .class_ 4), (1, u "java/lang/CharSequence"), (42, .class_ 48), (0, u "java/lang/CharSequence$1CodePointIterator"), (10, .class_ 60), (0, u "java/lang/CharSequence$1CharIterator"), (5, .class_ 67), (0, u "java/lang/Object")] 63

/-- java/lang/CharSequence -/
def k4 : Class := { plain "java/lang/CharSequence" (some 0) with
  accessFlags := 1537
  interfaces := #[]
  cf := some (fileOf pool4 2 #[.nestMembers #[47, 59]] #[] 1537 66 #[] #[])
  fields := #[]
  methods := #[]
  instanceTypes := #[]
  staticTypes := #[]
  resolved := Array.replicate 131 none
  statics := none }

def pool5 : Array CpInfo := pool [(1, .class_ 2), (0, u "java/lang/constant/Constable"), (0, .class_ 4), (0, u "java/lang/Object")] 6

/-- java/lang/constant/Constable -/
def k5 : Class := { plain "java/lang/constant/Constable" (some 0) with
  accessFlags := 1537
  interfaces := #[]
  cf := some (fileOf pool5 1 #[] #[] 1537 3 #[] #[])
  fields := #[]
  methods := #[]
  instanceTypes := #[]
  staticTypes := #[]
  resolved := Array.replicate 11 none
  statics := none }

def pool6 : Array CpInfo := pool [(1, .class_ 2), (0, u "java/lang/constant/ConstantDesc"), (0, .class_ 4), (0, u "java/lang/Object")] 32

/-- java/lang/constant/ConstantDesc -/
def k6 : Class := { plain "java/lang/constant/ConstantDesc" (some 0) with
  accessFlags := 1537
  interfaces := #[]
  cf := some (fileOf pool6 1 #[] #[] 1537 3 #[] #[])
  fields := #[]
  methods := #[]
  instanceTypes := #[]
  staticTypes := #[]
  resolved := Array.replicate 37 none
  statics := none }

def pool7 : Array CpInfo := pool [(1, .methodref 2 3), (0, .class_ 4), (0, .nameAndType 5 6), (0, u "java/lang/Object"), (0, u "<init>"), (0, u "()V"), (2, .fieldref 10 11), (0, .class_ 12), (0, .nameAndType 13 14), (0, u "java/lang/String"), (0, u "value"), (0, u "[B"), (0, .fieldref 10 16), (0, .nameAndType 17 18), (0, u "coder"), (0, u "B"), (2, u "hash"), (0, u "I"), (2, u "hashIsZero"), (0, u "Z"), (11, .fieldref 10 39), (0, .nameAndType 40 26), (0, u "COMPACT_STRINGS"), (12, u "toBytes"), (53, .class_ 109), (1, u "java/lang/StringLatin1"), (99, .methodref 10 210), (0, .nameAndType 5 211), (0, u "([BB)V"), (157, u "(C)Z"), (173, u "equals"), (29, u "(Ljava/lang/Object;)Z"), (1, .class_ 576), (0, u "java/lang/CharSequence"), (22, u "CASE_INSENSITIVE_ORDER"), (0, u "Ljava/util/Comparator;"), (181, u "valueOf"), (0, u "(C)Ljava/lang/String;"), (231, .methodref 107 1016), (0, .nameAndType 1017 369), (0, u "canEncode"), (0, .methodref 107 1019), (0, .nameAndType 53 1020), (0, u "(C)[B"), (80, u "serialPersistentFields"), (0, u "[Ljava/io/ObjectStreamField;"), (0, .class_ 1104), (0, u "java/lang/String$CaseInsensitiveComparator"), (1, .class_ 1107), (0, u "java/io/Serializable"), (0, .class_ 1109), (0, u "java/lang/Comparable"), (0, .class_ 1111), (0, u "java/lang/constant/Constable"), (0, .class_ 1113), (0, u "java/lang/constant/ConstantDesc"), (2, u "serialVersionUID"), (0, u "J"), (3, u "REPL"), (0, u "C"), (2, u "LATIN1"), (1, u "UTF16")] 323

def k7m0 : Method := { name := "<init>", desc := "()V", sig := { parameters := [], returnType := none }, accessFlags := 1, code := none }
def k7c1 : Code := { maxStack := 2, maxLocals := 3, code := jdk_42_method_66_code, exceptionTable := #[], attributes := #[] }
def k7m1 : Method := { name := "equals", desc := "(Ljava/lang/Object;)Z", sig := { parameters := [(.object "java/lang/Object")], returnType := some .boolean }, accessFlags := 1, code := some k7c1 }
def k7c2 : Code := { maxStack := 4, maxLocals := 1, code := jdk_42_method_139_code, exceptionTable := #[], attributes := #[] }
def k7m2 : Method := { name := "valueOf", desc := "(C)Ljava/lang/String;", sig := { parameters := [.char], returnType := some (.object "java/lang/String") }, accessFlags := 9, code := some k7c2 }
def k7c3 : Code := { maxStack := 2, maxLocals := 3, code := jdk_42_method_151_code, exceptionTable := #[], attributes := #[] }
def k7m3 : Method := { name := "<init>", desc := "([BB)V", sig := { parameters := [(.array .byte), .byte], returnType := none }, accessFlags := 0, code := some k7c3 }
/-- java/lang/String -/
def k7 : Class := { plain "java/lang/String" (some 0) with
  accessFlags := 49
  interfaces := #[2, 3, 4, 5, 6]
  cf := some (fileOf pool7 10 #[.nestMembers #[1103]] #[{ accessFlags := 1, nameIndex := 5, descriptorIndex := 6, attributes := #[] }, { accessFlags := 1, nameIndex := 543, descriptorIndex := 573, attributes := #[] }, { accessFlags := 9, nameIndex := 782, descriptorIndex := 783, attributes := #[] }, { accessFlags := 0, nameIndex := 5, descriptorIndex := 211, attributes := #[] }] 49 2 #[1106, 1108, 575, 1110, 1112] #[{ accessFlags := 18, nameIndex := 13, descriptorIndex := 14, attributes := #[] }, { accessFlags := 18, nameIndex := 17, descriptorIndex := 18, attributes := #[] }, { accessFlags := 2, nameIndex := 21, descriptorIndex := 22, attributes := #[] }, { accessFlags := 2, nameIndex := 25, descriptorIndex := 26, attributes := #[] }, { accessFlags := 26, nameIndex := 1116, descriptorIndex := 1117, attributes := #[] }, { accessFlags := 24, nameIndex := 40, descriptorIndex := 26, attributes := #[] }, { accessFlags := 26, nameIndex := 1101, descriptorIndex := 1102, attributes := #[] }, { accessFlags := 26, nameIndex := 1121, descriptorIndex := 1122, attributes := #[] }, { accessFlags := 25, nameIndex := 599, descriptorIndex := 600, attributes := #[] }, { accessFlags := 24, nameIndex := 1125, descriptorIndex := 18, attributes := #[] }, { accessFlags := 24, nameIndex := 1127, descriptorIndex := 18, attributes := #[] }])
  fields := #[{ name := "value", type := (.array .byte), accessFlags := 18, slot := 0, constantValue := 0 }, { name := "coder", type := .byte, accessFlags := 18, slot := 1, constantValue := 0 }, { name := "hash", type := .int, accessFlags := 2, slot := 2, constantValue := 0 }, { name := "hashIsZero", type := .boolean, accessFlags := 2, slot := 3, constantValue := 0 }, { name := "serialVersionUID", type := .long, accessFlags := 26, slot := 0, constantValue := 0 }, { name := "COMPACT_STRINGS", type := .boolean, accessFlags := 24, slot := 1, constantValue := 0 }, { name := "serialPersistentFields", type := (.array (.object "java/io/ObjectStreamField")), accessFlags := 26, slot := 2, constantValue := 0 }, { name := "REPL", type := .char, accessFlags := 26, slot := 3, constantValue := 0 }, { name := "CASE_INSENSITIVE_ORDER", type := (.object "java/util/Comparator"), accessFlags := 25, slot := 4, constantValue := 0 }, { name := "LATIN1", type := .byte, accessFlags := 24, slot := 5, constantValue := 0 }, { name := "UTF16", type := .byte, accessFlags := 24, slot := 6, constantValue := 0 }]
  methods := #[k7m0, k7m1, k7m2, k7m3]
  instanceTypes := #[(.array .byte), .byte, .int, .boolean]
  staticTypes := #[.long, .boolean, (.array (.object "java/io/ObjectStreamField")), .char, (.object "java/util/Comparator"), .byte, .byte]
  resolved := Array.replicate 1451 none
  statics := some 0 }

def pool8 : Array CpInfo := pool [(4, .class_ 6), (1, u "java/lang/Object"), (0, u "<init>"), (0, u "()V"), (5, .class_ 16), (1, u "java/lang/StringLatin1"), (73, u "canEncode"), (14, u "(C)Z"), (15, u "$assertionsDisabled"), (0, u "Z"), (98, .class_ 223), (1, u "java/lang/StringLatin1$LinesSpliterator"), (156, u "toBytes"), (1, u "(C)[B"), (7, .class_ 391), (0, u "java/lang/StringLatin1$CharsSpliterator")] 3

def k8m0 : Method := { name := "<init>", desc := "()V", sig := { parameters := [], returnType := none }, accessFlags := 0, code := none }
def k8c1 : Code := { maxStack := 2, maxLocals := 1, code := jdk_43_method_3_code, exceptionTable := #[], attributes := #[] }
def k8m1 : Method := { name := "canEncode", desc := "(C)Z", sig := { parameters := [.char], returnType := some .boolean }, accessFlags := 9, code := some k8c1 }
def k8c2 : Code := { maxStack := 4, maxLocals := 1, code := jdk_43_method_46_code, exceptionTable := #[], attributes := #[] }
def k8m2 : Method := { name := "toBytes", desc := "(C)[B", sig := { parameters := [.char], returnType := some (.array .byte) }, accessFlags := 9, code := some k8c2 }
/-- java/lang/StringLatin1 -/
def k8 : Class := { plain "java/lang/StringLatin1" (some 0) with
  accessFlags := 48
  interfaces := #[]
  cf := some (fileOf pool8 14 #[.nestMembers #[390, 221]] #[{ accessFlags := 0, nameIndex := 7, descriptorIndex := 8, attributes := #[] }, { accessFlags := 9, nameIndex := 90, descriptorIndex := 105, attributes := #[] }, { accessFlags := 9, nameIndex := 380, descriptorIndex := 382, attributes := #[] }] 48 4 #[] #[{ accessFlags := 4120, nameIndex := 121, descriptorIndex := 122, attributes := #[] }])
  fields := #[{ name := "$assertionsDisabled", type := .boolean, accessFlags := 4120, slot := 0, constantValue := 0 }]
  methods := #[k8m0, k8m1, k8m2]
  instanceTypes := #[]
  staticTypes := #[.boolean]
  resolved := Array.replicate 395 none
  statics := none }

def pool9 : Array CpInfo := pool [(1, .methodref 2 3), (0, .class_ 4), (0, .nameAndType 5 6), (0, u "java/lang/Object"), (0, u "<init>"), (0, u "()V"), (0, .class_ 8), (0, u "java/lang/Record")] 13

def k9c0 : Code := { maxStack := 1, maxLocals := 1, code := jdk_30_method_1_code, exceptionTable := #[], attributes := #[] }
def k9m0 : Method := { name := "<init>", desc := "()V", sig := { parameters := [], returnType := none }, accessFlags := 4, code := some k9c0 }
/-- java/lang/Record -/
def k9 : Class := { plain "java/lang/Record" (some 0) with
  accessFlags := 1057
  interfaces := #[]
  cf := some (fileOf pool9 7 #[] #[{ accessFlags := 4, nameIndex := 5, descriptorIndex := 6, attributes := #[] }] 1057 2 #[] #[])
  fields := #[]
  methods := #[k9m0]
  instanceTypes := #[]
  staticTypes := #[]
  resolved := Array.replicate 22 none
  statics := none }

def pool10 : Array CpInfo := pool [(5, .methodref 6 7), (0, .class_ 8), (0, .nameAndType 9 10), (0, u "java/lang/Record"), (0, u "<init>"), (0, u "()V"), (0, .fieldref 12 13), (0, .class_ 14), (0, .nameAndType 15 16), (0, u "com/example/recourse/recourse/store/StoredDeadLetter"), (0, u "sequence"), (0, u "J"), (0, .fieldref 12 18), (0, .nameAndType 19 16), (0, u "originSequence"), (0, .fieldref 12 21), (0, .nameAndType 22 23), (0, u "reconsumeTimes"), (0, u "I"), (0, .fieldref 12 25), (0, .nameAndType 26 27), (0, u "topic"), (0, u "Ljava/lang/String;"), (0, .fieldref 12 29), (0, .nameAndType 30 27), (0, u "group"), (0, .fieldref 12 32), (0, .nameAndType 33 16), (0, u "failedSequence"), (0, .fieldref 12 35), (0, .nameAndType 36 16), (0, u "deadLetteredAtMillis"), (0, .fieldref 12 38), (0, .nameAndType 39 27), (0, u "deadLetterTopic"), (0, .methodref 12 41), (0, .nameAndType 9 42), (0, u "(JJILjava/lang/String;Ljava/lang/String;JJLjava/lang/String;)V"), (39, u "()J"), (3, u "()I"), (28, u "ORIGINLESS_BYTES"), (5, u "withOrigin"), (0, u "(Ljava/lang/String;Ljava/lang/String;JJLjava/lang/String;)Lcom/example/recourse/recourse/store/StoredDeadLetter;"), (4, u "()Ljava/lang/String;")] 28

def k10c0 : Code := { maxStack := 3, maxLocals := 13, code := prog_40_method_1_code, exceptionTable := #[], attributes := #[] }
def k10m0 : Method := { name := "<init>", desc := "(JJILjava/lang/String;Ljava/lang/String;JJLjava/lang/String;)V", sig := { parameters := [.long, .long, .int, (.object "java/lang/String"), (.object "java/lang/String"), .long, .long, (.object "java/lang/String")], returnType := none }, accessFlags := 1, code := some k10c0 }
def k10c1 : Code := { maxStack := 14, maxLocals := 8, code := prog_40_method_2_code, exceptionTable := #[], attributes := #[] }
def k10m1 : Method := { name := "withOrigin", desc := "(Ljava/lang/String;Ljava/lang/String;JJLjava/lang/String;)Lcom/example/recourse/recourse/store/StoredDeadLetter;", sig := { parameters := [(.object "java/lang/String"), (.object "java/lang/String"), .long, .long, (.object "java/lang/String")], returnType := some (.object "com/example/recourse/recourse/store/StoredDeadLetter") }, accessFlags := 0, code := some k10c1 }
def k10c2 : Code := { maxStack := 2, maxLocals := 1, code := prog_40_method_9_code, exceptionTable := #[], attributes := #[] }
def k10m2 : Method := { name := "sequence", desc := "()J", sig := { parameters := [], returnType := some .long }, accessFlags := 1, code := some k10c2 }
def k10c3 : Code := { maxStack := 2, maxLocals := 1, code := prog_40_method_10_code, exceptionTable := #[], attributes := #[] }
def k10m3 : Method := { name := "originSequence", desc := "()J", sig := { parameters := [], returnType := some .long }, accessFlags := 1, code := some k10c3 }
def k10c4 : Code := { maxStack := 1, maxLocals := 1, code := prog_40_method_11_code, exceptionTable := #[], attributes := #[] }
def k10m4 : Method := { name := "reconsumeTimes", desc := "()I", sig := { parameters := [], returnType := some .int }, accessFlags := 1, code := some k10c4 }
def k10c5 : Code := { maxStack := 1, maxLocals := 1, code := prog_40_method_12_code, exceptionTable := #[], attributes := #[] }
def k10m5 : Method := { name := "topic", desc := "()Ljava/lang/String;", sig := { parameters := [], returnType := some (.object "java/lang/String") }, accessFlags := 1, code := some k10c5 }
def k10c6 : Code := { maxStack := 1, maxLocals := 1, code := prog_40_method_13_code, exceptionTable := #[], attributes := #[] }
def k10m6 : Method := { name := "group", desc := "()Ljava/lang/String;", sig := { parameters := [], returnType := some (.object "java/lang/String") }, accessFlags := 1, code := some k10c6 }
def k10c7 : Code := { maxStack := 2, maxLocals := 1, code := prog_40_method_14_code, exceptionTable := #[], attributes := #[] }
def k10m7 : Method := { name := "failedSequence", desc := "()J", sig := { parameters := [], returnType := some .long }, accessFlags := 1, code := some k10c7 }
def k10c8 : Code := { maxStack := 2, maxLocals := 1, code := prog_40_method_15_code, exceptionTable := #[], attributes := #[] }
def k10m8 : Method := { name := "deadLetteredAtMillis", desc := "()J", sig := { parameters := [], returnType := some .long }, accessFlags := 1, code := some k10c8 }
def k10c9 : Code := { maxStack := 1, maxLocals := 1, code := prog_40_method_16_code, exceptionTable := #[], attributes := #[] }
def k10m9 : Method := { name := "deadLetterTopic", desc := "()Ljava/lang/String;", sig := { parameters := [], returnType := some (.object "java/lang/String") }, accessFlags := 1, code := some k10c9 }
/-- com/example/recourse/recourse/store/StoredDeadLetter -/
def k10 : Class := { plain "com/example/recourse/recourse/store/StoredDeadLetter" (some 9) with
  accessFlags := 49
  interfaces := #[]
  cf := some (fileOf pool10 12 #[] #[{ accessFlags := 1, nameIndex := 9, descriptorIndex := 42, attributes := #[] }, { accessFlags := 0, nameIndex := 121, descriptorIndex := 122, attributes := #[] }, { accessFlags := 1, nameIndex := 15, descriptorIndex := 82, attributes := #[] }, { accessFlags := 1, nameIndex := 19, descriptorIndex := 82, attributes := #[] }, { accessFlags := 1, nameIndex := 22, descriptorIndex := 86, attributes := #[] }, { accessFlags := 1, nameIndex := 26, descriptorIndex := 127, attributes := #[] }, { accessFlags := 1, nameIndex := 30, descriptorIndex := 127, attributes := #[] }, { accessFlags := 1, nameIndex := 33, descriptorIndex := 82, attributes := #[] }, { accessFlags := 1, nameIndex := 36, descriptorIndex := 82, attributes := #[] }, { accessFlags := 1, nameIndex := 39, descriptorIndex := 127, attributes := #[] }] 49 6 #[] #[{ accessFlags := 18, nameIndex := 15, descriptorIndex := 16, attributes := #[] }, { accessFlags := 18, nameIndex := 19, descriptorIndex := 16, attributes := #[] }, { accessFlags := 18, nameIndex := 22, descriptorIndex := 23, attributes := #[] }, { accessFlags := 18, nameIndex := 26, descriptorIndex := 27, attributes := #[] }, { accessFlags := 18, nameIndex := 30, descriptorIndex := 27, attributes := #[] }, { accessFlags := 18, nameIndex := 33, descriptorIndex := 16, attributes := #[] }, { accessFlags := 18, nameIndex := 36, descriptorIndex := 16, attributes := #[] }, { accessFlags := 18, nameIndex := 39, descriptorIndex := 27, attributes := #[] }, { accessFlags := 26, nameIndex := 115, descriptorIndex := 23, attributes := #[] }])
  fields := #[{ name := "sequence", type := .long, accessFlags := 18, slot := 0, constantValue := 0 }, { name := "originSequence", type := .long, accessFlags := 18, slot := 1, constantValue := 0 }, { name := "reconsumeTimes", type := .int, accessFlags := 18, slot := 2, constantValue := 0 }, { name := "topic", type := (.object "java/lang/String"), accessFlags := 18, slot := 3, constantValue := 0 }, { name := "group", type := (.object "java/lang/String"), accessFlags := 18, slot := 4, constantValue := 0 }, { name := "failedSequence", type := .long, accessFlags := 18, slot := 5, constantValue := 0 }, { name := "deadLetteredAtMillis", type := .long, accessFlags := 18, slot := 6, constantValue := 0 }, { name := "deadLetterTopic", type := (.object "java/lang/String"), accessFlags := 18, slot := 7, constantValue := 0 }, { name := "ORIGINLESS_BYTES", type := .int, accessFlags := 26, slot := 0, constantValue := 0 }]
  methods := #[k10m0, k10m1, k10m2, k10m3, k10m4, k10m5, k10m6, k10m7, k10m8, k10m9]
  instanceTypes := #[.long, .long, .int, (.object "java/lang/String"), (.object "java/lang/String"), .long, .long, (.object "java/lang/String")]
  staticTypes := #[.int]
  resolved := Array.replicate 156 none
  statics := none }

def pool11 : Array CpInfo := pool [(2, .class_ 4), (1, u "java/lang/Object"), (0, u "<init>"), (0, u "()V"), (17, .class_ 26), (1, u "jdk/internal/util/Preconditions"), (28, .class_ 56), (0, u "jdk/internal/util/Preconditions$4"), (57, .class_ 115), (0, u "jdk/internal/util/Preconditions$1"), (7, u "SIOOBE_FORMATTER"), (0, u "Ljava/util/function/BiFunction;"), (0, .class_ 126), (0, u "jdk/internal/util/Preconditions$2"), (3, u "AIOOBE_FORMATTER"), (0, .class_ 132), (0, u "jdk/internal/util/Preconditions$3"), (3, u "IOOBE_FORMATTER")] 57

def k11m0 : Method := { name := "<init>", desc := "()V", sig := { parameters := [], returnType := none }, accessFlags := 1, code := none }
/-- jdk/internal/util/Preconditions -/
def k11 : Class := { plain "jdk/internal/util/Preconditions" (some 0) with
  accessFlags := 33
  interfaces := #[]
  cf := some (fileOf pool11 24 #[.nestMembers #[55, 131, 125, 114]] #[{ accessFlags := 1, nameIndex := 5, descriptorIndex := 6, attributes := #[] }] 33 2 #[] #[{ accessFlags := 25, nameIndex := 123, descriptorIndex := 124, attributes := #[] }, { accessFlags := 25, nameIndex := 130, descriptorIndex := 124, attributes := #[] }, { accessFlags := 25, nameIndex := 136, descriptorIndex := 124, attributes := #[] }])
  fields := #[{ name := "SIOOBE_FORMATTER", type := (.object "java/util/function/BiFunction"), accessFlags := 25, slot := 0, constantValue := 0 }, { name := "AIOOBE_FORMATTER", type := (.object "java/util/function/BiFunction"), accessFlags := 25, slot := 1, constantValue := 0 }, { name := "IOOBE_FORMATTER", type := (.object "java/util/function/BiFunction"), accessFlags := 25, slot := 2, constantValue := 0 }]
  methods := #[k11m0]
  instanceTypes := #[]
  staticTypes := #[(.object "java/util/function/BiFunction"), (.object "java/util/function/BiFunction"), (.object "java/util/function/BiFunction")]
  resolved := Array.replicate 194 none
  statics := some 1 }

def pool12 : Array CpInfo := pool [(9, u "<init>"), (6, .class_ 18), (1, u "java/lang/Object"), (0, u "()V"), (1, .class_ 23), (1, u "jdk/internal/util/ArraysSupport"), (0, u "LOG2_ARRAY_LONG_INDEX_SCALE"), (0, u "I"), (2, u "U"), (0, u "Ljdk/internal/misc/Unsafe;"), (8, u "BIG_ENDIAN"), (0, u "Z"), (8, u "LOG2_BYTE_BIT_SIZE"), (4, u "LOG2_ARRAY_INT_INDEX_SCALE"), (54, u "JLA"), (0, u "Ljdk/internal/access/JavaLangAccess;"), (11, u "LOG2_ARRAY_BOOLEAN_INDEX_SCALE"), (9, u "LOG2_ARRAY_BYTE_INDEX_SCALE"), (5, u "LOG2_ARRAY_CHAR_INDEX_SCALE"), (5, u "LOG2_ARRAY_SHORT_INDEX_SCALE"), (18, u "LOG2_ARRAY_FLOAT_INDEX_SCALE"), (24, u "LOG2_ARRAY_DOUBLE_INDEX_SCALE"), (89, u "T_BOOLEAN"), (2, u "T_CHAR"), (1, u "T_FLOAT"), (1, u "T_DOUBLE"), (1, u "T_BYTE"), (1, u "T_SHORT"), (1, u "T_INT"), (1, u "T_LONG"), (1, u "SOFT_MAX_ARRAY_LENGTH")] 83

def k12m0 : Method := { name := "<init>", desc := "()V", sig := { parameters := [], returnType := none }, accessFlags := 2, code := none }
/-- jdk/internal/util/ArraysSupport -/
def k12 : Class := { plain "jdk/internal/util/ArraysSupport" (some 0) with
  accessFlags := 33
  interfaces := #[]
  cf := some (fileOf pool12 21 #[] #[{ accessFlags := 2, nameIndex := 9, descriptorIndex := 19, attributes := #[] }] 33 16 #[] #[{ accessFlags := 24, nameIndex := 28, descriptorIndex := 29, attributes := #[] }, { accessFlags := 26, nameIndex := 38, descriptorIndex := 39, attributes := #[] }, { accessFlags := 25, nameIndex := 121, descriptorIndex := 25, attributes := #[] }, { accessFlags := 25, nameIndex := 131, descriptorIndex := 25, attributes := #[] }, { accessFlags := 25, nameIndex := 137, descriptorIndex := 25, attributes := #[] }, { accessFlags := 25, nameIndex := 143, descriptorIndex := 25, attributes := #[] }, { accessFlags := 25, nameIndex := 53, descriptorIndex := 25, attributes := #[] }, { accessFlags := 25, nameIndex := 24, descriptorIndex := 25, attributes := #[] }, { accessFlags := 25, nameIndex := 162, descriptorIndex := 25, attributes := #[] }, { accessFlags := 25, nameIndex := 187, descriptorIndex := 25, attributes := #[] }, { accessFlags := 26, nameIndex := 48, descriptorIndex := 25, attributes := #[] }, { accessFlags := 25, nameIndex := 277, descriptorIndex := 25, attributes := #[] }, { accessFlags := 25, nameIndex := 280, descriptorIndex := 25, attributes := #[] }, { accessFlags := 25, nameIndex := 282, descriptorIndex := 25, attributes := #[] }, { accessFlags := 25, nameIndex := 284, descriptorIndex := 25, attributes := #[] }, { accessFlags := 25, nameIndex := 286, descriptorIndex := 25, attributes := #[] }, { accessFlags := 25, nameIndex := 288, descriptorIndex := 25, attributes := #[] }, { accessFlags := 25, nameIndex := 290, descriptorIndex := 25, attributes := #[] }, { accessFlags := 25, nameIndex := 292, descriptorIndex := 25, attributes := #[] }, { accessFlags := 26, nameIndex := 108, descriptorIndex := 109, attributes := #[] }, { accessFlags := 25, nameIndex := 294, descriptorIndex := 25, attributes := #[] }])
  fields := #[{ name := "U", type := (.object "jdk/internal/misc/Unsafe"), accessFlags := 24, slot := 0, constantValue := 0 }, { name := "BIG_ENDIAN", type := .boolean, accessFlags := 26, slot := 1, constantValue := 0 }, { name := "LOG2_ARRAY_BOOLEAN_INDEX_SCALE", type := .int, accessFlags := 25, slot := 2, constantValue := 0 }, { name := "LOG2_ARRAY_BYTE_INDEX_SCALE", type := .int, accessFlags := 25, slot := 3, constantValue := 0 }, { name := "LOG2_ARRAY_CHAR_INDEX_SCALE", type := .int, accessFlags := 25, slot := 4, constantValue := 0 }, { name := "LOG2_ARRAY_SHORT_INDEX_SCALE", type := .int, accessFlags := 25, slot := 5, constantValue := 0 }, { name := "LOG2_ARRAY_INT_INDEX_SCALE", type := .int, accessFlags := 25, slot := 6, constantValue := 0 }, { name := "LOG2_ARRAY_LONG_INDEX_SCALE", type := .int, accessFlags := 25, slot := 7, constantValue := 0 }, { name := "LOG2_ARRAY_FLOAT_INDEX_SCALE", type := .int, accessFlags := 25, slot := 8, constantValue := 0 }, { name := "LOG2_ARRAY_DOUBLE_INDEX_SCALE", type := .int, accessFlags := 25, slot := 9, constantValue := 0 }, { name := "LOG2_BYTE_BIT_SIZE", type := .int, accessFlags := 26, slot := 10, constantValue := 0 }, { name := "T_BOOLEAN", type := .int, accessFlags := 25, slot := 11, constantValue := 0 }, { name := "T_CHAR", type := .int, accessFlags := 25, slot := 12, constantValue := 0 }, { name := "T_FLOAT", type := .int, accessFlags := 25, slot := 13, constantValue := 0 }, { name := "T_DOUBLE", type := .int, accessFlags := 25, slot := 14, constantValue := 0 }, { name := "T_BYTE", type := .int, accessFlags := 25, slot := 15, constantValue := 0 }, { name := "T_SHORT", type := .int, accessFlags := 25, slot := 16, constantValue := 0 }, { name := "T_INT", type := .int, accessFlags := 25, slot := 17, constantValue := 0 }, { name := "T_LONG", type := .int, accessFlags := 25, slot := 18, constantValue := 0 }, { name := "JLA", type := (.object "jdk/internal/access/JavaLangAccess"), accessFlags := 26, slot := 19, constantValue := 0 }, { name := "SOFT_MAX_ARRAY_LENGTH", type := .int, accessFlags := 25, slot := 20, constantValue := 0 }]
  methods := #[k12m0]
  instanceTypes := #[]
  staticTypes := #[(.object "jdk/internal/misc/Unsafe"), .boolean, .int, .int, .int, .int, .int, .int, .int, .int, .int, .int, .int, .int, .int, .int, .int, .int, .int, (.object "jdk/internal/access/JavaLangAccess"), .int]
  resolved := Array.replicate 378 none
  statics := none }

def pool13 : Array CpInfo := pool [(1, u "java/lang/Cloneable"), (0, .class_ 1), (0, u "java/lang/Object"), (0, .class_ 3)] 3

/-- java/lang/Cloneable -/
def k13 : Class := { plain "java/lang/Cloneable" (some 0) with
  accessFlags := 1537
  interfaces := #[]
  cf := some (fileOf pool13 2 #[] #[] 1537 4 #[] #[])
  fields := #[]
  methods := #[]
  instanceTypes := #[]
  staticTypes := #[]
  resolved := Array.replicate 8 none
  statics := none }

/-- the primitive byte -/
def k14 : Class := { plain "byte" none with kind := .primitive 'B', accessFlags := 0x411 }
/-- [B -/
def k15 : Class := { plain "[B" (some 0) with kind := .array 14 .byte, interfaces := #[13, 2], accessFlags := 1041 }

/-- the primitive int -/
def k16 : Class := { plain "int" none with kind := .primitive 'I', accessFlags := 0x411 }
/-- [I -/
def k17 : Class := { plain "[I" (some 0) with kind := .array 16 .int, interfaces := #[13, 2], accessFlags := 1041 }

def heap : Heap := #[{ cls := 7, slots := #[.long 0, .int 1, .null, .int 0, .null, .int 0, .int 0], vm := .statics 7 },
  { cls := 11, slots := #[.null, .null, .null], vm := .statics 11 }]
def classes : Array Class := #[k0, k1, k2, k3, k4, k5, k6, k7, k8, k9, k10, k11, k12, k13, k14, k15, k16, k17]
def interned : List (Array UInt16 × Addr) := []
def slotsUsed : Nat := 10
def theMethod : MethodId := ⟨1, 1⟩
def args0 : Array Value := #[.long 5, .long 6, .int 3, .long 7, .long 8, .int 9]
def aboutOver (below : List Frame) : State where
  vm := { classes := classes, interned := interned.toArray }
  heap := heap
  slotsUsed := slotsUsed
  threads := #[{ frames := .invoking theMethod args0 :: below }]
def below0 : List Frame := [.native { method := ⟨0, 0⟩, args := #[] }]
def about1 : State := aboutOver below0
def p0 : Program := .bare "" "" ""
def e0 : Env := launch0.env 0 0 0
theorem w_frames : about1.frames = Frame.invoking theMethod args0 :: below0 := rfl
set_option maxRecDepth 65536 in
theorem w_args : argsFit about1.vm theMethod args0 = true := by decide +kernel
set_option maxRecDepth 65536 in
theorem w_heap : heapFits about1 = true := by decide +kernel
set_option maxRecDepth 65536 in
theorem w_runnable : about1.curStatus? = some .runnable := by decide +kernel
set_option maxRecDepth 65536 in
theorem w_alone : about1.alone = true := by decide +kernel
set_option maxRecDepth 65536 in
theorem w_named : about1.methodNamed? x = some theMethod := by decide +kernel
set_option maxRecDepth 65536 in
theorem w_hears : about1.hears theMethod below0 = true := by decide +kernel
set_option maxRecDepth 65536 in
theorem w_ripe : about1.ripe theMethod args0 below0 = true := by decide +kernel
theorem w_running : about1.status = .running := rfl
set_option maxRecDepth 65536 in
theorem w_room : about1.hasRoom e0.platform room_1 = true :=
  launch0.hasRoom_least _ room_1 (by decide +kernel) (by decide +kernel) (by decide +kernel) (by decide +kernel) (by decide +kernel) (by decide +kernel)
theorem allAtoms_all (ts : List Jvm.Cond) (a : Array Jvm.Value) (st : Jvm.State) : (allAtoms ts).before a st = ts.all (fun c => c.before a st) := by
  induction ts with
  | nil => rfl
  | cons c t ih =>
    show (Jvm.Cond.and c (allAtoms t)).before a st = _
    rw [Jvm.Cond.before_and, ih, List.all_cons]
def words1 : List Jvm.Cond := Jvm.Cond.code x code maxLocals ret :: tables_1
/-- a 'code' word, met by the world's own term for the bytes: nothing is compared byte by byte -/
theorem code_word {y : MethodName} {bytes : ByteArray} {mx : Nat} {rt : Option FieldType} {a : Array Value} {s : State} {m : MethodId} {meth : Method} {c : Code} (h1 : s.methodNamed? y = some m) (h2 : s.vm.method? m = some meth) (h3 : meth.code = some c) (h4 : c.code = bytes)
    (h5 : (c.maxLocals == mx && c.exceptionTable.isEmpty && decide (c.maxStack ≤ mostOperands) && decide (meth.sig.returnType = rt) && !meth.locks && decide (parseMethodDescriptor y.desc = some meth.sig)) = true) : (Jvm.Cond.code y bytes mx rt).before a s = true := by
  simp only [Bool.and_eq_true, beq_iff_eq, Bool.not_eq_true', decide_eq_true_eq] at h5
  obtain ⟨⟨⟨⟨⟨g1, g2⟩, g3⟩, g4⟩, g5⟩, g6⟩ := h5
  simp [Cond.before, Cond.holds, Cond.value, h1, h2, h3, h4, g1, g2, g3, g4, g5, g6]
def isCode : Jvm.Cond → Bool
  | .code _ _ _ _ => true
  | _ => false
theorem all_split {L : List Jvm.Cond} {P : Jvm.Cond → Bool} (h1 : L.all (fun c => isCode c || P c) = true) (h2 : ∀ c ∈ L.filter isCode, P c = true) : L.all P = true := by
  refine List.all_eq_true.mpr fun c hc => ?_
  have h := List.all_eq_true.mp h1 c hc
  rcases Bool.eq_false_or_eq_true (isCode c) with hi | hi
  · exact h2 c (List.mem_filter.mpr ⟨hc, hi⟩)
  · simpa [hi] using h
set_option maxRecDepth 65536 in
theorem w_c0 : (Jvm.Cond.code x code maxLocals ret).before args0 about1 = true := code_word (m := ⟨1, 1⟩) (meth := k1m1) (c := k1c1) (by decide +kernel) rfl rfl rfl (by decide +kernel)
set_option maxRecDepth 65536 in
theorem w_c1 : (Jvm.Cond.code ({ cls := "java/lang/String", name := "valueOf", desc := "(C)Ljava/lang/String;" } : Jvm.MethodName) jdk_42_method_139_code (1 : Nat) (Option.some (Jvm.ClassFile.FieldType.object "java/lang/String"))).before args0 about1 = true := code_word (m := ⟨7, 2⟩) (meth := k7m2) (c := k7c2) (by decide +kernel) rfl rfl rfl (by decide +kernel)
set_option maxRecDepth 65536 in
theorem w_c2 : (Jvm.Cond.code ({ cls := "java/lang/StringLatin1", name := "canEncode", desc := "(C)Z" } : Jvm.MethodName) jdk_43_method_3_code (1 : Nat) (Option.some Jvm.ClassFile.FieldType.boolean)).before args0 about1 = true := code_word (m := ⟨8, 1⟩) (meth := k8m1) (c := k8c1) (by decide +kernel) rfl rfl rfl (by decide +kernel)
set_option maxRecDepth 65536 in
theorem w_c3 : (Jvm.Cond.code ({ cls := "java/lang/StringLatin1", name := "toBytes", desc := "(C)[B" } : Jvm.MethodName) jdk_43_method_46_code (1 : Nat) (Option.some (Jvm.ClassFile.FieldType.array Jvm.ClassFile.FieldType.byte))).before args0 about1 = true := code_word (m := ⟨8, 2⟩) (meth := k8m2) (c := k8c2) (by decide +kernel) rfl rfl rfl (by decide +kernel)
set_option maxRecDepth 65536 in
theorem w_c4 : (Jvm.Cond.code ({ cls := "java/lang/String", name := "<init>", desc := "([BB)V" } : Jvm.MethodName) jdk_42_method_151_code (3 : Nat) (Option.none : Option Jvm.ClassFile.FieldType)).before args0 about1 = true := code_word (m := ⟨7, 3⟩) (meth := k7m3) (c := k7c3) (by decide +kernel) rfl rfl rfl (by decide +kernel)
set_option maxRecDepth 65536 in
theorem w_c5 : (Jvm.Cond.code ({ cls := "java/lang/Object", name := "<init>", desc := "()V" } : Jvm.MethodName) object_method_1_code (1 : Nat) (Option.none : Option Jvm.ClassFile.FieldType)).before args0 about1 = true := code_word (m := ⟨0, 0⟩) (meth := k0m0) (c := k0c0) (by decide +kernel) rfl rfl rfl (by decide +kernel)
set_option maxRecDepth 65536 in
theorem w_c6 : (Jvm.Cond.code ({ cls := "com/example/recourse/recourse/store/StoredDeadLetter", name := "<init>", desc := "(JJILjava/lang/String;Ljava/lang/String;JJLjava/lang/String;)V" } : Jvm.MethodName) prog_40_method_1_code (13 : Nat) (Option.none : Option Jvm.ClassFile.FieldType)).before args0 about1 = true := code_word (m := ⟨10, 0⟩) (meth := k10m0) (c := k10c0) (by decide +kernel) rfl rfl rfl (by decide +kernel)
set_option maxRecDepth 65536 in
theorem w_c7 : (Jvm.Cond.code ({ cls := "java/lang/Record", name := "<init>", desc := "()V" } : Jvm.MethodName) jdk_30_method_1_code (1 : Nat) (Option.none : Option Jvm.ClassFile.FieldType)).before args0 about1 = true := code_word (m := ⟨9, 0⟩) (meth := k9m0) (c := k9c0) (by decide +kernel) rfl rfl rfl (by decide +kernel)
set_option maxRecDepth 65536 in
theorem w_c8 : (Jvm.Cond.code ({ cls := "com/example/recourse/recourse/store/StoredDeadLetter", name := "withOrigin", desc := "(Ljava/lang/String;Ljava/lang/String;JJLjava/lang/String;)Lcom/example/recourse/recourse/store/StoredDeadLetter;" } : Jvm.MethodName) prog_40_method_2_code (8 : Nat) (Option.some (Jvm.ClassFile.FieldType.object "com/example/recourse/recourse/store/StoredDeadLetter"))).before args0 about1 = true := code_word (m := ⟨10, 1⟩) (meth := k10m1) (c := k10c1) (by decide +kernel) rfl rfl rfl (by decide +kernel)
set_option maxRecDepth 65536 in
theorem w_c9 : (Jvm.Cond.code ({ cls := "com/example/recourse/recourse/store/StoredDeadLetter", name := "sequence", desc := "()J" } : Jvm.MethodName) prog_40_method_9_code (1 : Nat) (Option.some Jvm.ClassFile.FieldType.long)).before args0 about1 = true := code_word (m := ⟨10, 2⟩) (meth := k10m2) (c := k10c2) (by decide +kernel) rfl rfl rfl (by decide +kernel)
set_option maxRecDepth 65536 in
theorem w_c10 : (Jvm.Cond.code ({ cls := "com/example/recourse/recourse/store/StoredDeadLetter", name := "originSequence", desc := "()J" } : Jvm.MethodName) prog_40_method_10_code (1 : Nat) (Option.some Jvm.ClassFile.FieldType.long)).before args0 about1 = true := code_word (m := ⟨10, 3⟩) (meth := k10m3) (c := k10c3) (by decide +kernel) rfl rfl rfl (by decide +kernel)
set_option maxRecDepth 65536 in
theorem w_c11 : (Jvm.Cond.code ({ cls := "com/example/recourse/recourse/store/StoredDeadLetter", name := "reconsumeTimes", desc := "()I" } : Jvm.MethodName) prog_40_method_11_code (1 : Nat) (Option.some Jvm.ClassFile.FieldType.int)).before args0 about1 = true := code_word (m := ⟨10, 4⟩) (meth := k10m4) (c := k10c4) (by decide +kernel) rfl rfl rfl (by decide +kernel)
set_option maxRecDepth 65536 in
theorem w_c12 : (Jvm.Cond.code ({ cls := "com/example/recourse/recourse/store/StoredDeadLetter", name := "topic", desc := "()Ljava/lang/String;" } : Jvm.MethodName) prog_40_method_12_code (1 : Nat) (Option.some (Jvm.ClassFile.FieldType.object "java/lang/String"))).before args0 about1 = true := code_word (m := ⟨10, 5⟩) (meth := k10m5) (c := k10c5) (by decide +kernel) rfl rfl rfl (by decide +kernel)
set_option maxRecDepth 65536 in
theorem w_c13 : (Jvm.Cond.code ({ cls := "java/lang/String", name := "equals", desc := "(Ljava/lang/Object;)Z" } : Jvm.MethodName) jdk_42_method_66_code (3 : Nat) (Option.some Jvm.ClassFile.FieldType.boolean)).before args0 about1 = true := code_word (m := ⟨7, 1⟩) (meth := k7m1) (c := k7c1) (by decide +kernel) rfl rfl rfl (by decide +kernel)
set_option maxRecDepth 65536 in
theorem w_c14 : (Jvm.Cond.code ({ cls := "com/example/recourse/recourse/store/StoredDeadLetter", name := "group", desc := "()Ljava/lang/String;" } : Jvm.MethodName) prog_40_method_13_code (1 : Nat) (Option.some (Jvm.ClassFile.FieldType.object "java/lang/String"))).before args0 about1 = true := code_word (m := ⟨10, 6⟩) (meth := k10m6) (c := k10c6) (by decide +kernel) rfl rfl rfl (by decide +kernel)
set_option maxRecDepth 65536 in
theorem w_c15 : (Jvm.Cond.code ({ cls := "com/example/recourse/recourse/store/StoredDeadLetter", name := "failedSequence", desc := "()J" } : Jvm.MethodName) prog_40_method_14_code (1 : Nat) (Option.some Jvm.ClassFile.FieldType.long)).before args0 about1 = true := code_word (m := ⟨10, 7⟩) (meth := k10m7) (c := k10c7) (by decide +kernel) rfl rfl rfl (by decide +kernel)
set_option maxRecDepth 65536 in
theorem w_c16 : (Jvm.Cond.code ({ cls := "com/example/recourse/recourse/store/StoredDeadLetter", name := "deadLetteredAtMillis", desc := "()J" } : Jvm.MethodName) prog_40_method_15_code (1 : Nat) (Option.some Jvm.ClassFile.FieldType.long)).before args0 about1 = true := code_word (m := ⟨10, 8⟩) (meth := k10m8) (c := k10c8) (by decide +kernel) rfl rfl rfl (by decide +kernel)
set_option maxRecDepth 65536 in
theorem w_c17 : (Jvm.Cond.code ({ cls := "com/example/recourse/recourse/store/StoredDeadLetter", name := "deadLetterTopic", desc := "()Ljava/lang/String;" } : Jvm.MethodName) prog_40_method_16_code (1 : Nat) (Option.some (Jvm.ClassFile.FieldType.object "java/lang/String"))).before args0 about1 = true := code_word (m := ⟨10, 9⟩) (meth := k10m9) (c := k10c9) (by decide +kernel) rfl rfl rfl (by decide +kernel)
def codes1 : List Jvm.Cond := [Jvm.Cond.code x code maxLocals ret, Jvm.Cond.code ({ cls := "java/lang/String", name := "valueOf", desc := "(C)Ljava/lang/String;" } : Jvm.MethodName) jdk_42_method_139_code (1 : Nat) (Option.some (Jvm.ClassFile.FieldType.object "java/lang/String")), Jvm.Cond.code ({ cls := "java/lang/StringLatin1", name := "canEncode", desc := "(C)Z" } : Jvm.MethodName) jdk_43_method_3_code (1 : Nat) (Option.some Jvm.ClassFile.FieldType.boolean), Jvm.Cond.code ({ cls := "java/lang/StringLatin1", name := "toBytes", desc := "(C)[B" } : Jvm.MethodName) jdk_43_method_46_code (1 : Nat) (Option.some (Jvm.ClassFile.FieldType.array Jvm.ClassFile.FieldType.byte)), Jvm.Cond.code ({ cls := "java/lang/String", name := "<init>", desc := "([BB)V" } : Jvm.MethodName) jdk_42_method_151_code (3 : Nat) (Option.none : Option Jvm.ClassFile.FieldType), Jvm.Cond.code ({ cls := "java/lang/Object", name := "<init>", desc := "()V" } : Jvm.MethodName) object_method_1_code (1 : Nat) (Option.none : Option Jvm.ClassFile.FieldType), Jvm.Cond.code ({ cls := "com/example/recourse/recourse/store/StoredDeadLetter", name := "<init>", desc := "(JJILjava/lang/String;Ljava/lang/String;JJLjava/lang/String;)V" } : Jvm.MethodName) prog_40_method_1_code (13 : Nat) (Option.none : Option Jvm.ClassFile.FieldType), Jvm.Cond.code ({ cls := "java/lang/Record", name := "<init>", desc := "()V" } : Jvm.MethodName) jdk_30_method_1_code (1 : Nat) (Option.none : Option Jvm.ClassFile.FieldType), Jvm.Cond.code ({ cls := "com/example/recourse/recourse/store/StoredDeadLetter", name := "withOrigin", desc := "(Ljava/lang/String;Ljava/lang/String;JJLjava/lang/String;)Lcom/example/recourse/recourse/store/StoredDeadLetter;" } : Jvm.MethodName) prog_40_method_2_code (8 : Nat) (Option.some (Jvm.ClassFile.FieldType.object "com/example/recourse/recourse/store/StoredDeadLetter")), Jvm.Cond.code ({ cls := "com/example/recourse/recourse/store/StoredDeadLetter", name := "sequence", desc := "()J" } : Jvm.MethodName) prog_40_method_9_code (1 : Nat) (Option.some Jvm.ClassFile.FieldType.long), Jvm.Cond.code ({ cls := "com/example/recourse/recourse/store/StoredDeadLetter", name := "originSequence", desc := "()J" } : Jvm.MethodName) prog_40_method_10_code (1 : Nat) (Option.some Jvm.ClassFile.FieldType.long), Jvm.Cond.code ({ cls := "com/example/recourse/recourse/store/StoredDeadLetter", name := "reconsumeTimes", desc := "()I" } : Jvm.MethodName) prog_40_method_11_code (1 : Nat) (Option.some Jvm.ClassFile.FieldType.int), Jvm.Cond.code ({ cls := "com/example/recourse/recourse/store/StoredDeadLetter", name := "topic", desc := "()Ljava/lang/String;" } : Jvm.MethodName) prog_40_method_12_code (1 : Nat) (Option.some (Jvm.ClassFile.FieldType.object "java/lang/String")), Jvm.Cond.code ({ cls := "java/lang/String", name := "equals", desc := "(Ljava/lang/Object;)Z" } : Jvm.MethodName) jdk_42_method_66_code (3 : Nat) (Option.some Jvm.ClassFile.FieldType.boolean), Jvm.Cond.code ({ cls := "com/example/recourse/recourse/store/StoredDeadLetter", name := "group", desc := "()Ljava/lang/String;" } : Jvm.MethodName) prog_40_method_13_code (1 : Nat) (Option.some (Jvm.ClassFile.FieldType.object "java/lang/String")), Jvm.Cond.code ({ cls := "com/example/recourse/recourse/store/StoredDeadLetter", name := "failedSequence", desc := "()J" } : Jvm.MethodName) prog_40_method_14_code (1 : Nat) (Option.some Jvm.ClassFile.FieldType.long), Jvm.Cond.code ({ cls := "com/example/recourse/recourse/store/StoredDeadLetter", name := "deadLetteredAtMillis", desc := "()J" } : Jvm.MethodName) prog_40_method_15_code (1 : Nat) (Option.some Jvm.ClassFile.FieldType.long), Jvm.Cond.code ({ cls := "com/example/recourse/recourse/store/StoredDeadLetter", name := "deadLetterTopic", desc := "()Ljava/lang/String;" } : Jvm.MethodName) prog_40_method_16_code (1 : Nat) (Option.some (Jvm.ClassFile.FieldType.object "java/lang/String"))]
set_option maxRecDepth 65536 in
theorem codes_eq : words1.filter isCode = codes1 := rfl
theorem w_codes : ∀ c ∈ words1.filter isCode, c.before args0 about1 = true := by
  rw [codes_eq]
  intro c hc
  simp only [codes1, List.mem_cons, List.not_mem_nil, or_false] at hc
  rcases hc with rfl | rfl | rfl | rfl | rfl | rfl | rfl | rfl | rfl | rfl | rfl | rfl | rfl | rfl | rfl | rfl | rfl | rfl
  · exact w_c0
  · exact w_c1
  · exact w_c2
  · exact w_c3
  · exact w_c4
  · exact w_c5
  · exact w_c6
  · exact w_c7
  · exact w_c8
  · exact w_c9
  · exact w_c10
  · exact w_c11
  · exact w_c12
  · exact w_c13
  · exact w_c14
  · exact w_c15
  · exact w_c16
  · exact w_c17
set_option maxRecDepth 65536 in
theorem w_t1 : (words1.take 24).all (fun c => isCode c || c.before args0 about1) = true := by decide +kernel
set_option maxRecDepth 65536 in
theorem w_t2 : ((words1.drop 24).take 24).all (fun c => isCode c || c.before args0 about1) = true := by decide +kernel
set_option maxRecDepth 65536 in
theorem w_t3 : (((words1.drop 24).drop 24).take 24).all (fun c => isCode c || c.before args0 about1) = true := by decide +kernel
set_option maxRecDepth 65536 in
theorem w_t4 : ((((words1.drop 24).drop 24).drop 24).take 24).all (fun c => isCode c || c.before args0 about1) = true := by decide +kernel
set_option maxRecDepth 65536 in
theorem w_t5 : ((((words1.drop 24).drop 24).drop 24).drop 24).all (fun c => isCode c || c.before args0 about1) = true := by decide +kernel
theorem w_tables : (allAtoms (Jvm.Cond.code x code maxLocals ret :: tables_1)).before args0 about1 = true := by
  rw [allAtoms_all]
  show words1.all (fun c => c.before args0 about1) = true
  refine all_split ?_ w_codes
  rw [← List.take_append_drop 24 words1, List.all_append, w_t1, ← List.take_append_drop 24 (words1.drop 24), List.all_append, w_t2, ← List.take_append_drop 24 ((words1.drop 24).drop 24), List.all_append, w_t3, ← List.take_append_drop 24 (((words1.drop 24).drop 24).drop 24), List.all_append, w_t4, w_t5]
  rfl
set_option maxRecDepth 65536 in
theorem w_rest : rest_1_c.before args0 about1 = true := by decide +kernel
set_option maxRecDepth 65536 in
theorem w_case : (Jvm.Cond.and given_1 narrow_1).before args0 about1 = true := by decide +kernel
theorem w_applies : (headSpec (Jvm.Cond.code x code maxLocals ret :: tables_1) room_1).applies x e0.platform about1 = true :=
  (Spec.applies_iff w_frames).mpr ⟨w_running, w_runnable, w_alone, w_named, w_hears, w_ripe, w_room, w_tables⟩
theorem atStart : AtStart classFile x code maxLocals ret World_1 tables_1 room_1 Calls_1 rest_1 Pre_1 launch0 p0 e0 about1 theMethod args0 below0 :=
  ⟨lists_1, trivial, launch0.admits_env _ _ _, launch0.least_env, fairChoices_fair.cas, fairChoices_fair.clock, w_frames, w_args, w_heap, w_applies, trivial, w_rest, w_case⟩
end start1
theorem witness_1 : WitnessClaimed_1 := ⟨start1.p0, start1.e0, start1.about1, start1.theMethod, start1.args0, start1.below0, start1.atStart⟩
end Jvm.Pilot.@@N@@
