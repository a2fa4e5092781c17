import JvmDerived
import JvmDerived.Pilot.@@N@@Statement
import JvmDerived.Pilot.@@N@@Code
set_option linter.unusedVariables false
set_option linter.unusedSimpArgs false
namespace Jvm.RoadKit
open Sem ClassFile Op Lib Jvm.Stand Jvm.Free Jvm.LawKit
section New
variable {p : Program} {l : Launch} {e : Env} {R : Room} {s : State} {m : MethodId} {args : Array Value} {below : List Frame} {meth : Method} {c : Code} {T : State} {locs : List Loc} {cells slots : Nat}
theorem retI (X : Stand p l e R s m args below meth c T locs cells slots) (hx : p.tables.exec = Jvm.exec) {pc : Nat} {Ls : Array Slot} {z : Int32} {rest : List Value} (hret : meth.sig.returnType = some .int) (hd : decode c.code pc = .ok (.ireturn, 1)) {fs : List Frame}
    (hl : ∀ (f : JFrame) (acts : List Action), f.method = m → f.locked = none → f.entered = [] → (doReturn e (T.setTop f) acts (some (.int z))).1 = T.setFrames fs) : Steps p.tables e below (T.setTop (mkF m pc Ls (.int z :: rest))) (T.setFrames fs) := by
  have hm' : T.vm.method? m = some meth := X.method'
  have hn : narrow .int (.int z) = .int z := rfl
  show Steps p.tables e below (T.setTop { method := m, pc := pc, locals := Ls, stack := _ :: rest, locked := none }) _
  jvm_step X.here [X.here.top, hx, hd, hm', hret, hn]
  first | (intro acts; rw [hl _ acts rfl rfl rfl]) | rw [hl _ _ rfl rfl rfl]
  exact Steps.refl _
end New
end Jvm.RoadKit
namespace Jvm.Pilot.@@N@@
open Jvm Jvm.ClassFile Sem Op Lib Jvm.Free Jvm.Stand Jvm.LawKit Jvm.RoadKit Bundle Jvm.Pilot.@@N@@.Jvm.D
theorem own_staK {Z : State} {h h' : Heap} {ws : List Addr} {C n d : String} {v : Value} (F : Sta Z h C n d v) (K : Keep h h' ws) (q : ∀ x ∈ ws, ∀ c : Cell, h[x]? = some c → c.vm.isStatics = false) : Sta Z h' C n d v := by
  obtain ⟨cf, i, k, f, st, cell, h1, h2, h3, h4, h5, h6, h7⟩ := F
  exact ⟨cf, i, k, f, st, cell, h1, h2, h3, h4, K.2.1 st cell h5 (fun z => by have := q st z cell h5; rw [h6] at this; cases this), h6, h7⟩
theorem own_exaN {Z : State} {h : Heap} {a : Addr} {C : String} (E : Exa Z h a C) : ∀ c : Cell, h[a]? = some c → c.vm.isStatics = false := fun c hc => by
  obtain ⟨c', k, h1, -, -, h4, -⟩ := E
  cases h1.symm.trans hc; exact h4
theorem d3_0 : decode jdk_43_method_3_code 0 = .ok (.iload_n 0, 1) := by decide +kernel
theorem d3_1 : decode jdk_43_method_3_code 1 = .ok (.sipush 255, 3) := by decide +kernel
theorem d3_4 : decode jdk_43_method_3_code 4 = .ok (.if_icmp .gt 7, 3) := by decide +kernel
theorem d3_7 : decode jdk_43_method_3_code 7 = .ok (.iconst 1, 1) := by decide +kernel
theorem d3_8 : decode jdk_43_method_3_code 8 = .ok (.goto 4, 3) := by decide +kernel
theorem d3_11 : decode jdk_43_method_3_code 11 = .ok (.iconst 0, 1) := by decide +kernel
theorem d3_12 : decode jdk_43_method_3_code 12 = .ok (.ireturn, 1) := by decide +kernel
theorem pn_java_lang_StringLatin1 : plainName "java/lang/StringLatin1" = true := by first | (simp [plainName, overriddenIn]; done) | decide +kernel
theorem ef_3 (p0 : Int32)  (m : MethodId) : entryFrame m #[(.int p0)] 1 = mkF m 0 #[.val (.int p0)] [] := by first | (simp [entryFrame, mkF, argsToLocals, Value.category]; done) | rfl
def F3 (p0 : Int32) : Int32 := (if (255 : Int32) < p0 then (0 : Int32) else (1 : Int32))
def Q3 (Z : State) (p0 : Int32)  (h0 : Heap) (n0 : Nat) (v : Option Value) (h : Heap) (L : List Loc) : Prop := v = some (.int (F3 p0)) ∧ Fr n0 L ∧ h = h0
set_option maxRecDepth 65536 in
set_option maxHeartbeats 40000000 in
theorem rm3 (l : Launch) (Z : State) (a0 : Array Value) (hw : ∀ d ∈ tables_1, d.before a0 Z = true) (ws : List Jvm.Cond) (p0 : Int32)  (h0 : Heap) (n0 : Nat) (Z0 : n0 ≤ h0.size) :
    MetFree l (⟨"java/lang/StringLatin1", "canEncode", "(C)Z"⟩ : MethodName) (head1 (Jvm.Cond.code (⟨"java/lang/StringLatin1", "canEncode", "(C)Z"⟩ : MethodName) jdk_43_method_3_code 1 (some .boolean) :: ws) ({ frames := 0, cells := 0, slots := 0, locals := 0 } : Room)) (fun a U => a = #[(.int p0)] ∧ Z.Warmed39 U.vm ∧ U.heap = h0) (fun _ _ _ _ _ => True) (fun _ U o U' => ∃ v L, o = .returned v ∧ Q3 Z p0 h0 n0 v U'.heap L ∧ FrameEnd U o U' L ({ frames := 0, cells := 0, slots := 0, locals := 0 } : Room).cells ({ frames := 0, cells := 0, slots := 0, locals := 0 } : Room).slots) := by
  refine MetFree.of_bodySF (plainFor_of_name pn_java_lang_StringLatin1) hisR ?_
  intro p e s m args below meth c s₁ Bd hml0 hP hK
  obtain ⟨rfl, hZ, hh⟩ := hP
  have hx := Bd.exec
  have hby := Bd.bytes
  have hml : c.maxLocals = 1 := hml0
  have hown : s.vm.findClass "java/lang/StringLatin1" = some m.cls := findClass_of_methodNamed Bd.named
  have hnm := (name_of_methodNamed Bd.named Bd.method).1
  have X0 : Stand p l e ({ frames := 0, cells := 0, slots := 0, locals := 0 } : Room) s m #[(.int p0)] below meth c s₁ [] 0 0 := Stand.of_body Bd
  have e0 : s₁.heap = h0 := by rw [← hh, Bd.state]; rfl
  have N0 := Fr.nil n0
  have pre0 : ∀ t, Steps p.tables e below (s₁.setTop (mkF m 0 #[.val (.int p0)] [])) t → Steps p.tables e below (s₁.setTop (entryFrame m #[(.int p0)] 1)) t := fun t k => castTop (ef_3 p0 m) k
  have pre1 : ∀ t, Steps p.tables e below (s₁.setTop (mkF m 4 #[.val (.int p0)] [(.int (255 : Int32)), (.int p0)])) t → Steps p.tables e below (s₁.setTop (entryFrame m #[(.int p0)] 1)) t := fun t kt => pre0 t (by
    show Steps p.tables e below (s₁.setTop (mkF m 0 #[.val (.int p0)] [])) _
    refine XS.iloadN X0.here hx rfl (hb hby d3_0) rfl ?_
    show Steps p.tables e below (s₁.setTop (mkF m 1 #[.val (.int p0)] [(.int p0)])) _
    refine XS.sipush X0.here hx rfl (hb hby d3_1) ?_
    exact kt)
  by_cases hc4 : (255 : Int32) < p0
  · obtain ⟨fs, hr, hrun, hended, hW, hsame⟩ := X0.leave (v := some (.int (0 : Int32))) (fun h => by rw [Bd.returns] at h; cases h)
    refine ⟨_, _, pre1 _ ?_, hrun, hended, _, _, rfl, ?_, ⟨_, rfl⟩, hW, hsame.mono (by decide) (by decide)⟩
    · show Steps p.tables e below (s₁.setTop (mkF m 4 #[.val (.int p0)] [(.int (255 : Int32)), (.int p0)])) _
      refine XS.icmpYes X0.here hx rfl (pc0 := 4) (pc' := 11) rfl (hb hby d3_4) rfl (tlt hc4).2.2.1 (by decide) (by decide) ?_
      show Steps p.tables e below (s₁.setTop (mkF m 11 #[.val (.int p0)] [])) _
      refine XS.iconst X0.here hx rfl (hb hby d3_11) ?_
      show Steps p.tables e below (s₁.setTop (mkF m 12 #[.val (.int p0)] [(.int (0 : Int32))])) _
      exact retN X0 hx (t := .boolean) Bd.returns (by simp) (hb hby d3_12) hr
    · show Q3 Z p0 h0 n0 _ s₁.heap _
      rw [e0]
      exact ⟨(by unfold F3; simp only [if_pos hc4]), N0, rfl⟩
  · obtain ⟨fs, hr, hrun, hended, hW, hsame⟩ := X0.leave (v := some (.int (1 : Int32))) (fun h => by rw [Bd.returns] at h; cases h)
    refine ⟨_, _, pre1 _ ?_, hrun, hended, _, _, rfl, ?_, ⟨_, rfl⟩, hW, hsame.mono (by decide) (by decide)⟩
    · show Steps p.tables e below (s₁.setTop (mkF m 4 #[.val (.int p0)] [(.int (255 : Int32)), (.int p0)])) _
      refine XS.icmpNo X0.here hx rfl (hb hby d3_4) rfl (flt hc4).2.2.1 ?_
      show Steps p.tables e below (s₁.setTop (mkF m 7 #[.val (.int p0)] [])) _
      refine XS.iconst X0.here hx rfl (hb hby d3_7) ?_
      show Steps p.tables e below (s₁.setTop (mkF m 8 #[.val (.int p0)] [(.int (1 : Int32))])) _
      refine XS.goto X0.here hx rfl (pc0 := 8) (pc' := 12) rfl (hb hby d3_8) (by decide) (by decide) ?_
      show Steps p.tables e below (s₁.setTop (mkF m 12 #[.val (.int p0)] [(.int (1 : Int32))])) _
      exact retN X0 hx (t := .boolean) Bd.returns (by simp) (hb hby d3_12) hr
    · show Q3 Z p0 h0 n0 _ s₁.heap _
      rw [e0]
      exact ⟨(by unfold F3; simp only [if_neg hc4]), N0, rfl⟩
theorem d4_0 : decode jdk_43_method_46_code 0 = .ok (.iconst 1, 1) := by decide +kernel
theorem d4_1 : decode jdk_43_method_46_code 1 = .ok (.newarray .byte, 2) := by decide +kernel
theorem d4_3 : decode jdk_43_method_46_code 3 = .ok (.dup, 1) := by decide +kernel
theorem d4_4 : decode jdk_43_method_46_code 4 = .ok (.iconst 0, 1) := by decide +kernel
theorem d4_5 : decode jdk_43_method_46_code 5 = .ok (.iload_n 0, 1) := by decide +kernel
theorem d4_6 : decode jdk_43_method_46_code 6 = .ok (.i2b, 1) := by decide +kernel
theorem d4_7 : decode jdk_43_method_46_code 7 = .ok (.bastore, 1) := by decide +kernel
theorem d4_8 : decode jdk_43_method_46_code 8 = .ok (.areturn, 1) := by decide +kernel
theorem ef_4 (p0 : Int32)  (m : MethodId) : entryFrame m #[(.int p0)] 1 = mkF m 0 #[.val (.int p0)] [] := by first | (simp [entryFrame, mkF, argsToLocals, Value.category]; done) | rfl
def Q4 (Z : State) (p0 : Int32)  (h0 : Heap) (n0 : Nat) (v : Option Value) (h : Heap) (L : List Loc) : Prop := ∃ b : Addr, v = some (.ref b) ∧ Fr n0 L ∧ Keep h0 h [] ∧ h0.size ≤ b
set_option maxRecDepth 65536 in
set_option maxHeartbeats 40000000 in
theorem rm4 (l : Launch) (Z : State) (a0 : Array Value) (hw : ∀ d ∈ tables_1, d.before a0 Z = true) (ws : List Jvm.Cond) (p0 : Int32)  (h0 : Heap) (n0 : Nat) (Z0 : n0 ≤ h0.size) :
    MetFree l (⟨"java/lang/StringLatin1", "toBytes", "(C)[B"⟩ : MethodName) (head1 (Jvm.Cond.code (⟨"java/lang/StringLatin1", "toBytes", "(C)[B"⟩ : MethodName) jdk_43_method_46_code 1 (some (.array .byte)) :: ws) ({ frames := 0, cells := 1, slots := 1, locals := 0 } : Room)) (fun a U => a = #[(.int p0)] ∧ Z.Warmed39 U.vm ∧ U.heap = h0) (fun _ _ _ _ _ => True) (fun _ U o U' => ∃ v L, o = .returned v ∧ Q4 Z p0 h0 n0 v U'.heap L ∧ FrameEnd U o U' L ({ frames := 0, cells := 1, slots := 1, locals := 0 } : Room).cells ({ frames := 0, cells := 1, slots := 1, locals := 0 } : Room).slots) := by
  refine MetFree.of_bodySF (plainFor_of_name pn_java_lang_StringLatin1) hisR ?_
  intro p e s m args below meth c s₁ Bd hml0 hP hK
  obtain ⟨rfl, hZ, hh⟩ := hP
  have hx := Bd.exec
  have hby := Bd.bytes
  have hml : c.maxLocals = 1 := hml0
  have hown : s.vm.findClass "java/lang/StringLatin1" = some m.cls := findClass_of_methodNamed Bd.named
  have hnm := (name_of_methodNamed Bd.named Bd.method).1
  have X0 : Stand p l e ({ frames := 0, cells := 1, slots := 1, locals := 0 } : Room) s m #[(.int p0)] below meth c s₁ [] 0 0 := Stand.of_body Bd
  have e0 : s₁.heap = h0 := by rw [← hh, Bd.state]; rfl
  have N0 := Fr.nil n0
  have pre0 : ∀ t, Steps p.tables e below (s₁.setTop (mkF m 0 #[.val (.int p0)] [])) t → Steps p.tables e below (s₁.setTop (entryFrame m #[(.int p0)] 1)) t := fun t k => castTop (ef_4 p0 m) k
  obtain ⟨T1, h1, k1, X1, e1, E1, A1, st1⟩ := newP X0 hx hZ (hw _ (List.mem_of_getElem? (i := 21) rfl)) e0 (g := (mkF m 1 #[.val (.int p0)] [(.int (1 : Int32))])) rfl (hb hby d4_1) rfl (by decide) (cap := 1) (by decide) (by decide) (by decide) (by decide)
  obtain ⟨b1, g1⟩ : ∃ z, z = h0.size := ⟨_, rfl⟩
  rw [← g1] at A1 st1
  have g_b1 : n0 ≤ b1 := Nat.le_trans Z0 (Nat.le_of_eq g1.symm)
  have sz_b1 : h0.size ≤ b1 := Nat.le_trans (Keep.refl h0 []).1 (Nat.le_of_eq g1.symm)
  have V_b1 : Arv Z h1 b1 k1 .byte (1 : Int32) [(.int (0 : Int32))] (.int (0 : Int32)) := (Arv.new A1 (by decide)).pad (pad_rep [] (.int (0 : Int32)) 1)
  have K1 : Keep h0 h1 [] := (Keep.refl h0 []).ext E1
  obtain ⟨cl2, Ar2, qa2, S2, Nl2, H2, G2⟩ := id V_b1
  have hin2 : ¬ ((0 : Int32) < 0 ∨ cl2.slots.size ≤ ((0 : Int32)).toNatClampNeg) := inb_of S2 ⟨by decide, by decide⟩
  obtain ⟨T2, h2, X2, e2, W2, st2⟩ := stB X1 hx hZ e1 Ar2 (j := (0 : Int32)) hin2 (g := (mkF m 7 #[.val (.int p0)] [(.int (p0.toInt8.toInt32)), (.int (0 : Int32)), (.ref b1), (.ref b1)])) rfl rfl (hb hby d4_7)
  have V2 : Arv Z h2 b1 k1 .byte (1 : Int32) [(.int ((p0.toInt8.toInt32).toInt8.toInt32))] (.int (0 : Int32)) := Arv.set Ar2 qa2 S2 Nl2 H2 G2 (fits_nar_byte _) W2 0 rfl (Nat.le_of_ble_eq_true rfl)
  have K2 : Keep h0 h2 [] := K1.wr W2 (Or.inr sz_b1)
  have N2 := Fr.snoc X2 N0 g_b1
  obtain ⟨fs, hr, hrun, hended, hW, hsame⟩ := X2.leave (v := some (.ref b1)) (fun h => by rw [Bd.returns] at h; cases h)
  refine ⟨_, _, pre0 _ ?_, hrun, hended, _, _, rfl, ?_, ⟨_, rfl⟩, hW, hsame.mono (by decide) (by decide)⟩
  · show Steps p.tables e below (s₁.setTop (mkF m 0 #[.val (.int p0)] [])) _
    refine XS.iconst X0.here hx rfl (hb hby d4_0) ?_
    show Steps p.tables e below (s₁.setTop (mkF m 1 #[.val (.int p0)] [(.int (1 : Int32))])) _
    refine st1 _ ?_
    show Steps p.tables e below (T1.setTop (mkF m 3 #[.val (.int p0)] [(.ref b1)])) _
    refine XS.dup X1.here hx rfl (hb hby d4_3) rfl rfl ?_
    show Steps p.tables e below (T1.setTop (mkF m 4 #[.val (.int p0)] [(.ref b1), (.ref b1)])) _
    refine XS.iconst X1.here hx rfl (hb hby d4_4) ?_
    show Steps p.tables e below (T1.setTop (mkF m 5 #[.val (.int p0)] [(.int (0 : Int32)), (.ref b1), (.ref b1)])) _
    refine XS.iloadN X1.here hx rfl (hb hby d4_5) rfl ?_
    show Steps p.tables e below (T1.setTop (mkF m 6 #[.val (.int p0)] [(.int p0), (.int (0 : Int32)), (.ref b1), (.ref b1)])) _
    refine XS.i2b X1.here hx rfl (hb hby d4_6) rfl ?_
    show Steps p.tables e below (T1.setTop (mkF m 7 #[.val (.int p0)] [(.int (p0.toInt8.toInt32)), (.int (0 : Int32)), (.ref b1), (.ref b1)])) _
    refine st2 _ ?_
    show Steps p.tables e below (T2.setTop (mkF m 8 #[.val (.int p0)] [(.ref b1)])) _
    exact retOut X2 hx Bd.returns rfl (Or.inr (Or.inr (Or.inr (Or.inr ⟨rfl, rfl, rfl⟩)))) (hb hby d4_8) hr
  · show Q4 Z p0 h0 n0 _ T2.heap _
    rw [e2]
    exact ⟨b1, rfl, N2, K2, sz_b1⟩
theorem d5_0 : decode jdk_42_method_151_code 0 = .ok (.aload_n 0, 1) := by decide +kernel
theorem d5_1 : decode jdk_42_method_151_code 1 = .ok (.invokespecial 1, 3) := by decide +kernel
theorem d5_4 : decode jdk_42_method_151_code 4 = .ok (.aload_n 0, 1) := by decide +kernel
theorem d5_5 : decode jdk_42_method_151_code 5 = .ok (.aload_n 1, 1) := by decide +kernel
theorem d5_6 : decode jdk_42_method_151_code 6 = .ok (.putfield 9, 3) := by decide +kernel
theorem d5_9 : decode jdk_42_method_151_code 9 = .ok (.aload_n 0, 1) := by decide +kernel
theorem d5_10 : decode jdk_42_method_151_code 10 = .ok (.iload_n 2, 1) := by decide +kernel
theorem d5_11 : decode jdk_42_method_151_code 11 = .ok (.putfield 15, 3) := by decide +kernel
theorem d5_14 : decode jdk_42_method_151_code 14 = .ok (.return_, 1) := by decide +kernel
theorem pn_java_lang_String : plainName "java/lang/String" = true := by first | (simp [plainName, overriddenIn]; done) | decide +kernel
theorem ef_5 (r0 : Addr) (r1 : Addr) (p2 : Int32)  (m : MethodId) : entryFrame m #[(.ref r0), (.ref r1), (.int p2)] 3 = mkF m 0 #[.val (.ref r0), .val (.ref r1), .val (.int p2)] [] := by first | (simp [entryFrame, mkF, argsToLocals, Value.category]; done) | rfl
def Q5 (Z : State) (r0 : Addr) (r1 : Addr) (p2 : Int32)  (h0 : Heap) (n0 : Nat) (v : Option Value) (h : Heap) (L : List Loc) : Prop := v = none ∧ Fr n0 L ∧ Keep h0 h [r0] ∧ Exa Z h r0 "java/lang/String"
set_option maxRecDepth 65536 in
set_option maxHeartbeats 40000000 in
theorem rm5 (l : Launch) (Z : State) (a0 : Array Value) (hw : ∀ d ∈ tables_1, d.before a0 Z = true) (ws : List Jvm.Cond) (r0 : Addr) (r1 : Addr) (p2 : Int32)  (h0 : Heap) (n0 : Nat) (Z0 : n0 ≤ h0.size) (E_r : Exa Z h0 r0 "java/lang/String") (F_v : Fld Z h0 r0 "java/lang/String" "value" "[B" .null) (F_c : Fld Z h0 r0 "java/lang/String" "coder" "B" (.int (0 : Int32))) (g_r0 : n0 ≤ r0) :
    MetFree l (⟨"java/lang/String", "<init>", "([BB)V"⟩ : MethodName) (head1 (Jvm.Cond.code (⟨"java/lang/String", "<init>", "([BB)V"⟩ : MethodName) jdk_42_method_151_code 3 none :: ws) ({ frames := 1, cells := 0, slots := 0, locals := 12 } : Room)) (fun a U => a = #[(.ref r0), (.ref r1), (.int p2)] ∧ Z.Warmed39 U.vm ∧ U.heap = h0) (fun _ _ _ _ _ => True) (fun _ U o U' => ∃ v L, o = .returned v ∧ Q5 Z r0 r1 p2 h0 n0 v U'.heap L ∧ FrameEnd U o U' L ({ frames := 1, cells := 0, slots := 0, locals := 12 } : Room).cells ({ frames := 1, cells := 0, slots := 0, locals := 12 } : Room).slots) := by
  refine MetFree.of_bodySF (plainFor_of_name pn_java_lang_String) hisR ?_
  intro p e s m args below meth c s₁ Bd hml0 hP hK
  obtain ⟨rfl, hZ, hh⟩ := hP
  have hx := Bd.exec
  have hby := Bd.bytes
  have hml : c.maxLocals = 3 := hml0
  have hown : s.vm.findClass "java/lang/String" = some m.cls := findClass_of_methodNamed Bd.named
  have hnm := (name_of_methodNamed Bd.named Bd.method).1
  have X0 : Stand p l e ({ frames := 1, cells := 0, slots := 0, locals := 12 } : Room) s m #[(.ref r0), (.ref r1), (.int p2)] below meth c s₁ [] 0 0 := Stand.of_body Bd
  have e0 : s₁.heap = h0 := by rw [← hh, Bd.state]; rfl
  have N0 := Fr.nil n0
  have pre0 : ∀ t, Steps p.tables e below (s₁.setTop (mkF m 0 #[.val (.ref r0), .val (.ref r1), .val (.int p2)] [])) t → Steps p.tables e below (s₁.setTop (entryFrame m #[(.ref r0), (.ref r1), (.int p2)] 3)) t := fun t k => castTop (ef_5 r0 r1 p2 m) k
  obtain ⟨T1, X1, e1, st1⟩ := initO X0 hx hZ hown (hw _ (List.mem_of_getElem? (i := 26) rfl)) (hw _ (List.mem_of_getElem? (i := 27) rfl)) (hw _ (List.mem_of_getElem? (i := 28) rfl)) e0 (g := (mkF m 1 #[.val (.ref r0), .val (.ref r1), .val (.int p2)] [(.ref r0)])) rfl (by rw [hml]; rfl) rfl (hb hby d5_1) (by decide) (W := 0) (by show 2 * 0 + _ ≤ _; exact Nat.le_of_eq rfl) (by decide)
  obtain ⟨T2, h2, X2, e2, W2, st2⟩ := putF X1 hx hZ hown (host := "") (Or.inl (hw _ (List.mem_of_getElem? (i := 29) rfl))) Via.refl e1 F_v E_r (Or.inr ⟨(hw _ (List.mem_of_getElem? (i := 30) rfl)), rfl, hnm⟩) (hw _ (List.mem_of_getElem? (i := 17) rfl)) (ty := (.array .byte)) (by decide) rfl rfl (g := (mkF m 6 #[.val (.ref r0), .val (.ref r1), .val (.int p2)] [(.ref r1), (.ref r0)])) rfl rfl (hb hby d5_6)
  have Fw2 : Fld Z h2 r0 "java/lang/String" "value" "[B" (.ref r1) := Fld.same W2 F_v
  have K2 : Keep h0 h2 [r0] := (Keep.refl h0 [r0]).wr W2 (Or.inl (List.mem_of_getElem? (i := 0) rfl))
  have N2 := Fr.snoc X2 N0 g_r0
  obtain ⟨T3, h3, X3, e3, W3, st3⟩ := putFN X2 hx hZ hown (hw _ (List.mem_of_getElem? (i := 31) rfl)) Via.refl e2 (Fld.other W2 F_c (Or.inr (slot_ne (Or.inr (hw _ (List.mem_of_getElem? (i := 32) rfl))) (Or.inr (hw _ (List.mem_of_getElem? (i := 30) rfl))) (by decide) (t := .byte) (t' := (.array .byte)) (by decide) (by decide)))) (Exa.wr W2 E_r) (Or.inr ⟨(hw _ (List.mem_of_getElem? (i := 32) rfl)), rfl, hnm⟩) (hw _ (List.mem_of_getElem? (i := 17) rfl)) (ty := .byte) (v' := (.int (nar .byte p2))) (by decide) rfl (fits_nar_byte _) (g := (mkF m 11 #[.val (.ref r0), .val (.ref r1), .val (.int p2)] [(.int p2), (.ref r0)])) rfl rfl (hb hby d5_11)
  have Fw3 : Fld Z h3 r0 "java/lang/String" "coder" "B" (.int (nar .byte p2)) := Fld.same W3 (Fld.other W2 F_c (Or.inr (slot_ne (Or.inr (hw _ (List.mem_of_getElem? (i := 32) rfl))) (Or.inr (hw _ (List.mem_of_getElem? (i := 30) rfl))) (by decide) (t := .byte) (t' := (.array .byte)) (by decide) (by decide))))
  have K3 : Keep h0 h3 [r0] := K2.wr W3 (Or.inl (List.mem_of_getElem? (i := 0) rfl))
  have N3 := Fr.snoc X3 N2 g_r0
  obtain ⟨fs, hr, hrun, hended, hW, hsame⟩ := X3.leave (v := none) (fun _ => rfl)
  refine ⟨_, _, pre0 _ ?_, hrun, hended, _, _, rfl, ?_, ⟨_, rfl⟩, hW, hsame.mono (by decide) (by decide)⟩
  · show Steps p.tables e below (s₁.setTop (mkF m 0 #[.val (.ref r0), .val (.ref r1), .val (.int p2)] [])) _
    refine XS.aloadN X0.here hx rfl (hb hby d5_0) rfl rfl ?_
    show Steps p.tables e below (s₁.setTop (mkF m 1 #[.val (.ref r0), .val (.ref r1), .val (.int p2)] [(.ref r0)])) _
    refine st1 _ ?_
    show Steps p.tables e below (T1.setTop (mkF m 4 #[.val (.ref r0), .val (.ref r1), .val (.int p2)] [])) _
    refine XS.aloadN X1.here hx rfl (hb hby d5_4) rfl rfl ?_
    show Steps p.tables e below (T1.setTop (mkF m 5 #[.val (.ref r0), .val (.ref r1), .val (.int p2)] [(.ref r0)])) _
    refine XS.aloadN X1.here hx rfl (hb hby d5_5) rfl rfl ?_
    show Steps p.tables e below (T1.setTop (mkF m 6 #[.val (.ref r0), .val (.ref r1), .val (.int p2)] [(.ref r1), (.ref r0)])) _
    refine st2 _ ?_
    show Steps p.tables e below (T2.setTop (mkF m 9 #[.val (.ref r0), .val (.ref r1), .val (.int p2)] [])) _
    refine XS.aloadN X2.here hx rfl (hb hby d5_9) rfl rfl ?_
    show Steps p.tables e below (T2.setTop (mkF m 10 #[.val (.ref r0), .val (.ref r1), .val (.int p2)] [(.ref r0)])) _
    refine XS.iloadN X2.here hx rfl (hb hby d5_10) rfl ?_
    show Steps p.tables e below (T2.setTop (mkF m 11 #[.val (.ref r0), .val (.ref r1), .val (.int p2)] [(.int p2), (.ref r0)])) _
    refine st3 _ ?_
    show Steps p.tables e below (T3.setTop (mkF m 14 #[.val (.ref r0), .val (.ref r1), .val (.int p2)] [])) _
    exact X3.returnOut hx Bd.returns (hb hby d5_14) hr
  · show Q5 Z r0 r1 p2 h0 n0 _ T3.heap _
    rw [e3]
    exact ⟨rfl, N3, K3, (Exa.wr W3 (Exa.wr W2 E_r))⟩
theorem d2_0 : decode jdk_42_method_139_code 0 = .ok (.getstatic 38, 3) := by decide +kernel
theorem d2_3 : decode jdk_42_method_139_code 3 = .ok (.ifCond .eq 23, 3) := by decide +kernel
theorem d2_6 : decode jdk_42_method_139_code 6 = .ok (.iload_n 0, 1) := by decide +kernel
theorem d2_7 : decode jdk_42_method_139_code 7 = .ok (.invokestatic 1015, 3) := by decide +kernel
theorem d2_10 : decode jdk_42_method_139_code 10 = .ok (.ifCond .eq 16, 3) := by decide +kernel
theorem d2_13 : decode jdk_42_method_139_code 13 = .ok (.new 10, 3) := by decide +kernel
theorem d2_16 : decode jdk_42_method_139_code 16 = .ok (.dup, 1) := by decide +kernel
theorem d2_17 : decode jdk_42_method_139_code 17 = .ok (.iload_n 0, 1) := by decide +kernel
theorem d2_18 : decode jdk_42_method_139_code 18 = .ok (.invokestatic 1018, 3) := by decide +kernel
theorem d2_21 : decode jdk_42_method_139_code 21 = .ok (.iconst 0, 1) := by decide +kernel
theorem d2_22 : decode jdk_42_method_139_code 22 = .ok (.invokespecial 209, 3) := by decide +kernel
theorem d2_25 : decode jdk_42_method_139_code 25 = .ok (.areturn, 1) := by decide +kernel
theorem pd__C_Z : parseMethodDescriptor "(C)Z" = some ⟨[.char], some .boolean⟩ := by decide +kernel
theorem pd__C__B : parseMethodDescriptor "(C)[B" = some ⟨[.char], some (.array .byte)⟩ := by decide +kernel
theorem pd___BB_V : parseMethodDescriptor "([BB)V" = some ⟨[(.array .byte), .byte], none⟩ := by decide +kernel
theorem ef_2 (p0 : Int32) (wc : Int32) (m : MethodId) : entryFrame m #[(.int p0)] 1 = mkF m 0 #[.val (.int p0)] [] := by first | (simp [entryFrame, mkF, argsToLocals, Value.category]; done) | rfl
def Q2 (Z : State) (p0 : Int32) (wc : Int32) (h0 : Heap) (n0 : Nat) (v : Option Value) (h : Heap) (L : List Loc) : Prop := ∃ b : Addr, v = some (.ref b) ∧ Fr n0 L ∧ Keep h0 h [] ∧ h0.size ≤ b ∧ Exa Z h b "java/lang/String"
set_option maxRecDepth 65536 in
set_option maxHeartbeats 40000000 in
theorem rm2 (l : Launch) (Z : State) (a0 : Array Value) (hw : ∀ d ∈ tables_1, d.before a0 Z = true) (ws : List Jvm.Cond) (p0 : Int32) (wc : Int32) (h0 : Heap) (n0 : Nat) (Z0 : n0 ≤ h0.size) (S_c : Sta Z h0 "java/lang/String" "COMPACT_STRINGS" "Z" (.int wc)) (hwc : ¬ (wc = (0 : Int32))) (hp : ¬ ((255 : Int32) < p0)) :
    MetFree l (⟨"java/lang/String", "valueOf", "(C)Ljava/lang/String;"⟩ : MethodName) (head1 (Jvm.Cond.code (⟨"java/lang/String", "valueOf", "(C)Ljava/lang/String;"⟩ : MethodName) jdk_42_method_139_code 1 (some (.object "java/lang/String")) :: ws) ({ frames := 2, cells := 2, slots := 5, locals := 27 } : Room)) (fun a U => a = #[(.int p0)] ∧ Z.Warmed39 U.vm ∧ U.heap = h0) (fun _ _ _ _ _ => True) (fun _ U o U' => ∃ v L, o = .returned v ∧ Q2 Z p0 wc h0 n0 v U'.heap L ∧ FrameEnd U o U' L ({ frames := 2, cells := 2, slots := 5, locals := 27 } : Room).cells ({ frames := 2, cells := 2, slots := 5, locals := 27 } : Room).slots) := by
  refine MetFree.of_bodySF (plainFor_of_name pn_java_lang_String) hisR ?_
  intro p e s m args below meth c s₁ Bd hml0 hP hK
  obtain ⟨rfl, hZ, hh⟩ := hP
  have hx := Bd.exec
  have hby := Bd.bytes
  have hml : c.maxLocals = 1 := hml0
  have hown : s.vm.findClass "java/lang/String" = some m.cls := findClass_of_methodNamed Bd.named
  have hnm := (name_of_methodNamed Bd.named Bd.method).1
  have X0 : Stand p l e ({ frames := 2, cells := 2, slots := 5, locals := 27 } : Room) s m #[(.int p0)] below meth c s₁ [] 0 0 := Stand.of_body Bd
  have e0 : s₁.heap = h0 := by rw [← hh, Bd.state]; rfl
  have N0 := Fr.nil n0
  have pre0 : ∀ t, Steps p.tables e below (s₁.setTop (mkF m 0 #[.val (.int p0)] [])) t → Steps p.tables e below (s₁.setTop (entryFrame m #[(.int p0)] 1)) t := fun t k => castTop (ef_2 p0 wc m) k
  obtain ⟨T1, X1, e1, st1⟩ := getS2 X0 hx hZ hown (host := "") (Or.inl (hw _ (List.mem_of_getElem? (i := 11) rfl))) Via.refl e0 S_c (g := (mkF m 0 #[.val (.int p0)] [])) rfl (hb hby d2_0)
  obtain ⟨_, _, ⟨T2, L2, k2, n2⟩, -, X2, ⟨Lc2, hQ2, ll2, ly2, lz2⟩, st2⟩ := Jvm.LawKit.callS X1 hx (y := (⟨"java/lang/StringLatin1", "canEncode", "(C)Z"⟩ : MethodName)) hown (mvT hZ (hw _ (List.mem_of_getElem? (i := 12) rfl))) (mvT hZ (hw _ (List.mem_of_getElem? (i := 13) rfl))) (mvT hZ (hw _ (List.mem_of_getElem? (i := 14) rfl))) (mvT hZ (hw _ (List.mem_of_getElem? (i := 15) rfl))) (by decide) (backOf (W := 0) (rm3 l Z a0 hw [] p0 h0 n0 Z0 ) hZ (hw _ (List.mem_of_getElem? (i := 15) rfl)) (hw _ (List.mem_of_getElem? (i := 14) rfl)) (by decide) (by decide)) (g := (mkF m 7 #[.val (.int p0)] [(.int p0)])) rfl (by rw [hml]; rfl) (argsL := [(.int p0)]) (rest := []) (lenOf pd__C_Z rfl) rfl (by show 2 * 0 + _ ≤ _; exact Nat.le_of_eq rfl) (hb hby d2_7) (fun _ _ => ⟨rfl, e1, (by decide : 0 + 0 ≤ _), (by decide : 0 + 0 ≤ _)⟩)
  dsimp only [Pt.U, Pt.locs, Pt.cells, Pt.slots] at X2 ll2 ly2 lz2 st2 hQ2
  subst ll2 ly2 lz2
  obtain ⟨rfl, N2q, e2⟩ := hQ2
  have N2 := Fr.app N0 N2q
  have hc10 : ¬ ((F3 p0) = (0 : Int32)) := by unfold F3; rw [if_neg hp]; decide
  obtain ⟨T3, h3, X3, e3, E3, A3, D3, U3, st3⟩ := newO X2 hx hZ hown (hw _ (List.mem_of_getElem? (i := 16) rfl)) (hw _ (List.mem_of_getElem? (i := 17) rfl)) (hw _ (List.mem_of_getElem? (i := 9) rfl)) e2 (g := (mkF m 13 #[.val (.int p0)] [])) rfl (hb hby d2_13) (by decide) (by decide)
  obtain ⟨b3, g3⟩ : ∃ z, z = h0.size := ⟨_, rfl⟩
  rw [← g3] at A3 D3 st3
  have g_b3 : n0 ≤ b3 := Nat.le_trans Z0 (Nat.le_of_eq g3.symm)
  have sz_b3 : h0.size ≤ b3 := Nat.le_trans (Keep.refl h0 []).1 (Nat.le_of_eq g3.symm)
  have K3 : Keep h0 h3 [] := (Keep.refl h0 []).ext E3
  have F_value_b3 : Fld Z h3 b3 "java/lang/String" "value" "[B" .null := D3 (Or.inr (hw _ (List.mem_of_getElem? (i := 30) rfl))) (ty := (.array .byte)) (by decide)
  have F_coder_b3 : Fld Z h3 b3 "java/lang/String" "coder" "B" (.int (0 : Int32)) := D3 (Or.inr (hw _ (List.mem_of_getElem? (i := 32) rfl))) (ty := .byte) (by decide)
  obtain ⟨_, _, ⟨T4, L4, k4, n4⟩, -, X4, ⟨Lc4, hQ4, ll4, ly4, lz4⟩, st4⟩ := Jvm.LawKit.callS X3 hx (y := (⟨"java/lang/StringLatin1", "toBytes", "(C)[B"⟩ : MethodName)) hown (mvT hZ (hw _ (List.mem_of_getElem? (i := 18) rfl))) (mvT hZ (hw _ (List.mem_of_getElem? (i := 19) rfl))) (mvT hZ (hw _ (List.mem_of_getElem? (i := 14) rfl))) (mvT hZ (hw _ (List.mem_of_getElem? (i := 20) rfl))) (by decide) (backOf (W := 2) (rm4 l Z a0 hw [] p0 h3 n0 (Nat.le_trans Z0 E3.1) ) hZ (hw _ (List.mem_of_getElem? (i := 20) rfl)) (hw _ (List.mem_of_getElem? (i := 14) rfl)) (by decide) (by decide)) (g := (mkF m 18 #[.val (.int p0)] [(.int p0), (.ref b3), (.ref b3)])) rfl (by rw [hml]; rfl) (argsL := [(.int p0)]) (rest := [(.ref b3), (.ref b3)]) (lenOf pd__C__B rfl) rfl (by show 2 * 0 + _ ≤ _; exact Nat.le_of_eq rfl) (hb hby d2_18) (fun _ _ => ⟨rfl, e3, (by decide : 1 + 1 ≤ _), (by decide : 4 + 1 ≤ _)⟩)
  dsimp only [Pt.U, Pt.locs, Pt.cells, Pt.slots] at X4 ll4 ly4 lz4 st4 hQ4
  subst ll4 ly4 lz4
  obtain ⟨b4, rfl, N4q, K4c, u4⟩ := hQ4
  have ne5 : b3 ≠ b4 := Nat.ne_of_lt (Nat.lt_of_lt_of_le A3.lt u4)
  have g_b4 : n0 ≤ b4 := Nat.le_trans (Nat.le_trans Z0 E3.1) u4
  have sz_b4 : h0.size ≤ b4 := Nat.le_trans K3.1 u4
  have N4 := Fr.app N2 N4q
  have K4 : Keep h0 T4.heap [] := K3.trans K4c all0
  obtain ⟨_, _, ⟨T6, L6, k6, n6⟩, -, X6, ⟨Lc6, hQ6, ll6, ly6, lz6⟩, st6⟩ := X4.specialBack hx (y := (⟨"java/lang/String", "<init>", "([BB)V"⟩ : MethodName)) rfl hown (mvT hZ (hw _ (List.mem_of_getElem? (i := 22) rfl))) (mvT hZ (hw _ (List.mem_of_getElem? (i := 23) rfl))) (mvT hZ (hw _ (List.mem_of_getElem? (i := 25) rfl))) (by decide) (backOf (W := 1) (rm5 l Z a0 hw [] b3 b4 (0 : Int32) T4.heap n0 (Nat.le_trans (Nat.le_trans Z0 E3.1) K4c.1) (Exa.keep A3 K4c) (F_value_b3.keep K4c nin0) (F_coder_b3.keep K4c nin0) g_b3) hZ (hw _ (List.mem_of_getElem? (i := 25) rfl)) (hw _ (List.mem_of_getElem? (i := 9) rfl)) (by decide) (by decide)) (g := (mkF m 22 #[.val (.int p0)] [(.int (0 : Int32)), (.ref b4), (.ref b3), (.ref b3)])) rfl (by rw [hml]; rfl) (Steps.refl _) (a := b3) (argsL := [(.ref b4), (.int (0 : Int32))]) (rest := [(.ref b3)]) (lenOf pd___BB_V rfl) rfl (by show 2 * 0 + _ ≤ _; exact Nat.le_of_eq rfl) (hb hby d2_22) (fun _ _ => ⟨rfl, (rfl : T4.heap = T4.heap), (by decide : 2 + 0 ≤ _), (by decide : 5 + 0 ≤ _)⟩)
  dsimp only [Pt.U, Pt.locs, Pt.cells, Pt.slots] at X6 ll6 ly6 lz6 st6 hQ6
  subst ll6 ly6 lz6
  obtain ⟨rfl, N6q, K6c, P6_0⟩ := hQ6
  have N6 := Fr.app N4 N6q
  have K6 : Keep h0 T6.heap [] := K4.trans K6c (allS (Or.inr sz_b3) all0)
  obtain ⟨fs, hr, hrun, hended, hW, hsame⟩ := X6.leave (v := some (.ref b3)) (fun h => by rw [Bd.returns] at h; cases h)
  refine ⟨_, _, pre0 _ ?_, hrun, hended, _, _, rfl, ?_, ⟨_, rfl⟩, hW, hsame.mono (by decide) (by decide)⟩
  · show Steps p.tables e below (s₁.setTop (mkF m 0 #[.val (.int p0)] [])) _
    refine st1 _ ?_
    show Steps p.tables e below (T1.setTop (mkF m 3 #[.val (.int p0)] [(.int wc)])) _
    refine XS.ifNo X1.here hx rfl (hb hby d2_3) rfl ((if0 _ _).trans (feq hwc).1) ?_
    show Steps p.tables e below (T1.setTop (mkF m 6 #[.val (.int p0)] [])) _
    refine XS.iloadN X1.here hx rfl (hb hby d2_6) rfl ?_
    show Steps p.tables e below (T1.setTop (mkF m 7 #[.val (.int p0)] [(.int p0)])) _
    refine st2 _ ?_
    show Steps p.tables e below (T2.setTop (mkF m 10 #[.val (.int p0)] [(.int (F3 p0))])) _
    refine XS.ifNo X2.here hx rfl (hb hby d2_10) rfl ((if0 _ _).trans (feq hc10).1) ?_
    show Steps p.tables e below (T2.setTop (mkF m 13 #[.val (.int p0)] [])) _
    refine st3 _ ?_
    show Steps p.tables e below (T3.setTop (mkF m 16 #[.val (.int p0)] [(.ref b3)])) _
    refine XS.dup X3.here hx rfl (hb hby d2_16) rfl rfl ?_
    show Steps p.tables e below (T3.setTop (mkF m 17 #[.val (.int p0)] [(.ref b3), (.ref b3)])) _
    refine XS.iloadN X3.here hx rfl (hb hby d2_17) rfl ?_
    show Steps p.tables e below (T3.setTop (mkF m 18 #[.val (.int p0)] [(.int p0), (.ref b3), (.ref b3)])) _
    refine st4 _ ?_
    show Steps p.tables e below (T4.setTop (mkF m 21 #[.val (.int p0)] [(.ref b4), (.ref b3), (.ref b3)])) _
    refine XS.iconst X4.here hx rfl (hb hby d2_21) ?_
    show Steps p.tables e below (T4.setTop (mkF m 22 #[.val (.int p0)] [(.int (0 : Int32)), (.ref b4), (.ref b3), (.ref b3)])) _
    refine st6.trans ?_
    show Steps p.tables e below (T6.setTop (mkF m 25 #[.val (.int p0)] [(.ref b3)])) _
    exact retOut X6 hx Bd.returns rfl (Or.inr (Or.inr (Or.inr (Or.inr ⟨rfl, rfl, rfl⟩)))) (hb hby d2_25) hr
  · show Q2 Z p0 wc h0 n0 _ T6.heap _
    rw [(rfl : T6.heap = T6.heap)]
    exact ⟨b3, rfl, N6, K6, sz_b3, P6_0⟩
theorem own_c (x m : Int32) (h0 : 0 ≤ m.toInt) (h1 : m.toInt ≤ 255) : ¬ ((255 : Int32) < (x &&& m).toUInt32.toUInt16.toUInt32.toInt32) := by
  have a := c_and x m h0
  have b := c_i2c (x &&& m)
  rw [Int32.lt_iff_toInt_lt]
  have e : (255 : Int32).toInt = 255 := by decide
  omega
theorem own_notIns {Z : State} {a0 : Array Value} {C S O : String} {n : Nat} (wS : (Cond.superclass S O).before a0 Z = true) (wO : (Cond.noSuperclass O).before a0 Z = true) (wi : (Cond.instantiable C n).before a0 Z = true) (h1 : S ≠ C) (h2 : O ≠ C) : ∃ c t, Z.vm.findClass S = some c ∧ Z.vm.findClass C = some t ∧ Z.vm.assignable c t = false := by
  obtain ⟨t, kt, g1, g2, g3, g4, -⟩ := Cond.instantiable_spec wi
  obtain ⟨o, ko, o1, o2, o3, -, -⟩ := Cond.noSuperclass_spec wO
  obtain ⟨c, h0⟩ := found_sup wS
  obtain ⟨p, k, kp, p1, p2, p3, p4, p5, -, p7⟩ := Cond.superclass_spec h0 wS
  cases p1.symm.trans o1
  have n1 := ids_ne h0 g1 h1
  have n2 := ids_ne o1 g1 h2
  have g4' : kt.isInterface = false := by simp at g4; exact g4.1
  refine ⟨c, t, h0, g1, ?_⟩
  have ns : ∀ fuel, Z.vm.isSubclassAux fuel c t = false := fun fuel => by
    cases fuel with
    | zero => rfl
    | succ f =>
      cases f with
      | zero => simp [Vm.isSubclassAux, n1, p2, p4]
      | succ f => simp [Vm.isSubclassAux, n1, p2, p4, n2, o2, o3]
  show Z.vm.assignableAux (255 + 1) c t = false
  simp [Vm.assignableAux, n1, p2, g2, p5, g3, g4', Vm.isSubclass, ns]
theorem d1_0 : decode method_2_code 0 = .ok (.iload_n 0, 1) := by decide +kernel
theorem d1_1 : decode method_2_code 1 = .ok (.ifCond .ne 7, 3) := by decide +kernel
theorem d1_4 : decode method_2_code 4 = .ok (.getstatic 7, 3) := by decide +kernel
theorem d1_7 : decode method_2_code 7 = .ok (.areturn, 1) := by decide +kernel
theorem d1_8 : decode method_2_code 8 = .ok (.iload_n 0, 1) := by decide +kernel
theorem d1_9 : decode method_2_code 9 = .ok (.iconst 1, 1) := by decide +kernel
theorem d1_10 : decode method_2_code 10 = .ok (.if_icmp .ne 7, 3) := by decide +kernel
theorem d1_13 : decode method_2_code 13 = .ok (.getstatic 13, 3) := by decide +kernel
theorem d1_16 : decode method_2_code 16 = .ok (.areturn, 1) := by decide +kernel
theorem d1_17 : decode method_2_code 17 = .ok (.iload_n 0, 1) := by decide +kernel
theorem d1_18 : decode method_2_code 18 = .ok (.iconst 2, 1) := by decide +kernel
theorem d1_19 : decode method_2_code 19 = .ok (.if_icmp .ne 7, 3) := by decide +kernel
theorem d1_22 : decode method_2_code 22 = .ok (.getstatic 16, 3) := by decide +kernel
theorem d1_25 : decode method_2_code 25 = .ok (.areturn, 1) := by decide +kernel
theorem d1_26 : decode method_2_code 26 = .ok (.iload_n 0, 1) := by decide +kernel
theorem d1_27 : decode method_2_code 27 = .ok (.iconst 3, 1) := by decide +kernel
theorem d1_28 : decode method_2_code 28 = .ok (.if_icmp .ne 7, 3) := by decide +kernel
theorem d1_31 : decode method_2_code 31 = .ok (.getstatic 19, 3) := by decide +kernel
theorem d1_34 : decode method_2_code 34 = .ok (.areturn, 1) := by decide +kernel
theorem d1_35 : decode method_2_code 35 = .ok (.getstatic 22, 3) := by decide +kernel
theorem d1_38 : decode method_2_code 38 = .ok (.areturn, 1) := by decide +kernel
theorem pn_com_example_grove8_grove8_ContextEqualsPinLaw : plainName "com/example/grove8/grove8/ContextEqualsPinLaw" = true := by first | (simp [plainName, overriddenIn]; done) | decide +kernel
theorem ef_1 (p0 : Int32) (w0 w1 w2 w3 w4 : Addr) (m : MethodId) : entryFrame m #[(.int p0)] 1 = mkF m 0 #[.val (.int p0)] [] := by first | (simp [entryFrame, mkF, argsToLocals, Value.category]; done) | rfl
def F1 (p0 : Int32) (w0 w1 w2 w3 w4 : Addr) : Addr := (if p0 = (0 : Int32) then w0 else (if p0 = (1 : Int32) then w1 else (if p0 = (2 : Int32) then w2 else (if p0 = (3 : Int32) then w3 else w4))))
def Q1 (Z : State) (p0 : Int32) (w0 w1 w2 w3 w4 : Addr) (h0 : Heap) (n0 : Nat) (v : Option Value) (h : Heap) (L : List Loc) : Prop := v = some (.ref (F1 p0 w0 w1 w2 w3 w4)) ∧ Fr n0 L ∧ h = h0
set_option maxRecDepth 65536 in
set_option maxHeartbeats 40000000 in
theorem rm1 (l : Launch) (Z : State) (a0 : Array Value) (hw : ∀ d ∈ tables_1, d.before a0 Z = true) (ws : List Jvm.Cond) (p0 : Int32) (w0 w1 w2 w3 w4 : Addr) (h0 : Heap) (n0 : Nat) (Z0 : n0 ≤ h0.size) (S_CONTENT : Sta Z h0 "com/example/grove8/grove8/Context$Mode" "CONTENT" "Lcom/example/grove8/grove8/Context$Mode;" (.ref w0)) (S_COMMENT : Sta Z h0 "com/example/grove8/grove8/Context$Mode" "COMMENT" "Lcom/example/grove8/grove8/Context$Mode;" (.ref w1)) (S_CDATA_SECTION : Sta Z h0 "com/example/grove8/grove8/Context$Mode" "CDATA_SECTION" "Lcom/example/grove8/grove8/Context$Mode;" (.ref w2)) (S_PROCESSING_INSTRUCTION : Sta Z h0 "com/example/grove8/grove8/Context$Mode" "PROCESSING_INSTRUCTION" "Lcom/example/grove8/grove8/Context$Mode;" (.ref w3)) (S_INTERNAL_SUBSET : Sta Z h0 "com/example/grove8/grove8/Context$Mode" "INTERNAL_SUBSET" "Lcom/example/grove8/grove8/Context$Mode;" (.ref w4)) :
    MetFree l (⟨"com/example/grove8/grove8/ContextEqualsPinLaw", "mode", "(I)Lcom/example/grove8/grove8/Context$Mode;"⟩ : MethodName) (head1 (Jvm.Cond.code (⟨"com/example/grove8/grove8/ContextEqualsPinLaw", "mode", "(I)Lcom/example/grove8/grove8/Context$Mode;"⟩ : MethodName) method_2_code 1 (some (.object "com/example/grove8/grove8/Context$Mode")) :: ws) ({ frames := 0, cells := 0, slots := 0, locals := 0 } : Room)) (fun a U => a = #[(.int p0)] ∧ Z.Warmed39 U.vm ∧ U.heap = h0) (fun _ _ _ _ _ => True) (fun _ U o U' => ∃ v L, o = .returned v ∧ Q1 Z p0 w0 w1 w2 w3 w4 h0 n0 v U'.heap L ∧ FrameEnd U o U' L ({ frames := 0, cells := 0, slots := 0, locals := 0 } : Room).cells ({ frames := 0, cells := 0, slots := 0, locals := 0 } : Room).slots) := by
  refine MetFree.of_bodySF (plainFor_of_name pn_com_example_grove8_grove8_ContextEqualsPinLaw) hisR ?_
  intro p e s m args below meth c s₁ Bd hml0 hP hK
  obtain ⟨rfl, hZ, hh⟩ := hP
  have hx := Bd.exec
  have hby := Bd.bytes
  have hml : c.maxLocals = 1 := hml0
  have hown : s.vm.findClass "com/example/grove8/grove8/ContextEqualsPinLaw" = some m.cls := findClass_of_methodNamed Bd.named
  have hnm := (name_of_methodNamed Bd.named Bd.method).1
  have X0 : Stand p l e ({ frames := 0, cells := 0, slots := 0, locals := 0 } : Room) s m #[(.int p0)] below meth c s₁ [] 0 0 := Stand.of_body Bd
  have e0 : s₁.heap = h0 := by rw [← hh, Bd.state]; rfl
  have N0 := Fr.nil n0
  have pre0 : ∀ t, Steps p.tables e below (s₁.setTop (mkF m 0 #[.val (.int p0)] [])) t → Steps p.tables e below (s₁.setTop (entryFrame m #[(.int p0)] 1)) t := fun t k => castTop (ef_1 p0 w0 w1 w2 w3 w4 m) k
  have pre1 : ∀ t, Steps p.tables e below (s₁.setTop (mkF m 1 #[.val (.int p0)] [(.int p0)])) t → Steps p.tables e below (s₁.setTop (entryFrame m #[(.int p0)] 1)) t := fun t kt => pre0 t (by
    show Steps p.tables e below (s₁.setTop (mkF m 0 #[.val (.int p0)] [])) _
    refine XS.iloadN X0.here hx rfl (hb hby d1_0) rfl ?_
    exact kt)
  by_cases hc1 : p0 = (0 : Int32)
  · obtain ⟨T2, X2, e2, st2⟩ := getS2 X0 hx hZ hown (host := "") (Or.inl (hw _ (List.mem_of_getElem? (i := 4) rfl))) Via.refl e0 S_CONTENT (g := (mkF m 4 #[.val (.int p0)] [])) rfl (hb hby d1_4)
    obtain ⟨fs, hr, hrun, hended, hW, hsame⟩ := X2.leave (v := some (.ref w0)) (fun h => by rw [Bd.returns] at h; cases h)
    refine ⟨_, _, pre1 _ ?_, hrun, hended, _, _, rfl, ?_, ⟨_, rfl⟩, hW, hsame.mono (by decide) (by decide)⟩
    · show Steps p.tables e below (s₁.setTop (mkF m 1 #[.val (.int p0)] [(.int p0)])) _
      refine XS.ifNo X0.here hx rfl (hb hby d1_1) rfl ((if0 _ _).trans (teq hc1).2) ?_
      show Steps p.tables e below (s₁.setTop (mkF m 4 #[.val (.int p0)] [])) _
      refine st2 _ ?_
      show Steps p.tables e below (T2.setTop (mkF m 7 #[.val (.int p0)] [(.ref w0)])) _
      exact retOut X2 hx Bd.returns rfl (Or.inr (Or.inr (Or.inr (Or.inr ⟨rfl, rfl, rfl⟩)))) (hb hby d1_7) hr
    · show Q1 Z p0 w0 w1 w2 w3 w4 h0 n0 _ T2.heap _
      rw [e2]
      exact ⟨(by unfold F1; simp only [if_pos hc1]), N0, rfl⟩
  · have pre3 : ∀ t, Steps p.tables e below (s₁.setTop (mkF m 10 #[.val (.int p0)] [(.int (1 : Int32)), (.int p0)])) t → Steps p.tables e below (s₁.setTop (entryFrame m #[(.int p0)] 1)) t := fun t kt => pre1 t (by
      show Steps p.tables e below (s₁.setTop (mkF m 1 #[.val (.int p0)] [(.int p0)])) _
      refine XS.ifYes X0.here hx rfl (pc0 := 1) (pc' := 8) rfl (hb hby d1_1) rfl ((if0 _ _).trans (feq hc1).2) (by decide) (by decide) ?_
      show Steps p.tables e below (s₁.setTop (mkF m 8 #[.val (.int p0)] [])) _
      refine XS.iloadN X0.here hx rfl (hb hby d1_8) rfl ?_
      show Steps p.tables e below (s₁.setTop (mkF m 9 #[.val (.int p0)] [(.int p0)])) _
      refine XS.iconst X0.here hx rfl (hb hby d1_9) ?_
      exact kt)
    by_cases hc10 : p0 = (1 : Int32)
    · obtain ⟨T4, X4, e4, st4⟩ := getS2 X0 hx hZ hown (host := "") (Or.inl (hw _ (List.mem_of_getElem? (i := 66) rfl))) Via.refl e0 S_COMMENT (g := (mkF m 13 #[.val (.int p0)] [])) rfl (hb hby d1_13)
      obtain ⟨fs, hr, hrun, hended, hW, hsame⟩ := X4.leave (v := some (.ref w1)) (fun h => by rw [Bd.returns] at h; cases h)
      refine ⟨_, _, pre3 _ ?_, hrun, hended, _, _, rfl, ?_, ⟨_, rfl⟩, hW, hsame.mono (by decide) (by decide)⟩
      · show Steps p.tables e below (s₁.setTop (mkF m 10 #[.val (.int p0)] [(.int (1 : Int32)), (.int p0)])) _
        refine XS.icmpNo X0.here hx rfl (hb hby d1_10) rfl (teq hc10).2 ?_
        show Steps p.tables e below (s₁.setTop (mkF m 13 #[.val (.int p0)] [])) _
        refine st4 _ ?_
        show Steps p.tables e below (T4.setTop (mkF m 16 #[.val (.int p0)] [(.ref w1)])) _
        exact retOut X4 hx Bd.returns rfl (Or.inr (Or.inr (Or.inr (Or.inr ⟨rfl, rfl, rfl⟩)))) (hb hby d1_16) hr
      · show Q1 Z p0 w0 w1 w2 w3 w4 h0 n0 _ T4.heap _
        rw [e4]
        exact ⟨(by unfold F1; simp only [if_neg hc1, if_pos hc10]), N0, rfl⟩
    · have pre5 : ∀ t, Steps p.tables e below (s₁.setTop (mkF m 19 #[.val (.int p0)] [(.int (2 : Int32)), (.int p0)])) t → Steps p.tables e below (s₁.setTop (entryFrame m #[(.int p0)] 1)) t := fun t kt => pre3 t (by
        show Steps p.tables e below (s₁.setTop (mkF m 10 #[.val (.int p0)] [(.int (1 : Int32)), (.int p0)])) _
        refine XS.icmpYes X0.here hx rfl (pc0 := 10) (pc' := 17) rfl (hb hby d1_10) rfl (feq hc10).2 (by decide) (by decide) ?_
        show Steps p.tables e below (s₁.setTop (mkF m 17 #[.val (.int p0)] [])) _
        refine XS.iloadN X0.here hx rfl (hb hby d1_17) rfl ?_
        show Steps p.tables e below (s₁.setTop (mkF m 18 #[.val (.int p0)] [(.int p0)])) _
        refine XS.iconst X0.here hx rfl (hb hby d1_18) ?_
        exact kt)
      by_cases hc19 : p0 = (2 : Int32)
      · obtain ⟨T6, X6, e6, st6⟩ := getS2 X0 hx hZ hown (host := "") (Or.inl (hw _ (List.mem_of_getElem? (i := 70) rfl))) Via.refl e0 S_CDATA_SECTION (g := (mkF m 22 #[.val (.int p0)] [])) rfl (hb hby d1_22)
        obtain ⟨fs, hr, hrun, hended, hW, hsame⟩ := X6.leave (v := some (.ref w2)) (fun h => by rw [Bd.returns] at h; cases h)
        refine ⟨_, _, pre5 _ ?_, hrun, hended, _, _, rfl, ?_, ⟨_, rfl⟩, hW, hsame.mono (by decide) (by decide)⟩
        · show Steps p.tables e below (s₁.setTop (mkF m 19 #[.val (.int p0)] [(.int (2 : Int32)), (.int p0)])) _
          refine XS.icmpNo X0.here hx rfl (hb hby d1_19) rfl (teq hc19).2 ?_
          show Steps p.tables e below (s₁.setTop (mkF m 22 #[.val (.int p0)] [])) _
          refine st6 _ ?_
          show Steps p.tables e below (T6.setTop (mkF m 25 #[.val (.int p0)] [(.ref w2)])) _
          exact retOut X6 hx Bd.returns rfl (Or.inr (Or.inr (Or.inr (Or.inr ⟨rfl, rfl, rfl⟩)))) (hb hby d1_25) hr
        · show Q1 Z p0 w0 w1 w2 w3 w4 h0 n0 _ T6.heap _
          rw [e6]
          exact ⟨(by unfold F1; simp only [if_neg hc1, if_neg hc10, if_pos hc19]), N0, rfl⟩
      · have pre7 : ∀ t, Steps p.tables e below (s₁.setTop (mkF m 28 #[.val (.int p0)] [(.int (3 : Int32)), (.int p0)])) t → Steps p.tables e below (s₁.setTop (entryFrame m #[(.int p0)] 1)) t := fun t kt => pre5 t (by
          show Steps p.tables e below (s₁.setTop (mkF m 19 #[.val (.int p0)] [(.int (2 : Int32)), (.int p0)])) _
          refine XS.icmpYes X0.here hx rfl (pc0 := 19) (pc' := 26) rfl (hb hby d1_19) rfl (feq hc19).2 (by decide) (by decide) ?_
          show Steps p.tables e below (s₁.setTop (mkF m 26 #[.val (.int p0)] [])) _
          refine XS.iloadN X0.here hx rfl (hb hby d1_26) rfl ?_
          show Steps p.tables e below (s₁.setTop (mkF m 27 #[.val (.int p0)] [(.int p0)])) _
          refine XS.iconst X0.here hx rfl (hb hby d1_27) ?_
          exact kt)
        by_cases hc28 : p0 = (3 : Int32)
        · obtain ⟨T8, X8, e8, st8⟩ := getS2 X0 hx hZ hown (host := "") (Or.inl (hw _ (List.mem_of_getElem? (i := 64) rfl))) Via.refl e0 S_PROCESSING_INSTRUCTION (g := (mkF m 31 #[.val (.int p0)] [])) rfl (hb hby d1_31)
          obtain ⟨fs, hr, hrun, hended, hW, hsame⟩ := X8.leave (v := some (.ref w3)) (fun h => by rw [Bd.returns] at h; cases h)
          refine ⟨_, _, pre7 _ ?_, hrun, hended, _, _, rfl, ?_, ⟨_, rfl⟩, hW, hsame.mono (by decide) (by decide)⟩
          · show Steps p.tables e below (s₁.setTop (mkF m 28 #[.val (.int p0)] [(.int (3 : Int32)), (.int p0)])) _
            refine XS.icmpNo X0.here hx rfl (hb hby d1_28) rfl (teq hc28).2 ?_
            show Steps p.tables e below (s₁.setTop (mkF m 31 #[.val (.int p0)] [])) _
            refine st8 _ ?_
            show Steps p.tables e below (T8.setTop (mkF m 34 #[.val (.int p0)] [(.ref w3)])) _
            exact retOut X8 hx Bd.returns rfl (Or.inr (Or.inr (Or.inr (Or.inr ⟨rfl, rfl, rfl⟩)))) (hb hby d1_34) hr
          · show Q1 Z p0 w0 w1 w2 w3 w4 h0 n0 _ T8.heap _
            rw [e8]
            exact ⟨(by unfold F1; simp only [if_neg hc1, if_neg hc10, if_neg hc19, if_pos hc28]), N0, rfl⟩
        · obtain ⟨T9, X9, e9, st9⟩ := getS2 X0 hx hZ hown (host := "") (Or.inl (hw _ (List.mem_of_getElem? (i := 68) rfl))) Via.refl e0 S_INTERNAL_SUBSET (g := (mkF m 35 #[.val (.int p0)] [])) rfl (hb hby d1_35)
          obtain ⟨fs, hr, hrun, hended, hW, hsame⟩ := X9.leave (v := some (.ref w4)) (fun h => by rw [Bd.returns] at h; cases h)
          refine ⟨_, _, pre7 _ ?_, hrun, hended, _, _, rfl, ?_, ⟨_, rfl⟩, hW, hsame.mono (by decide) (by decide)⟩
          · show Steps p.tables e below (s₁.setTop (mkF m 28 #[.val (.int p0)] [(.int (3 : Int32)), (.int p0)])) _
            refine XS.icmpYes X0.here hx rfl (pc0 := 28) (pc' := 35) rfl (hb hby d1_28) rfl (feq hc28).2 (by decide) (by decide) ?_
            show Steps p.tables e below (s₁.setTop (mkF m 35 #[.val (.int p0)] [])) _
            refine st9 _ ?_
            show Steps p.tables e below (T9.setTop (mkF m 38 #[.val (.int p0)] [(.ref w4)])) _
            exact retOut X9 hx Bd.returns rfl (Or.inr (Or.inr (Or.inr (Or.inr ⟨rfl, rfl, rfl⟩)))) (hb hby d1_38) hr
          · show Q1 Z p0 w0 w1 w2 w3 w4 h0 n0 _ T9.heap _
            rw [e9]
            exact ⟨(by unfold F1; simp only [if_neg hc1, if_neg hc10, if_neg hc19, if_neg hc28]), N0, rfl⟩
theorem d8_0 : decode jdk_30_method_1_code 0 = .ok (.aload_n 0, 1) := by decide +kernel
theorem d8_1 : decode jdk_30_method_1_code 1 = .ok (.invokespecial 1, 3) := by decide +kernel
theorem d8_4 : decode jdk_30_method_1_code 4 = .ok (.return_, 1) := by decide +kernel
theorem pn_java_lang_Record : plainName "java/lang/Record" = true := by first | (simp [plainName, overriddenIn]; done) | decide +kernel
theorem ef_8 (r0 : Addr)  (m : MethodId) : entryFrame m #[(.ref r0)] 1 = mkF m 0 #[.val (.ref r0)] [] := by first | (simp [entryFrame, mkF, argsToLocals, Value.category]; done) | rfl
def Q8 (Z : State) (r0 : Addr)  (h0 : Heap) (n0 : Nat) (v : Option Value) (h : Heap) (L : List Loc) : Prop := v = none ∧ Fr n0 L ∧ h = h0
set_option maxRecDepth 65536 in
set_option maxHeartbeats 40000000 in
theorem rm8 (l : Launch) (Z : State) (a0 : Array Value) (hw : ∀ d ∈ tables_1, d.before a0 Z = true) (ws : List Jvm.Cond) (r0 : Addr)  (h0 : Heap) (n0 : Nat) (Z0 : n0 ≤ h0.size) :
    MetFree l (⟨"java/lang/Record", "<init>", "()V"⟩ : MethodName) (head1 (Jvm.Cond.code (⟨"java/lang/Record", "<init>", "()V"⟩ : MethodName) jdk_30_method_1_code 1 none :: ws) ({ frames := 1, cells := 0, slots := 0, locals := 12 } : Room)) (fun a U => a = #[(.ref r0)] ∧ Z.Warmed39 U.vm ∧ U.heap = h0) (fun _ _ _ _ _ => True) (fun _ U o U' => ∃ v L, o = .returned v ∧ Q8 Z r0 h0 n0 v U'.heap L ∧ FrameEnd U o U' L ({ frames := 1, cells := 0, slots := 0, locals := 12 } : Room).cells ({ frames := 1, cells := 0, slots := 0, locals := 12 } : Room).slots) := by
  refine MetFree.of_bodySF (plainFor_of_name pn_java_lang_Record) hisR ?_
  intro p e s m args below meth c s₁ Bd hml0 hP hK
  obtain ⟨rfl, hZ, hh⟩ := hP
  have hx := Bd.exec
  have hby := Bd.bytes
  have hml : c.maxLocals = 1 := hml0
  have hown : s.vm.findClass "java/lang/Record" = some m.cls := findClass_of_methodNamed Bd.named
  have hnm := (name_of_methodNamed Bd.named Bd.method).1
  have X0 : Stand p l e ({ frames := 1, cells := 0, slots := 0, locals := 12 } : Room) s m #[(.ref r0)] below meth c s₁ [] 0 0 := Stand.of_body Bd
  have e0 : s₁.heap = h0 := by rw [← hh, Bd.state]; rfl
  have N0 := Fr.nil n0
  have pre0 : ∀ t, Steps p.tables e below (s₁.setTop (mkF m 0 #[.val (.ref r0)] [])) t → Steps p.tables e below (s₁.setTop (entryFrame m #[(.ref r0)] 1)) t := fun t k => castTop (ef_8 r0 m) k
  obtain ⟨T1, X1, e1, st1⟩ := initO X0 hx hZ hown (hw _ (List.mem_of_getElem? (i := 44) rfl)) (hw _ (List.mem_of_getElem? (i := 27) rfl)) (hw _ (List.mem_of_getElem? (i := 28) rfl)) e0 (g := (mkF m 1 #[.val (.ref r0)] [(.ref r0)])) rfl (by rw [hml]; rfl) rfl (hb hby d8_1) (by decide) (W := 0) (by show 2 * 0 + _ ≤ _; exact Nat.le_of_eq rfl) (by decide)
  obtain ⟨fs, hr, hrun, hended, hW, hsame⟩ := X1.leave (v := none) (fun _ => rfl)
  refine ⟨_, _, pre0 _ ?_, hrun, hended, _, _, rfl, ?_, ⟨_, rfl⟩, hW, hsame.mono (by decide) (by decide)⟩
  · show Steps p.tables e below (s₁.setTop (mkF m 0 #[.val (.ref r0)] [])) _
    refine XS.aloadN X0.here hx rfl (hb hby d8_0) rfl rfl ?_
    show Steps p.tables e below (s₁.setTop (mkF m 1 #[.val (.ref r0)] [(.ref r0)])) _
    refine st1 _ ?_
    show Steps p.tables e below (T1.setTop (mkF m 4 #[.val (.ref r0)] [])) _
    exact X1.returnOut hx Bd.returns (hb hby d8_4) hr
  · show Q8 Z r0 h0 n0 _ T1.heap _
    rw [e1]
    exact ⟨rfl, N0, rfl⟩
theorem d7_0 : decode prog_12_method_1_code 0 = .ok (.aload_n 0, 1) := by decide +kernel
theorem d7_1 : decode prog_12_method_1_code 1 = .ok (.invokespecial 1, 3) := by decide +kernel
theorem d7_4 : decode prog_12_method_1_code 4 = .ok (.aload_n 0, 1) := by decide +kernel
theorem d7_5 : decode prog_12_method_1_code 5 = .ok (.aload_n 1, 1) := by decide +kernel
theorem d7_6 : decode prog_12_method_1_code 6 = .ok (.putfield 7, 3) := by decide +kernel
theorem d7_9 : decode prog_12_method_1_code 9 = .ok (.aload_n 0, 1) := by decide +kernel
theorem d7_10 : decode prog_12_method_1_code 10 = .ok (.lload_n 2, 1) := by decide +kernel
theorem d7_11 : decode prog_12_method_1_code 11 = .ok (.putfield 13, 3) := by decide +kernel
theorem d7_14 : decode prog_12_method_1_code 14 = .ok (.aload_n 0, 1) := by decide +kernel
theorem d7_15 : decode prog_12_method_1_code 15 = .ok (.lload 4, 2) := by decide +kernel
theorem d7_17 : decode prog_12_method_1_code 17 = .ok (.putfield 17, 3) := by decide +kernel
theorem d7_20 : decode prog_12_method_1_code 20 = .ok (.aload_n 0, 1) := by decide +kernel
theorem d7_21 : decode prog_12_method_1_code 21 = .ok (.lload 6, 2) := by decide +kernel
theorem d7_23 : decode prog_12_method_1_code 23 = .ok (.putfield 20, 3) := by decide +kernel
theorem d7_26 : decode prog_12_method_1_code 26 = .ok (.aload_n 0, 1) := by decide +kernel
theorem d7_27 : decode prog_12_method_1_code 27 = .ok (.iload 8, 2) := by decide +kernel
theorem d7_29 : decode prog_12_method_1_code 29 = .ok (.putfield 23, 3) := by decide +kernel
theorem d7_32 : decode prog_12_method_1_code 32 = .ok (.aload_n 0, 1) := by decide +kernel
theorem d7_33 : decode prog_12_method_1_code 33 = .ok (.lload 9, 2) := by decide +kernel
theorem d7_35 : decode prog_12_method_1_code 35 = .ok (.putfield 27, 3) := by decide +kernel
theorem d7_38 : decode prog_12_method_1_code 38 = .ok (.return_, 1) := by decide +kernel
theorem pn_com_example_grove8_grove8_Context : plainName "com/example/grove8/grove8/Context" = true := by first | (simp [plainName, overriddenIn]; done) | decide +kernel
theorem pd___V : parseMethodDescriptor "()V" = some ⟨[], none⟩ := by decide +kernel
theorem ef_7 (r0 : Addr) (r1 : Addr) (q2 : Int64) (q3 : Int64) (q4 : Int64) (p5 : Int32) (q6 : Int64)  (m : MethodId) : entryFrame m #[(.ref r0), (.ref r1), (.long q2), (.long q3), (.long q4), (.int p5), (.long q6)] 11 = mkF m 0 #[.val (.ref r0), .val (.ref r1), .val (.long q2), .second, .val (.long q3), .second, .val (.long q4), .second, .val (.int p5), .val (.long q6), .second] [] := by first | (simp [entryFrame, mkF, argsToLocals, Value.category]; done) | rfl
def Q7 (Z : State) (r0 : Addr) (r1 : Addr) (q2 : Int64) (q3 : Int64) (q4 : Int64) (p5 : Int32) (q6 : Int64)  (h0 : Heap) (n0 : Nat) (v : Option Value) (h : Heap) (L : List Loc) : Prop := v = none ∧ Fr n0 L ∧ Keep h0 h [r0] ∧ Exa Z h r0 "com/example/grove8/grove8/Context" ∧ Fld Z h r0 "com/example/grove8/grove8/Context" "mode" "Lcom/example/grove8/grove8/Context$Mode;" (.ref r1) ∧ Fld Z h r0 "com/example/grove8/grove8/Context" "at" "J" (.long q2) ∧ Fld Z h r0 "com/example/grove8/grove8/Context" "begunAt" "J" (.long q3) ∧ Fld Z h r0 "com/example/grove8/grove8/Context" "doctypeAt" "J" (.long q4) ∧ Fld Z h r0 "com/example/grove8/grove8/Context" "closing" "I" (.int p5) ∧ Fld Z h r0 "com/example/grove8/grove8/Context" "prologStart" "J" (.long q6)
set_option maxRecDepth 65536 in
set_option maxHeartbeats 40000000 in
theorem rm7 (l : Launch) (Z : State) (a0 : Array Value) (hw : ∀ d ∈ tables_1, d.before a0 Z = true) (ws : List Jvm.Cond) (r0 : Addr) (r1 : Addr) (q2 : Int64) (q3 : Int64) (q4 : Int64) (p5 : Int32) (q6 : Int64)  (h0 : Heap) (n0 : Nat) (Z0 : n0 ≤ h0.size) (E_r : Exa Z h0 r0 "com/example/grove8/grove8/Context") (F_mode : Fld Z h0 r0 "com/example/grove8/grove8/Context" "mode" "Lcom/example/grove8/grove8/Context$Mode;" .null) (F_at : Fld Z h0 r0 "com/example/grove8/grove8/Context" "at" "J" (.long (0 : Int64))) (F_begunAt : Fld Z h0 r0 "com/example/grove8/grove8/Context" "begunAt" "J" (.long (0 : Int64))) (F_doctypeAt : Fld Z h0 r0 "com/example/grove8/grove8/Context" "doctypeAt" "J" (.long (0 : Int64))) (F_closing : Fld Z h0 r0 "com/example/grove8/grove8/Context" "closing" "I" (.int (0 : Int32))) (F_prologStart : Fld Z h0 r0 "com/example/grove8/grove8/Context" "prologStart" "J" (.long (0 : Int64))) (g_r0 : n0 ≤ r0) :
    MetFree l (⟨"com/example/grove8/grove8/Context", "<init>", "(Lcom/example/grove8/grove8/Context$Mode;JJJIJ)V"⟩ : MethodName) (head1 (Jvm.Cond.code (⟨"com/example/grove8/grove8/Context", "<init>", "(Lcom/example/grove8/grove8/Context$Mode;JJJIJ)V"⟩ : MethodName) prog_12_method_1_code 11 none :: ws) ({ frames := 2, cells := 0, slots := 0, locals := 24 } : Room)) (fun a U => a = #[(.ref r0), (.ref r1), (.long q2), (.long q3), (.long q4), (.int p5), (.long q6)] ∧ Z.Warmed39 U.vm ∧ U.heap = h0) (fun _ _ _ _ _ => True) (fun _ U o U' => ∃ v L, o = .returned v ∧ Q7 Z r0 r1 q2 q3 q4 p5 q6 h0 n0 v U'.heap L ∧ FrameEnd U o U' L ({ frames := 2, cells := 0, slots := 0, locals := 24 } : Room).cells ({ frames := 2, cells := 0, slots := 0, locals := 24 } : Room).slots) := by
  refine MetFree.of_bodySF (plainFor_of_name pn_com_example_grove8_grove8_Context) hisR ?_
  intro p e s m args below meth c s₁ Bd hml0 hP hK
  obtain ⟨rfl, hZ, hh⟩ := hP
  have hx := Bd.exec
  have hby := Bd.bytes
  have hml : c.maxLocals = 11 := hml0
  have hown : s.vm.findClass "com/example/grove8/grove8/Context" = some m.cls := findClass_of_methodNamed Bd.named
  have hnm := (name_of_methodNamed Bd.named Bd.method).1
  have X0 : Stand p l e ({ frames := 2, cells := 0, slots := 0, locals := 24 } : Room) s m #[(.ref r0), (.ref r1), (.long q2), (.long q3), (.long q4), (.int p5), (.long q6)] below meth c s₁ [] 0 0 := Stand.of_body Bd
  have e0 : s₁.heap = h0 := by rw [← hh, Bd.state]; rfl
  have N0 := Fr.nil n0
  have pre0 : ∀ t, Steps p.tables e below (s₁.setTop (mkF m 0 #[.val (.ref r0), .val (.ref r1), .val (.long q2), .second, .val (.long q3), .second, .val (.long q4), .second, .val (.int p5), .val (.long q6), .second] [])) t → Steps p.tables e below (s₁.setTop (entryFrame m #[(.ref r0), (.ref r1), (.long q2), (.long q3), (.long q4), (.int p5), (.long q6)] 11)) t := fun t k => castTop (ef_7 r0 r1 q2 q3 q4 p5 q6 m) k
  obtain ⟨_, _, ⟨T1, L1, k1, n1⟩, -, X1, ⟨Lc1, hQ1, ll1, ly1, lz1⟩, st1⟩ := X0.specialBack hx (y := (⟨"java/lang/Record", "<init>", "()V"⟩ : MethodName)) rfl hown (mvT hZ (hw _ (List.mem_of_getElem? (i := 39) rfl))) (mvT hZ (hw _ (List.mem_of_getElem? (i := 40) rfl))) (mvT hZ (hw _ (List.mem_of_getElem? (i := 43) rfl))) (by decide) (backOf (W := 0) (rm8 l Z a0 hw [] r0 h0 n0 Z0 ) hZ (hw _ (List.mem_of_getElem? (i := 43) rfl)) (hw _ (List.mem_of_getElem? (i := 42) rfl)) (by decide) (by decide)) (g := (mkF m 1 #[.val (.ref r0), .val (.ref r1), .val (.long q2), .second, .val (.long q3), .second, .val (.long q4), .second, .val (.int p5), .val (.long q6), .second] [(.ref r0)])) rfl (by rw [hml]; rfl) (Steps.refl _) (a := r0) (argsL := []) (rest := []) (lenOf pd___V rfl) rfl (by show 2 * 0 + _ ≤ _; exact Nat.le_of_eq rfl) (hb hby d7_1) (fun _ _ => ⟨rfl, e0, (by decide : 0 + 0 ≤ _), (by decide : 0 + 0 ≤ _)⟩)
  dsimp only [Pt.U, Pt.locs, Pt.cells, Pt.slots] at X1 ll1 ly1 lz1 st1 hQ1
  subst ll1 ly1 lz1
  obtain ⟨rfl, N1q, e1⟩ := hQ1
  have N1 := Fr.app N0 N1q
  obtain ⟨T2, h2, X2, e2, W2, st2⟩ := putF X1 hx hZ hown (host := "") (Or.inl (hw _ (List.mem_of_getElem? (i := 45) rfl))) Via.refl e1 F_mode E_r (Or.inr ⟨(hw _ (List.mem_of_getElem? (i := 46) rfl)), rfl, hnm⟩) (hw _ (List.mem_of_getElem? (i := 34) rfl)) (ty := (.object "com/example/grove8/grove8/Context$Mode")) (by decide) rfl rfl (g := (mkF m 6 #[.val (.ref r0), .val (.ref r1), .val (.long q2), .second, .val (.long q3), .second, .val (.long q4), .second, .val (.int p5), .val (.long q6), .second] [(.ref r1), (.ref r0)])) rfl rfl (hb hby d7_6)
  have Fw2 : Fld Z h2 r0 "com/example/grove8/grove8/Context" "mode" "Lcom/example/grove8/grove8/Context$Mode;" (.ref r1) := Fld.same W2 F_mode
  have K2 : Keep h0 h2 [r0] := (Keep.refl h0 [r0]).wr W2 (Or.inl (List.mem_of_getElem? (i := 0) rfl))
  have N2 := Fr.snoc X2 N1 g_r0
  obtain ⟨T3, h3, X3, e3, W3, st3⟩ := putF X2 hx hZ hown (host := "") (Or.inl (hw _ (List.mem_of_getElem? (i := 47) rfl))) Via.refl e2 (Fld.other W2 F_at (Or.inr (slot_ne (Or.inr (hw _ (List.mem_of_getElem? (i := 48) rfl))) (Or.inr (hw _ (List.mem_of_getElem? (i := 46) rfl))) (by decide) (t := .long) (t' := (.object "com/example/grove8/grove8/Context$Mode")) (by decide) (by decide)))) (Exa.wr W2 E_r) (Or.inr ⟨(hw _ (List.mem_of_getElem? (i := 48) rfl)), rfl, hnm⟩) (hw _ (List.mem_of_getElem? (i := 34) rfl)) (ty := .long) (by decide) rfl rfl (g := (mkF m 11 #[.val (.ref r0), .val (.ref r1), .val (.long q2), .second, .val (.long q3), .second, .val (.long q4), .second, .val (.int p5), .val (.long q6), .second] [(.long q2), (.ref r0)])) rfl rfl (hb hby d7_11)
  have Fw3 : Fld Z h3 r0 "com/example/grove8/grove8/Context" "at" "J" (.long q2) := Fld.same W3 (Fld.other W2 F_at (Or.inr (slot_ne (Or.inr (hw _ (List.mem_of_getElem? (i := 48) rfl))) (Or.inr (hw _ (List.mem_of_getElem? (i := 46) rfl))) (by decide) (t := .long) (t' := (.object "com/example/grove8/grove8/Context$Mode")) (by decide) (by decide))))
  have K3 : Keep h0 h3 [r0] := K2.wr W3 (Or.inl (List.mem_of_getElem? (i := 0) rfl))
  have N3 := Fr.snoc X3 N2 g_r0
  obtain ⟨T4, h4, X4, e4, W4, st4⟩ := putF X3 hx hZ hown (host := "") (Or.inl (hw _ (List.mem_of_getElem? (i := 49) rfl))) Via.refl e3 (Fld.other W3 (Fld.other W2 F_begunAt (Or.inr (slot_ne (Or.inr (hw _ (List.mem_of_getElem? (i := 50) rfl))) (Or.inr (hw _ (List.mem_of_getElem? (i := 46) rfl))) (by decide) (t := .long) (t' := (.object "com/example/grove8/grove8/Context$Mode")) (by decide) (by decide)))) (Or.inr (slot_ne (Or.inr (hw _ (List.mem_of_getElem? (i := 50) rfl))) (Or.inr (hw _ (List.mem_of_getElem? (i := 48) rfl))) (by decide) (t := .long) (t' := .long) (by decide) (by decide)))) (Exa.wr W3 (Exa.wr W2 E_r)) (Or.inr ⟨(hw _ (List.mem_of_getElem? (i := 50) rfl)), rfl, hnm⟩) (hw _ (List.mem_of_getElem? (i := 34) rfl)) (ty := .long) (by decide) rfl rfl (g := (mkF m 17 #[.val (.ref r0), .val (.ref r1), .val (.long q2), .second, .val (.long q3), .second, .val (.long q4), .second, .val (.int p5), .val (.long q6), .second] [(.long q3), (.ref r0)])) rfl rfl (hb hby d7_17)
  have Fw4 : Fld Z h4 r0 "com/example/grove8/grove8/Context" "begunAt" "J" (.long q3) := Fld.same W4 (Fld.other W3 (Fld.other W2 F_begunAt (Or.inr (slot_ne (Or.inr (hw _ (List.mem_of_getElem? (i := 50) rfl))) (Or.inr (hw _ (List.mem_of_getElem? (i := 46) rfl))) (by decide) (t := .long) (t' := (.object "com/example/grove8/grove8/Context$Mode")) (by decide) (by decide)))) (Or.inr (slot_ne (Or.inr (hw _ (List.mem_of_getElem? (i := 50) rfl))) (Or.inr (hw _ (List.mem_of_getElem? (i := 48) rfl))) (by decide) (t := .long) (t' := .long) (by decide) (by decide))))
  have K4 : Keep h0 h4 [r0] := K3.wr W4 (Or.inl (List.mem_of_getElem? (i := 0) rfl))
  have N4 := Fr.snoc X4 N3 g_r0
  obtain ⟨T5, h5, X5, e5, W5, st5⟩ := putF X4 hx hZ hown (host := "") (Or.inl (hw _ (List.mem_of_getElem? (i := 51) rfl))) Via.refl e4 (Fld.other W4 (Fld.other W3 (Fld.other W2 F_doctypeAt (Or.inr (slot_ne (Or.inr (hw _ (List.mem_of_getElem? (i := 52) rfl))) (Or.inr (hw _ (List.mem_of_getElem? (i := 46) rfl))) (by decide) (t := .long) (t' := (.object "com/example/grove8/grove8/Context$Mode")) (by decide) (by decide)))) (Or.inr (slot_ne (Or.inr (hw _ (List.mem_of_getElem? (i := 52) rfl))) (Or.inr (hw _ (List.mem_of_getElem? (i := 48) rfl))) (by decide) (t := .long) (t' := .long) (by decide) (by decide)))) (Or.inr (slot_ne (Or.inr (hw _ (List.mem_of_getElem? (i := 52) rfl))) (Or.inr (hw _ (List.mem_of_getElem? (i := 50) rfl))) (by decide) (t := .long) (t' := .long) (by decide) (by decide)))) (Exa.wr W4 (Exa.wr W3 (Exa.wr W2 E_r))) (Or.inr ⟨(hw _ (List.mem_of_getElem? (i := 52) rfl)), rfl, hnm⟩) (hw _ (List.mem_of_getElem? (i := 34) rfl)) (ty := .long) (by decide) rfl rfl (g := (mkF m 23 #[.val (.ref r0), .val (.ref r1), .val (.long q2), .second, .val (.long q3), .second, .val (.long q4), .second, .val (.int p5), .val (.long q6), .second] [(.long q4), (.ref r0)])) rfl rfl (hb hby d7_23)
  have Fw5 : Fld Z h5 r0 "com/example/grove8/grove8/Context" "doctypeAt" "J" (.long q4) := Fld.same W5 (Fld.other W4 (Fld.other W3 (Fld.other W2 F_doctypeAt (Or.inr (slot_ne (Or.inr (hw _ (List.mem_of_getElem? (i := 52) rfl))) (Or.inr (hw _ (List.mem_of_getElem? (i := 46) rfl))) (by decide) (t := .long) (t' := (.object "com/example/grove8/grove8/Context$Mode")) (by decide) (by decide)))) (Or.inr (slot_ne (Or.inr (hw _ (List.mem_of_getElem? (i := 52) rfl))) (Or.inr (hw _ (List.mem_of_getElem? (i := 48) rfl))) (by decide) (t := .long) (t' := .long) (by decide) (by decide)))) (Or.inr (slot_ne (Or.inr (hw _ (List.mem_of_getElem? (i := 52) rfl))) (Or.inr (hw _ (List.mem_of_getElem? (i := 50) rfl))) (by decide) (t := .long) (t' := .long) (by decide) (by decide))))
  have K5 : Keep h0 h5 [r0] := K4.wr W5 (Or.inl (List.mem_of_getElem? (i := 0) rfl))
  have N5 := Fr.snoc X5 N4 g_r0
  obtain ⟨T6, h6, X6, e6, W6, st6⟩ := putF X5 hx hZ hown (host := "") (Or.inl (hw _ (List.mem_of_getElem? (i := 53) rfl))) Via.refl e5 (Fld.other W5 (Fld.other W4 (Fld.other W3 (Fld.other W2 F_closing (Or.inr (slot_ne (Or.inr (hw _ (List.mem_of_getElem? (i := 54) rfl))) (Or.inr (hw _ (List.mem_of_getElem? (i := 46) rfl))) (by decide) (t := .int) (t' := (.object "com/example/grove8/grove8/Context$Mode")) (by decide) (by decide)))) (Or.inr (slot_ne (Or.inr (hw _ (List.mem_of_getElem? (i := 54) rfl))) (Or.inr (hw _ (List.mem_of_getElem? (i := 48) rfl))) (by decide) (t := .int) (t' := .long) (by decide) (by decide)))) (Or.inr (slot_ne (Or.inr (hw _ (List.mem_of_getElem? (i := 54) rfl))) (Or.inr (hw _ (List.mem_of_getElem? (i := 50) rfl))) (by decide) (t := .int) (t' := .long) (by decide) (by decide)))) (Or.inr (slot_ne (Or.inr (hw _ (List.mem_of_getElem? (i := 54) rfl))) (Or.inr (hw _ (List.mem_of_getElem? (i := 52) rfl))) (by decide) (t := .int) (t' := .long) (by decide) (by decide)))) (Exa.wr W5 (Exa.wr W4 (Exa.wr W3 (Exa.wr W2 E_r)))) (Or.inr ⟨(hw _ (List.mem_of_getElem? (i := 54) rfl)), rfl, hnm⟩) (hw _ (List.mem_of_getElem? (i := 34) rfl)) (ty := .int) (by decide) rfl rfl (g := (mkF m 29 #[.val (.ref r0), .val (.ref r1), .val (.long q2), .second, .val (.long q3), .second, .val (.long q4), .second, .val (.int p5), .val (.long q6), .second] [(.int p5), (.ref r0)])) rfl rfl (hb hby d7_29)
  have Fw6 : Fld Z h6 r0 "com/example/grove8/grove8/Context" "closing" "I" (.int p5) := Fld.same W6 (Fld.other W5 (Fld.other W4 (Fld.other W3 (Fld.other W2 F_closing (Or.inr (slot_ne (Or.inr (hw _ (List.mem_of_getElem? (i := 54) rfl))) (Or.inr (hw _ (List.mem_of_getElem? (i := 46) rfl))) (by decide) (t := .int) (t' := (.object "com/example/grove8/grove8/Context$Mode")) (by decide) (by decide)))) (Or.inr (slot_ne (Or.inr (hw _ (List.mem_of_getElem? (i := 54) rfl))) (Or.inr (hw _ (List.mem_of_getElem? (i := 48) rfl))) (by decide) (t := .int) (t' := .long) (by decide) (by decide)))) (Or.inr (slot_ne (Or.inr (hw _ (List.mem_of_getElem? (i := 54) rfl))) (Or.inr (hw _ (List.mem_of_getElem? (i := 50) rfl))) (by decide) (t := .int) (t' := .long) (by decide) (by decide)))) (Or.inr (slot_ne (Or.inr (hw _ (List.mem_of_getElem? (i := 54) rfl))) (Or.inr (hw _ (List.mem_of_getElem? (i := 52) rfl))) (by decide) (t := .int) (t' := .long) (by decide) (by decide))))
  have K6 : Keep h0 h6 [r0] := K5.wr W6 (Or.inl (List.mem_of_getElem? (i := 0) rfl))
  have N6 := Fr.snoc X6 N5 g_r0
  obtain ⟨T7, h7, X7, e7, W7, st7⟩ := putF X6 hx hZ hown (host := "") (Or.inl (hw _ (List.mem_of_getElem? (i := 55) rfl))) Via.refl e6 (Fld.other W6 (Fld.other W5 (Fld.other W4 (Fld.other W3 (Fld.other W2 F_prologStart (Or.inr (slot_ne (Or.inr (hw _ (List.mem_of_getElem? (i := 56) rfl))) (Or.inr (hw _ (List.mem_of_getElem? (i := 46) rfl))) (by decide) (t := .long) (t' := (.object "com/example/grove8/grove8/Context$Mode")) (by decide) (by decide)))) (Or.inr (slot_ne (Or.inr (hw _ (List.mem_of_getElem? (i := 56) rfl))) (Or.inr (hw _ (List.mem_of_getElem? (i := 48) rfl))) (by decide) (t := .long) (t' := .long) (by decide) (by decide)))) (Or.inr (slot_ne (Or.inr (hw _ (List.mem_of_getElem? (i := 56) rfl))) (Or.inr (hw _ (List.mem_of_getElem? (i := 50) rfl))) (by decide) (t := .long) (t' := .long) (by decide) (by decide)))) (Or.inr (slot_ne (Or.inr (hw _ (List.mem_of_getElem? (i := 56) rfl))) (Or.inr (hw _ (List.mem_of_getElem? (i := 52) rfl))) (by decide) (t := .long) (t' := .long) (by decide) (by decide)))) (Or.inr (slot_ne (Or.inr (hw _ (List.mem_of_getElem? (i := 56) rfl))) (Or.inr (hw _ (List.mem_of_getElem? (i := 54) rfl))) (by decide) (t := .long) (t' := .int) (by decide) (by decide)))) (Exa.wr W6 (Exa.wr W5 (Exa.wr W4 (Exa.wr W3 (Exa.wr W2 E_r))))) (Or.inr ⟨(hw _ (List.mem_of_getElem? (i := 56) rfl)), rfl, hnm⟩) (hw _ (List.mem_of_getElem? (i := 34) rfl)) (ty := .long) (by decide) rfl rfl (g := (mkF m 35 #[.val (.ref r0), .val (.ref r1), .val (.long q2), .second, .val (.long q3), .second, .val (.long q4), .second, .val (.int p5), .val (.long q6), .second] [(.long q6), (.ref r0)])) rfl rfl (hb hby d7_35)
  have Fw7 : Fld Z h7 r0 "com/example/grove8/grove8/Context" "prologStart" "J" (.long q6) := Fld.same W7 (Fld.other W6 (Fld.other W5 (Fld.other W4 (Fld.other W3 (Fld.other W2 F_prologStart (Or.inr (slot_ne (Or.inr (hw _ (List.mem_of_getElem? (i := 56) rfl))) (Or.inr (hw _ (List.mem_of_getElem? (i := 46) rfl))) (by decide) (t := .long) (t' := (.object "com/example/grove8/grove8/Context$Mode")) (by decide) (by decide)))) (Or.inr (slot_ne (Or.inr (hw _ (List.mem_of_getElem? (i := 56) rfl))) (Or.inr (hw _ (List.mem_of_getElem? (i := 48) rfl))) (by decide) (t := .long) (t' := .long) (by decide) (by decide)))) (Or.inr (slot_ne (Or.inr (hw _ (List.mem_of_getElem? (i := 56) rfl))) (Or.inr (hw _ (List.mem_of_getElem? (i := 50) rfl))) (by decide) (t := .long) (t' := .long) (by decide) (by decide)))) (Or.inr (slot_ne (Or.inr (hw _ (List.mem_of_getElem? (i := 56) rfl))) (Or.inr (hw _ (List.mem_of_getElem? (i := 52) rfl))) (by decide) (t := .long) (t' := .long) (by decide) (by decide)))) (Or.inr (slot_ne (Or.inr (hw _ (List.mem_of_getElem? (i := 56) rfl))) (Or.inr (hw _ (List.mem_of_getElem? (i := 54) rfl))) (by decide) (t := .long) (t' := .int) (by decide) (by decide))))
  have K7 : Keep h0 h7 [r0] := K6.wr W7 (Or.inl (List.mem_of_getElem? (i := 0) rfl))
  have N7 := Fr.snoc X7 N6 g_r0
  obtain ⟨fs, hr, hrun, hended, hW, hsame⟩ := X7.leave (v := none) (fun _ => rfl)
  refine ⟨_, _, pre0 _ ?_, hrun, hended, _, _, rfl, ?_, ⟨_, rfl⟩, hW, hsame.mono (by decide) (by decide)⟩
  · show Steps p.tables e below (s₁.setTop (mkF m 0 #[.val (.ref r0), .val (.ref r1), .val (.long q2), .second, .val (.long q3), .second, .val (.long q4), .second, .val (.int p5), .val (.long q6), .second] [])) _
    refine XS.aloadN X0.here hx rfl (hb hby d7_0) rfl rfl ?_
    show Steps p.tables e below (s₁.setTop (mkF m 1 #[.val (.ref r0), .val (.ref r1), .val (.long q2), .second, .val (.long q3), .second, .val (.long q4), .second, .val (.int p5), .val (.long q6), .second] [(.ref r0)])) _
    refine st1.trans ?_
    show Steps p.tables e below (T1.setTop (mkF m 4 #[.val (.ref r0), .val (.ref r1), .val (.long q2), .second, .val (.long q3), .second, .val (.long q4), .second, .val (.int p5), .val (.long q6), .second] [])) _
    refine XS.aloadN X1.here hx rfl (hb hby d7_4) rfl rfl ?_
    show Steps p.tables e below (T1.setTop (mkF m 5 #[.val (.ref r0), .val (.ref r1), .val (.long q2), .second, .val (.long q3), .second, .val (.long q4), .second, .val (.int p5), .val (.long q6), .second] [(.ref r0)])) _
    refine XS.aloadN X1.here hx rfl (hb hby d7_5) rfl rfl ?_
    show Steps p.tables e below (T1.setTop (mkF m 6 #[.val (.ref r0), .val (.ref r1), .val (.long q2), .second, .val (.long q3), .second, .val (.long q4), .second, .val (.int p5), .val (.long q6), .second] [(.ref r1), (.ref r0)])) _
    refine st2 _ ?_
    show Steps p.tables e below (T2.setTop (mkF m 9 #[.val (.ref r0), .val (.ref r1), .val (.long q2), .second, .val (.long q3), .second, .val (.long q4), .second, .val (.int p5), .val (.long q6), .second] [])) _
    refine XS.aloadN X2.here hx rfl (hb hby d7_9) rfl rfl ?_
    show Steps p.tables e below (T2.setTop (mkF m 10 #[.val (.ref r0), .val (.ref r1), .val (.long q2), .second, .val (.long q3), .second, .val (.long q4), .second, .val (.int p5), .val (.long q6), .second] [(.ref r0)])) _
    refine XS.lloadN X2.here hx rfl (hb hby d7_10) rfl ?_
    show Steps p.tables e below (T2.setTop (mkF m 11 #[.val (.ref r0), .val (.ref r1), .val (.long q2), .second, .val (.long q3), .second, .val (.long q4), .second, .val (.int p5), .val (.long q6), .second] [(.long q2), (.ref r0)])) _
    refine st3 _ ?_
    show Steps p.tables e below (T3.setTop (mkF m 14 #[.val (.ref r0), .val (.ref r1), .val (.long q2), .second, .val (.long q3), .second, .val (.long q4), .second, .val (.int p5), .val (.long q6), .second] [])) _
    refine XS.aloadN X3.here hx rfl (hb hby d7_14) rfl rfl ?_
    show Steps p.tables e below (T3.setTop (mkF m 15 #[.val (.ref r0), .val (.ref r1), .val (.long q2), .second, .val (.long q3), .second, .val (.long q4), .second, .val (.int p5), .val (.long q6), .second] [(.ref r0)])) _
    refine XS.lload X3.here hx rfl (hb hby d7_15) rfl ?_
    show Steps p.tables e below (T3.setTop (mkF m 17 #[.val (.ref r0), .val (.ref r1), .val (.long q2), .second, .val (.long q3), .second, .val (.long q4), .second, .val (.int p5), .val (.long q6), .second] [(.long q3), (.ref r0)])) _
    refine st4 _ ?_
    show Steps p.tables e below (T4.setTop (mkF m 20 #[.val (.ref r0), .val (.ref r1), .val (.long q2), .second, .val (.long q3), .second, .val (.long q4), .second, .val (.int p5), .val (.long q6), .second] [])) _
    refine XS.aloadN X4.here hx rfl (hb hby d7_20) rfl rfl ?_
    show Steps p.tables e below (T4.setTop (mkF m 21 #[.val (.ref r0), .val (.ref r1), .val (.long q2), .second, .val (.long q3), .second, .val (.long q4), .second, .val (.int p5), .val (.long q6), .second] [(.ref r0)])) _
    refine XS.lload X4.here hx rfl (hb hby d7_21) rfl ?_
    show Steps p.tables e below (T4.setTop (mkF m 23 #[.val (.ref r0), .val (.ref r1), .val (.long q2), .second, .val (.long q3), .second, .val (.long q4), .second, .val (.int p5), .val (.long q6), .second] [(.long q4), (.ref r0)])) _
    refine st5 _ ?_
    show Steps p.tables e below (T5.setTop (mkF m 26 #[.val (.ref r0), .val (.ref r1), .val (.long q2), .second, .val (.long q3), .second, .val (.long q4), .second, .val (.int p5), .val (.long q6), .second] [])) _
    refine XS.aloadN X5.here hx rfl (hb hby d7_26) rfl rfl ?_
    show Steps p.tables e below (T5.setTop (mkF m 27 #[.val (.ref r0), .val (.ref r1), .val (.long q2), .second, .val (.long q3), .second, .val (.long q4), .second, .val (.int p5), .val (.long q6), .second] [(.ref r0)])) _
    refine XS.iload X5.here hx rfl (hb hby d7_27) rfl ?_
    show Steps p.tables e below (T5.setTop (mkF m 29 #[.val (.ref r0), .val (.ref r1), .val (.long q2), .second, .val (.long q3), .second, .val (.long q4), .second, .val (.int p5), .val (.long q6), .second] [(.int p5), (.ref r0)])) _
    refine st6 _ ?_
    show Steps p.tables e below (T6.setTop (mkF m 32 #[.val (.ref r0), .val (.ref r1), .val (.long q2), .second, .val (.long q3), .second, .val (.long q4), .second, .val (.int p5), .val (.long q6), .second] [])) _
    refine XS.aloadN X6.here hx rfl (hb hby d7_32) rfl rfl ?_
    show Steps p.tables e below (T6.setTop (mkF m 33 #[.val (.ref r0), .val (.ref r1), .val (.long q2), .second, .val (.long q3), .second, .val (.long q4), .second, .val (.int p5), .val (.long q6), .second] [(.ref r0)])) _
    refine XS.lload X6.here hx rfl (hb hby d7_33) rfl ?_
    show Steps p.tables e below (T6.setTop (mkF m 35 #[.val (.ref r0), .val (.ref r1), .val (.long q2), .second, .val (.long q3), .second, .val (.long q4), .second, .val (.int p5), .val (.long q6), .second] [(.long q6), (.ref r0)])) _
    refine st7 _ ?_
    show Steps p.tables e below (T7.setTop (mkF m 38 #[.val (.ref r0), .val (.ref r1), .val (.long q2), .second, .val (.long q3), .second, .val (.long q4), .second, .val (.int p5), .val (.long q6), .second] [])) _
    exact X7.returnOut hx Bd.returns (hb hby d7_38) hr
  · show Q7 Z r0 r1 q2 q3 q4 p5 q6 h0 n0 _ T7.heap _
    rw [e7]
    exact ⟨rfl, N7, K7, (Exa.wr W7 (Exa.wr W6 (Exa.wr W5 (Exa.wr W4 (Exa.wr W3 (Exa.wr W2 E_r)))))), (Fld.other W7 (Fld.other W6 (Fld.other W5 (Fld.other W4 (Fld.other W3 Fw2 (Or.inr (slot_ne (Or.inr (hw _ (List.mem_of_getElem? (i := 46) rfl))) (Or.inr (hw _ (List.mem_of_getElem? (i := 48) rfl))) (by decide) (t := (.object "com/example/grove8/grove8/Context$Mode")) (t' := .long) (by decide) (by decide)))) (Or.inr (slot_ne (Or.inr (hw _ (List.mem_of_getElem? (i := 46) rfl))) (Or.inr (hw _ (List.mem_of_getElem? (i := 50) rfl))) (by decide) (t := (.object "com/example/grove8/grove8/Context$Mode")) (t' := .long) (by decide) (by decide)))) (Or.inr (slot_ne (Or.inr (hw _ (List.mem_of_getElem? (i := 46) rfl))) (Or.inr (hw _ (List.mem_of_getElem? (i := 52) rfl))) (by decide) (t := (.object "com/example/grove8/grove8/Context$Mode")) (t' := .long) (by decide) (by decide)))) (Or.inr (slot_ne (Or.inr (hw _ (List.mem_of_getElem? (i := 46) rfl))) (Or.inr (hw _ (List.mem_of_getElem? (i := 54) rfl))) (by decide) (t := (.object "com/example/grove8/grove8/Context$Mode")) (t' := .int) (by decide) (by decide)))) (Or.inr (slot_ne (Or.inr (hw _ (List.mem_of_getElem? (i := 46) rfl))) (Or.inr (hw _ (List.mem_of_getElem? (i := 56) rfl))) (by decide) (t := (.object "com/example/grove8/grove8/Context$Mode")) (t' := .long) (by decide) (by decide)))), (Fld.other W7 (Fld.other W6 (Fld.other W5 (Fld.other W4 Fw3 (Or.inr (slot_ne (Or.inr (hw _ (List.mem_of_getElem? (i := 48) rfl))) (Or.inr (hw _ (List.mem_of_getElem? (i := 50) rfl))) (by decide) (t := .long) (t' := .long) (by decide) (by decide)))) (Or.inr (slot_ne (Or.inr (hw _ (List.mem_of_getElem? (i := 48) rfl))) (Or.inr (hw _ (List.mem_of_getElem? (i := 52) rfl))) (by decide) (t := .long) (t' := .long) (by decide) (by decide)))) (Or.inr (slot_ne (Or.inr (hw _ (List.mem_of_getElem? (i := 48) rfl))) (Or.inr (hw _ (List.mem_of_getElem? (i := 54) rfl))) (by decide) (t := .long) (t' := .int) (by decide) (by decide)))) (Or.inr (slot_ne (Or.inr (hw _ (List.mem_of_getElem? (i := 48) rfl))) (Or.inr (hw _ (List.mem_of_getElem? (i := 56) rfl))) (by decide) (t := .long) (t' := .long) (by decide) (by decide)))), (Fld.other W7 (Fld.other W6 (Fld.other W5 Fw4 (Or.inr (slot_ne (Or.inr (hw _ (List.mem_of_getElem? (i := 50) rfl))) (Or.inr (hw _ (List.mem_of_getElem? (i := 52) rfl))) (by decide) (t := .long) (t' := .long) (by decide) (by decide)))) (Or.inr (slot_ne (Or.inr (hw _ (List.mem_of_getElem? (i := 50) rfl))) (Or.inr (hw _ (List.mem_of_getElem? (i := 54) rfl))) (by decide) (t := .long) (t' := .int) (by decide) (by decide)))) (Or.inr (slot_ne (Or.inr (hw _ (List.mem_of_getElem? (i := 50) rfl))) (Or.inr (hw _ (List.mem_of_getElem? (i := 56) rfl))) (by decide) (t := .long) (t' := .long) (by decide) (by decide)))), (Fld.other W7 (Fld.other W6 Fw5 (Or.inr (slot_ne (Or.inr (hw _ (List.mem_of_getElem? (i := 52) rfl))) (Or.inr (hw _ (List.mem_of_getElem? (i := 54) rfl))) (by decide) (t := .long) (t' := .int) (by decide) (by decide)))) (Or.inr (slot_ne (Or.inr (hw _ (List.mem_of_getElem? (i := 52) rfl))) (Or.inr (hw _ (List.mem_of_getElem? (i := 56) rfl))) (by decide) (t := .long) (t' := .long) (by decide) (by decide)))), (Fld.other W7 Fw6 (Or.inr (slot_ne (Or.inr (hw _ (List.mem_of_getElem? (i := 54) rfl))) (Or.inr (hw _ (List.mem_of_getElem? (i := 56) rfl))) (by decide) (t := .int) (t' := .long) (by decide) (by decide)))), Fw7⟩
theorem d9_0 : decode prog_12_method_2_code 0 = .ok (.aload_n 1, 1) := by decide +kernel
theorem d9_1 : decode prog_12_method_2_code 1 = .ok (.instanceof 8, 3) := by decide +kernel
theorem d9_4 : decode prog_12_method_2_code 4 = .ok (.ifCond .eq 82, 3) := by decide +kernel
theorem d9_86 : decode prog_12_method_2_code 86 = .ok (.iconst 0, 1) := by decide +kernel
theorem d9_87 : decode prog_12_method_2_code 87 = .ok (.ireturn, 1) := by decide +kernel
theorem ef_9n (r0 : Addr)  (m : MethodId) : entryFrame m #[(.ref r0), .null] 3 = mkF m 0 #[.val (.ref r0), .val .null, .unset] [] := by first | (simp [entryFrame, mkF, argsToLocals, Value.category]; done) | rfl
def Q9n (Z : State) (r0 : Addr)  (h0 : Heap) (n0 : Nat) (v : Option Value) (h : Heap) (L : List Loc) : Prop := v = some (.int (0 : Int32)) ∧ Fr n0 L ∧ h = h0
set_option maxRecDepth 65536 in
set_option maxHeartbeats 40000000 in
theorem rm9n (l : Launch) (Z : State) (a0 : Array Value) (hw : ∀ d ∈ tables_1, d.before a0 Z = true) (ws : List Jvm.Cond) (r0 : Addr)  (h0 : Heap) (n0 : Nat) (Z0 : n0 ≤ h0.size) :
    MetFree l (⟨"com/example/grove8/grove8/Context", "equals", "(Ljava/lang/Object;)Z"⟩ : MethodName) (head1 (Jvm.Cond.code (⟨"com/example/grove8/grove8/Context", "equals", "(Ljava/lang/Object;)Z"⟩ : MethodName) prog_12_method_2_code 3 (some .boolean) :: ws) ({ frames := 0, cells := 0, slots := 0, locals := 0 } : Room)) (fun a U => a = #[(.ref r0), .null] ∧ Z.Warmed39 U.vm ∧ U.heap = h0) (fun _ _ _ _ _ => True) (fun _ U o U' => ∃ v L, o = .returned v ∧ Q9n Z r0 h0 n0 v U'.heap L ∧ FrameEnd U o U' L ({ frames := 0, cells := 0, slots := 0, locals := 0 } : Room).cells ({ frames := 0, cells := 0, slots := 0, locals := 0 } : Room).slots) := by
  refine MetFree.of_bodySF (plainFor_of_name pn_com_example_grove8_grove8_Context) hisR ?_
  intro p e s m args below meth c s₁ Bd hml0 hP hK
  obtain ⟨rfl, hZ, hh⟩ := hP
  have hx := Bd.exec
  have hby := Bd.bytes
  have hml : c.maxLocals = 3 := hml0
  have hown : s.vm.findClass "com/example/grove8/grove8/Context" = some m.cls := findClass_of_methodNamed Bd.named
  have hnm := (name_of_methodNamed Bd.named Bd.method).1
  have X0 : Stand p l e ({ frames := 0, cells := 0, slots := 0, locals := 0 } : Room) s m #[(.ref r0), .null] below meth c s₁ [] 0 0 := Stand.of_body Bd
  have e0 : s₁.heap = h0 := by rw [← hh, Bd.state]; rfl
  have N0 := Fr.nil n0
  have pre0 : ∀ t, Steps p.tables e below (s₁.setTop (mkF m 0 #[.val (.ref r0), .val .null, .unset] [])) t → Steps p.tables e below (s₁.setTop (entryFrame m #[(.ref r0), .null] 3)) t := fun t k => castTop (ef_9n r0 m) k
  obtain ⟨fs, hr, hrun, hended, hW, hsame⟩ := X0.leave (v := some (.int (0 : Int32))) (fun h => by rw [Bd.returns] at h; cases h)
  refine ⟨_, _, pre0 _ ?_, hrun, hended, _, _, rfl, ?_, ⟨_, rfl⟩, hW, hsame.mono (by decide) (by decide)⟩
  · show Steps p.tables e below (s₁.setTop (mkF m 0 #[.val (.ref r0), .val .null, .unset] [])) _
    refine XS.aloadN X0.here hx rfl (hb hby d9_0) rfl rfl ?_
    show Steps p.tables e below (s₁.setTop (mkF m 1 #[.val (.ref r0), .val .null, .unset] [.null])) _
    refine X0.instanceofNull hx (g := (mkF m 1 #[.val (.ref r0), .val .null, .unset] [.null])) rfl rfl (hb hby d9_1) _ ?_
    show Steps p.tables e below (s₁.setTop (mkF m 4 #[.val (.ref r0), .val .null, .unset] [(.int (0 : Int32))])) _
    refine XS.ifYes X0.here hx rfl (pc0 := 4) (pc' := 86) rfl (hb hby d9_4) rfl ((if0 _ _).trans (teq (by decide : (0 : Int32) = (0 : Int32))).1) (by decide) (by decide) ?_
    show Steps p.tables e below (s₁.setTop (mkF m 86 #[.val (.ref r0), .val .null, .unset] [])) _
    refine XS.iconst X0.here hx rfl (hb hby d9_86) ?_
    show Steps p.tables e below (s₁.setTop (mkF m 87 #[.val (.ref r0), .val .null, .unset] [(.int (0 : Int32))])) _
    exact retN X0 hx (t := .boolean) Bd.returns (by simp) (hb hby d9_87) hr
  · show Q9n Z r0 h0 n0 _ s₁.heap _
    rw [e0]
    exact ⟨rfl, N0, rfl⟩
theorem ef_9s (r0 : Addr) (r1 : Addr)  (m : MethodId) : entryFrame m #[(.ref r0), (.ref r1)] 3 = mkF m 0 #[.val (.ref r0), .val (.ref r1), .unset] [] := by first | (simp [entryFrame, mkF, argsToLocals, Value.category]; done) | rfl
def Q9s (Z : State) (r0 : Addr) (r1 : Addr)  (h0 : Heap) (n0 : Nat) (v : Option Value) (h : Heap) (L : List Loc) : Prop := v = some (.int (0 : Int32)) ∧ Fr n0 L ∧ h = h0
set_option maxRecDepth 65536 in
set_option maxHeartbeats 40000000 in
theorem rm9s (l : Launch) (Z : State) (a0 : Array Value) (hw : ∀ d ∈ tables_1, d.before a0 Z = true) (ws : List Jvm.Cond) (r0 : Addr) (r1 : Addr)  (h0 : Heap) (n0 : Nat) (Z0 : n0 ≤ h0.size) (E_s : Exa Z h0 r1 "java/lang/String") :
    MetFree l (⟨"com/example/grove8/grove8/Context", "equals", "(Ljava/lang/Object;)Z"⟩ : MethodName) (head1 (Jvm.Cond.code (⟨"com/example/grove8/grove8/Context", "equals", "(Ljava/lang/Object;)Z"⟩ : MethodName) prog_12_method_2_code 3 (some .boolean) :: ws) ({ frames := 0, cells := 0, slots := 0, locals := 0 } : Room)) (fun a U => a = #[(.ref r0), (.ref r1)] ∧ Z.Warmed39 U.vm ∧ U.heap = h0) (fun _ _ _ _ _ => True) (fun _ U o U' => ∃ v L, o = .returned v ∧ Q9s Z r0 r1 h0 n0 v U'.heap L ∧ FrameEnd U o U' L ({ frames := 0, cells := 0, slots := 0, locals := 0 } : Room).cells ({ frames := 0, cells := 0, slots := 0, locals := 0 } : Room).slots) := by
  refine MetFree.of_bodySF (plainFor_of_name pn_com_example_grove8_grove8_Context) hisR ?_
  intro p e s m args below meth c s₁ Bd hml0 hP hK
  obtain ⟨rfl, hZ, hh⟩ := hP
  have hx := Bd.exec
  have hby := Bd.bytes
  have hml : c.maxLocals = 3 := hml0
  have hown : s.vm.findClass "com/example/grove8/grove8/Context" = some m.cls := findClass_of_methodNamed Bd.named
  have hnm := (name_of_methodNamed Bd.named Bd.method).1
  have X0 : Stand p l e ({ frames := 0, cells := 0, slots := 0, locals := 0 } : Room) s m #[(.ref r0), (.ref r1)] below meth c s₁ [] 0 0 := Stand.of_body Bd
  have e0 : s₁.heap = h0 := by rw [← hh, Bd.state]; rfl
  have N0 := Fr.nil n0
  have pre0 : ∀ t, Steps p.tables e below (s₁.setTop (mkF m 0 #[.val (.ref r0), .val (.ref r1), .unset] [])) t → Steps p.tables e below (s₁.setTop (entryFrame m #[(.ref r0), (.ref r1)] 3)) t := fun t k => castTop (ef_9s r0 r1 m) k
  obtain ⟨T1, X1, e1, st1⟩ := instNo X0 hx hZ hown (hw _ (List.mem_of_getElem? (i := 62) rfl)) e0 E_s (own_notIns (hw _ (List.mem_of_getElem? (i := 72) rfl)) (hw _ (List.mem_of_getElem? (i := 73) rfl)) (hw _ (List.mem_of_getElem? (i := 34) rfl)) (by decide) (by decide)) (g := (mkF m 1 #[.val (.ref r0), .val (.ref r1), .unset] [(.ref r1)])) rfl rfl (hb hby d9_1)
  obtain ⟨fs, hr, hrun, hended, hW, hsame⟩ := X1.leave (v := some (.int (0 : Int32))) (fun h => by rw [Bd.returns] at h; cases h)
  refine ⟨_, _, pre0 _ ?_, hrun, hended, _, _, rfl, ?_, ⟨_, rfl⟩, hW, hsame.mono (by decide) (by decide)⟩
  · show Steps p.tables e below (s₁.setTop (mkF m 0 #[.val (.ref r0), .val (.ref r1), .unset] [])) _
    refine XS.aloadN X0.here hx rfl (hb hby d9_0) rfl rfl ?_
    show Steps p.tables e below (s₁.setTop (mkF m 1 #[.val (.ref r0), .val (.ref r1), .unset] [(.ref r1)])) _
    refine st1 _ ?_
    show Steps p.tables e below (T1.setTop (mkF m 4 #[.val (.ref r0), .val (.ref r1), .unset] [(.int (0 : Int32))])) _
    refine XS.ifYes X1.here hx rfl (pc0 := 4) (pc' := 86) rfl (hb hby d9_4) rfl ((if0 _ _).trans (teq (by decide : (0 : Int32) = (0 : Int32))).1) (by decide) (by decide) ?_
    show Steps p.tables e below (T1.setTop (mkF m 86 #[.val (.ref r0), .val (.ref r1), .unset] [])) _
    refine XS.iconst X1.here hx rfl (hb hby d9_86) ?_
    show Steps p.tables e below (T1.setTop (mkF m 87 #[.val (.ref r0), .val (.ref r1), .unset] [(.int (0 : Int32))])) _
    exact retN X1 hx (t := .boolean) Bd.returns (by simp) (hb hby d9_87) hr
  · show Q9s Z r0 r1 h0 n0 _ T1.heap _
    rw [e1]
    exact ⟨rfl, N0, rfl⟩
theorem d9_7 : decode prog_12_method_2_code 7 = .ok (.aload_n 1, 1) := by decide +kernel
theorem d9_8 : decode prog_12_method_2_code 8 = .ok (.checkcast 8, 3) := by decide +kernel
theorem d9_11 : decode prog_12_method_2_code 11 = .ok (.astore_n 2, 1) := by decide +kernel
theorem d9_12 : decode prog_12_method_2_code 12 = .ok (.aload_n 0, 1) := by decide +kernel
theorem d9_13 : decode prog_12_method_2_code 13 = .ok (.getfield 7, 3) := by decide +kernel
theorem d9_16 : decode prog_12_method_2_code 16 = .ok (.aload_n 2, 1) := by decide +kernel
theorem d9_17 : decode prog_12_method_2_code 17 = .ok (.getfield 7, 3) := by decide +kernel
theorem d9_20 : decode prog_12_method_2_code 20 = .ok (.if_acmp .ne 66, 3) := by decide +kernel
theorem d9_23 : decode prog_12_method_2_code 23 = .ok (.aload_n 0, 1) := by decide +kernel
theorem d9_24 : decode prog_12_method_2_code 24 = .ok (.getfield 13, 3) := by decide +kernel
theorem d9_27 : decode prog_12_method_2_code 27 = .ok (.aload_n 2, 1) := by decide +kernel
theorem d9_28 : decode prog_12_method_2_code 28 = .ok (.getfield 13, 3) := by decide +kernel
theorem d9_31 : decode prog_12_method_2_code 31 = .ok (.lcmp, 1) := by decide +kernel
theorem d9_32 : decode prog_12_method_2_code 32 = .ok (.ifCond .ne 54, 3) := by decide +kernel
theorem d9_35 : decode prog_12_method_2_code 35 = .ok (.aload_n 0, 1) := by decide +kernel
theorem d9_36 : decode prog_12_method_2_code 36 = .ok (.getfield 17, 3) := by decide +kernel
theorem d9_39 : decode prog_12_method_2_code 39 = .ok (.aload_n 2, 1) := by decide +kernel
theorem d9_40 : decode prog_12_method_2_code 40 = .ok (.getfield 17, 3) := by decide +kernel
theorem d9_43 : decode prog_12_method_2_code 43 = .ok (.lcmp, 1) := by decide +kernel
theorem d9_44 : decode prog_12_method_2_code 44 = .ok (.ifCond .ne 42, 3) := by decide +kernel
theorem d9_47 : decode prog_12_method_2_code 47 = .ok (.aload_n 0, 1) := by decide +kernel
theorem d9_48 : decode prog_12_method_2_code 48 = .ok (.getfield 20, 3) := by decide +kernel
theorem d9_51 : decode prog_12_method_2_code 51 = .ok (.aload_n 2, 1) := by decide +kernel
theorem d9_52 : decode prog_12_method_2_code 52 = .ok (.getfield 20, 3) := by decide +kernel
theorem d9_55 : decode prog_12_method_2_code 55 = .ok (.lcmp, 1) := by decide +kernel
theorem d9_56 : decode prog_12_method_2_code 56 = .ok (.ifCond .ne 30, 3) := by decide +kernel
theorem d9_59 : decode prog_12_method_2_code 59 = .ok (.aload_n 0, 1) := by decide +kernel
theorem d9_60 : decode prog_12_method_2_code 60 = .ok (.getfield 23, 3) := by decide +kernel
theorem d9_63 : decode prog_12_method_2_code 63 = .ok (.aload_n 2, 1) := by decide +kernel
theorem d9_64 : decode prog_12_method_2_code 64 = .ok (.getfield 23, 3) := by decide +kernel
theorem d9_67 : decode prog_12_method_2_code 67 = .ok (.if_icmp .ne 19, 3) := by decide +kernel
theorem d9_70 : decode prog_12_method_2_code 70 = .ok (.aload_n 0, 1) := by decide +kernel
theorem d9_71 : decode prog_12_method_2_code 71 = .ok (.getfield 27, 3) := by decide +kernel
theorem d9_74 : decode prog_12_method_2_code 74 = .ok (.aload_n 2, 1) := by decide +kernel
theorem d9_75 : decode prog_12_method_2_code 75 = .ok (.getfield 27, 3) := by decide +kernel
theorem d9_78 : decode prog_12_method_2_code 78 = .ok (.lcmp, 1) := by decide +kernel
theorem d9_79 : decode prog_12_method_2_code 79 = .ok (.ifCond .ne 7, 3) := by decide +kernel
theorem d9_82 : decode prog_12_method_2_code 82 = .ok (.iconst 1, 1) := by decide +kernel
theorem d9_83 : decode prog_12_method_2_code 83 = .ok (.goto 4, 3) := by decide +kernel
theorem ef_9e (r0 : Addr) (m0 : Addr) (x0 y0 z0 : Int64) (c0 : Int32) (v0 : Int64) (m : MethodId) : entryFrame m #[(.ref r0), (.ref r0)] 3 = mkF m 0 #[.val (.ref r0), .val (.ref r0), .unset] [] := by first | (simp [entryFrame, mkF, argsToLocals, Value.category]; done) | rfl
def Q9e (Z : State) (r0 : Addr) (m0 : Addr) (x0 y0 z0 : Int64) (c0 : Int32) (v0 : Int64) (h0 : Heap) (n0 : Nat) (v : Option Value) (h : Heap) (L : List Loc) : Prop := v = some (.int (1 : Int32)) ∧ Fr n0 L ∧ h = h0
set_option maxRecDepth 65536 in
set_option maxHeartbeats 40000000 in
theorem rm9e (l : Launch) (Z : State) (a0 : Array Value) (hw : ∀ d ∈ tables_1, d.before a0 Z = true) (ws : List Jvm.Cond) (r0 : Addr) (m0 : Addr) (x0 y0 z0 : Int64) (c0 : Int32) (v0 : Int64) (h0 : Heap) (n0 : Nat) (Z0 : n0 ≤ h0.size) (F_mode : Fld Z h0 r0 "com/example/grove8/grove8/Context" "mode" "Lcom/example/grove8/grove8/Context$Mode;" (.ref m0)) (F_at : Fld Z h0 r0 "com/example/grove8/grove8/Context" "at" "J" (.long x0)) (F_begunAt : Fld Z h0 r0 "com/example/grove8/grove8/Context" "begunAt" "J" (.long y0)) (F_doctypeAt : Fld Z h0 r0 "com/example/grove8/grove8/Context" "doctypeAt" "J" (.long z0)) (F_closing : Fld Z h0 r0 "com/example/grove8/grove8/Context" "closing" "I" (.int c0)) (F_prologStart : Fld Z h0 r0 "com/example/grove8/grove8/Context" "prologStart" "J" (.long v0)) (E_r : Exa Z h0 r0 "com/example/grove8/grove8/Context") :
    MetFree l (⟨"com/example/grove8/grove8/Context", "equals", "(Ljava/lang/Object;)Z"⟩ : MethodName) (head1 (Jvm.Cond.code (⟨"com/example/grove8/grove8/Context", "equals", "(Ljava/lang/Object;)Z"⟩ : MethodName) prog_12_method_2_code 3 (some .boolean) :: ws) ({ frames := 0, cells := 0, slots := 0, locals := 0 } : Room)) (fun a U => a = #[(.ref r0), (.ref r0)] ∧ Z.Warmed39 U.vm ∧ U.heap = h0) (fun _ _ _ _ _ => True) (fun _ U o U' => ∃ v L, o = .returned v ∧ Q9e Z r0 m0 x0 y0 z0 c0 v0 h0 n0 v U'.heap L ∧ FrameEnd U o U' L ({ frames := 0, cells := 0, slots := 0, locals := 0 } : Room).cells ({ frames := 0, cells := 0, slots := 0, locals := 0 } : Room).slots) := by
  refine MetFree.of_bodySF (plainFor_of_name pn_com_example_grove8_grove8_Context) hisR ?_
  intro p e s m args below meth c s₁ Bd hml0 hP hK
  obtain ⟨rfl, hZ, hh⟩ := hP
  have hx := Bd.exec
  have hby := Bd.bytes
  have hml : c.maxLocals = 3 := hml0
  have hown : s.vm.findClass "com/example/grove8/grove8/Context" = some m.cls := findClass_of_methodNamed Bd.named
  have hnm := (name_of_methodNamed Bd.named Bd.method).1
  have X0 : Stand p l e ({ frames := 0, cells := 0, slots := 0, locals := 0 } : Room) s m #[(.ref r0), (.ref r0)] below meth c s₁ [] 0 0 := Stand.of_body Bd
  have e0 : s₁.heap = h0 := by rw [← hh, Bd.state]; rfl
  have N0 := Fr.nil n0
  have pre0 : ∀ t, Steps p.tables e below (s₁.setTop (mkF m 0 #[.val (.ref r0), .val (.ref r0), .unset] [])) t → Steps p.tables e below (s₁.setTop (entryFrame m #[(.ref r0), (.ref r0)] 3)) t := fun t k => castTop (ef_9e r0 m0 x0 y0 z0 c0 v0 m) k
  obtain ⟨T1, X1, e1, st1⟩ := instY X0 hx hZ hown (hw _ (List.mem_of_getElem? (i := 62) rfl)) e0 (Ins.self E_r) (g := (mkF m 1 #[.val (.ref r0), .val (.ref r0), .unset] [(.ref r0)])) rfl rfl (hb hby d9_1)
  obtain ⟨T2, X2, e2, st2⟩ := castY X1 hx hZ hown (hw _ (List.mem_of_getElem? (i := 62) rfl)) e1 (Ins.self E_r) (g := (mkF m 8 #[.val (.ref r0), .val (.ref r0), .unset] [(.ref r0)])) rfl rfl (hb hby d9_8)
  obtain ⟨T3, X3, e3, st3⟩ := getF X2 hx hZ hown (host := "") (Or.inl (hw _ (List.mem_of_getElem? (i := 45) rfl))) Via.refl e2 F_mode (g := (mkF m 13 #[.val (.ref r0), .val (.ref r0), .val (.ref r0)] [(.ref r0)])) rfl rfl (hb hby d9_13)
  obtain ⟨T4, X4, e4, st4⟩ := getF X3 hx hZ hown (host := "") (Or.inl (hw _ (List.mem_of_getElem? (i := 45) rfl))) Via.refl e3 F_mode (g := (mkF m 17 #[.val (.ref r0), .val (.ref r0), .val (.ref r0)] [(.ref r0), (.ref m0)])) rfl rfl (hb hby d9_17)
  obtain ⟨T5, X5, e5, st5⟩ := getF X4 hx hZ hown (host := "") (Or.inl (hw _ (List.mem_of_getElem? (i := 47) rfl))) Via.refl e4 F_at (g := (mkF m 24 #[.val (.ref r0), .val (.ref r0), .val (.ref r0)] [(.ref r0)])) rfl rfl (hb hby d9_24)
  obtain ⟨T6, X6, e6, st6⟩ := getF X5 hx hZ hown (host := "") (Or.inl (hw _ (List.mem_of_getElem? (i := 47) rfl))) Via.refl e5 F_at (g := (mkF m 28 #[.val (.ref r0), .val (.ref r0), .val (.ref r0)] [(.ref r0), (.long x0)])) rfl rfl (hb hby d9_28)
  obtain ⟨T7, X7, e7, st7⟩ := getF X6 hx hZ hown (host := "") (Or.inl (hw _ (List.mem_of_getElem? (i := 49) rfl))) Via.refl e6 F_begunAt (g := (mkF m 36 #[.val (.ref r0), .val (.ref r0), .val (.ref r0)] [(.ref r0)])) rfl rfl (hb hby d9_36)
  obtain ⟨T8, X8, e8, st8⟩ := getF X7 hx hZ hown (host := "") (Or.inl (hw _ (List.mem_of_getElem? (i := 49) rfl))) Via.refl e7 F_begunAt (g := (mkF m 40 #[.val (.ref r0), .val (.ref r0), .val (.ref r0)] [(.ref r0), (.long y0)])) rfl rfl (hb hby d9_40)
  obtain ⟨T9, X9, e9, st9⟩ := getF X8 hx hZ hown (host := "") (Or.inl (hw _ (List.mem_of_getElem? (i := 51) rfl))) Via.refl e8 F_doctypeAt (g := (mkF m 48 #[.val (.ref r0), .val (.ref r0), .val (.ref r0)] [(.ref r0)])) rfl rfl (hb hby d9_48)
  obtain ⟨T10, X10, e10, st10⟩ := getF X9 hx hZ hown (host := "") (Or.inl (hw _ (List.mem_of_getElem? (i := 51) rfl))) Via.refl e9 F_doctypeAt (g := (mkF m 52 #[.val (.ref r0), .val (.ref r0), .val (.ref r0)] [(.ref r0), (.long z0)])) rfl rfl (hb hby d9_52)
  obtain ⟨T11, X11, e11, st11⟩ := getF X10 hx hZ hown (host := "") (Or.inl (hw _ (List.mem_of_getElem? (i := 53) rfl))) Via.refl e10 F_closing (g := (mkF m 60 #[.val (.ref r0), .val (.ref r0), .val (.ref r0)] [(.ref r0)])) rfl rfl (hb hby d9_60)
  obtain ⟨T12, X12, e12, st12⟩ := getF X11 hx hZ hown (host := "") (Or.inl (hw _ (List.mem_of_getElem? (i := 53) rfl))) Via.refl e11 F_closing (g := (mkF m 64 #[.val (.ref r0), .val (.ref r0), .val (.ref r0)] [(.ref r0), (.int c0)])) rfl rfl (hb hby d9_64)
  obtain ⟨T13, X13, e13, st13⟩ := getF X12 hx hZ hown (host := "") (Or.inl (hw _ (List.mem_of_getElem? (i := 55) rfl))) Via.refl e12 F_prologStart (g := (mkF m 71 #[.val (.ref r0), .val (.ref r0), .val (.ref r0)] [(.ref r0)])) rfl rfl (hb hby d9_71)
  obtain ⟨T14, X14, e14, st14⟩ := getF X13 hx hZ hown (host := "") (Or.inl (hw _ (List.mem_of_getElem? (i := 55) rfl))) Via.refl e13 F_prologStart (g := (mkF m 75 #[.val (.ref r0), .val (.ref r0), .val (.ref r0)] [(.ref r0), (.long v0)])) rfl rfl (hb hby d9_75)
  obtain ⟨fs, hr, hrun, hended, hW, hsame⟩ := X14.leave (v := some (.int (1 : Int32))) (fun h => by rw [Bd.returns] at h; cases h)
  refine ⟨_, _, pre0 _ ?_, hrun, hended, _, _, rfl, ?_, ⟨_, rfl⟩, hW, hsame.mono (by decide) (by decide)⟩
  · show Steps p.tables e below (s₁.setTop (mkF m 0 #[.val (.ref r0), .val (.ref r0), .unset] [])) _
    refine XS.aloadN X0.here hx rfl (hb hby d9_0) rfl rfl ?_
    show Steps p.tables e below (s₁.setTop (mkF m 1 #[.val (.ref r0), .val (.ref r0), .unset] [(.ref r0)])) _
    refine st1 _ ?_
    show Steps p.tables e below (T1.setTop (mkF m 4 #[.val (.ref r0), .val (.ref r0), .unset] [(.int (1 : Int32))])) _
    refine XS.ifNo X1.here hx rfl (hb hby d9_4) rfl ((if0 _ _).trans (feq (by decide : ¬ ((1 : Int32) = (0 : Int32)))).1) ?_
    show Steps p.tables e below (T1.setTop (mkF m 7 #[.val (.ref r0), .val (.ref r0), .unset] [])) _
    refine XS.aloadN X1.here hx rfl (hb hby d9_7) rfl rfl ?_
    show Steps p.tables e below (T1.setTop (mkF m 8 #[.val (.ref r0), .val (.ref r0), .unset] [(.ref r0)])) _
    refine st2 _ ?_
    show Steps p.tables e below (T2.setTop (mkF m 11 #[.val (.ref r0), .val (.ref r0), .unset] [(.ref r0)])) _
    refine XS.astoreN X2.here hx rfl (hb hby d9_11) rfl rfl (l' := #[.val (.ref r0), .val (.ref r0), .val (.ref r0)]) rfl ?_
    show Steps p.tables e below (T2.setTop (mkF m 12 #[.val (.ref r0), .val (.ref r0), .val (.ref r0)] [])) _
    refine XS.aloadN X2.here hx rfl (hb hby d9_12) rfl rfl ?_
    show Steps p.tables e below (T2.setTop (mkF m 13 #[.val (.ref r0), .val (.ref r0), .val (.ref r0)] [(.ref r0)])) _
    refine st3 _ ?_
    show Steps p.tables e below (T3.setTop (mkF m 16 #[.val (.ref r0), .val (.ref r0), .val (.ref r0)] [(.ref m0)])) _
    refine XS.aloadN X3.here hx rfl (hb hby d9_16) rfl rfl ?_
    show Steps p.tables e below (T3.setTop (mkF m 17 #[.val (.ref r0), .val (.ref r0), .val (.ref r0)] [(.ref r0), (.ref m0)])) _
    refine st4 _ ?_
    show Steps p.tables e below (T4.setTop (mkF m 20 #[.val (.ref r0), .val (.ref r0), .val (.ref r0)] [(.ref m0), (.ref m0)])) _
    refine Jvm.RoadKit.acmp (g := (mkF m 20 #[.val (.ref r0), .val (.ref r0), .val (.ref r0)] [(.ref m0), (.ref m0)])) X4 hx rfl rfl rfl (pc0 := 20) (pc' := 23) (same := true) rfl (hb hby d9_20) rfl (decide_eq_true rfl) (by decide) (by decide) ?_
    show Steps p.tables e below (T4.setTop (mkF m 23 #[.val (.ref r0), .val (.ref r0), .val (.ref r0)] [])) _
    refine XS.aloadN X4.here hx rfl (hb hby d9_23) rfl rfl ?_
    show Steps p.tables e below (T4.setTop (mkF m 24 #[.val (.ref r0), .val (.ref r0), .val (.ref r0)] [(.ref r0)])) _
    refine st5 _ ?_
    show Steps p.tables e below (T5.setTop (mkF m 27 #[.val (.ref r0), .val (.ref r0), .val (.ref r0)] [(.long x0)])) _
    refine XS.aloadN X5.here hx rfl (hb hby d9_27) rfl rfl ?_
    show Steps p.tables e below (T5.setTop (mkF m 28 #[.val (.ref r0), .val (.ref r0), .val (.ref r0)] [(.ref r0), (.long x0)])) _
    refine st6 _ ?_
    show Steps p.tables e below (T6.setTop (mkF m 31 #[.val (.ref r0), .val (.ref r0), .val (.ref r0)] [(.long x0), (.long x0)])) _
    refine XS.lcmp X6.here hx rfl (hb hby d9_31) rfl ?_
    show Steps p.tables e below (T6.setTop (mkF m 32 #[.val (.ref r0), .val (.ref r0), .val (.ref r0)] [(.int (lcmpW x0 x0))])) _
    refine XS.ifNo X6.here hx rfl (hb hby d9_32) rfl ((if0 _ _).trans (teq ((lw_eq x0 x0).mpr rfl)).2) ?_
    show Steps p.tables e below (T6.setTop (mkF m 35 #[.val (.ref r0), .val (.ref r0), .val (.ref r0)] [])) _
    refine XS.aloadN X6.here hx rfl (hb hby d9_35) rfl rfl ?_
    show Steps p.tables e below (T6.setTop (mkF m 36 #[.val (.ref r0), .val (.ref r0), .val (.ref r0)] [(.ref r0)])) _
    refine st7 _ ?_
    show Steps p.tables e below (T7.setTop (mkF m 39 #[.val (.ref r0), .val (.ref r0), .val (.ref r0)] [(.long y0)])) _
    refine XS.aloadN X7.here hx rfl (hb hby d9_39) rfl rfl ?_
    show Steps p.tables e below (T7.setTop (mkF m 40 #[.val (.ref r0), .val (.ref r0), .val (.ref r0)] [(.ref r0), (.long y0)])) _
    refine st8 _ ?_
    show Steps p.tables e below (T8.setTop (mkF m 43 #[.val (.ref r0), .val (.ref r0), .val (.ref r0)] [(.long y0), (.long y0)])) _
    refine XS.lcmp X8.here hx rfl (hb hby d9_43) rfl ?_
    show Steps p.tables e below (T8.setTop (mkF m 44 #[.val (.ref r0), .val (.ref r0), .val (.ref r0)] [(.int (lcmpW y0 y0))])) _
    refine XS.ifNo X8.here hx rfl (hb hby d9_44) rfl ((if0 _ _).trans (teq ((lw_eq y0 y0).mpr rfl)).2) ?_
    show Steps p.tables e below (T8.setTop (mkF m 47 #[.val (.ref r0), .val (.ref r0), .val (.ref r0)] [])) _
    refine XS.aloadN X8.here hx rfl (hb hby d9_47) rfl rfl ?_
    show Steps p.tables e below (T8.setTop (mkF m 48 #[.val (.ref r0), .val (.ref r0), .val (.ref r0)] [(.ref r0)])) _
    refine st9 _ ?_
    show Steps p.tables e below (T9.setTop (mkF m 51 #[.val (.ref r0), .val (.ref r0), .val (.ref r0)] [(.long z0)])) _
    refine XS.aloadN X9.here hx rfl (hb hby d9_51) rfl rfl ?_
    show Steps p.tables e below (T9.setTop (mkF m 52 #[.val (.ref r0), .val (.ref r0), .val (.ref r0)] [(.ref r0), (.long z0)])) _
    refine st10 _ ?_
    show Steps p.tables e below (T10.setTop (mkF m 55 #[.val (.ref r0), .val (.ref r0), .val (.ref r0)] [(.long z0), (.long z0)])) _
    refine XS.lcmp X10.here hx rfl (hb hby d9_55) rfl ?_
    show Steps p.tables e below (T10.setTop (mkF m 56 #[.val (.ref r0), .val (.ref r0), .val (.ref r0)] [(.int (lcmpW z0 z0))])) _
    refine XS.ifNo X10.here hx rfl (hb hby d9_56) rfl ((if0 _ _).trans (teq ((lw_eq z0 z0).mpr rfl)).2) ?_
    show Steps p.tables e below (T10.setTop (mkF m 59 #[.val (.ref r0), .val (.ref r0), .val (.ref r0)] [])) _
    refine XS.aloadN X10.here hx rfl (hb hby d9_59) rfl rfl ?_
    show Steps p.tables e below (T10.setTop (mkF m 60 #[.val (.ref r0), .val (.ref r0), .val (.ref r0)] [(.ref r0)])) _
    refine st11 _ ?_
    show Steps p.tables e below (T11.setTop (mkF m 63 #[.val (.ref r0), .val (.ref r0), .val (.ref r0)] [(.int c0)])) _
    refine XS.aloadN X11.here hx rfl (hb hby d9_63) rfl rfl ?_
    show Steps p.tables e below (T11.setTop (mkF m 64 #[.val (.ref r0), .val (.ref r0), .val (.ref r0)] [(.ref r0), (.int c0)])) _
    refine st12 _ ?_
    show Steps p.tables e below (T12.setTop (mkF m 67 #[.val (.ref r0), .val (.ref r0), .val (.ref r0)] [(.int c0), (.int c0)])) _
    refine XS.icmpNo X12.here hx rfl (hb hby d9_67) rfl (teq (rfl : c0 = c0)).2 ?_
    show Steps p.tables e below (T12.setTop (mkF m 70 #[.val (.ref r0), .val (.ref r0), .val (.ref r0)] [])) _
    refine XS.aloadN X12.here hx rfl (hb hby d9_70) rfl rfl ?_
    show Steps p.tables e below (T12.setTop (mkF m 71 #[.val (.ref r0), .val (.ref r0), .val (.ref r0)] [(.ref r0)])) _
    refine st13 _ ?_
    show Steps p.tables e below (T13.setTop (mkF m 74 #[.val (.ref r0), .val (.ref r0), .val (.ref r0)] [(.long v0)])) _
    refine XS.aloadN X13.here hx rfl (hb hby d9_74) rfl rfl ?_
    show Steps p.tables e below (T13.setTop (mkF m 75 #[.val (.ref r0), .val (.ref r0), .val (.ref r0)] [(.ref r0), (.long v0)])) _
    refine st14 _ ?_
    show Steps p.tables e below (T14.setTop (mkF m 78 #[.val (.ref r0), .val (.ref r0), .val (.ref r0)] [(.long v0), (.long v0)])) _
    refine XS.lcmp X14.here hx rfl (hb hby d9_78) rfl ?_
    show Steps p.tables e below (T14.setTop (mkF m 79 #[.val (.ref r0), .val (.ref r0), .val (.ref r0)] [(.int (lcmpW v0 v0))])) _
    refine XS.ifNo X14.here hx rfl (hb hby d9_79) rfl ((if0 _ _).trans (teq ((lw_eq v0 v0).mpr rfl)).2) ?_
    show Steps p.tables e below (T14.setTop (mkF m 82 #[.val (.ref r0), .val (.ref r0), .val (.ref r0)] [])) _
    refine XS.iconst X14.here hx rfl (hb hby d9_82) ?_
    show Steps p.tables e below (T14.setTop (mkF m 83 #[.val (.ref r0), .val (.ref r0), .val (.ref r0)] [(.int (1 : Int32))])) _
    refine XS.goto X14.here hx rfl (pc0 := 83) (pc' := 87) rfl (hb hby d9_83) (by decide) (by decide) ?_
    show Steps p.tables e below (T14.setTop (mkF m 87 #[.val (.ref r0), .val (.ref r0), .val (.ref r0)] [(.int (1 : Int32))])) _
    exact retN X14 hx (t := .boolean) Bd.returns (by simp) (hb hby d9_87) hr
  · show Q9e Z r0 m0 x0 y0 z0 c0 v0 h0 n0 _ T14.heap _
    rw [e14]
    exact ⟨rfl, N0, rfl⟩
theorem ef_9c (r0 : Addr) (r1 : Addr) (m0 : Addr) (x0 y0 z0 : Int64) (c0 : Int32) (v0 : Int64) (m1 : Addr) (x1 y1 z1 : Int64) (c1 : Int32) (v1 : Int64) (m : MethodId) : entryFrame m #[(.ref r0), (.ref r1)] 3 = mkF m 0 #[.val (.ref r0), .val (.ref r1), .unset] [] := by first | (simp [entryFrame, mkF, argsToLocals, Value.category]; done) | rfl
def F9c (m0 : Addr) (x0 y0 z0 : Int64) (c0 : Int32) (v0 : Int64) (m1 : Addr) (x1 y1 z1 : Int64) (c1 : Int32) (v1 : Int64) : Int32 := (if m0 = m1 then (if (lcmpW x0 x1) = (0 : Int32) then (if (lcmpW y0 y1) = (0 : Int32) then (if (lcmpW z0 z1) = (0 : Int32) then (if c0 = c1 then (if (lcmpW v0 v1) = (0 : Int32) then (1 : Int32) else (0 : Int32)) else (0 : Int32)) else (0 : Int32)) else (0 : Int32)) else (0 : Int32)) else (0 : Int32))
def Q9c (Z : State) (r0 : Addr) (r1 : Addr) (m0 : Addr) (x0 y0 z0 : Int64) (c0 : Int32) (v0 : Int64) (m1 : Addr) (x1 y1 z1 : Int64) (c1 : Int32) (v1 : Int64) (h0 : Heap) (n0 : Nat) (v : Option Value) (h : Heap) (L : List Loc) : Prop := v = some (.int (F9c m0 x0 y0 z0 c0 v0 m1 x1 y1 z1 c1 v1)) ∧ Fr n0 L ∧ h = h0
set_option maxRecDepth 65536 in
set_option maxHeartbeats 40000000 in
theorem rm9c (l : Launch) (Z : State) (a0 : Array Value) (hw : ∀ d ∈ tables_1, d.before a0 Z = true) (ws : List Jvm.Cond) (r0 : Addr) (r1 : Addr) (m0 : Addr) (x0 y0 z0 : Int64) (c0 : Int32) (v0 : Int64) (m1 : Addr) (x1 y1 z1 : Int64) (c1 : Int32) (v1 : Int64) (h0 : Heap) (n0 : Nat) (Z0 : n0 ≤ h0.size) (F_mode : Fld Z h0 r0 "com/example/grove8/grove8/Context" "mode" "Lcom/example/grove8/grove8/Context$Mode;" (.ref m0)) (F_at : Fld Z h0 r0 "com/example/grove8/grove8/Context" "at" "J" (.long x0)) (F_begunAt : Fld Z h0 r0 "com/example/grove8/grove8/Context" "begunAt" "J" (.long y0)) (F_doctypeAt : Fld Z h0 r0 "com/example/grove8/grove8/Context" "doctypeAt" "J" (.long z0)) (F_closing : Fld Z h0 r0 "com/example/grove8/grove8/Context" "closing" "I" (.int c0)) (F_prologStart : Fld Z h0 r0 "com/example/grove8/grove8/Context" "prologStart" "J" (.long v0)) (G_mode : Fld Z h0 r1 "com/example/grove8/grove8/Context" "mode" "Lcom/example/grove8/grove8/Context$Mode;" (.ref m1)) (G_at : Fld Z h0 r1 "com/example/grove8/grove8/Context" "at" "J" (.long x1)) (G_begunAt : Fld Z h0 r1 "com/example/grove8/grove8/Context" "begunAt" "J" (.long y1)) (G_doctypeAt : Fld Z h0 r1 "com/example/grove8/grove8/Context" "doctypeAt" "J" (.long z1)) (G_closing : Fld Z h0 r1 "com/example/grove8/grove8/Context" "closing" "I" (.int c1)) (G_prologStart : Fld Z h0 r1 "com/example/grove8/grove8/Context" "prologStart" "J" (.long v1)) (E_s : Exa Z h0 r1 "com/example/grove8/grove8/Context") :
    MetFree l (⟨"com/example/grove8/grove8/Context", "equals", "(Ljava/lang/Object;)Z"⟩ : MethodName) (head1 (Jvm.Cond.code (⟨"com/example/grove8/grove8/Context", "equals", "(Ljava/lang/Object;)Z"⟩ : MethodName) prog_12_method_2_code 3 (some .boolean) :: ws) ({ frames := 0, cells := 0, slots := 0, locals := 0 } : Room)) (fun a U => a = #[(.ref r0), (.ref r1)] ∧ Z.Warmed39 U.vm ∧ U.heap = h0) (fun _ _ _ _ _ => True) (fun _ U o U' => ∃ v L, o = .returned v ∧ Q9c Z r0 r1 m0 x0 y0 z0 c0 v0 m1 x1 y1 z1 c1 v1 h0 n0 v U'.heap L ∧ FrameEnd U o U' L ({ frames := 0, cells := 0, slots := 0, locals := 0 } : Room).cells ({ frames := 0, cells := 0, slots := 0, locals := 0 } : Room).slots) := by
  refine MetFree.of_bodySF (plainFor_of_name pn_com_example_grove8_grove8_Context) hisR ?_
  intro p e s m args below meth c s₁ Bd hml0 hP hK
  obtain ⟨rfl, hZ, hh⟩ := hP
  have hx := Bd.exec
  have hby := Bd.bytes
  have hml : c.maxLocals = 3 := hml0
  have hown : s.vm.findClass "com/example/grove8/grove8/Context" = some m.cls := findClass_of_methodNamed Bd.named
  have hnm := (name_of_methodNamed Bd.named Bd.method).1
  have X0 : Stand p l e ({ frames := 0, cells := 0, slots := 0, locals := 0 } : Room) s m #[(.ref r0), (.ref r1)] below meth c s₁ [] 0 0 := Stand.of_body Bd
  have e0 : s₁.heap = h0 := by rw [← hh, Bd.state]; rfl
  have N0 := Fr.nil n0
  have pre0 : ∀ t, Steps p.tables e below (s₁.setTop (mkF m 0 #[.val (.ref r0), .val (.ref r1), .unset] [])) t → Steps p.tables e below (s₁.setTop (entryFrame m #[(.ref r0), (.ref r1)] 3)) t := fun t k => castTop (ef_9c r0 r1 m0 x0 y0 z0 c0 v0 m1 x1 y1 z1 c1 v1 m) k
  obtain ⟨T1, X1, e1, st1⟩ := instY X0 hx hZ hown (hw _ (List.mem_of_getElem? (i := 62) rfl)) e0 (Ins.self E_s) (g := (mkF m 1 #[.val (.ref r0), .val (.ref r1), .unset] [(.ref r1)])) rfl rfl (hb hby d9_1)
  obtain ⟨T2, X2, e2, st2⟩ := castY X1 hx hZ hown (hw _ (List.mem_of_getElem? (i := 62) rfl)) e1 (Ins.self E_s) (g := (mkF m 8 #[.val (.ref r0), .val (.ref r1), .unset] [(.ref r1)])) rfl rfl (hb hby d9_8)
  obtain ⟨T3, X3, e3, st3⟩ := getF X2 hx hZ hown (host := "") (Or.inl (hw _ (List.mem_of_getElem? (i := 45) rfl))) Via.refl e2 F_mode (g := (mkF m 13 #[.val (.ref r0), .val (.ref r1), .val (.ref r1)] [(.ref r0)])) rfl rfl (hb hby d9_13)
  obtain ⟨T4, X4, e4, st4⟩ := getF X3 hx hZ hown (host := "") (Or.inl (hw _ (List.mem_of_getElem? (i := 45) rfl))) Via.refl e3 G_mode (g := (mkF m 17 #[.val (.ref r0), .val (.ref r1), .val (.ref r1)] [(.ref r1), (.ref m0)])) rfl rfl (hb hby d9_17)
  have pre5 : ∀ t, Steps p.tables e below (T4.setTop (mkF m 20 #[.val (.ref r0), .val (.ref r1), .val (.ref r1)] [(.ref m1), (.ref m0)])) t → Steps p.tables e below (s₁.setTop (entryFrame m #[(.ref r0), (.ref r1)] 3)) t := fun t kt => pre0 t (by
    show Steps p.tables e below (s₁.setTop (mkF m 0 #[.val (.ref r0), .val (.ref r1), .unset] [])) _
    refine XS.aloadN X0.here hx rfl (hb hby d9_0) rfl rfl ?_
    show Steps p.tables e below (s₁.setTop (mkF m 1 #[.val (.ref r0), .val (.ref r1), .unset] [(.ref r1)])) _
    refine st1 _ ?_
    show Steps p.tables e below (T1.setTop (mkF m 4 #[.val (.ref r0), .val (.ref r1), .unset] [(.int (1 : Int32))])) _
    refine XS.ifNo X1.here hx rfl (hb hby d9_4) rfl ((if0 _ _).trans (feq (by decide : ¬ ((1 : Int32) = (0 : Int32)))).1) ?_
    show Steps p.tables e below (T1.setTop (mkF m 7 #[.val (.ref r0), .val (.ref r1), .unset] [])) _
    refine XS.aloadN X1.here hx rfl (hb hby d9_7) rfl rfl ?_
    show Steps p.tables e below (T1.setTop (mkF m 8 #[.val (.ref r0), .val (.ref r1), .unset] [(.ref r1)])) _
    refine st2 _ ?_
    show Steps p.tables e below (T2.setTop (mkF m 11 #[.val (.ref r0), .val (.ref r1), .unset] [(.ref r1)])) _
    refine XS.astoreN X2.here hx rfl (hb hby d9_11) rfl rfl (l' := #[.val (.ref r0), .val (.ref r1), .val (.ref r1)]) rfl ?_
    show Steps p.tables e below (T2.setTop (mkF m 12 #[.val (.ref r0), .val (.ref r1), .val (.ref r1)] [])) _
    refine XS.aloadN X2.here hx rfl (hb hby d9_12) rfl rfl ?_
    show Steps p.tables e below (T2.setTop (mkF m 13 #[.val (.ref r0), .val (.ref r1), .val (.ref r1)] [(.ref r0)])) _
    refine st3 _ ?_
    show Steps p.tables e below (T3.setTop (mkF m 16 #[.val (.ref r0), .val (.ref r1), .val (.ref r1)] [(.ref m0)])) _
    refine XS.aloadN X3.here hx rfl (hb hby d9_16) rfl rfl ?_
    show Steps p.tables e below (T3.setTop (mkF m 17 #[.val (.ref r0), .val (.ref r1), .val (.ref r1)] [(.ref r1), (.ref m0)])) _
    refine st4 _ ?_
    exact kt)
  by_cases ha20 : m0 = m1
  · obtain ⟨T6, X6, e6, st6⟩ := getF X4 hx hZ hown (host := "") (Or.inl (hw _ (List.mem_of_getElem? (i := 47) rfl))) Via.refl e4 F_at (g := (mkF m 24 #[.val (.ref r0), .val (.ref r1), .val (.ref r1)] [(.ref r0)])) rfl rfl (hb hby d9_24)
    obtain ⟨T7, X7, e7, st7⟩ := getF X6 hx hZ hown (host := "") (Or.inl (hw _ (List.mem_of_getElem? (i := 47) rfl))) Via.refl e6 G_at (g := (mkF m 28 #[.val (.ref r0), .val (.ref r1), .val (.ref r1)] [(.ref r1), (.long x0)])) rfl rfl (hb hby d9_28)
    have pre8 : ∀ t, Steps p.tables e below (T7.setTop (mkF m 32 #[.val (.ref r0), .val (.ref r1), .val (.ref r1)] [(.int (lcmpW x0 x1))])) t → Steps p.tables e below (s₁.setTop (entryFrame m #[(.ref r0), (.ref r1)] 3)) t := fun t kt => pre5 t (by
      show Steps p.tables e below (T4.setTop (mkF m 20 #[.val (.ref r0), .val (.ref r1), .val (.ref r1)] [(.ref m1), (.ref m0)])) _
      refine Jvm.RoadKit.acmp (g := (mkF m 20 #[.val (.ref r0), .val (.ref r1), .val (.ref r1)] [(.ref m1), (.ref m0)])) X4 hx rfl rfl rfl (pc0 := 20) (pc' := 23) (same := true) rfl (hb hby d9_20) rfl (decide_eq_true (congrArg Value.ref ha20)) (by decide) (by decide) ?_
      show Steps p.tables e below (T4.setTop (mkF m 23 #[.val (.ref r0), .val (.ref r1), .val (.ref r1)] [])) _
      refine XS.aloadN X4.here hx rfl (hb hby d9_23) rfl rfl ?_
      show Steps p.tables e below (T4.setTop (mkF m 24 #[.val (.ref r0), .val (.ref r1), .val (.ref r1)] [(.ref r0)])) _
      refine st6 _ ?_
      show Steps p.tables e below (T6.setTop (mkF m 27 #[.val (.ref r0), .val (.ref r1), .val (.ref r1)] [(.long x0)])) _
      refine XS.aloadN X6.here hx rfl (hb hby d9_27) rfl rfl ?_
      show Steps p.tables e below (T6.setTop (mkF m 28 #[.val (.ref r0), .val (.ref r1), .val (.ref r1)] [(.ref r1), (.long x0)])) _
      refine st7 _ ?_
      show Steps p.tables e below (T7.setTop (mkF m 31 #[.val (.ref r0), .val (.ref r1), .val (.ref r1)] [(.long x1), (.long x0)])) _
      refine XS.lcmp X7.here hx rfl (hb hby d9_31) rfl ?_
      exact kt)
    by_cases hc32 : (lcmpW x0 x1) = (0 : Int32)
    · obtain ⟨T9, X9, e9, st9⟩ := getF X7 hx hZ hown (host := "") (Or.inl (hw _ (List.mem_of_getElem? (i := 49) rfl))) Via.refl e7 F_begunAt (g := (mkF m 36 #[.val (.ref r0), .val (.ref r1), .val (.ref r1)] [(.ref r0)])) rfl rfl (hb hby d9_36)
      obtain ⟨T10, X10, e10, st10⟩ := getF X9 hx hZ hown (host := "") (Or.inl (hw _ (List.mem_of_getElem? (i := 49) rfl))) Via.refl e9 G_begunAt (g := (mkF m 40 #[.val (.ref r0), .val (.ref r1), .val (.ref r1)] [(.ref r1), (.long y0)])) rfl rfl (hb hby d9_40)
      have pre11 : ∀ t, Steps p.tables e below (T10.setTop (mkF m 44 #[.val (.ref r0), .val (.ref r1), .val (.ref r1)] [(.int (lcmpW y0 y1))])) t → Steps p.tables e below (s₁.setTop (entryFrame m #[(.ref r0), (.ref r1)] 3)) t := fun t kt => pre8 t (by
        show Steps p.tables e below (T7.setTop (mkF m 32 #[.val (.ref r0), .val (.ref r1), .val (.ref r1)] [(.int (lcmpW x0 x1))])) _
        refine XS.ifNo X7.here hx rfl (hb hby d9_32) rfl ((if0 _ _).trans (teq hc32).2) ?_
        show Steps p.tables e below (T7.setTop (mkF m 35 #[.val (.ref r0), .val (.ref r1), .val (.ref r1)] [])) _
        refine XS.aloadN X7.here hx rfl (hb hby d9_35) rfl rfl ?_
        show Steps p.tables e below (T7.setTop (mkF m 36 #[.val (.ref r0), .val (.ref r1), .val (.ref r1)] [(.ref r0)])) _
        refine st9 _ ?_
        show Steps p.tables e below (T9.setTop (mkF m 39 #[.val (.ref r0), .val (.ref r1), .val (.ref r1)] [(.long y0)])) _
        refine XS.aloadN X9.here hx rfl (hb hby d9_39) rfl rfl ?_
        show Steps p.tables e below (T9.setTop (mkF m 40 #[.val (.ref r0), .val (.ref r1), .val (.ref r1)] [(.ref r1), (.long y0)])) _
        refine st10 _ ?_
        show Steps p.tables e below (T10.setTop (mkF m 43 #[.val (.ref r0), .val (.ref r1), .val (.ref r1)] [(.long y1), (.long y0)])) _
        refine XS.lcmp X10.here hx rfl (hb hby d9_43) rfl ?_
        exact kt)
      by_cases hc44 : (lcmpW y0 y1) = (0 : Int32)
      · obtain ⟨T12, X12, e12, st12⟩ := getF X10 hx hZ hown (host := "") (Or.inl (hw _ (List.mem_of_getElem? (i := 51) rfl))) Via.refl e10 F_doctypeAt (g := (mkF m 48 #[.val (.ref r0), .val (.ref r1), .val (.ref r1)] [(.ref r0)])) rfl rfl (hb hby d9_48)
        obtain ⟨T13, X13, e13, st13⟩ := getF X12 hx hZ hown (host := "") (Or.inl (hw _ (List.mem_of_getElem? (i := 51) rfl))) Via.refl e12 G_doctypeAt (g := (mkF m 52 #[.val (.ref r0), .val (.ref r1), .val (.ref r1)] [(.ref r1), (.long z0)])) rfl rfl (hb hby d9_52)
        have pre14 : ∀ t, Steps p.tables e below (T13.setTop (mkF m 56 #[.val (.ref r0), .val (.ref r1), .val (.ref r1)] [(.int (lcmpW z0 z1))])) t → Steps p.tables e below (s₁.setTop (entryFrame m #[(.ref r0), (.ref r1)] 3)) t := fun t kt => pre11 t (by
          show Steps p.tables e below (T10.setTop (mkF m 44 #[.val (.ref r0), .val (.ref r1), .val (.ref r1)] [(.int (lcmpW y0 y1))])) _
          refine XS.ifNo X10.here hx rfl (hb hby d9_44) rfl ((if0 _ _).trans (teq hc44).2) ?_
          show Steps p.tables e below (T10.setTop (mkF m 47 #[.val (.ref r0), .val (.ref r1), .val (.ref r1)] [])) _
          refine XS.aloadN X10.here hx rfl (hb hby d9_47) rfl rfl ?_
          show Steps p.tables e below (T10.setTop (mkF m 48 #[.val (.ref r0), .val (.ref r1), .val (.ref r1)] [(.ref r0)])) _
          refine st12 _ ?_
          show Steps p.tables e below (T12.setTop (mkF m 51 #[.val (.ref r0), .val (.ref r1), .val (.ref r1)] [(.long z0)])) _
          refine XS.aloadN X12.here hx rfl (hb hby d9_51) rfl rfl ?_
          show Steps p.tables e below (T12.setTop (mkF m 52 #[.val (.ref r0), .val (.ref r1), .val (.ref r1)] [(.ref r1), (.long z0)])) _
          refine st13 _ ?_
          show Steps p.tables e below (T13.setTop (mkF m 55 #[.val (.ref r0), .val (.ref r1), .val (.ref r1)] [(.long z1), (.long z0)])) _
          refine XS.lcmp X13.here hx rfl (hb hby d9_55) rfl ?_
          exact kt)
        by_cases hc56 : (lcmpW z0 z1) = (0 : Int32)
        · obtain ⟨T15, X15, e15, st15⟩ := getF X13 hx hZ hown (host := "") (Or.inl (hw _ (List.mem_of_getElem? (i := 53) rfl))) Via.refl e13 F_closing (g := (mkF m 60 #[.val (.ref r0), .val (.ref r1), .val (.ref r1)] [(.ref r0)])) rfl rfl (hb hby d9_60)
          obtain ⟨T16, X16, e16, st16⟩ := getF X15 hx hZ hown (host := "") (Or.inl (hw _ (List.mem_of_getElem? (i := 53) rfl))) Via.refl e15 G_closing (g := (mkF m 64 #[.val (.ref r0), .val (.ref r1), .val (.ref r1)] [(.ref r1), (.int c0)])) rfl rfl (hb hby d9_64)
          have pre17 : ∀ t, Steps p.tables e below (T16.setTop (mkF m 67 #[.val (.ref r0), .val (.ref r1), .val (.ref r1)] [(.int c1), (.int c0)])) t → Steps p.tables e below (s₁.setTop (entryFrame m #[(.ref r0), (.ref r1)] 3)) t := fun t kt => pre14 t (by
            show Steps p.tables e below (T13.setTop (mkF m 56 #[.val (.ref r0), .val (.ref r1), .val (.ref r1)] [(.int (lcmpW z0 z1))])) _
            refine XS.ifNo X13.here hx rfl (hb hby d9_56) rfl ((if0 _ _).trans (teq hc56).2) ?_
            show Steps p.tables e below (T13.setTop (mkF m 59 #[.val (.ref r0), .val (.ref r1), .val (.ref r1)] [])) _
            refine XS.aloadN X13.here hx rfl (hb hby d9_59) rfl rfl ?_
            show Steps p.tables e below (T13.setTop (mkF m 60 #[.val (.ref r0), .val (.ref r1), .val (.ref r1)] [(.ref r0)])) _
            refine st15 _ ?_
            show Steps p.tables e below (T15.setTop (mkF m 63 #[.val (.ref r0), .val (.ref r1), .val (.ref r1)] [(.int c0)])) _
            refine XS.aloadN X15.here hx rfl (hb hby d9_63) rfl rfl ?_
            show Steps p.tables e below (T15.setTop (mkF m 64 #[.val (.ref r0), .val (.ref r1), .val (.ref r1)] [(.ref r1), (.int c0)])) _
            refine st16 _ ?_
            exact kt)
          by_cases hc67 : c0 = c1
          · obtain ⟨T18, X18, e18, st18⟩ := getF X16 hx hZ hown (host := "") (Or.inl (hw _ (List.mem_of_getElem? (i := 55) rfl))) Via.refl e16 F_prologStart (g := (mkF m 71 #[.val (.ref r0), .val (.ref r1), .val (.ref r1)] [(.ref r0)])) rfl rfl (hb hby d9_71)
            obtain ⟨T19, X19, e19, st19⟩ := getF X18 hx hZ hown (host := "") (Or.inl (hw _ (List.mem_of_getElem? (i := 55) rfl))) Via.refl e18 G_prologStart (g := (mkF m 75 #[.val (.ref r0), .val (.ref r1), .val (.ref r1)] [(.ref r1), (.long v0)])) rfl rfl (hb hby d9_75)
            have pre20 : ∀ t, Steps p.tables e below (T19.setTop (mkF m 79 #[.val (.ref r0), .val (.ref r1), .val (.ref r1)] [(.int (lcmpW v0 v1))])) t → Steps p.tables e below (s₁.setTop (entryFrame m #[(.ref r0), (.ref r1)] 3)) t := fun t kt => pre17 t (by
              show Steps p.tables e below (T16.setTop (mkF m 67 #[.val (.ref r0), .val (.ref r1), .val (.ref r1)] [(.int c1), (.int c0)])) _
              refine XS.icmpNo X16.here hx rfl (hb hby d9_67) rfl (teq hc67).2 ?_
              show Steps p.tables e below (T16.setTop (mkF m 70 #[.val (.ref r0), .val (.ref r1), .val (.ref r1)] [])) _
              refine XS.aloadN X16.here hx rfl (hb hby d9_70) rfl rfl ?_
              show Steps p.tables e below (T16.setTop (mkF m 71 #[.val (.ref r0), .val (.ref r1), .val (.ref r1)] [(.ref r0)])) _
              refine st18 _ ?_
              show Steps p.tables e below (T18.setTop (mkF m 74 #[.val (.ref r0), .val (.ref r1), .val (.ref r1)] [(.long v0)])) _
              refine XS.aloadN X18.here hx rfl (hb hby d9_74) rfl rfl ?_
              show Steps p.tables e below (T18.setTop (mkF m 75 #[.val (.ref r0), .val (.ref r1), .val (.ref r1)] [(.ref r1), (.long v0)])) _
              refine st19 _ ?_
              show Steps p.tables e below (T19.setTop (mkF m 78 #[.val (.ref r0), .val (.ref r1), .val (.ref r1)] [(.long v1), (.long v0)])) _
              refine XS.lcmp X19.here hx rfl (hb hby d9_78) rfl ?_
              exact kt)
            by_cases hc79 : (lcmpW v0 v1) = (0 : Int32)
            · obtain ⟨fs, hr, hrun, hended, hW, hsame⟩ := X19.leave (v := some (.int (1 : Int32))) (fun h => by rw [Bd.returns] at h; cases h)
              refine ⟨_, _, pre20 _ ?_, hrun, hended, _, _, rfl, ?_, ⟨_, rfl⟩, hW, hsame.mono (by decide) (by decide)⟩
              · show Steps p.tables e below (T19.setTop (mkF m 79 #[.val (.ref r0), .val (.ref r1), .val (.ref r1)] [(.int (lcmpW v0 v1))])) _
                refine XS.ifNo X19.here hx rfl (hb hby d9_79) rfl ((if0 _ _).trans (teq hc79).2) ?_
                show Steps p.tables e below (T19.setTop (mkF m 82 #[.val (.ref r0), .val (.ref r1), .val (.ref r1)] [])) _
                refine XS.iconst X19.here hx rfl (hb hby d9_82) ?_
                show Steps p.tables e below (T19.setTop (mkF m 83 #[.val (.ref r0), .val (.ref r1), .val (.ref r1)] [(.int (1 : Int32))])) _
                refine XS.goto X19.here hx rfl (pc0 := 83) (pc' := 87) rfl (hb hby d9_83) (by decide) (by decide) ?_
                show Steps p.tables e below (T19.setTop (mkF m 87 #[.val (.ref r0), .val (.ref r1), .val (.ref r1)] [(.int (1 : Int32))])) _
                exact retN X19 hx (t := .boolean) Bd.returns (by simp) (hb hby d9_87) hr
              · show Q9c Z r0 r1 m0 x0 y0 z0 c0 v0 m1 x1 y1 z1 c1 v1 h0 n0 _ T19.heap _
                rw [e19]
                exact ⟨(by unfold F9c; simp only [if_pos ha20, if_pos hc32, if_pos hc44, if_pos hc56, if_pos hc67, if_pos hc79]), N0, rfl⟩
            · obtain ⟨fs, hr, hrun, hended, hW, hsame⟩ := X19.leave (v := some (.int (0 : Int32))) (fun h => by rw [Bd.returns] at h; cases h)
              refine ⟨_, _, pre20 _ ?_, hrun, hended, _, _, rfl, ?_, ⟨_, rfl⟩, hW, hsame.mono (by decide) (by decide)⟩
              · show Steps p.tables e below (T19.setTop (mkF m 79 #[.val (.ref r0), .val (.ref r1), .val (.ref r1)] [(.int (lcmpW v0 v1))])) _
                refine XS.ifYes X19.here hx rfl (pc0 := 79) (pc' := 86) rfl (hb hby d9_79) rfl ((if0 _ _).trans (feq hc79).2) (by decide) (by decide) ?_
                show Steps p.tables e below (T19.setTop (mkF m 86 #[.val (.ref r0), .val (.ref r1), .val (.ref r1)] [])) _
                refine XS.iconst X19.here hx rfl (hb hby d9_86) ?_
                show Steps p.tables e below (T19.setTop (mkF m 87 #[.val (.ref r0), .val (.ref r1), .val (.ref r1)] [(.int (0 : Int32))])) _
                exact retN X19 hx (t := .boolean) Bd.returns (by simp) (hb hby d9_87) hr
              · show Q9c Z r0 r1 m0 x0 y0 z0 c0 v0 m1 x1 y1 z1 c1 v1 h0 n0 _ T19.heap _
                rw [e19]
                exact ⟨(by unfold F9c; simp only [if_pos ha20, if_pos hc32, if_pos hc44, if_pos hc56, if_pos hc67, if_neg hc79]), N0, rfl⟩
          · obtain ⟨fs, hr, hrun, hended, hW, hsame⟩ := X16.leave (v := some (.int (0 : Int32))) (fun h => by rw [Bd.returns] at h; cases h)
            refine ⟨_, _, pre17 _ ?_, hrun, hended, _, _, rfl, ?_, ⟨_, rfl⟩, hW, hsame.mono (by decide) (by decide)⟩
            · show Steps p.tables e below (T16.setTop (mkF m 67 #[.val (.ref r0), .val (.ref r1), .val (.ref r1)] [(.int c1), (.int c0)])) _
              refine XS.icmpYes X16.here hx rfl (pc0 := 67) (pc' := 86) rfl (hb hby d9_67) rfl (feq hc67).2 (by decide) (by decide) ?_
              show Steps p.tables e below (T16.setTop (mkF m 86 #[.val (.ref r0), .val (.ref r1), .val (.ref r1)] [])) _
              refine XS.iconst X16.here hx rfl (hb hby d9_86) ?_
              show Steps p.tables e below (T16.setTop (mkF m 87 #[.val (.ref r0), .val (.ref r1), .val (.ref r1)] [(.int (0 : Int32))])) _
              exact retN X16 hx (t := .boolean) Bd.returns (by simp) (hb hby d9_87) hr
            · show Q9c Z r0 r1 m0 x0 y0 z0 c0 v0 m1 x1 y1 z1 c1 v1 h0 n0 _ T16.heap _
              rw [e16]
              exact ⟨(by unfold F9c; simp only [if_pos ha20, if_pos hc32, if_pos hc44, if_pos hc56, if_neg hc67]), N0, rfl⟩
        · obtain ⟨fs, hr, hrun, hended, hW, hsame⟩ := X13.leave (v := some (.int (0 : Int32))) (fun h => by rw [Bd.returns] at h; cases h)
          refine ⟨_, _, pre14 _ ?_, hrun, hended, _, _, rfl, ?_, ⟨_, rfl⟩, hW, hsame.mono (by decide) (by decide)⟩
          · show Steps p.tables e below (T13.setTop (mkF m 56 #[.val (.ref r0), .val (.ref r1), .val (.ref r1)] [(.int (lcmpW z0 z1))])) _
            refine XS.ifYes X13.here hx rfl (pc0 := 56) (pc' := 86) rfl (hb hby d9_56) rfl ((if0 _ _).trans (feq hc56).2) (by decide) (by decide) ?_
            show Steps p.tables e below (T13.setTop (mkF m 86 #[.val (.ref r0), .val (.ref r1), .val (.ref r1)] [])) _
            refine XS.iconst X13.here hx rfl (hb hby d9_86) ?_
            show Steps p.tables e below (T13.setTop (mkF m 87 #[.val (.ref r0), .val (.ref r1), .val (.ref r1)] [(.int (0 : Int32))])) _
            exact retN X13 hx (t := .boolean) Bd.returns (by simp) (hb hby d9_87) hr
          · show Q9c Z r0 r1 m0 x0 y0 z0 c0 v0 m1 x1 y1 z1 c1 v1 h0 n0 _ T13.heap _
            rw [e13]
            exact ⟨(by unfold F9c; simp only [if_pos ha20, if_pos hc32, if_pos hc44, if_neg hc56]), N0, rfl⟩
      · obtain ⟨fs, hr, hrun, hended, hW, hsame⟩ := X10.leave (v := some (.int (0 : Int32))) (fun h => by rw [Bd.returns] at h; cases h)
        refine ⟨_, _, pre11 _ ?_, hrun, hended, _, _, rfl, ?_, ⟨_, rfl⟩, hW, hsame.mono (by decide) (by decide)⟩
        · show Steps p.tables e below (T10.setTop (mkF m 44 #[.val (.ref r0), .val (.ref r1), .val (.ref r1)] [(.int (lcmpW y0 y1))])) _
          refine XS.ifYes X10.here hx rfl (pc0 := 44) (pc' := 86) rfl (hb hby d9_44) rfl ((if0 _ _).trans (feq hc44).2) (by decide) (by decide) ?_
          show Steps p.tables e below (T10.setTop (mkF m 86 #[.val (.ref r0), .val (.ref r1), .val (.ref r1)] [])) _
          refine XS.iconst X10.here hx rfl (hb hby d9_86) ?_
          show Steps p.tables e below (T10.setTop (mkF m 87 #[.val (.ref r0), .val (.ref r1), .val (.ref r1)] [(.int (0 : Int32))])) _
          exact retN X10 hx (t := .boolean) Bd.returns (by simp) (hb hby d9_87) hr
        · show Q9c Z r0 r1 m0 x0 y0 z0 c0 v0 m1 x1 y1 z1 c1 v1 h0 n0 _ T10.heap _
          rw [e10]
          exact ⟨(by unfold F9c; simp only [if_pos ha20, if_pos hc32, if_neg hc44]), N0, rfl⟩
    · obtain ⟨fs, hr, hrun, hended, hW, hsame⟩ := X7.leave (v := some (.int (0 : Int32))) (fun h => by rw [Bd.returns] at h; cases h)
      refine ⟨_, _, pre8 _ ?_, hrun, hended, _, _, rfl, ?_, ⟨_, rfl⟩, hW, hsame.mono (by decide) (by decide)⟩
      · show Steps p.tables e below (T7.setTop (mkF m 32 #[.val (.ref r0), .val (.ref r1), .val (.ref r1)] [(.int (lcmpW x0 x1))])) _
        refine XS.ifYes X7.here hx rfl (pc0 := 32) (pc' := 86) rfl (hb hby d9_32) rfl ((if0 _ _).trans (feq hc32).2) (by decide) (by decide) ?_
        show Steps p.tables e below (T7.setTop (mkF m 86 #[.val (.ref r0), .val (.ref r1), .val (.ref r1)] [])) _
        refine XS.iconst X7.here hx rfl (hb hby d9_86) ?_
        show Steps p.tables e below (T7.setTop (mkF m 87 #[.val (.ref r0), .val (.ref r1), .val (.ref r1)] [(.int (0 : Int32))])) _
        exact retN X7 hx (t := .boolean) Bd.returns (by simp) (hb hby d9_87) hr
      · show Q9c Z r0 r1 m0 x0 y0 z0 c0 v0 m1 x1 y1 z1 c1 v1 h0 n0 _ T7.heap _
        rw [e7]
        exact ⟨(by unfold F9c; simp only [if_pos ha20, if_neg hc32]), N0, rfl⟩
  · obtain ⟨fs, hr, hrun, hended, hW, hsame⟩ := X4.leave (v := some (.int (0 : Int32))) (fun h => by rw [Bd.returns] at h; cases h)
    refine ⟨_, _, pre5 _ ?_, hrun, hended, _, _, rfl, ?_, ⟨_, rfl⟩, hW, hsame.mono (by decide) (by decide)⟩
    · show Steps p.tables e below (T4.setTop (mkF m 20 #[.val (.ref r0), .val (.ref r1), .val (.ref r1)] [(.ref m1), (.ref m0)])) _
      refine Jvm.RoadKit.acmp (g := (mkF m 20 #[.val (.ref r0), .val (.ref r1), .val (.ref r1)] [(.ref m1), (.ref m0)])) X4 hx rfl rfl rfl (pc0 := 20) (pc' := 86) (same := false) rfl (hb hby d9_20) rfl (decide_eq_false fun q => ha20 (Value.ref.inj q)) (by decide) (by decide) ?_
      show Steps p.tables e below (T4.setTop (mkF m 86 #[.val (.ref r0), .val (.ref r1), .val (.ref r1)] [])) _
      refine XS.iconst X4.here hx rfl (hb hby d9_86) ?_
      show Steps p.tables e below (T4.setTop (mkF m 87 #[.val (.ref r0), .val (.ref r1), .val (.ref r1)] [(.int (0 : Int32))])) _
      exact retN X4 hx (t := .boolean) Bd.returns (by simp) (hb hby d9_87) hr
    · show Q9c Z r0 r1 m0 x0 y0 z0 c0 v0 m1 x1 y1 z1 c1 v1 h0 n0 _ T4.heap _
      rw [e4]
      exact ⟨(by unfold F9c; simp only [if_neg ha20]), N0, rfl⟩
theorem pd__I_Lcom_example_grove8_grove8_Context_Mode_ : parseMethodDescriptor "(I)Lcom/example/grove8/grove8/Context$Mode;" = some ⟨[.int], some (.object "com/example/grove8/grove8/Context$Mode")⟩ := by decide +kernel
theorem pd__C_Ljava_lang_String_ : parseMethodDescriptor "(C)Ljava/lang/String;" = some ⟨[.char], some (.object "java/lang/String")⟩ := by decide +kernel
theorem pd__Lcom_example_grove8_grove8_Context_Mode_JJJIJ_V : parseMethodDescriptor "(Lcom/example/grove8/grove8/Context$Mode;JJJIJ)V" = some ⟨[(.object "com/example/grove8/grove8/Context$Mode"), .long, .long, .long, .int, .long], none⟩ := by decide +kernel
theorem pd__Ljava_lang_Object__Z : parseMethodDescriptor "(Ljava/lang/Object;)Z" = some ⟨[(.object "java/lang/Object")], some .boolean⟩ := by decide +kernel
theorem ef_0 (p0 : Int32) (q1 : Int64) (q2 : Int64) (q3 : Int64) (q4 : Int64) (q5 : Int64) (w0 w1 w2 w3 w4 : Addr) (wc : Int32) (m : MethodId) : entryFrame m #[(.int p0), (.long q1), (.long q2), (.long q3), (.long q4), (.long q5)] maxLocals = mkF m 0 #[.val (.int p0), .val (.long q1), .second, .val (.long q2), .second, .val (.long q3), .second, .val (.long q4), .second, .val (.long q5), .second, .unset, .unset, .unset, .unset, .unset, .unset, .unset, .unset, .unset, .unset, .unset, .unset, .unset, .unset, .unset, .unset, .unset] [] := by first | (simp [entryFrame, mkF, argsToLocals, Value.category, maxLocals]; done) | rfl
def A0_9 (p0 : Int32) (q1 : Int64) (q2 : Int64) (q3 : Int64) (q4 : Int64) (q5 : Int64) (w0 w1 w2 w3 w4 : Addr) (wc : Int32) : Addr := (F1 ((p0 &&& (7 : Int32)) % (5 : Int32)) w0 w1 w2 w3 w4)
def A0_22 (p0 : Int32) (q1 : Int64) (q2 : Int64) (q3 : Int64) (q4 : Int64) (q5 : Int64) (w0 w1 w2 w3 w4 : Addr) (wc : Int32) : Addr := (F1 ((((p0.toUInt32 >>> ((3 : Int32) &&& 31).toUInt32).toInt32) &&& (7 : Int32)) % (5 : Int32)) w0 w1 w2 w3 w4)
def A0_30 (p0 : Int32) (q1 : Int64) (q2 : Int64) (q3 : Int64) (q4 : Int64) (q5 : Int64) (w0 w1 w2 w3 w4 : Addr) (wc : Int32) : Int32 := (((q5.toUInt64 >>> ((32 : Int32) &&& 0x3f).toInt64.toUInt64).toInt64).toInt32)
def J0_38_S0 (p0 : Int32) (q1 : Int64) (q2 : Int64) (q3 : Int64) (q4 : Int64) (q5 : Int64) (w0 w1 w2 w3 w4 : Addr) (wc : Int32) : Int64 := (if (((p0.toUInt32 >>> ((6 : Int32) &&& 31).toUInt32).toInt32) &&& (1 : Int32)) = (0 : Int32) then q1 else q5)
def J0_55_S0 (p0 : Int32) (q1 : Int64) (q2 : Int64) (q3 : Int64) (q4 : Int64) (q5 : Int64) (w0 w1 w2 w3 w4 : Addr) (wc : Int32) : Int64 := (if (((p0.toUInt32 >>> ((7 : Int32) &&& 31).toUInt32).toInt32) &&& (1 : Int32)) = (0 : Int32) then q2 else q5)
def J0_72_S0 (p0 : Int32) (q1 : Int64) (q2 : Int64) (q3 : Int64) (q4 : Int64) (q5 : Int64) (w0 w1 w2 w3 w4 : Addr) (wc : Int32) : Int64 := (if (((p0.toUInt32 >>> ((8 : Int32) &&& 31).toUInt32).toInt32) &&& (1 : Int32)) = (0 : Int32) then q3 else q5)
def J0_90_S0 (p0 : Int32) (q1 : Int64) (q2 : Int64) (q3 : Int64) (q4 : Int64) (q5 : Int64) (w0 w1 w2 w3 w4 : Addr) (wc : Int32) : Int32 := (if (((p0.toUInt32 >>> ((9 : Int32) &&& 31).toUInt32).toInt32) &&& (1 : Int32)) = (0 : Int32) then (A0_30 p0 q1 q2 q3 q4 q5 w0 w1 w2 w3 w4 wc) else (q5.toInt32))
def J0_109_S0 (p0 : Int32) (q1 : Int64) (q2 : Int64) (q3 : Int64) (q4 : Int64) (q5 : Int64) (w0 w1 w2 w3 w4 : Addr) (wc : Int32) : Int64 := (if (((p0.toUInt32 >>> ((10 : Int32) &&& 31).toUInt32).toInt32) &&& (1 : Int32)) = (0 : Int32) then q4 else q5)
def A0_128 (p0 : Int32) (q1 : Int64) (q2 : Int64) (q3 : Int64) (q4 : Int64) (q5 : Int64) (w0 w1 w2 w3 w4 : Addr) (wc : Int32) : Int32 := (((p0.toUInt32 >>> ((11 : Int32) &&& 31).toUInt32).toInt32) &&& (7 : Int32))
def J0_247_S0 (p0 : Int32) (q1 : Int64) (q2 : Int64) (q3 : Int64) (q4 : Int64) (q5 : Int64) (w0 w1 w2 w3 w4 : Addr) (wc : Int32) : Int32 := (if (A0_9 p0 q1 q2 q3 q4 q5 w0 w1 w2 w3 w4 wc) = (A0_22 p0 q1 q2 q3 q4 q5 w0 w1 w2 w3 w4 wc) then (if (lcmpW q1 (J0_38_S0 p0 q1 q2 q3 q4 q5 w0 w1 w2 w3 w4 wc)) = (0 : Int32) then (if (lcmpW q2 (J0_55_S0 p0 q1 q2 q3 q4 q5 w0 w1 w2 w3 w4 wc)) = (0 : Int32) then (if (lcmpW q3 (J0_72_S0 p0 q1 q2 q3 q4 q5 w0 w1 w2 w3 w4 wc)) = (0 : Int32) then (if (A0_30 p0 q1 q2 q3 q4 q5 w0 w1 w2 w3 w4 wc) = (J0_90_S0 p0 q1 q2 q3 q4 q5 w0 w1 w2 w3 w4 wc) then (if (lcmpW q4 (J0_109_S0 p0 q1 q2 q3 q4 q5 w0 w1 w2 w3 w4 wc)) = (0 : Int32) then (1 : Int32) else (0 : Int32)) else (0 : Int32)) else (0 : Int32)) else (0 : Int32)) else (0 : Int32)) else (0 : Int32))
def F0 (p0 : Int32) (q1 : Int64) (q2 : Int64) (q3 : Int64) (q4 : Int64) (q5 : Int64) (w0 w1 w2 w3 w4 : Addr) (wc : Int32) : Int32 := (if (A0_128 p0 q1 q2 q3 q4 q5 w0 w1 w2 w3 w4 wc) = (5 : Int32) then (1 : Int32) else (if (A0_128 p0 q1 q2 q3 q4 q5 w0 w1 w2 w3 w4 wc) = (6 : Int32) then (1 : Int32) else (if (A0_128 p0 q1 q2 q3 q4 q5 w0 w1 w2 w3 w4 wc) = (7 : Int32) then (1 : Int32) else (if (F9c (A0_9 p0 q1 q2 q3 q4 q5 w0 w1 w2 w3 w4 wc) q1 q2 q3 (A0_30 p0 q1 q2 q3 q4 q5 w0 w1 w2 w3 w4 wc) q4 (A0_22 p0 q1 q2 q3 q4 q5 w0 w1 w2 w3 w4 wc) (J0_38_S0 p0 q1 q2 q3 q4 q5 w0 w1 w2 w3 w4 wc) (J0_55_S0 p0 q1 q2 q3 q4 q5 w0 w1 w2 w3 w4 wc) (J0_72_S0 p0 q1 q2 q3 q4 q5 w0 w1 w2 w3 w4 wc) (J0_90_S0 p0 q1 q2 q3 q4 q5 w0 w1 w2 w3 w4 wc) (J0_109_S0 p0 q1 q2 q3 q4 q5 w0 w1 w2 w3 w4 wc)) = (J0_247_S0 p0 q1 q2 q3 q4 q5 w0 w1 w2 w3 w4 wc) then (if (F9c (A0_22 p0 q1 q2 q3 q4 q5 w0 w1 w2 w3 w4 wc) (J0_38_S0 p0 q1 q2 q3 q4 q5 w0 w1 w2 w3 w4 wc) (J0_55_S0 p0 q1 q2 q3 q4 q5 w0 w1 w2 w3 w4 wc) (J0_72_S0 p0 q1 q2 q3 q4 q5 w0 w1 w2 w3 w4 wc) (J0_90_S0 p0 q1 q2 q3 q4 q5 w0 w1 w2 w3 w4 wc) (J0_109_S0 p0 q1 q2 q3 q4 q5 w0 w1 w2 w3 w4 wc) (A0_9 p0 q1 q2 q3 q4 q5 w0 w1 w2 w3 w4 wc) q1 q2 q3 (A0_30 p0 q1 q2 q3 q4 q5 w0 w1 w2 w3 w4 wc) q4) = (J0_247_S0 p0 q1 q2 q3 q4 q5 w0 w1 w2 w3 w4 wc) then (1 : Int32) else (0 : Int32)) else (0 : Int32)))))
def Q0 (Z : State) (p0 : Int32) (q1 : Int64) (q2 : Int64) (q3 : Int64) (q4 : Int64) (q5 : Int64) (w0 w1 w2 w3 w4 : Addr) (wc : Int32) (h0 : Heap) (n0 : Nat) (v : Option Value) (h : Heap) (L : List Loc) : Prop := v = some (.int (F0 p0 q1 q2 q3 q4 q5 w0 w1 w2 w3 w4 wc)) ∧ Fr n0 L
set_option maxRecDepth 65536 in
set_option maxHeartbeats 40000000 in
theorem rm0 (l : Launch) (Z : State) (a0 : Array Value) (hw : ∀ d ∈ tables_1, d.before a0 Z = true) (ws : List Jvm.Cond) (p0 : Int32) (q1 : Int64) (q2 : Int64) (q3 : Int64) (q4 : Int64) (q5 : Int64) (w0 w1 w2 w3 w4 : Addr) (wc : Int32) (h0 : Heap) (n0 : Nat) (Z0 : n0 ≤ h0.size) (S_CONTENT : Sta Z h0 "com/example/grove8/grove8/Context$Mode" "CONTENT" "Lcom/example/grove8/grove8/Context$Mode;" (.ref w0)) (S_COMMENT : Sta Z h0 "com/example/grove8/grove8/Context$Mode" "COMMENT" "Lcom/example/grove8/grove8/Context$Mode;" (.ref w1)) (S_CDATA_SECTION : Sta Z h0 "com/example/grove8/grove8/Context$Mode" "CDATA_SECTION" "Lcom/example/grove8/grove8/Context$Mode;" (.ref w2)) (S_PROCESSING_INSTRUCTION : Sta Z h0 "com/example/grove8/grove8/Context$Mode" "PROCESSING_INSTRUCTION" "Lcom/example/grove8/grove8/Context$Mode;" (.ref w3)) (S_INTERNAL_SUBSET : Sta Z h0 "com/example/grove8/grove8/Context$Mode" "INTERNAL_SUBSET" "Lcom/example/grove8/grove8/Context$Mode;" (.ref w4)) (S_c : Sta Z h0 "java/lang/String" "COMPACT_STRINGS" "Z" (.int wc)) (hwc : ¬ (wc = (0 : Int32))) :
    MetFree l x (head1 (Jvm.Cond.code x code maxLocals ret :: ws) room_1) (fun a U => a = #[(.int p0), (.long q1), (.long q2), (.long q3), (.long q4), (.long q5)] ∧ Z.Warmed39 U.vm ∧ U.heap = h0) (fun _ _ _ _ _ => True) (fun _ U o U' => ∃ v L, o = .returned v ∧ Q0 Z p0 q1 q2 q3 q4 q5 w0 w1 w2 w3 w4 wc h0 n0 v U'.heap L ∧ FrameEnd U o U' L room_1.cells room_1.slots) := by
  refine MetFree.of_bodySF (plainFor_of_name pn_com_example_grove8_grove8_ContextEqualsPinLaw) hisR ?_
  intro p e s m args below meth c s₁ Bd hml0 hP hK
  obtain ⟨rfl, hZ, hh⟩ := hP
  have hx := Bd.exec
  have hby := Bd.bytes
  have hml : c.maxLocals = 28 := hml0
  have hown : s.vm.findClass "com/example/grove8/grove8/ContextEqualsPinLaw" = some m.cls := findClass_of_methodNamed Bd.named
  have hnm := (name_of_methodNamed Bd.named Bd.method).1
  have X0 : Stand p l e room_1 s m #[(.int p0), (.long q1), (.long q2), (.long q3), (.long q4), (.long q5)] below meth c s₁ [] 0 0 := Stand.of_body Bd
  have e0 : s₁.heap = h0 := by rw [← hh, Bd.state]; rfl
  have N0 := Fr.nil n0
  have pre0 : ∀ t, Steps p.tables e below (s₁.setTop (mkF m 0 #[.val (.int p0), .val (.long q1), .second, .val (.long q2), .second, .val (.long q3), .second, .val (.long q4), .second, .val (.long q5), .second, .unset, .unset, .unset, .unset, .unset, .unset, .unset, .unset, .unset, .unset, .unset, .unset, .unset, .unset, .unset, .unset, .unset] [])) t → Steps p.tables e below (s₁.setTop (entryFrame m #[(.int p0), (.long q1), (.long q2), (.long q3), (.long q4), (.long q5)] maxLocals)) t := fun t k => castTop (ef_0 p0 q1 q2 q3 q4 q5 w0 w1 w2 w3 w4 wc m) k
  obtain ⟨_, _, ⟨T1, L1, k1, n1⟩, -, X1, ⟨Lc1, hQ1, ll1, ly1, lz1⟩, st1⟩ := Jvm.LawKit.callS X0 hx (y := (⟨"com/example/grove8/grove8/ContextEqualsPinLaw", "mode", "(I)Lcom/example/grove8/grove8/Context$Mode;"⟩ : MethodName)) hown (mvT hZ (hw _ (List.mem_of_getElem? (i := 0) rfl))) (mvT hZ (hw _ (List.mem_of_getElem? (i := 1) rfl))) (mvT hZ (hw _ (List.mem_of_getElem? (i := 2) rfl))) (mvT hZ (hw _ (List.mem_of_getElem? (i := 3) rfl))) (by decide) (backOf (W := 0) (rm1 l Z a0 hw [] ((p0 &&& (7 : Int32)) % (5 : Int32)) w0 w1 w2 w3 w4 h0 n0 Z0 S_CONTENT S_COMMENT S_CDATA_SECTION S_PROCESSING_INSTRUCTION S_INTERNAL_SUBSET) hZ (hw _ (List.mem_of_getElem? (i := 3) rfl)) (hw _ (List.mem_of_getElem? (i := 2) rfl)) (by decide) (by decide)) (g := (mkF m 6 #[.val (.int p0), .val (.long q1), .second, .val (.long q2), .second, .val (.long q3), .second, .val (.long q4), .second, .val (.long q5), .second, .unset, .unset, .unset, .unset, .unset, .unset, .unset, .unset, .unset, .unset, .unset, .unset, .unset, .unset, .unset, .unset, .unset] [(.int ((p0 &&& (7 : Int32)) % (5 : Int32)))])) rfl (by rw [hml]; rfl) (argsL := [(.int ((p0 &&& (7 : Int32)) % (5 : Int32)))]) (rest := []) (lenOf pd__I_Lcom_example_grove8_grove8_Context_Mode_ rfl) rfl (by show 2 * 0 + _ ≤ _; exact Nat.le_of_eq rfl) (hb hby at_6) (fun _ _ => ⟨rfl, e0, (by decide : 0 + 0 ≤ _), (by decide : 0 + 0 ≤ _)⟩)
  dsimp only [Pt.U, Pt.locs, Pt.cells, Pt.slots] at X1 ll1 ly1 lz1 st1 hQ1
  subst ll1 ly1 lz1
  obtain ⟨rfl, N1q, e1⟩ := hQ1
  have N1 := Fr.app N0 N1q
  obtain ⟨_, _, ⟨T2, L2, k2, n2⟩, -, X2, ⟨Lc2, hQ2, ll2, ly2, lz2⟩, st2⟩ := Jvm.LawKit.callS X1 hx (y := (⟨"com/example/grove8/grove8/ContextEqualsPinLaw", "mode", "(I)Lcom/example/grove8/grove8/Context$Mode;"⟩ : MethodName)) hown (mvT hZ (hw _ (List.mem_of_getElem? (i := 0) rfl))) (mvT hZ (hw _ (List.mem_of_getElem? (i := 1) rfl))) (mvT hZ (hw _ (List.mem_of_getElem? (i := 2) rfl))) (mvT hZ (hw _ (List.mem_of_getElem? (i := 3) rfl))) (by decide) (backOf (W := 0) (rm1 l Z a0 hw [] ((((p0.toUInt32 >>> ((3 : Int32) &&& 31).toUInt32).toInt32) &&& (7 : Int32)) % (5 : Int32)) w0 w1 w2 w3 w4 h0 n0 Z0 S_CONTENT S_COMMENT S_CDATA_SECTION S_PROCESSING_INSTRUCTION S_INTERNAL_SUBSET) hZ (hw _ (List.mem_of_getElem? (i := 3) rfl)) (hw _ (List.mem_of_getElem? (i := 2) rfl)) (by decide) (by decide)) (g := (mkF m 19 #[.val (.int p0), .val (.long q1), .second, .val (.long q2), .second, .val (.long q3), .second, .val (.long q4), .second, .val (.long q5), .second, .val (.ref (A0_9 p0 q1 q2 q3 q4 q5 w0 w1 w2 w3 w4 wc)), .unset, .unset, .unset, .unset, .unset, .unset, .unset, .unset, .unset, .unset, .unset, .unset, .unset, .unset, .unset, .unset] [(.int ((((p0.toUInt32 >>> ((3 : Int32) &&& 31).toUInt32).toInt32) &&& (7 : Int32)) % (5 : Int32)))])) rfl (by rw [hml]; rfl) (argsL := [(.int ((((p0.toUInt32 >>> ((3 : Int32) &&& 31).toUInt32).toInt32) &&& (7 : Int32)) % (5 : Int32)))]) (rest := []) (lenOf pd__I_Lcom_example_grove8_grove8_Context_Mode_ rfl) rfl (by show 2 * 0 + _ ≤ _; exact Nat.le_of_eq rfl) (hb hby at_19) (fun _ _ => ⟨rfl, e1, (by decide : 0 + 0 ≤ _), (by decide : 0 + 0 ≤ _)⟩)
  dsimp only [Pt.U, Pt.locs, Pt.cells, Pt.slots] at X2 ll2 ly2 lz2 st2 hQ2
  subst ll2 ly2 lz2
  obtain ⟨rfl, N2q, e2⟩ := hQ2
  have N2 := Fr.app N1 N2q
  have pre3 : ∀ t, Steps p.tables e below (T2.setTop (mkF m 38 #[.val (.int p0), .val (.long q1), .second, .val (.long q2), .second, .val (.long q3), .second, .val (.long q4), .second, .val (.long q5), .second, .val (.ref (A0_9 p0 q1 q2 q3 q4 q5 w0 w1 w2 w3 w4 wc)), .val (.ref (A0_22 p0 q1 q2 q3 q4 q5 w0 w1 w2 w3 w4 wc)), .val (.int (A0_30 p0 q1 q2 q3 q4 q5 w0 w1 w2 w3 w4 wc)), .unset, .unset, .unset, .unset, .unset, .unset, .unset, .unset, .unset, .unset, .unset, .unset, .unset, .unset] [(.int (((p0.toUInt32 >>> ((6 : Int32) &&& 31).toUInt32).toInt32) &&& (1 : Int32)))])) t → Steps p.tables e below (s₁.setTop (entryFrame m #[(.int p0), (.long q1), (.long q2), (.long q3), (.long q4), (.long q5)] maxLocals)) t := fun t kt => pre0 t (by
    show Steps p.tables e below (s₁.setTop (mkF m 0 #[.val (.int p0), .val (.long q1), .second, .val (.long q2), .second, .val (.long q3), .second, .val (.long q4), .second, .val (.long q5), .second, .unset, .unset, .unset, .unset, .unset, .unset, .unset, .unset, .unset, .unset, .unset, .unset, .unset, .unset, .unset, .unset, .unset] [])) _
    refine XS.iloadN X0.here hx rfl (hb hby at_0) rfl ?_
    show Steps p.tables e below (s₁.setTop (mkF m 1 #[.val (.int p0), .val (.long q1), .second, .val (.long q2), .second, .val (.long q3), .second, .val (.long q4), .second, .val (.long q5), .second, .unset, .unset, .unset, .unset, .unset, .unset, .unset, .unset, .unset, .unset, .unset, .unset, .unset, .unset, .unset, .unset, .unset] [(.int p0)])) _
    refine XS.bipush X0.here hx rfl (hb hby at_1) ?_
    show Steps p.tables e below (s₁.setTop (mkF m 3 #[.val (.int p0), .val (.long q1), .second, .val (.long q2), .second, .val (.long q3), .second, .val (.long q4), .second, .val (.long q5), .second, .unset, .unset, .unset, .unset, .unset, .unset, .unset, .unset, .unset, .unset, .unset, .unset, .unset, .unset, .unset, .unset, .unset] [(.int (7 : Int32)), (.int p0)])) _
    refine XS.iand X0.here hx rfl (hb hby at_3) rfl ?_
    show Steps p.tables e below (s₁.setTop (mkF m 4 #[.val (.int p0), .val (.long q1), .second, .val (.long q2), .second, .val (.long q3), .second, .val (.long q4), .second, .val (.long q5), .second, .unset, .unset, .unset, .unset, .unset, .unset, .unset, .unset, .unset, .unset, .unset, .unset, .unset, .unset, .unset, .unset, .unset] [(.int (p0 &&& (7 : Int32)))])) _
    refine XS.iconst X0.here hx rfl (hb hby at_4) ?_
    show Steps p.tables e below (s₁.setTop (mkF m 5 #[.val (.int p0), .val (.long q1), .second, .val (.long q2), .second, .val (.long q3), .second, .val (.long q4), .second, .val (.long q5), .second, .unset, .unset, .unset, .unset, .unset, .unset, .unset, .unset, .unset, .unset, .unset, .unset, .unset, .unset, .unset, .unset, .unset] [(.int (5 : Int32)), (.int (p0 &&& (7 : Int32)))])) _
    refine iremM X0 hx rfl (hb hby at_5) rfl (by decide) ?_
    show Steps p.tables e below (s₁.setTop (mkF m 6 #[.val (.int p0), .val (.long q1), .second, .val (.long q2), .second, .val (.long q3), .second, .val (.long q4), .second, .val (.long q5), .second, .unset, .unset, .unset, .unset, .unset, .unset, .unset, .unset, .unset, .unset, .unset, .unset, .unset, .unset, .unset, .unset, .unset] [(.int ((p0 &&& (7 : Int32)) % (5 : Int32)))])) _
    refine st1 _ ?_
    show Steps p.tables e below (T1.setTop (mkF m 9 #[.val (.int p0), .val (.long q1), .second, .val (.long q2), .second, .val (.long q3), .second, .val (.long q4), .second, .val (.long q5), .second, .unset, .unset, .unset, .unset, .unset, .unset, .unset, .unset, .unset, .unset, .unset, .unset, .unset, .unset, .unset, .unset, .unset] [(.ref (F1 ((p0 &&& (7 : Int32)) % (5 : Int32)) w0 w1 w2 w3 w4))])) _
    refine XS.astore X1.here hx rfl (hb hby at_9) rfl rfl (l' := #[.val (.int p0), .val (.long q1), .second, .val (.long q2), .second, .val (.long q3), .second, .val (.long q4), .second, .val (.long q5), .second, .val (.ref (F1 ((p0 &&& (7 : Int32)) % (5 : Int32)) w0 w1 w2 w3 w4)), .unset, .unset, .unset, .unset, .unset, .unset, .unset, .unset, .unset, .unset, .unset, .unset, .unset, .unset, .unset, .unset]) rfl ?_
    show Steps p.tables e below (T1.setTop (mkF m 11 #[.val (.int p0), .val (.long q1), .second, .val (.long q2), .second, .val (.long q3), .second, .val (.long q4), .second, .val (.long q5), .second, .val (.ref (A0_9 p0 q1 q2 q3 q4 q5 w0 w1 w2 w3 w4 wc)), .unset, .unset, .unset, .unset, .unset, .unset, .unset, .unset, .unset, .unset, .unset, .unset, .unset, .unset, .unset, .unset] [])) _
    refine XS.iloadN X1.here hx rfl (hb hby at_11) rfl ?_
    show Steps p.tables e below (T1.setTop (mkF m 12 #[.val (.int p0), .val (.long q1), .second, .val (.long q2), .second, .val (.long q3), .second, .val (.long q4), .second, .val (.long q5), .second, .val (.ref (A0_9 p0 q1 q2 q3 q4 q5 w0 w1 w2 w3 w4 wc)), .unset, .unset, .unset, .unset, .unset, .unset, .unset, .unset, .unset, .unset, .unset, .unset, .unset, .unset, .unset, .unset] [(.int p0)])) _
    refine XS.iconst X1.here hx rfl (hb hby at_12) ?_
    show Steps p.tables e below (T1.setTop (mkF m 13 #[.val (.int p0), .val (.long q1), .second, .val (.long q2), .second, .val (.long q3), .second, .val (.long q4), .second, .val (.long q5), .second, .val (.ref (A0_9 p0 q1 q2 q3 q4 q5 w0 w1 w2 w3 w4 wc)), .unset, .unset, .unset, .unset, .unset, .unset, .unset, .unset, .unset, .unset, .unset, .unset, .unset, .unset, .unset, .unset] [(.int (3 : Int32)), (.int p0)])) _
    refine XS.iushr X1.here hx rfl (hb hby at_13) rfl ?_
    show Steps p.tables e below (T1.setTop (mkF m 14 #[.val (.int p0), .val (.long q1), .second, .val (.long q2), .second, .val (.long q3), .second, .val (.long q4), .second, .val (.long q5), .second, .val (.ref (A0_9 p0 q1 q2 q3 q4 q5 w0 w1 w2 w3 w4 wc)), .unset, .unset, .unset, .unset, .unset, .unset, .unset, .unset, .unset, .unset, .unset, .unset, .unset, .unset, .unset, .unset] [(.int ((p0.toUInt32 >>> ((3 : Int32) &&& 31).toUInt32).toInt32))])) _
    refine XS.bipush X1.here hx rfl (hb hby at_14) ?_
    show Steps p.tables e below (T1.setTop (mkF m 16 #[.val (.int p0), .val (.long q1), .second, .val (.long q2), .second, .val (.long q3), .second, .val (.long q4), .second, .val (.long q5), .second, .val (.ref (A0_9 p0 q1 q2 q3 q4 q5 w0 w1 w2 w3 w4 wc)), .unset, .unset, .unset, .unset, .unset, .unset, .unset, .unset, .unset, .unset, .unset, .unset, .unset, .unset, .unset, .unset] [(.int (7 : Int32)), (.int ((p0.toUInt32 >>> ((3 : Int32) &&& 31).toUInt32).toInt32))])) _
    refine XS.iand X1.here hx rfl (hb hby at_16) rfl ?_
    show Steps p.tables e below (T1.setTop (mkF m 17 #[.val (.int p0), .val (.long q1), .second, .val (.long q2), .second, .val (.long q3), .second, .val (.long q4), .second, .val (.long q5), .second, .val (.ref (A0_9 p0 q1 q2 q3 q4 q5 w0 w1 w2 w3 w4 wc)), .unset, .unset, .unset, .unset, .unset, .unset, .unset, .unset, .unset, .unset, .unset, .unset, .unset, .unset, .unset, .unset] [(.int (((p0.toUInt32 >>> ((3 : Int32) &&& 31).toUInt32).toInt32) &&& (7 : Int32)))])) _
    refine XS.iconst X1.here hx rfl (hb hby at_17) ?_
    show Steps p.tables e below (T1.setTop (mkF m 18 #[.val (.int p0), .val (.long q1), .second, .val (.long q2), .second, .val (.long q3), .second, .val (.long q4), .second, .val (.long q5), .second, .val (.ref (A0_9 p0 q1 q2 q3 q4 q5 w0 w1 w2 w3 w4 wc)), .unset, .unset, .unset, .unset, .unset, .unset, .unset, .unset, .unset, .unset, .unset, .unset, .unset, .unset, .unset, .unset] [(.int (5 : Int32)), (.int (((p0.toUInt32 >>> ((3 : Int32) &&& 31).toUInt32).toInt32) &&& (7 : Int32)))])) _
    refine iremM X1 hx rfl (hb hby at_18) rfl (by decide) ?_
    show Steps p.tables e below (T1.setTop (mkF m 19 #[.val (.int p0), .val (.long q1), .second, .val (.long q2), .second, .val (.long q3), .second, .val (.long q4), .second, .val (.long q5), .second, .val (.ref (A0_9 p0 q1 q2 q3 q4 q5 w0 w1 w2 w3 w4 wc)), .unset, .unset, .unset, .unset, .unset, .unset, .unset, .unset, .unset, .unset, .unset, .unset, .unset, .unset, .unset, .unset] [(.int ((((p0.toUInt32 >>> ((3 : Int32) &&& 31).toUInt32).toInt32) &&& (7 : Int32)) % (5 : Int32)))])) _
    refine st2 _ ?_
    show Steps p.tables e below (T2.setTop (mkF m 22 #[.val (.int p0), .val (.long q1), .second, .val (.long q2), .second, .val (.long q3), .second, .val (.long q4), .second, .val (.long q5), .second, .val (.ref (A0_9 p0 q1 q2 q3 q4 q5 w0 w1 w2 w3 w4 wc)), .unset, .unset, .unset, .unset, .unset, .unset, .unset, .unset, .unset, .unset, .unset, .unset, .unset, .unset, .unset, .unset] [(.ref (F1 ((((p0.toUInt32 >>> ((3 : Int32) &&& 31).toUInt32).toInt32) &&& (7 : Int32)) % (5 : Int32)) w0 w1 w2 w3 w4))])) _
    refine XS.astore X2.here hx rfl (hb hby at_22) rfl rfl (l' := #[.val (.int p0), .val (.long q1), .second, .val (.long q2), .second, .val (.long q3), .second, .val (.long q4), .second, .val (.long q5), .second, .val (.ref (A0_9 p0 q1 q2 q3 q4 q5 w0 w1 w2 w3 w4 wc)), .val (.ref (F1 ((((p0.toUInt32 >>> ((3 : Int32) &&& 31).toUInt32).toInt32) &&& (7 : Int32)) % (5 : Int32)) w0 w1 w2 w3 w4)), .unset, .unset, .unset, .unset, .unset, .unset, .unset, .unset, .unset, .unset, .unset, .unset, .unset, .unset, .unset]) rfl ?_
    show Steps p.tables e below (T2.setTop (mkF m 24 #[.val (.int p0), .val (.long q1), .second, .val (.long q2), .second, .val (.long q3), .second, .val (.long q4), .second, .val (.long q5), .second, .val (.ref (A0_9 p0 q1 q2 q3 q4 q5 w0 w1 w2 w3 w4 wc)), .val (.ref (A0_22 p0 q1 q2 q3 q4 q5 w0 w1 w2 w3 w4 wc)), .unset, .unset, .unset, .unset, .unset, .unset, .unset, .unset, .unset, .unset, .unset, .unset, .unset, .unset, .unset] [])) _
    refine XS.lload X2.here hx rfl (hb hby at_24) rfl ?_
    show Steps p.tables e below (T2.setTop (mkF m 26 #[.val (.int p0), .val (.long q1), .second, .val (.long q2), .second, .val (.long q3), .second, .val (.long q4), .second, .val (.long q5), .second, .val (.ref (A0_9 p0 q1 q2 q3 q4 q5 w0 w1 w2 w3 w4 wc)), .val (.ref (A0_22 p0 q1 q2 q3 q4 q5 w0 w1 w2 w3 w4 wc)), .unset, .unset, .unset, .unset, .unset, .unset, .unset, .unset, .unset, .unset, .unset, .unset, .unset, .unset, .unset] [(.long q5)])) _
    refine XS.bipush X2.here hx rfl (hb hby at_26) ?_
    show Steps p.tables e below (T2.setTop (mkF m 28 #[.val (.int p0), .val (.long q1), .second, .val (.long q2), .second, .val (.long q3), .second, .val (.long q4), .second, .val (.long q5), .second, .val (.ref (A0_9 p0 q1 q2 q3 q4 q5 w0 w1 w2 w3 w4 wc)), .val (.ref (A0_22 p0 q1 q2 q3 q4 q5 w0 w1 w2 w3 w4 wc)), .unset, .unset, .unset, .unset, .unset, .unset, .unset, .unset, .unset, .unset, .unset, .unset, .unset, .unset, .unset] [(.int (32 : Int32)), (.long q5)])) _
    refine XS.lushr X2.here hx rfl (hb hby at_28) rfl ?_
    show Steps p.tables e below (T2.setTop (mkF m 29 #[.val (.int p0), .val (.long q1), .second, .val (.long q2), .second, .val (.long q3), .second, .val (.long q4), .second, .val (.long q5), .second, .val (.ref (A0_9 p0 q1 q2 q3 q4 q5 w0 w1 w2 w3 w4 wc)), .val (.ref (A0_22 p0 q1 q2 q3 q4 q5 w0 w1 w2 w3 w4 wc)), .unset, .unset, .unset, .unset, .unset, .unset, .unset, .unset, .unset, .unset, .unset, .unset, .unset, .unset, .unset] [(.long ((q5.toUInt64 >>> ((32 : Int32) &&& 0x3f).toInt64.toUInt64).toInt64))])) _
    refine XS.l2i X2.here hx rfl (hb hby at_29) rfl ?_
    show Steps p.tables e below (T2.setTop (mkF m 30 #[.val (.int p0), .val (.long q1), .second, .val (.long q2), .second, .val (.long q3), .second, .val (.long q4), .second, .val (.long q5), .second, .val (.ref (A0_9 p0 q1 q2 q3 q4 q5 w0 w1 w2 w3 w4 wc)), .val (.ref (A0_22 p0 q1 q2 q3 q4 q5 w0 w1 w2 w3 w4 wc)), .unset, .unset, .unset, .unset, .unset, .unset, .unset, .unset, .unset, .unset, .unset, .unset, .unset, .unset, .unset] [(.int (((q5.toUInt64 >>> ((32 : Int32) &&& 0x3f).toInt64.toUInt64).toInt64).toInt32))])) _
    refine XS.istore X2.here hx rfl (hb hby at_30) rfl (l' := #[.val (.int p0), .val (.long q1), .second, .val (.long q2), .second, .val (.long q3), .second, .val (.long q4), .second, .val (.long q5), .second, .val (.ref (A0_9 p0 q1 q2 q3 q4 q5 w0 w1 w2 w3 w4 wc)), .val (.ref (A0_22 p0 q1 q2 q3 q4 q5 w0 w1 w2 w3 w4 wc)), .val (.int (((q5.toUInt64 >>> ((32 : Int32) &&& 0x3f).toInt64.toUInt64).toInt64).toInt32)), .unset, .unset, .unset, .unset, .unset, .unset, .unset, .unset, .unset, .unset, .unset, .unset, .unset, .unset]) rfl ?_
    show Steps p.tables e below (T2.setTop (mkF m 32 #[.val (.int p0), .val (.long q1), .second, .val (.long q2), .second, .val (.long q3), .second, .val (.long q4), .second, .val (.long q5), .second, .val (.ref (A0_9 p0 q1 q2 q3 q4 q5 w0 w1 w2 w3 w4 wc)), .val (.ref (A0_22 p0 q1 q2 q3 q4 q5 w0 w1 w2 w3 w4 wc)), .val (.int (A0_30 p0 q1 q2 q3 q4 q5 w0 w1 w2 w3 w4 wc)), .unset, .unset, .unset, .unset, .unset, .unset, .unset, .unset, .unset, .unset, .unset, .unset, .unset, .unset] [])) _
    refine XS.iloadN X2.here hx rfl (hb hby at_32) rfl ?_
    show Steps p.tables e below (T2.setTop (mkF m 33 #[.val (.int p0), .val (.long q1), .second, .val (.long q2), .second, .val (.long q3), .second, .val (.long q4), .second, .val (.long q5), .second, .val (.ref (A0_9 p0 q1 q2 q3 q4 q5 w0 w1 w2 w3 w4 wc)), .val (.ref (A0_22 p0 q1 q2 q3 q4 q5 w0 w1 w2 w3 w4 wc)), .val (.int (A0_30 p0 q1 q2 q3 q4 q5 w0 w1 w2 w3 w4 wc)), .unset, .unset, .unset, .unset, .unset, .unset, .unset, .unset, .unset, .unset, .unset, .unset, .unset, .unset] [(.int p0)])) _
    refine XS.bipush X2.here hx rfl (hb hby at_33) ?_
    show Steps p.tables e below (T2.setTop (mkF m 35 #[.val (.int p0), .val (.long q1), .second, .val (.long q2), .second, .val (.long q3), .second, .val (.long q4), .second, .val (.long q5), .second, .val (.ref (A0_9 p0 q1 q2 q3 q4 q5 w0 w1 w2 w3 w4 wc)), .val (.ref (A0_22 p0 q1 q2 q3 q4 q5 w0 w1 w2 w3 w4 wc)), .val (.int (A0_30 p0 q1 q2 q3 q4 q5 w0 w1 w2 w3 w4 wc)), .unset, .unset, .unset, .unset, .unset, .unset, .unset, .unset, .unset, .unset, .unset, .unset, .unset, .unset] [(.int (6 : Int32)), (.int p0)])) _
    refine XS.iushr X2.here hx rfl (hb hby at_35) rfl ?_
    show Steps p.tables e below (T2.setTop (mkF m 36 #[.val (.int p0), .val (.long q1), .second, .val (.long q2), .second, .val (.long q3), .second, .val (.long q4), .second, .val (.long q5), .second, .val (.ref (A0_9 p0 q1 q2 q3 q4 q5 w0 w1 w2 w3 w4 wc)), .val (.ref (A0_22 p0 q1 q2 q3 q4 q5 w0 w1 w2 w3 w4 wc)), .val (.int (A0_30 p0 q1 q2 q3 q4 q5 w0 w1 w2 w3 w4 wc)), .unset, .unset, .unset, .unset, .unset, .unset, .unset, .unset, .unset, .unset, .unset, .unset, .unset, .unset] [(.int ((p0.toUInt32 >>> ((6 : Int32) &&& 31).toUInt32).toInt32))])) _
    refine XS.iconst X2.here hx rfl (hb hby at_36) ?_
    show Steps p.tables e below (T2.setTop (mkF m 37 #[.val (.int p0), .val (.long q1), .second, .val (.long q2), .second, .val (.long q3), .second, .val (.long q4), .second, .val (.long q5), .second, .val (.ref (A0_9 p0 q1 q2 q3 q4 q5 w0 w1 w2 w3 w4 wc)), .val (.ref (A0_22 p0 q1 q2 q3 q4 q5 w0 w1 w2 w3 w4 wc)), .val (.int (A0_30 p0 q1 q2 q3 q4 q5 w0 w1 w2 w3 w4 wc)), .unset, .unset, .unset, .unset, .unset, .unset, .unset, .unset, .unset, .unset, .unset, .unset, .unset, .unset] [(.int (1 : Int32)), (.int ((p0.toUInt32 >>> ((6 : Int32) &&& 31).toUInt32).toInt32))])) _
    refine XS.iand X2.here hx rfl (hb hby at_37) rfl ?_
    exact kt)
  obtain ⟨Tj4, lj4, Xj4, Nj4, ej4, pre4⟩ : ∃ (T' : State) (locs' : List Loc), Stand p l e room_1 s m #[(.int p0), (.long q1), (.long q2), (.long q3), (.long q4), (.long q5)] below meth c T' locs' 0 0 ∧ Fr n0 locs' ∧ T'.heap = h0 ∧ ∀ t, Steps p.tables e below (T'.setTop (mkF m 47 #[.val (.int p0), .val (.long q1), .second, .val (.long q2), .second, .val (.long q3), .second, .val (.long q4), .second, .val (.long q5), .second, .val (.ref (A0_9 p0 q1 q2 q3 q4 q5 w0 w1 w2 w3 w4 wc)), .val (.ref (A0_22 p0 q1 q2 q3 q4 q5 w0 w1 w2 w3 w4 wc)), .val (.int (A0_30 p0 q1 q2 q3 q4 q5 w0 w1 w2 w3 w4 wc)), .unset, .unset, .unset, .unset, .unset, .unset, .unset, .unset, .unset, .unset, .unset, .unset, .unset, .unset] [(.long (J0_38_S0 p0 q1 q2 q3 q4 q5 w0 w1 w2 w3 w4 wc))])) t → Steps p.tables e below (s₁.setTop (entryFrame m #[(.int p0), (.long q1), (.long q2), (.long q3), (.long q4), (.long q5)] maxLocals)) t := by
    by_cases hc38 : (((p0.toUInt32 >>> ((6 : Int32) &&& 31).toUInt32).toInt32) &&& (1 : Int32)) = (0 : Int32)
    · refine ⟨T2, _, X2, N2, e2, fun t kt => pre3 t ?_⟩
      show Steps p.tables e below (T2.setTop (mkF m 38 #[.val (.int p0), .val (.long q1), .second, .val (.long q2), .second, .val (.long q3), .second, .val (.long q4), .second, .val (.long q5), .second, .val (.ref (A0_9 p0 q1 q2 q3 q4 q5 w0 w1 w2 w3 w4 wc)), .val (.ref (A0_22 p0 q1 q2 q3 q4 q5 w0 w1 w2 w3 w4 wc)), .val (.int (A0_30 p0 q1 q2 q3 q4 q5 w0 w1 w2 w3 w4 wc)), .unset, .unset, .unset, .unset, .unset, .unset, .unset, .unset, .unset, .unset, .unset, .unset, .unset, .unset] [(.int (((p0.toUInt32 >>> ((6 : Int32) &&& 31).toUInt32).toInt32) &&& (1 : Int32)))])) _
      refine XS.ifYes X2.here hx rfl (pc0 := 38) (pc' := 46) rfl (hb hby at_38) rfl ((if0 _ _).trans (teq hc38).1) (by decide) (by decide) ?_
      show Steps p.tables e below (T2.setTop (mkF m 46 #[.val (.int p0), .val (.long q1), .second, .val (.long q2), .second, .val (.long q3), .second, .val (.long q4), .second, .val (.long q5), .second, .val (.ref (A0_9 p0 q1 q2 q3 q4 q5 w0 w1 w2 w3 w4 wc)), .val (.ref (A0_22 p0 q1 q2 q3 q4 q5 w0 w1 w2 w3 w4 wc)), .val (.int (A0_30 p0 q1 q2 q3 q4 q5 w0 w1 w2 w3 w4 wc)), .unset, .unset, .unset, .unset, .unset, .unset, .unset, .unset, .unset, .unset, .unset, .unset, .unset, .unset] [])) _
      refine XS.lloadN X2.here hx rfl (hb hby at_46) rfl ?_
      show Steps p.tables e below (T2.setTop (mkF m 47 #[.val (.int p0), .val (.long q1), .second, .val (.long q2), .second, .val (.long q3), .second, .val (.long q4), .second, .val (.long q5), .second, .val (.ref (A0_9 p0 q1 q2 q3 q4 q5 w0 w1 w2 w3 w4 wc)), .val (.ref (A0_22 p0 q1 q2 q3 q4 q5 w0 w1 w2 w3 w4 wc)), .val (.int (A0_30 p0 q1 q2 q3 q4 q5 w0 w1 w2 w3 w4 wc)), .unset, .unset, .unset, .unset, .unset, .unset, .unset, .unset, .unset, .unset, .unset, .unset, .unset, .unset] [(.long q1)])) _
      have qjS0 : (J0_38_S0 p0 q1 q2 q3 q4 q5 w0 w1 w2 w3 w4 wc) = q1 := by unfold J0_38_S0; simp only [if_true, if_false, if_pos hc38]
      rw [qjS0] at kt
      exact kt
    · refine ⟨T2, _, X2, N2, e2, fun t kt => pre3 t ?_⟩
      show Steps p.tables e below (T2.setTop (mkF m 38 #[.val (.int p0), .val (.long q1), .second, .val (.long q2), .second, .val (.long q3), .second, .val (.long q4), .second, .val (.long q5), .second, .val (.ref (A0_9 p0 q1 q2 q3 q4 q5 w0 w1 w2 w3 w4 wc)), .val (.ref (A0_22 p0 q1 q2 q3 q4 q5 w0 w1 w2 w3 w4 wc)), .val (.int (A0_30 p0 q1 q2 q3 q4 q5 w0 w1 w2 w3 w4 wc)), .unset, .unset, .unset, .unset, .unset, .unset, .unset, .unset, .unset, .unset, .unset, .unset, .unset, .unset] [(.int (((p0.toUInt32 >>> ((6 : Int32) &&& 31).toUInt32).toInt32) &&& (1 : Int32)))])) _
      refine XS.ifNo X2.here hx rfl (hb hby at_38) rfl ((if0 _ _).trans (feq hc38).1) ?_
      show Steps p.tables e below (T2.setTop (mkF m 41 #[.val (.int p0), .val (.long q1), .second, .val (.long q2), .second, .val (.long q3), .second, .val (.long q4), .second, .val (.long q5), .second, .val (.ref (A0_9 p0 q1 q2 q3 q4 q5 w0 w1 w2 w3 w4 wc)), .val (.ref (A0_22 p0 q1 q2 q3 q4 q5 w0 w1 w2 w3 w4 wc)), .val (.int (A0_30 p0 q1 q2 q3 q4 q5 w0 w1 w2 w3 w4 wc)), .unset, .unset, .unset, .unset, .unset, .unset, .unset, .unset, .unset, .unset, .unset, .unset, .unset, .unset] [])) _
      refine XS.lload X2.here hx rfl (hb hby at_41) rfl ?_
      show Steps p.tables e below (T2.setTop (mkF m 43 #[.val (.int p0), .val (.long q1), .second, .val (.long q2), .second, .val (.long q3), .second, .val (.long q4), .second, .val (.long q5), .second, .val (.ref (A0_9 p0 q1 q2 q3 q4 q5 w0 w1 w2 w3 w4 wc)), .val (.ref (A0_22 p0 q1 q2 q3 q4 q5 w0 w1 w2 w3 w4 wc)), .val (.int (A0_30 p0 q1 q2 q3 q4 q5 w0 w1 w2 w3 w4 wc)), .unset, .unset, .unset, .unset, .unset, .unset, .unset, .unset, .unset, .unset, .unset, .unset, .unset, .unset] [(.long q5)])) _
      refine XS.goto X2.here hx rfl (pc0 := 43) (pc' := 47) rfl (hb hby at_43) (by decide) (by decide) ?_
      show Steps p.tables e below (T2.setTop (mkF m 47 #[.val (.int p0), .val (.long q1), .second, .val (.long q2), .second, .val (.long q3), .second, .val (.long q4), .second, .val (.long q5), .second, .val (.ref (A0_9 p0 q1 q2 q3 q4 q5 w0 w1 w2 w3 w4 wc)), .val (.ref (A0_22 p0 q1 q2 q3 q4 q5 w0 w1 w2 w3 w4 wc)), .val (.int (A0_30 p0 q1 q2 q3 q4 q5 w0 w1 w2 w3 w4 wc)), .unset, .unset, .unset, .unset, .unset, .unset, .unset, .unset, .unset, .unset, .unset, .unset, .unset, .unset] [(.long q5)])) _
      have qjS0 : (J0_38_S0 p0 q1 q2 q3 q4 q5 w0 w1 w2 w3 w4 wc) = q5 := by unfold J0_38_S0; simp only [if_true, if_false, if_neg hc38]
      rw [qjS0] at kt
      exact kt
  have pre5 : ∀ t, Steps p.tables e below (Tj4.setTop (mkF m 55 #[.val (.int p0), .val (.long q1), .second, .val (.long q2), .second, .val (.long q3), .second, .val (.long q4), .second, .val (.long q5), .second, .val (.ref (A0_9 p0 q1 q2 q3 q4 q5 w0 w1 w2 w3 w4 wc)), .val (.ref (A0_22 p0 q1 q2 q3 q4 q5 w0 w1 w2 w3 w4 wc)), .val (.int (A0_30 p0 q1 q2 q3 q4 q5 w0 w1 w2 w3 w4 wc)), .val (.long (J0_38_S0 p0 q1 q2 q3 q4 q5 w0 w1 w2 w3 w4 wc)), .second, .unset, .unset, .unset, .unset, .unset, .unset, .unset, .unset, .unset, .unset, .unset, .unset] [(.int (((p0.toUInt32 >>> ((7 : Int32) &&& 31).toUInt32).toInt32) &&& (1 : Int32)))])) t → Steps p.tables e below (s₁.setTop (entryFrame m #[(.int p0), (.long q1), (.long q2), (.long q3), (.long q4), (.long q5)] maxLocals)) t := fun t kt => pre4 t (by
    show Steps p.tables e below (Tj4.setTop (mkF m 47 #[.val (.int p0), .val (.long q1), .second, .val (.long q2), .second, .val (.long q3), .second, .val (.long q4), .second, .val (.long q5), .second, .val (.ref (A0_9 p0 q1 q2 q3 q4 q5 w0 w1 w2 w3 w4 wc)), .val (.ref (A0_22 p0 q1 q2 q3 q4 q5 w0 w1 w2 w3 w4 wc)), .val (.int (A0_30 p0 q1 q2 q3 q4 q5 w0 w1 w2 w3 w4 wc)), .unset, .unset, .unset, .unset, .unset, .unset, .unset, .unset, .unset, .unset, .unset, .unset, .unset, .unset] [(.long (J0_38_S0 p0 q1 q2 q3 q4 q5 w0 w1 w2 w3 w4 wc))])) _
    refine XS.lstore Xj4.here hx rfl (hb hby at_47) rfl (l' := #[.val (.int p0), .val (.long q1), .second, .val (.long q2), .second, .val (.long q3), .second, .val (.long q4), .second, .val (.long q5), .second, .val (.ref (A0_9 p0 q1 q2 q3 q4 q5 w0 w1 w2 w3 w4 wc)), .val (.ref (A0_22 p0 q1 q2 q3 q4 q5 w0 w1 w2 w3 w4 wc)), .val (.int (A0_30 p0 q1 q2 q3 q4 q5 w0 w1 w2 w3 w4 wc)), .val (.long (J0_38_S0 p0 q1 q2 q3 q4 q5 w0 w1 w2 w3 w4 wc)), .second, .unset, .unset, .unset, .unset, .unset, .unset, .unset, .unset, .unset, .unset, .unset, .unset]) rfl ?_
    show Steps p.tables e below (Tj4.setTop (mkF m 49 #[.val (.int p0), .val (.long q1), .second, .val (.long q2), .second, .val (.long q3), .second, .val (.long q4), .second, .val (.long q5), .second, .val (.ref (A0_9 p0 q1 q2 q3 q4 q5 w0 w1 w2 w3 w4 wc)), .val (.ref (A0_22 p0 q1 q2 q3 q4 q5 w0 w1 w2 w3 w4 wc)), .val (.int (A0_30 p0 q1 q2 q3 q4 q5 w0 w1 w2 w3 w4 wc)), .val (.long (J0_38_S0 p0 q1 q2 q3 q4 q5 w0 w1 w2 w3 w4 wc)), .second, .unset, .unset, .unset, .unset, .unset, .unset, .unset, .unset, .unset, .unset, .unset, .unset] [])) _
    refine XS.iloadN Xj4.here hx rfl (hb hby at_49) rfl ?_
    show Steps p.tables e below (Tj4.setTop (mkF m 50 #[.val (.int p0), .val (.long q1), .second, .val (.long q2), .second, .val (.long q3), .second, .val (.long q4), .second, .val (.long q5), .second, .val (.ref (A0_9 p0 q1 q2 q3 q4 q5 w0 w1 w2 w3 w4 wc)), .val (.ref (A0_22 p0 q1 q2 q3 q4 q5 w0 w1 w2 w3 w4 wc)), .val (.int (A0_30 p0 q1 q2 q3 q4 q5 w0 w1 w2 w3 w4 wc)), .val (.long (J0_38_S0 p0 q1 q2 q3 q4 q5 w0 w1 w2 w3 w4 wc)), .second, .unset, .unset, .unset, .unset, .unset, .unset, .unset, .unset, .unset, .unset, .unset, .unset] [(.int p0)])) _
    refine XS.bipush Xj4.here hx rfl (hb hby at_50) ?_
    show Steps p.tables e below (Tj4.setTop (mkF m 52 #[.val (.int p0), .val (.long q1), .second, .val (.long q2), .second, .val (.long q3), .second, .val (.long q4), .second, .val (.long q5), .second, .val (.ref (A0_9 p0 q1 q2 q3 q4 q5 w0 w1 w2 w3 w4 wc)), .val (.ref (A0_22 p0 q1 q2 q3 q4 q5 w0 w1 w2 w3 w4 wc)), .val (.int (A0_30 p0 q1 q2 q3 q4 q5 w0 w1 w2 w3 w4 wc)), .val (.long (J0_38_S0 p0 q1 q2 q3 q4 q5 w0 w1 w2 w3 w4 wc)), .second, .unset, .unset, .unset, .unset, .unset, .unset, .unset, .unset, .unset, .unset, .unset, .unset] [(.int (7 : Int32)), (.int p0)])) _
    refine XS.iushr Xj4.here hx rfl (hb hby at_52) rfl ?_
    show Steps p.tables e below (Tj4.setTop (mkF m 53 #[.val (.int p0), .val (.long q1), .second, .val (.long q2), .second, .val (.long q3), .second, .val (.long q4), .second, .val (.long q5), .second, .val (.ref (A0_9 p0 q1 q2 q3 q4 q5 w0 w1 w2 w3 w4 wc)), .val (.ref (A0_22 p0 q1 q2 q3 q4 q5 w0 w1 w2 w3 w4 wc)), .val (.int (A0_30 p0 q1 q2 q3 q4 q5 w0 w1 w2 w3 w4 wc)), .val (.long (J0_38_S0 p0 q1 q2 q3 q4 q5 w0 w1 w2 w3 w4 wc)), .second, .unset, .unset, .unset, .unset, .unset, .unset, .unset, .unset, .unset, .unset, .unset, .unset] [(.int ((p0.toUInt32 >>> ((7 : Int32) &&& 31).toUInt32).toInt32))])) _
    refine XS.iconst Xj4.here hx rfl (hb hby at_53) ?_
    show Steps p.tables e below (Tj4.setTop (mkF m 54 #[.val (.int p0), .val (.long q1), .second, .val (.long q2), .second, .val (.long q3), .second, .val (.long q4), .second, .val (.long q5), .second, .val (.ref (A0_9 p0 q1 q2 q3 q4 q5 w0 w1 w2 w3 w4 wc)), .val (.ref (A0_22 p0 q1 q2 q3 q4 q5 w0 w1 w2 w3 w4 wc)), .val (.int (A0_30 p0 q1 q2 q3 q4 q5 w0 w1 w2 w3 w4 wc)), .val (.long (J0_38_S0 p0 q1 q2 q3 q4 q5 w0 w1 w2 w3 w4 wc)), .second, .unset, .unset, .unset, .unset, .unset, .unset, .unset, .unset, .unset, .unset, .unset, .unset] [(.int (1 : Int32)), (.int ((p0.toUInt32 >>> ((7 : Int32) &&& 31).toUInt32).toInt32))])) _
    refine XS.iand Xj4.here hx rfl (hb hby at_54) rfl ?_
    exact kt)
  obtain ⟨Tj6, lj6, Xj6, Nj6, ej6, pre6⟩ : ∃ (T' : State) (locs' : List Loc), Stand p l e room_1 s m #[(.int p0), (.long q1), (.long q2), (.long q3), (.long q4), (.long q5)] below meth c T' locs' 0 0 ∧ Fr n0 locs' ∧ T'.heap = h0 ∧ ∀ t, Steps p.tables e below (T'.setTop (mkF m 64 #[.val (.int p0), .val (.long q1), .second, .val (.long q2), .second, .val (.long q3), .second, .val (.long q4), .second, .val (.long q5), .second, .val (.ref (A0_9 p0 q1 q2 q3 q4 q5 w0 w1 w2 w3 w4 wc)), .val (.ref (A0_22 p0 q1 q2 q3 q4 q5 w0 w1 w2 w3 w4 wc)), .val (.int (A0_30 p0 q1 q2 q3 q4 q5 w0 w1 w2 w3 w4 wc)), .val (.long (J0_38_S0 p0 q1 q2 q3 q4 q5 w0 w1 w2 w3 w4 wc)), .second, .unset, .unset, .unset, .unset, .unset, .unset, .unset, .unset, .unset, .unset, .unset, .unset] [(.long (J0_55_S0 p0 q1 q2 q3 q4 q5 w0 w1 w2 w3 w4 wc))])) t → Steps p.tables e below (s₁.setTop (entryFrame m #[(.int p0), (.long q1), (.long q2), (.long q3), (.long q4), (.long q5)] maxLocals)) t := by
    by_cases hc55 : (((p0.toUInt32 >>> ((7 : Int32) &&& 31).toUInt32).toInt32) &&& (1 : Int32)) = (0 : Int32)
    · refine ⟨Tj4, _, Xj4, Nj4, ej4, fun t kt => pre5 t ?_⟩
      show Steps p.tables e below (Tj4.setTop (mkF m 55 #[.val (.int p0), .val (.long q1), .second, .val (.long q2), .second, .val (.long q3), .second, .val (.long q4), .second, .val (.long q5), .second, .val (.ref (A0_9 p0 q1 q2 q3 q4 q5 w0 w1 w2 w3 w4 wc)), .val (.ref (A0_22 p0 q1 q2 q3 q4 q5 w0 w1 w2 w3 w4 wc)), .val (.int (A0_30 p0 q1 q2 q3 q4 q5 w0 w1 w2 w3 w4 wc)), .val (.long (J0_38_S0 p0 q1 q2 q3 q4 q5 w0 w1 w2 w3 w4 wc)), .second, .unset, .unset, .unset, .unset, .unset, .unset, .unset, .unset, .unset, .unset, .unset, .unset] [(.int (((p0.toUInt32 >>> ((7 : Int32) &&& 31).toUInt32).toInt32) &&& (1 : Int32)))])) _
      refine XS.ifYes Xj4.here hx rfl (pc0 := 55) (pc' := 63) rfl (hb hby at_55) rfl ((if0 _ _).trans (teq hc55).1) (by decide) (by decide) ?_
      show Steps p.tables e below (Tj4.setTop (mkF m 63 #[.val (.int p0), .val (.long q1), .second, .val (.long q2), .second, .val (.long q3), .second, .val (.long q4), .second, .val (.long q5), .second, .val (.ref (A0_9 p0 q1 q2 q3 q4 q5 w0 w1 w2 w3 w4 wc)), .val (.ref (A0_22 p0 q1 q2 q3 q4 q5 w0 w1 w2 w3 w4 wc)), .val (.int (A0_30 p0 q1 q2 q3 q4 q5 w0 w1 w2 w3 w4 wc)), .val (.long (J0_38_S0 p0 q1 q2 q3 q4 q5 w0 w1 w2 w3 w4 wc)), .second, .unset, .unset, .unset, .unset, .unset, .unset, .unset, .unset, .unset, .unset, .unset, .unset] [])) _
      refine XS.lloadN Xj4.here hx rfl (hb hby at_63) rfl ?_
      show Steps p.tables e below (Tj4.setTop (mkF m 64 #[.val (.int p0), .val (.long q1), .second, .val (.long q2), .second, .val (.long q3), .second, .val (.long q4), .second, .val (.long q5), .second, .val (.ref (A0_9 p0 q1 q2 q3 q4 q5 w0 w1 w2 w3 w4 wc)), .val (.ref (A0_22 p0 q1 q2 q3 q4 q5 w0 w1 w2 w3 w4 wc)), .val (.int (A0_30 p0 q1 q2 q3 q4 q5 w0 w1 w2 w3 w4 wc)), .val (.long (J0_38_S0 p0 q1 q2 q3 q4 q5 w0 w1 w2 w3 w4 wc)), .second, .unset, .unset, .unset, .unset, .unset, .unset, .unset, .unset, .unset, .unset, .unset, .unset] [(.long q2)])) _
      have qjS0 : (J0_55_S0 p0 q1 q2 q3 q4 q5 w0 w1 w2 w3 w4 wc) = q2 := by unfold J0_55_S0; simp only [if_true, if_false, if_pos hc55]
      rw [qjS0] at kt
      exact kt
    · refine ⟨Tj4, _, Xj4, Nj4, ej4, fun t kt => pre5 t ?_⟩
      show Steps p.tables e below (Tj4.setTop (mkF m 55 #[.val (.int p0), .val (.long q1), .second, .val (.long q2), .second, .val (.long q3), .second, .val (.long q4), .second, .val (.long q5), .second, .val (.ref (A0_9 p0 q1 q2 q3 q4 q5 w0 w1 w2 w3 w4 wc)), .val (.ref (A0_22 p0 q1 q2 q3 q4 q5 w0 w1 w2 w3 w4 wc)), .val (.int (A0_30 p0 q1 q2 q3 q4 q5 w0 w1 w2 w3 w4 wc)), .val (.long (J0_38_S0 p0 q1 q2 q3 q4 q5 w0 w1 w2 w3 w4 wc)), .second, .unset, .unset, .unset, .unset, .unset, .unset, .unset, .unset, .unset, .unset, .unset, .unset] [(.int (((p0.toUInt32 >>> ((7 : Int32) &&& 31).toUInt32).toInt32) &&& (1 : Int32)))])) _
      refine XS.ifNo Xj4.here hx rfl (hb hby at_55) rfl ((if0 _ _).trans (feq hc55).1) ?_
      show Steps p.tables e below (Tj4.setTop (mkF m 58 #[.val (.int p0), .val (.long q1), .second, .val (.long q2), .second, .val (.long q3), .second, .val (.long q4), .second, .val (.long q5), .second, .val (.ref (A0_9 p0 q1 q2 q3 q4 q5 w0 w1 w2 w3 w4 wc)), .val (.ref (A0_22 p0 q1 q2 q3 q4 q5 w0 w1 w2 w3 w4 wc)), .val (.int (A0_30 p0 q1 q2 q3 q4 q5 w0 w1 w2 w3 w4 wc)), .val (.long (J0_38_S0 p0 q1 q2 q3 q4 q5 w0 w1 w2 w3 w4 wc)), .second, .unset, .unset, .unset, .unset, .unset, .unset, .unset, .unset, .unset, .unset, .unset, .unset] [])) _
      refine XS.lload Xj4.here hx rfl (hb hby at_58) rfl ?_
      show Steps p.tables e below (Tj4.setTop (mkF m 60 #[.val (.int p0), .val (.long q1), .second, .val (.long q2), .second, .val (.long q3), .second, .val (.long q4), .second, .val (.long q5), .second, .val (.ref (A0_9 p0 q1 q2 q3 q4 q5 w0 w1 w2 w3 w4 wc)), .val (.ref (A0_22 p0 q1 q2 q3 q4 q5 w0 w1 w2 w3 w4 wc)), .val (.int (A0_30 p0 q1 q2 q3 q4 q5 w0 w1 w2 w3 w4 wc)), .val (.long (J0_38_S0 p0 q1 q2 q3 q4 q5 w0 w1 w2 w3 w4 wc)), .second, .unset, .unset, .unset, .unset, .unset, .unset, .unset, .unset, .unset, .unset, .unset, .unset] [(.long q5)])) _
      refine XS.goto Xj4.here hx rfl (pc0 := 60) (pc' := 64) rfl (hb hby at_60) (by decide) (by decide) ?_
      show Steps p.tables e below (Tj4.setTop (mkF m 64 #[.val (.int p0), .val (.long q1), .second, .val (.long q2), .second, .val (.long q3), .second, .val (.long q4), .second, .val (.long q5), .second, .val (.ref (A0_9 p0 q1 q2 q3 q4 q5 w0 w1 w2 w3 w4 wc)), .val (.ref (A0_22 p0 q1 q2 q3 q4 q5 w0 w1 w2 w3 w4 wc)), .val (.int (A0_30 p0 q1 q2 q3 q4 q5 w0 w1 w2 w3 w4 wc)), .val (.long (J0_38_S0 p0 q1 q2 q3 q4 q5 w0 w1 w2 w3 w4 wc)), .second, .unset, .unset, .unset, .unset, .unset, .unset, .unset, .unset, .unset, .unset, .unset, .unset] [(.long q5)])) _
      have qjS0 : (J0_55_S0 p0 q1 q2 q3 q4 q5 w0 w1 w2 w3 w4 wc) = q5 := by unfold J0_55_S0; simp only [if_true, if_false, if_neg hc55]
      rw [qjS0] at kt
      exact kt
  have pre7 : ∀ t, Steps p.tables e below (Tj6.setTop (mkF m 72 #[.val (.int p0), .val (.long q1), .second, .val (.long q2), .second, .val (.long q3), .second, .val (.long q4), .second, .val (.long q5), .second, .val (.ref (A0_9 p0 q1 q2 q3 q4 q5 w0 w1 w2 w3 w4 wc)), .val (.ref (A0_22 p0 q1 q2 q3 q4 q5 w0 w1 w2 w3 w4 wc)), .val (.int (A0_30 p0 q1 q2 q3 q4 q5 w0 w1 w2 w3 w4 wc)), .val (.long (J0_38_S0 p0 q1 q2 q3 q4 q5 w0 w1 w2 w3 w4 wc)), .second, .val (.long (J0_55_S0 p0 q1 q2 q3 q4 q5 w0 w1 w2 w3 w4 wc)), .second, .unset, .unset, .unset, .unset, .unset, .unset, .unset, .unset, .unset, .unset] [(.int (((p0.toUInt32 >>> ((8 : Int32) &&& 31).toUInt32).toInt32) &&& (1 : Int32)))])) t → Steps p.tables e below (s₁.setTop (entryFrame m #[(.int p0), (.long q1), (.long q2), (.long q3), (.long q4), (.long q5)] maxLocals)) t := fun t kt => pre6 t (by
    show Steps p.tables e below (Tj6.setTop (mkF m 64 #[.val (.int p0), .val (.long q1), .second, .val (.long q2), .second, .val (.long q3), .second, .val (.long q4), .second, .val (.long q5), .second, .val (.ref (A0_9 p0 q1 q2 q3 q4 q5 w0 w1 w2 w3 w4 wc)), .val (.ref (A0_22 p0 q1 q2 q3 q4 q5 w0 w1 w2 w3 w4 wc)), .val (.int (A0_30 p0 q1 q2 q3 q4 q5 w0 w1 w2 w3 w4 wc)), .val (.long (J0_38_S0 p0 q1 q2 q3 q4 q5 w0 w1 w2 w3 w4 wc)), .second, .unset, .unset, .unset, .unset, .unset, .unset, .unset, .unset, .unset, .unset, .unset, .unset] [(.long (J0_55_S0 p0 q1 q2 q3 q4 q5 w0 w1 w2 w3 w4 wc))])) _
    refine XS.lstore Xj6.here hx rfl (hb hby at_64) rfl (l' := #[.val (.int p0), .val (.long q1), .second, .val (.long q2), .second, .val (.long q3), .second, .val (.long q4), .second, .val (.long q5), .second, .val (.ref (A0_9 p0 q1 q2 q3 q4 q5 w0 w1 w2 w3 w4 wc)), .val (.ref (A0_22 p0 q1 q2 q3 q4 q5 w0 w1 w2 w3 w4 wc)), .val (.int (A0_30 p0 q1 q2 q3 q4 q5 w0 w1 w2 w3 w4 wc)), .val (.long (J0_38_S0 p0 q1 q2 q3 q4 q5 w0 w1 w2 w3 w4 wc)), .second, .val (.long (J0_55_S0 p0 q1 q2 q3 q4 q5 w0 w1 w2 w3 w4 wc)), .second, .unset, .unset, .unset, .unset, .unset, .unset, .unset, .unset, .unset, .unset]) rfl ?_
    show Steps p.tables e below (Tj6.setTop (mkF m 66 #[.val (.int p0), .val (.long q1), .second, .val (.long q2), .second, .val (.long q3), .second, .val (.long q4), .second, .val (.long q5), .second, .val (.ref (A0_9 p0 q1 q2 q3 q4 q5 w0 w1 w2 w3 w4 wc)), .val (.ref (A0_22 p0 q1 q2 q3 q4 q5 w0 w1 w2 w3 w4 wc)), .val (.int (A0_30 p0 q1 q2 q3 q4 q5 w0 w1 w2 w3 w4 wc)), .val (.long (J0_38_S0 p0 q1 q2 q3 q4 q5 w0 w1 w2 w3 w4 wc)), .second, .val (.long (J0_55_S0 p0 q1 q2 q3 q4 q5 w0 w1 w2 w3 w4 wc)), .second, .unset, .unset, .unset, .unset, .unset, .unset, .unset, .unset, .unset, .unset] [])) _
    refine XS.iloadN Xj6.here hx rfl (hb hby at_66) rfl ?_
    show Steps p.tables e below (Tj6.setTop (mkF m 67 #[.val (.int p0), .val (.long q1), .second, .val (.long q2), .second, .val (.long q3), .second, .val (.long q4), .second, .val (.long q5), .second, .val (.ref (A0_9 p0 q1 q2 q3 q4 q5 w0 w1 w2 w3 w4 wc)), .val (.ref (A0_22 p0 q1 q2 q3 q4 q5 w0 w1 w2 w3 w4 wc)), .val (.int (A0_30 p0 q1 q2 q3 q4 q5 w0 w1 w2 w3 w4 wc)), .val (.long (J0_38_S0 p0 q1 q2 q3 q4 q5 w0 w1 w2 w3 w4 wc)), .second, .val (.long (J0_55_S0 p0 q1 q2 q3 q4 q5 w0 w1 w2 w3 w4 wc)), .second, .unset, .unset, .unset, .unset, .unset, .unset, .unset, .unset, .unset, .unset] [(.int p0)])) _
    refine XS.bipush Xj6.here hx rfl (hb hby at_67) ?_
    show Steps p.tables e below (Tj6.setTop (mkF m 69 #[.val (.int p0), .val (.long q1), .second, .val (.long q2), .second, .val (.long q3), .second, .val (.long q4), .second, .val (.long q5), .second, .val (.ref (A0_9 p0 q1 q2 q3 q4 q5 w0 w1 w2 w3 w4 wc)), .val (.ref (A0_22 p0 q1 q2 q3 q4 q5 w0 w1 w2 w3 w4 wc)), .val (.int (A0_30 p0 q1 q2 q3 q4 q5 w0 w1 w2 w3 w4 wc)), .val (.long (J0_38_S0 p0 q1 q2 q3 q4 q5 w0 w1 w2 w3 w4 wc)), .second, .val (.long (J0_55_S0 p0 q1 q2 q3 q4 q5 w0 w1 w2 w3 w4 wc)), .second, .unset, .unset, .unset, .unset, .unset, .unset, .unset, .unset, .unset, .unset] [(.int (8 : Int32)), (.int p0)])) _
    refine XS.iushr Xj6.here hx rfl (hb hby at_69) rfl ?_
    show Steps p.tables e below (Tj6.setTop (mkF m 70 #[.val (.int p0), .val (.long q1), .second, .val (.long q2), .second, .val (.long q3), .second, .val (.long q4), .second, .val (.long q5), .second, .val (.ref (A0_9 p0 q1 q2 q3 q4 q5 w0 w1 w2 w3 w4 wc)), .val (.ref (A0_22 p0 q1 q2 q3 q4 q5 w0 w1 w2 w3 w4 wc)), .val (.int (A0_30 p0 q1 q2 q3 q4 q5 w0 w1 w2 w3 w4 wc)), .val (.long (J0_38_S0 p0 q1 q2 q3 q4 q5 w0 w1 w2 w3 w4 wc)), .second, .val (.long (J0_55_S0 p0 q1 q2 q3 q4 q5 w0 w1 w2 w3 w4 wc)), .second, .unset, .unset, .unset, .unset, .unset, .unset, .unset, .unset, .unset, .unset] [(.int ((p0.toUInt32 >>> ((8 : Int32) &&& 31).toUInt32).toInt32))])) _
    refine XS.iconst Xj6.here hx rfl (hb hby at_70) ?_
    show Steps p.tables e below (Tj6.setTop (mkF m 71 #[.val (.int p0), .val (.long q1), .second, .val (.long q2), .second, .val (.long q3), .second, .val (.long q4), .second, .val (.long q5), .second, .val (.ref (A0_9 p0 q1 q2 q3 q4 q5 w0 w1 w2 w3 w4 wc)), .val (.ref (A0_22 p0 q1 q2 q3 q4 q5 w0 w1 w2 w3 w4 wc)), .val (.int (A0_30 p0 q1 q2 q3 q4 q5 w0 w1 w2 w3 w4 wc)), .val (.long (J0_38_S0 p0 q1 q2 q3 q4 q5 w0 w1 w2 w3 w4 wc)), .second, .val (.long (J0_55_S0 p0 q1 q2 q3 q4 q5 w0 w1 w2 w3 w4 wc)), .second, .unset, .unset, .unset, .unset, .unset, .unset, .unset, .unset, .unset, .unset] [(.int (1 : Int32)), (.int ((p0.toUInt32 >>> ((8 : Int32) &&& 31).toUInt32).toInt32))])) _
    refine XS.iand Xj6.here hx rfl (hb hby at_71) rfl ?_
    exact kt)
  obtain ⟨Tj8, lj8, Xj8, Nj8, ej8, pre8⟩ : ∃ (T' : State) (locs' : List Loc), Stand p l e room_1 s m #[(.int p0), (.long q1), (.long q2), (.long q3), (.long q4), (.long q5)] below meth c T' locs' 0 0 ∧ Fr n0 locs' ∧ T'.heap = h0 ∧ ∀ t, Steps p.tables e below (T'.setTop (mkF m 82 #[.val (.int p0), .val (.long q1), .second, .val (.long q2), .second, .val (.long q3), .second, .val (.long q4), .second, .val (.long q5), .second, .val (.ref (A0_9 p0 q1 q2 q3 q4 q5 w0 w1 w2 w3 w4 wc)), .val (.ref (A0_22 p0 q1 q2 q3 q4 q5 w0 w1 w2 w3 w4 wc)), .val (.int (A0_30 p0 q1 q2 q3 q4 q5 w0 w1 w2 w3 w4 wc)), .val (.long (J0_38_S0 p0 q1 q2 q3 q4 q5 w0 w1 w2 w3 w4 wc)), .second, .val (.long (J0_55_S0 p0 q1 q2 q3 q4 q5 w0 w1 w2 w3 w4 wc)), .second, .unset, .unset, .unset, .unset, .unset, .unset, .unset, .unset, .unset, .unset] [(.long (J0_72_S0 p0 q1 q2 q3 q4 q5 w0 w1 w2 w3 w4 wc))])) t → Steps p.tables e below (s₁.setTop (entryFrame m #[(.int p0), (.long q1), (.long q2), (.long q3), (.long q4), (.long q5)] maxLocals)) t := by
    by_cases hc72 : (((p0.toUInt32 >>> ((8 : Int32) &&& 31).toUInt32).toInt32) &&& (1 : Int32)) = (0 : Int32)
    · refine ⟨Tj6, _, Xj6, Nj6, ej6, fun t kt => pre7 t ?_⟩
      show Steps p.tables e below (Tj6.setTop (mkF m 72 #[.val (.int p0), .val (.long q1), .second, .val (.long q2), .second, .val (.long q3), .second, .val (.long q4), .second, .val (.long q5), .second, .val (.ref (A0_9 p0 q1 q2 q3 q4 q5 w0 w1 w2 w3 w4 wc)), .val (.ref (A0_22 p0 q1 q2 q3 q4 q5 w0 w1 w2 w3 w4 wc)), .val (.int (A0_30 p0 q1 q2 q3 q4 q5 w0 w1 w2 w3 w4 wc)), .val (.long (J0_38_S0 p0 q1 q2 q3 q4 q5 w0 w1 w2 w3 w4 wc)), .second, .val (.long (J0_55_S0 p0 q1 q2 q3 q4 q5 w0 w1 w2 w3 w4 wc)), .second, .unset, .unset, .unset, .unset, .unset, .unset, .unset, .unset, .unset, .unset] [(.int (((p0.toUInt32 >>> ((8 : Int32) &&& 31).toUInt32).toInt32) &&& (1 : Int32)))])) _
      refine XS.ifYes Xj6.here hx rfl (pc0 := 72) (pc' := 80) rfl (hb hby at_72) rfl ((if0 _ _).trans (teq hc72).1) (by decide) (by decide) ?_
      show Steps p.tables e below (Tj6.setTop (mkF m 80 #[.val (.int p0), .val (.long q1), .second, .val (.long q2), .second, .val (.long q3), .second, .val (.long q4), .second, .val (.long q5), .second, .val (.ref (A0_9 p0 q1 q2 q3 q4 q5 w0 w1 w2 w3 w4 wc)), .val (.ref (A0_22 p0 q1 q2 q3 q4 q5 w0 w1 w2 w3 w4 wc)), .val (.int (A0_30 p0 q1 q2 q3 q4 q5 w0 w1 w2 w3 w4 wc)), .val (.long (J0_38_S0 p0 q1 q2 q3 q4 q5 w0 w1 w2 w3 w4 wc)), .second, .val (.long (J0_55_S0 p0 q1 q2 q3 q4 q5 w0 w1 w2 w3 w4 wc)), .second, .unset, .unset, .unset, .unset, .unset, .unset, .unset, .unset, .unset, .unset] [])) _
      refine XS.lload Xj6.here hx rfl (hb hby at_80) rfl ?_
      show Steps p.tables e below (Tj6.setTop (mkF m 82 #[.val (.int p0), .val (.long q1), .second, .val (.long q2), .second, .val (.long q3), .second, .val (.long q4), .second, .val (.long q5), .second, .val (.ref (A0_9 p0 q1 q2 q3 q4 q5 w0 w1 w2 w3 w4 wc)), .val (.ref (A0_22 p0 q1 q2 q3 q4 q5 w0 w1 w2 w3 w4 wc)), .val (.int (A0_30 p0 q1 q2 q3 q4 q5 w0 w1 w2 w3 w4 wc)), .val (.long (J0_38_S0 p0 q1 q2 q3 q4 q5 w0 w1 w2 w3 w4 wc)), .second, .val (.long (J0_55_S0 p0 q1 q2 q3 q4 q5 w0 w1 w2 w3 w4 wc)), .second, .unset, .unset, .unset, .unset, .unset, .unset, .unset, .unset, .unset, .unset] [(.long q3)])) _
      have qjS0 : (J0_72_S0 p0 q1 q2 q3 q4 q5 w0 w1 w2 w3 w4 wc) = q3 := by unfold J0_72_S0; simp only [if_true, if_false, if_pos hc72]
      rw [qjS0] at kt
      exact kt
    · refine ⟨Tj6, _, Xj6, Nj6, ej6, fun t kt => pre7 t ?_⟩
      show Steps p.tables e below (Tj6.setTop (mkF m 72 #[.val (.int p0), .val (.long q1), .second, .val (.long q2), .second, .val (.long q3), .second, .val (.long q4), .second, .val (.long q5), .second, .val (.ref (A0_9 p0 q1 q2 q3 q4 q5 w0 w1 w2 w3 w4 wc)), .val (.ref (A0_22 p0 q1 q2 q3 q4 q5 w0 w1 w2 w3 w4 wc)), .val (.int (A0_30 p0 q1 q2 q3 q4 q5 w0 w1 w2 w3 w4 wc)), .val (.long (J0_38_S0 p0 q1 q2 q3 q4 q5 w0 w1 w2 w3 w4 wc)), .second, .val (.long (J0_55_S0 p0 q1 q2 q3 q4 q5 w0 w1 w2 w3 w4 wc)), .second, .unset, .unset, .unset, .unset, .unset, .unset, .unset, .unset, .unset, .unset] [(.int (((p0.toUInt32 >>> ((8 : Int32) &&& 31).toUInt32).toInt32) &&& (1 : Int32)))])) _
      refine XS.ifNo Xj6.here hx rfl (hb hby at_72) rfl ((if0 _ _).trans (feq hc72).1) ?_
      show Steps p.tables e below (Tj6.setTop (mkF m 75 #[.val (.int p0), .val (.long q1), .second, .val (.long q2), .second, .val (.long q3), .second, .val (.long q4), .second, .val (.long q5), .second, .val (.ref (A0_9 p0 q1 q2 q3 q4 q5 w0 w1 w2 w3 w4 wc)), .val (.ref (A0_22 p0 q1 q2 q3 q4 q5 w0 w1 w2 w3 w4 wc)), .val (.int (A0_30 p0 q1 q2 q3 q4 q5 w0 w1 w2 w3 w4 wc)), .val (.long (J0_38_S0 p0 q1 q2 q3 q4 q5 w0 w1 w2 w3 w4 wc)), .second, .val (.long (J0_55_S0 p0 q1 q2 q3 q4 q5 w0 w1 w2 w3 w4 wc)), .second, .unset, .unset, .unset, .unset, .unset, .unset, .unset, .unset, .unset, .unset] [])) _
      refine XS.lload Xj6.here hx rfl (hb hby at_75) rfl ?_
      show Steps p.tables e below (Tj6.setTop (mkF m 77 #[.val (.int p0), .val (.long q1), .second, .val (.long q2), .second, .val (.long q3), .second, .val (.long q4), .second, .val (.long q5), .second, .val (.ref (A0_9 p0 q1 q2 q3 q4 q5 w0 w1 w2 w3 w4 wc)), .val (.ref (A0_22 p0 q1 q2 q3 q4 q5 w0 w1 w2 w3 w4 wc)), .val (.int (A0_30 p0 q1 q2 q3 q4 q5 w0 w1 w2 w3 w4 wc)), .val (.long (J0_38_S0 p0 q1 q2 q3 q4 q5 w0 w1 w2 w3 w4 wc)), .second, .val (.long (J0_55_S0 p0 q1 q2 q3 q4 q5 w0 w1 w2 w3 w4 wc)), .second, .unset, .unset, .unset, .unset, .unset, .unset, .unset, .unset, .unset, .unset] [(.long q5)])) _
      refine XS.goto Xj6.here hx rfl (pc0 := 77) (pc' := 82) rfl (hb hby at_77) (by decide) (by decide) ?_
      show Steps p.tables e below (Tj6.setTop (mkF m 82 #[.val (.int p0), .val (.long q1), .second, .val (.long q2), .second, .val (.long q3), .second, .val (.long q4), .second, .val (.long q5), .second, .val (.ref (A0_9 p0 q1 q2 q3 q4 q5 w0 w1 w2 w3 w4 wc)), .val (.ref (A0_22 p0 q1 q2 q3 q4 q5 w0 w1 w2 w3 w4 wc)), .val (.int (A0_30 p0 q1 q2 q3 q4 q5 w0 w1 w2 w3 w4 wc)), .val (.long (J0_38_S0 p0 q1 q2 q3 q4 q5 w0 w1 w2 w3 w4 wc)), .second, .val (.long (J0_55_S0 p0 q1 q2 q3 q4 q5 w0 w1 w2 w3 w4 wc)), .second, .unset, .unset, .unset, .unset, .unset, .unset, .unset, .unset, .unset, .unset] [(.long q5)])) _
      have qjS0 : (J0_72_S0 p0 q1 q2 q3 q4 q5 w0 w1 w2 w3 w4 wc) = q5 := by unfold J0_72_S0; simp only [if_true, if_false, if_neg hc72]
      rw [qjS0] at kt
      exact kt
  have pre9 : ∀ t, Steps p.tables e below (Tj8.setTop (mkF m 90 #[.val (.int p0), .val (.long q1), .second, .val (.long q2), .second, .val (.long q3), .second, .val (.long q4), .second, .val (.long q5), .second, .val (.ref (A0_9 p0 q1 q2 q3 q4 q5 w0 w1 w2 w3 w4 wc)), .val (.ref (A0_22 p0 q1 q2 q3 q4 q5 w0 w1 w2 w3 w4 wc)), .val (.int (A0_30 p0 q1 q2 q3 q4 q5 w0 w1 w2 w3 w4 wc)), .val (.long (J0_38_S0 p0 q1 q2 q3 q4 q5 w0 w1 w2 w3 w4 wc)), .second, .val (.long (J0_55_S0 p0 q1 q2 q3 q4 q5 w0 w1 w2 w3 w4 wc)), .second, .val (.long (J0_72_S0 p0 q1 q2 q3 q4 q5 w0 w1 w2 w3 w4 wc)), .second, .unset, .unset, .unset, .unset, .unset, .unset, .unset, .unset] [(.int (((p0.toUInt32 >>> ((9 : Int32) &&& 31).toUInt32).toInt32) &&& (1 : Int32)))])) t → Steps p.tables e below (s₁.setTop (entryFrame m #[(.int p0), (.long q1), (.long q2), (.long q3), (.long q4), (.long q5)] maxLocals)) t := fun t kt => pre8 t (by
    show Steps p.tables e below (Tj8.setTop (mkF m 82 #[.val (.int p0), .val (.long q1), .second, .val (.long q2), .second, .val (.long q3), .second, .val (.long q4), .second, .val (.long q5), .second, .val (.ref (A0_9 p0 q1 q2 q3 q4 q5 w0 w1 w2 w3 w4 wc)), .val (.ref (A0_22 p0 q1 q2 q3 q4 q5 w0 w1 w2 w3 w4 wc)), .val (.int (A0_30 p0 q1 q2 q3 q4 q5 w0 w1 w2 w3 w4 wc)), .val (.long (J0_38_S0 p0 q1 q2 q3 q4 q5 w0 w1 w2 w3 w4 wc)), .second, .val (.long (J0_55_S0 p0 q1 q2 q3 q4 q5 w0 w1 w2 w3 w4 wc)), .second, .unset, .unset, .unset, .unset, .unset, .unset, .unset, .unset, .unset, .unset] [(.long (J0_72_S0 p0 q1 q2 q3 q4 q5 w0 w1 w2 w3 w4 wc))])) _
    refine XS.lstore Xj8.here hx rfl (hb hby at_82) rfl (l' := #[.val (.int p0), .val (.long q1), .second, .val (.long q2), .second, .val (.long q3), .second, .val (.long q4), .second, .val (.long q5), .second, .val (.ref (A0_9 p0 q1 q2 q3 q4 q5 w0 w1 w2 w3 w4 wc)), .val (.ref (A0_22 p0 q1 q2 q3 q4 q5 w0 w1 w2 w3 w4 wc)), .val (.int (A0_30 p0 q1 q2 q3 q4 q5 w0 w1 w2 w3 w4 wc)), .val (.long (J0_38_S0 p0 q1 q2 q3 q4 q5 w0 w1 w2 w3 w4 wc)), .second, .val (.long (J0_55_S0 p0 q1 q2 q3 q4 q5 w0 w1 w2 w3 w4 wc)), .second, .val (.long (J0_72_S0 p0 q1 q2 q3 q4 q5 w0 w1 w2 w3 w4 wc)), .second, .unset, .unset, .unset, .unset, .unset, .unset, .unset, .unset]) rfl ?_
    show Steps p.tables e below (Tj8.setTop (mkF m 84 #[.val (.int p0), .val (.long q1), .second, .val (.long q2), .second, .val (.long q3), .second, .val (.long q4), .second, .val (.long q5), .second, .val (.ref (A0_9 p0 q1 q2 q3 q4 q5 w0 w1 w2 w3 w4 wc)), .val (.ref (A0_22 p0 q1 q2 q3 q4 q5 w0 w1 w2 w3 w4 wc)), .val (.int (A0_30 p0 q1 q2 q3 q4 q5 w0 w1 w2 w3 w4 wc)), .val (.long (J0_38_S0 p0 q1 q2 q3 q4 q5 w0 w1 w2 w3 w4 wc)), .second, .val (.long (J0_55_S0 p0 q1 q2 q3 q4 q5 w0 w1 w2 w3 w4 wc)), .second, .val (.long (J0_72_S0 p0 q1 q2 q3 q4 q5 w0 w1 w2 w3 w4 wc)), .second, .unset, .unset, .unset, .unset, .unset, .unset, .unset, .unset] [])) _
    refine XS.iloadN Xj8.here hx rfl (hb hby at_84) rfl ?_
    show Steps p.tables e below (Tj8.setTop (mkF m 85 #[.val (.int p0), .val (.long q1), .second, .val (.long q2), .second, .val (.long q3), .second, .val (.long q4), .second, .val (.long q5), .second, .val (.ref (A0_9 p0 q1 q2 q3 q4 q5 w0 w1 w2 w3 w4 wc)), .val (.ref (A0_22 p0 q1 q2 q3 q4 q5 w0 w1 w2 w3 w4 wc)), .val (.int (A0_30 p0 q1 q2 q3 q4 q5 w0 w1 w2 w3 w4 wc)), .val (.long (J0_38_S0 p0 q1 q2 q3 q4 q5 w0 w1 w2 w3 w4 wc)), .second, .val (.long (J0_55_S0 p0 q1 q2 q3 q4 q5 w0 w1 w2 w3 w4 wc)), .second, .val (.long (J0_72_S0 p0 q1 q2 q3 q4 q5 w0 w1 w2 w3 w4 wc)), .second, .unset, .unset, .unset, .unset, .unset, .unset, .unset, .unset] [(.int p0)])) _
    refine XS.bipush Xj8.here hx rfl (hb hby at_85) ?_
    show Steps p.tables e below (Tj8.setTop (mkF m 87 #[.val (.int p0), .val (.long q1), .second, .val (.long q2), .second, .val (.long q3), .second, .val (.long q4), .second, .val (.long q5), .second, .val (.ref (A0_9 p0 q1 q2 q3 q4 q5 w0 w1 w2 w3 w4 wc)), .val (.ref (A0_22 p0 q1 q2 q3 q4 q5 w0 w1 w2 w3 w4 wc)), .val (.int (A0_30 p0 q1 q2 q3 q4 q5 w0 w1 w2 w3 w4 wc)), .val (.long (J0_38_S0 p0 q1 q2 q3 q4 q5 w0 w1 w2 w3 w4 wc)), .second, .val (.long (J0_55_S0 p0 q1 q2 q3 q4 q5 w0 w1 w2 w3 w4 wc)), .second, .val (.long (J0_72_S0 p0 q1 q2 q3 q4 q5 w0 w1 w2 w3 w4 wc)), .second, .unset, .unset, .unset, .unset, .unset, .unset, .unset, .unset] [(.int (9 : Int32)), (.int p0)])) _
    refine XS.iushr Xj8.here hx rfl (hb hby at_87) rfl ?_
    show Steps p.tables e below (Tj8.setTop (mkF m 88 #[.val (.int p0), .val (.long q1), .second, .val (.long q2), .second, .val (.long q3), .second, .val (.long q4), .second, .val (.long q5), .second, .val (.ref (A0_9 p0 q1 q2 q3 q4 q5 w0 w1 w2 w3 w4 wc)), .val (.ref (A0_22 p0 q1 q2 q3 q4 q5 w0 w1 w2 w3 w4 wc)), .val (.int (A0_30 p0 q1 q2 q3 q4 q5 w0 w1 w2 w3 w4 wc)), .val (.long (J0_38_S0 p0 q1 q2 q3 q4 q5 w0 w1 w2 w3 w4 wc)), .second, .val (.long (J0_55_S0 p0 q1 q2 q3 q4 q5 w0 w1 w2 w3 w4 wc)), .second, .val (.long (J0_72_S0 p0 q1 q2 q3 q4 q5 w0 w1 w2 w3 w4 wc)), .second, .unset, .unset, .unset, .unset, .unset, .unset, .unset, .unset] [(.int ((p0.toUInt32 >>> ((9 : Int32) &&& 31).toUInt32).toInt32))])) _
    refine XS.iconst Xj8.here hx rfl (hb hby at_88) ?_
    show Steps p.tables e below (Tj8.setTop (mkF m 89 #[.val (.int p0), .val (.long q1), .second, .val (.long q2), .second, .val (.long q3), .second, .val (.long q4), .second, .val (.long q5), .second, .val (.ref (A0_9 p0 q1 q2 q3 q4 q5 w0 w1 w2 w3 w4 wc)), .val (.ref (A0_22 p0 q1 q2 q3 q4 q5 w0 w1 w2 w3 w4 wc)), .val (.int (A0_30 p0 q1 q2 q3 q4 q5 w0 w1 w2 w3 w4 wc)), .val (.long (J0_38_S0 p0 q1 q2 q3 q4 q5 w0 w1 w2 w3 w4 wc)), .second, .val (.long (J0_55_S0 p0 q1 q2 q3 q4 q5 w0 w1 w2 w3 w4 wc)), .second, .val (.long (J0_72_S0 p0 q1 q2 q3 q4 q5 w0 w1 w2 w3 w4 wc)), .second, .unset, .unset, .unset, .unset, .unset, .unset, .unset, .unset] [(.int (1 : Int32)), (.int ((p0.toUInt32 >>> ((9 : Int32) &&& 31).toUInt32).toInt32))])) _
    refine XS.iand Xj8.here hx rfl (hb hby at_89) rfl ?_
    exact kt)
  obtain ⟨Tj10, lj10, Xj10, Nj10, ej10, pre10⟩ : ∃ (T' : State) (locs' : List Loc), Stand p l e room_1 s m #[(.int p0), (.long q1), (.long q2), (.long q3), (.long q4), (.long q5)] below meth c T' locs' 0 0 ∧ Fr n0 locs' ∧ T'.heap = h0 ∧ ∀ t, Steps p.tables e below (T'.setTop (mkF m 101 #[.val (.int p0), .val (.long q1), .second, .val (.long q2), .second, .val (.long q3), .second, .val (.long q4), .second, .val (.long q5), .second, .val (.ref (A0_9 p0 q1 q2 q3 q4 q5 w0 w1 w2 w3 w4 wc)), .val (.ref (A0_22 p0 q1 q2 q3 q4 q5 w0 w1 w2 w3 w4 wc)), .val (.int (A0_30 p0 q1 q2 q3 q4 q5 w0 w1 w2 w3 w4 wc)), .val (.long (J0_38_S0 p0 q1 q2 q3 q4 q5 w0 w1 w2 w3 w4 wc)), .second, .val (.long (J0_55_S0 p0 q1 q2 q3 q4 q5 w0 w1 w2 w3 w4 wc)), .second, .val (.long (J0_72_S0 p0 q1 q2 q3 q4 q5 w0 w1 w2 w3 w4 wc)), .second, .unset, .unset, .unset, .unset, .unset, .unset, .unset, .unset] [(.int (J0_90_S0 p0 q1 q2 q3 q4 q5 w0 w1 w2 w3 w4 wc))])) t → Steps p.tables e below (s₁.setTop (entryFrame m #[(.int p0), (.long q1), (.long q2), (.long q3), (.long q4), (.long q5)] maxLocals)) t := by
    by_cases hc90 : (((p0.toUInt32 >>> ((9 : Int32) &&& 31).toUInt32).toInt32) &&& (1 : Int32)) = (0 : Int32)
    · refine ⟨Tj8, _, Xj8, Nj8, ej8, fun t kt => pre9 t ?_⟩
      show Steps p.tables e below (Tj8.setTop (mkF m 90 #[.val (.int p0), .val (.long q1), .second, .val (.long q2), .second, .val (.long q3), .second, .val (.long q4), .second, .val (.long q5), .second, .val (.ref (A0_9 p0 q1 q2 q3 q4 q5 w0 w1 w2 w3 w4 wc)), .val (.ref (A0_22 p0 q1 q2 q3 q4 q5 w0 w1 w2 w3 w4 wc)), .val (.int (A0_30 p0 q1 q2 q3 q4 q5 w0 w1 w2 w3 w4 wc)), .val (.long (J0_38_S0 p0 q1 q2 q3 q4 q5 w0 w1 w2 w3 w4 wc)), .second, .val (.long (J0_55_S0 p0 q1 q2 q3 q4 q5 w0 w1 w2 w3 w4 wc)), .second, .val (.long (J0_72_S0 p0 q1 q2 q3 q4 q5 w0 w1 w2 w3 w4 wc)), .second, .unset, .unset, .unset, .unset, .unset, .unset, .unset, .unset] [(.int (((p0.toUInt32 >>> ((9 : Int32) &&& 31).toUInt32).toInt32) &&& (1 : Int32)))])) _
      refine XS.ifYes Xj8.here hx rfl (pc0 := 90) (pc' := 99) rfl (hb hby at_90) rfl ((if0 _ _).trans (teq hc90).1) (by decide) (by decide) ?_
      show Steps p.tables e below (Tj8.setTop (mkF m 99 #[.val (.int p0), .val (.long q1), .second, .val (.long q2), .second, .val (.long q3), .second, .val (.long q4), .second, .val (.long q5), .second, .val (.ref (A0_9 p0 q1 q2 q3 q4 q5 w0 w1 w2 w3 w4 wc)), .val (.ref (A0_22 p0 q1 q2 q3 q4 q5 w0 w1 w2 w3 w4 wc)), .val (.int (A0_30 p0 q1 q2 q3 q4 q5 w0 w1 w2 w3 w4 wc)), .val (.long (J0_38_S0 p0 q1 q2 q3 q4 q5 w0 w1 w2 w3 w4 wc)), .second, .val (.long (J0_55_S0 p0 q1 q2 q3 q4 q5 w0 w1 w2 w3 w4 wc)), .second, .val (.long (J0_72_S0 p0 q1 q2 q3 q4 q5 w0 w1 w2 w3 w4 wc)), .second, .unset, .unset, .unset, .unset, .unset, .unset, .unset, .unset] [])) _
      refine XS.iload Xj8.here hx rfl (hb hby at_99) rfl ?_
      show Steps p.tables e below (Tj8.setTop (mkF m 101 #[.val (.int p0), .val (.long q1), .second, .val (.long q2), .second, .val (.long q3), .second, .val (.long q4), .second, .val (.long q5), .second, .val (.ref (A0_9 p0 q1 q2 q3 q4 q5 w0 w1 w2 w3 w4 wc)), .val (.ref (A0_22 p0 q1 q2 q3 q4 q5 w0 w1 w2 w3 w4 wc)), .val (.int (A0_30 p0 q1 q2 q3 q4 q5 w0 w1 w2 w3 w4 wc)), .val (.long (J0_38_S0 p0 q1 q2 q3 q4 q5 w0 w1 w2 w3 w4 wc)), .second, .val (.long (J0_55_S0 p0 q1 q2 q3 q4 q5 w0 w1 w2 w3 w4 wc)), .second, .val (.long (J0_72_S0 p0 q1 q2 q3 q4 q5 w0 w1 w2 w3 w4 wc)), .second, .unset, .unset, .unset, .unset, .unset, .unset, .unset, .unset] [(.int (A0_30 p0 q1 q2 q3 q4 q5 w0 w1 w2 w3 w4 wc))])) _
      have qjS0 : (J0_90_S0 p0 q1 q2 q3 q4 q5 w0 w1 w2 w3 w4 wc) = (A0_30 p0 q1 q2 q3 q4 q5 w0 w1 w2 w3 w4 wc) := by unfold J0_90_S0; simp only [if_true, if_false, if_pos hc90]
      rw [qjS0] at kt
      exact kt
    · refine ⟨Tj8, _, Xj8, Nj8, ej8, fun t kt => pre9 t ?_⟩
      show Steps p.tables e below (Tj8.setTop (mkF m 90 #[.val (.int p0), .val (.long q1), .second, .val (.long q2), .second, .val (.long q3), .second, .val (.long q4), .second, .val (.long q5), .second, .val (.ref (A0_9 p0 q1 q2 q3 q4 q5 w0 w1 w2 w3 w4 wc)), .val (.ref (A0_22 p0 q1 q2 q3 q4 q5 w0 w1 w2 w3 w4 wc)), .val (.int (A0_30 p0 q1 q2 q3 q4 q5 w0 w1 w2 w3 w4 wc)), .val (.long (J0_38_S0 p0 q1 q2 q3 q4 q5 w0 w1 w2 w3 w4 wc)), .second, .val (.long (J0_55_S0 p0 q1 q2 q3 q4 q5 w0 w1 w2 w3 w4 wc)), .second, .val (.long (J0_72_S0 p0 q1 q2 q3 q4 q5 w0 w1 w2 w3 w4 wc)), .second, .unset, .unset, .unset, .unset, .unset, .unset, .unset, .unset] [(.int (((p0.toUInt32 >>> ((9 : Int32) &&& 31).toUInt32).toInt32) &&& (1 : Int32)))])) _
      refine XS.ifNo Xj8.here hx rfl (hb hby at_90) rfl ((if0 _ _).trans (feq hc90).1) ?_
      show Steps p.tables e below (Tj8.setTop (mkF m 93 #[.val (.int p0), .val (.long q1), .second, .val (.long q2), .second, .val (.long q3), .second, .val (.long q4), .second, .val (.long q5), .second, .val (.ref (A0_9 p0 q1 q2 q3 q4 q5 w0 w1 w2 w3 w4 wc)), .val (.ref (A0_22 p0 q1 q2 q3 q4 q5 w0 w1 w2 w3 w4 wc)), .val (.int (A0_30 p0 q1 q2 q3 q4 q5 w0 w1 w2 w3 w4 wc)), .val (.long (J0_38_S0 p0 q1 q2 q3 q4 q5 w0 w1 w2 w3 w4 wc)), .second, .val (.long (J0_55_S0 p0 q1 q2 q3 q4 q5 w0 w1 w2 w3 w4 wc)), .second, .val (.long (J0_72_S0 p0 q1 q2 q3 q4 q5 w0 w1 w2 w3 w4 wc)), .second, .unset, .unset, .unset, .unset, .unset, .unset, .unset, .unset] [])) _
      refine XS.lload Xj8.here hx rfl (hb hby at_93) rfl ?_
      show Steps p.tables e below (Tj8.setTop (mkF m 95 #[.val (.int p0), .val (.long q1), .second, .val (.long q2), .second, .val (.long q3), .second, .val (.long q4), .second, .val (.long q5), .second, .val (.ref (A0_9 p0 q1 q2 q3 q4 q5 w0 w1 w2 w3 w4 wc)), .val (.ref (A0_22 p0 q1 q2 q3 q4 q5 w0 w1 w2 w3 w4 wc)), .val (.int (A0_30 p0 q1 q2 q3 q4 q5 w0 w1 w2 w3 w4 wc)), .val (.long (J0_38_S0 p0 q1 q2 q3 q4 q5 w0 w1 w2 w3 w4 wc)), .second, .val (.long (J0_55_S0 p0 q1 q2 q3 q4 q5 w0 w1 w2 w3 w4 wc)), .second, .val (.long (J0_72_S0 p0 q1 q2 q3 q4 q5 w0 w1 w2 w3 w4 wc)), .second, .unset, .unset, .unset, .unset, .unset, .unset, .unset, .unset] [(.long q5)])) _
      refine XS.l2i Xj8.here hx rfl (hb hby at_95) rfl ?_
      show Steps p.tables e below (Tj8.setTop (mkF m 96 #[.val (.int p0), .val (.long q1), .second, .val (.long q2), .second, .val (.long q3), .second, .val (.long q4), .second, .val (.long q5), .second, .val (.ref (A0_9 p0 q1 q2 q3 q4 q5 w0 w1 w2 w3 w4 wc)), .val (.ref (A0_22 p0 q1 q2 q3 q4 q5 w0 w1 w2 w3 w4 wc)), .val (.int (A0_30 p0 q1 q2 q3 q4 q5 w0 w1 w2 w3 w4 wc)), .val (.long (J0_38_S0 p0 q1 q2 q3 q4 q5 w0 w1 w2 w3 w4 wc)), .second, .val (.long (J0_55_S0 p0 q1 q2 q3 q4 q5 w0 w1 w2 w3 w4 wc)), .second, .val (.long (J0_72_S0 p0 q1 q2 q3 q4 q5 w0 w1 w2 w3 w4 wc)), .second, .unset, .unset, .unset, .unset, .unset, .unset, .unset, .unset] [(.int (q5.toInt32))])) _
      refine XS.goto Xj8.here hx rfl (pc0 := 96) (pc' := 101) rfl (hb hby at_96) (by decide) (by decide) ?_
      show Steps p.tables e below (Tj8.setTop (mkF m 101 #[.val (.int p0), .val (.long q1), .second, .val (.long q2), .second, .val (.long q3), .second, .val (.long q4), .second, .val (.long q5), .second, .val (.ref (A0_9 p0 q1 q2 q3 q4 q5 w0 w1 w2 w3 w4 wc)), .val (.ref (A0_22 p0 q1 q2 q3 q4 q5 w0 w1 w2 w3 w4 wc)), .val (.int (A0_30 p0 q1 q2 q3 q4 q5 w0 w1 w2 w3 w4 wc)), .val (.long (J0_38_S0 p0 q1 q2 q3 q4 q5 w0 w1 w2 w3 w4 wc)), .second, .val (.long (J0_55_S0 p0 q1 q2 q3 q4 q5 w0 w1 w2 w3 w4 wc)), .second, .val (.long (J0_72_S0 p0 q1 q2 q3 q4 q5 w0 w1 w2 w3 w4 wc)), .second, .unset, .unset, .unset, .unset, .unset, .unset, .unset, .unset] [(.int (q5.toInt32))])) _
      have qjS0 : (J0_90_S0 p0 q1 q2 q3 q4 q5 w0 w1 w2 w3 w4 wc) = (q5.toInt32) := by unfold J0_90_S0; simp only [if_true, if_false, if_neg hc90]
      rw [qjS0] at kt
      exact kt
  have pre11 : ∀ t, Steps p.tables e below (Tj10.setTop (mkF m 109 #[.val (.int p0), .val (.long q1), .second, .val (.long q2), .second, .val (.long q3), .second, .val (.long q4), .second, .val (.long q5), .second, .val (.ref (A0_9 p0 q1 q2 q3 q4 q5 w0 w1 w2 w3 w4 wc)), .val (.ref (A0_22 p0 q1 q2 q3 q4 q5 w0 w1 w2 w3 w4 wc)), .val (.int (A0_30 p0 q1 q2 q3 q4 q5 w0 w1 w2 w3 w4 wc)), .val (.long (J0_38_S0 p0 q1 q2 q3 q4 q5 w0 w1 w2 w3 w4 wc)), .second, .val (.long (J0_55_S0 p0 q1 q2 q3 q4 q5 w0 w1 w2 w3 w4 wc)), .second, .val (.long (J0_72_S0 p0 q1 q2 q3 q4 q5 w0 w1 w2 w3 w4 wc)), .second, .val (.int (J0_90_S0 p0 q1 q2 q3 q4 q5 w0 w1 w2 w3 w4 wc)), .unset, .unset, .unset, .unset, .unset, .unset, .unset] [(.int (((p0.toUInt32 >>> ((10 : Int32) &&& 31).toUInt32).toInt32) &&& (1 : Int32)))])) t → Steps p.tables e below (s₁.setTop (entryFrame m #[(.int p0), (.long q1), (.long q2), (.long q3), (.long q4), (.long q5)] maxLocals)) t := fun t kt => pre10 t (by
    show Steps p.tables e below (Tj10.setTop (mkF m 101 #[.val (.int p0), .val (.long q1), .second, .val (.long q2), .second, .val (.long q3), .second, .val (.long q4), .second, .val (.long q5), .second, .val (.ref (A0_9 p0 q1 q2 q3 q4 q5 w0 w1 w2 w3 w4 wc)), .val (.ref (A0_22 p0 q1 q2 q3 q4 q5 w0 w1 w2 w3 w4 wc)), .val (.int (A0_30 p0 q1 q2 q3 q4 q5 w0 w1 w2 w3 w4 wc)), .val (.long (J0_38_S0 p0 q1 q2 q3 q4 q5 w0 w1 w2 w3 w4 wc)), .second, .val (.long (J0_55_S0 p0 q1 q2 q3 q4 q5 w0 w1 w2 w3 w4 wc)), .second, .val (.long (J0_72_S0 p0 q1 q2 q3 q4 q5 w0 w1 w2 w3 w4 wc)), .second, .unset, .unset, .unset, .unset, .unset, .unset, .unset, .unset] [(.int (J0_90_S0 p0 q1 q2 q3 q4 q5 w0 w1 w2 w3 w4 wc))])) _
    refine XS.istore Xj10.here hx rfl (hb hby at_101) rfl (l' := #[.val (.int p0), .val (.long q1), .second, .val (.long q2), .second, .val (.long q3), .second, .val (.long q4), .second, .val (.long q5), .second, .val (.ref (A0_9 p0 q1 q2 q3 q4 q5 w0 w1 w2 w3 w4 wc)), .val (.ref (A0_22 p0 q1 q2 q3 q4 q5 w0 w1 w2 w3 w4 wc)), .val (.int (A0_30 p0 q1 q2 q3 q4 q5 w0 w1 w2 w3 w4 wc)), .val (.long (J0_38_S0 p0 q1 q2 q3 q4 q5 w0 w1 w2 w3 w4 wc)), .second, .val (.long (J0_55_S0 p0 q1 q2 q3 q4 q5 w0 w1 w2 w3 w4 wc)), .second, .val (.long (J0_72_S0 p0 q1 q2 q3 q4 q5 w0 w1 w2 w3 w4 wc)), .second, .val (.int (J0_90_S0 p0 q1 q2 q3 q4 q5 w0 w1 w2 w3 w4 wc)), .unset, .unset, .unset, .unset, .unset, .unset, .unset]) rfl ?_
    show Steps p.tables e below (Tj10.setTop (mkF m 103 #[.val (.int p0), .val (.long q1), .second, .val (.long q2), .second, .val (.long q3), .second, .val (.long q4), .second, .val (.long q5), .second, .val (.ref (A0_9 p0 q1 q2 q3 q4 q5 w0 w1 w2 w3 w4 wc)), .val (.ref (A0_22 p0 q1 q2 q3 q4 q5 w0 w1 w2 w3 w4 wc)), .val (.int (A0_30 p0 q1 q2 q3 q4 q5 w0 w1 w2 w3 w4 wc)), .val (.long (J0_38_S0 p0 q1 q2 q3 q4 q5 w0 w1 w2 w3 w4 wc)), .second, .val (.long (J0_55_S0 p0 q1 q2 q3 q4 q5 w0 w1 w2 w3 w4 wc)), .second, .val (.long (J0_72_S0 p0 q1 q2 q3 q4 q5 w0 w1 w2 w3 w4 wc)), .second, .val (.int (J0_90_S0 p0 q1 q2 q3 q4 q5 w0 w1 w2 w3 w4 wc)), .unset, .unset, .unset, .unset, .unset, .unset, .unset] [])) _
    refine XS.iloadN Xj10.here hx rfl (hb hby at_103) rfl ?_
    show Steps p.tables e below (Tj10.setTop (mkF m 104 #[.val (.int p0), .val (.long q1), .second, .val (.long q2), .second, .val (.long q3), .second, .val (.long q4), .second, .val (.long q5), .second, .val (.ref (A0_9 p0 q1 q2 q3 q4 q5 w0 w1 w2 w3 w4 wc)), .val (.ref (A0_22 p0 q1 q2 q3 q4 q5 w0 w1 w2 w3 w4 wc)), .val (.int (A0_30 p0 q1 q2 q3 q4 q5 w0 w1 w2 w3 w4 wc)), .val (.long (J0_38_S0 p0 q1 q2 q3 q4 q5 w0 w1 w2 w3 w4 wc)), .second, .val (.long (J0_55_S0 p0 q1 q2 q3 q4 q5 w0 w1 w2 w3 w4 wc)), .second, .val (.long (J0_72_S0 p0 q1 q2 q3 q4 q5 w0 w1 w2 w3 w4 wc)), .second, .val (.int (J0_90_S0 p0 q1 q2 q3 q4 q5 w0 w1 w2 w3 w4 wc)), .unset, .unset, .unset, .unset, .unset, .unset, .unset] [(.int p0)])) _
    refine XS.bipush Xj10.here hx rfl (hb hby at_104) ?_
    show Steps p.tables e below (Tj10.setTop (mkF m 106 #[.val (.int p0), .val (.long q1), .second, .val (.long q2), .second, .val (.long q3), .second, .val (.long q4), .second, .val (.long q5), .second, .val (.ref (A0_9 p0 q1 q2 q3 q4 q5 w0 w1 w2 w3 w4 wc)), .val (.ref (A0_22 p0 q1 q2 q3 q4 q5 w0 w1 w2 w3 w4 wc)), .val (.int (A0_30 p0 q1 q2 q3 q4 q5 w0 w1 w2 w3 w4 wc)), .val (.long (J0_38_S0 p0 q1 q2 q3 q4 q5 w0 w1 w2 w3 w4 wc)), .second, .val (.long (J0_55_S0 p0 q1 q2 q3 q4 q5 w0 w1 w2 w3 w4 wc)), .second, .val (.long (J0_72_S0 p0 q1 q2 q3 q4 q5 w0 w1 w2 w3 w4 wc)), .second, .val (.int (J0_90_S0 p0 q1 q2 q3 q4 q5 w0 w1 w2 w3 w4 wc)), .unset, .unset, .unset, .unset, .unset, .unset, .unset] [(.int (10 : Int32)), (.int p0)])) _
    refine XS.iushr Xj10.here hx rfl (hb hby at_106) rfl ?_
    show Steps p.tables e below (Tj10.setTop (mkF m 107 #[.val (.int p0), .val (.long q1), .second, .val (.long q2), .second, .val (.long q3), .second, .val (.long q4), .second, .val (.long q5), .second, .val (.ref (A0_9 p0 q1 q2 q3 q4 q5 w0 w1 w2 w3 w4 wc)), .val (.ref (A0_22 p0 q1 q2 q3 q4 q5 w0 w1 w2 w3 w4 wc)), .val (.int (A0_30 p0 q1 q2 q3 q4 q5 w0 w1 w2 w3 w4 wc)), .val (.long (J0_38_S0 p0 q1 q2 q3 q4 q5 w0 w1 w2 w3 w4 wc)), .second, .val (.long (J0_55_S0 p0 q1 q2 q3 q4 q5 w0 w1 w2 w3 w4 wc)), .second, .val (.long (J0_72_S0 p0 q1 q2 q3 q4 q5 w0 w1 w2 w3 w4 wc)), .second, .val (.int (J0_90_S0 p0 q1 q2 q3 q4 q5 w0 w1 w2 w3 w4 wc)), .unset, .unset, .unset, .unset, .unset, .unset, .unset] [(.int ((p0.toUInt32 >>> ((10 : Int32) &&& 31).toUInt32).toInt32))])) _
    refine XS.iconst Xj10.here hx rfl (hb hby at_107) ?_
    show Steps p.tables e below (Tj10.setTop (mkF m 108 #[.val (.int p0), .val (.long q1), .second, .val (.long q2), .second, .val (.long q3), .second, .val (.long q4), .second, .val (.long q5), .second, .val (.ref (A0_9 p0 q1 q2 q3 q4 q5 w0 w1 w2 w3 w4 wc)), .val (.ref (A0_22 p0 q1 q2 q3 q4 q5 w0 w1 w2 w3 w4 wc)), .val (.int (A0_30 p0 q1 q2 q3 q4 q5 w0 w1 w2 w3 w4 wc)), .val (.long (J0_38_S0 p0 q1 q2 q3 q4 q5 w0 w1 w2 w3 w4 wc)), .second, .val (.long (J0_55_S0 p0 q1 q2 q3 q4 q5 w0 w1 w2 w3 w4 wc)), .second, .val (.long (J0_72_S0 p0 q1 q2 q3 q4 q5 w0 w1 w2 w3 w4 wc)), .second, .val (.int (J0_90_S0 p0 q1 q2 q3 q4 q5 w0 w1 w2 w3 w4 wc)), .unset, .unset, .unset, .unset, .unset, .unset, .unset] [(.int (1 : Int32)), (.int ((p0.toUInt32 >>> ((10 : Int32) &&& 31).toUInt32).toInt32))])) _
    refine XS.iand Xj10.here hx rfl (hb hby at_108) rfl ?_
    exact kt)
  obtain ⟨Tj12, lj12, Xj12, Nj12, ej12, pre12⟩ : ∃ (T' : State) (locs' : List Loc), Stand p l e room_1 s m #[(.int p0), (.long q1), (.long q2), (.long q3), (.long q4), (.long q5)] below meth c T' locs' 0 0 ∧ Fr n0 locs' ∧ T'.heap = h0 ∧ ∀ t, Steps p.tables e below (T'.setTop (mkF m 119 #[.val (.int p0), .val (.long q1), .second, .val (.long q2), .second, .val (.long q3), .second, .val (.long q4), .second, .val (.long q5), .second, .val (.ref (A0_9 p0 q1 q2 q3 q4 q5 w0 w1 w2 w3 w4 wc)), .val (.ref (A0_22 p0 q1 q2 q3 q4 q5 w0 w1 w2 w3 w4 wc)), .val (.int (A0_30 p0 q1 q2 q3 q4 q5 w0 w1 w2 w3 w4 wc)), .val (.long (J0_38_S0 p0 q1 q2 q3 q4 q5 w0 w1 w2 w3 w4 wc)), .second, .val (.long (J0_55_S0 p0 q1 q2 q3 q4 q5 w0 w1 w2 w3 w4 wc)), .second, .val (.long (J0_72_S0 p0 q1 q2 q3 q4 q5 w0 w1 w2 w3 w4 wc)), .second, .val (.int (J0_90_S0 p0 q1 q2 q3 q4 q5 w0 w1 w2 w3 w4 wc)), .unset, .unset, .unset, .unset, .unset, .unset, .unset] [(.long (J0_109_S0 p0 q1 q2 q3 q4 q5 w0 w1 w2 w3 w4 wc))])) t → Steps p.tables e below (s₁.setTop (entryFrame m #[(.int p0), (.long q1), (.long q2), (.long q3), (.long q4), (.long q5)] maxLocals)) t := by
    by_cases hc109 : (((p0.toUInt32 >>> ((10 : Int32) &&& 31).toUInt32).toInt32) &&& (1 : Int32)) = (0 : Int32)
    · refine ⟨Tj10, _, Xj10, Nj10, ej10, fun t kt => pre11 t ?_⟩
      show Steps p.tables e below (Tj10.setTop (mkF m 109 #[.val (.int p0), .val (.long q1), .second, .val (.long q2), .second, .val (.long q3), .second, .val (.long q4), .second, .val (.long q5), .second, .val (.ref (A0_9 p0 q1 q2 q3 q4 q5 w0 w1 w2 w3 w4 wc)), .val (.ref (A0_22 p0 q1 q2 q3 q4 q5 w0 w1 w2 w3 w4 wc)), .val (.int (A0_30 p0 q1 q2 q3 q4 q5 w0 w1 w2 w3 w4 wc)), .val (.long (J0_38_S0 p0 q1 q2 q3 q4 q5 w0 w1 w2 w3 w4 wc)), .second, .val (.long (J0_55_S0 p0 q1 q2 q3 q4 q5 w0 w1 w2 w3 w4 wc)), .second, .val (.long (J0_72_S0 p0 q1 q2 q3 q4 q5 w0 w1 w2 w3 w4 wc)), .second, .val (.int (J0_90_S0 p0 q1 q2 q3 q4 q5 w0 w1 w2 w3 w4 wc)), .unset, .unset, .unset, .unset, .unset, .unset, .unset] [(.int (((p0.toUInt32 >>> ((10 : Int32) &&& 31).toUInt32).toInt32) &&& (1 : Int32)))])) _
      refine XS.ifYes Xj10.here hx rfl (pc0 := 109) (pc' := 117) rfl (hb hby at_109) rfl ((if0 _ _).trans (teq hc109).1) (by decide) (by decide) ?_
      show Steps p.tables e below (Tj10.setTop (mkF m 117 #[.val (.int p0), .val (.long q1), .second, .val (.long q2), .second, .val (.long q3), .second, .val (.long q4), .second, .val (.long q5), .second, .val (.ref (A0_9 p0 q1 q2 q3 q4 q5 w0 w1 w2 w3 w4 wc)), .val (.ref (A0_22 p0 q1 q2 q3 q4 q5 w0 w1 w2 w3 w4 wc)), .val (.int (A0_30 p0 q1 q2 q3 q4 q5 w0 w1 w2 w3 w4 wc)), .val (.long (J0_38_S0 p0 q1 q2 q3 q4 q5 w0 w1 w2 w3 w4 wc)), .second, .val (.long (J0_55_S0 p0 q1 q2 q3 q4 q5 w0 w1 w2 w3 w4 wc)), .second, .val (.long (J0_72_S0 p0 q1 q2 q3 q4 q5 w0 w1 w2 w3 w4 wc)), .second, .val (.int (J0_90_S0 p0 q1 q2 q3 q4 q5 w0 w1 w2 w3 w4 wc)), .unset, .unset, .unset, .unset, .unset, .unset, .unset] [])) _
      refine XS.lload Xj10.here hx rfl (hb hby at_117) rfl ?_
      show Steps p.tables e below (Tj10.setTop (mkF m 119 #[.val (.int p0), .val (.long q1), .second, .val (.long q2), .second, .val (.long q3), .second, .val (.long q4), .second, .val (.long q5), .second, .val (.ref (A0_9 p0 q1 q2 q3 q4 q5 w0 w1 w2 w3 w4 wc)), .val (.ref (A0_22 p0 q1 q2 q3 q4 q5 w0 w1 w2 w3 w4 wc)), .val (.int (A0_30 p0 q1 q2 q3 q4 q5 w0 w1 w2 w3 w4 wc)), .val (.long (J0_38_S0 p0 q1 q2 q3 q4 q5 w0 w1 w2 w3 w4 wc)), .second, .val (.long (J0_55_S0 p0 q1 q2 q3 q4 q5 w0 w1 w2 w3 w4 wc)), .second, .val (.long (J0_72_S0 p0 q1 q2 q3 q4 q5 w0 w1 w2 w3 w4 wc)), .second, .val (.int (J0_90_S0 p0 q1 q2 q3 q4 q5 w0 w1 w2 w3 w4 wc)), .unset, .unset, .unset, .unset, .unset, .unset, .unset] [(.long q4)])) _
      have qjS0 : (J0_109_S0 p0 q1 q2 q3 q4 q5 w0 w1 w2 w3 w4 wc) = q4 := by unfold J0_109_S0; simp only [if_true, if_false, if_pos hc109]
      rw [qjS0] at kt
      exact kt
    · refine ⟨Tj10, _, Xj10, Nj10, ej10, fun t kt => pre11 t ?_⟩
      show Steps p.tables e below (Tj10.setTop (mkF m 109 #[.val (.int p0), .val (.long q1), .second, .val (.long q2), .second, .val (.long q3), .second, .val (.long q4), .second, .val (.long q5), .second, .val (.ref (A0_9 p0 q1 q2 q3 q4 q5 w0 w1 w2 w3 w4 wc)), .val (.ref (A0_22 p0 q1 q2 q3 q4 q5 w0 w1 w2 w3 w4 wc)), .val (.int (A0_30 p0 q1 q2 q3 q4 q5 w0 w1 w2 w3 w4 wc)), .val (.long (J0_38_S0 p0 q1 q2 q3 q4 q5 w0 w1 w2 w3 w4 wc)), .second, .val (.long (J0_55_S0 p0 q1 q2 q3 q4 q5 w0 w1 w2 w3 w4 wc)), .second, .val (.long (J0_72_S0 p0 q1 q2 q3 q4 q5 w0 w1 w2 w3 w4 wc)), .second, .val (.int (J0_90_S0 p0 q1 q2 q3 q4 q5 w0 w1 w2 w3 w4 wc)), .unset, .unset, .unset, .unset, .unset, .unset, .unset] [(.int (((p0.toUInt32 >>> ((10 : Int32) &&& 31).toUInt32).toInt32) &&& (1 : Int32)))])) _
      refine XS.ifNo Xj10.here hx rfl (hb hby at_109) rfl ((if0 _ _).trans (feq hc109).1) ?_
      show Steps p.tables e below (Tj10.setTop (mkF m 112 #[.val (.int p0), .val (.long q1), .second, .val (.long q2), .second, .val (.long q3), .second, .val (.long q4), .second, .val (.long q5), .second, .val (.ref (A0_9 p0 q1 q2 q3 q4 q5 w0 w1 w2 w3 w4 wc)), .val (.ref (A0_22 p0 q1 q2 q3 q4 q5 w0 w1 w2 w3 w4 wc)), .val (.int (A0_30 p0 q1 q2 q3 q4 q5 w0 w1 w2 w3 w4 wc)), .val (.long (J0_38_S0 p0 q1 q2 q3 q4 q5 w0 w1 w2 w3 w4 wc)), .second, .val (.long (J0_55_S0 p0 q1 q2 q3 q4 q5 w0 w1 w2 w3 w4 wc)), .second, .val (.long (J0_72_S0 p0 q1 q2 q3 q4 q5 w0 w1 w2 w3 w4 wc)), .second, .val (.int (J0_90_S0 p0 q1 q2 q3 q4 q5 w0 w1 w2 w3 w4 wc)), .unset, .unset, .unset, .unset, .unset, .unset, .unset] [])) _
      refine XS.lload Xj10.here hx rfl (hb hby at_112) rfl ?_
      show Steps p.tables e below (Tj10.setTop (mkF m 114 #[.val (.int p0), .val (.long q1), .second, .val (.long q2), .second, .val (.long q3), .second, .val (.long q4), .second, .val (.long q5), .second, .val (.ref (A0_9 p0 q1 q2 q3 q4 q5 w0 w1 w2 w3 w4 wc)), .val (.ref (A0_22 p0 q1 q2 q3 q4 q5 w0 w1 w2 w3 w4 wc)), .val (.int (A0_30 p0 q1 q2 q3 q4 q5 w0 w1 w2 w3 w4 wc)), .val (.long (J0_38_S0 p0 q1 q2 q3 q4 q5 w0 w1 w2 w3 w4 wc)), .second, .val (.long (J0_55_S0 p0 q1 q2 q3 q4 q5 w0 w1 w2 w3 w4 wc)), .second, .val (.long (J0_72_S0 p0 q1 q2 q3 q4 q5 w0 w1 w2 w3 w4 wc)), .second, .val (.int (J0_90_S0 p0 q1 q2 q3 q4 q5 w0 w1 w2 w3 w4 wc)), .unset, .unset, .unset, .unset, .unset, .unset, .unset] [(.long q5)])) _
      refine XS.goto Xj10.here hx rfl (pc0 := 114) (pc' := 119) rfl (hb hby at_114) (by decide) (by decide) ?_
      show Steps p.tables e below (Tj10.setTop (mkF m 119 #[.val (.int p0), .val (.long q1), .second, .val (.long q2), .second, .val (.long q3), .second, .val (.long q4), .second, .val (.long q5), .second, .val (.ref (A0_9 p0 q1 q2 q3 q4 q5 w0 w1 w2 w3 w4 wc)), .val (.ref (A0_22 p0 q1 q2 q3 q4 q5 w0 w1 w2 w3 w4 wc)), .val (.int (A0_30 p0 q1 q2 q3 q4 q5 w0 w1 w2 w3 w4 wc)), .val (.long (J0_38_S0 p0 q1 q2 q3 q4 q5 w0 w1 w2 w3 w4 wc)), .second, .val (.long (J0_55_S0 p0 q1 q2 q3 q4 q5 w0 w1 w2 w3 w4 wc)), .second, .val (.long (J0_72_S0 p0 q1 q2 q3 q4 q5 w0 w1 w2 w3 w4 wc)), .second, .val (.int (J0_90_S0 p0 q1 q2 q3 q4 q5 w0 w1 w2 w3 w4 wc)), .unset, .unset, .unset, .unset, .unset, .unset, .unset] [(.long q5)])) _
      have qjS0 : (J0_109_S0 p0 q1 q2 q3 q4 q5 w0 w1 w2 w3 w4 wc) = q5 := by unfold J0_109_S0; simp only [if_true, if_false, if_neg hc109]
      rw [qjS0] at kt
      exact kt
  obtain ⟨_, _, ⟨T13, L13, k13, n13⟩, -, X13, ⟨Lc13, hQ13, ll13, ly13, lz13⟩, st13⟩ := Jvm.LawKit.callS Xj12 hx (y := (⟨"java/lang/String", "valueOf", "(C)Ljava/lang/String;"⟩ : MethodName)) hown (mvT hZ (hw _ (List.mem_of_getElem? (i := 7) rfl))) (mvT hZ (hw _ (List.mem_of_getElem? (i := 8) rfl))) (mvT hZ (hw _ (List.mem_of_getElem? (i := 9) rfl))) (mvT hZ (hw _ (List.mem_of_getElem? (i := 10) rfl))) (by decide) (backOf (W := 0) (rm2 l Z a0 hw [] ((((p0.toUInt32 >>> ((16 : Int32) &&& 31).toUInt32).toInt32) &&& (255 : Int32)).toUInt32.toUInt16.toUInt32.toInt32) wc h0 n0 Z0 S_c hwc (own_c ((p0.toUInt32 >>> ((16 : Int32) &&& 31).toUInt32).toInt32) (255 : Int32) (by decide) (by decide))) hZ (hw _ (List.mem_of_getElem? (i := 10) rfl)) (hw _ (List.mem_of_getElem? (i := 9) rfl)) (by decide) (by decide)) (g := (mkF m 139 #[.val (.int p0), .val (.long q1), .second, .val (.long q2), .second, .val (.long q3), .second, .val (.long q4), .second, .val (.long q5), .second, .val (.ref (A0_9 p0 q1 q2 q3 q4 q5 w0 w1 w2 w3 w4 wc)), .val (.ref (A0_22 p0 q1 q2 q3 q4 q5 w0 w1 w2 w3 w4 wc)), .val (.int (A0_30 p0 q1 q2 q3 q4 q5 w0 w1 w2 w3 w4 wc)), .val (.long (J0_38_S0 p0 q1 q2 q3 q4 q5 w0 w1 w2 w3 w4 wc)), .second, .val (.long (J0_55_S0 p0 q1 q2 q3 q4 q5 w0 w1 w2 w3 w4 wc)), .second, .val (.long (J0_72_S0 p0 q1 q2 q3 q4 q5 w0 w1 w2 w3 w4 wc)), .second, .val (.int (J0_90_S0 p0 q1 q2 q3 q4 q5 w0 w1 w2 w3 w4 wc)), .val (.long (J0_109_S0 p0 q1 q2 q3 q4 q5 w0 w1 w2 w3 w4 wc)), .second, .val (.int (A0_128 p0 q1 q2 q3 q4 q5 w0 w1 w2 w3 w4 wc)), .unset, .unset, .unset, .unset] [(.int ((((p0.toUInt32 >>> ((16 : Int32) &&& 31).toUInt32).toInt32) &&& (255 : Int32)).toUInt32.toUInt16.toUInt32.toInt32))])) rfl (by rw [hml]; rfl) (argsL := [(.int ((((p0.toUInt32 >>> ((16 : Int32) &&& 31).toUInt32).toInt32) &&& (255 : Int32)).toUInt32.toUInt16.toUInt32.toInt32))]) (rest := []) (lenOf pd__C_Ljava_lang_String_ rfl) rfl (by show 2 * 0 + _ ≤ _; exact Nat.le_of_eq rfl) (hb hby at_139) (fun _ _ => ⟨rfl, ej12, (by decide : 0 + 2 ≤ _), (by decide : 0 + 5 ≤ _)⟩)
  dsimp only [Pt.U, Pt.locs, Pt.cells, Pt.slots] at X13 ll13 ly13 lz13 st13 hQ13
  subst ll13 ly13 lz13
  obtain ⟨b13, rfl, N13q, K13c, u13, P13_0⟩ := hQ13
  have g_b13 : n0 ≤ b13 := Nat.le_trans Z0 u13
  have sz_b13 : h0.size ≤ b13 := Nat.le_trans (Keep.refl h0 []).1 u13
  have N13 := Fr.app Nj12 N13q
  have K13 : Keep h0 T13.heap [] := (Keep.refl h0 []).trans K13c all0
  obtain ⟨T14, h14, X14, e14, E14, A14, D14, U14, st14⟩ := newO X13 hx hZ hown (hw _ (List.mem_of_getElem? (i := 33) rfl)) (hw _ (List.mem_of_getElem? (i := 34) rfl)) (hw _ (List.mem_of_getElem? (i := 35) rfl)) (rfl : T13.heap = T13.heap) (g := (mkF m 144 #[.val (.int p0), .val (.long q1), .second, .val (.long q2), .second, .val (.long q3), .second, .val (.long q4), .second, .val (.long q5), .second, .val (.ref (A0_9 p0 q1 q2 q3 q4 q5 w0 w1 w2 w3 w4 wc)), .val (.ref (A0_22 p0 q1 q2 q3 q4 q5 w0 w1 w2 w3 w4 wc)), .val (.int (A0_30 p0 q1 q2 q3 q4 q5 w0 w1 w2 w3 w4 wc)), .val (.long (J0_38_S0 p0 q1 q2 q3 q4 q5 w0 w1 w2 w3 w4 wc)), .second, .val (.long (J0_55_S0 p0 q1 q2 q3 q4 q5 w0 w1 w2 w3 w4 wc)), .second, .val (.long (J0_72_S0 p0 q1 q2 q3 q4 q5 w0 w1 w2 w3 w4 wc)), .second, .val (.int (J0_90_S0 p0 q1 q2 q3 q4 q5 w0 w1 w2 w3 w4 wc)), .val (.long (J0_109_S0 p0 q1 q2 q3 q4 q5 w0 w1 w2 w3 w4 wc)), .second, .val (.int (A0_128 p0 q1 q2 q3 q4 q5 w0 w1 w2 w3 w4 wc)), .val (.ref b13), .unset, .unset, .unset] [])) rfl (hb hby at_144) (by decide) (by decide)
  obtain ⟨b14, g14⟩ : ∃ z, z = T13.heap.size := ⟨_, rfl⟩
  rw [← g14] at A14 D14 st14
  have ne15 : b13 ≠ b14 := Nat.ne_of_lt (Nat.lt_of_lt_of_le P13_0.lt (Nat.le_of_eq g14.symm))
  have g_b14 : n0 ≤ b14 := Nat.le_trans (Nat.le_trans Z0 K13c.1) (Nat.le_of_eq g14.symm)
  have sz_b14 : h0.size ≤ b14 := Nat.le_trans K13.1 (Nat.le_of_eq g14.symm)
  have K14 : Keep h0 h14 [] := K13.ext E14
  have F_mode_b14 : Fld Z h14 b14 "com/example/grove8/grove8/Context" "mode" "Lcom/example/grove8/grove8/Context$Mode;" .null := D14 (Or.inr (hw _ (List.mem_of_getElem? (i := 46) rfl))) (ty := (.object "com/example/grove8/grove8/Context$Mode")) (by decide)
  have F_at_b14 : Fld Z h14 b14 "com/example/grove8/grove8/Context" "at" "J" (.long (0 : Int64)) := D14 (Or.inr (hw _ (List.mem_of_getElem? (i := 48) rfl))) (ty := .long) (by decide)
  have F_begunAt_b14 : Fld Z h14 b14 "com/example/grove8/grove8/Context" "begunAt" "J" (.long (0 : Int64)) := D14 (Or.inr (hw _ (List.mem_of_getElem? (i := 50) rfl))) (ty := .long) (by decide)
  have F_doctypeAt_b14 : Fld Z h14 b14 "com/example/grove8/grove8/Context" "doctypeAt" "J" (.long (0 : Int64)) := D14 (Or.inr (hw _ (List.mem_of_getElem? (i := 52) rfl))) (ty := .long) (by decide)
  have F_closing_b14 : Fld Z h14 b14 "com/example/grove8/grove8/Context" "closing" "I" (.int (0 : Int32)) := D14 (Or.inr (hw _ (List.mem_of_getElem? (i := 54) rfl))) (ty := .int) (by decide)
  have F_prologStart_b14 : Fld Z h14 b14 "com/example/grove8/grove8/Context" "prologStart" "J" (.long (0 : Int64)) := D14 (Or.inr (hw _ (List.mem_of_getElem? (i := 56) rfl))) (ty := .long) (by decide)
  obtain ⟨_, _, ⟨T16, L16, k16, n16⟩, -, X16, ⟨Lc16, hQ16, ll16, ly16, lz16⟩, st16⟩ := X14.specialBack hx (y := (⟨"com/example/grove8/grove8/Context", "<init>", "(Lcom/example/grove8/grove8/Context$Mode;JJJIJ)V"⟩ : MethodName)) rfl hown (mvT hZ (hw _ (List.mem_of_getElem? (i := 36) rfl))) (mvT hZ (hw _ (List.mem_of_getElem? (i := 37) rfl))) (mvT hZ (hw _ (List.mem_of_getElem? (i := 38) rfl))) (by decide) (backOf (W := 1) (rm7 l Z a0 hw [] b14 (A0_9 p0 q1 q2 q3 q4 q5 w0 w1 w2 w3 w4 wc) q1 q2 q3 (A0_30 p0 q1 q2 q3 q4 q5 w0 w1 w2 w3 w4 wc) q4 h14 n0 (Nat.le_trans (Nat.le_trans Z0 K13c.1) E14.1) A14 F_mode_b14 F_at_b14 F_begunAt_b14 F_doctypeAt_b14 F_closing_b14 F_prologStart_b14 g_b14) hZ (hw _ (List.mem_of_getElem? (i := 38) rfl)) (hw _ (List.mem_of_getElem? (i := 35) rfl)) (by decide) (by decide)) (g := (mkF m 158 #[.val (.int p0), .val (.long q1), .second, .val (.long q2), .second, .val (.long q3), .second, .val (.long q4), .second, .val (.long q5), .second, .val (.ref (A0_9 p0 q1 q2 q3 q4 q5 w0 w1 w2 w3 w4 wc)), .val (.ref (A0_22 p0 q1 q2 q3 q4 q5 w0 w1 w2 w3 w4 wc)), .val (.int (A0_30 p0 q1 q2 q3 q4 q5 w0 w1 w2 w3 w4 wc)), .val (.long (J0_38_S0 p0 q1 q2 q3 q4 q5 w0 w1 w2 w3 w4 wc)), .second, .val (.long (J0_55_S0 p0 q1 q2 q3 q4 q5 w0 w1 w2 w3 w4 wc)), .second, .val (.long (J0_72_S0 p0 q1 q2 q3 q4 q5 w0 w1 w2 w3 w4 wc)), .second, .val (.int (J0_90_S0 p0 q1 q2 q3 q4 q5 w0 w1 w2 w3 w4 wc)), .val (.long (J0_109_S0 p0 q1 q2 q3 q4 q5 w0 w1 w2 w3 w4 wc)), .second, .val (.int (A0_128 p0 q1 q2 q3 q4 q5 w0 w1 w2 w3 w4 wc)), .val (.ref b13), .unset, .unset, .unset] [(.long q4), (.int (A0_30 p0 q1 q2 q3 q4 q5 w0 w1 w2 w3 w4 wc)), (.long q3), (.long q2), (.long q1), (.ref (A0_9 p0 q1 q2 q3 q4 q5 w0 w1 w2 w3 w4 wc)), (.ref b14), (.ref b14)])) rfl (by rw [hml]; rfl) (Steps.refl _) (a := b14) (argsL := [(.ref (A0_9 p0 q1 q2 q3 q4 q5 w0 w1 w2 w3 w4 wc)), (.long q1), (.long q2), (.long q3), (.int (A0_30 p0 q1 q2 q3 q4 q5 w0 w1 w2 w3 w4 wc)), (.long q4)]) (rest := [(.ref b14)]) (lenOf pd__Lcom_example_grove8_grove8_Context_Mode_JJJIJ_V rfl) rfl (by show 2 * 0 + _ ≤ _; exact Nat.le_of_eq rfl) (hb hby at_158) (fun _ _ => ⟨rfl, e14, (by decide : 3 + 0 ≤ _), (by decide : 11 + 0 ≤ _)⟩)
  dsimp only [Pt.U, Pt.locs, Pt.cells, Pt.slots] at X16 ll16 ly16 lz16 st16 hQ16
  subst ll16 ly16 lz16
  obtain ⟨rfl, N16q, K16c, P16_0, P16_1, P16_2, P16_3, P16_4, P16_5, P16_6⟩ := hQ16
  have N16 := Fr.app N13 N16q
  have K16 : Keep h0 T16.heap [] := K14.trans K16c (allS (Or.inr sz_b14) all0)
  obtain ⟨T17, h17, X17, e17, E17, A17, D17, U17, st17⟩ := newO X16 hx hZ hown (hw _ (List.mem_of_getElem? (i := 33) rfl)) (hw _ (List.mem_of_getElem? (i := 34) rfl)) (hw _ (List.mem_of_getElem? (i := 35) rfl)) (rfl : T16.heap = T16.heap) (g := (mkF m 163 #[.val (.int p0), .val (.long q1), .second, .val (.long q2), .second, .val (.long q3), .second, .val (.long q4), .second, .val (.long q5), .second, .val (.ref (A0_9 p0 q1 q2 q3 q4 q5 w0 w1 w2 w3 w4 wc)), .val (.ref (A0_22 p0 q1 q2 q3 q4 q5 w0 w1 w2 w3 w4 wc)), .val (.int (A0_30 p0 q1 q2 q3 q4 q5 w0 w1 w2 w3 w4 wc)), .val (.long (J0_38_S0 p0 q1 q2 q3 q4 q5 w0 w1 w2 w3 w4 wc)), .second, .val (.long (J0_55_S0 p0 q1 q2 q3 q4 q5 w0 w1 w2 w3 w4 wc)), .second, .val (.long (J0_72_S0 p0 q1 q2 q3 q4 q5 w0 w1 w2 w3 w4 wc)), .second, .val (.int (J0_90_S0 p0 q1 q2 q3 q4 q5 w0 w1 w2 w3 w4 wc)), .val (.long (J0_109_S0 p0 q1 q2 q3 q4 q5 w0 w1 w2 w3 w4 wc)), .second, .val (.int (A0_128 p0 q1 q2 q3 q4 q5 w0 w1 w2 w3 w4 wc)), .val (.ref b13), .val (.ref b14), .unset, .unset] [])) rfl (hb hby at_163) (by decide) (by decide)
  obtain ⟨b17, g17⟩ : ∃ z, z = T16.heap.size := ⟨_, rfl⟩
  rw [← g17] at A17 D17 st17
  have ne18 : b13 ≠ b17 := Nat.ne_of_lt (Nat.lt_of_lt_of_le (Exa.keep (Exa.ext E14 P13_0) K16c).lt (Nat.le_of_eq g17.symm))
  have ne19 : b14 ≠ b17 := Nat.ne_of_lt (Nat.lt_of_lt_of_le P16_0.lt (Nat.le_of_eq g17.symm))
  have g_b17 : n0 ≤ b17 := Nat.le_trans (Nat.le_trans (Nat.le_trans (Nat.le_trans Z0 K13c.1) E14.1) K16c.1) (Nat.le_of_eq g17.symm)
  have sz_b17 : h0.size ≤ b17 := Nat.le_trans K16.1 (Nat.le_of_eq g17.symm)
  have K17 : Keep h0 h17 [] := K16.ext E17
  have F_mode_b17 : Fld Z h17 b17 "com/example/grove8/grove8/Context" "mode" "Lcom/example/grove8/grove8/Context$Mode;" .null := D17 (Or.inr (hw _ (List.mem_of_getElem? (i := 46) rfl))) (ty := (.object "com/example/grove8/grove8/Context$Mode")) (by decide)
  have F_at_b17 : Fld Z h17 b17 "com/example/grove8/grove8/Context" "at" "J" (.long (0 : Int64)) := D17 (Or.inr (hw _ (List.mem_of_getElem? (i := 48) rfl))) (ty := .long) (by decide)
  have F_begunAt_b17 : Fld Z h17 b17 "com/example/grove8/grove8/Context" "begunAt" "J" (.long (0 : Int64)) := D17 (Or.inr (hw _ (List.mem_of_getElem? (i := 50) rfl))) (ty := .long) (by decide)
  have F_doctypeAt_b17 : Fld Z h17 b17 "com/example/grove8/grove8/Context" "doctypeAt" "J" (.long (0 : Int64)) := D17 (Or.inr (hw _ (List.mem_of_getElem? (i := 52) rfl))) (ty := .long) (by decide)
  have F_closing_b17 : Fld Z h17 b17 "com/example/grove8/grove8/Context" "closing" "I" (.int (0 : Int32)) := D17 (Or.inr (hw _ (List.mem_of_getElem? (i := 54) rfl))) (ty := .int) (by decide)
  have F_prologStart_b17 : Fld Z h17 b17 "com/example/grove8/grove8/Context" "prologStart" "J" (.long (0 : Int64)) := D17 (Or.inr (hw _ (List.mem_of_getElem? (i := 56) rfl))) (ty := .long) (by decide)
  obtain ⟨_, _, ⟨T20, L20, k20, n20⟩, -, X20, ⟨Lc20, hQ20, ll20, ly20, lz20⟩, st20⟩ := X17.specialBack hx (y := (⟨"com/example/grove8/grove8/Context", "<init>", "(Lcom/example/grove8/grove8/Context$Mode;JJJIJ)V"⟩ : MethodName)) rfl hown (mvT hZ (hw _ (List.mem_of_getElem? (i := 36) rfl))) (mvT hZ (hw _ (List.mem_of_getElem? (i := 37) rfl))) (mvT hZ (hw _ (List.mem_of_getElem? (i := 38) rfl))) (by decide) (backOf (W := 1) (rm7 l Z a0 hw [] b17 (A0_22 p0 q1 q2 q3 q4 q5 w0 w1 w2 w3 w4 wc) (J0_38_S0 p0 q1 q2 q3 q4 q5 w0 w1 w2 w3 w4 wc) (J0_55_S0 p0 q1 q2 q3 q4 q5 w0 w1 w2 w3 w4 wc) (J0_72_S0 p0 q1 q2 q3 q4 q5 w0 w1 w2 w3 w4 wc) (J0_90_S0 p0 q1 q2 q3 q4 q5 w0 w1 w2 w3 w4 wc) (J0_109_S0 p0 q1 q2 q3 q4 q5 w0 w1 w2 w3 w4 wc) h17 n0 (Nat.le_trans (Nat.le_trans (Nat.le_trans (Nat.le_trans Z0 K13c.1) E14.1) K16c.1) E17.1) A17 F_mode_b17 F_at_b17 F_begunAt_b17 F_doctypeAt_b17 F_closing_b17 F_prologStart_b17 g_b17) hZ (hw _ (List.mem_of_getElem? (i := 38) rfl)) (hw _ (List.mem_of_getElem? (i := 35) rfl)) (by decide) (by decide)) (g := (mkF m 179 #[.val (.int p0), .val (.long q1), .second, .val (.long q2), .second, .val (.long q3), .second, .val (.long q4), .second, .val (.long q5), .second, .val (.ref (A0_9 p0 q1 q2 q3 q4 q5 w0 w1 w2 w3 w4 wc)), .val (.ref (A0_22 p0 q1 q2 q3 q4 q5 w0 w1 w2 w3 w4 wc)), .val (.int (A0_30 p0 q1 q2 q3 q4 q5 w0 w1 w2 w3 w4 wc)), .val (.long (J0_38_S0 p0 q1 q2 q3 q4 q5 w0 w1 w2 w3 w4 wc)), .second, .val (.long (J0_55_S0 p0 q1 q2 q3 q4 q5 w0 w1 w2 w3 w4 wc)), .second, .val (.long (J0_72_S0 p0 q1 q2 q3 q4 q5 w0 w1 w2 w3 w4 wc)), .second, .val (.int (J0_90_S0 p0 q1 q2 q3 q4 q5 w0 w1 w2 w3 w4 wc)), .val (.long (J0_109_S0 p0 q1 q2 q3 q4 q5 w0 w1 w2 w3 w4 wc)), .second, .val (.int (A0_128 p0 q1 q2 q3 q4 q5 w0 w1 w2 w3 w4 wc)), .val (.ref b13), .val (.ref b14), .unset, .unset] [(.long (J0_109_S0 p0 q1 q2 q3 q4 q5 w0 w1 w2 w3 w4 wc)), (.int (J0_90_S0 p0 q1 q2 q3 q4 q5 w0 w1 w2 w3 w4 wc)), (.long (J0_72_S0 p0 q1 q2 q3 q4 q5 w0 w1 w2 w3 w4 wc)), (.long (J0_55_S0 p0 q1 q2 q3 q4 q5 w0 w1 w2 w3 w4 wc)), (.long (J0_38_S0 p0 q1 q2 q3 q4 q5 w0 w1 w2 w3 w4 wc)), (.ref (A0_22 p0 q1 q2 q3 q4 q5 w0 w1 w2 w3 w4 wc)), (.ref b17), (.ref b17)])) rfl (by rw [hml]; rfl) (Steps.refl _) (a := b17) (argsL := [(.ref (A0_22 p0 q1 q2 q3 q4 q5 w0 w1 w2 w3 w4 wc)), (.long (J0_38_S0 p0 q1 q2 q3 q4 q5 w0 w1 w2 w3 w4 wc)), (.long (J0_55_S0 p0 q1 q2 q3 q4 q5 w0 w1 w2 w3 w4 wc)), (.long (J0_72_S0 p0 q1 q2 q3 q4 q5 w0 w1 w2 w3 w4 wc)), (.int (J0_90_S0 p0 q1 q2 q3 q4 q5 w0 w1 w2 w3 w4 wc)), (.long (J0_109_S0 p0 q1 q2 q3 q4 q5 w0 w1 w2 w3 w4 wc))]) (rest := [(.ref b17)]) (lenOf pd__Lcom_example_grove8_grove8_Context_Mode_JJJIJ_V rfl) rfl (by show 2 * 0 + _ ≤ _; exact Nat.le_of_eq rfl) (hb hby at_179) (fun _ _ => ⟨rfl, e17, (by decide : 4 + 0 ≤ _), (by decide : 17 + 0 ≤ _)⟩)
  dsimp only [Pt.U, Pt.locs, Pt.cells, Pt.slots] at X20 ll20 ly20 lz20 st20 hQ20
  subst ll20 ly20 lz20
  obtain ⟨rfl, N20q, K20c, P20_0, P20_1, P20_2, P20_3, P20_4, P20_5, P20_6⟩ := hQ20
  have N20 := Fr.app N16 N20q
  have K20 : Keep h0 T20.heap [] := K17.trans K20c (allS (Or.inr sz_b17) all0)
  have pre21 : ∀ t, Steps p.tables e below (T20.setTop (mkF m 187 #[.val (.int p0), .val (.long q1), .second, .val (.long q2), .second, .val (.long q3), .second, .val (.long q4), .second, .val (.long q5), .second, .val (.ref (A0_9 p0 q1 q2 q3 q4 q5 w0 w1 w2 w3 w4 wc)), .val (.ref (A0_22 p0 q1 q2 q3 q4 q5 w0 w1 w2 w3 w4 wc)), .val (.int (A0_30 p0 q1 q2 q3 q4 q5 w0 w1 w2 w3 w4 wc)), .val (.long (J0_38_S0 p0 q1 q2 q3 q4 q5 w0 w1 w2 w3 w4 wc)), .second, .val (.long (J0_55_S0 p0 q1 q2 q3 q4 q5 w0 w1 w2 w3 w4 wc)), .second, .val (.long (J0_72_S0 p0 q1 q2 q3 q4 q5 w0 w1 w2 w3 w4 wc)), .second, .val (.int (J0_90_S0 p0 q1 q2 q3 q4 q5 w0 w1 w2 w3 w4 wc)), .val (.long (J0_109_S0 p0 q1 q2 q3 q4 q5 w0 w1 w2 w3 w4 wc)), .second, .val (.int (A0_128 p0 q1 q2 q3 q4 q5 w0 w1 w2 w3 w4 wc)), .val (.ref b13), .val (.ref b14), .val (.ref b17), .unset] [(.int (5 : Int32)), (.int (A0_128 p0 q1 q2 q3 q4 q5 w0 w1 w2 w3 w4 wc))])) t → Steps p.tables e below (s₁.setTop (entryFrame m #[(.int p0), (.long q1), (.long q2), (.long q3), (.long q4), (.long q5)] maxLocals)) t := fun t kt => pre12 t (by
    show Steps p.tables e below (Tj12.setTop (mkF m 119 #[.val (.int p0), .val (.long q1), .second, .val (.long q2), .second, .val (.long q3), .second, .val (.long q4), .second, .val (.long q5), .second, .val (.ref (A0_9 p0 q1 q2 q3 q4 q5 w0 w1 w2 w3 w4 wc)), .val (.ref (A0_22 p0 q1 q2 q3 q4 q5 w0 w1 w2 w3 w4 wc)), .val (.int (A0_30 p0 q1 q2 q3 q4 q5 w0 w1 w2 w3 w4 wc)), .val (.long (J0_38_S0 p0 q1 q2 q3 q4 q5 w0 w1 w2 w3 w4 wc)), .second, .val (.long (J0_55_S0 p0 q1 q2 q3 q4 q5 w0 w1 w2 w3 w4 wc)), .second, .val (.long (J0_72_S0 p0 q1 q2 q3 q4 q5 w0 w1 w2 w3 w4 wc)), .second, .val (.int (J0_90_S0 p0 q1 q2 q3 q4 q5 w0 w1 w2 w3 w4 wc)), .unset, .unset, .unset, .unset, .unset, .unset, .unset] [(.long (J0_109_S0 p0 q1 q2 q3 q4 q5 w0 w1 w2 w3 w4 wc))])) _
    refine XS.lstore Xj12.here hx rfl (hb hby at_119) rfl (l' := #[.val (.int p0), .val (.long q1), .second, .val (.long q2), .second, .val (.long q3), .second, .val (.long q4), .second, .val (.long q5), .second, .val (.ref (A0_9 p0 q1 q2 q3 q4 q5 w0 w1 w2 w3 w4 wc)), .val (.ref (A0_22 p0 q1 q2 q3 q4 q5 w0 w1 w2 w3 w4 wc)), .val (.int (A0_30 p0 q1 q2 q3 q4 q5 w0 w1 w2 w3 w4 wc)), .val (.long (J0_38_S0 p0 q1 q2 q3 q4 q5 w0 w1 w2 w3 w4 wc)), .second, .val (.long (J0_55_S0 p0 q1 q2 q3 q4 q5 w0 w1 w2 w3 w4 wc)), .second, .val (.long (J0_72_S0 p0 q1 q2 q3 q4 q5 w0 w1 w2 w3 w4 wc)), .second, .val (.int (J0_90_S0 p0 q1 q2 q3 q4 q5 w0 w1 w2 w3 w4 wc)), .val (.long (J0_109_S0 p0 q1 q2 q3 q4 q5 w0 w1 w2 w3 w4 wc)), .second, .unset, .unset, .unset, .unset, .unset]) rfl ?_
    show Steps p.tables e below (Tj12.setTop (mkF m 121 #[.val (.int p0), .val (.long q1), .second, .val (.long q2), .second, .val (.long q3), .second, .val (.long q4), .second, .val (.long q5), .second, .val (.ref (A0_9 p0 q1 q2 q3 q4 q5 w0 w1 w2 w3 w4 wc)), .val (.ref (A0_22 p0 q1 q2 q3 q4 q5 w0 w1 w2 w3 w4 wc)), .val (.int (A0_30 p0 q1 q2 q3 q4 q5 w0 w1 w2 w3 w4 wc)), .val (.long (J0_38_S0 p0 q1 q2 q3 q4 q5 w0 w1 w2 w3 w4 wc)), .second, .val (.long (J0_55_S0 p0 q1 q2 q3 q4 q5 w0 w1 w2 w3 w4 wc)), .second, .val (.long (J0_72_S0 p0 q1 q2 q3 q4 q5 w0 w1 w2 w3 w4 wc)), .second, .val (.int (J0_90_S0 p0 q1 q2 q3 q4 q5 w0 w1 w2 w3 w4 wc)), .val (.long (J0_109_S0 p0 q1 q2 q3 q4 q5 w0 w1 w2 w3 w4 wc)), .second, .unset, .unset, .unset, .unset, .unset] [])) _
    refine XS.iloadN Xj12.here hx rfl (hb hby at_121) rfl ?_
    show Steps p.tables e below (Tj12.setTop (mkF m 122 #[.val (.int p0), .val (.long q1), .second, .val (.long q2), .second, .val (.long q3), .second, .val (.long q4), .second, .val (.long q5), .second, .val (.ref (A0_9 p0 q1 q2 q3 q4 q5 w0 w1 w2 w3 w4 wc)), .val (.ref (A0_22 p0 q1 q2 q3 q4 q5 w0 w1 w2 w3 w4 wc)), .val (.int (A0_30 p0 q1 q2 q3 q4 q5 w0 w1 w2 w3 w4 wc)), .val (.long (J0_38_S0 p0 q1 q2 q3 q4 q5 w0 w1 w2 w3 w4 wc)), .second, .val (.long (J0_55_S0 p0 q1 q2 q3 q4 q5 w0 w1 w2 w3 w4 wc)), .second, .val (.long (J0_72_S0 p0 q1 q2 q3 q4 q5 w0 w1 w2 w3 w4 wc)), .second, .val (.int (J0_90_S0 p0 q1 q2 q3 q4 q5 w0 w1 w2 w3 w4 wc)), .val (.long (J0_109_S0 p0 q1 q2 q3 q4 q5 w0 w1 w2 w3 w4 wc)), .second, .unset, .unset, .unset, .unset, .unset] [(.int p0)])) _
    refine XS.bipush Xj12.here hx rfl (hb hby at_122) ?_
    show Steps p.tables e below (Tj12.setTop (mkF m 124 #[.val (.int p0), .val (.long q1), .second, .val (.long q2), .second, .val (.long q3), .second, .val (.long q4), .second, .val (.long q5), .second, .val (.ref (A0_9 p0 q1 q2 q3 q4 q5 w0 w1 w2 w3 w4 wc)), .val (.ref (A0_22 p0 q1 q2 q3 q4 q5 w0 w1 w2 w3 w4 wc)), .val (.int (A0_30 p0 q1 q2 q3 q4 q5 w0 w1 w2 w3 w4 wc)), .val (.long (J0_38_S0 p0 q1 q2 q3 q4 q5 w0 w1 w2 w3 w4 wc)), .second, .val (.long (J0_55_S0 p0 q1 q2 q3 q4 q5 w0 w1 w2 w3 w4 wc)), .second, .val (.long (J0_72_S0 p0 q1 q2 q3 q4 q5 w0 w1 w2 w3 w4 wc)), .second, .val (.int (J0_90_S0 p0 q1 q2 q3 q4 q5 w0 w1 w2 w3 w4 wc)), .val (.long (J0_109_S0 p0 q1 q2 q3 q4 q5 w0 w1 w2 w3 w4 wc)), .second, .unset, .unset, .unset, .unset, .unset] [(.int (11 : Int32)), (.int p0)])) _
    refine XS.iushr Xj12.here hx rfl (hb hby at_124) rfl ?_
    show Steps p.tables e below (Tj12.setTop (mkF m 125 #[.val (.int p0), .val (.long q1), .second, .val (.long q2), .second, .val (.long q3), .second, .val (.long q4), .second, .val (.long q5), .second, .val (.ref (A0_9 p0 q1 q2 q3 q4 q5 w0 w1 w2 w3 w4 wc)), .val (.ref (A0_22 p0 q1 q2 q3 q4 q5 w0 w1 w2 w3 w4 wc)), .val (.int (A0_30 p0 q1 q2 q3 q4 q5 w0 w1 w2 w3 w4 wc)), .val (.long (J0_38_S0 p0 q1 q2 q3 q4 q5 w0 w1 w2 w3 w4 wc)), .second, .val (.long (J0_55_S0 p0 q1 q2 q3 q4 q5 w0 w1 w2 w3 w4 wc)), .second, .val (.long (J0_72_S0 p0 q1 q2 q3 q4 q5 w0 w1 w2 w3 w4 wc)), .second, .val (.int (J0_90_S0 p0 q1 q2 q3 q4 q5 w0 w1 w2 w3 w4 wc)), .val (.long (J0_109_S0 p0 q1 q2 q3 q4 q5 w0 w1 w2 w3 w4 wc)), .second, .unset, .unset, .unset, .unset, .unset] [(.int ((p0.toUInt32 >>> ((11 : Int32) &&& 31).toUInt32).toInt32))])) _
    refine XS.bipush Xj12.here hx rfl (hb hby at_125) ?_
    show Steps p.tables e below (Tj12.setTop (mkF m 127 #[.val (.int p0), .val (.long q1), .second, .val (.long q2), .second, .val (.long q3), .second, .val (.long q4), .second, .val (.long q5), .second, .val (.ref (A0_9 p0 q1 q2 q3 q4 q5 w0 w1 w2 w3 w4 wc)), .val (.ref (A0_22 p0 q1 q2 q3 q4 q5 w0 w1 w2 w3 w4 wc)), .val (.int (A0_30 p0 q1 q2 q3 q4 q5 w0 w1 w2 w3 w4 wc)), .val (.long (J0_38_S0 p0 q1 q2 q3 q4 q5 w0 w1 w2 w3 w4 wc)), .second, .val (.long (J0_55_S0 p0 q1 q2 q3 q4 q5 w0 w1 w2 w3 w4 wc)), .second, .val (.long (J0_72_S0 p0 q1 q2 q3 q4 q5 w0 w1 w2 w3 w4 wc)), .second, .val (.int (J0_90_S0 p0 q1 q2 q3 q4 q5 w0 w1 w2 w3 w4 wc)), .val (.long (J0_109_S0 p0 q1 q2 q3 q4 q5 w0 w1 w2 w3 w4 wc)), .second, .unset, .unset, .unset, .unset, .unset] [(.int (7 : Int32)), (.int ((p0.toUInt32 >>> ((11 : Int32) &&& 31).toUInt32).toInt32))])) _
    refine XS.iand Xj12.here hx rfl (hb hby at_127) rfl ?_
    show Steps p.tables e below (Tj12.setTop (mkF m 128 #[.val (.int p0), .val (.long q1), .second, .val (.long q2), .second, .val (.long q3), .second, .val (.long q4), .second, .val (.long q5), .second, .val (.ref (A0_9 p0 q1 q2 q3 q4 q5 w0 w1 w2 w3 w4 wc)), .val (.ref (A0_22 p0 q1 q2 q3 q4 q5 w0 w1 w2 w3 w4 wc)), .val (.int (A0_30 p0 q1 q2 q3 q4 q5 w0 w1 w2 w3 w4 wc)), .val (.long (J0_38_S0 p0 q1 q2 q3 q4 q5 w0 w1 w2 w3 w4 wc)), .second, .val (.long (J0_55_S0 p0 q1 q2 q3 q4 q5 w0 w1 w2 w3 w4 wc)), .second, .val (.long (J0_72_S0 p0 q1 q2 q3 q4 q5 w0 w1 w2 w3 w4 wc)), .second, .val (.int (J0_90_S0 p0 q1 q2 q3 q4 q5 w0 w1 w2 w3 w4 wc)), .val (.long (J0_109_S0 p0 q1 q2 q3 q4 q5 w0 w1 w2 w3 w4 wc)), .second, .unset, .unset, .unset, .unset, .unset] [(.int (((p0.toUInt32 >>> ((11 : Int32) &&& 31).toUInt32).toInt32) &&& (7 : Int32)))])) _
    refine XS.istore Xj12.here hx rfl (hb hby at_128) rfl (l' := #[.val (.int p0), .val (.long q1), .second, .val (.long q2), .second, .val (.long q3), .second, .val (.long q4), .second, .val (.long q5), .second, .val (.ref (A0_9 p0 q1 q2 q3 q4 q5 w0 w1 w2 w3 w4 wc)), .val (.ref (A0_22 p0 q1 q2 q3 q4 q5 w0 w1 w2 w3 w4 wc)), .val (.int (A0_30 p0 q1 q2 q3 q4 q5 w0 w1 w2 w3 w4 wc)), .val (.long (J0_38_S0 p0 q1 q2 q3 q4 q5 w0 w1 w2 w3 w4 wc)), .second, .val (.long (J0_55_S0 p0 q1 q2 q3 q4 q5 w0 w1 w2 w3 w4 wc)), .second, .val (.long (J0_72_S0 p0 q1 q2 q3 q4 q5 w0 w1 w2 w3 w4 wc)), .second, .val (.int (J0_90_S0 p0 q1 q2 q3 q4 q5 w0 w1 w2 w3 w4 wc)), .val (.long (J0_109_S0 p0 q1 q2 q3 q4 q5 w0 w1 w2 w3 w4 wc)), .second, .val (.int (((p0.toUInt32 >>> ((11 : Int32) &&& 31).toUInt32).toInt32) &&& (7 : Int32))), .unset, .unset, .unset, .unset]) rfl ?_
    show Steps p.tables e below (Tj12.setTop (mkF m 130 #[.val (.int p0), .val (.long q1), .second, .val (.long q2), .second, .val (.long q3), .second, .val (.long q4), .second, .val (.long q5), .second, .val (.ref (A0_9 p0 q1 q2 q3 q4 q5 w0 w1 w2 w3 w4 wc)), .val (.ref (A0_22 p0 q1 q2 q3 q4 q5 w0 w1 w2 w3 w4 wc)), .val (.int (A0_30 p0 q1 q2 q3 q4 q5 w0 w1 w2 w3 w4 wc)), .val (.long (J0_38_S0 p0 q1 q2 q3 q4 q5 w0 w1 w2 w3 w4 wc)), .second, .val (.long (J0_55_S0 p0 q1 q2 q3 q4 q5 w0 w1 w2 w3 w4 wc)), .second, .val (.long (J0_72_S0 p0 q1 q2 q3 q4 q5 w0 w1 w2 w3 w4 wc)), .second, .val (.int (J0_90_S0 p0 q1 q2 q3 q4 q5 w0 w1 w2 w3 w4 wc)), .val (.long (J0_109_S0 p0 q1 q2 q3 q4 q5 w0 w1 w2 w3 w4 wc)), .second, .val (.int (A0_128 p0 q1 q2 q3 q4 q5 w0 w1 w2 w3 w4 wc)), .unset, .unset, .unset, .unset] [])) _
    refine XS.iloadN Xj12.here hx rfl (hb hby at_130) rfl ?_
    show Steps p.tables e below (Tj12.setTop (mkF m 131 #[.val (.int p0), .val (.long q1), .second, .val (.long q2), .second, .val (.long q3), .second, .val (.long q4), .second, .val (.long q5), .second, .val (.ref (A0_9 p0 q1 q2 q3 q4 q5 w0 w1 w2 w3 w4 wc)), .val (.ref (A0_22 p0 q1 q2 q3 q4 q5 w0 w1 w2 w3 w4 wc)), .val (.int (A0_30 p0 q1 q2 q3 q4 q5 w0 w1 w2 w3 w4 wc)), .val (.long (J0_38_S0 p0 q1 q2 q3 q4 q5 w0 w1 w2 w3 w4 wc)), .second, .val (.long (J0_55_S0 p0 q1 q2 q3 q4 q5 w0 w1 w2 w3 w4 wc)), .second, .val (.long (J0_72_S0 p0 q1 q2 q3 q4 q5 w0 w1 w2 w3 w4 wc)), .second, .val (.int (J0_90_S0 p0 q1 q2 q3 q4 q5 w0 w1 w2 w3 w4 wc)), .val (.long (J0_109_S0 p0 q1 q2 q3 q4 q5 w0 w1 w2 w3 w4 wc)), .second, .val (.int (A0_128 p0 q1 q2 q3 q4 q5 w0 w1 w2 w3 w4 wc)), .unset, .unset, .unset, .unset] [(.int p0)])) _
    refine XS.bipush Xj12.here hx rfl (hb hby at_131) ?_
    show Steps p.tables e below (Tj12.setTop (mkF m 133 #[.val (.int p0), .val (.long q1), .second, .val (.long q2), .second, .val (.long q3), .second, .val (.long q4), .second, .val (.long q5), .second, .val (.ref (A0_9 p0 q1 q2 q3 q4 q5 w0 w1 w2 w3 w4 wc)), .val (.ref (A0_22 p0 q1 q2 q3 q4 q5 w0 w1 w2 w3 w4 wc)), .val (.int (A0_30 p0 q1 q2 q3 q4 q5 w0 w1 w2 w3 w4 wc)), .val (.long (J0_38_S0 p0 q1 q2 q3 q4 q5 w0 w1 w2 w3 w4 wc)), .second, .val (.long (J0_55_S0 p0 q1 q2 q3 q4 q5 w0 w1 w2 w3 w4 wc)), .second, .val (.long (J0_72_S0 p0 q1 q2 q3 q4 q5 w0 w1 w2 w3 w4 wc)), .second, .val (.int (J0_90_S0 p0 q1 q2 q3 q4 q5 w0 w1 w2 w3 w4 wc)), .val (.long (J0_109_S0 p0 q1 q2 q3 q4 q5 w0 w1 w2 w3 w4 wc)), .second, .val (.int (A0_128 p0 q1 q2 q3 q4 q5 w0 w1 w2 w3 w4 wc)), .unset, .unset, .unset, .unset] [(.int (16 : Int32)), (.int p0)])) _
    refine XS.iushr Xj12.here hx rfl (hb hby at_133) rfl ?_
    show Steps p.tables e below (Tj12.setTop (mkF m 134 #[.val (.int p0), .val (.long q1), .second, .val (.long q2), .second, .val (.long q3), .second, .val (.long q4), .second, .val (.long q5), .second, .val (.ref (A0_9 p0 q1 q2 q3 q4 q5 w0 w1 w2 w3 w4 wc)), .val (.ref (A0_22 p0 q1 q2 q3 q4 q5 w0 w1 w2 w3 w4 wc)), .val (.int (A0_30 p0 q1 q2 q3 q4 q5 w0 w1 w2 w3 w4 wc)), .val (.long (J0_38_S0 p0 q1 q2 q3 q4 q5 w0 w1 w2 w3 w4 wc)), .second, .val (.long (J0_55_S0 p0 q1 q2 q3 q4 q5 w0 w1 w2 w3 w4 wc)), .second, .val (.long (J0_72_S0 p0 q1 q2 q3 q4 q5 w0 w1 w2 w3 w4 wc)), .second, .val (.int (J0_90_S0 p0 q1 q2 q3 q4 q5 w0 w1 w2 w3 w4 wc)), .val (.long (J0_109_S0 p0 q1 q2 q3 q4 q5 w0 w1 w2 w3 w4 wc)), .second, .val (.int (A0_128 p0 q1 q2 q3 q4 q5 w0 w1 w2 w3 w4 wc)), .unset, .unset, .unset, .unset] [(.int ((p0.toUInt32 >>> ((16 : Int32) &&& 31).toUInt32).toInt32))])) _
    refine XS.sipush Xj12.here hx rfl (hb hby at_134) ?_
    show Steps p.tables e below (Tj12.setTop (mkF m 137 #[.val (.int p0), .val (.long q1), .second, .val (.long q2), .second, .val (.long q3), .second, .val (.long q4), .second, .val (.long q5), .second, .val (.ref (A0_9 p0 q1 q2 q3 q4 q5 w0 w1 w2 w3 w4 wc)), .val (.ref (A0_22 p0 q1 q2 q3 q4 q5 w0 w1 w2 w3 w4 wc)), .val (.int (A0_30 p0 q1 q2 q3 q4 q5 w0 w1 w2 w3 w4 wc)), .val (.long (J0_38_S0 p0 q1 q2 q3 q4 q5 w0 w1 w2 w3 w4 wc)), .second, .val (.long (J0_55_S0 p0 q1 q2 q3 q4 q5 w0 w1 w2 w3 w4 wc)), .second, .val (.long (J0_72_S0 p0 q1 q2 q3 q4 q5 w0 w1 w2 w3 w4 wc)), .second, .val (.int (J0_90_S0 p0 q1 q2 q3 q4 q5 w0 w1 w2 w3 w4 wc)), .val (.long (J0_109_S0 p0 q1 q2 q3 q4 q5 w0 w1 w2 w3 w4 wc)), .second, .val (.int (A0_128 p0 q1 q2 q3 q4 q5 w0 w1 w2 w3 w4 wc)), .unset, .unset, .unset, .unset] [(.int (255 : Int32)), (.int ((p0.toUInt32 >>> ((16 : Int32) &&& 31).toUInt32).toInt32))])) _
    refine XS.iand Xj12.here hx rfl (hb hby at_137) rfl ?_
    show Steps p.tables e below (Tj12.setTop (mkF m 138 #[.val (.int p0), .val (.long q1), .second, .val (.long q2), .second, .val (.long q3), .second, .val (.long q4), .second, .val (.long q5), .second, .val (.ref (A0_9 p0 q1 q2 q3 q4 q5 w0 w1 w2 w3 w4 wc)), .val (.ref (A0_22 p0 q1 q2 q3 q4 q5 w0 w1 w2 w3 w4 wc)), .val (.int (A0_30 p0 q1 q2 q3 q4 q5 w0 w1 w2 w3 w4 wc)), .val (.long (J0_38_S0 p0 q1 q2 q3 q4 q5 w0 w1 w2 w3 w4 wc)), .second, .val (.long (J0_55_S0 p0 q1 q2 q3 q4 q5 w0 w1 w2 w3 w4 wc)), .second, .val (.long (J0_72_S0 p0 q1 q2 q3 q4 q5 w0 w1 w2 w3 w4 wc)), .second, .val (.int (J0_90_S0 p0 q1 q2 q3 q4 q5 w0 w1 w2 w3 w4 wc)), .val (.long (J0_109_S0 p0 q1 q2 q3 q4 q5 w0 w1 w2 w3 w4 wc)), .second, .val (.int (A0_128 p0 q1 q2 q3 q4 q5 w0 w1 w2 w3 w4 wc)), .unset, .unset, .unset, .unset] [(.int (((p0.toUInt32 >>> ((16 : Int32) &&& 31).toUInt32).toInt32) &&& (255 : Int32)))])) _
    refine XS.i2c Xj12.here hx rfl (hb hby at_138) rfl ?_
    show Steps p.tables e below (Tj12.setTop (mkF m 139 #[.val (.int p0), .val (.long q1), .second, .val (.long q2), .second, .val (.long q3), .second, .val (.long q4), .second, .val (.long q5), .second, .val (.ref (A0_9 p0 q1 q2 q3 q4 q5 w0 w1 w2 w3 w4 wc)), .val (.ref (A0_22 p0 q1 q2 q3 q4 q5 w0 w1 w2 w3 w4 wc)), .val (.int (A0_30 p0 q1 q2 q3 q4 q5 w0 w1 w2 w3 w4 wc)), .val (.long (J0_38_S0 p0 q1 q2 q3 q4 q5 w0 w1 w2 w3 w4 wc)), .second, .val (.long (J0_55_S0 p0 q1 q2 q3 q4 q5 w0 w1 w2 w3 w4 wc)), .second, .val (.long (J0_72_S0 p0 q1 q2 q3 q4 q5 w0 w1 w2 w3 w4 wc)), .second, .val (.int (J0_90_S0 p0 q1 q2 q3 q4 q5 w0 w1 w2 w3 w4 wc)), .val (.long (J0_109_S0 p0 q1 q2 q3 q4 q5 w0 w1 w2 w3 w4 wc)), .second, .val (.int (A0_128 p0 q1 q2 q3 q4 q5 w0 w1 w2 w3 w4 wc)), .unset, .unset, .unset, .unset] [(.int ((((p0.toUInt32 >>> ((16 : Int32) &&& 31).toUInt32).toInt32) &&& (255 : Int32)).toUInt32.toUInt16.toUInt32.toInt32))])) _
    refine st13 _ ?_
    show Steps p.tables e below (T13.setTop (mkF m 142 #[.val (.int p0), .val (.long q1), .second, .val (.long q2), .second, .val (.long q3), .second, .val (.long q4), .second, .val (.long q5), .second, .val (.ref (A0_9 p0 q1 q2 q3 q4 q5 w0 w1 w2 w3 w4 wc)), .val (.ref (A0_22 p0 q1 q2 q3 q4 q5 w0 w1 w2 w3 w4 wc)), .val (.int (A0_30 p0 q1 q2 q3 q4 q5 w0 w1 w2 w3 w4 wc)), .val (.long (J0_38_S0 p0 q1 q2 q3 q4 q5 w0 w1 w2 w3 w4 wc)), .second, .val (.long (J0_55_S0 p0 q1 q2 q3 q4 q5 w0 w1 w2 w3 w4 wc)), .second, .val (.long (J0_72_S0 p0 q1 q2 q3 q4 q5 w0 w1 w2 w3 w4 wc)), .second, .val (.int (J0_90_S0 p0 q1 q2 q3 q4 q5 w0 w1 w2 w3 w4 wc)), .val (.long (J0_109_S0 p0 q1 q2 q3 q4 q5 w0 w1 w2 w3 w4 wc)), .second, .val (.int (A0_128 p0 q1 q2 q3 q4 q5 w0 w1 w2 w3 w4 wc)), .unset, .unset, .unset, .unset] [(.ref b13)])) _
    refine XS.astore X13.here hx rfl (hb hby at_142) rfl rfl (l' := #[.val (.int p0), .val (.long q1), .second, .val (.long q2), .second, .val (.long q3), .second, .val (.long q4), .second, .val (.long q5), .second, .val (.ref (A0_9 p0 q1 q2 q3 q4 q5 w0 w1 w2 w3 w4 wc)), .val (.ref (A0_22 p0 q1 q2 q3 q4 q5 w0 w1 w2 w3 w4 wc)), .val (.int (A0_30 p0 q1 q2 q3 q4 q5 w0 w1 w2 w3 w4 wc)), .val (.long (J0_38_S0 p0 q1 q2 q3 q4 q5 w0 w1 w2 w3 w4 wc)), .second, .val (.long (J0_55_S0 p0 q1 q2 q3 q4 q5 w0 w1 w2 w3 w4 wc)), .second, .val (.long (J0_72_S0 p0 q1 q2 q3 q4 q5 w0 w1 w2 w3 w4 wc)), .second, .val (.int (J0_90_S0 p0 q1 q2 q3 q4 q5 w0 w1 w2 w3 w4 wc)), .val (.long (J0_109_S0 p0 q1 q2 q3 q4 q5 w0 w1 w2 w3 w4 wc)), .second, .val (.int (A0_128 p0 q1 q2 q3 q4 q5 w0 w1 w2 w3 w4 wc)), .val (.ref b13), .unset, .unset, .unset]) rfl ?_
    show Steps p.tables e below (T13.setTop (mkF m 144 #[.val (.int p0), .val (.long q1), .second, .val (.long q2), .second, .val (.long q3), .second, .val (.long q4), .second, .val (.long q5), .second, .val (.ref (A0_9 p0 q1 q2 q3 q4 q5 w0 w1 w2 w3 w4 wc)), .val (.ref (A0_22 p0 q1 q2 q3 q4 q5 w0 w1 w2 w3 w4 wc)), .val (.int (A0_30 p0 q1 q2 q3 q4 q5 w0 w1 w2 w3 w4 wc)), .val (.long (J0_38_S0 p0 q1 q2 q3 q4 q5 w0 w1 w2 w3 w4 wc)), .second, .val (.long (J0_55_S0 p0 q1 q2 q3 q4 q5 w0 w1 w2 w3 w4 wc)), .second, .val (.long (J0_72_S0 p0 q1 q2 q3 q4 q5 w0 w1 w2 w3 w4 wc)), .second, .val (.int (J0_90_S0 p0 q1 q2 q3 q4 q5 w0 w1 w2 w3 w4 wc)), .val (.long (J0_109_S0 p0 q1 q2 q3 q4 q5 w0 w1 w2 w3 w4 wc)), .second, .val (.int (A0_128 p0 q1 q2 q3 q4 q5 w0 w1 w2 w3 w4 wc)), .val (.ref b13), .unset, .unset, .unset] [])) _
    refine st14 _ ?_
    show Steps p.tables e below (T14.setTop (mkF m 147 #[.val (.int p0), .val (.long q1), .second, .val (.long q2), .second, .val (.long q3), .second, .val (.long q4), .second, .val (.long q5), .second, .val (.ref (A0_9 p0 q1 q2 q3 q4 q5 w0 w1 w2 w3 w4 wc)), .val (.ref (A0_22 p0 q1 q2 q3 q4 q5 w0 w1 w2 w3 w4 wc)), .val (.int (A0_30 p0 q1 q2 q3 q4 q5 w0 w1 w2 w3 w4 wc)), .val (.long (J0_38_S0 p0 q1 q2 q3 q4 q5 w0 w1 w2 w3 w4 wc)), .second, .val (.long (J0_55_S0 p0 q1 q2 q3 q4 q5 w0 w1 w2 w3 w4 wc)), .second, .val (.long (J0_72_S0 p0 q1 q2 q3 q4 q5 w0 w1 w2 w3 w4 wc)), .second, .val (.int (J0_90_S0 p0 q1 q2 q3 q4 q5 w0 w1 w2 w3 w4 wc)), .val (.long (J0_109_S0 p0 q1 q2 q3 q4 q5 w0 w1 w2 w3 w4 wc)), .second, .val (.int (A0_128 p0 q1 q2 q3 q4 q5 w0 w1 w2 w3 w4 wc)), .val (.ref b13), .unset, .unset, .unset] [(.ref b14)])) _
    refine XS.dup X14.here hx rfl (hb hby at_147) rfl rfl ?_
    show Steps p.tables e below (T14.setTop (mkF m 148 #[.val (.int p0), .val (.long q1), .second, .val (.long q2), .second, .val (.long q3), .second, .val (.long q4), .second, .val (.long q5), .second, .val (.ref (A0_9 p0 q1 q2 q3 q4 q5 w0 w1 w2 w3 w4 wc)), .val (.ref (A0_22 p0 q1 q2 q3 q4 q5 w0 w1 w2 w3 w4 wc)), .val (.int (A0_30 p0 q1 q2 q3 q4 q5 w0 w1 w2 w3 w4 wc)), .val (.long (J0_38_S0 p0 q1 q2 q3 q4 q5 w0 w1 w2 w3 w4 wc)), .second, .val (.long (J0_55_S0 p0 q1 q2 q3 q4 q5 w0 w1 w2 w3 w4 wc)), .second, .val (.long (J0_72_S0 p0 q1 q2 q3 q4 q5 w0 w1 w2 w3 w4 wc)), .second, .val (.int (J0_90_S0 p0 q1 q2 q3 q4 q5 w0 w1 w2 w3 w4 wc)), .val (.long (J0_109_S0 p0 q1 q2 q3 q4 q5 w0 w1 w2 w3 w4 wc)), .second, .val (.int (A0_128 p0 q1 q2 q3 q4 q5 w0 w1 w2 w3 w4 wc)), .val (.ref b13), .unset, .unset, .unset] [(.ref b14), (.ref b14)])) _
    refine XS.aload X14.here hx rfl (hb hby at_148) rfl rfl ?_
    show Steps p.tables e below (T14.setTop (mkF m 150 #[.val (.int p0), .val (.long q1), .second, .val (.long q2), .second, .val (.long q3), .second, .val (.long q4), .second, .val (.long q5), .second, .val (.ref (A0_9 p0 q1 q2 q3 q4 q5 w0 w1 w2 w3 w4 wc)), .val (.ref (A0_22 p0 q1 q2 q3 q4 q5 w0 w1 w2 w3 w4 wc)), .val (.int (A0_30 p0 q1 q2 q3 q4 q5 w0 w1 w2 w3 w4 wc)), .val (.long (J0_38_S0 p0 q1 q2 q3 q4 q5 w0 w1 w2 w3 w4 wc)), .second, .val (.long (J0_55_S0 p0 q1 q2 q3 q4 q5 w0 w1 w2 w3 w4 wc)), .second, .val (.long (J0_72_S0 p0 q1 q2 q3 q4 q5 w0 w1 w2 w3 w4 wc)), .second, .val (.int (J0_90_S0 p0 q1 q2 q3 q4 q5 w0 w1 w2 w3 w4 wc)), .val (.long (J0_109_S0 p0 q1 q2 q3 q4 q5 w0 w1 w2 w3 w4 wc)), .second, .val (.int (A0_128 p0 q1 q2 q3 q4 q5 w0 w1 w2 w3 w4 wc)), .val (.ref b13), .unset, .unset, .unset] [(.ref (A0_9 p0 q1 q2 q3 q4 q5 w0 w1 w2 w3 w4 wc)), (.ref b14), (.ref b14)])) _
    refine XS.lloadN X14.here hx rfl (hb hby at_150) rfl ?_
    show Steps p.tables e below (T14.setTop (mkF m 151 #[.val (.int p0), .val (.long q1), .second, .val (.long q2), .second, .val (.long q3), .second, .val (.long q4), .second, .val (.long q5), .second, .val (.ref (A0_9 p0 q1 q2 q3 q4 q5 w0 w1 w2 w3 w4 wc)), .val (.ref (A0_22 p0 q1 q2 q3 q4 q5 w0 w1 w2 w3 w4 wc)), .val (.int (A0_30 p0 q1 q2 q3 q4 q5 w0 w1 w2 w3 w4 wc)), .val (.long (J0_38_S0 p0 q1 q2 q3 q4 q5 w0 w1 w2 w3 w4 wc)), .second, .val (.long (J0_55_S0 p0 q1 q2 q3 q4 q5 w0 w1 w2 w3 w4 wc)), .second, .val (.long (J0_72_S0 p0 q1 q2 q3 q4 q5 w0 w1 w2 w3 w4 wc)), .second, .val (.int (J0_90_S0 p0 q1 q2 q3 q4 q5 w0 w1 w2 w3 w4 wc)), .val (.long (J0_109_S0 p0 q1 q2 q3 q4 q5 w0 w1 w2 w3 w4 wc)), .second, .val (.int (A0_128 p0 q1 q2 q3 q4 q5 w0 w1 w2 w3 w4 wc)), .val (.ref b13), .unset, .unset, .unset] [(.long q1), (.ref (A0_9 p0 q1 q2 q3 q4 q5 w0 w1 w2 w3 w4 wc)), (.ref b14), (.ref b14)])) _
    refine XS.lloadN X14.here hx rfl (hb hby at_151) rfl ?_
    show Steps p.tables e below (T14.setTop (mkF m 152 #[.val (.int p0), .val (.long q1), .second, .val (.long q2), .second, .val (.long q3), .second, .val (.long q4), .second, .val (.long q5), .second, .val (.ref (A0_9 p0 q1 q2 q3 q4 q5 w0 w1 w2 w3 w4 wc)), .val (.ref (A0_22 p0 q1 q2 q3 q4 q5 w0 w1 w2 w3 w4 wc)), .val (.int (A0_30 p0 q1 q2 q3 q4 q5 w0 w1 w2 w3 w4 wc)), .val (.long (J0_38_S0 p0 q1 q2 q3 q4 q5 w0 w1 w2 w3 w4 wc)), .second, .val (.long (J0_55_S0 p0 q1 q2 q3 q4 q5 w0 w1 w2 w3 w4 wc)), .second, .val (.long (J0_72_S0 p0 q1 q2 q3 q4 q5 w0 w1 w2 w3 w4 wc)), .second, .val (.int (J0_90_S0 p0 q1 q2 q3 q4 q5 w0 w1 w2 w3 w4 wc)), .val (.long (J0_109_S0 p0 q1 q2 q3 q4 q5 w0 w1 w2 w3 w4 wc)), .second, .val (.int (A0_128 p0 q1 q2 q3 q4 q5 w0 w1 w2 w3 w4 wc)), .val (.ref b13), .unset, .unset, .unset] [(.long q2), (.long q1), (.ref (A0_9 p0 q1 q2 q3 q4 q5 w0 w1 w2 w3 w4 wc)), (.ref b14), (.ref b14)])) _
    refine XS.lload X14.here hx rfl (hb hby at_152) rfl ?_
    show Steps p.tables e below (T14.setTop (mkF m 154 #[.val (.int p0), .val (.long q1), .second, .val (.long q2), .second, .val (.long q3), .second, .val (.long q4), .second, .val (.long q5), .second, .val (.ref (A0_9 p0 q1 q2 q3 q4 q5 w0 w1 w2 w3 w4 wc)), .val (.ref (A0_22 p0 q1 q2 q3 q4 q5 w0 w1 w2 w3 w4 wc)), .val (.int (A0_30 p0 q1 q2 q3 q4 q5 w0 w1 w2 w3 w4 wc)), .val (.long (J0_38_S0 p0 q1 q2 q3 q4 q5 w0 w1 w2 w3 w4 wc)), .second, .val (.long (J0_55_S0 p0 q1 q2 q3 q4 q5 w0 w1 w2 w3 w4 wc)), .second, .val (.long (J0_72_S0 p0 q1 q2 q3 q4 q5 w0 w1 w2 w3 w4 wc)), .second, .val (.int (J0_90_S0 p0 q1 q2 q3 q4 q5 w0 w1 w2 w3 w4 wc)), .val (.long (J0_109_S0 p0 q1 q2 q3 q4 q5 w0 w1 w2 w3 w4 wc)), .second, .val (.int (A0_128 p0 q1 q2 q3 q4 q5 w0 w1 w2 w3 w4 wc)), .val (.ref b13), .unset, .unset, .unset] [(.long q3), (.long q2), (.long q1), (.ref (A0_9 p0 q1 q2 q3 q4 q5 w0 w1 w2 w3 w4 wc)), (.ref b14), (.ref b14)])) _
    refine XS.iload X14.here hx rfl (hb hby at_154) rfl ?_
    show Steps p.tables e below (T14.setTop (mkF m 156 #[.val (.int p0), .val (.long q1), .second, .val (.long q2), .second, .val (.long q3), .second, .val (.long q4), .second, .val (.long q5), .second, .val (.ref (A0_9 p0 q1 q2 q3 q4 q5 w0 w1 w2 w3 w4 wc)), .val (.ref (A0_22 p0 q1 q2 q3 q4 q5 w0 w1 w2 w3 w4 wc)), .val (.int (A0_30 p0 q1 q2 q3 q4 q5 w0 w1 w2 w3 w4 wc)), .val (.long (J0_38_S0 p0 q1 q2 q3 q4 q5 w0 w1 w2 w3 w4 wc)), .second, .val (.long (J0_55_S0 p0 q1 q2 q3 q4 q5 w0 w1 w2 w3 w4 wc)), .second, .val (.long (J0_72_S0 p0 q1 q2 q3 q4 q5 w0 w1 w2 w3 w4 wc)), .second, .val (.int (J0_90_S0 p0 q1 q2 q3 q4 q5 w0 w1 w2 w3 w4 wc)), .val (.long (J0_109_S0 p0 q1 q2 q3 q4 q5 w0 w1 w2 w3 w4 wc)), .second, .val (.int (A0_128 p0 q1 q2 q3 q4 q5 w0 w1 w2 w3 w4 wc)), .val (.ref b13), .unset, .unset, .unset] [(.int (A0_30 p0 q1 q2 q3 q4 q5 w0 w1 w2 w3 w4 wc)), (.long q3), (.long q2), (.long q1), (.ref (A0_9 p0 q1 q2 q3 q4 q5 w0 w1 w2 w3 w4 wc)), (.ref b14), (.ref b14)])) _
    refine XS.lload X14.here hx rfl (hb hby at_156) rfl ?_
    show Steps p.tables e below (T14.setTop (mkF m 158 #[.val (.int p0), .val (.long q1), .second, .val (.long q2), .second, .val (.long q3), .second, .val (.long q4), .second, .val (.long q5), .second, .val (.ref (A0_9 p0 q1 q2 q3 q4 q5 w0 w1 w2 w3 w4 wc)), .val (.ref (A0_22 p0 q1 q2 q3 q4 q5 w0 w1 w2 w3 w4 wc)), .val (.int (A0_30 p0 q1 q2 q3 q4 q5 w0 w1 w2 w3 w4 wc)), .val (.long (J0_38_S0 p0 q1 q2 q3 q4 q5 w0 w1 w2 w3 w4 wc)), .second, .val (.long (J0_55_S0 p0 q1 q2 q3 q4 q5 w0 w1 w2 w3 w4 wc)), .second, .val (.long (J0_72_S0 p0 q1 q2 q3 q4 q5 w0 w1 w2 w3 w4 wc)), .second, .val (.int (J0_90_S0 p0 q1 q2 q3 q4 q5 w0 w1 w2 w3 w4 wc)), .val (.long (J0_109_S0 p0 q1 q2 q3 q4 q5 w0 w1 w2 w3 w4 wc)), .second, .val (.int (A0_128 p0 q1 q2 q3 q4 q5 w0 w1 w2 w3 w4 wc)), .val (.ref b13), .unset, .unset, .unset] [(.long q4), (.int (A0_30 p0 q1 q2 q3 q4 q5 w0 w1 w2 w3 w4 wc)), (.long q3), (.long q2), (.long q1), (.ref (A0_9 p0 q1 q2 q3 q4 q5 w0 w1 w2 w3 w4 wc)), (.ref b14), (.ref b14)])) _
    refine st16.trans ?_
    show Steps p.tables e below (T16.setTop (mkF m 161 #[.val (.int p0), .val (.long q1), .second, .val (.long q2), .second, .val (.long q3), .second, .val (.long q4), .second, .val (.long q5), .second, .val (.ref (A0_9 p0 q1 q2 q3 q4 q5 w0 w1 w2 w3 w4 wc)), .val (.ref (A0_22 p0 q1 q2 q3 q4 q5 w0 w1 w2 w3 w4 wc)), .val (.int (A0_30 p0 q1 q2 q3 q4 q5 w0 w1 w2 w3 w4 wc)), .val (.long (J0_38_S0 p0 q1 q2 q3 q4 q5 w0 w1 w2 w3 w4 wc)), .second, .val (.long (J0_55_S0 p0 q1 q2 q3 q4 q5 w0 w1 w2 w3 w4 wc)), .second, .val (.long (J0_72_S0 p0 q1 q2 q3 q4 q5 w0 w1 w2 w3 w4 wc)), .second, .val (.int (J0_90_S0 p0 q1 q2 q3 q4 q5 w0 w1 w2 w3 w4 wc)), .val (.long (J0_109_S0 p0 q1 q2 q3 q4 q5 w0 w1 w2 w3 w4 wc)), .second, .val (.int (A0_128 p0 q1 q2 q3 q4 q5 w0 w1 w2 w3 w4 wc)), .val (.ref b13), .unset, .unset, .unset] [(.ref b14)])) _
    refine XS.astore X16.here hx rfl (hb hby at_161) rfl rfl (l' := #[.val (.int p0), .val (.long q1), .second, .val (.long q2), .second, .val (.long q3), .second, .val (.long q4), .second, .val (.long q5), .second, .val (.ref (A0_9 p0 q1 q2 q3 q4 q5 w0 w1 w2 w3 w4 wc)), .val (.ref (A0_22 p0 q1 q2 q3 q4 q5 w0 w1 w2 w3 w4 wc)), .val (.int (A0_30 p0 q1 q2 q3 q4 q5 w0 w1 w2 w3 w4 wc)), .val (.long (J0_38_S0 p0 q1 q2 q3 q4 q5 w0 w1 w2 w3 w4 wc)), .second, .val (.long (J0_55_S0 p0 q1 q2 q3 q4 q5 w0 w1 w2 w3 w4 wc)), .second, .val (.long (J0_72_S0 p0 q1 q2 q3 q4 q5 w0 w1 w2 w3 w4 wc)), .second, .val (.int (J0_90_S0 p0 q1 q2 q3 q4 q5 w0 w1 w2 w3 w4 wc)), .val (.long (J0_109_S0 p0 q1 q2 q3 q4 q5 w0 w1 w2 w3 w4 wc)), .second, .val (.int (A0_128 p0 q1 q2 q3 q4 q5 w0 w1 w2 w3 w4 wc)), .val (.ref b13), .val (.ref b14), .unset, .unset]) rfl ?_
    show Steps p.tables e below (T16.setTop (mkF m 163 #[.val (.int p0), .val (.long q1), .second, .val (.long q2), .second, .val (.long q3), .second, .val (.long q4), .second, .val (.long q5), .second, .val (.ref (A0_9 p0 q1 q2 q3 q4 q5 w0 w1 w2 w3 w4 wc)), .val (.ref (A0_22 p0 q1 q2 q3 q4 q5 w0 w1 w2 w3 w4 wc)), .val (.int (A0_30 p0 q1 q2 q3 q4 q5 w0 w1 w2 w3 w4 wc)), .val (.long (J0_38_S0 p0 q1 q2 q3 q4 q5 w0 w1 w2 w3 w4 wc)), .second, .val (.long (J0_55_S0 p0 q1 q2 q3 q4 q5 w0 w1 w2 w3 w4 wc)), .second, .val (.long (J0_72_S0 p0 q1 q2 q3 q4 q5 w0 w1 w2 w3 w4 wc)), .second, .val (.int (J0_90_S0 p0 q1 q2 q3 q4 q5 w0 w1 w2 w3 w4 wc)), .val (.long (J0_109_S0 p0 q1 q2 q3 q4 q5 w0 w1 w2 w3 w4 wc)), .second, .val (.int (A0_128 p0 q1 q2 q3 q4 q5 w0 w1 w2 w3 w4 wc)), .val (.ref b13), .val (.ref b14), .unset, .unset] [])) _
    refine st17 _ ?_
    show Steps p.tables e below (T17.setTop (mkF m 166 #[.val (.int p0), .val (.long q1), .second, .val (.long q2), .second, .val (.long q3), .second, .val (.long q4), .second, .val (.long q5), .second, .val (.ref (A0_9 p0 q1 q2 q3 q4 q5 w0 w1 w2 w3 w4 wc)), .val (.ref (A0_22 p0 q1 q2 q3 q4 q5 w0 w1 w2 w3 w4 wc)), .val (.int (A0_30 p0 q1 q2 q3 q4 q5 w0 w1 w2 w3 w4 wc)), .val (.long (J0_38_S0 p0 q1 q2 q3 q4 q5 w0 w1 w2 w3 w4 wc)), .second, .val (.long (J0_55_S0 p0 q1 q2 q3 q4 q5 w0 w1 w2 w3 w4 wc)), .second, .val (.long (J0_72_S0 p0 q1 q2 q3 q4 q5 w0 w1 w2 w3 w4 wc)), .second, .val (.int (J0_90_S0 p0 q1 q2 q3 q4 q5 w0 w1 w2 w3 w4 wc)), .val (.long (J0_109_S0 p0 q1 q2 q3 q4 q5 w0 w1 w2 w3 w4 wc)), .second, .val (.int (A0_128 p0 q1 q2 q3 q4 q5 w0 w1 w2 w3 w4 wc)), .val (.ref b13), .val (.ref b14), .unset, .unset] [(.ref b17)])) _
    refine XS.dup X17.here hx rfl (hb hby at_166) rfl rfl ?_
    show Steps p.tables e below (T17.setTop (mkF m 167 #[.val (.int p0), .val (.long q1), .second, .val (.long q2), .second, .val (.long q3), .second, .val (.long q4), .second, .val (.long q5), .second, .val (.ref (A0_9 p0 q1 q2 q3 q4 q5 w0 w1 w2 w3 w4 wc)), .val (.ref (A0_22 p0 q1 q2 q3 q4 q5 w0 w1 w2 w3 w4 wc)), .val (.int (A0_30 p0 q1 q2 q3 q4 q5 w0 w1 w2 w3 w4 wc)), .val (.long (J0_38_S0 p0 q1 q2 q3 q4 q5 w0 w1 w2 w3 w4 wc)), .second, .val (.long (J0_55_S0 p0 q1 q2 q3 q4 q5 w0 w1 w2 w3 w4 wc)), .second, .val (.long (J0_72_S0 p0 q1 q2 q3 q4 q5 w0 w1 w2 w3 w4 wc)), .second, .val (.int (J0_90_S0 p0 q1 q2 q3 q4 q5 w0 w1 w2 w3 w4 wc)), .val (.long (J0_109_S0 p0 q1 q2 q3 q4 q5 w0 w1 w2 w3 w4 wc)), .second, .val (.int (A0_128 p0 q1 q2 q3 q4 q5 w0 w1 w2 w3 w4 wc)), .val (.ref b13), .val (.ref b14), .unset, .unset] [(.ref b17), (.ref b17)])) _
    refine XS.aload X17.here hx rfl (hb hby at_167) rfl rfl ?_
    show Steps p.tables e below (T17.setTop (mkF m 169 #[.val (.int p0), .val (.long q1), .second, .val (.long q2), .second, .val (.long q3), .second, .val (.long q4), .second, .val (.long q5), .second, .val (.ref (A0_9 p0 q1 q2 q3 q4 q5 w0 w1 w2 w3 w4 wc)), .val (.ref (A0_22 p0 q1 q2 q3 q4 q5 w0 w1 w2 w3 w4 wc)), .val (.int (A0_30 p0 q1 q2 q3 q4 q5 w0 w1 w2 w3 w4 wc)), .val (.long (J0_38_S0 p0 q1 q2 q3 q4 q5 w0 w1 w2 w3 w4 wc)), .second, .val (.long (J0_55_S0 p0 q1 q2 q3 q4 q5 w0 w1 w2 w3 w4 wc)), .second, .val (.long (J0_72_S0 p0 q1 q2 q3 q4 q5 w0 w1 w2 w3 w4 wc)), .second, .val (.int (J0_90_S0 p0 q1 q2 q3 q4 q5 w0 w1 w2 w3 w4 wc)), .val (.long (J0_109_S0 p0 q1 q2 q3 q4 q5 w0 w1 w2 w3 w4 wc)), .second, .val (.int (A0_128 p0 q1 q2 q3 q4 q5 w0 w1 w2 w3 w4 wc)), .val (.ref b13), .val (.ref b14), .unset, .unset] [(.ref (A0_22 p0 q1 q2 q3 q4 q5 w0 w1 w2 w3 w4 wc)), (.ref b17), (.ref b17)])) _
    refine XS.lload X17.here hx rfl (hb hby at_169) rfl ?_
    show Steps p.tables e below (T17.setTop (mkF m 171 #[.val (.int p0), .val (.long q1), .second, .val (.long q2), .second, .val (.long q3), .second, .val (.long q4), .second, .val (.long q5), .second, .val (.ref (A0_9 p0 q1 q2 q3 q4 q5 w0 w1 w2 w3 w4 wc)), .val (.ref (A0_22 p0 q1 q2 q3 q4 q5 w0 w1 w2 w3 w4 wc)), .val (.int (A0_30 p0 q1 q2 q3 q4 q5 w0 w1 w2 w3 w4 wc)), .val (.long (J0_38_S0 p0 q1 q2 q3 q4 q5 w0 w1 w2 w3 w4 wc)), .second, .val (.long (J0_55_S0 p0 q1 q2 q3 q4 q5 w0 w1 w2 w3 w4 wc)), .second, .val (.long (J0_72_S0 p0 q1 q2 q3 q4 q5 w0 w1 w2 w3 w4 wc)), .second, .val (.int (J0_90_S0 p0 q1 q2 q3 q4 q5 w0 w1 w2 w3 w4 wc)), .val (.long (J0_109_S0 p0 q1 q2 q3 q4 q5 w0 w1 w2 w3 w4 wc)), .second, .val (.int (A0_128 p0 q1 q2 q3 q4 q5 w0 w1 w2 w3 w4 wc)), .val (.ref b13), .val (.ref b14), .unset, .unset] [(.long (J0_38_S0 p0 q1 q2 q3 q4 q5 w0 w1 w2 w3 w4 wc)), (.ref (A0_22 p0 q1 q2 q3 q4 q5 w0 w1 w2 w3 w4 wc)), (.ref b17), (.ref b17)])) _
    refine XS.lload X17.here hx rfl (hb hby at_171) rfl ?_
    show Steps p.tables e below (T17.setTop (mkF m 173 #[.val (.int p0), .val (.long q1), .second, .val (.long q2), .second, .val (.long q3), .second, .val (.long q4), .second, .val (.long q5), .second, .val (.ref (A0_9 p0 q1 q2 q3 q4 q5 w0 w1 w2 w3 w4 wc)), .val (.ref (A0_22 p0 q1 q2 q3 q4 q5 w0 w1 w2 w3 w4 wc)), .val (.int (A0_30 p0 q1 q2 q3 q4 q5 w0 w1 w2 w3 w4 wc)), .val (.long (J0_38_S0 p0 q1 q2 q3 q4 q5 w0 w1 w2 w3 w4 wc)), .second, .val (.long (J0_55_S0 p0 q1 q2 q3 q4 q5 w0 w1 w2 w3 w4 wc)), .second, .val (.long (J0_72_S0 p0 q1 q2 q3 q4 q5 w0 w1 w2 w3 w4 wc)), .second, .val (.int (J0_90_S0 p0 q1 q2 q3 q4 q5 w0 w1 w2 w3 w4 wc)), .val (.long (J0_109_S0 p0 q1 q2 q3 q4 q5 w0 w1 w2 w3 w4 wc)), .second, .val (.int (A0_128 p0 q1 q2 q3 q4 q5 w0 w1 w2 w3 w4 wc)), .val (.ref b13), .val (.ref b14), .unset, .unset] [(.long (J0_55_S0 p0 q1 q2 q3 q4 q5 w0 w1 w2 w3 w4 wc)), (.long (J0_38_S0 p0 q1 q2 q3 q4 q5 w0 w1 w2 w3 w4 wc)), (.ref (A0_22 p0 q1 q2 q3 q4 q5 w0 w1 w2 w3 w4 wc)), (.ref b17), (.ref b17)])) _
    refine XS.lload X17.here hx rfl (hb hby at_173) rfl ?_
    show Steps p.tables e below (T17.setTop (mkF m 175 #[.val (.int p0), .val (.long q1), .second, .val (.long q2), .second, .val (.long q3), .second, .val (.long q4), .second, .val (.long q5), .second, .val (.ref (A0_9 p0 q1 q2 q3 q4 q5 w0 w1 w2 w3 w4 wc)), .val (.ref (A0_22 p0 q1 q2 q3 q4 q5 w0 w1 w2 w3 w4 wc)), .val (.int (A0_30 p0 q1 q2 q3 q4 q5 w0 w1 w2 w3 w4 wc)), .val (.long (J0_38_S0 p0 q1 q2 q3 q4 q5 w0 w1 w2 w3 w4 wc)), .second, .val (.long (J0_55_S0 p0 q1 q2 q3 q4 q5 w0 w1 w2 w3 w4 wc)), .second, .val (.long (J0_72_S0 p0 q1 q2 q3 q4 q5 w0 w1 w2 w3 w4 wc)), .second, .val (.int (J0_90_S0 p0 q1 q2 q3 q4 q5 w0 w1 w2 w3 w4 wc)), .val (.long (J0_109_S0 p0 q1 q2 q3 q4 q5 w0 w1 w2 w3 w4 wc)), .second, .val (.int (A0_128 p0 q1 q2 q3 q4 q5 w0 w1 w2 w3 w4 wc)), .val (.ref b13), .val (.ref b14), .unset, .unset] [(.long (J0_72_S0 p0 q1 q2 q3 q4 q5 w0 w1 w2 w3 w4 wc)), (.long (J0_55_S0 p0 q1 q2 q3 q4 q5 w0 w1 w2 w3 w4 wc)), (.long (J0_38_S0 p0 q1 q2 q3 q4 q5 w0 w1 w2 w3 w4 wc)), (.ref (A0_22 p0 q1 q2 q3 q4 q5 w0 w1 w2 w3 w4 wc)), (.ref b17), (.ref b17)])) _
    refine XS.iload X17.here hx rfl (hb hby at_175) rfl ?_
    show Steps p.tables e below (T17.setTop (mkF m 177 #[.val (.int p0), .val (.long q1), .second, .val (.long q2), .second, .val (.long q3), .second, .val (.long q4), .second, .val (.long q5), .second, .val (.ref (A0_9 p0 q1 q2 q3 q4 q5 w0 w1 w2 w3 w4 wc)), .val (.ref (A0_22 p0 q1 q2 q3 q4 q5 w0 w1 w2 w3 w4 wc)), .val (.int (A0_30 p0 q1 q2 q3 q4 q5 w0 w1 w2 w3 w4 wc)), .val (.long (J0_38_S0 p0 q1 q2 q3 q4 q5 w0 w1 w2 w3 w4 wc)), .second, .val (.long (J0_55_S0 p0 q1 q2 q3 q4 q5 w0 w1 w2 w3 w4 wc)), .second, .val (.long (J0_72_S0 p0 q1 q2 q3 q4 q5 w0 w1 w2 w3 w4 wc)), .second, .val (.int (J0_90_S0 p0 q1 q2 q3 q4 q5 w0 w1 w2 w3 w4 wc)), .val (.long (J0_109_S0 p0 q1 q2 q3 q4 q5 w0 w1 w2 w3 w4 wc)), .second, .val (.int (A0_128 p0 q1 q2 q3 q4 q5 w0 w1 w2 w3 w4 wc)), .val (.ref b13), .val (.ref b14), .unset, .unset] [(.int (J0_90_S0 p0 q1 q2 q3 q4 q5 w0 w1 w2 w3 w4 wc)), (.long (J0_72_S0 p0 q1 q2 q3 q4 q5 w0 w1 w2 w3 w4 wc)), (.long (J0_55_S0 p0 q1 q2 q3 q4 q5 w0 w1 w2 w3 w4 wc)), (.long (J0_38_S0 p0 q1 q2 q3 q4 q5 w0 w1 w2 w3 w4 wc)), (.ref (A0_22 p0 q1 q2 q3 q4 q5 w0 w1 w2 w3 w4 wc)), (.ref b17), (.ref b17)])) _
    refine XS.lload X17.here hx rfl (hb hby at_177) rfl ?_
    show Steps p.tables e below (T17.setTop (mkF m 179 #[.val (.int p0), .val (.long q1), .second, .val (.long q2), .second, .val (.long q3), .second, .val (.long q4), .second, .val (.long q5), .second, .val (.ref (A0_9 p0 q1 q2 q3 q4 q5 w0 w1 w2 w3 w4 wc)), .val (.ref (A0_22 p0 q1 q2 q3 q4 q5 w0 w1 w2 w3 w4 wc)), .val (.int (A0_30 p0 q1 q2 q3 q4 q5 w0 w1 w2 w3 w4 wc)), .val (.long (J0_38_S0 p0 q1 q2 q3 q4 q5 w0 w1 w2 w3 w4 wc)), .second, .val (.long (J0_55_S0 p0 q1 q2 q3 q4 q5 w0 w1 w2 w3 w4 wc)), .second, .val (.long (J0_72_S0 p0 q1 q2 q3 q4 q5 w0 w1 w2 w3 w4 wc)), .second, .val (.int (J0_90_S0 p0 q1 q2 q3 q4 q5 w0 w1 w2 w3 w4 wc)), .val (.long (J0_109_S0 p0 q1 q2 q3 q4 q5 w0 w1 w2 w3 w4 wc)), .second, .val (.int (A0_128 p0 q1 q2 q3 q4 q5 w0 w1 w2 w3 w4 wc)), .val (.ref b13), .val (.ref b14), .unset, .unset] [(.long (J0_109_S0 p0 q1 q2 q3 q4 q5 w0 w1 w2 w3 w4 wc)), (.int (J0_90_S0 p0 q1 q2 q3 q4 q5 w0 w1 w2 w3 w4 wc)), (.long (J0_72_S0 p0 q1 q2 q3 q4 q5 w0 w1 w2 w3 w4 wc)), (.long (J0_55_S0 p0 q1 q2 q3 q4 q5 w0 w1 w2 w3 w4 wc)), (.long (J0_38_S0 p0 q1 q2 q3 q4 q5 w0 w1 w2 w3 w4 wc)), (.ref (A0_22 p0 q1 q2 q3 q4 q5 w0 w1 w2 w3 w4 wc)), (.ref b17), (.ref b17)])) _
    refine st20.trans ?_
    show Steps p.tables e below (T20.setTop (mkF m 182 #[.val (.int p0), .val (.long q1), .second, .val (.long q2), .second, .val (.long q3), .second, .val (.long q4), .second, .val (.long q5), .second, .val (.ref (A0_9 p0 q1 q2 q3 q4 q5 w0 w1 w2 w3 w4 wc)), .val (.ref (A0_22 p0 q1 q2 q3 q4 q5 w0 w1 w2 w3 w4 wc)), .val (.int (A0_30 p0 q1 q2 q3 q4 q5 w0 w1 w2 w3 w4 wc)), .val (.long (J0_38_S0 p0 q1 q2 q3 q4 q5 w0 w1 w2 w3 w4 wc)), .second, .val (.long (J0_55_S0 p0 q1 q2 q3 q4 q5 w0 w1 w2 w3 w4 wc)), .second, .val (.long (J0_72_S0 p0 q1 q2 q3 q4 q5 w0 w1 w2 w3 w4 wc)), .second, .val (.int (J0_90_S0 p0 q1 q2 q3 q4 q5 w0 w1 w2 w3 w4 wc)), .val (.long (J0_109_S0 p0 q1 q2 q3 q4 q5 w0 w1 w2 w3 w4 wc)), .second, .val (.int (A0_128 p0 q1 q2 q3 q4 q5 w0 w1 w2 w3 w4 wc)), .val (.ref b13), .val (.ref b14), .unset, .unset] [(.ref b17)])) _
    refine XS.astore X20.here hx rfl (hb hby at_182) rfl rfl (l' := #[.val (.int p0), .val (.long q1), .second, .val (.long q2), .second, .val (.long q3), .second, .val (.long q4), .second, .val (.long q5), .second, .val (.ref (A0_9 p0 q1 q2 q3 q4 q5 w0 w1 w2 w3 w4 wc)), .val (.ref (A0_22 p0 q1 q2 q3 q4 q5 w0 w1 w2 w3 w4 wc)), .val (.int (A0_30 p0 q1 q2 q3 q4 q5 w0 w1 w2 w3 w4 wc)), .val (.long (J0_38_S0 p0 q1 q2 q3 q4 q5 w0 w1 w2 w3 w4 wc)), .second, .val (.long (J0_55_S0 p0 q1 q2 q3 q4 q5 w0 w1 w2 w3 w4 wc)), .second, .val (.long (J0_72_S0 p0 q1 q2 q3 q4 q5 w0 w1 w2 w3 w4 wc)), .second, .val (.int (J0_90_S0 p0 q1 q2 q3 q4 q5 w0 w1 w2 w3 w4 wc)), .val (.long (J0_109_S0 p0 q1 q2 q3 q4 q5 w0 w1 w2 w3 w4 wc)), .second, .val (.int (A0_128 p0 q1 q2 q3 q4 q5 w0 w1 w2 w3 w4 wc)), .val (.ref b13), .val (.ref b14), .val (.ref b17), .unset]) rfl ?_
    show Steps p.tables e below (T20.setTop (mkF m 184 #[.val (.int p0), .val (.long q1), .second, .val (.long q2), .second, .val (.long q3), .second, .val (.long q4), .second, .val (.long q5), .second, .val (.ref (A0_9 p0 q1 q2 q3 q4 q5 w0 w1 w2 w3 w4 wc)), .val (.ref (A0_22 p0 q1 q2 q3 q4 q5 w0 w1 w2 w3 w4 wc)), .val (.int (A0_30 p0 q1 q2 q3 q4 q5 w0 w1 w2 w3 w4 wc)), .val (.long (J0_38_S0 p0 q1 q2 q3 q4 q5 w0 w1 w2 w3 w4 wc)), .second, .val (.long (J0_55_S0 p0 q1 q2 q3 q4 q5 w0 w1 w2 w3 w4 wc)), .second, .val (.long (J0_72_S0 p0 q1 q2 q3 q4 q5 w0 w1 w2 w3 w4 wc)), .second, .val (.int (J0_90_S0 p0 q1 q2 q3 q4 q5 w0 w1 w2 w3 w4 wc)), .val (.long (J0_109_S0 p0 q1 q2 q3 q4 q5 w0 w1 w2 w3 w4 wc)), .second, .val (.int (A0_128 p0 q1 q2 q3 q4 q5 w0 w1 w2 w3 w4 wc)), .val (.ref b13), .val (.ref b14), .val (.ref b17), .unset] [])) _
    refine XS.iload X20.here hx rfl (hb hby at_184) rfl ?_
    show Steps p.tables e below (T20.setTop (mkF m 186 #[.val (.int p0), .val (.long q1), .second, .val (.long q2), .second, .val (.long q3), .second, .val (.long q4), .second, .val (.long q5), .second, .val (.ref (A0_9 p0 q1 q2 q3 q4 q5 w0 w1 w2 w3 w4 wc)), .val (.ref (A0_22 p0 q1 q2 q3 q4 q5 w0 w1 w2 w3 w4 wc)), .val (.int (A0_30 p0 q1 q2 q3 q4 q5 w0 w1 w2 w3 w4 wc)), .val (.long (J0_38_S0 p0 q1 q2 q3 q4 q5 w0 w1 w2 w3 w4 wc)), .second, .val (.long (J0_55_S0 p0 q1 q2 q3 q4 q5 w0 w1 w2 w3 w4 wc)), .second, .val (.long (J0_72_S0 p0 q1 q2 q3 q4 q5 w0 w1 w2 w3 w4 wc)), .second, .val (.int (J0_90_S0 p0 q1 q2 q3 q4 q5 w0 w1 w2 w3 w4 wc)), .val (.long (J0_109_S0 p0 q1 q2 q3 q4 q5 w0 w1 w2 w3 w4 wc)), .second, .val (.int (A0_128 p0 q1 q2 q3 q4 q5 w0 w1 w2 w3 w4 wc)), .val (.ref b13), .val (.ref b14), .val (.ref b17), .unset] [(.int (A0_128 p0 q1 q2 q3 q4 q5 w0 w1 w2 w3 w4 wc))])) _
    refine XS.iconst X20.here hx rfl (hb hby at_186) ?_
    exact kt)
  by_cases hc187 : (A0_128 p0 q1 q2 q3 q4 q5 w0 w1 w2 w3 w4 wc) = (5 : Int32)
  · obtain ⟨cq22, kq22, q22a, q22b, q22c⟩ := isOf hZ (rfl : T20.heap = T20.heap) (Exa.keep (Exa.ext E17 P16_0) K20c)
    obtain ⟨_, _, ⟨T22, L22, k22, n22⟩, -, X22, ⟨Lc22, hQ22, ll22, ly22, lz22⟩, st22⟩ := X20.virtualBack hx (y := (⟨"com/example/grove8/grove8/Context", "equals", "(Ljava/lang/Object;)Z"⟩ : MethodName)) (z := (⟨"com/example/grove8/grove8/Context", "equals", "(Ljava/lang/Object;)Z"⟩ : MethodName)) hown (mvT hZ (hw _ (List.mem_of_getElem? (i := 57) rfl))) (mvT hZ (hw _ (List.mem_of_getElem? (i := 58) rfl))) (notFace_of_selects (args := #[]) (mvT hZ (hw _ (List.mem_of_getElem? (i := 60) rfl)))) (mvT hZ (hw _ (List.mem_of_getElem? (i := 60) rfl))) (mvT hZ (hw _ (List.mem_of_getElem? (i := 59) rfl))) (by decide) (backOf (W := 0) (rm9n l Z a0 hw [] b14 T20.heap n0 (Nat.le_trans (Nat.le_trans (Nat.le_trans (Nat.le_trans (Nat.le_trans Z0 K13c.1) E14.1) K16c.1) E17.1) K20c.1) ) hZ (hw _ (List.mem_of_getElem? (i := 61) rfl)) (hw _ (List.mem_of_getElem? (i := 35) rfl)) (by decide) (by decide)) q22a q22c (g := (mkF m 193 #[.val (.int p0), .val (.long q1), .second, .val (.long q2), .second, .val (.long q3), .second, .val (.long q4), .second, .val (.long q5), .second, .val (.ref (A0_9 p0 q1 q2 q3 q4 q5 w0 w1 w2 w3 w4 wc)), .val (.ref (A0_22 p0 q1 q2 q3 q4 q5 w0 w1 w2 w3 w4 wc)), .val (.int (A0_30 p0 q1 q2 q3 q4 q5 w0 w1 w2 w3 w4 wc)), .val (.long (J0_38_S0 p0 q1 q2 q3 q4 q5 w0 w1 w2 w3 w4 wc)), .second, .val (.long (J0_55_S0 p0 q1 q2 q3 q4 q5 w0 w1 w2 w3 w4 wc)), .second, .val (.long (J0_72_S0 p0 q1 q2 q3 q4 q5 w0 w1 w2 w3 w4 wc)), .second, .val (.int (J0_90_S0 p0 q1 q2 q3 q4 q5 w0 w1 w2 w3 w4 wc)), .val (.long (J0_109_S0 p0 q1 q2 q3 q4 q5 w0 w1 w2 w3 w4 wc)), .second, .val (.int (A0_128 p0 q1 q2 q3 q4 q5 w0 w1 w2 w3 w4 wc)), .val (.ref b13), .val (.ref b14), .val (.ref b17), .unset] [.null, (.ref b14)])) rfl (by rw [hml]; rfl) (Steps.refl _) (argsL := [.null]) (rest := []) (lenOf pd__Ljava_lang_Object__Z rfl) rfl (by show 2 * 0 + _ ≤ _; exact Nat.le_of_eq rfl) (hb hby at_193) (fun _ _ => ⟨rfl, (rfl : T20.heap = T20.heap), (by decide : 4 + 0 ≤ _), (by decide : 17 + 0 ≤ _)⟩)
    dsimp only [Pt.U, Pt.locs, Pt.cells, Pt.slots] at X22 ll22 ly22 lz22 st22 hQ22
    subst ll22 ly22 lz22
    obtain ⟨rfl, N22q, e22⟩ := hQ22
    have N22 := Fr.app N20 N22q
    obtain ⟨fs, hr, hrun, hended, hW, hsame⟩ := X22.leave (v := some (.int (1 : Int32))) (fun h => by rw [Bd.returns] at h; cases h)
    refine ⟨_, _, pre21 _ ?_, hrun, hended, _, _, rfl, ?_, ⟨_, rfl⟩, hW, hsame.mono (by decide) (by decide)⟩
    · show Steps p.tables e below (T20.setTop (mkF m 187 #[.val (.int p0), .val (.long q1), .second, .val (.long q2), .second, .val (.long q3), .second, .val (.long q4), .second, .val (.long q5), .second, .val (.ref (A0_9 p0 q1 q2 q3 q4 q5 w0 w1 w2 w3 w4 wc)), .val (.ref (A0_22 p0 q1 q2 q3 q4 q5 w0 w1 w2 w3 w4 wc)), .val (.int (A0_30 p0 q1 q2 q3 q4 q5 w0 w1 w2 w3 w4 wc)), .val (.long (J0_38_S0 p0 q1 q2 q3 q4 q5 w0 w1 w2 w3 w4 wc)), .second, .val (.long (J0_55_S0 p0 q1 q2 q3 q4 q5 w0 w1 w2 w3 w4 wc)), .second, .val (.long (J0_72_S0 p0 q1 q2 q3 q4 q5 w0 w1 w2 w3 w4 wc)), .second, .val (.int (J0_90_S0 p0 q1 q2 q3 q4 q5 w0 w1 w2 w3 w4 wc)), .val (.long (J0_109_S0 p0 q1 q2 q3 q4 q5 w0 w1 w2 w3 w4 wc)), .second, .val (.int (A0_128 p0 q1 q2 q3 q4 q5 w0 w1 w2 w3 w4 wc)), .val (.ref b13), .val (.ref b14), .val (.ref b17), .unset] [(.int (5 : Int32)), (.int (A0_128 p0 q1 q2 q3 q4 q5 w0 w1 w2 w3 w4 wc))])) _
      refine XS.icmpNo X20.here hx rfl (hb hby at_187) rfl (teq hc187).2 ?_
      show Steps p.tables e below (T20.setTop (mkF m 190 #[.val (.int p0), .val (.long q1), .second, .val (.long q2), .second, .val (.long q3), .second, .val (.long q4), .second, .val (.long q5), .second, .val (.ref (A0_9 p0 q1 q2 q3 q4 q5 w0 w1 w2 w3 w4 wc)), .val (.ref (A0_22 p0 q1 q2 q3 q4 q5 w0 w1 w2 w3 w4 wc)), .val (.int (A0_30 p0 q1 q2 q3 q4 q5 w0 w1 w2 w3 w4 wc)), .val (.long (J0_38_S0 p0 q1 q2 q3 q4 q5 w0 w1 w2 w3 w4 wc)), .second, .val (.long (J0_55_S0 p0 q1 q2 q3 q4 q5 w0 w1 w2 w3 w4 wc)), .second, .val (.long (J0_72_S0 p0 q1 q2 q3 q4 q5 w0 w1 w2 w3 w4 wc)), .second, .val (.int (J0_90_S0 p0 q1 q2 q3 q4 q5 w0 w1 w2 w3 w4 wc)), .val (.long (J0_109_S0 p0 q1 q2 q3 q4 q5 w0 w1 w2 w3 w4 wc)), .second, .val (.int (A0_128 p0 q1 q2 q3 q4 q5 w0 w1 w2 w3 w4 wc)), .val (.ref b13), .val (.ref b14), .val (.ref b17), .unset] [])) _
      refine XS.aload X20.here hx rfl (hb hby at_190) rfl rfl ?_
      show Steps p.tables e below (T20.setTop (mkF m 192 #[.val (.int p0), .val (.long q1), .second, .val (.long q2), .second, .val (.long q3), .second, .val (.long q4), .second, .val (.long q5), .second, .val (.ref (A0_9 p0 q1 q2 q3 q4 q5 w0 w1 w2 w3 w4 wc)), .val (.ref (A0_22 p0 q1 q2 q3 q4 q5 w0 w1 w2 w3 w4 wc)), .val (.int (A0_30 p0 q1 q2 q3 q4 q5 w0 w1 w2 w3 w4 wc)), .val (.long (J0_38_S0 p0 q1 q2 q3 q4 q5 w0 w1 w2 w3 w4 wc)), .second, .val (.long (J0_55_S0 p0 q1 q2 q3 q4 q5 w0 w1 w2 w3 w4 wc)), .second, .val (.long (J0_72_S0 p0 q1 q2 q3 q4 q5 w0 w1 w2 w3 w4 wc)), .second, .val (.int (J0_90_S0 p0 q1 q2 q3 q4 q5 w0 w1 w2 w3 w4 wc)), .val (.long (J0_109_S0 p0 q1 q2 q3 q4 q5 w0 w1 w2 w3 w4 wc)), .second, .val (.int (A0_128 p0 q1 q2 q3 q4 q5 w0 w1 w2 w3 w4 wc)), .val (.ref b13), .val (.ref b14), .val (.ref b17), .unset] [(.ref b14)])) _
      refine XS.aconstNull X20.here hx rfl (hb hby at_192) ?_
      show Steps p.tables e below (T20.setTop (mkF m 193 #[.val (.int p0), .val (.long q1), .second, .val (.long q2), .second, .val (.long q3), .second, .val (.long q4), .second, .val (.long q5), .second, .val (.ref (A0_9 p0 q1 q2 q3 q4 q5 w0 w1 w2 w3 w4 wc)), .val (.ref (A0_22 p0 q1 q2 q3 q4 q5 w0 w1 w2 w3 w4 wc)), .val (.int (A0_30 p0 q1 q2 q3 q4 q5 w0 w1 w2 w3 w4 wc)), .val (.long (J0_38_S0 p0 q1 q2 q3 q4 q5 w0 w1 w2 w3 w4 wc)), .second, .val (.long (J0_55_S0 p0 q1 q2 q3 q4 q5 w0 w1 w2 w3 w4 wc)), .second, .val (.long (J0_72_S0 p0 q1 q2 q3 q4 q5 w0 w1 w2 w3 w4 wc)), .second, .val (.int (J0_90_S0 p0 q1 q2 q3 q4 q5 w0 w1 w2 w3 w4 wc)), .val (.long (J0_109_S0 p0 q1 q2 q3 q4 q5 w0 w1 w2 w3 w4 wc)), .second, .val (.int (A0_128 p0 q1 q2 q3 q4 q5 w0 w1 w2 w3 w4 wc)), .val (.ref b13), .val (.ref b14), .val (.ref b17), .unset] [.null, (.ref b14)])) _
      refine st22.trans ?_
      show Steps p.tables e below (T22.setTop (mkF m 196 #[.val (.int p0), .val (.long q1), .second, .val (.long q2), .second, .val (.long q3), .second, .val (.long q4), .second, .val (.long q5), .second, .val (.ref (A0_9 p0 q1 q2 q3 q4 q5 w0 w1 w2 w3 w4 wc)), .val (.ref (A0_22 p0 q1 q2 q3 q4 q5 w0 w1 w2 w3 w4 wc)), .val (.int (A0_30 p0 q1 q2 q3 q4 q5 w0 w1 w2 w3 w4 wc)), .val (.long (J0_38_S0 p0 q1 q2 q3 q4 q5 w0 w1 w2 w3 w4 wc)), .second, .val (.long (J0_55_S0 p0 q1 q2 q3 q4 q5 w0 w1 w2 w3 w4 wc)), .second, .val (.long (J0_72_S0 p0 q1 q2 q3 q4 q5 w0 w1 w2 w3 w4 wc)), .second, .val (.int (J0_90_S0 p0 q1 q2 q3 q4 q5 w0 w1 w2 w3 w4 wc)), .val (.long (J0_109_S0 p0 q1 q2 q3 q4 q5 w0 w1 w2 w3 w4 wc)), .second, .val (.int (A0_128 p0 q1 q2 q3 q4 q5 w0 w1 w2 w3 w4 wc)), .val (.ref b13), .val (.ref b14), .val (.ref b17), .unset] [(.int (0 : Int32))])) _
      refine XS.ifNo X22.here hx rfl (hb hby at_196) rfl ((if0 _ _).trans (teq (by decide : (0 : Int32) = (0 : Int32))).2) ?_
      show Steps p.tables e below (T22.setTop (mkF m 199 #[.val (.int p0), .val (.long q1), .second, .val (.long q2), .second, .val (.long q3), .second, .val (.long q4), .second, .val (.long q5), .second, .val (.ref (A0_9 p0 q1 q2 q3 q4 q5 w0 w1 w2 w3 w4 wc)), .val (.ref (A0_22 p0 q1 q2 q3 q4 q5 w0 w1 w2 w3 w4 wc)), .val (.int (A0_30 p0 q1 q2 q3 q4 q5 w0 w1 w2 w3 w4 wc)), .val (.long (J0_38_S0 p0 q1 q2 q3 q4 q5 w0 w1 w2 w3 w4 wc)), .second, .val (.long (J0_55_S0 p0 q1 q2 q3 q4 q5 w0 w1 w2 w3 w4 wc)), .second, .val (.long (J0_72_S0 p0 q1 q2 q3 q4 q5 w0 w1 w2 w3 w4 wc)), .second, .val (.int (J0_90_S0 p0 q1 q2 q3 q4 q5 w0 w1 w2 w3 w4 wc)), .val (.long (J0_109_S0 p0 q1 q2 q3 q4 q5 w0 w1 w2 w3 w4 wc)), .second, .val (.int (A0_128 p0 q1 q2 q3 q4 q5 w0 w1 w2 w3 w4 wc)), .val (.ref b13), .val (.ref b14), .val (.ref b17), .unset] [])) _
      refine XS.iconst X22.here hx rfl (hb hby at_199) ?_
      show Steps p.tables e below (T22.setTop (mkF m 200 #[.val (.int p0), .val (.long q1), .second, .val (.long q2), .second, .val (.long q3), .second, .val (.long q4), .second, .val (.long q5), .second, .val (.ref (A0_9 p0 q1 q2 q3 q4 q5 w0 w1 w2 w3 w4 wc)), .val (.ref (A0_22 p0 q1 q2 q3 q4 q5 w0 w1 w2 w3 w4 wc)), .val (.int (A0_30 p0 q1 q2 q3 q4 q5 w0 w1 w2 w3 w4 wc)), .val (.long (J0_38_S0 p0 q1 q2 q3 q4 q5 w0 w1 w2 w3 w4 wc)), .second, .val (.long (J0_55_S0 p0 q1 q2 q3 q4 q5 w0 w1 w2 w3 w4 wc)), .second, .val (.long (J0_72_S0 p0 q1 q2 q3 q4 q5 w0 w1 w2 w3 w4 wc)), .second, .val (.int (J0_90_S0 p0 q1 q2 q3 q4 q5 w0 w1 w2 w3 w4 wc)), .val (.long (J0_109_S0 p0 q1 q2 q3 q4 q5 w0 w1 w2 w3 w4 wc)), .second, .val (.int (A0_128 p0 q1 q2 q3 q4 q5 w0 w1 w2 w3 w4 wc)), .val (.ref b13), .val (.ref b14), .val (.ref b17), .unset] [(.int (1 : Int32))])) _
      refine XS.goto X22.here hx rfl (pc0 := 200) (pc' := 204) rfl (hb hby at_200) (by decide) (by decide) ?_
      show Steps p.tables e below (T22.setTop (mkF m 204 #[.val (.int p0), .val (.long q1), .second, .val (.long q2), .second, .val (.long q3), .second, .val (.long q4), .second, .val (.long q5), .second, .val (.ref (A0_9 p0 q1 q2 q3 q4 q5 w0 w1 w2 w3 w4 wc)), .val (.ref (A0_22 p0 q1 q2 q3 q4 q5 w0 w1 w2 w3 w4 wc)), .val (.int (A0_30 p0 q1 q2 q3 q4 q5 w0 w1 w2 w3 w4 wc)), .val (.long (J0_38_S0 p0 q1 q2 q3 q4 q5 w0 w1 w2 w3 w4 wc)), .second, .val (.long (J0_55_S0 p0 q1 q2 q3 q4 q5 w0 w1 w2 w3 w4 wc)), .second, .val (.long (J0_72_S0 p0 q1 q2 q3 q4 q5 w0 w1 w2 w3 w4 wc)), .second, .val (.int (J0_90_S0 p0 q1 q2 q3 q4 q5 w0 w1 w2 w3 w4 wc)), .val (.long (J0_109_S0 p0 q1 q2 q3 q4 q5 w0 w1 w2 w3 w4 wc)), .second, .val (.int (A0_128 p0 q1 q2 q3 q4 q5 w0 w1 w2 w3 w4 wc)), .val (.ref b13), .val (.ref b14), .val (.ref b17), .unset] [(.int (1 : Int32))])) _
      exact retN X22 hx (t := .boolean) Bd.returns (by simp) (hb hby at_204) hr
    · show Q0 Z p0 q1 q2 q3 q4 q5 w0 w1 w2 w3 w4 wc h0 n0 _ T22.heap _
      rw [e22]
      exact ⟨(by unfold F0; simp only [if_pos hc187]), N22⟩
  · have pre23 : ∀ t, Steps p.tables e below (T20.setTop (mkF m 209 #[.val (.int p0), .val (.long q1), .second, .val (.long q2), .second, .val (.long q3), .second, .val (.long q4), .second, .val (.long q5), .second, .val (.ref (A0_9 p0 q1 q2 q3 q4 q5 w0 w1 w2 w3 w4 wc)), .val (.ref (A0_22 p0 q1 q2 q3 q4 q5 w0 w1 w2 w3 w4 wc)), .val (.int (A0_30 p0 q1 q2 q3 q4 q5 w0 w1 w2 w3 w4 wc)), .val (.long (J0_38_S0 p0 q1 q2 q3 q4 q5 w0 w1 w2 w3 w4 wc)), .second, .val (.long (J0_55_S0 p0 q1 q2 q3 q4 q5 w0 w1 w2 w3 w4 wc)), .second, .val (.long (J0_72_S0 p0 q1 q2 q3 q4 q5 w0 w1 w2 w3 w4 wc)), .second, .val (.int (J0_90_S0 p0 q1 q2 q3 q4 q5 w0 w1 w2 w3 w4 wc)), .val (.long (J0_109_S0 p0 q1 q2 q3 q4 q5 w0 w1 w2 w3 w4 wc)), .second, .val (.int (A0_128 p0 q1 q2 q3 q4 q5 w0 w1 w2 w3 w4 wc)), .val (.ref b13), .val (.ref b14), .val (.ref b17), .unset] [(.int (6 : Int32)), (.int (A0_128 p0 q1 q2 q3 q4 q5 w0 w1 w2 w3 w4 wc))])) t → Steps p.tables e below (s₁.setTop (entryFrame m #[(.int p0), (.long q1), (.long q2), (.long q3), (.long q4), (.long q5)] maxLocals)) t := fun t kt => pre21 t (by
      show Steps p.tables e below (T20.setTop (mkF m 187 #[.val (.int p0), .val (.long q1), .second, .val (.long q2), .second, .val (.long q3), .second, .val (.long q4), .second, .val (.long q5), .second, .val (.ref (A0_9 p0 q1 q2 q3 q4 q5 w0 w1 w2 w3 w4 wc)), .val (.ref (A0_22 p0 q1 q2 q3 q4 q5 w0 w1 w2 w3 w4 wc)), .val (.int (A0_30 p0 q1 q2 q3 q4 q5 w0 w1 w2 w3 w4 wc)), .val (.long (J0_38_S0 p0 q1 q2 q3 q4 q5 w0 w1 w2 w3 w4 wc)), .second, .val (.long (J0_55_S0 p0 q1 q2 q3 q4 q5 w0 w1 w2 w3 w4 wc)), .second, .val (.long (J0_72_S0 p0 q1 q2 q3 q4 q5 w0 w1 w2 w3 w4 wc)), .second, .val (.int (J0_90_S0 p0 q1 q2 q3 q4 q5 w0 w1 w2 w3 w4 wc)), .val (.long (J0_109_S0 p0 q1 q2 q3 q4 q5 w0 w1 w2 w3 w4 wc)), .second, .val (.int (A0_128 p0 q1 q2 q3 q4 q5 w0 w1 w2 w3 w4 wc)), .val (.ref b13), .val (.ref b14), .val (.ref b17), .unset] [(.int (5 : Int32)), (.int (A0_128 p0 q1 q2 q3 q4 q5 w0 w1 w2 w3 w4 wc))])) _
      refine XS.icmpYes X20.here hx rfl (pc0 := 187) (pc' := 205) rfl (hb hby at_187) rfl (feq hc187).2 (by decide) (by decide) ?_
      show Steps p.tables e below (T20.setTop (mkF m 205 #[.val (.int p0), .val (.long q1), .second, .val (.long q2), .second, .val (.long q3), .second, .val (.long q4), .second, .val (.long q5), .second, .val (.ref (A0_9 p0 q1 q2 q3 q4 q5 w0 w1 w2 w3 w4 wc)), .val (.ref (A0_22 p0 q1 q2 q3 q4 q5 w0 w1 w2 w3 w4 wc)), .val (.int (A0_30 p0 q1 q2 q3 q4 q5 w0 w1 w2 w3 w4 wc)), .val (.long (J0_38_S0 p0 q1 q2 q3 q4 q5 w0 w1 w2 w3 w4 wc)), .second, .val (.long (J0_55_S0 p0 q1 q2 q3 q4 q5 w0 w1 w2 w3 w4 wc)), .second, .val (.long (J0_72_S0 p0 q1 q2 q3 q4 q5 w0 w1 w2 w3 w4 wc)), .second, .val (.int (J0_90_S0 p0 q1 q2 q3 q4 q5 w0 w1 w2 w3 w4 wc)), .val (.long (J0_109_S0 p0 q1 q2 q3 q4 q5 w0 w1 w2 w3 w4 wc)), .second, .val (.int (A0_128 p0 q1 q2 q3 q4 q5 w0 w1 w2 w3 w4 wc)), .val (.ref b13), .val (.ref b14), .val (.ref b17), .unset] [])) _
      refine XS.iload X20.here hx rfl (hb hby at_205) rfl ?_
      show Steps p.tables e below (T20.setTop (mkF m 207 #[.val (.int p0), .val (.long q1), .second, .val (.long q2), .second, .val (.long q3), .second, .val (.long q4), .second, .val (.long q5), .second, .val (.ref (A0_9 p0 q1 q2 q3 q4 q5 w0 w1 w2 w3 w4 wc)), .val (.ref (A0_22 p0 q1 q2 q3 q4 q5 w0 w1 w2 w3 w4 wc)), .val (.int (A0_30 p0 q1 q2 q3 q4 q5 w0 w1 w2 w3 w4 wc)), .val (.long (J0_38_S0 p0 q1 q2 q3 q4 q5 w0 w1 w2 w3 w4 wc)), .second, .val (.long (J0_55_S0 p0 q1 q2 q3 q4 q5 w0 w1 w2 w3 w4 wc)), .second, .val (.long (J0_72_S0 p0 q1 q2 q3 q4 q5 w0 w1 w2 w3 w4 wc)), .second, .val (.int (J0_90_S0 p0 q1 q2 q3 q4 q5 w0 w1 w2 w3 w4 wc)), .val (.long (J0_109_S0 p0 q1 q2 q3 q4 q5 w0 w1 w2 w3 w4 wc)), .second, .val (.int (A0_128 p0 q1 q2 q3 q4 q5 w0 w1 w2 w3 w4 wc)), .val (.ref b13), .val (.ref b14), .val (.ref b17), .unset] [(.int (A0_128 p0 q1 q2 q3 q4 q5 w0 w1 w2 w3 w4 wc))])) _
      refine XS.bipush X20.here hx rfl (hb hby at_207) ?_
      exact kt)
    by_cases hc209 : (A0_128 p0 q1 q2 q3 q4 q5 w0 w1 w2 w3 w4 wc) = (6 : Int32)
    · obtain ⟨cq24, kq24, q24a, q24b, q24c⟩ := isOf hZ (rfl : T20.heap = T20.heap) (Exa.keep (Exa.ext E17 P16_0) K20c)
      obtain ⟨_, _, ⟨T24, L24, k24, n24⟩, -, X24, ⟨Lc24, hQ24, ll24, ly24, lz24⟩, st24⟩ := X20.virtualBack hx (y := (⟨"com/example/grove8/grove8/Context", "equals", "(Ljava/lang/Object;)Z"⟩ : MethodName)) (z := (⟨"com/example/grove8/grove8/Context", "equals", "(Ljava/lang/Object;)Z"⟩ : MethodName)) hown (mvT hZ (hw _ (List.mem_of_getElem? (i := 57) rfl))) (mvT hZ (hw _ (List.mem_of_getElem? (i := 58) rfl))) (notFace_of_selects (args := #[]) (mvT hZ (hw _ (List.mem_of_getElem? (i := 60) rfl)))) (mvT hZ (hw _ (List.mem_of_getElem? (i := 60) rfl))) (mvT hZ (hw _ (List.mem_of_getElem? (i := 59) rfl))) (by decide) (backOf (W := 0) (rm9s l Z a0 hw [] b14 b13 T20.heap n0 (Nat.le_trans (Nat.le_trans (Nat.le_trans (Nat.le_trans (Nat.le_trans Z0 K13c.1) E14.1) K16c.1) E17.1) K20c.1) (Exa.keep (Exa.ext E17 (Exa.keep (Exa.ext E14 P13_0) K16c)) K20c)) hZ (hw _ (List.mem_of_getElem? (i := 61) rfl)) (hw _ (List.mem_of_getElem? (i := 35) rfl)) (by decide) (by decide)) q24a q24c (g := (mkF m 216 #[.val (.int p0), .val (.long q1), .second, .val (.long q2), .second, .val (.long q3), .second, .val (.long q4), .second, .val (.long q5), .second, .val (.ref (A0_9 p0 q1 q2 q3 q4 q5 w0 w1 w2 w3 w4 wc)), .val (.ref (A0_22 p0 q1 q2 q3 q4 q5 w0 w1 w2 w3 w4 wc)), .val (.int (A0_30 p0 q1 q2 q3 q4 q5 w0 w1 w2 w3 w4 wc)), .val (.long (J0_38_S0 p0 q1 q2 q3 q4 q5 w0 w1 w2 w3 w4 wc)), .second, .val (.long (J0_55_S0 p0 q1 q2 q3 q4 q5 w0 w1 w2 w3 w4 wc)), .second, .val (.long (J0_72_S0 p0 q1 q2 q3 q4 q5 w0 w1 w2 w3 w4 wc)), .second, .val (.int (J0_90_S0 p0 q1 q2 q3 q4 q5 w0 w1 w2 w3 w4 wc)), .val (.long (J0_109_S0 p0 q1 q2 q3 q4 q5 w0 w1 w2 w3 w4 wc)), .second, .val (.int (A0_128 p0 q1 q2 q3 q4 q5 w0 w1 w2 w3 w4 wc)), .val (.ref b13), .val (.ref b14), .val (.ref b17), .unset] [(.ref b13), (.ref b14)])) rfl (by rw [hml]; rfl) (Steps.refl _) (argsL := [(.ref b13)]) (rest := []) (lenOf pd__Ljava_lang_Object__Z rfl) rfl (by show 2 * 0 + _ ≤ _; exact Nat.le_of_eq rfl) (hb hby at_216) (fun _ _ => ⟨rfl, (rfl : T20.heap = T20.heap), (by decide : 4 + 0 ≤ _), (by decide : 17 + 0 ≤ _)⟩)
      dsimp only [Pt.U, Pt.locs, Pt.cells, Pt.slots] at X24 ll24 ly24 lz24 st24 hQ24
      subst ll24 ly24 lz24
      obtain ⟨rfl, N24q, e24⟩ := hQ24
      have N24 := Fr.app N20 N24q
      obtain ⟨fs, hr, hrun, hended, hW, hsame⟩ := X24.leave (v := some (.int (1 : Int32))) (fun h => by rw [Bd.returns] at h; cases h)
      refine ⟨_, _, pre23 _ ?_, hrun, hended, _, _, rfl, ?_, ⟨_, rfl⟩, hW, hsame.mono (by decide) (by decide)⟩
      · show Steps p.tables e below (T20.setTop (mkF m 209 #[.val (.int p0), .val (.long q1), .second, .val (.long q2), .second, .val (.long q3), .second, .val (.long q4), .second, .val (.long q5), .second, .val (.ref (A0_9 p0 q1 q2 q3 q4 q5 w0 w1 w2 w3 w4 wc)), .val (.ref (A0_22 p0 q1 q2 q3 q4 q5 w0 w1 w2 w3 w4 wc)), .val (.int (A0_30 p0 q1 q2 q3 q4 q5 w0 w1 w2 w3 w4 wc)), .val (.long (J0_38_S0 p0 q1 q2 q3 q4 q5 w0 w1 w2 w3 w4 wc)), .second, .val (.long (J0_55_S0 p0 q1 q2 q3 q4 q5 w0 w1 w2 w3 w4 wc)), .second, .val (.long (J0_72_S0 p0 q1 q2 q3 q4 q5 w0 w1 w2 w3 w4 wc)), .second, .val (.int (J0_90_S0 p0 q1 q2 q3 q4 q5 w0 w1 w2 w3 w4 wc)), .val (.long (J0_109_S0 p0 q1 q2 q3 q4 q5 w0 w1 w2 w3 w4 wc)), .second, .val (.int (A0_128 p0 q1 q2 q3 q4 q5 w0 w1 w2 w3 w4 wc)), .val (.ref b13), .val (.ref b14), .val (.ref b17), .unset] [(.int (6 : Int32)), (.int (A0_128 p0 q1 q2 q3 q4 q5 w0 w1 w2 w3 w4 wc))])) _
        refine XS.icmpNo X20.here hx rfl (hb hby at_209) rfl (teq hc209).2 ?_
        show Steps p.tables e below (T20.setTop (mkF m 212 #[.val (.int p0), .val (.long q1), .second, .val (.long q2), .second, .val (.long q3), .second, .val (.long q4), .second, .val (.long q5), .second, .val (.ref (A0_9 p0 q1 q2 q3 q4 q5 w0 w1 w2 w3 w4 wc)), .val (.ref (A0_22 p0 q1 q2 q3 q4 q5 w0 w1 w2 w3 w4 wc)), .val (.int (A0_30 p0 q1 q2 q3 q4 q5 w0 w1 w2 w3 w4 wc)), .val (.long (J0_38_S0 p0 q1 q2 q3 q4 q5 w0 w1 w2 w3 w4 wc)), .second, .val (.long (J0_55_S0 p0 q1 q2 q3 q4 q5 w0 w1 w2 w3 w4 wc)), .second, .val (.long (J0_72_S0 p0 q1 q2 q3 q4 q5 w0 w1 w2 w3 w4 wc)), .second, .val (.int (J0_90_S0 p0 q1 q2 q3 q4 q5 w0 w1 w2 w3 w4 wc)), .val (.long (J0_109_S0 p0 q1 q2 q3 q4 q5 w0 w1 w2 w3 w4 wc)), .second, .val (.int (A0_128 p0 q1 q2 q3 q4 q5 w0 w1 w2 w3 w4 wc)), .val (.ref b13), .val (.ref b14), .val (.ref b17), .unset] [])) _
        refine XS.aload X20.here hx rfl (hb hby at_212) rfl rfl ?_
        show Steps p.tables e below (T20.setTop (mkF m 214 #[.val (.int p0), .val (.long q1), .second, .val (.long q2), .second, .val (.long q3), .second, .val (.long q4), .second, .val (.long q5), .second, .val (.ref (A0_9 p0 q1 q2 q3 q4 q5 w0 w1 w2 w3 w4 wc)), .val (.ref (A0_22 p0 q1 q2 q3 q4 q5 w0 w1 w2 w3 w4 wc)), .val (.int (A0_30 p0 q1 q2 q3 q4 q5 w0 w1 w2 w3 w4 wc)), .val (.long (J0_38_S0 p0 q1 q2 q3 q4 q5 w0 w1 w2 w3 w4 wc)), .second, .val (.long (J0_55_S0 p0 q1 q2 q3 q4 q5 w0 w1 w2 w3 w4 wc)), .second, .val (.long (J0_72_S0 p0 q1 q2 q3 q4 q5 w0 w1 w2 w3 w4 wc)), .second, .val (.int (J0_90_S0 p0 q1 q2 q3 q4 q5 w0 w1 w2 w3 w4 wc)), .val (.long (J0_109_S0 p0 q1 q2 q3 q4 q5 w0 w1 w2 w3 w4 wc)), .second, .val (.int (A0_128 p0 q1 q2 q3 q4 q5 w0 w1 w2 w3 w4 wc)), .val (.ref b13), .val (.ref b14), .val (.ref b17), .unset] [(.ref b14)])) _
        refine XS.aload X20.here hx rfl (hb hby at_214) rfl rfl ?_
        show Steps p.tables e below (T20.setTop (mkF m 216 #[.val (.int p0), .val (.long q1), .second, .val (.long q2), .second, .val (.long q3), .second, .val (.long q4), .second, .val (.long q5), .second, .val (.ref (A0_9 p0 q1 q2 q3 q4 q5 w0 w1 w2 w3 w4 wc)), .val (.ref (A0_22 p0 q1 q2 q3 q4 q5 w0 w1 w2 w3 w4 wc)), .val (.int (A0_30 p0 q1 q2 q3 q4 q5 w0 w1 w2 w3 w4 wc)), .val (.long (J0_38_S0 p0 q1 q2 q3 q4 q5 w0 w1 w2 w3 w4 wc)), .second, .val (.long (J0_55_S0 p0 q1 q2 q3 q4 q5 w0 w1 w2 w3 w4 wc)), .second, .val (.long (J0_72_S0 p0 q1 q2 q3 q4 q5 w0 w1 w2 w3 w4 wc)), .second, .val (.int (J0_90_S0 p0 q1 q2 q3 q4 q5 w0 w1 w2 w3 w4 wc)), .val (.long (J0_109_S0 p0 q1 q2 q3 q4 q5 w0 w1 w2 w3 w4 wc)), .second, .val (.int (A0_128 p0 q1 q2 q3 q4 q5 w0 w1 w2 w3 w4 wc)), .val (.ref b13), .val (.ref b14), .val (.ref b17), .unset] [(.ref b13), (.ref b14)])) _
        refine st24.trans ?_
        show Steps p.tables e below (T24.setTop (mkF m 219 #[.val (.int p0), .val (.long q1), .second, .val (.long q2), .second, .val (.long q3), .second, .val (.long q4), .second, .val (.long q5), .second, .val (.ref (A0_9 p0 q1 q2 q3 q4 q5 w0 w1 w2 w3 w4 wc)), .val (.ref (A0_22 p0 q1 q2 q3 q4 q5 w0 w1 w2 w3 w4 wc)), .val (.int (A0_30 p0 q1 q2 q3 q4 q5 w0 w1 w2 w3 w4 wc)), .val (.long (J0_38_S0 p0 q1 q2 q3 q4 q5 w0 w1 w2 w3 w4 wc)), .second, .val (.long (J0_55_S0 p0 q1 q2 q3 q4 q5 w0 w1 w2 w3 w4 wc)), .second, .val (.long (J0_72_S0 p0 q1 q2 q3 q4 q5 w0 w1 w2 w3 w4 wc)), .second, .val (.int (J0_90_S0 p0 q1 q2 q3 q4 q5 w0 w1 w2 w3 w4 wc)), .val (.long (J0_109_S0 p0 q1 q2 q3 q4 q5 w0 w1 w2 w3 w4 wc)), .second, .val (.int (A0_128 p0 q1 q2 q3 q4 q5 w0 w1 w2 w3 w4 wc)), .val (.ref b13), .val (.ref b14), .val (.ref b17), .unset] [(.int (0 : Int32))])) _
        refine XS.ifNo X24.here hx rfl (hb hby at_219) rfl ((if0 _ _).trans (teq (by decide : (0 : Int32) = (0 : Int32))).2) ?_
        show Steps p.tables e below (T24.setTop (mkF m 222 #[.val (.int p0), .val (.long q1), .second, .val (.long q2), .second, .val (.long q3), .second, .val (.long q4), .second, .val (.long q5), .second, .val (.ref (A0_9 p0 q1 q2 q3 q4 q5 w0 w1 w2 w3 w4 wc)), .val (.ref (A0_22 p0 q1 q2 q3 q4 q5 w0 w1 w2 w3 w4 wc)), .val (.int (A0_30 p0 q1 q2 q3 q4 q5 w0 w1 w2 w3 w4 wc)), .val (.long (J0_38_S0 p0 q1 q2 q3 q4 q5 w0 w1 w2 w3 w4 wc)), .second, .val (.long (J0_55_S0 p0 q1 q2 q3 q4 q5 w0 w1 w2 w3 w4 wc)), .second, .val (.long (J0_72_S0 p0 q1 q2 q3 q4 q5 w0 w1 w2 w3 w4 wc)), .second, .val (.int (J0_90_S0 p0 q1 q2 q3 q4 q5 w0 w1 w2 w3 w4 wc)), .val (.long (J0_109_S0 p0 q1 q2 q3 q4 q5 w0 w1 w2 w3 w4 wc)), .second, .val (.int (A0_128 p0 q1 q2 q3 q4 q5 w0 w1 w2 w3 w4 wc)), .val (.ref b13), .val (.ref b14), .val (.ref b17), .unset] [])) _
        refine XS.iconst X24.here hx rfl (hb hby at_222) ?_
        show Steps p.tables e below (T24.setTop (mkF m 223 #[.val (.int p0), .val (.long q1), .second, .val (.long q2), .second, .val (.long q3), .second, .val (.long q4), .second, .val (.long q5), .second, .val (.ref (A0_9 p0 q1 q2 q3 q4 q5 w0 w1 w2 w3 w4 wc)), .val (.ref (A0_22 p0 q1 q2 q3 q4 q5 w0 w1 w2 w3 w4 wc)), .val (.int (A0_30 p0 q1 q2 q3 q4 q5 w0 w1 w2 w3 w4 wc)), .val (.long (J0_38_S0 p0 q1 q2 q3 q4 q5 w0 w1 w2 w3 w4 wc)), .second, .val (.long (J0_55_S0 p0 q1 q2 q3 q4 q5 w0 w1 w2 w3 w4 wc)), .second, .val (.long (J0_72_S0 p0 q1 q2 q3 q4 q5 w0 w1 w2 w3 w4 wc)), .second, .val (.int (J0_90_S0 p0 q1 q2 q3 q4 q5 w0 w1 w2 w3 w4 wc)), .val (.long (J0_109_S0 p0 q1 q2 q3 q4 q5 w0 w1 w2 w3 w4 wc)), .second, .val (.int (A0_128 p0 q1 q2 q3 q4 q5 w0 w1 w2 w3 w4 wc)), .val (.ref b13), .val (.ref b14), .val (.ref b17), .unset] [(.int (1 : Int32))])) _
        refine XS.goto X24.here hx rfl (pc0 := 223) (pc' := 227) rfl (hb hby at_223) (by decide) (by decide) ?_
        show Steps p.tables e below (T24.setTop (mkF m 227 #[.val (.int p0), .val (.long q1), .second, .val (.long q2), .second, .val (.long q3), .second, .val (.long q4), .second, .val (.long q5), .second, .val (.ref (A0_9 p0 q1 q2 q3 q4 q5 w0 w1 w2 w3 w4 wc)), .val (.ref (A0_22 p0 q1 q2 q3 q4 q5 w0 w1 w2 w3 w4 wc)), .val (.int (A0_30 p0 q1 q2 q3 q4 q5 w0 w1 w2 w3 w4 wc)), .val (.long (J0_38_S0 p0 q1 q2 q3 q4 q5 w0 w1 w2 w3 w4 wc)), .second, .val (.long (J0_55_S0 p0 q1 q2 q3 q4 q5 w0 w1 w2 w3 w4 wc)), .second, .val (.long (J0_72_S0 p0 q1 q2 q3 q4 q5 w0 w1 w2 w3 w4 wc)), .second, .val (.int (J0_90_S0 p0 q1 q2 q3 q4 q5 w0 w1 w2 w3 w4 wc)), .val (.long (J0_109_S0 p0 q1 q2 q3 q4 q5 w0 w1 w2 w3 w4 wc)), .second, .val (.int (A0_128 p0 q1 q2 q3 q4 q5 w0 w1 w2 w3 w4 wc)), .val (.ref b13), .val (.ref b14), .val (.ref b17), .unset] [(.int (1 : Int32))])) _
        exact retN X24 hx (t := .boolean) Bd.returns (by simp) (hb hby at_227) hr
      · show Q0 Z p0 q1 q2 q3 q4 q5 w0 w1 w2 w3 w4 wc h0 n0 _ T24.heap _
        rw [e24]
        exact ⟨(by unfold F0; simp only [if_neg hc187, if_pos hc209]), N24⟩
    · have pre25 : ∀ t, Steps p.tables e below (T20.setTop (mkF m 232 #[.val (.int p0), .val (.long q1), .second, .val (.long q2), .second, .val (.long q3), .second, .val (.long q4), .second, .val (.long q5), .second, .val (.ref (A0_9 p0 q1 q2 q3 q4 q5 w0 w1 w2 w3 w4 wc)), .val (.ref (A0_22 p0 q1 q2 q3 q4 q5 w0 w1 w2 w3 w4 wc)), .val (.int (A0_30 p0 q1 q2 q3 q4 q5 w0 w1 w2 w3 w4 wc)), .val (.long (J0_38_S0 p0 q1 q2 q3 q4 q5 w0 w1 w2 w3 w4 wc)), .second, .val (.long (J0_55_S0 p0 q1 q2 q3 q4 q5 w0 w1 w2 w3 w4 wc)), .second, .val (.long (J0_72_S0 p0 q1 q2 q3 q4 q5 w0 w1 w2 w3 w4 wc)), .second, .val (.int (J0_90_S0 p0 q1 q2 q3 q4 q5 w0 w1 w2 w3 w4 wc)), .val (.long (J0_109_S0 p0 q1 q2 q3 q4 q5 w0 w1 w2 w3 w4 wc)), .second, .val (.int (A0_128 p0 q1 q2 q3 q4 q5 w0 w1 w2 w3 w4 wc)), .val (.ref b13), .val (.ref b14), .val (.ref b17), .unset] [(.int (7 : Int32)), (.int (A0_128 p0 q1 q2 q3 q4 q5 w0 w1 w2 w3 w4 wc))])) t → Steps p.tables e below (s₁.setTop (entryFrame m #[(.int p0), (.long q1), (.long q2), (.long q3), (.long q4), (.long q5)] maxLocals)) t := fun t kt => pre23 t (by
        show Steps p.tables e below (T20.setTop (mkF m 209 #[.val (.int p0), .val (.long q1), .second, .val (.long q2), .second, .val (.long q3), .second, .val (.long q4), .second, .val (.long q5), .second, .val (.ref (A0_9 p0 q1 q2 q3 q4 q5 w0 w1 w2 w3 w4 wc)), .val (.ref (A0_22 p0 q1 q2 q3 q4 q5 w0 w1 w2 w3 w4 wc)), .val (.int (A0_30 p0 q1 q2 q3 q4 q5 w0 w1 w2 w3 w4 wc)), .val (.long (J0_38_S0 p0 q1 q2 q3 q4 q5 w0 w1 w2 w3 w4 wc)), .second, .val (.long (J0_55_S0 p0 q1 q2 q3 q4 q5 w0 w1 w2 w3 w4 wc)), .second, .val (.long (J0_72_S0 p0 q1 q2 q3 q4 q5 w0 w1 w2 w3 w4 wc)), .second, .val (.int (J0_90_S0 p0 q1 q2 q3 q4 q5 w0 w1 w2 w3 w4 wc)), .val (.long (J0_109_S0 p0 q1 q2 q3 q4 q5 w0 w1 w2 w3 w4 wc)), .second, .val (.int (A0_128 p0 q1 q2 q3 q4 q5 w0 w1 w2 w3 w4 wc)), .val (.ref b13), .val (.ref b14), .val (.ref b17), .unset] [(.int (6 : Int32)), (.int (A0_128 p0 q1 q2 q3 q4 q5 w0 w1 w2 w3 w4 wc))])) _
        refine XS.icmpYes X20.here hx rfl (pc0 := 209) (pc' := 228) rfl (hb hby at_209) rfl (feq hc209).2 (by decide) (by decide) ?_
        show Steps p.tables e below (T20.setTop (mkF m 228 #[.val (.int p0), .val (.long q1), .second, .val (.long q2), .second, .val (.long q3), .second, .val (.long q4), .second, .val (.long q5), .second, .val (.ref (A0_9 p0 q1 q2 q3 q4 q5 w0 w1 w2 w3 w4 wc)), .val (.ref (A0_22 p0 q1 q2 q3 q4 q5 w0 w1 w2 w3 w4 wc)), .val (.int (A0_30 p0 q1 q2 q3 q4 q5 w0 w1 w2 w3 w4 wc)), .val (.long (J0_38_S0 p0 q1 q2 q3 q4 q5 w0 w1 w2 w3 w4 wc)), .second, .val (.long (J0_55_S0 p0 q1 q2 q3 q4 q5 w0 w1 w2 w3 w4 wc)), .second, .val (.long (J0_72_S0 p0 q1 q2 q3 q4 q5 w0 w1 w2 w3 w4 wc)), .second, .val (.int (J0_90_S0 p0 q1 q2 q3 q4 q5 w0 w1 w2 w3 w4 wc)), .val (.long (J0_109_S0 p0 q1 q2 q3 q4 q5 w0 w1 w2 w3 w4 wc)), .second, .val (.int (A0_128 p0 q1 q2 q3 q4 q5 w0 w1 w2 w3 w4 wc)), .val (.ref b13), .val (.ref b14), .val (.ref b17), .unset] [])) _
        refine XS.iload X20.here hx rfl (hb hby at_228) rfl ?_
        show Steps p.tables e below (T20.setTop (mkF m 230 #[.val (.int p0), .val (.long q1), .second, .val (.long q2), .second, .val (.long q3), .second, .val (.long q4), .second, .val (.long q5), .second, .val (.ref (A0_9 p0 q1 q2 q3 q4 q5 w0 w1 w2 w3 w4 wc)), .val (.ref (A0_22 p0 q1 q2 q3 q4 q5 w0 w1 w2 w3 w4 wc)), .val (.int (A0_30 p0 q1 q2 q3 q4 q5 w0 w1 w2 w3 w4 wc)), .val (.long (J0_38_S0 p0 q1 q2 q3 q4 q5 w0 w1 w2 w3 w4 wc)), .second, .val (.long (J0_55_S0 p0 q1 q2 q3 q4 q5 w0 w1 w2 w3 w4 wc)), .second, .val (.long (J0_72_S0 p0 q1 q2 q3 q4 q5 w0 w1 w2 w3 w4 wc)), .second, .val (.int (J0_90_S0 p0 q1 q2 q3 q4 q5 w0 w1 w2 w3 w4 wc)), .val (.long (J0_109_S0 p0 q1 q2 q3 q4 q5 w0 w1 w2 w3 w4 wc)), .second, .val (.int (A0_128 p0 q1 q2 q3 q4 q5 w0 w1 w2 w3 w4 wc)), .val (.ref b13), .val (.ref b14), .val (.ref b17), .unset] [(.int (A0_128 p0 q1 q2 q3 q4 q5 w0 w1 w2 w3 w4 wc))])) _
        refine XS.bipush X20.here hx rfl (hb hby at_230) ?_
        exact kt)
      by_cases hc232 : (A0_128 p0 q1 q2 q3 q4 q5 w0 w1 w2 w3 w4 wc) = (7 : Int32)
      · obtain ⟨cq26, kq26, q26a, q26b, q26c⟩ := isOf hZ (rfl : T20.heap = T20.heap) (Exa.keep (Exa.ext E17 P16_0) K20c)
        obtain ⟨_, _, ⟨T26, L26, k26, n26⟩, -, X26, ⟨Lc26, hQ26, ll26, ly26, lz26⟩, st26⟩ := X20.virtualBack hx (y := (⟨"com/example/grove8/grove8/Context", "equals", "(Ljava/lang/Object;)Z"⟩ : MethodName)) (z := (⟨"com/example/grove8/grove8/Context", "equals", "(Ljava/lang/Object;)Z"⟩ : MethodName)) hown (mvT hZ (hw _ (List.mem_of_getElem? (i := 57) rfl))) (mvT hZ (hw _ (List.mem_of_getElem? (i := 58) rfl))) (notFace_of_selects (args := #[]) (mvT hZ (hw _ (List.mem_of_getElem? (i := 60) rfl)))) (mvT hZ (hw _ (List.mem_of_getElem? (i := 60) rfl))) (mvT hZ (hw _ (List.mem_of_getElem? (i := 59) rfl))) (by decide) (backOf (W := 0) (rm9e l Z a0 hw [] b14 (A0_9 p0 q1 q2 q3 q4 q5 w0 w1 w2 w3 w4 wc) q1 q2 q3 (A0_30 p0 q1 q2 q3 q4 q5 w0 w1 w2 w3 w4 wc) q4 T20.heap n0 (Nat.le_trans (Nat.le_trans (Nat.le_trans (Nat.le_trans (Nat.le_trans Z0 K13c.1) E14.1) K16c.1) E17.1) K20c.1) ((Fld.ext E17 P16_1).keep K20c (ninS ne19 nin0)) ((Fld.ext E17 P16_2).keep K20c (ninS ne19 nin0)) ((Fld.ext E17 P16_3).keep K20c (ninS ne19 nin0)) ((Fld.ext E17 P16_4).keep K20c (ninS ne19 nin0)) ((Fld.ext E17 P16_5).keep K20c (ninS ne19 nin0)) ((Fld.ext E17 P16_6).keep K20c (ninS ne19 nin0)) (Exa.keep (Exa.ext E17 P16_0) K20c)) hZ (hw _ (List.mem_of_getElem? (i := 61) rfl)) (hw _ (List.mem_of_getElem? (i := 35) rfl)) (by decide) (by decide)) q26a q26c (g := (mkF m 239 #[.val (.int p0), .val (.long q1), .second, .val (.long q2), .second, .val (.long q3), .second, .val (.long q4), .second, .val (.long q5), .second, .val (.ref (A0_9 p0 q1 q2 q3 q4 q5 w0 w1 w2 w3 w4 wc)), .val (.ref (A0_22 p0 q1 q2 q3 q4 q5 w0 w1 w2 w3 w4 wc)), .val (.int (A0_30 p0 q1 q2 q3 q4 q5 w0 w1 w2 w3 w4 wc)), .val (.long (J0_38_S0 p0 q1 q2 q3 q4 q5 w0 w1 w2 w3 w4 wc)), .second, .val (.long (J0_55_S0 p0 q1 q2 q3 q4 q5 w0 w1 w2 w3 w4 wc)), .second, .val (.long (J0_72_S0 p0 q1 q2 q3 q4 q5 w0 w1 w2 w3 w4 wc)), .second, .val (.int (J0_90_S0 p0 q1 q2 q3 q4 q5 w0 w1 w2 w3 w4 wc)), .val (.long (J0_109_S0 p0 q1 q2 q3 q4 q5 w0 w1 w2 w3 w4 wc)), .second, .val (.int (A0_128 p0 q1 q2 q3 q4 q5 w0 w1 w2 w3 w4 wc)), .val (.ref b13), .val (.ref b14), .val (.ref b17), .unset] [(.ref b14), (.ref b14)])) rfl (by rw [hml]; rfl) (Steps.refl _) (argsL := [(.ref b14)]) (rest := []) (lenOf pd__Ljava_lang_Object__Z rfl) rfl (by show 2 * 0 + _ ≤ _; exact Nat.le_of_eq rfl) (hb hby at_239) (fun _ _ => ⟨rfl, (rfl : T20.heap = T20.heap), (by decide : 4 + 0 ≤ _), (by decide : 17 + 0 ≤ _)⟩)
        dsimp only [Pt.U, Pt.locs, Pt.cells, Pt.slots] at X26 ll26 ly26 lz26 st26 hQ26
        subst ll26 ly26 lz26
        obtain ⟨rfl, N26q, e26⟩ := hQ26
        have N26 := Fr.app N20 N26q
        obtain ⟨fs, hr, hrun, hended, hW, hsame⟩ := X26.leave (v := some (.int (1 : Int32))) (fun h => by rw [Bd.returns] at h; cases h)
        refine ⟨_, _, pre25 _ ?_, hrun, hended, _, _, rfl, ?_, ⟨_, rfl⟩, hW, hsame.mono (by decide) (by decide)⟩
        · show Steps p.tables e below (T20.setTop (mkF m 232 #[.val (.int p0), .val (.long q1), .second, .val (.long q2), .second, .val (.long q3), .second, .val (.long q4), .second, .val (.long q5), .second, .val (.ref (A0_9 p0 q1 q2 q3 q4 q5 w0 w1 w2 w3 w4 wc)), .val (.ref (A0_22 p0 q1 q2 q3 q4 q5 w0 w1 w2 w3 w4 wc)), .val (.int (A0_30 p0 q1 q2 q3 q4 q5 w0 w1 w2 w3 w4 wc)), .val (.long (J0_38_S0 p0 q1 q2 q3 q4 q5 w0 w1 w2 w3 w4 wc)), .second, .val (.long (J0_55_S0 p0 q1 q2 q3 q4 q5 w0 w1 w2 w3 w4 wc)), .second, .val (.long (J0_72_S0 p0 q1 q2 q3 q4 q5 w0 w1 w2 w3 w4 wc)), .second, .val (.int (J0_90_S0 p0 q1 q2 q3 q4 q5 w0 w1 w2 w3 w4 wc)), .val (.long (J0_109_S0 p0 q1 q2 q3 q4 q5 w0 w1 w2 w3 w4 wc)), .second, .val (.int (A0_128 p0 q1 q2 q3 q4 q5 w0 w1 w2 w3 w4 wc)), .val (.ref b13), .val (.ref b14), .val (.ref b17), .unset] [(.int (7 : Int32)), (.int (A0_128 p0 q1 q2 q3 q4 q5 w0 w1 w2 w3 w4 wc))])) _
          refine XS.icmpNo X20.here hx rfl (hb hby at_232) rfl (teq hc232).2 ?_
          show Steps p.tables e below (T20.setTop (mkF m 235 #[.val (.int p0), .val (.long q1), .second, .val (.long q2), .second, .val (.long q3), .second, .val (.long q4), .second, .val (.long q5), .second, .val (.ref (A0_9 p0 q1 q2 q3 q4 q5 w0 w1 w2 w3 w4 wc)), .val (.ref (A0_22 p0 q1 q2 q3 q4 q5 w0 w1 w2 w3 w4 wc)), .val (.int (A0_30 p0 q1 q2 q3 q4 q5 w0 w1 w2 w3 w4 wc)), .val (.long (J0_38_S0 p0 q1 q2 q3 q4 q5 w0 w1 w2 w3 w4 wc)), .second, .val (.long (J0_55_S0 p0 q1 q2 q3 q4 q5 w0 w1 w2 w3 w4 wc)), .second, .val (.long (J0_72_S0 p0 q1 q2 q3 q4 q5 w0 w1 w2 w3 w4 wc)), .second, .val (.int (J0_90_S0 p0 q1 q2 q3 q4 q5 w0 w1 w2 w3 w4 wc)), .val (.long (J0_109_S0 p0 q1 q2 q3 q4 q5 w0 w1 w2 w3 w4 wc)), .second, .val (.int (A0_128 p0 q1 q2 q3 q4 q5 w0 w1 w2 w3 w4 wc)), .val (.ref b13), .val (.ref b14), .val (.ref b17), .unset] [])) _
          refine XS.aload X20.here hx rfl (hb hby at_235) rfl rfl ?_
          show Steps p.tables e below (T20.setTop (mkF m 237 #[.val (.int p0), .val (.long q1), .second, .val (.long q2), .second, .val (.long q3), .second, .val (.long q4), .second, .val (.long q5), .second, .val (.ref (A0_9 p0 q1 q2 q3 q4 q5 w0 w1 w2 w3 w4 wc)), .val (.ref (A0_22 p0 q1 q2 q3 q4 q5 w0 w1 w2 w3 w4 wc)), .val (.int (A0_30 p0 q1 q2 q3 q4 q5 w0 w1 w2 w3 w4 wc)), .val (.long (J0_38_S0 p0 q1 q2 q3 q4 q5 w0 w1 w2 w3 w4 wc)), .second, .val (.long (J0_55_S0 p0 q1 q2 q3 q4 q5 w0 w1 w2 w3 w4 wc)), .second, .val (.long (J0_72_S0 p0 q1 q2 q3 q4 q5 w0 w1 w2 w3 w4 wc)), .second, .val (.int (J0_90_S0 p0 q1 q2 q3 q4 q5 w0 w1 w2 w3 w4 wc)), .val (.long (J0_109_S0 p0 q1 q2 q3 q4 q5 w0 w1 w2 w3 w4 wc)), .second, .val (.int (A0_128 p0 q1 q2 q3 q4 q5 w0 w1 w2 w3 w4 wc)), .val (.ref b13), .val (.ref b14), .val (.ref b17), .unset] [(.ref b14)])) _
          refine XS.aload X20.here hx rfl (hb hby at_237) rfl rfl ?_
          show Steps p.tables e below (T20.setTop (mkF m 239 #[.val (.int p0), .val (.long q1), .second, .val (.long q2), .second, .val (.long q3), .second, .val (.long q4), .second, .val (.long q5), .second, .val (.ref (A0_9 p0 q1 q2 q3 q4 q5 w0 w1 w2 w3 w4 wc)), .val (.ref (A0_22 p0 q1 q2 q3 q4 q5 w0 w1 w2 w3 w4 wc)), .val (.int (A0_30 p0 q1 q2 q3 q4 q5 w0 w1 w2 w3 w4 wc)), .val (.long (J0_38_S0 p0 q1 q2 q3 q4 q5 w0 w1 w2 w3 w4 wc)), .second, .val (.long (J0_55_S0 p0 q1 q2 q3 q4 q5 w0 w1 w2 w3 w4 wc)), .second, .val (.long (J0_72_S0 p0 q1 q2 q3 q4 q5 w0 w1 w2 w3 w4 wc)), .second, .val (.int (J0_90_S0 p0 q1 q2 q3 q4 q5 w0 w1 w2 w3 w4 wc)), .val (.long (J0_109_S0 p0 q1 q2 q3 q4 q5 w0 w1 w2 w3 w4 wc)), .second, .val (.int (A0_128 p0 q1 q2 q3 q4 q5 w0 w1 w2 w3 w4 wc)), .val (.ref b13), .val (.ref b14), .val (.ref b17), .unset] [(.ref b14), (.ref b14)])) _
          refine st26.trans ?_
          show Steps p.tables e below (T26.setTop (mkF m 242 #[.val (.int p0), .val (.long q1), .second, .val (.long q2), .second, .val (.long q3), .second, .val (.long q4), .second, .val (.long q5), .second, .val (.ref (A0_9 p0 q1 q2 q3 q4 q5 w0 w1 w2 w3 w4 wc)), .val (.ref (A0_22 p0 q1 q2 q3 q4 q5 w0 w1 w2 w3 w4 wc)), .val (.int (A0_30 p0 q1 q2 q3 q4 q5 w0 w1 w2 w3 w4 wc)), .val (.long (J0_38_S0 p0 q1 q2 q3 q4 q5 w0 w1 w2 w3 w4 wc)), .second, .val (.long (J0_55_S0 p0 q1 q2 q3 q4 q5 w0 w1 w2 w3 w4 wc)), .second, .val (.long (J0_72_S0 p0 q1 q2 q3 q4 q5 w0 w1 w2 w3 w4 wc)), .second, .val (.int (J0_90_S0 p0 q1 q2 q3 q4 q5 w0 w1 w2 w3 w4 wc)), .val (.long (J0_109_S0 p0 q1 q2 q3 q4 q5 w0 w1 w2 w3 w4 wc)), .second, .val (.int (A0_128 p0 q1 q2 q3 q4 q5 w0 w1 w2 w3 w4 wc)), .val (.ref b13), .val (.ref b14), .val (.ref b17), .unset] [(.int (1 : Int32))])) _
          exact retN X26 hx (t := .boolean) Bd.returns (by simp) (hb hby at_242) hr
        · show Q0 Z p0 q1 q2 q3 q4 q5 w0 w1 w2 w3 w4 wc h0 n0 _ T26.heap _
          rw [e26]
          exact ⟨(by unfold F0; simp only [if_neg hc187, if_neg hc209, if_pos hc232]), N26⟩
      · have pre27 : ∀ t, Steps p.tables e below (T20.setTop (mkF m 247 #[.val (.int p0), .val (.long q1), .second, .val (.long q2), .second, .val (.long q3), .second, .val (.long q4), .second, .val (.long q5), .second, .val (.ref (A0_9 p0 q1 q2 q3 q4 q5 w0 w1 w2 w3 w4 wc)), .val (.ref (A0_22 p0 q1 q2 q3 q4 q5 w0 w1 w2 w3 w4 wc)), .val (.int (A0_30 p0 q1 q2 q3 q4 q5 w0 w1 w2 w3 w4 wc)), .val (.long (J0_38_S0 p0 q1 q2 q3 q4 q5 w0 w1 w2 w3 w4 wc)), .second, .val (.long (J0_55_S0 p0 q1 q2 q3 q4 q5 w0 w1 w2 w3 w4 wc)), .second, .val (.long (J0_72_S0 p0 q1 q2 q3 q4 q5 w0 w1 w2 w3 w4 wc)), .second, .val (.int (J0_90_S0 p0 q1 q2 q3 q4 q5 w0 w1 w2 w3 w4 wc)), .val (.long (J0_109_S0 p0 q1 q2 q3 q4 q5 w0 w1 w2 w3 w4 wc)), .second, .val (.int (A0_128 p0 q1 q2 q3 q4 q5 w0 w1 w2 w3 w4 wc)), .val (.ref b13), .val (.ref b14), .val (.ref b17), .unset] [(.ref (A0_22 p0 q1 q2 q3 q4 q5 w0 w1 w2 w3 w4 wc)), (.ref (A0_9 p0 q1 q2 q3 q4 q5 w0 w1 w2 w3 w4 wc))])) t → Steps p.tables e below (s₁.setTop (entryFrame m #[(.int p0), (.long q1), (.long q2), (.long q3), (.long q4), (.long q5)] maxLocals)) t := fun t kt => pre25 t (by
          show Steps p.tables e below (T20.setTop (mkF m 232 #[.val (.int p0), .val (.long q1), .second, .val (.long q2), .second, .val (.long q3), .second, .val (.long q4), .second, .val (.long q5), .second, .val (.ref (A0_9 p0 q1 q2 q3 q4 q5 w0 w1 w2 w3 w4 wc)), .val (.ref (A0_22 p0 q1 q2 q3 q4 q5 w0 w1 w2 w3 w4 wc)), .val (.int (A0_30 p0 q1 q2 q3 q4 q5 w0 w1 w2 w3 w4 wc)), .val (.long (J0_38_S0 p0 q1 q2 q3 q4 q5 w0 w1 w2 w3 w4 wc)), .second, .val (.long (J0_55_S0 p0 q1 q2 q3 q4 q5 w0 w1 w2 w3 w4 wc)), .second, .val (.long (J0_72_S0 p0 q1 q2 q3 q4 q5 w0 w1 w2 w3 w4 wc)), .second, .val (.int (J0_90_S0 p0 q1 q2 q3 q4 q5 w0 w1 w2 w3 w4 wc)), .val (.long (J0_109_S0 p0 q1 q2 q3 q4 q5 w0 w1 w2 w3 w4 wc)), .second, .val (.int (A0_128 p0 q1 q2 q3 q4 q5 w0 w1 w2 w3 w4 wc)), .val (.ref b13), .val (.ref b14), .val (.ref b17), .unset] [(.int (7 : Int32)), (.int (A0_128 p0 q1 q2 q3 q4 q5 w0 w1 w2 w3 w4 wc))])) _
          refine XS.icmpYes X20.here hx rfl (pc0 := 232) (pc' := 243) rfl (hb hby at_232) rfl (feq hc232).2 (by decide) (by decide) ?_
          show Steps p.tables e below (T20.setTop (mkF m 243 #[.val (.int p0), .val (.long q1), .second, .val (.long q2), .second, .val (.long q3), .second, .val (.long q4), .second, .val (.long q5), .second, .val (.ref (A0_9 p0 q1 q2 q3 q4 q5 w0 w1 w2 w3 w4 wc)), .val (.ref (A0_22 p0 q1 q2 q3 q4 q5 w0 w1 w2 w3 w4 wc)), .val (.int (A0_30 p0 q1 q2 q3 q4 q5 w0 w1 w2 w3 w4 wc)), .val (.long (J0_38_S0 p0 q1 q2 q3 q4 q5 w0 w1 w2 w3 w4 wc)), .second, .val (.long (J0_55_S0 p0 q1 q2 q3 q4 q5 w0 w1 w2 w3 w4 wc)), .second, .val (.long (J0_72_S0 p0 q1 q2 q3 q4 q5 w0 w1 w2 w3 w4 wc)), .second, .val (.int (J0_90_S0 p0 q1 q2 q3 q4 q5 w0 w1 w2 w3 w4 wc)), .val (.long (J0_109_S0 p0 q1 q2 q3 q4 q5 w0 w1 w2 w3 w4 wc)), .second, .val (.int (A0_128 p0 q1 q2 q3 q4 q5 w0 w1 w2 w3 w4 wc)), .val (.ref b13), .val (.ref b14), .val (.ref b17), .unset] [])) _
          refine XS.aload X20.here hx rfl (hb hby at_243) rfl rfl ?_
          show Steps p.tables e below (T20.setTop (mkF m 245 #[.val (.int p0), .val (.long q1), .second, .val (.long q2), .second, .val (.long q3), .second, .val (.long q4), .second, .val (.long q5), .second, .val (.ref (A0_9 p0 q1 q2 q3 q4 q5 w0 w1 w2 w3 w4 wc)), .val (.ref (A0_22 p0 q1 q2 q3 q4 q5 w0 w1 w2 w3 w4 wc)), .val (.int (A0_30 p0 q1 q2 q3 q4 q5 w0 w1 w2 w3 w4 wc)), .val (.long (J0_38_S0 p0 q1 q2 q3 q4 q5 w0 w1 w2 w3 w4 wc)), .second, .val (.long (J0_55_S0 p0 q1 q2 q3 q4 q5 w0 w1 w2 w3 w4 wc)), .second, .val (.long (J0_72_S0 p0 q1 q2 q3 q4 q5 w0 w1 w2 w3 w4 wc)), .second, .val (.int (J0_90_S0 p0 q1 q2 q3 q4 q5 w0 w1 w2 w3 w4 wc)), .val (.long (J0_109_S0 p0 q1 q2 q3 q4 q5 w0 w1 w2 w3 w4 wc)), .second, .val (.int (A0_128 p0 q1 q2 q3 q4 q5 w0 w1 w2 w3 w4 wc)), .val (.ref b13), .val (.ref b14), .val (.ref b17), .unset] [(.ref (A0_9 p0 q1 q2 q3 q4 q5 w0 w1 w2 w3 w4 wc))])) _
          refine XS.aload X20.here hx rfl (hb hby at_245) rfl rfl ?_
          exact kt)
        obtain ⟨Tj33, lj33, Xj33, Nj33, ej33, pre33⟩ : ∃ (T' : State) (locs' : List Loc), Stand p l e room_1 s m #[(.int p0), (.long q1), (.long q2), (.long q3), (.long q4), (.long q5)] below meth c T' locs' 4 17 ∧ Fr n0 locs' ∧ T'.heap = T20.heap ∧ ∀ t, Steps p.tables e below (T'.setTop (mkF m 292 #[.val (.int p0), .val (.long q1), .second, .val (.long q2), .second, .val (.long q3), .second, .val (.long q4), .second, .val (.long q5), .second, .val (.ref (A0_9 p0 q1 q2 q3 q4 q5 w0 w1 w2 w3 w4 wc)), .val (.ref (A0_22 p0 q1 q2 q3 q4 q5 w0 w1 w2 w3 w4 wc)), .val (.int (A0_30 p0 q1 q2 q3 q4 q5 w0 w1 w2 w3 w4 wc)), .val (.long (J0_38_S0 p0 q1 q2 q3 q4 q5 w0 w1 w2 w3 w4 wc)), .second, .val (.long (J0_55_S0 p0 q1 q2 q3 q4 q5 w0 w1 w2 w3 w4 wc)), .second, .val (.long (J0_72_S0 p0 q1 q2 q3 q4 q5 w0 w1 w2 w3 w4 wc)), .second, .val (.int (J0_90_S0 p0 q1 q2 q3 q4 q5 w0 w1 w2 w3 w4 wc)), .val (.long (J0_109_S0 p0 q1 q2 q3 q4 q5 w0 w1 w2 w3 w4 wc)), .second, .val (.int (A0_128 p0 q1 q2 q3 q4 q5 w0 w1 w2 w3 w4 wc)), .val (.ref b13), .val (.ref b14), .val (.ref b17), .unset] [(.int (J0_247_S0 p0 q1 q2 q3 q4 q5 w0 w1 w2 w3 w4 wc))])) t → Steps p.tables e below (s₁.setTop (entryFrame m #[(.int p0), (.long q1), (.long q2), (.long q3), (.long q4), (.long q5)] maxLocals)) t := by
          by_cases ha247 : (A0_9 p0 q1 q2 q3 q4 q5 w0 w1 w2 w3 w4 wc) = (A0_22 p0 q1 q2 q3 q4 q5 w0 w1 w2 w3 w4 wc)
          · have pre28 : ∀ t, Steps p.tables e below (T20.setTop (mkF m 254 #[.val (.int p0), .val (.long q1), .second, .val (.long q2), .second, .val (.long q3), .second, .val (.long q4), .second, .val (.long q5), .second, .val (.ref (A0_9 p0 q1 q2 q3 q4 q5 w0 w1 w2 w3 w4 wc)), .val (.ref (A0_22 p0 q1 q2 q3 q4 q5 w0 w1 w2 w3 w4 wc)), .val (.int (A0_30 p0 q1 q2 q3 q4 q5 w0 w1 w2 w3 w4 wc)), .val (.long (J0_38_S0 p0 q1 q2 q3 q4 q5 w0 w1 w2 w3 w4 wc)), .second, .val (.long (J0_55_S0 p0 q1 q2 q3 q4 q5 w0 w1 w2 w3 w4 wc)), .second, .val (.long (J0_72_S0 p0 q1 q2 q3 q4 q5 w0 w1 w2 w3 w4 wc)), .second, .val (.int (J0_90_S0 p0 q1 q2 q3 q4 q5 w0 w1 w2 w3 w4 wc)), .val (.long (J0_109_S0 p0 q1 q2 q3 q4 q5 w0 w1 w2 w3 w4 wc)), .second, .val (.int (A0_128 p0 q1 q2 q3 q4 q5 w0 w1 w2 w3 w4 wc)), .val (.ref b13), .val (.ref b14), .val (.ref b17), .unset] [(.int (lcmpW q1 (J0_38_S0 p0 q1 q2 q3 q4 q5 w0 w1 w2 w3 w4 wc)))])) t → Steps p.tables e below (s₁.setTop (entryFrame m #[(.int p0), (.long q1), (.long q2), (.long q3), (.long q4), (.long q5)] maxLocals)) t := fun t kt => pre27 t (by
              show Steps p.tables e below (T20.setTop (mkF m 247 #[.val (.int p0), .val (.long q1), .second, .val (.long q2), .second, .val (.long q3), .second, .val (.long q4), .second, .val (.long q5), .second, .val (.ref (A0_9 p0 q1 q2 q3 q4 q5 w0 w1 w2 w3 w4 wc)), .val (.ref (A0_22 p0 q1 q2 q3 q4 q5 w0 w1 w2 w3 w4 wc)), .val (.int (A0_30 p0 q1 q2 q3 q4 q5 w0 w1 w2 w3 w4 wc)), .val (.long (J0_38_S0 p0 q1 q2 q3 q4 q5 w0 w1 w2 w3 w4 wc)), .second, .val (.long (J0_55_S0 p0 q1 q2 q3 q4 q5 w0 w1 w2 w3 w4 wc)), .second, .val (.long (J0_72_S0 p0 q1 q2 q3 q4 q5 w0 w1 w2 w3 w4 wc)), .second, .val (.int (J0_90_S0 p0 q1 q2 q3 q4 q5 w0 w1 w2 w3 w4 wc)), .val (.long (J0_109_S0 p0 q1 q2 q3 q4 q5 w0 w1 w2 w3 w4 wc)), .second, .val (.int (A0_128 p0 q1 q2 q3 q4 q5 w0 w1 w2 w3 w4 wc)), .val (.ref b13), .val (.ref b14), .val (.ref b17), .unset] [(.ref (A0_22 p0 q1 q2 q3 q4 q5 w0 w1 w2 w3 w4 wc)), (.ref (A0_9 p0 q1 q2 q3 q4 q5 w0 w1 w2 w3 w4 wc))])) _
              refine Jvm.RoadKit.acmp (g := (mkF m 247 #[.val (.int p0), .val (.long q1), .second, .val (.long q2), .second, .val (.long q3), .second, .val (.long q4), .second, .val (.long q5), .second, .val (.ref (A0_9 p0 q1 q2 q3 q4 q5 w0 w1 w2 w3 w4 wc)), .val (.ref (A0_22 p0 q1 q2 q3 q4 q5 w0 w1 w2 w3 w4 wc)), .val (.int (A0_30 p0 q1 q2 q3 q4 q5 w0 w1 w2 w3 w4 wc)), .val (.long (J0_38_S0 p0 q1 q2 q3 q4 q5 w0 w1 w2 w3 w4 wc)), .second, .val (.long (J0_55_S0 p0 q1 q2 q3 q4 q5 w0 w1 w2 w3 w4 wc)), .second, .val (.long (J0_72_S0 p0 q1 q2 q3 q4 q5 w0 w1 w2 w3 w4 wc)), .second, .val (.int (J0_90_S0 p0 q1 q2 q3 q4 q5 w0 w1 w2 w3 w4 wc)), .val (.long (J0_109_S0 p0 q1 q2 q3 q4 q5 w0 w1 w2 w3 w4 wc)), .second, .val (.int (A0_128 p0 q1 q2 q3 q4 q5 w0 w1 w2 w3 w4 wc)), .val (.ref b13), .val (.ref b14), .val (.ref b17), .unset] [(.ref (A0_22 p0 q1 q2 q3 q4 q5 w0 w1 w2 w3 w4 wc)), (.ref (A0_9 p0 q1 q2 q3 q4 q5 w0 w1 w2 w3 w4 wc))])) X20 hx rfl rfl rfl (pc0 := 247) (pc' := 250) (same := true) rfl (hb hby at_247) rfl (decide_eq_true (congrArg Value.ref ha247)) (by decide) (by decide) ?_
              show Steps p.tables e below (T20.setTop (mkF m 250 #[.val (.int p0), .val (.long q1), .second, .val (.long q2), .second, .val (.long q3), .second, .val (.long q4), .second, .val (.long q5), .second, .val (.ref (A0_9 p0 q1 q2 q3 q4 q5 w0 w1 w2 w3 w4 wc)), .val (.ref (A0_22 p0 q1 q2 q3 q4 q5 w0 w1 w2 w3 w4 wc)), .val (.int (A0_30 p0 q1 q2 q3 q4 q5 w0 w1 w2 w3 w4 wc)), .val (.long (J0_38_S0 p0 q1 q2 q3 q4 q5 w0 w1 w2 w3 w4 wc)), .second, .val (.long (J0_55_S0 p0 q1 q2 q3 q4 q5 w0 w1 w2 w3 w4 wc)), .second, .val (.long (J0_72_S0 p0 q1 q2 q3 q4 q5 w0 w1 w2 w3 w4 wc)), .second, .val (.int (J0_90_S0 p0 q1 q2 q3 q4 q5 w0 w1 w2 w3 w4 wc)), .val (.long (J0_109_S0 p0 q1 q2 q3 q4 q5 w0 w1 w2 w3 w4 wc)), .second, .val (.int (A0_128 p0 q1 q2 q3 q4 q5 w0 w1 w2 w3 w4 wc)), .val (.ref b13), .val (.ref b14), .val (.ref b17), .unset] [])) _
              refine XS.lloadN X20.here hx rfl (hb hby at_250) rfl ?_
              show Steps p.tables e below (T20.setTop (mkF m 251 #[.val (.int p0), .val (.long q1), .second, .val (.long q2), .second, .val (.long q3), .second, .val (.long q4), .second, .val (.long q5), .second, .val (.ref (A0_9 p0 q1 q2 q3 q4 q5 w0 w1 w2 w3 w4 wc)), .val (.ref (A0_22 p0 q1 q2 q3 q4 q5 w0 w1 w2 w3 w4 wc)), .val (.int (A0_30 p0 q1 q2 q3 q4 q5 w0 w1 w2 w3 w4 wc)), .val (.long (J0_38_S0 p0 q1 q2 q3 q4 q5 w0 w1 w2 w3 w4 wc)), .second, .val (.long (J0_55_S0 p0 q1 q2 q3 q4 q5 w0 w1 w2 w3 w4 wc)), .second, .val (.long (J0_72_S0 p0 q1 q2 q3 q4 q5 w0 w1 w2 w3 w4 wc)), .second, .val (.int (J0_90_S0 p0 q1 q2 q3 q4 q5 w0 w1 w2 w3 w4 wc)), .val (.long (J0_109_S0 p0 q1 q2 q3 q4 q5 w0 w1 w2 w3 w4 wc)), .second, .val (.int (A0_128 p0 q1 q2 q3 q4 q5 w0 w1 w2 w3 w4 wc)), .val (.ref b13), .val (.ref b14), .val (.ref b17), .unset] [(.long q1)])) _
              refine XS.lload X20.here hx rfl (hb hby at_251) rfl ?_
              show Steps p.tables e below (T20.setTop (mkF m 253 #[.val (.int p0), .val (.long q1), .second, .val (.long q2), .second, .val (.long q3), .second, .val (.long q4), .second, .val (.long q5), .second, .val (.ref (A0_9 p0 q1 q2 q3 q4 q5 w0 w1 w2 w3 w4 wc)), .val (.ref (A0_22 p0 q1 q2 q3 q4 q5 w0 w1 w2 w3 w4 wc)), .val (.int (A0_30 p0 q1 q2 q3 q4 q5 w0 w1 w2 w3 w4 wc)), .val (.long (J0_38_S0 p0 q1 q2 q3 q4 q5 w0 w1 w2 w3 w4 wc)), .second, .val (.long (J0_55_S0 p0 q1 q2 q3 q4 q5 w0 w1 w2 w3 w4 wc)), .second, .val (.long (J0_72_S0 p0 q1 q2 q3 q4 q5 w0 w1 w2 w3 w4 wc)), .second, .val (.int (J0_90_S0 p0 q1 q2 q3 q4 q5 w0 w1 w2 w3 w4 wc)), .val (.long (J0_109_S0 p0 q1 q2 q3 q4 q5 w0 w1 w2 w3 w4 wc)), .second, .val (.int (A0_128 p0 q1 q2 q3 q4 q5 w0 w1 w2 w3 w4 wc)), .val (.ref b13), .val (.ref b14), .val (.ref b17), .unset] [(.long (J0_38_S0 p0 q1 q2 q3 q4 q5 w0 w1 w2 w3 w4 wc)), (.long q1)])) _
              refine XS.lcmp X20.here hx rfl (hb hby at_253) rfl ?_
              exact kt)
            by_cases hc254 : (lcmpW q1 (J0_38_S0 p0 q1 q2 q3 q4 q5 w0 w1 w2 w3 w4 wc)) = (0 : Int32)
            · have pre29 : ∀ t, Steps p.tables e below (T20.setTop (mkF m 261 #[.val (.int p0), .val (.long q1), .second, .val (.long q2), .second, .val (.long q3), .second, .val (.long q4), .second, .val (.long q5), .second, .val (.ref (A0_9 p0 q1 q2 q3 q4 q5 w0 w1 w2 w3 w4 wc)), .val (.ref (A0_22 p0 q1 q2 q3 q4 q5 w0 w1 w2 w3 w4 wc)), .val (.int (A0_30 p0 q1 q2 q3 q4 q5 w0 w1 w2 w3 w4 wc)), .val (.long (J0_38_S0 p0 q1 q2 q3 q4 q5 w0 w1 w2 w3 w4 wc)), .second, .val (.long (J0_55_S0 p0 q1 q2 q3 q4 q5 w0 w1 w2 w3 w4 wc)), .second, .val (.long (J0_72_S0 p0 q1 q2 q3 q4 q5 w0 w1 w2 w3 w4 wc)), .second, .val (.int (J0_90_S0 p0 q1 q2 q3 q4 q5 w0 w1 w2 w3 w4 wc)), .val (.long (J0_109_S0 p0 q1 q2 q3 q4 q5 w0 w1 w2 w3 w4 wc)), .second, .val (.int (A0_128 p0 q1 q2 q3 q4 q5 w0 w1 w2 w3 w4 wc)), .val (.ref b13), .val (.ref b14), .val (.ref b17), .unset] [(.int (lcmpW q2 (J0_55_S0 p0 q1 q2 q3 q4 q5 w0 w1 w2 w3 w4 wc)))])) t → Steps p.tables e below (s₁.setTop (entryFrame m #[(.int p0), (.long q1), (.long q2), (.long q3), (.long q4), (.long q5)] maxLocals)) t := fun t kt => pre28 t (by
                show Steps p.tables e below (T20.setTop (mkF m 254 #[.val (.int p0), .val (.long q1), .second, .val (.long q2), .second, .val (.long q3), .second, .val (.long q4), .second, .val (.long q5), .second, .val (.ref (A0_9 p0 q1 q2 q3 q4 q5 w0 w1 w2 w3 w4 wc)), .val (.ref (A0_22 p0 q1 q2 q3 q4 q5 w0 w1 w2 w3 w4 wc)), .val (.int (A0_30 p0 q1 q2 q3 q4 q5 w0 w1 w2 w3 w4 wc)), .val (.long (J0_38_S0 p0 q1 q2 q3 q4 q5 w0 w1 w2 w3 w4 wc)), .second, .val (.long (J0_55_S0 p0 q1 q2 q3 q4 q5 w0 w1 w2 w3 w4 wc)), .second, .val (.long (J0_72_S0 p0 q1 q2 q3 q4 q5 w0 w1 w2 w3 w4 wc)), .second, .val (.int (J0_90_S0 p0 q1 q2 q3 q4 q5 w0 w1 w2 w3 w4 wc)), .val (.long (J0_109_S0 p0 q1 q2 q3 q4 q5 w0 w1 w2 w3 w4 wc)), .second, .val (.int (A0_128 p0 q1 q2 q3 q4 q5 w0 w1 w2 w3 w4 wc)), .val (.ref b13), .val (.ref b14), .val (.ref b17), .unset] [(.int (lcmpW q1 (J0_38_S0 p0 q1 q2 q3 q4 q5 w0 w1 w2 w3 w4 wc)))])) _
                refine XS.ifNo X20.here hx rfl (hb hby at_254) rfl ((if0 _ _).trans (teq hc254).2) ?_
                show Steps p.tables e below (T20.setTop (mkF m 257 #[.val (.int p0), .val (.long q1), .second, .val (.long q2), .second, .val (.long q3), .second, .val (.long q4), .second, .val (.long q5), .second, .val (.ref (A0_9 p0 q1 q2 q3 q4 q5 w0 w1 w2 w3 w4 wc)), .val (.ref (A0_22 p0 q1 q2 q3 q4 q5 w0 w1 w2 w3 w4 wc)), .val (.int (A0_30 p0 q1 q2 q3 q4 q5 w0 w1 w2 w3 w4 wc)), .val (.long (J0_38_S0 p0 q1 q2 q3 q4 q5 w0 w1 w2 w3 w4 wc)), .second, .val (.long (J0_55_S0 p0 q1 q2 q3 q4 q5 w0 w1 w2 w3 w4 wc)), .second, .val (.long (J0_72_S0 p0 q1 q2 q3 q4 q5 w0 w1 w2 w3 w4 wc)), .second, .val (.int (J0_90_S0 p0 q1 q2 q3 q4 q5 w0 w1 w2 w3 w4 wc)), .val (.long (J0_109_S0 p0 q1 q2 q3 q4 q5 w0 w1 w2 w3 w4 wc)), .second, .val (.int (A0_128 p0 q1 q2 q3 q4 q5 w0 w1 w2 w3 w4 wc)), .val (.ref b13), .val (.ref b14), .val (.ref b17), .unset] [])) _
                refine XS.lloadN X20.here hx rfl (hb hby at_257) rfl ?_
                show Steps p.tables e below (T20.setTop (mkF m 258 #[.val (.int p0), .val (.long q1), .second, .val (.long q2), .second, .val (.long q3), .second, .val (.long q4), .second, .val (.long q5), .second, .val (.ref (A0_9 p0 q1 q2 q3 q4 q5 w0 w1 w2 w3 w4 wc)), .val (.ref (A0_22 p0 q1 q2 q3 q4 q5 w0 w1 w2 w3 w4 wc)), .val (.int (A0_30 p0 q1 q2 q3 q4 q5 w0 w1 w2 w3 w4 wc)), .val (.long (J0_38_S0 p0 q1 q2 q3 q4 q5 w0 w1 w2 w3 w4 wc)), .second, .val (.long (J0_55_S0 p0 q1 q2 q3 q4 q5 w0 w1 w2 w3 w4 wc)), .second, .val (.long (J0_72_S0 p0 q1 q2 q3 q4 q5 w0 w1 w2 w3 w4 wc)), .second, .val (.int (J0_90_S0 p0 q1 q2 q3 q4 q5 w0 w1 w2 w3 w4 wc)), .val (.long (J0_109_S0 p0 q1 q2 q3 q4 q5 w0 w1 w2 w3 w4 wc)), .second, .val (.int (A0_128 p0 q1 q2 q3 q4 q5 w0 w1 w2 w3 w4 wc)), .val (.ref b13), .val (.ref b14), .val (.ref b17), .unset] [(.long q2)])) _
                refine XS.lload X20.here hx rfl (hb hby at_258) rfl ?_
                show Steps p.tables e below (T20.setTop (mkF m 260 #[.val (.int p0), .val (.long q1), .second, .val (.long q2), .second, .val (.long q3), .second, .val (.long q4), .second, .val (.long q5), .second, .val (.ref (A0_9 p0 q1 q2 q3 q4 q5 w0 w1 w2 w3 w4 wc)), .val (.ref (A0_22 p0 q1 q2 q3 q4 q5 w0 w1 w2 w3 w4 wc)), .val (.int (A0_30 p0 q1 q2 q3 q4 q5 w0 w1 w2 w3 w4 wc)), .val (.long (J0_38_S0 p0 q1 q2 q3 q4 q5 w0 w1 w2 w3 w4 wc)), .second, .val (.long (J0_55_S0 p0 q1 q2 q3 q4 q5 w0 w1 w2 w3 w4 wc)), .second, .val (.long (J0_72_S0 p0 q1 q2 q3 q4 q5 w0 w1 w2 w3 w4 wc)), .second, .val (.int (J0_90_S0 p0 q1 q2 q3 q4 q5 w0 w1 w2 w3 w4 wc)), .val (.long (J0_109_S0 p0 q1 q2 q3 q4 q5 w0 w1 w2 w3 w4 wc)), .second, .val (.int (A0_128 p0 q1 q2 q3 q4 q5 w0 w1 w2 w3 w4 wc)), .val (.ref b13), .val (.ref b14), .val (.ref b17), .unset] [(.long (J0_55_S0 p0 q1 q2 q3 q4 q5 w0 w1 w2 w3 w4 wc)), (.long q2)])) _
                refine XS.lcmp X20.here hx rfl (hb hby at_260) rfl ?_
                exact kt)
              by_cases hc261 : (lcmpW q2 (J0_55_S0 p0 q1 q2 q3 q4 q5 w0 w1 w2 w3 w4 wc)) = (0 : Int32)
              · have pre30 : ∀ t, Steps p.tables e below (T20.setTop (mkF m 269 #[.val (.int p0), .val (.long q1), .second, .val (.long q2), .second, .val (.long q3), .second, .val (.long q4), .second, .val (.long q5), .second, .val (.ref (A0_9 p0 q1 q2 q3 q4 q5 w0 w1 w2 w3 w4 wc)), .val (.ref (A0_22 p0 q1 q2 q3 q4 q5 w0 w1 w2 w3 w4 wc)), .val (.int (A0_30 p0 q1 q2 q3 q4 q5 w0 w1 w2 w3 w4 wc)), .val (.long (J0_38_S0 p0 q1 q2 q3 q4 q5 w0 w1 w2 w3 w4 wc)), .second, .val (.long (J0_55_S0 p0 q1 q2 q3 q4 q5 w0 w1 w2 w3 w4 wc)), .second, .val (.long (J0_72_S0 p0 q1 q2 q3 q4 q5 w0 w1 w2 w3 w4 wc)), .second, .val (.int (J0_90_S0 p0 q1 q2 q3 q4 q5 w0 w1 w2 w3 w4 wc)), .val (.long (J0_109_S0 p0 q1 q2 q3 q4 q5 w0 w1 w2 w3 w4 wc)), .second, .val (.int (A0_128 p0 q1 q2 q3 q4 q5 w0 w1 w2 w3 w4 wc)), .val (.ref b13), .val (.ref b14), .val (.ref b17), .unset] [(.int (lcmpW q3 (J0_72_S0 p0 q1 q2 q3 q4 q5 w0 w1 w2 w3 w4 wc)))])) t → Steps p.tables e below (s₁.setTop (entryFrame m #[(.int p0), (.long q1), (.long q2), (.long q3), (.long q4), (.long q5)] maxLocals)) t := fun t kt => pre29 t (by
                  show Steps p.tables e below (T20.setTop (mkF m 261 #[.val (.int p0), .val (.long q1), .second, .val (.long q2), .second, .val (.long q3), .second, .val (.long q4), .second, .val (.long q5), .second, .val (.ref (A0_9 p0 q1 q2 q3 q4 q5 w0 w1 w2 w3 w4 wc)), .val (.ref (A0_22 p0 q1 q2 q3 q4 q5 w0 w1 w2 w3 w4 wc)), .val (.int (A0_30 p0 q1 q2 q3 q4 q5 w0 w1 w2 w3 w4 wc)), .val (.long (J0_38_S0 p0 q1 q2 q3 q4 q5 w0 w1 w2 w3 w4 wc)), .second, .val (.long (J0_55_S0 p0 q1 q2 q3 q4 q5 w0 w1 w2 w3 w4 wc)), .second, .val (.long (J0_72_S0 p0 q1 q2 q3 q4 q5 w0 w1 w2 w3 w4 wc)), .second, .val (.int (J0_90_S0 p0 q1 q2 q3 q4 q5 w0 w1 w2 w3 w4 wc)), .val (.long (J0_109_S0 p0 q1 q2 q3 q4 q5 w0 w1 w2 w3 w4 wc)), .second, .val (.int (A0_128 p0 q1 q2 q3 q4 q5 w0 w1 w2 w3 w4 wc)), .val (.ref b13), .val (.ref b14), .val (.ref b17), .unset] [(.int (lcmpW q2 (J0_55_S0 p0 q1 q2 q3 q4 q5 w0 w1 w2 w3 w4 wc)))])) _
                  refine XS.ifNo X20.here hx rfl (hb hby at_261) rfl ((if0 _ _).trans (teq hc261).2) ?_
                  show Steps p.tables e below (T20.setTop (mkF m 264 #[.val (.int p0), .val (.long q1), .second, .val (.long q2), .second, .val (.long q3), .second, .val (.long q4), .second, .val (.long q5), .second, .val (.ref (A0_9 p0 q1 q2 q3 q4 q5 w0 w1 w2 w3 w4 wc)), .val (.ref (A0_22 p0 q1 q2 q3 q4 q5 w0 w1 w2 w3 w4 wc)), .val (.int (A0_30 p0 q1 q2 q3 q4 q5 w0 w1 w2 w3 w4 wc)), .val (.long (J0_38_S0 p0 q1 q2 q3 q4 q5 w0 w1 w2 w3 w4 wc)), .second, .val (.long (J0_55_S0 p0 q1 q2 q3 q4 q5 w0 w1 w2 w3 w4 wc)), .second, .val (.long (J0_72_S0 p0 q1 q2 q3 q4 q5 w0 w1 w2 w3 w4 wc)), .second, .val (.int (J0_90_S0 p0 q1 q2 q3 q4 q5 w0 w1 w2 w3 w4 wc)), .val (.long (J0_109_S0 p0 q1 q2 q3 q4 q5 w0 w1 w2 w3 w4 wc)), .second, .val (.int (A0_128 p0 q1 q2 q3 q4 q5 w0 w1 w2 w3 w4 wc)), .val (.ref b13), .val (.ref b14), .val (.ref b17), .unset] [])) _
                  refine XS.lload X20.here hx rfl (hb hby at_264) rfl ?_
                  show Steps p.tables e below (T20.setTop (mkF m 266 #[.val (.int p0), .val (.long q1), .second, .val (.long q2), .second, .val (.long q3), .second, .val (.long q4), .second, .val (.long q5), .second, .val (.ref (A0_9 p0 q1 q2 q3 q4 q5 w0 w1 w2 w3 w4 wc)), .val (.ref (A0_22 p0 q1 q2 q3 q4 q5 w0 w1 w2 w3 w4 wc)), .val (.int (A0_30 p0 q1 q2 q3 q4 q5 w0 w1 w2 w3 w4 wc)), .val (.long (J0_38_S0 p0 q1 q2 q3 q4 q5 w0 w1 w2 w3 w4 wc)), .second, .val (.long (J0_55_S0 p0 q1 q2 q3 q4 q5 w0 w1 w2 w3 w4 wc)), .second, .val (.long (J0_72_S0 p0 q1 q2 q3 q4 q5 w0 w1 w2 w3 w4 wc)), .second, .val (.int (J0_90_S0 p0 q1 q2 q3 q4 q5 w0 w1 w2 w3 w4 wc)), .val (.long (J0_109_S0 p0 q1 q2 q3 q4 q5 w0 w1 w2 w3 w4 wc)), .second, .val (.int (A0_128 p0 q1 q2 q3 q4 q5 w0 w1 w2 w3 w4 wc)), .val (.ref b13), .val (.ref b14), .val (.ref b17), .unset] [(.long q3)])) _
                  refine XS.lload X20.here hx rfl (hb hby at_266) rfl ?_
                  show Steps p.tables e below (T20.setTop (mkF m 268 #[.val (.int p0), .val (.long q1), .second, .val (.long q2), .second, .val (.long q3), .second, .val (.long q4), .second, .val (.long q5), .second, .val (.ref (A0_9 p0 q1 q2 q3 q4 q5 w0 w1 w2 w3 w4 wc)), .val (.ref (A0_22 p0 q1 q2 q3 q4 q5 w0 w1 w2 w3 w4 wc)), .val (.int (A0_30 p0 q1 q2 q3 q4 q5 w0 w1 w2 w3 w4 wc)), .val (.long (J0_38_S0 p0 q1 q2 q3 q4 q5 w0 w1 w2 w3 w4 wc)), .second, .val (.long (J0_55_S0 p0 q1 q2 q3 q4 q5 w0 w1 w2 w3 w4 wc)), .second, .val (.long (J0_72_S0 p0 q1 q2 q3 q4 q5 w0 w1 w2 w3 w4 wc)), .second, .val (.int (J0_90_S0 p0 q1 q2 q3 q4 q5 w0 w1 w2 w3 w4 wc)), .val (.long (J0_109_S0 p0 q1 q2 q3 q4 q5 w0 w1 w2 w3 w4 wc)), .second, .val (.int (A0_128 p0 q1 q2 q3 q4 q5 w0 w1 w2 w3 w4 wc)), .val (.ref b13), .val (.ref b14), .val (.ref b17), .unset] [(.long (J0_72_S0 p0 q1 q2 q3 q4 q5 w0 w1 w2 w3 w4 wc)), (.long q3)])) _
                  refine XS.lcmp X20.here hx rfl (hb hby at_268) rfl ?_
                  exact kt)
                by_cases hc269 : (lcmpW q3 (J0_72_S0 p0 q1 q2 q3 q4 q5 w0 w1 w2 w3 w4 wc)) = (0 : Int32)
                · have pre31 : ∀ t, Steps p.tables e below (T20.setTop (mkF m 276 #[.val (.int p0), .val (.long q1), .second, .val (.long q2), .second, .val (.long q3), .second, .val (.long q4), .second, .val (.long q5), .second, .val (.ref (A0_9 p0 q1 q2 q3 q4 q5 w0 w1 w2 w3 w4 wc)), .val (.ref (A0_22 p0 q1 q2 q3 q4 q5 w0 w1 w2 w3 w4 wc)), .val (.int (A0_30 p0 q1 q2 q3 q4 q5 w0 w1 w2 w3 w4 wc)), .val (.long (J0_38_S0 p0 q1 q2 q3 q4 q5 w0 w1 w2 w3 w4 wc)), .second, .val (.long (J0_55_S0 p0 q1 q2 q3 q4 q5 w0 w1 w2 w3 w4 wc)), .second, .val (.long (J0_72_S0 p0 q1 q2 q3 q4 q5 w0 w1 w2 w3 w4 wc)), .second, .val (.int (J0_90_S0 p0 q1 q2 q3 q4 q5 w0 w1 w2 w3 w4 wc)), .val (.long (J0_109_S0 p0 q1 q2 q3 q4 q5 w0 w1 w2 w3 w4 wc)), .second, .val (.int (A0_128 p0 q1 q2 q3 q4 q5 w0 w1 w2 w3 w4 wc)), .val (.ref b13), .val (.ref b14), .val (.ref b17), .unset] [(.int (J0_90_S0 p0 q1 q2 q3 q4 q5 w0 w1 w2 w3 w4 wc)), (.int (A0_30 p0 q1 q2 q3 q4 q5 w0 w1 w2 w3 w4 wc))])) t → Steps p.tables e below (s₁.setTop (entryFrame m #[(.int p0), (.long q1), (.long q2), (.long q3), (.long q4), (.long q5)] maxLocals)) t := fun t kt => pre30 t (by
                    show Steps p.tables e below (T20.setTop (mkF m 269 #[.val (.int p0), .val (.long q1), .second, .val (.long q2), .second, .val (.long q3), .second, .val (.long q4), .second, .val (.long q5), .second, .val (.ref (A0_9 p0 q1 q2 q3 q4 q5 w0 w1 w2 w3 w4 wc)), .val (.ref (A0_22 p0 q1 q2 q3 q4 q5 w0 w1 w2 w3 w4 wc)), .val (.int (A0_30 p0 q1 q2 q3 q4 q5 w0 w1 w2 w3 w4 wc)), .val (.long (J0_38_S0 p0 q1 q2 q3 q4 q5 w0 w1 w2 w3 w4 wc)), .second, .val (.long (J0_55_S0 p0 q1 q2 q3 q4 q5 w0 w1 w2 w3 w4 wc)), .second, .val (.long (J0_72_S0 p0 q1 q2 q3 q4 q5 w0 w1 w2 w3 w4 wc)), .second, .val (.int (J0_90_S0 p0 q1 q2 q3 q4 q5 w0 w1 w2 w3 w4 wc)), .val (.long (J0_109_S0 p0 q1 q2 q3 q4 q5 w0 w1 w2 w3 w4 wc)), .second, .val (.int (A0_128 p0 q1 q2 q3 q4 q5 w0 w1 w2 w3 w4 wc)), .val (.ref b13), .val (.ref b14), .val (.ref b17), .unset] [(.int (lcmpW q3 (J0_72_S0 p0 q1 q2 q3 q4 q5 w0 w1 w2 w3 w4 wc)))])) _
                    refine XS.ifNo X20.here hx rfl (hb hby at_269) rfl ((if0 _ _).trans (teq hc269).2) ?_
                    show Steps p.tables e below (T20.setTop (mkF m 272 #[.val (.int p0), .val (.long q1), .second, .val (.long q2), .second, .val (.long q3), .second, .val (.long q4), .second, .val (.long q5), .second, .val (.ref (A0_9 p0 q1 q2 q3 q4 q5 w0 w1 w2 w3 w4 wc)), .val (.ref (A0_22 p0 q1 q2 q3 q4 q5 w0 w1 w2 w3 w4 wc)), .val (.int (A0_30 p0 q1 q2 q3 q4 q5 w0 w1 w2 w3 w4 wc)), .val (.long (J0_38_S0 p0 q1 q2 q3 q4 q5 w0 w1 w2 w3 w4 wc)), .second, .val (.long (J0_55_S0 p0 q1 q2 q3 q4 q5 w0 w1 w2 w3 w4 wc)), .second, .val (.long (J0_72_S0 p0 q1 q2 q3 q4 q5 w0 w1 w2 w3 w4 wc)), .second, .val (.int (J0_90_S0 p0 q1 q2 q3 q4 q5 w0 w1 w2 w3 w4 wc)), .val (.long (J0_109_S0 p0 q1 q2 q3 q4 q5 w0 w1 w2 w3 w4 wc)), .second, .val (.int (A0_128 p0 q1 q2 q3 q4 q5 w0 w1 w2 w3 w4 wc)), .val (.ref b13), .val (.ref b14), .val (.ref b17), .unset] [])) _
                    refine XS.iload X20.here hx rfl (hb hby at_272) rfl ?_
                    show Steps p.tables e below (T20.setTop (mkF m 274 #[.val (.int p0), .val (.long q1), .second, .val (.long q2), .second, .val (.long q3), .second, .val (.long q4), .second, .val (.long q5), .second, .val (.ref (A0_9 p0 q1 q2 q3 q4 q5 w0 w1 w2 w3 w4 wc)), .val (.ref (A0_22 p0 q1 q2 q3 q4 q5 w0 w1 w2 w3 w4 wc)), .val (.int (A0_30 p0 q1 q2 q3 q4 q5 w0 w1 w2 w3 w4 wc)), .val (.long (J0_38_S0 p0 q1 q2 q3 q4 q5 w0 w1 w2 w3 w4 wc)), .second, .val (.long (J0_55_S0 p0 q1 q2 q3 q4 q5 w0 w1 w2 w3 w4 wc)), .second, .val (.long (J0_72_S0 p0 q1 q2 q3 q4 q5 w0 w1 w2 w3 w4 wc)), .second, .val (.int (J0_90_S0 p0 q1 q2 q3 q4 q5 w0 w1 w2 w3 w4 wc)), .val (.long (J0_109_S0 p0 q1 q2 q3 q4 q5 w0 w1 w2 w3 w4 wc)), .second, .val (.int (A0_128 p0 q1 q2 q3 q4 q5 w0 w1 w2 w3 w4 wc)), .val (.ref b13), .val (.ref b14), .val (.ref b17), .unset] [(.int (A0_30 p0 q1 q2 q3 q4 q5 w0 w1 w2 w3 w4 wc))])) _
                    refine XS.iload X20.here hx rfl (hb hby at_274) rfl ?_
                    exact kt)
                  by_cases hc276 : (A0_30 p0 q1 q2 q3 q4 q5 w0 w1 w2 w3 w4 wc) = (J0_90_S0 p0 q1 q2 q3 q4 q5 w0 w1 w2 w3 w4 wc)
                  · have pre32 : ∀ t, Steps p.tables e below (T20.setTop (mkF m 284 #[.val (.int p0), .val (.long q1), .second, .val (.long q2), .second, .val (.long q3), .second, .val (.long q4), .second, .val (.long q5), .second, .val (.ref (A0_9 p0 q1 q2 q3 q4 q5 w0 w1 w2 w3 w4 wc)), .val (.ref (A0_22 p0 q1 q2 q3 q4 q5 w0 w1 w2 w3 w4 wc)), .val (.int (A0_30 p0 q1 q2 q3 q4 q5 w0 w1 w2 w3 w4 wc)), .val (.long (J0_38_S0 p0 q1 q2 q3 q4 q5 w0 w1 w2 w3 w4 wc)), .second, .val (.long (J0_55_S0 p0 q1 q2 q3 q4 q5 w0 w1 w2 w3 w4 wc)), .second, .val (.long (J0_72_S0 p0 q1 q2 q3 q4 q5 w0 w1 w2 w3 w4 wc)), .second, .val (.int (J0_90_S0 p0 q1 q2 q3 q4 q5 w0 w1 w2 w3 w4 wc)), .val (.long (J0_109_S0 p0 q1 q2 q3 q4 q5 w0 w1 w2 w3 w4 wc)), .second, .val (.int (A0_128 p0 q1 q2 q3 q4 q5 w0 w1 w2 w3 w4 wc)), .val (.ref b13), .val (.ref b14), .val (.ref b17), .unset] [(.int (lcmpW q4 (J0_109_S0 p0 q1 q2 q3 q4 q5 w0 w1 w2 w3 w4 wc)))])) t → Steps p.tables e below (s₁.setTop (entryFrame m #[(.int p0), (.long q1), (.long q2), (.long q3), (.long q4), (.long q5)] maxLocals)) t := fun t kt => pre31 t (by
                      show Steps p.tables e below (T20.setTop (mkF m 276 #[.val (.int p0), .val (.long q1), .second, .val (.long q2), .second, .val (.long q3), .second, .val (.long q4), .second, .val (.long q5), .second, .val (.ref (A0_9 p0 q1 q2 q3 q4 q5 w0 w1 w2 w3 w4 wc)), .val (.ref (A0_22 p0 q1 q2 q3 q4 q5 w0 w1 w2 w3 w4 wc)), .val (.int (A0_30 p0 q1 q2 q3 q4 q5 w0 w1 w2 w3 w4 wc)), .val (.long (J0_38_S0 p0 q1 q2 q3 q4 q5 w0 w1 w2 w3 w4 wc)), .second, .val (.long (J0_55_S0 p0 q1 q2 q3 q4 q5 w0 w1 w2 w3 w4 wc)), .second, .val (.long (J0_72_S0 p0 q1 q2 q3 q4 q5 w0 w1 w2 w3 w4 wc)), .second, .val (.int (J0_90_S0 p0 q1 q2 q3 q4 q5 w0 w1 w2 w3 w4 wc)), .val (.long (J0_109_S0 p0 q1 q2 q3 q4 q5 w0 w1 w2 w3 w4 wc)), .second, .val (.int (A0_128 p0 q1 q2 q3 q4 q5 w0 w1 w2 w3 w4 wc)), .val (.ref b13), .val (.ref b14), .val (.ref b17), .unset] [(.int (J0_90_S0 p0 q1 q2 q3 q4 q5 w0 w1 w2 w3 w4 wc)), (.int (A0_30 p0 q1 q2 q3 q4 q5 w0 w1 w2 w3 w4 wc))])) _
                      refine XS.icmpNo X20.here hx rfl (hb hby at_276) rfl (teq hc276).2 ?_
                      show Steps p.tables e below (T20.setTop (mkF m 279 #[.val (.int p0), .val (.long q1), .second, .val (.long q2), .second, .val (.long q3), .second, .val (.long q4), .second, .val (.long q5), .second, .val (.ref (A0_9 p0 q1 q2 q3 q4 q5 w0 w1 w2 w3 w4 wc)), .val (.ref (A0_22 p0 q1 q2 q3 q4 q5 w0 w1 w2 w3 w4 wc)), .val (.int (A0_30 p0 q1 q2 q3 q4 q5 w0 w1 w2 w3 w4 wc)), .val (.long (J0_38_S0 p0 q1 q2 q3 q4 q5 w0 w1 w2 w3 w4 wc)), .second, .val (.long (J0_55_S0 p0 q1 q2 q3 q4 q5 w0 w1 w2 w3 w4 wc)), .second, .val (.long (J0_72_S0 p0 q1 q2 q3 q4 q5 w0 w1 w2 w3 w4 wc)), .second, .val (.int (J0_90_S0 p0 q1 q2 q3 q4 q5 w0 w1 w2 w3 w4 wc)), .val (.long (J0_109_S0 p0 q1 q2 q3 q4 q5 w0 w1 w2 w3 w4 wc)), .second, .val (.int (A0_128 p0 q1 q2 q3 q4 q5 w0 w1 w2 w3 w4 wc)), .val (.ref b13), .val (.ref b14), .val (.ref b17), .unset] [])) _
                      refine XS.lload X20.here hx rfl (hb hby at_279) rfl ?_
                      show Steps p.tables e below (T20.setTop (mkF m 281 #[.val (.int p0), .val (.long q1), .second, .val (.long q2), .second, .val (.long q3), .second, .val (.long q4), .second, .val (.long q5), .second, .val (.ref (A0_9 p0 q1 q2 q3 q4 q5 w0 w1 w2 w3 w4 wc)), .val (.ref (A0_22 p0 q1 q2 q3 q4 q5 w0 w1 w2 w3 w4 wc)), .val (.int (A0_30 p0 q1 q2 q3 q4 q5 w0 w1 w2 w3 w4 wc)), .val (.long (J0_38_S0 p0 q1 q2 q3 q4 q5 w0 w1 w2 w3 w4 wc)), .second, .val (.long (J0_55_S0 p0 q1 q2 q3 q4 q5 w0 w1 w2 w3 w4 wc)), .second, .val (.long (J0_72_S0 p0 q1 q2 q3 q4 q5 w0 w1 w2 w3 w4 wc)), .second, .val (.int (J0_90_S0 p0 q1 q2 q3 q4 q5 w0 w1 w2 w3 w4 wc)), .val (.long (J0_109_S0 p0 q1 q2 q3 q4 q5 w0 w1 w2 w3 w4 wc)), .second, .val (.int (A0_128 p0 q1 q2 q3 q4 q5 w0 w1 w2 w3 w4 wc)), .val (.ref b13), .val (.ref b14), .val (.ref b17), .unset] [(.long q4)])) _
                      refine XS.lload X20.here hx rfl (hb hby at_281) rfl ?_
                      show Steps p.tables e below (T20.setTop (mkF m 283 #[.val (.int p0), .val (.long q1), .second, .val (.long q2), .second, .val (.long q3), .second, .val (.long q4), .second, .val (.long q5), .second, .val (.ref (A0_9 p0 q1 q2 q3 q4 q5 w0 w1 w2 w3 w4 wc)), .val (.ref (A0_22 p0 q1 q2 q3 q4 q5 w0 w1 w2 w3 w4 wc)), .val (.int (A0_30 p0 q1 q2 q3 q4 q5 w0 w1 w2 w3 w4 wc)), .val (.long (J0_38_S0 p0 q1 q2 q3 q4 q5 w0 w1 w2 w3 w4 wc)), .second, .val (.long (J0_55_S0 p0 q1 q2 q3 q4 q5 w0 w1 w2 w3 w4 wc)), .second, .val (.long (J0_72_S0 p0 q1 q2 q3 q4 q5 w0 w1 w2 w3 w4 wc)), .second, .val (.int (J0_90_S0 p0 q1 q2 q3 q4 q5 w0 w1 w2 w3 w4 wc)), .val (.long (J0_109_S0 p0 q1 q2 q3 q4 q5 w0 w1 w2 w3 w4 wc)), .second, .val (.int (A0_128 p0 q1 q2 q3 q4 q5 w0 w1 w2 w3 w4 wc)), .val (.ref b13), .val (.ref b14), .val (.ref b17), .unset] [(.long (J0_109_S0 p0 q1 q2 q3 q4 q5 w0 w1 w2 w3 w4 wc)), (.long q4)])) _
                      refine XS.lcmp X20.here hx rfl (hb hby at_283) rfl ?_
                      exact kt)
                    by_cases hc284 : (lcmpW q4 (J0_109_S0 p0 q1 q2 q3 q4 q5 w0 w1 w2 w3 w4 wc)) = (0 : Int32)
                    · refine ⟨T20, _, X20, N20, (rfl : T20.heap = T20.heap), fun t kt => pre32 t ?_⟩
                      show Steps p.tables e below (T20.setTop (mkF m 284 #[.val (.int p0), .val (.long q1), .second, .val (.long q2), .second, .val (.long q3), .second, .val (.long q4), .second, .val (.long q5), .second, .val (.ref (A0_9 p0 q1 q2 q3 q4 q5 w0 w1 w2 w3 w4 wc)), .val (.ref (A0_22 p0 q1 q2 q3 q4 q5 w0 w1 w2 w3 w4 wc)), .val (.int (A0_30 p0 q1 q2 q3 q4 q5 w0 w1 w2 w3 w4 wc)), .val (.long (J0_38_S0 p0 q1 q2 q3 q4 q5 w0 w1 w2 w3 w4 wc)), .second, .val (.long (J0_55_S0 p0 q1 q2 q3 q4 q5 w0 w1 w2 w3 w4 wc)), .second, .val (.long (J0_72_S0 p0 q1 q2 q3 q4 q5 w0 w1 w2 w3 w4 wc)), .second, .val (.int (J0_90_S0 p0 q1 q2 q3 q4 q5 w0 w1 w2 w3 w4 wc)), .val (.long (J0_109_S0 p0 q1 q2 q3 q4 q5 w0 w1 w2 w3 w4 wc)), .second, .val (.int (A0_128 p0 q1 q2 q3 q4 q5 w0 w1 w2 w3 w4 wc)), .val (.ref b13), .val (.ref b14), .val (.ref b17), .unset] [(.int (lcmpW q4 (J0_109_S0 p0 q1 q2 q3 q4 q5 w0 w1 w2 w3 w4 wc)))])) _
                      refine XS.ifNo X20.here hx rfl (hb hby at_284) rfl ((if0 _ _).trans (teq hc284).2) ?_
                      show Steps p.tables e below (T20.setTop (mkF m 287 #[.val (.int p0), .val (.long q1), .second, .val (.long q2), .second, .val (.long q3), .second, .val (.long q4), .second, .val (.long q5), .second, .val (.ref (A0_9 p0 q1 q2 q3 q4 q5 w0 w1 w2 w3 w4 wc)), .val (.ref (A0_22 p0 q1 q2 q3 q4 q5 w0 w1 w2 w3 w4 wc)), .val (.int (A0_30 p0 q1 q2 q3 q4 q5 w0 w1 w2 w3 w4 wc)), .val (.long (J0_38_S0 p0 q1 q2 q3 q4 q5 w0 w1 w2 w3 w4 wc)), .second, .val (.long (J0_55_S0 p0 q1 q2 q3 q4 q5 w0 w1 w2 w3 w4 wc)), .second, .val (.long (J0_72_S0 p0 q1 q2 q3 q4 q5 w0 w1 w2 w3 w4 wc)), .second, .val (.int (J0_90_S0 p0 q1 q2 q3 q4 q5 w0 w1 w2 w3 w4 wc)), .val (.long (J0_109_S0 p0 q1 q2 q3 q4 q5 w0 w1 w2 w3 w4 wc)), .second, .val (.int (A0_128 p0 q1 q2 q3 q4 q5 w0 w1 w2 w3 w4 wc)), .val (.ref b13), .val (.ref b14), .val (.ref b17), .unset] [])) _
                      refine XS.iconst X20.here hx rfl (hb hby at_287) ?_
                      show Steps p.tables e below (T20.setTop (mkF m 288 #[.val (.int p0), .val (.long q1), .second, .val (.long q2), .second, .val (.long q3), .second, .val (.long q4), .second, .val (.long q5), .second, .val (.ref (A0_9 p0 q1 q2 q3 q4 q5 w0 w1 w2 w3 w4 wc)), .val (.ref (A0_22 p0 q1 q2 q3 q4 q5 w0 w1 w2 w3 w4 wc)), .val (.int (A0_30 p0 q1 q2 q3 q4 q5 w0 w1 w2 w3 w4 wc)), .val (.long (J0_38_S0 p0 q1 q2 q3 q4 q5 w0 w1 w2 w3 w4 wc)), .second, .val (.long (J0_55_S0 p0 q1 q2 q3 q4 q5 w0 w1 w2 w3 w4 wc)), .second, .val (.long (J0_72_S0 p0 q1 q2 q3 q4 q5 w0 w1 w2 w3 w4 wc)), .second, .val (.int (J0_90_S0 p0 q1 q2 q3 q4 q5 w0 w1 w2 w3 w4 wc)), .val (.long (J0_109_S0 p0 q1 q2 q3 q4 q5 w0 w1 w2 w3 w4 wc)), .second, .val (.int (A0_128 p0 q1 q2 q3 q4 q5 w0 w1 w2 w3 w4 wc)), .val (.ref b13), .val (.ref b14), .val (.ref b17), .unset] [(.int (1 : Int32))])) _
                      refine XS.goto X20.here hx rfl (pc0 := 288) (pc' := 292) rfl (hb hby at_288) (by decide) (by decide) ?_
                      show Steps p.tables e below (T20.setTop (mkF m 292 #[.val (.int p0), .val (.long q1), .second, .val (.long q2), .second, .val (.long q3), .second, .val (.long q4), .second, .val (.long q5), .second, .val (.ref (A0_9 p0 q1 q2 q3 q4 q5 w0 w1 w2 w3 w4 wc)), .val (.ref (A0_22 p0 q1 q2 q3 q4 q5 w0 w1 w2 w3 w4 wc)), .val (.int (A0_30 p0 q1 q2 q3 q4 q5 w0 w1 w2 w3 w4 wc)), .val (.long (J0_38_S0 p0 q1 q2 q3 q4 q5 w0 w1 w2 w3 w4 wc)), .second, .val (.long (J0_55_S0 p0 q1 q2 q3 q4 q5 w0 w1 w2 w3 w4 wc)), .second, .val (.long (J0_72_S0 p0 q1 q2 q3 q4 q5 w0 w1 w2 w3 w4 wc)), .second, .val (.int (J0_90_S0 p0 q1 q2 q3 q4 q5 w0 w1 w2 w3 w4 wc)), .val (.long (J0_109_S0 p0 q1 q2 q3 q4 q5 w0 w1 w2 w3 w4 wc)), .second, .val (.int (A0_128 p0 q1 q2 q3 q4 q5 w0 w1 w2 w3 w4 wc)), .val (.ref b13), .val (.ref b14), .val (.ref b17), .unset] [(.int (1 : Int32))])) _
                      have qjS0 : (J0_247_S0 p0 q1 q2 q3 q4 q5 w0 w1 w2 w3 w4 wc) = (1 : Int32) := by unfold J0_247_S0; simp only [if_true, if_false, if_pos ha247, if_pos hc254, if_pos hc261, if_pos hc269, if_pos hc276, if_pos hc284]
                      rw [qjS0] at kt
                      exact kt
                    · refine ⟨T20, _, X20, N20, (rfl : T20.heap = T20.heap), fun t kt => pre32 t ?_⟩
                      show Steps p.tables e below (T20.setTop (mkF m 284 #[.val (.int p0), .val (.long q1), .second, .val (.long q2), .second, .val (.long q3), .second, .val (.long q4), .second, .val (.long q5), .second, .val (.ref (A0_9 p0 q1 q2 q3 q4 q5 w0 w1 w2 w3 w4 wc)), .val (.ref (A0_22 p0 q1 q2 q3 q4 q5 w0 w1 w2 w3 w4 wc)), .val (.int (A0_30 p0 q1 q2 q3 q4 q5 w0 w1 w2 w3 w4 wc)), .val (.long (J0_38_S0 p0 q1 q2 q3 q4 q5 w0 w1 w2 w3 w4 wc)), .second, .val (.long (J0_55_S0 p0 q1 q2 q3 q4 q5 w0 w1 w2 w3 w4 wc)), .second, .val (.long (J0_72_S0 p0 q1 q2 q3 q4 q5 w0 w1 w2 w3 w4 wc)), .second, .val (.int (J0_90_S0 p0 q1 q2 q3 q4 q5 w0 w1 w2 w3 w4 wc)), .val (.long (J0_109_S0 p0 q1 q2 q3 q4 q5 w0 w1 w2 w3 w4 wc)), .second, .val (.int (A0_128 p0 q1 q2 q3 q4 q5 w0 w1 w2 w3 w4 wc)), .val (.ref b13), .val (.ref b14), .val (.ref b17), .unset] [(.int (lcmpW q4 (J0_109_S0 p0 q1 q2 q3 q4 q5 w0 w1 w2 w3 w4 wc)))])) _
                      refine XS.ifYes X20.here hx rfl (pc0 := 284) (pc' := 291) rfl (hb hby at_284) rfl ((if0 _ _).trans (feq hc284).2) (by decide) (by decide) ?_
                      show Steps p.tables e below (T20.setTop (mkF m 291 #[.val (.int p0), .val (.long q1), .second, .val (.long q2), .second, .val (.long q3), .second, .val (.long q4), .second, .val (.long q5), .second, .val (.ref (A0_9 p0 q1 q2 q3 q4 q5 w0 w1 w2 w3 w4 wc)), .val (.ref (A0_22 p0 q1 q2 q3 q4 q5 w0 w1 w2 w3 w4 wc)), .val (.int (A0_30 p0 q1 q2 q3 q4 q5 w0 w1 w2 w3 w4 wc)), .val (.long (J0_38_S0 p0 q1 q2 q3 q4 q5 w0 w1 w2 w3 w4 wc)), .second, .val (.long (J0_55_S0 p0 q1 q2 q3 q4 q5 w0 w1 w2 w3 w4 wc)), .second, .val (.long (J0_72_S0 p0 q1 q2 q3 q4 q5 w0 w1 w2 w3 w4 wc)), .second, .val (.int (J0_90_S0 p0 q1 q2 q3 q4 q5 w0 w1 w2 w3 w4 wc)), .val (.long (J0_109_S0 p0 q1 q2 q3 q4 q5 w0 w1 w2 w3 w4 wc)), .second, .val (.int (A0_128 p0 q1 q2 q3 q4 q5 w0 w1 w2 w3 w4 wc)), .val (.ref b13), .val (.ref b14), .val (.ref b17), .unset] [])) _
                      refine XS.iconst X20.here hx rfl (hb hby at_291) ?_
                      show Steps p.tables e below (T20.setTop (mkF m 292 #[.val (.int p0), .val (.long q1), .second, .val (.long q2), .second, .val (.long q3), .second, .val (.long q4), .second, .val (.long q5), .second, .val (.ref (A0_9 p0 q1 q2 q3 q4 q5 w0 w1 w2 w3 w4 wc)), .val (.ref (A0_22 p0 q1 q2 q3 q4 q5 w0 w1 w2 w3 w4 wc)), .val (.int (A0_30 p0 q1 q2 q3 q4 q5 w0 w1 w2 w3 w4 wc)), .val (.long (J0_38_S0 p0 q1 q2 q3 q4 q5 w0 w1 w2 w3 w4 wc)), .second, .val (.long (J0_55_S0 p0 q1 q2 q3 q4 q5 w0 w1 w2 w3 w4 wc)), .second, .val (.long (J0_72_S0 p0 q1 q2 q3 q4 q5 w0 w1 w2 w3 w4 wc)), .second, .val (.int (J0_90_S0 p0 q1 q2 q3 q4 q5 w0 w1 w2 w3 w4 wc)), .val (.long (J0_109_S0 p0 q1 q2 q3 q4 q5 w0 w1 w2 w3 w4 wc)), .second, .val (.int (A0_128 p0 q1 q2 q3 q4 q5 w0 w1 w2 w3 w4 wc)), .val (.ref b13), .val (.ref b14), .val (.ref b17), .unset] [(.int (0 : Int32))])) _
                      have qjS0 : (J0_247_S0 p0 q1 q2 q3 q4 q5 w0 w1 w2 w3 w4 wc) = (0 : Int32) := by unfold J0_247_S0; simp only [if_true, if_false, if_pos ha247, if_pos hc254, if_pos hc261, if_pos hc269, if_pos hc276, if_neg hc284]
                      rw [qjS0] at kt
                      exact kt
                  · refine ⟨T20, _, X20, N20, (rfl : T20.heap = T20.heap), fun t kt => pre31 t ?_⟩
                    show Steps p.tables e below (T20.setTop (mkF m 276 #[.val (.int p0), .val (.long q1), .second, .val (.long q2), .second, .val (.long q3), .second, .val (.long q4), .second, .val (.long q5), .second, .val (.ref (A0_9 p0 q1 q2 q3 q4 q5 w0 w1 w2 w3 w4 wc)), .val (.ref (A0_22 p0 q1 q2 q3 q4 q5 w0 w1 w2 w3 w4 wc)), .val (.int (A0_30 p0 q1 q2 q3 q4 q5 w0 w1 w2 w3 w4 wc)), .val (.long (J0_38_S0 p0 q1 q2 q3 q4 q5 w0 w1 w2 w3 w4 wc)), .second, .val (.long (J0_55_S0 p0 q1 q2 q3 q4 q5 w0 w1 w2 w3 w4 wc)), .second, .val (.long (J0_72_S0 p0 q1 q2 q3 q4 q5 w0 w1 w2 w3 w4 wc)), .second, .val (.int (J0_90_S0 p0 q1 q2 q3 q4 q5 w0 w1 w2 w3 w4 wc)), .val (.long (J0_109_S0 p0 q1 q2 q3 q4 q5 w0 w1 w2 w3 w4 wc)), .second, .val (.int (A0_128 p0 q1 q2 q3 q4 q5 w0 w1 w2 w3 w4 wc)), .val (.ref b13), .val (.ref b14), .val (.ref b17), .unset] [(.int (J0_90_S0 p0 q1 q2 q3 q4 q5 w0 w1 w2 w3 w4 wc)), (.int (A0_30 p0 q1 q2 q3 q4 q5 w0 w1 w2 w3 w4 wc))])) _
                    refine XS.icmpYes X20.here hx rfl (pc0 := 276) (pc' := 291) rfl (hb hby at_276) rfl (feq hc276).2 (by decide) (by decide) ?_
                    show Steps p.tables e below (T20.setTop (mkF m 291 #[.val (.int p0), .val (.long q1), .second, .val (.long q2), .second, .val (.long q3), .second, .val (.long q4), .second, .val (.long q5), .second, .val (.ref (A0_9 p0 q1 q2 q3 q4 q5 w0 w1 w2 w3 w4 wc)), .val (.ref (A0_22 p0 q1 q2 q3 q4 q5 w0 w1 w2 w3 w4 wc)), .val (.int (A0_30 p0 q1 q2 q3 q4 q5 w0 w1 w2 w3 w4 wc)), .val (.long (J0_38_S0 p0 q1 q2 q3 q4 q5 w0 w1 w2 w3 w4 wc)), .second, .val (.long (J0_55_S0 p0 q1 q2 q3 q4 q5 w0 w1 w2 w3 w4 wc)), .second, .val (.long (J0_72_S0 p0 q1 q2 q3 q4 q5 w0 w1 w2 w3 w4 wc)), .second, .val (.int (J0_90_S0 p0 q1 q2 q3 q4 q5 w0 w1 w2 w3 w4 wc)), .val (.long (J0_109_S0 p0 q1 q2 q3 q4 q5 w0 w1 w2 w3 w4 wc)), .second, .val (.int (A0_128 p0 q1 q2 q3 q4 q5 w0 w1 w2 w3 w4 wc)), .val (.ref b13), .val (.ref b14), .val (.ref b17), .unset] [])) _
                    refine XS.iconst X20.here hx rfl (hb hby at_291) ?_
                    show Steps p.tables e below (T20.setTop (mkF m 292 #[.val (.int p0), .val (.long q1), .second, .val (.long q2), .second, .val (.long q3), .second, .val (.long q4), .second, .val (.long q5), .second, .val (.ref (A0_9 p0 q1 q2 q3 q4 q5 w0 w1 w2 w3 w4 wc)), .val (.ref (A0_22 p0 q1 q2 q3 q4 q5 w0 w1 w2 w3 w4 wc)), .val (.int (A0_30 p0 q1 q2 q3 q4 q5 w0 w1 w2 w3 w4 wc)), .val (.long (J0_38_S0 p0 q1 q2 q3 q4 q5 w0 w1 w2 w3 w4 wc)), .second, .val (.long (J0_55_S0 p0 q1 q2 q3 q4 q5 w0 w1 w2 w3 w4 wc)), .second, .val (.long (J0_72_S0 p0 q1 q2 q3 q4 q5 w0 w1 w2 w3 w4 wc)), .second, .val (.int (J0_90_S0 p0 q1 q2 q3 q4 q5 w0 w1 w2 w3 w4 wc)), .val (.long (J0_109_S0 p0 q1 q2 q3 q4 q5 w0 w1 w2 w3 w4 wc)), .second, .val (.int (A0_128 p0 q1 q2 q3 q4 q5 w0 w1 w2 w3 w4 wc)), .val (.ref b13), .val (.ref b14), .val (.ref b17), .unset] [(.int (0 : Int32))])) _
                    have qjS0 : (J0_247_S0 p0 q1 q2 q3 q4 q5 w0 w1 w2 w3 w4 wc) = (0 : Int32) := by unfold J0_247_S0; simp only [if_true, if_false, if_pos ha247, if_pos hc254, if_pos hc261, if_pos hc269, if_neg hc276]
                    rw [qjS0] at kt
                    exact kt
                · refine ⟨T20, _, X20, N20, (rfl : T20.heap = T20.heap), fun t kt => pre30 t ?_⟩
                  show Steps p.tables e below (T20.setTop (mkF m 269 #[.val (.int p0), .val (.long q1), .second, .val (.long q2), .second, .val (.long q3), .second, .val (.long q4), .second, .val (.long q5), .second, .val (.ref (A0_9 p0 q1 q2 q3 q4 q5 w0 w1 w2 w3 w4 wc)), .val (.ref (A0_22 p0 q1 q2 q3 q4 q5 w0 w1 w2 w3 w4 wc)), .val (.int (A0_30 p0 q1 q2 q3 q4 q5 w0 w1 w2 w3 w4 wc)), .val (.long (J0_38_S0 p0 q1 q2 q3 q4 q5 w0 w1 w2 w3 w4 wc)), .second, .val (.long (J0_55_S0 p0 q1 q2 q3 q4 q5 w0 w1 w2 w3 w4 wc)), .second, .val (.long (J0_72_S0 p0 q1 q2 q3 q4 q5 w0 w1 w2 w3 w4 wc)), .second, .val (.int (J0_90_S0 p0 q1 q2 q3 q4 q5 w0 w1 w2 w3 w4 wc)), .val (.long (J0_109_S0 p0 q1 q2 q3 q4 q5 w0 w1 w2 w3 w4 wc)), .second, .val (.int (A0_128 p0 q1 q2 q3 q4 q5 w0 w1 w2 w3 w4 wc)), .val (.ref b13), .val (.ref b14), .val (.ref b17), .unset] [(.int (lcmpW q3 (J0_72_S0 p0 q1 q2 q3 q4 q5 w0 w1 w2 w3 w4 wc)))])) _
                  refine XS.ifYes X20.here hx rfl (pc0 := 269) (pc' := 291) rfl (hb hby at_269) rfl ((if0 _ _).trans (feq hc269).2) (by decide) (by decide) ?_
                  show Steps p.tables e below (T20.setTop (mkF m 291 #[.val (.int p0), .val (.long q1), .second, .val (.long q2), .second, .val (.long q3), .second, .val (.long q4), .second, .val (.long q5), .second, .val (.ref (A0_9 p0 q1 q2 q3 q4 q5 w0 w1 w2 w3 w4 wc)), .val (.ref (A0_22 p0 q1 q2 q3 q4 q5 w0 w1 w2 w3 w4 wc)), .val (.int (A0_30 p0 q1 q2 q3 q4 q5 w0 w1 w2 w3 w4 wc)), .val (.long (J0_38_S0 p0 q1 q2 q3 q4 q5 w0 w1 w2 w3 w4 wc)), .second, .val (.long (J0_55_S0 p0 q1 q2 q3 q4 q5 w0 w1 w2 w3 w4 wc)), .second, .val (.long (J0_72_S0 p0 q1 q2 q3 q4 q5 w0 w1 w2 w3 w4 wc)), .second, .val (.int (J0_90_S0 p0 q1 q2 q3 q4 q5 w0 w1 w2 w3 w4 wc)), .val (.long (J0_109_S0 p0 q1 q2 q3 q4 q5 w0 w1 w2 w3 w4 wc)), .second, .val (.int (A0_128 p0 q1 q2 q3 q4 q5 w0 w1 w2 w3 w4 wc)), .val (.ref b13), .val (.ref b14), .val (.ref b17), .unset] [])) _
                  refine XS.iconst X20.here hx rfl (hb hby at_291) ?_
                  show Steps p.tables e below (T20.setTop (mkF m 292 #[.val (.int p0), .val (.long q1), .second, .val (.long q2), .second, .val (.long q3), .second, .val (.long q4), .second, .val (.long q5), .second, .val (.ref (A0_9 p0 q1 q2 q3 q4 q5 w0 w1 w2 w3 w4 wc)), .val (.ref (A0_22 p0 q1 q2 q3 q4 q5 w0 w1 w2 w3 w4 wc)), .val (.int (A0_30 p0 q1 q2 q3 q4 q5 w0 w1 w2 w3 w4 wc)), .val (.long (J0_38_S0 p0 q1 q2 q3 q4 q5 w0 w1 w2 w3 w4 wc)), .second, .val (.long (J0_55_S0 p0 q1 q2 q3 q4 q5 w0 w1 w2 w3 w4 wc)), .second, .val (.long (J0_72_S0 p0 q1 q2 q3 q4 q5 w0 w1 w2 w3 w4 wc)), .second, .val (.int (J0_90_S0 p0 q1 q2 q3 q4 q5 w0 w1 w2 w3 w4 wc)), .val (.long (J0_109_S0 p0 q1 q2 q3 q4 q5 w0 w1 w2 w3 w4 wc)), .second, .val (.int (A0_128 p0 q1 q2 q3 q4 q5 w0 w1 w2 w3 w4 wc)), .val (.ref b13), .val (.ref b14), .val (.ref b17), .unset] [(.int (0 : Int32))])) _
                  have qjS0 : (J0_247_S0 p0 q1 q2 q3 q4 q5 w0 w1 w2 w3 w4 wc) = (0 : Int32) := by unfold J0_247_S0; simp only [if_true, if_false, if_pos ha247, if_pos hc254, if_pos hc261, if_neg hc269]
                  rw [qjS0] at kt
                  exact kt
              · refine ⟨T20, _, X20, N20, (rfl : T20.heap = T20.heap), fun t kt => pre29 t ?_⟩
                show Steps p.tables e below (T20.setTop (mkF m 261 #[.val (.int p0), .val (.long q1), .second, .val (.long q2), .second, .val (.long q3), .second, .val (.long q4), .second, .val (.long q5), .second, .val (.ref (A0_9 p0 q1 q2 q3 q4 q5 w0 w1 w2 w3 w4 wc)), .val (.ref (A0_22 p0 q1 q2 q3 q4 q5 w0 w1 w2 w3 w4 wc)), .val (.int (A0_30 p0 q1 q2 q3 q4 q5 w0 w1 w2 w3 w4 wc)), .val (.long (J0_38_S0 p0 q1 q2 q3 q4 q5 w0 w1 w2 w3 w4 wc)), .second, .val (.long (J0_55_S0 p0 q1 q2 q3 q4 q5 w0 w1 w2 w3 w4 wc)), .second, .val (.long (J0_72_S0 p0 q1 q2 q3 q4 q5 w0 w1 w2 w3 w4 wc)), .second, .val (.int (J0_90_S0 p0 q1 q2 q3 q4 q5 w0 w1 w2 w3 w4 wc)), .val (.long (J0_109_S0 p0 q1 q2 q3 q4 q5 w0 w1 w2 w3 w4 wc)), .second, .val (.int (A0_128 p0 q1 q2 q3 q4 q5 w0 w1 w2 w3 w4 wc)), .val (.ref b13), .val (.ref b14), .val (.ref b17), .unset] [(.int (lcmpW q2 (J0_55_S0 p0 q1 q2 q3 q4 q5 w0 w1 w2 w3 w4 wc)))])) _
                refine XS.ifYes X20.here hx rfl (pc0 := 261) (pc' := 291) rfl (hb hby at_261) rfl ((if0 _ _).trans (feq hc261).2) (by decide) (by decide) ?_
                show Steps p.tables e below (T20.setTop (mkF m 291 #[.val (.int p0), .val (.long q1), .second, .val (.long q2), .second, .val (.long q3), .second, .val (.long q4), .second, .val (.long q5), .second, .val (.ref (A0_9 p0 q1 q2 q3 q4 q5 w0 w1 w2 w3 w4 wc)), .val (.ref (A0_22 p0 q1 q2 q3 q4 q5 w0 w1 w2 w3 w4 wc)), .val (.int (A0_30 p0 q1 q2 q3 q4 q5 w0 w1 w2 w3 w4 wc)), .val (.long (J0_38_S0 p0 q1 q2 q3 q4 q5 w0 w1 w2 w3 w4 wc)), .second, .val (.long (J0_55_S0 p0 q1 q2 q3 q4 q5 w0 w1 w2 w3 w4 wc)), .second, .val (.long (J0_72_S0 p0 q1 q2 q3 q4 q5 w0 w1 w2 w3 w4 wc)), .second, .val (.int (J0_90_S0 p0 q1 q2 q3 q4 q5 w0 w1 w2 w3 w4 wc)), .val (.long (J0_109_S0 p0 q1 q2 q3 q4 q5 w0 w1 w2 w3 w4 wc)), .second, .val (.int (A0_128 p0 q1 q2 q3 q4 q5 w0 w1 w2 w3 w4 wc)), .val (.ref b13), .val (.ref b14), .val (.ref b17), .unset] [])) _
                refine XS.iconst X20.here hx rfl (hb hby at_291) ?_
                show Steps p.tables e below (T20.setTop (mkF m 292 #[.val (.int p0), .val (.long q1), .second, .val (.long q2), .second, .val (.long q3), .second, .val (.long q4), .second, .val (.long q5), .second, .val (.ref (A0_9 p0 q1 q2 q3 q4 q5 w0 w1 w2 w3 w4 wc)), .val (.ref (A0_22 p0 q1 q2 q3 q4 q5 w0 w1 w2 w3 w4 wc)), .val (.int (A0_30 p0 q1 q2 q3 q4 q5 w0 w1 w2 w3 w4 wc)), .val (.long (J0_38_S0 p0 q1 q2 q3 q4 q5 w0 w1 w2 w3 w4 wc)), .second, .val (.long (J0_55_S0 p0 q1 q2 q3 q4 q5 w0 w1 w2 w3 w4 wc)), .second, .val (.long (J0_72_S0 p0 q1 q2 q3 q4 q5 w0 w1 w2 w3 w4 wc)), .second, .val (.int (J0_90_S0 p0 q1 q2 q3 q4 q5 w0 w1 w2 w3 w4 wc)), .val (.long (J0_109_S0 p0 q1 q2 q3 q4 q5 w0 w1 w2 w3 w4 wc)), .second, .val (.int (A0_128 p0 q1 q2 q3 q4 q5 w0 w1 w2 w3 w4 wc)), .val (.ref b13), .val (.ref b14), .val (.ref b17), .unset] [(.int (0 : Int32))])) _
                have qjS0 : (J0_247_S0 p0 q1 q2 q3 q4 q5 w0 w1 w2 w3 w4 wc) = (0 : Int32) := by unfold J0_247_S0; simp only [if_true, if_false, if_pos ha247, if_pos hc254, if_neg hc261]
                rw [qjS0] at kt
                exact kt
            · refine ⟨T20, _, X20, N20, (rfl : T20.heap = T20.heap), fun t kt => pre28 t ?_⟩
              show Steps p.tables e below (T20.setTop (mkF m 254 #[.val (.int p0), .val (.long q1), .second, .val (.long q2), .second, .val (.long q3), .second, .val (.long q4), .second, .val (.long q5), .second, .val (.ref (A0_9 p0 q1 q2 q3 q4 q5 w0 w1 w2 w3 w4 wc)), .val (.ref (A0_22 p0 q1 q2 q3 q4 q5 w0 w1 w2 w3 w4 wc)), .val (.int (A0_30 p0 q1 q2 q3 q4 q5 w0 w1 w2 w3 w4 wc)), .val (.long (J0_38_S0 p0 q1 q2 q3 q4 q5 w0 w1 w2 w3 w4 wc)), .second, .val (.long (J0_55_S0 p0 q1 q2 q3 q4 q5 w0 w1 w2 w3 w4 wc)), .second, .val (.long (J0_72_S0 p0 q1 q2 q3 q4 q5 w0 w1 w2 w3 w4 wc)), .second, .val (.int (J0_90_S0 p0 q1 q2 q3 q4 q5 w0 w1 w2 w3 w4 wc)), .val (.long (J0_109_S0 p0 q1 q2 q3 q4 q5 w0 w1 w2 w3 w4 wc)), .second, .val (.int (A0_128 p0 q1 q2 q3 q4 q5 w0 w1 w2 w3 w4 wc)), .val (.ref b13), .val (.ref b14), .val (.ref b17), .unset] [(.int (lcmpW q1 (J0_38_S0 p0 q1 q2 q3 q4 q5 w0 w1 w2 w3 w4 wc)))])) _
              refine XS.ifYes X20.here hx rfl (pc0 := 254) (pc' := 291) rfl (hb hby at_254) rfl ((if0 _ _).trans (feq hc254).2) (by decide) (by decide) ?_
              show Steps p.tables e below (T20.setTop (mkF m 291 #[.val (.int p0), .val (.long q1), .second, .val (.long q2), .second, .val (.long q3), .second, .val (.long q4), .second, .val (.long q5), .second, .val (.ref (A0_9 p0 q1 q2 q3 q4 q5 w0 w1 w2 w3 w4 wc)), .val (.ref (A0_22 p0 q1 q2 q3 q4 q5 w0 w1 w2 w3 w4 wc)), .val (.int (A0_30 p0 q1 q2 q3 q4 q5 w0 w1 w2 w3 w4 wc)), .val (.long (J0_38_S0 p0 q1 q2 q3 q4 q5 w0 w1 w2 w3 w4 wc)), .second, .val (.long (J0_55_S0 p0 q1 q2 q3 q4 q5 w0 w1 w2 w3 w4 wc)), .second, .val (.long (J0_72_S0 p0 q1 q2 q3 q4 q5 w0 w1 w2 w3 w4 wc)), .second, .val (.int (J0_90_S0 p0 q1 q2 q3 q4 q5 w0 w1 w2 w3 w4 wc)), .val (.long (J0_109_S0 p0 q1 q2 q3 q4 q5 w0 w1 w2 w3 w4 wc)), .second, .val (.int (A0_128 p0 q1 q2 q3 q4 q5 w0 w1 w2 w3 w4 wc)), .val (.ref b13), .val (.ref b14), .val (.ref b17), .unset] [])) _
              refine XS.iconst X20.here hx rfl (hb hby at_291) ?_
              show Steps p.tables e below (T20.setTop (mkF m 292 #[.val (.int p0), .val (.long q1), .second, .val (.long q2), .second, .val (.long q3), .second, .val (.long q4), .second, .val (.long q5), .second, .val (.ref (A0_9 p0 q1 q2 q3 q4 q5 w0 w1 w2 w3 w4 wc)), .val (.ref (A0_22 p0 q1 q2 q3 q4 q5 w0 w1 w2 w3 w4 wc)), .val (.int (A0_30 p0 q1 q2 q3 q4 q5 w0 w1 w2 w3 w4 wc)), .val (.long (J0_38_S0 p0 q1 q2 q3 q4 q5 w0 w1 w2 w3 w4 wc)), .second, .val (.long (J0_55_S0 p0 q1 q2 q3 q4 q5 w0 w1 w2 w3 w4 wc)), .second, .val (.long (J0_72_S0 p0 q1 q2 q3 q4 q5 w0 w1 w2 w3 w4 wc)), .second, .val (.int (J0_90_S0 p0 q1 q2 q3 q4 q5 w0 w1 w2 w3 w4 wc)), .val (.long (J0_109_S0 p0 q1 q2 q3 q4 q5 w0 w1 w2 w3 w4 wc)), .second, .val (.int (A0_128 p0 q1 q2 q3 q4 q5 w0 w1 w2 w3 w4 wc)), .val (.ref b13), .val (.ref b14), .val (.ref b17), .unset] [(.int (0 : Int32))])) _
              have qjS0 : (J0_247_S0 p0 q1 q2 q3 q4 q5 w0 w1 w2 w3 w4 wc) = (0 : Int32) := by unfold J0_247_S0; simp only [if_true, if_false, if_pos ha247, if_neg hc254]
              rw [qjS0] at kt
              exact kt
          · refine ⟨T20, _, X20, N20, (rfl : T20.heap = T20.heap), fun t kt => pre27 t ?_⟩
            show Steps p.tables e below (T20.setTop (mkF m 247 #[.val (.int p0), .val (.long q1), .second, .val (.long q2), .second, .val (.long q3), .second, .val (.long q4), .second, .val (.long q5), .second, .val (.ref (A0_9 p0 q1 q2 q3 q4 q5 w0 w1 w2 w3 w4 wc)), .val (.ref (A0_22 p0 q1 q2 q3 q4 q5 w0 w1 w2 w3 w4 wc)), .val (.int (A0_30 p0 q1 q2 q3 q4 q5 w0 w1 w2 w3 w4 wc)), .val (.long (J0_38_S0 p0 q1 q2 q3 q4 q5 w0 w1 w2 w3 w4 wc)), .second, .val (.long (J0_55_S0 p0 q1 q2 q3 q4 q5 w0 w1 w2 w3 w4 wc)), .second, .val (.long (J0_72_S0 p0 q1 q2 q3 q4 q5 w0 w1 w2 w3 w4 wc)), .second, .val (.int (J0_90_S0 p0 q1 q2 q3 q4 q5 w0 w1 w2 w3 w4 wc)), .val (.long (J0_109_S0 p0 q1 q2 q3 q4 q5 w0 w1 w2 w3 w4 wc)), .second, .val (.int (A0_128 p0 q1 q2 q3 q4 q5 w0 w1 w2 w3 w4 wc)), .val (.ref b13), .val (.ref b14), .val (.ref b17), .unset] [(.ref (A0_22 p0 q1 q2 q3 q4 q5 w0 w1 w2 w3 w4 wc)), (.ref (A0_9 p0 q1 q2 q3 q4 q5 w0 w1 w2 w3 w4 wc))])) _
            refine Jvm.RoadKit.acmp (g := (mkF m 247 #[.val (.int p0), .val (.long q1), .second, .val (.long q2), .second, .val (.long q3), .second, .val (.long q4), .second, .val (.long q5), .second, .val (.ref (A0_9 p0 q1 q2 q3 q4 q5 w0 w1 w2 w3 w4 wc)), .val (.ref (A0_22 p0 q1 q2 q3 q4 q5 w0 w1 w2 w3 w4 wc)), .val (.int (A0_30 p0 q1 q2 q3 q4 q5 w0 w1 w2 w3 w4 wc)), .val (.long (J0_38_S0 p0 q1 q2 q3 q4 q5 w0 w1 w2 w3 w4 wc)), .second, .val (.long (J0_55_S0 p0 q1 q2 q3 q4 q5 w0 w1 w2 w3 w4 wc)), .second, .val (.long (J0_72_S0 p0 q1 q2 q3 q4 q5 w0 w1 w2 w3 w4 wc)), .second, .val (.int (J0_90_S0 p0 q1 q2 q3 q4 q5 w0 w1 w2 w3 w4 wc)), .val (.long (J0_109_S0 p0 q1 q2 q3 q4 q5 w0 w1 w2 w3 w4 wc)), .second, .val (.int (A0_128 p0 q1 q2 q3 q4 q5 w0 w1 w2 w3 w4 wc)), .val (.ref b13), .val (.ref b14), .val (.ref b17), .unset] [(.ref (A0_22 p0 q1 q2 q3 q4 q5 w0 w1 w2 w3 w4 wc)), (.ref (A0_9 p0 q1 q2 q3 q4 q5 w0 w1 w2 w3 w4 wc))])) X20 hx rfl rfl rfl (pc0 := 247) (pc' := 291) (same := false) rfl (hb hby at_247) rfl (decide_eq_false fun q => ha247 (Value.ref.inj q)) (by decide) (by decide) ?_
            show Steps p.tables e below (T20.setTop (mkF m 291 #[.val (.int p0), .val (.long q1), .second, .val (.long q2), .second, .val (.long q3), .second, .val (.long q4), .second, .val (.long q5), .second, .val (.ref (A0_9 p0 q1 q2 q3 q4 q5 w0 w1 w2 w3 w4 wc)), .val (.ref (A0_22 p0 q1 q2 q3 q4 q5 w0 w1 w2 w3 w4 wc)), .val (.int (A0_30 p0 q1 q2 q3 q4 q5 w0 w1 w2 w3 w4 wc)), .val (.long (J0_38_S0 p0 q1 q2 q3 q4 q5 w0 w1 w2 w3 w4 wc)), .second, .val (.long (J0_55_S0 p0 q1 q2 q3 q4 q5 w0 w1 w2 w3 w4 wc)), .second, .val (.long (J0_72_S0 p0 q1 q2 q3 q4 q5 w0 w1 w2 w3 w4 wc)), .second, .val (.int (J0_90_S0 p0 q1 q2 q3 q4 q5 w0 w1 w2 w3 w4 wc)), .val (.long (J0_109_S0 p0 q1 q2 q3 q4 q5 w0 w1 w2 w3 w4 wc)), .second, .val (.int (A0_128 p0 q1 q2 q3 q4 q5 w0 w1 w2 w3 w4 wc)), .val (.ref b13), .val (.ref b14), .val (.ref b17), .unset] [])) _
            refine XS.iconst X20.here hx rfl (hb hby at_291) ?_
            show Steps p.tables e below (T20.setTop (mkF m 292 #[.val (.int p0), .val (.long q1), .second, .val (.long q2), .second, .val (.long q3), .second, .val (.long q4), .second, .val (.long q5), .second, .val (.ref (A0_9 p0 q1 q2 q3 q4 q5 w0 w1 w2 w3 w4 wc)), .val (.ref (A0_22 p0 q1 q2 q3 q4 q5 w0 w1 w2 w3 w4 wc)), .val (.int (A0_30 p0 q1 q2 q3 q4 q5 w0 w1 w2 w3 w4 wc)), .val (.long (J0_38_S0 p0 q1 q2 q3 q4 q5 w0 w1 w2 w3 w4 wc)), .second, .val (.long (J0_55_S0 p0 q1 q2 q3 q4 q5 w0 w1 w2 w3 w4 wc)), .second, .val (.long (J0_72_S0 p0 q1 q2 q3 q4 q5 w0 w1 w2 w3 w4 wc)), .second, .val (.int (J0_90_S0 p0 q1 q2 q3 q4 q5 w0 w1 w2 w3 w4 wc)), .val (.long (J0_109_S0 p0 q1 q2 q3 q4 q5 w0 w1 w2 w3 w4 wc)), .second, .val (.int (A0_128 p0 q1 q2 q3 q4 q5 w0 w1 w2 w3 w4 wc)), .val (.ref b13), .val (.ref b14), .val (.ref b17), .unset] [(.int (0 : Int32))])) _
            have qjS0 : (J0_247_S0 p0 q1 q2 q3 q4 q5 w0 w1 w2 w3 w4 wc) = (0 : Int32) := by unfold J0_247_S0; simp only [if_true, if_false, if_neg ha247]
            rw [qjS0] at kt
            exact kt
        obtain ⟨cq34, kq34, q34a, q34b, q34c⟩ := isOf hZ ej33 (Exa.keep (Exa.ext E17 P16_0) K20c)
        obtain ⟨_, _, ⟨T34, L34, k34, n34⟩, -, X34, ⟨Lc34, hQ34, ll34, ly34, lz34⟩, st34⟩ := Xj33.virtualBack hx (y := (⟨"com/example/grove8/grove8/Context", "equals", "(Ljava/lang/Object;)Z"⟩ : MethodName)) (z := (⟨"com/example/grove8/grove8/Context", "equals", "(Ljava/lang/Object;)Z"⟩ : MethodName)) hown (mvT hZ (hw _ (List.mem_of_getElem? (i := 57) rfl))) (mvT hZ (hw _ (List.mem_of_getElem? (i := 58) rfl))) (notFace_of_selects (args := #[]) (mvT hZ (hw _ (List.mem_of_getElem? (i := 60) rfl)))) (mvT hZ (hw _ (List.mem_of_getElem? (i := 60) rfl))) (mvT hZ (hw _ (List.mem_of_getElem? (i := 59) rfl))) (by decide) (backOf (W := 0) (rm9c l Z a0 hw [] b14 b17 (A0_9 p0 q1 q2 q3 q4 q5 w0 w1 w2 w3 w4 wc) q1 q2 q3 (A0_30 p0 q1 q2 q3 q4 q5 w0 w1 w2 w3 w4 wc) q4 (A0_22 p0 q1 q2 q3 q4 q5 w0 w1 w2 w3 w4 wc) (J0_38_S0 p0 q1 q2 q3 q4 q5 w0 w1 w2 w3 w4 wc) (J0_55_S0 p0 q1 q2 q3 q4 q5 w0 w1 w2 w3 w4 wc) (J0_72_S0 p0 q1 q2 q3 q4 q5 w0 w1 w2 w3 w4 wc) (J0_90_S0 p0 q1 q2 q3 q4 q5 w0 w1 w2 w3 w4 wc) (J0_109_S0 p0 q1 q2 q3 q4 q5 w0 w1 w2 w3 w4 wc) T20.heap n0 (Nat.le_trans (Nat.le_trans (Nat.le_trans (Nat.le_trans (Nat.le_trans Z0 K13c.1) E14.1) K16c.1) E17.1) K20c.1) ((Fld.ext E17 P16_1).keep K20c (ninS ne19 nin0)) ((Fld.ext E17 P16_2).keep K20c (ninS ne19 nin0)) ((Fld.ext E17 P16_3).keep K20c (ninS ne19 nin0)) ((Fld.ext E17 P16_4).keep K20c (ninS ne19 nin0)) ((Fld.ext E17 P16_5).keep K20c (ninS ne19 nin0)) ((Fld.ext E17 P16_6).keep K20c (ninS ne19 nin0)) P20_1 P20_2 P20_3 P20_4 P20_5 P20_6 P20_0) hZ (hw _ (List.mem_of_getElem? (i := 61) rfl)) (hw _ (List.mem_of_getElem? (i := 35) rfl)) (by decide) (by decide)) q34a q34c (g := (mkF m 298 #[.val (.int p0), .val (.long q1), .second, .val (.long q2), .second, .val (.long q3), .second, .val (.long q4), .second, .val (.long q5), .second, .val (.ref (A0_9 p0 q1 q2 q3 q4 q5 w0 w1 w2 w3 w4 wc)), .val (.ref (A0_22 p0 q1 q2 q3 q4 q5 w0 w1 w2 w3 w4 wc)), .val (.int (A0_30 p0 q1 q2 q3 q4 q5 w0 w1 w2 w3 w4 wc)), .val (.long (J0_38_S0 p0 q1 q2 q3 q4 q5 w0 w1 w2 w3 w4 wc)), .second, .val (.long (J0_55_S0 p0 q1 q2 q3 q4 q5 w0 w1 w2 w3 w4 wc)), .second, .val (.long (J0_72_S0 p0 q1 q2 q3 q4 q5 w0 w1 w2 w3 w4 wc)), .second, .val (.int (J0_90_S0 p0 q1 q2 q3 q4 q5 w0 w1 w2 w3 w4 wc)), .val (.long (J0_109_S0 p0 q1 q2 q3 q4 q5 w0 w1 w2 w3 w4 wc)), .second, .val (.int (A0_128 p0 q1 q2 q3 q4 q5 w0 w1 w2 w3 w4 wc)), .val (.ref b13), .val (.ref b14), .val (.ref b17), .val (.int (J0_247_S0 p0 q1 q2 q3 q4 q5 w0 w1 w2 w3 w4 wc))] [(.ref b17), (.ref b14)])) rfl (by rw [hml]; rfl) (Steps.refl _) (argsL := [(.ref b17)]) (rest := []) (lenOf pd__Ljava_lang_Object__Z rfl) rfl (by show 2 * 0 + _ ≤ _; exact Nat.le_of_eq rfl) (hb hby at_298) (fun _ _ => ⟨rfl, ej33, (by decide : 4 + 0 ≤ _), (by decide : 17 + 0 ≤ _)⟩)
        dsimp only [Pt.U, Pt.locs, Pt.cells, Pt.slots] at X34 ll34 ly34 lz34 st34 hQ34
        subst ll34 ly34 lz34
        obtain ⟨rfl, N34q, e34⟩ := hQ34
        have N34 := Fr.app Nj33 N34q
        have pre35 : ∀ t, Steps p.tables e below (T34.setTop (mkF m 303 #[.val (.int p0), .val (.long q1), .second, .val (.long q2), .second, .val (.long q3), .second, .val (.long q4), .second, .val (.long q5), .second, .val (.ref (A0_9 p0 q1 q2 q3 q4 q5 w0 w1 w2 w3 w4 wc)), .val (.ref (A0_22 p0 q1 q2 q3 q4 q5 w0 w1 w2 w3 w4 wc)), .val (.int (A0_30 p0 q1 q2 q3 q4 q5 w0 w1 w2 w3 w4 wc)), .val (.long (J0_38_S0 p0 q1 q2 q3 q4 q5 w0 w1 w2 w3 w4 wc)), .second, .val (.long (J0_55_S0 p0 q1 q2 q3 q4 q5 w0 w1 w2 w3 w4 wc)), .second, .val (.long (J0_72_S0 p0 q1 q2 q3 q4 q5 w0 w1 w2 w3 w4 wc)), .second, .val (.int (J0_90_S0 p0 q1 q2 q3 q4 q5 w0 w1 w2 w3 w4 wc)), .val (.long (J0_109_S0 p0 q1 q2 q3 q4 q5 w0 w1 w2 w3 w4 wc)), .second, .val (.int (A0_128 p0 q1 q2 q3 q4 q5 w0 w1 w2 w3 w4 wc)), .val (.ref b13), .val (.ref b14), .val (.ref b17), .val (.int (J0_247_S0 p0 q1 q2 q3 q4 q5 w0 w1 w2 w3 w4 wc))] [(.int (J0_247_S0 p0 q1 q2 q3 q4 q5 w0 w1 w2 w3 w4 wc)), (.int (F9c (A0_9 p0 q1 q2 q3 q4 q5 w0 w1 w2 w3 w4 wc) q1 q2 q3 (A0_30 p0 q1 q2 q3 q4 q5 w0 w1 w2 w3 w4 wc) q4 (A0_22 p0 q1 q2 q3 q4 q5 w0 w1 w2 w3 w4 wc) (J0_38_S0 p0 q1 q2 q3 q4 q5 w0 w1 w2 w3 w4 wc) (J0_55_S0 p0 q1 q2 q3 q4 q5 w0 w1 w2 w3 w4 wc) (J0_72_S0 p0 q1 q2 q3 q4 q5 w0 w1 w2 w3 w4 wc) (J0_90_S0 p0 q1 q2 q3 q4 q5 w0 w1 w2 w3 w4 wc) (J0_109_S0 p0 q1 q2 q3 q4 q5 w0 w1 w2 w3 w4 wc)))])) t → Steps p.tables e below (s₁.setTop (entryFrame m #[(.int p0), (.long q1), (.long q2), (.long q3), (.long q4), (.long q5)] maxLocals)) t := fun t kt => pre33 t (by
          show Steps p.tables e below (Tj33.setTop (mkF m 292 #[.val (.int p0), .val (.long q1), .second, .val (.long q2), .second, .val (.long q3), .second, .val (.long q4), .second, .val (.long q5), .second, .val (.ref (A0_9 p0 q1 q2 q3 q4 q5 w0 w1 w2 w3 w4 wc)), .val (.ref (A0_22 p0 q1 q2 q3 q4 q5 w0 w1 w2 w3 w4 wc)), .val (.int (A0_30 p0 q1 q2 q3 q4 q5 w0 w1 w2 w3 w4 wc)), .val (.long (J0_38_S0 p0 q1 q2 q3 q4 q5 w0 w1 w2 w3 w4 wc)), .second, .val (.long (J0_55_S0 p0 q1 q2 q3 q4 q5 w0 w1 w2 w3 w4 wc)), .second, .val (.long (J0_72_S0 p0 q1 q2 q3 q4 q5 w0 w1 w2 w3 w4 wc)), .second, .val (.int (J0_90_S0 p0 q1 q2 q3 q4 q5 w0 w1 w2 w3 w4 wc)), .val (.long (J0_109_S0 p0 q1 q2 q3 q4 q5 w0 w1 w2 w3 w4 wc)), .second, .val (.int (A0_128 p0 q1 q2 q3 q4 q5 w0 w1 w2 w3 w4 wc)), .val (.ref b13), .val (.ref b14), .val (.ref b17), .unset] [(.int (J0_247_S0 p0 q1 q2 q3 q4 q5 w0 w1 w2 w3 w4 wc))])) _
          refine XS.istore Xj33.here hx rfl (hb hby at_292) rfl (l' := #[.val (.int p0), .val (.long q1), .second, .val (.long q2), .second, .val (.long q3), .second, .val (.long q4), .second, .val (.long q5), .second, .val (.ref (A0_9 p0 q1 q2 q3 q4 q5 w0 w1 w2 w3 w4 wc)), .val (.ref (A0_22 p0 q1 q2 q3 q4 q5 w0 w1 w2 w3 w4 wc)), .val (.int (A0_30 p0 q1 q2 q3 q4 q5 w0 w1 w2 w3 w4 wc)), .val (.long (J0_38_S0 p0 q1 q2 q3 q4 q5 w0 w1 w2 w3 w4 wc)), .second, .val (.long (J0_55_S0 p0 q1 q2 q3 q4 q5 w0 w1 w2 w3 w4 wc)), .second, .val (.long (J0_72_S0 p0 q1 q2 q3 q4 q5 w0 w1 w2 w3 w4 wc)), .second, .val (.int (J0_90_S0 p0 q1 q2 q3 q4 q5 w0 w1 w2 w3 w4 wc)), .val (.long (J0_109_S0 p0 q1 q2 q3 q4 q5 w0 w1 w2 w3 w4 wc)), .second, .val (.int (A0_128 p0 q1 q2 q3 q4 q5 w0 w1 w2 w3 w4 wc)), .val (.ref b13), .val (.ref b14), .val (.ref b17), .val (.int (J0_247_S0 p0 q1 q2 q3 q4 q5 w0 w1 w2 w3 w4 wc))]) rfl ?_
          show Steps p.tables e below (Tj33.setTop (mkF m 294 #[.val (.int p0), .val (.long q1), .second, .val (.long q2), .second, .val (.long q3), .second, .val (.long q4), .second, .val (.long q5), .second, .val (.ref (A0_9 p0 q1 q2 q3 q4 q5 w0 w1 w2 w3 w4 wc)), .val (.ref (A0_22 p0 q1 q2 q3 q4 q5 w0 w1 w2 w3 w4 wc)), .val (.int (A0_30 p0 q1 q2 q3 q4 q5 w0 w1 w2 w3 w4 wc)), .val (.long (J0_38_S0 p0 q1 q2 q3 q4 q5 w0 w1 w2 w3 w4 wc)), .second, .val (.long (J0_55_S0 p0 q1 q2 q3 q4 q5 w0 w1 w2 w3 w4 wc)), .second, .val (.long (J0_72_S0 p0 q1 q2 q3 q4 q5 w0 w1 w2 w3 w4 wc)), .second, .val (.int (J0_90_S0 p0 q1 q2 q3 q4 q5 w0 w1 w2 w3 w4 wc)), .val (.long (J0_109_S0 p0 q1 q2 q3 q4 q5 w0 w1 w2 w3 w4 wc)), .second, .val (.int (A0_128 p0 q1 q2 q3 q4 q5 w0 w1 w2 w3 w4 wc)), .val (.ref b13), .val (.ref b14), .val (.ref b17), .val (.int (J0_247_S0 p0 q1 q2 q3 q4 q5 w0 w1 w2 w3 w4 wc))] [])) _
          refine XS.aload Xj33.here hx rfl (hb hby at_294) rfl rfl ?_
          show Steps p.tables e below (Tj33.setTop (mkF m 296 #[.val (.int p0), .val (.long q1), .second, .val (.long q2), .second, .val (.long q3), .second, .val (.long q4), .second, .val (.long q5), .second, .val (.ref (A0_9 p0 q1 q2 q3 q4 q5 w0 w1 w2 w3 w4 wc)), .val (.ref (A0_22 p0 q1 q2 q3 q4 q5 w0 w1 w2 w3 w4 wc)), .val (.int (A0_30 p0 q1 q2 q3 q4 q5 w0 w1 w2 w3 w4 wc)), .val (.long (J0_38_S0 p0 q1 q2 q3 q4 q5 w0 w1 w2 w3 w4 wc)), .second, .val (.long (J0_55_S0 p0 q1 q2 q3 q4 q5 w0 w1 w2 w3 w4 wc)), .second, .val (.long (J0_72_S0 p0 q1 q2 q3 q4 q5 w0 w1 w2 w3 w4 wc)), .second, .val (.int (J0_90_S0 p0 q1 q2 q3 q4 q5 w0 w1 w2 w3 w4 wc)), .val (.long (J0_109_S0 p0 q1 q2 q3 q4 q5 w0 w1 w2 w3 w4 wc)), .second, .val (.int (A0_128 p0 q1 q2 q3 q4 q5 w0 w1 w2 w3 w4 wc)), .val (.ref b13), .val (.ref b14), .val (.ref b17), .val (.int (J0_247_S0 p0 q1 q2 q3 q4 q5 w0 w1 w2 w3 w4 wc))] [(.ref b14)])) _
          refine XS.aload Xj33.here hx rfl (hb hby at_296) rfl rfl ?_
          show Steps p.tables e below (Tj33.setTop (mkF m 298 #[.val (.int p0), .val (.long q1), .second, .val (.long q2), .second, .val (.long q3), .second, .val (.long q4), .second, .val (.long q5), .second, .val (.ref (A0_9 p0 q1 q2 q3 q4 q5 w0 w1 w2 w3 w4 wc)), .val (.ref (A0_22 p0 q1 q2 q3 q4 q5 w0 w1 w2 w3 w4 wc)), .val (.int (A0_30 p0 q1 q2 q3 q4 q5 w0 w1 w2 w3 w4 wc)), .val (.long (J0_38_S0 p0 q1 q2 q3 q4 q5 w0 w1 w2 w3 w4 wc)), .second, .val (.long (J0_55_S0 p0 q1 q2 q3 q4 q5 w0 w1 w2 w3 w4 wc)), .second, .val (.long (J0_72_S0 p0 q1 q2 q3 q4 q5 w0 w1 w2 w3 w4 wc)), .second, .val (.int (J0_90_S0 p0 q1 q2 q3 q4 q5 w0 w1 w2 w3 w4 wc)), .val (.long (J0_109_S0 p0 q1 q2 q3 q4 q5 w0 w1 w2 w3 w4 wc)), .second, .val (.int (A0_128 p0 q1 q2 q3 q4 q5 w0 w1 w2 w3 w4 wc)), .val (.ref b13), .val (.ref b14), .val (.ref b17), .val (.int (J0_247_S0 p0 q1 q2 q3 q4 q5 w0 w1 w2 w3 w4 wc))] [(.ref b17), (.ref b14)])) _
          refine st34.trans ?_
          show Steps p.tables e below (T34.setTop (mkF m 301 #[.val (.int p0), .val (.long q1), .second, .val (.long q2), .second, .val (.long q3), .second, .val (.long q4), .second, .val (.long q5), .second, .val (.ref (A0_9 p0 q1 q2 q3 q4 q5 w0 w1 w2 w3 w4 wc)), .val (.ref (A0_22 p0 q1 q2 q3 q4 q5 w0 w1 w2 w3 w4 wc)), .val (.int (A0_30 p0 q1 q2 q3 q4 q5 w0 w1 w2 w3 w4 wc)), .val (.long (J0_38_S0 p0 q1 q2 q3 q4 q5 w0 w1 w2 w3 w4 wc)), .second, .val (.long (J0_55_S0 p0 q1 q2 q3 q4 q5 w0 w1 w2 w3 w4 wc)), .second, .val (.long (J0_72_S0 p0 q1 q2 q3 q4 q5 w0 w1 w2 w3 w4 wc)), .second, .val (.int (J0_90_S0 p0 q1 q2 q3 q4 q5 w0 w1 w2 w3 w4 wc)), .val (.long (J0_109_S0 p0 q1 q2 q3 q4 q5 w0 w1 w2 w3 w4 wc)), .second, .val (.int (A0_128 p0 q1 q2 q3 q4 q5 w0 w1 w2 w3 w4 wc)), .val (.ref b13), .val (.ref b14), .val (.ref b17), .val (.int (J0_247_S0 p0 q1 q2 q3 q4 q5 w0 w1 w2 w3 w4 wc))] [(.int (F9c (A0_9 p0 q1 q2 q3 q4 q5 w0 w1 w2 w3 w4 wc) q1 q2 q3 (A0_30 p0 q1 q2 q3 q4 q5 w0 w1 w2 w3 w4 wc) q4 (A0_22 p0 q1 q2 q3 q4 q5 w0 w1 w2 w3 w4 wc) (J0_38_S0 p0 q1 q2 q3 q4 q5 w0 w1 w2 w3 w4 wc) (J0_55_S0 p0 q1 q2 q3 q4 q5 w0 w1 w2 w3 w4 wc) (J0_72_S0 p0 q1 q2 q3 q4 q5 w0 w1 w2 w3 w4 wc) (J0_90_S0 p0 q1 q2 q3 q4 q5 w0 w1 w2 w3 w4 wc) (J0_109_S0 p0 q1 q2 q3 q4 q5 w0 w1 w2 w3 w4 wc)))])) _
          refine XS.iload X34.here hx rfl (hb hby at_301) rfl ?_
          exact kt)
        by_cases hc303 : (F9c (A0_9 p0 q1 q2 q3 q4 q5 w0 w1 w2 w3 w4 wc) q1 q2 q3 (A0_30 p0 q1 q2 q3 q4 q5 w0 w1 w2 w3 w4 wc) q4 (A0_22 p0 q1 q2 q3 q4 q5 w0 w1 w2 w3 w4 wc) (J0_38_S0 p0 q1 q2 q3 q4 q5 w0 w1 w2 w3 w4 wc) (J0_55_S0 p0 q1 q2 q3 q4 q5 w0 w1 w2 w3 w4 wc) (J0_72_S0 p0 q1 q2 q3 q4 q5 w0 w1 w2 w3 w4 wc) (J0_90_S0 p0 q1 q2 q3 q4 q5 w0 w1 w2 w3 w4 wc) (J0_109_S0 p0 q1 q2 q3 q4 q5 w0 w1 w2 w3 w4 wc)) = (J0_247_S0 p0 q1 q2 q3 q4 q5 w0 w1 w2 w3 w4 wc)
        · obtain ⟨cq36, kq36, q36a, q36b, q36c⟩ := isOf hZ e34 P20_0
          obtain ⟨_, _, ⟨T36, L36, k36, n36⟩, -, X36, ⟨Lc36, hQ36, ll36, ly36, lz36⟩, st36⟩ := X34.virtualBack hx (y := (⟨"com/example/grove8/grove8/Context", "equals", "(Ljava/lang/Object;)Z"⟩ : MethodName)) (z := (⟨"com/example/grove8/grove8/Context", "equals", "(Ljava/lang/Object;)Z"⟩ : MethodName)) hown (mvT hZ (hw _ (List.mem_of_getElem? (i := 57) rfl))) (mvT hZ (hw _ (List.mem_of_getElem? (i := 58) rfl))) (notFace_of_selects (args := #[]) (mvT hZ (hw _ (List.mem_of_getElem? (i := 60) rfl)))) (mvT hZ (hw _ (List.mem_of_getElem? (i := 60) rfl))) (mvT hZ (hw _ (List.mem_of_getElem? (i := 59) rfl))) (by decide) (backOf (W := 0) (rm9c l Z a0 hw [] b17 b14 (A0_22 p0 q1 q2 q3 q4 q5 w0 w1 w2 w3 w4 wc) (J0_38_S0 p0 q1 q2 q3 q4 q5 w0 w1 w2 w3 w4 wc) (J0_55_S0 p0 q1 q2 q3 q4 q5 w0 w1 w2 w3 w4 wc) (J0_72_S0 p0 q1 q2 q3 q4 q5 w0 w1 w2 w3 w4 wc) (J0_90_S0 p0 q1 q2 q3 q4 q5 w0 w1 w2 w3 w4 wc) (J0_109_S0 p0 q1 q2 q3 q4 q5 w0 w1 w2 w3 w4 wc) (A0_9 p0 q1 q2 q3 q4 q5 w0 w1 w2 w3 w4 wc) q1 q2 q3 (A0_30 p0 q1 q2 q3 q4 q5 w0 w1 w2 w3 w4 wc) q4 T20.heap n0 (Nat.le_trans (Nat.le_trans (Nat.le_trans (Nat.le_trans (Nat.le_trans Z0 K13c.1) E14.1) K16c.1) E17.1) K20c.1) P20_1 P20_2 P20_3 P20_4 P20_5 P20_6 ((Fld.ext E17 P16_1).keep K20c (ninS ne19 nin0)) ((Fld.ext E17 P16_2).keep K20c (ninS ne19 nin0)) ((Fld.ext E17 P16_3).keep K20c (ninS ne19 nin0)) ((Fld.ext E17 P16_4).keep K20c (ninS ne19 nin0)) ((Fld.ext E17 P16_5).keep K20c (ninS ne19 nin0)) ((Fld.ext E17 P16_6).keep K20c (ninS ne19 nin0)) (Exa.keep (Exa.ext E17 P16_0) K20c)) hZ (hw _ (List.mem_of_getElem? (i := 61) rfl)) (hw _ (List.mem_of_getElem? (i := 35) rfl)) (by decide) (by decide)) q36a q36c (g := (mkF m 310 #[.val (.int p0), .val (.long q1), .second, .val (.long q2), .second, .val (.long q3), .second, .val (.long q4), .second, .val (.long q5), .second, .val (.ref (A0_9 p0 q1 q2 q3 q4 q5 w0 w1 w2 w3 w4 wc)), .val (.ref (A0_22 p0 q1 q2 q3 q4 q5 w0 w1 w2 w3 w4 wc)), .val (.int (A0_30 p0 q1 q2 q3 q4 q5 w0 w1 w2 w3 w4 wc)), .val (.long (J0_38_S0 p0 q1 q2 q3 q4 q5 w0 w1 w2 w3 w4 wc)), .second, .val (.long (J0_55_S0 p0 q1 q2 q3 q4 q5 w0 w1 w2 w3 w4 wc)), .second, .val (.long (J0_72_S0 p0 q1 q2 q3 q4 q5 w0 w1 w2 w3 w4 wc)), .second, .val (.int (J0_90_S0 p0 q1 q2 q3 q4 q5 w0 w1 w2 w3 w4 wc)), .val (.long (J0_109_S0 p0 q1 q2 q3 q4 q5 w0 w1 w2 w3 w4 wc)), .second, .val (.int (A0_128 p0 q1 q2 q3 q4 q5 w0 w1 w2 w3 w4 wc)), .val (.ref b13), .val (.ref b14), .val (.ref b17), .val (.int (J0_247_S0 p0 q1 q2 q3 q4 q5 w0 w1 w2 w3 w4 wc))] [(.ref b14), (.ref b17)])) rfl (by rw [hml]; rfl) (Steps.refl _) (argsL := [(.ref b14)]) (rest := []) (lenOf pd__Ljava_lang_Object__Z rfl) rfl (by show 2 * 0 + _ ≤ _; exact Nat.le_of_eq rfl) (hb hby at_310) (fun _ _ => ⟨rfl, e34, (by decide : 4 + 0 ≤ _), (by decide : 17 + 0 ≤ _)⟩)
          dsimp only [Pt.U, Pt.locs, Pt.cells, Pt.slots] at X36 ll36 ly36 lz36 st36 hQ36
          subst ll36 ly36 lz36
          obtain ⟨rfl, N36q, e36⟩ := hQ36
          have N36 := Fr.app N34 N36q
          have pre37 : ∀ t, Steps p.tables e below (T36.setTop (mkF m 315 #[.val (.int p0), .val (.long q1), .second, .val (.long q2), .second, .val (.long q3), .second, .val (.long q4), .second, .val (.long q5), .second, .val (.ref (A0_9 p0 q1 q2 q3 q4 q5 w0 w1 w2 w3 w4 wc)), .val (.ref (A0_22 p0 q1 q2 q3 q4 q5 w0 w1 w2 w3 w4 wc)), .val (.int (A0_30 p0 q1 q2 q3 q4 q5 w0 w1 w2 w3 w4 wc)), .val (.long (J0_38_S0 p0 q1 q2 q3 q4 q5 w0 w1 w2 w3 w4 wc)), .second, .val (.long (J0_55_S0 p0 q1 q2 q3 q4 q5 w0 w1 w2 w3 w4 wc)), .second, .val (.long (J0_72_S0 p0 q1 q2 q3 q4 q5 w0 w1 w2 w3 w4 wc)), .second, .val (.int (J0_90_S0 p0 q1 q2 q3 q4 q5 w0 w1 w2 w3 w4 wc)), .val (.long (J0_109_S0 p0 q1 q2 q3 q4 q5 w0 w1 w2 w3 w4 wc)), .second, .val (.int (A0_128 p0 q1 q2 q3 q4 q5 w0 w1 w2 w3 w4 wc)), .val (.ref b13), .val (.ref b14), .val (.ref b17), .val (.int (J0_247_S0 p0 q1 q2 q3 q4 q5 w0 w1 w2 w3 w4 wc))] [(.int (J0_247_S0 p0 q1 q2 q3 q4 q5 w0 w1 w2 w3 w4 wc)), (.int (F9c (A0_22 p0 q1 q2 q3 q4 q5 w0 w1 w2 w3 w4 wc) (J0_38_S0 p0 q1 q2 q3 q4 q5 w0 w1 w2 w3 w4 wc) (J0_55_S0 p0 q1 q2 q3 q4 q5 w0 w1 w2 w3 w4 wc) (J0_72_S0 p0 q1 q2 q3 q4 q5 w0 w1 w2 w3 w4 wc) (J0_90_S0 p0 q1 q2 q3 q4 q5 w0 w1 w2 w3 w4 wc) (J0_109_S0 p0 q1 q2 q3 q4 q5 w0 w1 w2 w3 w4 wc) (A0_9 p0 q1 q2 q3 q4 q5 w0 w1 w2 w3 w4 wc) q1 q2 q3 (A0_30 p0 q1 q2 q3 q4 q5 w0 w1 w2 w3 w4 wc) q4))])) t → Steps p.tables e below (s₁.setTop (entryFrame m #[(.int p0), (.long q1), (.long q2), (.long q3), (.long q4), (.long q5)] maxLocals)) t := fun t kt => pre35 t (by
            show Steps p.tables e below (T34.setTop (mkF m 303 #[.val (.int p0), .val (.long q1), .second, .val (.long q2), .second, .val (.long q3), .second, .val (.long q4), .second, .val (.long q5), .second, .val (.ref (A0_9 p0 q1 q2 q3 q4 q5 w0 w1 w2 w3 w4 wc)), .val (.ref (A0_22 p0 q1 q2 q3 q4 q5 w0 w1 w2 w3 w4 wc)), .val (.int (A0_30 p0 q1 q2 q3 q4 q5 w0 w1 w2 w3 w4 wc)), .val (.long (J0_38_S0 p0 q1 q2 q3 q4 q5 w0 w1 w2 w3 w4 wc)), .second, .val (.long (J0_55_S0 p0 q1 q2 q3 q4 q5 w0 w1 w2 w3 w4 wc)), .second, .val (.long (J0_72_S0 p0 q1 q2 q3 q4 q5 w0 w1 w2 w3 w4 wc)), .second, .val (.int (J0_90_S0 p0 q1 q2 q3 q4 q5 w0 w1 w2 w3 w4 wc)), .val (.long (J0_109_S0 p0 q1 q2 q3 q4 q5 w0 w1 w2 w3 w4 wc)), .second, .val (.int (A0_128 p0 q1 q2 q3 q4 q5 w0 w1 w2 w3 w4 wc)), .val (.ref b13), .val (.ref b14), .val (.ref b17), .val (.int (J0_247_S0 p0 q1 q2 q3 q4 q5 w0 w1 w2 w3 w4 wc))] [(.int (J0_247_S0 p0 q1 q2 q3 q4 q5 w0 w1 w2 w3 w4 wc)), (.int (F9c (A0_9 p0 q1 q2 q3 q4 q5 w0 w1 w2 w3 w4 wc) q1 q2 q3 (A0_30 p0 q1 q2 q3 q4 q5 w0 w1 w2 w3 w4 wc) q4 (A0_22 p0 q1 q2 q3 q4 q5 w0 w1 w2 w3 w4 wc) (J0_38_S0 p0 q1 q2 q3 q4 q5 w0 w1 w2 w3 w4 wc) (J0_55_S0 p0 q1 q2 q3 q4 q5 w0 w1 w2 w3 w4 wc) (J0_72_S0 p0 q1 q2 q3 q4 q5 w0 w1 w2 w3 w4 wc) (J0_90_S0 p0 q1 q2 q3 q4 q5 w0 w1 w2 w3 w4 wc) (J0_109_S0 p0 q1 q2 q3 q4 q5 w0 w1 w2 w3 w4 wc)))])) _
            refine XS.icmpNo X34.here hx rfl (hb hby at_303) rfl (teq hc303).2 ?_
            show Steps p.tables e below (T34.setTop (mkF m 306 #[.val (.int p0), .val (.long q1), .second, .val (.long q2), .second, .val (.long q3), .second, .val (.long q4), .second, .val (.long q5), .second, .val (.ref (A0_9 p0 q1 q2 q3 q4 q5 w0 w1 w2 w3 w4 wc)), .val (.ref (A0_22 p0 q1 q2 q3 q4 q5 w0 w1 w2 w3 w4 wc)), .val (.int (A0_30 p0 q1 q2 q3 q4 q5 w0 w1 w2 w3 w4 wc)), .val (.long (J0_38_S0 p0 q1 q2 q3 q4 q5 w0 w1 w2 w3 w4 wc)), .second, .val (.long (J0_55_S0 p0 q1 q2 q3 q4 q5 w0 w1 w2 w3 w4 wc)), .second, .val (.long (J0_72_S0 p0 q1 q2 q3 q4 q5 w0 w1 w2 w3 w4 wc)), .second, .val (.int (J0_90_S0 p0 q1 q2 q3 q4 q5 w0 w1 w2 w3 w4 wc)), .val (.long (J0_109_S0 p0 q1 q2 q3 q4 q5 w0 w1 w2 w3 w4 wc)), .second, .val (.int (A0_128 p0 q1 q2 q3 q4 q5 w0 w1 w2 w3 w4 wc)), .val (.ref b13), .val (.ref b14), .val (.ref b17), .val (.int (J0_247_S0 p0 q1 q2 q3 q4 q5 w0 w1 w2 w3 w4 wc))] [])) _
            refine XS.aload X34.here hx rfl (hb hby at_306) rfl rfl ?_
            show Steps p.tables e below (T34.setTop (mkF m 308 #[.val (.int p0), .val (.long q1), .second, .val (.long q2), .second, .val (.long q3), .second, .val (.long q4), .second, .val (.long q5), .second, .val (.ref (A0_9 p0 q1 q2 q3 q4 q5 w0 w1 w2 w3 w4 wc)), .val (.ref (A0_22 p0 q1 q2 q3 q4 q5 w0 w1 w2 w3 w4 wc)), .val (.int (A0_30 p0 q1 q2 q3 q4 q5 w0 w1 w2 w3 w4 wc)), .val (.long (J0_38_S0 p0 q1 q2 q3 q4 q5 w0 w1 w2 w3 w4 wc)), .second, .val (.long (J0_55_S0 p0 q1 q2 q3 q4 q5 w0 w1 w2 w3 w4 wc)), .second, .val (.long (J0_72_S0 p0 q1 q2 q3 q4 q5 w0 w1 w2 w3 w4 wc)), .second, .val (.int (J0_90_S0 p0 q1 q2 q3 q4 q5 w0 w1 w2 w3 w4 wc)), .val (.long (J0_109_S0 p0 q1 q2 q3 q4 q5 w0 w1 w2 w3 w4 wc)), .second, .val (.int (A0_128 p0 q1 q2 q3 q4 q5 w0 w1 w2 w3 w4 wc)), .val (.ref b13), .val (.ref b14), .val (.ref b17), .val (.int (J0_247_S0 p0 q1 q2 q3 q4 q5 w0 w1 w2 w3 w4 wc))] [(.ref b17)])) _
            refine XS.aload X34.here hx rfl (hb hby at_308) rfl rfl ?_
            show Steps p.tables e below (T34.setTop (mkF m 310 #[.val (.int p0), .val (.long q1), .second, .val (.long q2), .second, .val (.long q3), .second, .val (.long q4), .second, .val (.long q5), .second, .val (.ref (A0_9 p0 q1 q2 q3 q4 q5 w0 w1 w2 w3 w4 wc)), .val (.ref (A0_22 p0 q1 q2 q3 q4 q5 w0 w1 w2 w3 w4 wc)), .val (.int (A0_30 p0 q1 q2 q3 q4 q5 w0 w1 w2 w3 w4 wc)), .val (.long (J0_38_S0 p0 q1 q2 q3 q4 q5 w0 w1 w2 w3 w4 wc)), .second, .val (.long (J0_55_S0 p0 q1 q2 q3 q4 q5 w0 w1 w2 w3 w4 wc)), .second, .val (.long (J0_72_S0 p0 q1 q2 q3 q4 q5 w0 w1 w2 w3 w4 wc)), .second, .val (.int (J0_90_S0 p0 q1 q2 q3 q4 q5 w0 w1 w2 w3 w4 wc)), .val (.long (J0_109_S0 p0 q1 q2 q3 q4 q5 w0 w1 w2 w3 w4 wc)), .second, .val (.int (A0_128 p0 q1 q2 q3 q4 q5 w0 w1 w2 w3 w4 wc)), .val (.ref b13), .val (.ref b14), .val (.ref b17), .val (.int (J0_247_S0 p0 q1 q2 q3 q4 q5 w0 w1 w2 w3 w4 wc))] [(.ref b14), (.ref b17)])) _
            refine st36.trans ?_
            show Steps p.tables e below (T36.setTop (mkF m 313 #[.val (.int p0), .val (.long q1), .second, .val (.long q2), .second, .val (.long q3), .second, .val (.long q4), .second, .val (.long q5), .second, .val (.ref (A0_9 p0 q1 q2 q3 q4 q5 w0 w1 w2 w3 w4 wc)), .val (.ref (A0_22 p0 q1 q2 q3 q4 q5 w0 w1 w2 w3 w4 wc)), .val (.int (A0_30 p0 q1 q2 q3 q4 q5 w0 w1 w2 w3 w4 wc)), .val (.long (J0_38_S0 p0 q1 q2 q3 q4 q5 w0 w1 w2 w3 w4 wc)), .second, .val (.long (J0_55_S0 p0 q1 q2 q3 q4 q5 w0 w1 w2 w3 w4 wc)), .second, .val (.long (J0_72_S0 p0 q1 q2 q3 q4 q5 w0 w1 w2 w3 w4 wc)), .second, .val (.int (J0_90_S0 p0 q1 q2 q3 q4 q5 w0 w1 w2 w3 w4 wc)), .val (.long (J0_109_S0 p0 q1 q2 q3 q4 q5 w0 w1 w2 w3 w4 wc)), .second, .val (.int (A0_128 p0 q1 q2 q3 q4 q5 w0 w1 w2 w3 w4 wc)), .val (.ref b13), .val (.ref b14), .val (.ref b17), .val (.int (J0_247_S0 p0 q1 q2 q3 q4 q5 w0 w1 w2 w3 w4 wc))] [(.int (F9c (A0_22 p0 q1 q2 q3 q4 q5 w0 w1 w2 w3 w4 wc) (J0_38_S0 p0 q1 q2 q3 q4 q5 w0 w1 w2 w3 w4 wc) (J0_55_S0 p0 q1 q2 q3 q4 q5 w0 w1 w2 w3 w4 wc) (J0_72_S0 p0 q1 q2 q3 q4 q5 w0 w1 w2 w3 w4 wc) (J0_90_S0 p0 q1 q2 q3 q4 q5 w0 w1 w2 w3 w4 wc) (J0_109_S0 p0 q1 q2 q3 q4 q5 w0 w1 w2 w3 w4 wc) (A0_9 p0 q1 q2 q3 q4 q5 w0 w1 w2 w3 w4 wc) q1 q2 q3 (A0_30 p0 q1 q2 q3 q4 q5 w0 w1 w2 w3 w4 wc) q4))])) _
            refine XS.iload X36.here hx rfl (hb hby at_313) rfl ?_
            exact kt)
          by_cases hc315 : (F9c (A0_22 p0 q1 q2 q3 q4 q5 w0 w1 w2 w3 w4 wc) (J0_38_S0 p0 q1 q2 q3 q4 q5 w0 w1 w2 w3 w4 wc) (J0_55_S0 p0 q1 q2 q3 q4 q5 w0 w1 w2 w3 w4 wc) (J0_72_S0 p0 q1 q2 q3 q4 q5 w0 w1 w2 w3 w4 wc) (J0_90_S0 p0 q1 q2 q3 q4 q5 w0 w1 w2 w3 w4 wc) (J0_109_S0 p0 q1 q2 q3 q4 q5 w0 w1 w2 w3 w4 wc) (A0_9 p0 q1 q2 q3 q4 q5 w0 w1 w2 w3 w4 wc) q1 q2 q3 (A0_30 p0 q1 q2 q3 q4 q5 w0 w1 w2 w3 w4 wc) q4) = (J0_247_S0 p0 q1 q2 q3 q4 q5 w0 w1 w2 w3 w4 wc)
          · obtain ⟨fs, hr, hrun, hended, hW, hsame⟩ := X36.leave (v := some (.int (1 : Int32))) (fun h => by rw [Bd.returns] at h; cases h)
            refine ⟨_, _, pre37 _ ?_, hrun, hended, _, _, rfl, ?_, ⟨_, rfl⟩, hW, hsame.mono (by decide) (by decide)⟩
            · show Steps p.tables e below (T36.setTop (mkF m 315 #[.val (.int p0), .val (.long q1), .second, .val (.long q2), .second, .val (.long q3), .second, .val (.long q4), .second, .val (.long q5), .second, .val (.ref (A0_9 p0 q1 q2 q3 q4 q5 w0 w1 w2 w3 w4 wc)), .val (.ref (A0_22 p0 q1 q2 q3 q4 q5 w0 w1 w2 w3 w4 wc)), .val (.int (A0_30 p0 q1 q2 q3 q4 q5 w0 w1 w2 w3 w4 wc)), .val (.long (J0_38_S0 p0 q1 q2 q3 q4 q5 w0 w1 w2 w3 w4 wc)), .second, .val (.long (J0_55_S0 p0 q1 q2 q3 q4 q5 w0 w1 w2 w3 w4 wc)), .second, .val (.long (J0_72_S0 p0 q1 q2 q3 q4 q5 w0 w1 w2 w3 w4 wc)), .second, .val (.int (J0_90_S0 p0 q1 q2 q3 q4 q5 w0 w1 w2 w3 w4 wc)), .val (.long (J0_109_S0 p0 q1 q2 q3 q4 q5 w0 w1 w2 w3 w4 wc)), .second, .val (.int (A0_128 p0 q1 q2 q3 q4 q5 w0 w1 w2 w3 w4 wc)), .val (.ref b13), .val (.ref b14), .val (.ref b17), .val (.int (J0_247_S0 p0 q1 q2 q3 q4 q5 w0 w1 w2 w3 w4 wc))] [(.int (J0_247_S0 p0 q1 q2 q3 q4 q5 w0 w1 w2 w3 w4 wc)), (.int (F9c (A0_22 p0 q1 q2 q3 q4 q5 w0 w1 w2 w3 w4 wc) (J0_38_S0 p0 q1 q2 q3 q4 q5 w0 w1 w2 w3 w4 wc) (J0_55_S0 p0 q1 q2 q3 q4 q5 w0 w1 w2 w3 w4 wc) (J0_72_S0 p0 q1 q2 q3 q4 q5 w0 w1 w2 w3 w4 wc) (J0_90_S0 p0 q1 q2 q3 q4 q5 w0 w1 w2 w3 w4 wc) (J0_109_S0 p0 q1 q2 q3 q4 q5 w0 w1 w2 w3 w4 wc) (A0_9 p0 q1 q2 q3 q4 q5 w0 w1 w2 w3 w4 wc) q1 q2 q3 (A0_30 p0 q1 q2 q3 q4 q5 w0 w1 w2 w3 w4 wc) q4))])) _
              refine XS.icmpNo X36.here hx rfl (hb hby at_315) rfl (teq hc315).2 ?_
              show Steps p.tables e below (T36.setTop (mkF m 318 #[.val (.int p0), .val (.long q1), .second, .val (.long q2), .second, .val (.long q3), .second, .val (.long q4), .second, .val (.long q5), .second, .val (.ref (A0_9 p0 q1 q2 q3 q4 q5 w0 w1 w2 w3 w4 wc)), .val (.ref (A0_22 p0 q1 q2 q3 q4 q5 w0 w1 w2 w3 w4 wc)), .val (.int (A0_30 p0 q1 q2 q3 q4 q5 w0 w1 w2 w3 w4 wc)), .val (.long (J0_38_S0 p0 q1 q2 q3 q4 q5 w0 w1 w2 w3 w4 wc)), .second, .val (.long (J0_55_S0 p0 q1 q2 q3 q4 q5 w0 w1 w2 w3 w4 wc)), .second, .val (.long (J0_72_S0 p0 q1 q2 q3 q4 q5 w0 w1 w2 w3 w4 wc)), .second, .val (.int (J0_90_S0 p0 q1 q2 q3 q4 q5 w0 w1 w2 w3 w4 wc)), .val (.long (J0_109_S0 p0 q1 q2 q3 q4 q5 w0 w1 w2 w3 w4 wc)), .second, .val (.int (A0_128 p0 q1 q2 q3 q4 q5 w0 w1 w2 w3 w4 wc)), .val (.ref b13), .val (.ref b14), .val (.ref b17), .val (.int (J0_247_S0 p0 q1 q2 q3 q4 q5 w0 w1 w2 w3 w4 wc))] [])) _
              refine XS.iconst X36.here hx rfl (hb hby at_318) ?_
              show Steps p.tables e below (T36.setTop (mkF m 319 #[.val (.int p0), .val (.long q1), .second, .val (.long q2), .second, .val (.long q3), .second, .val (.long q4), .second, .val (.long q5), .second, .val (.ref (A0_9 p0 q1 q2 q3 q4 q5 w0 w1 w2 w3 w4 wc)), .val (.ref (A0_22 p0 q1 q2 q3 q4 q5 w0 w1 w2 w3 w4 wc)), .val (.int (A0_30 p0 q1 q2 q3 q4 q5 w0 w1 w2 w3 w4 wc)), .val (.long (J0_38_S0 p0 q1 q2 q3 q4 q5 w0 w1 w2 w3 w4 wc)), .second, .val (.long (J0_55_S0 p0 q1 q2 q3 q4 q5 w0 w1 w2 w3 w4 wc)), .second, .val (.long (J0_72_S0 p0 q1 q2 q3 q4 q5 w0 w1 w2 w3 w4 wc)), .second, .val (.int (J0_90_S0 p0 q1 q2 q3 q4 q5 w0 w1 w2 w3 w4 wc)), .val (.long (J0_109_S0 p0 q1 q2 q3 q4 q5 w0 w1 w2 w3 w4 wc)), .second, .val (.int (A0_128 p0 q1 q2 q3 q4 q5 w0 w1 w2 w3 w4 wc)), .val (.ref b13), .val (.ref b14), .val (.ref b17), .val (.int (J0_247_S0 p0 q1 q2 q3 q4 q5 w0 w1 w2 w3 w4 wc))] [(.int (1 : Int32))])) _
              refine XS.goto X36.here hx rfl (pc0 := 319) (pc' := 323) rfl (hb hby at_319) (by decide) (by decide) ?_
              show Steps p.tables e below (T36.setTop (mkF m 323 #[.val (.int p0), .val (.long q1), .second, .val (.long q2), .second, .val (.long q3), .second, .val (.long q4), .second, .val (.long q5), .second, .val (.ref (A0_9 p0 q1 q2 q3 q4 q5 w0 w1 w2 w3 w4 wc)), .val (.ref (A0_22 p0 q1 q2 q3 q4 q5 w0 w1 w2 w3 w4 wc)), .val (.int (A0_30 p0 q1 q2 q3 q4 q5 w0 w1 w2 w3 w4 wc)), .val (.long (J0_38_S0 p0 q1 q2 q3 q4 q5 w0 w1 w2 w3 w4 wc)), .second, .val (.long (J0_55_S0 p0 q1 q2 q3 q4 q5 w0 w1 w2 w3 w4 wc)), .second, .val (.long (J0_72_S0 p0 q1 q2 q3 q4 q5 w0 w1 w2 w3 w4 wc)), .second, .val (.int (J0_90_S0 p0 q1 q2 q3 q4 q5 w0 w1 w2 w3 w4 wc)), .val (.long (J0_109_S0 p0 q1 q2 q3 q4 q5 w0 w1 w2 w3 w4 wc)), .second, .val (.int (A0_128 p0 q1 q2 q3 q4 q5 w0 w1 w2 w3 w4 wc)), .val (.ref b13), .val (.ref b14), .val (.ref b17), .val (.int (J0_247_S0 p0 q1 q2 q3 q4 q5 w0 w1 w2 w3 w4 wc))] [(.int (1 : Int32))])) _
              exact retN X36 hx (t := .boolean) Bd.returns (by simp) (hb hby at_323) hr
            · show Q0 Z p0 q1 q2 q3 q4 q5 w0 w1 w2 w3 w4 wc h0 n0 _ T36.heap _
              rw [e36]
              exact ⟨(by unfold F0; simp only [if_neg hc187, if_neg hc209, if_neg hc232, if_pos hc303, if_pos hc315]), N36⟩
          · obtain ⟨fs, hr, hrun, hended, hW, hsame⟩ := X36.leave (v := some (.int (0 : Int32))) (fun h => by rw [Bd.returns] at h; cases h)
            refine ⟨_, _, pre37 _ ?_, hrun, hended, _, _, rfl, ?_, ⟨_, rfl⟩, hW, hsame.mono (by decide) (by decide)⟩
            · show Steps p.tables e below (T36.setTop (mkF m 315 #[.val (.int p0), .val (.long q1), .second, .val (.long q2), .second, .val (.long q3), .second, .val (.long q4), .second, .val (.long q5), .second, .val (.ref (A0_9 p0 q1 q2 q3 q4 q5 w0 w1 w2 w3 w4 wc)), .val (.ref (A0_22 p0 q1 q2 q3 q4 q5 w0 w1 w2 w3 w4 wc)), .val (.int (A0_30 p0 q1 q2 q3 q4 q5 w0 w1 w2 w3 w4 wc)), .val (.long (J0_38_S0 p0 q1 q2 q3 q4 q5 w0 w1 w2 w3 w4 wc)), .second, .val (.long (J0_55_S0 p0 q1 q2 q3 q4 q5 w0 w1 w2 w3 w4 wc)), .second, .val (.long (J0_72_S0 p0 q1 q2 q3 q4 q5 w0 w1 w2 w3 w4 wc)), .second, .val (.int (J0_90_S0 p0 q1 q2 q3 q4 q5 w0 w1 w2 w3 w4 wc)), .val (.long (J0_109_S0 p0 q1 q2 q3 q4 q5 w0 w1 w2 w3 w4 wc)), .second, .val (.int (A0_128 p0 q1 q2 q3 q4 q5 w0 w1 w2 w3 w4 wc)), .val (.ref b13), .val (.ref b14), .val (.ref b17), .val (.int (J0_247_S0 p0 q1 q2 q3 q4 q5 w0 w1 w2 w3 w4 wc))] [(.int (J0_247_S0 p0 q1 q2 q3 q4 q5 w0 w1 w2 w3 w4 wc)), (.int (F9c (A0_22 p0 q1 q2 q3 q4 q5 w0 w1 w2 w3 w4 wc) (J0_38_S0 p0 q1 q2 q3 q4 q5 w0 w1 w2 w3 w4 wc) (J0_55_S0 p0 q1 q2 q3 q4 q5 w0 w1 w2 w3 w4 wc) (J0_72_S0 p0 q1 q2 q3 q4 q5 w0 w1 w2 w3 w4 wc) (J0_90_S0 p0 q1 q2 q3 q4 q5 w0 w1 w2 w3 w4 wc) (J0_109_S0 p0 q1 q2 q3 q4 q5 w0 w1 w2 w3 w4 wc) (A0_9 p0 q1 q2 q3 q4 q5 w0 w1 w2 w3 w4 wc) q1 q2 q3 (A0_30 p0 q1 q2 q3 q4 q5 w0 w1 w2 w3 w4 wc) q4))])) _
              refine XS.icmpYes X36.here hx rfl (pc0 := 315) (pc' := 322) rfl (hb hby at_315) rfl (feq hc315).2 (by decide) (by decide) ?_
              show Steps p.tables e below (T36.setTop (mkF m 322 #[.val (.int p0), .val (.long q1), .second, .val (.long q2), .second, .val (.long q3), .second, .val (.long q4), .second, .val (.long q5), .second, .val (.ref (A0_9 p0 q1 q2 q3 q4 q5 w0 w1 w2 w3 w4 wc)), .val (.ref (A0_22 p0 q1 q2 q3 q4 q5 w0 w1 w2 w3 w4 wc)), .val (.int (A0_30 p0 q1 q2 q3 q4 q5 w0 w1 w2 w3 w4 wc)), .val (.long (J0_38_S0 p0 q1 q2 q3 q4 q5 w0 w1 w2 w3 w4 wc)), .second, .val (.long (J0_55_S0 p0 q1 q2 q3 q4 q5 w0 w1 w2 w3 w4 wc)), .second, .val (.long (J0_72_S0 p0 q1 q2 q3 q4 q5 w0 w1 w2 w3 w4 wc)), .second, .val (.int (J0_90_S0 p0 q1 q2 q3 q4 q5 w0 w1 w2 w3 w4 wc)), .val (.long (J0_109_S0 p0 q1 q2 q3 q4 q5 w0 w1 w2 w3 w4 wc)), .second, .val (.int (A0_128 p0 q1 q2 q3 q4 q5 w0 w1 w2 w3 w4 wc)), .val (.ref b13), .val (.ref b14), .val (.ref b17), .val (.int (J0_247_S0 p0 q1 q2 q3 q4 q5 w0 w1 w2 w3 w4 wc))] [])) _
              refine XS.iconst X36.here hx rfl (hb hby at_322) ?_
              show Steps p.tables e below (T36.setTop (mkF m 323 #[.val (.int p0), .val (.long q1), .second, .val (.long q2), .second, .val (.long q3), .second, .val (.long q4), .second, .val (.long q5), .second, .val (.ref (A0_9 p0 q1 q2 q3 q4 q5 w0 w1 w2 w3 w4 wc)), .val (.ref (A0_22 p0 q1 q2 q3 q4 q5 w0 w1 w2 w3 w4 wc)), .val (.int (A0_30 p0 q1 q2 q3 q4 q5 w0 w1 w2 w3 w4 wc)), .val (.long (J0_38_S0 p0 q1 q2 q3 q4 q5 w0 w1 w2 w3 w4 wc)), .second, .val (.long (J0_55_S0 p0 q1 q2 q3 q4 q5 w0 w1 w2 w3 w4 wc)), .second, .val (.long (J0_72_S0 p0 q1 q2 q3 q4 q5 w0 w1 w2 w3 w4 wc)), .second, .val (.int (J0_90_S0 p0 q1 q2 q3 q4 q5 w0 w1 w2 w3 w4 wc)), .val (.long (J0_109_S0 p0 q1 q2 q3 q4 q5 w0 w1 w2 w3 w4 wc)), .second, .val (.int (A0_128 p0 q1 q2 q3 q4 q5 w0 w1 w2 w3 w4 wc)), .val (.ref b13), .val (.ref b14), .val (.ref b17), .val (.int (J0_247_S0 p0 q1 q2 q3 q4 q5 w0 w1 w2 w3 w4 wc))] [(.int (0 : Int32))])) _
              exact retN X36 hx (t := .boolean) Bd.returns (by simp) (hb hby at_323) hr
            · show Q0 Z p0 q1 q2 q3 q4 q5 w0 w1 w2 w3 w4 wc h0 n0 _ T36.heap _
              rw [e36]
              exact ⟨(by unfold F0; simp only [if_neg hc187, if_neg hc209, if_neg hc232, if_pos hc303, if_neg hc315]), N36⟩
        · obtain ⟨fs, hr, hrun, hended, hW, hsame⟩ := X34.leave (v := some (.int (0 : Int32))) (fun h => by rw [Bd.returns] at h; cases h)
          refine ⟨_, _, pre35 _ ?_, hrun, hended, _, _, rfl, ?_, ⟨_, rfl⟩, hW, hsame.mono (by decide) (by decide)⟩
          · show Steps p.tables e below (T34.setTop (mkF m 303 #[.val (.int p0), .val (.long q1), .second, .val (.long q2), .second, .val (.long q3), .second, .val (.long q4), .second, .val (.long q5), .second, .val (.ref (A0_9 p0 q1 q2 q3 q4 q5 w0 w1 w2 w3 w4 wc)), .val (.ref (A0_22 p0 q1 q2 q3 q4 q5 w0 w1 w2 w3 w4 wc)), .val (.int (A0_30 p0 q1 q2 q3 q4 q5 w0 w1 w2 w3 w4 wc)), .val (.long (J0_38_S0 p0 q1 q2 q3 q4 q5 w0 w1 w2 w3 w4 wc)), .second, .val (.long (J0_55_S0 p0 q1 q2 q3 q4 q5 w0 w1 w2 w3 w4 wc)), .second, .val (.long (J0_72_S0 p0 q1 q2 q3 q4 q5 w0 w1 w2 w3 w4 wc)), .second, .val (.int (J0_90_S0 p0 q1 q2 q3 q4 q5 w0 w1 w2 w3 w4 wc)), .val (.long (J0_109_S0 p0 q1 q2 q3 q4 q5 w0 w1 w2 w3 w4 wc)), .second, .val (.int (A0_128 p0 q1 q2 q3 q4 q5 w0 w1 w2 w3 w4 wc)), .val (.ref b13), .val (.ref b14), .val (.ref b17), .val (.int (J0_247_S0 p0 q1 q2 q3 q4 q5 w0 w1 w2 w3 w4 wc))] [(.int (J0_247_S0 p0 q1 q2 q3 q4 q5 w0 w1 w2 w3 w4 wc)), (.int (F9c (A0_9 p0 q1 q2 q3 q4 q5 w0 w1 w2 w3 w4 wc) q1 q2 q3 (A0_30 p0 q1 q2 q3 q4 q5 w0 w1 w2 w3 w4 wc) q4 (A0_22 p0 q1 q2 q3 q4 q5 w0 w1 w2 w3 w4 wc) (J0_38_S0 p0 q1 q2 q3 q4 q5 w0 w1 w2 w3 w4 wc) (J0_55_S0 p0 q1 q2 q3 q4 q5 w0 w1 w2 w3 w4 wc) (J0_72_S0 p0 q1 q2 q3 q4 q5 w0 w1 w2 w3 w4 wc) (J0_90_S0 p0 q1 q2 q3 q4 q5 w0 w1 w2 w3 w4 wc) (J0_109_S0 p0 q1 q2 q3 q4 q5 w0 w1 w2 w3 w4 wc)))])) _
            refine XS.icmpYes X34.here hx rfl (pc0 := 303) (pc' := 322) rfl (hb hby at_303) rfl (feq hc303).2 (by decide) (by decide) ?_
            show Steps p.tables e below (T34.setTop (mkF m 322 #[.val (.int p0), .val (.long q1), .second, .val (.long q2), .second, .val (.long q3), .second, .val (.long q4), .second, .val (.long q5), .second, .val (.ref (A0_9 p0 q1 q2 q3 q4 q5 w0 w1 w2 w3 w4 wc)), .val (.ref (A0_22 p0 q1 q2 q3 q4 q5 w0 w1 w2 w3 w4 wc)), .val (.int (A0_30 p0 q1 q2 q3 q4 q5 w0 w1 w2 w3 w4 wc)), .val (.long (J0_38_S0 p0 q1 q2 q3 q4 q5 w0 w1 w2 w3 w4 wc)), .second, .val (.long (J0_55_S0 p0 q1 q2 q3 q4 q5 w0 w1 w2 w3 w4 wc)), .second, .val (.long (J0_72_S0 p0 q1 q2 q3 q4 q5 w0 w1 w2 w3 w4 wc)), .second, .val (.int (J0_90_S0 p0 q1 q2 q3 q4 q5 w0 w1 w2 w3 w4 wc)), .val (.long (J0_109_S0 p0 q1 q2 q3 q4 q5 w0 w1 w2 w3 w4 wc)), .second, .val (.int (A0_128 p0 q1 q2 q3 q4 q5 w0 w1 w2 w3 w4 wc)), .val (.ref b13), .val (.ref b14), .val (.ref b17), .val (.int (J0_247_S0 p0 q1 q2 q3 q4 q5 w0 w1 w2 w3 w4 wc))] [])) _
            refine XS.iconst X34.here hx rfl (hb hby at_322) ?_
            show Steps p.tables e below (T34.setTop (mkF m 323 #[.val (.int p0), .val (.long q1), .second, .val (.long q2), .second, .val (.long q3), .second, .val (.long q4), .second, .val (.long q5), .second, .val (.ref (A0_9 p0 q1 q2 q3 q4 q5 w0 w1 w2 w3 w4 wc)), .val (.ref (A0_22 p0 q1 q2 q3 q4 q5 w0 w1 w2 w3 w4 wc)), .val (.int (A0_30 p0 q1 q2 q3 q4 q5 w0 w1 w2 w3 w4 wc)), .val (.long (J0_38_S0 p0 q1 q2 q3 q4 q5 w0 w1 w2 w3 w4 wc)), .second, .val (.long (J0_55_S0 p0 q1 q2 q3 q4 q5 w0 w1 w2 w3 w4 wc)), .second, .val (.long (J0_72_S0 p0 q1 q2 q3 q4 q5 w0 w1 w2 w3 w4 wc)), .second, .val (.int (J0_90_S0 p0 q1 q2 q3 q4 q5 w0 w1 w2 w3 w4 wc)), .val (.long (J0_109_S0 p0 q1 q2 q3 q4 q5 w0 w1 w2 w3 w4 wc)), .second, .val (.int (A0_128 p0 q1 q2 q3 q4 q5 w0 w1 w2 w3 w4 wc)), .val (.ref b13), .val (.ref b14), .val (.ref b17), .val (.int (J0_247_S0 p0 q1 q2 q3 q4 q5 w0 w1 w2 w3 w4 wc))] [(.int (0 : Int32))])) _
            exact retN X34 hx (t := .boolean) Bd.returns (by simp) (hb hby at_323) hr
          · show Q0 Z p0 q1 q2 q3 q4 q5 w0 w1 w2 w3 w4 wc h0 n0 _ T34.heap _
            rw [e34]
            exact ⟨(by unfold F0; simp only [if_neg hc187, if_neg hc209, if_neg hc232, if_neg hc303]), N34⟩
/-! THE PLAIN LAW -/
theorem own_sym (m0 : Addr) (x0 y0 z0 : Int64) (c0 : Int32) (v0 : Int64) (m1 : Addr) (x1 y1 z1 : Int64) (c1 : Int32) (v1 : Int64) : F9c m1 x1 y1 z1 c1 v1 m0 x0 y0 z0 c0 v0 = F9c m0 x0 y0 z0 c0 v0 m1 x1 y1 z1 c1 v1 := by
  unfold F9c
  simp only [lw_eq, eq_comm (a := m1), eq_comm (a := x1), eq_comm (a := y1), eq_comm (a := z1), eq_comm (a := c1), eq_comm (a := v1)]
theorem own_law (p0 : Int32) (q1 q2 q3 q4 q5 : Int64) (w0 w1 w2 w3 w4 : Addr) (wc : Int32) : F0 p0 q1 q2 q3 q4 q5 w0 w1 w2 w3 w4 wc = 1 := by
  unfold F0
  have e : F9c (A0_9 p0 q1 q2 q3 q4 q5 w0 w1 w2 w3 w4 wc) q1 q2 q3 (A0_30 p0 q1 q2 q3 q4 q5 w0 w1 w2 w3 w4 wc) q4 (A0_22 p0 q1 q2 q3 q4 q5 w0 w1 w2 w3 w4 wc) (J0_38_S0 p0 q1 q2 q3 q4 q5 w0 w1 w2 w3 w4 wc) (J0_55_S0 p0 q1 q2 q3 q4 q5 w0 w1 w2 w3 w4 wc) (J0_72_S0 p0 q1 q2 q3 q4 q5 w0 w1 w2 w3 w4 wc) (J0_90_S0 p0 q1 q2 q3 q4 q5 w0 w1 w2 w3 w4 wc) (J0_109_S0 p0 q1 q2 q3 q4 q5 w0 w1 w2 w3 w4 wc) = J0_247_S0 p0 q1 q2 q3 q4 q5 w0 w1 w2 w3 w4 wc := rfl
  have e2 := (own_sym _ _ _ _ _ _ _ _ _ _ _ _).trans e
  simp only [e, e2, if_true, ite_self]
set_option maxRecDepth 65536 in
set_option maxHeartbeats 40000000 in
theorem comes_1 {Post : Tables → Env → Array Value → State → Outcome → State → Prop} (hpost : ∀ tb e args s v u, (limb_1_1.after args s (.returned v) u = true ∧ limb_1_2.after args s (.returned v) u = true ∧ True) → FrameEnd s (.returned v) u (Jvm.fieldLocs frame_1_writes args s ++ Jvm.arrayLocs frame_1_arrays args s ++ Jvm.staticLocs frame_1_statics s) 16 128 → Post tb e args s (.returned v) u) :
    ArmFor flags0 classFile x code maxLocals ret World_1 tables_1 room_1 Calls_1 rest_1 Pre_1 Post := by
  intro l hfl _ _ p e ha hc hk s m args below hf hA hF happ hP
  obtain ⟨hcalls, hrest, hpre⟩ := hP
  obtain ⟨-, -, -, hnamed, -, -, -, hat⟩ := (Spec.applies_iff hf).mp happ
  obtain ⟨hg, hn⟩ := and_e (Cond.before_iff.mp (show (Jvm.Cond.and given_1 narrow_1).before args s = true from hpre))
  obtain ⟨g1, g2⟩ := and_e hg
  obtain ⟨g3, g4⟩ := and_e g2
  obtain ⟨g5, g6⟩ := and_e g4
  obtain ⟨g7, g8⟩ := and_e g6
  obtain ⟨g9, g10⟩ := and_e g8
  obtain ⟨g11, g12⟩ := and_e g10
  obtain ⟨g13, g14⟩ := and_e hn
  obtain ⟨g15, g16⟩ := and_e g14
  obtain ⟨g17, g18⟩ := and_e g16
  obtain ⟨g19, g20⟩ := and_e g18
  obtain ⟨g21, g22⟩ := and_e g20
  obtain ⟨g23, g24⟩ := and_e g22
  obtain ⟨g25, g26⟩ := and_e g24
  obtain ⟨g27, g28⟩ := and_e g26
  obtain ⟨g29, g30⟩ := and_e g28
  obtain ⟨w0, w1, w2, w3, w4, w5, rfl⟩ : ∃ w0 w1 w2 w3 w4 w5 : Value, args = #[w0, w1, w2, w3, w4, w5] := by
    have hs : args.size = 6 := by simpa [Cond.value, given_1] using g1
    obtain ⟨L⟩ := args
    match L, hs with
    | [w0, w1, w2, w3, w4, w5], _ => exact ⟨w0, w1, w2, w3, w4, w5, rfl⟩
  have hw := fun d (hd : d ∈ tables_1) => atoms_spec (ws := Jvm.Cond.code x code maxLocals ret :: tables_1) hat d (List.mem_cons_of_mem _ hd)
  have hfit : Fit s := fun {y c} hc i hi => by
    obtain ⟨ha, rfl⟩ := Array.getElem?_eq_some_iff.mp hc
    have q := List.all_eq_true.mp ((Array.all_eq_true_iff_forall_mem.mp hF) _ (Array.getElem_mem ha)) i (List.mem_range.mpr hi)
    simpa [Array.getElem?_eq_getElem hi] using q
  obtain ⟨hsets, hown0⟩ := atoms_of _ (rest_1_c_eq ▸ (show rest_1_c.before _ s = true from hrest))
  have hr0 := Cond.before_iff.mp hown0
  obtain ⟨i0, ei0⟩ := is_v g3
  obtain rfl : w0 = (.int i0) := Option.some.inj ei0
  obtain ⟨i1, ei1⟩ := isL_v g5
  obtain rfl : w1 = (.long i1) := Option.some.inj ei1
  obtain ⟨i2, ei2⟩ := isL_v g7
  obtain rfl : w2 = (.long i2) := Option.some.inj ei2
  obtain ⟨i3, ei3⟩ := isL_v g9
  obtain rfl : w3 = (.long i3) := Option.some.inj ei3
  obtain ⟨i4, ei4⟩ := isL_v g11
  obtain rfl : w4 = (.long i4) := Option.some.inj ei4
  obtain ⟨i5, ei5⟩ := isL_v g12
  obtain rfl : w5 = (.long i5) := Option.some.inj ei5
  obtain ⟨a_Context_Mode_CONTENT, ev_Context_Mode_CONTENT⟩ := exa_v g13
  have S_Context_Mode_CONTENT := Sta.start ev_Context_Mode_CONTENT (Or.inr ⟨(hw _ (List.mem_of_getElem? (i := 5) rfl)), (hw _ (List.mem_of_getElem? (i := 6) rfl))⟩)
  have E_Context_Mode_CONTENT := Exa.start ev_Context_Mode_CONTENT g13
  obtain ⟨a_Context_Mode_PROCESSING_INSTRUCTION, ev_Context_Mode_PROCESSING_INSTRUCTION⟩ := exa_v g15
  have S_Context_Mode_PROCESSING_INSTRUCTION := Sta.start ev_Context_Mode_PROCESSING_INSTRUCTION (Or.inr ⟨(hw _ (List.mem_of_getElem? (i := 5) rfl)), (hw _ (List.mem_of_getElem? (i := 65) rfl))⟩)
  have E_Context_Mode_PROCESSING_INSTRUCTION := Exa.start ev_Context_Mode_PROCESSING_INSTRUCTION g15
  obtain ⟨a_Context_Mode_COMMENT, ev_Context_Mode_COMMENT⟩ := exa_v g17
  have S_Context_Mode_COMMENT := Sta.start ev_Context_Mode_COMMENT (Or.inr ⟨(hw _ (List.mem_of_getElem? (i := 5) rfl)), (hw _ (List.mem_of_getElem? (i := 67) rfl))⟩)
  have E_Context_Mode_COMMENT := Exa.start ev_Context_Mode_COMMENT g17
  obtain ⟨a_Context_Mode_INTERNAL_SUBSET, ev_Context_Mode_INTERNAL_SUBSET⟩ := exa_v g23
  have S_Context_Mode_INTERNAL_SUBSET := Sta.start ev_Context_Mode_INTERNAL_SUBSET (Or.inr ⟨(hw _ (List.mem_of_getElem? (i := 5) rfl)), (hw _ (List.mem_of_getElem? (i := 69) rfl))⟩)
  have E_Context_Mode_INTERNAL_SUBSET := Exa.start ev_Context_Mode_INTERNAL_SUBSET g23
  obtain ⟨a_Context_Mode_CDATA_SECTION, ev_Context_Mode_CDATA_SECTION⟩ := exa_v g27
  have S_Context_Mode_CDATA_SECTION := Sta.start ev_Context_Mode_CDATA_SECTION (Or.inr ⟨(hw _ (List.mem_of_getElem? (i := 5) rfl)), (hw _ (List.mem_of_getElem? (i := 71) rfl))⟩)
  have E_Context_Mode_CDATA_SECTION := Exa.start ev_Context_Mode_CDATA_SECTION g27
  have O_Context_Mode_PROCESSING_INSTRUCTION : Fld s s.heap a_Context_Mode_PROCESSING_INSTRUCTION "java/lang/Enum" "ordinal" "I" (.int (3 : Int32)) := by
    obtain ⟨vx, vy, hvx, hvy, hk1, hk2⟩ := cmp_v (Or.inl g19)
    obtain rfl : Value.int (3 : Int32) = vy := Option.some.inj ((Term.int_eval (3 : Int32)).symm.trans hvy)
    obtain ⟨z, rfl⟩ : ∃ z, vx = Value.int z := hk2
    have hz := gotT (Cond.eq_ints hvx (Term.int_eval (3 : Int32))) g19
    subst hz; exact Fld.start ((fld_at ev_Context_Mode_PROCESSING_INSTRUCTION).symm.trans hvx)
  have O_Context_Mode_COMMENT : Fld s s.heap a_Context_Mode_COMMENT "java/lang/Enum" "ordinal" "I" (.int (1 : Int32)) := by
    obtain ⟨vx, vy, hvx, hvy, hk1, hk2⟩ := cmp_v (Or.inl g21)
    obtain rfl : Value.int (1 : Int32) = vy := Option.some.inj ((Term.int_eval (1 : Int32)).symm.trans hvy)
    obtain ⟨z, rfl⟩ : ∃ z, vx = Value.int z := hk2
    have hz := gotT (Cond.eq_ints hvx (Term.int_eval (1 : Int32))) g21
    subst hz; exact Fld.start ((fld_at ev_Context_Mode_COMMENT).symm.trans hvx)
  have O_Context_Mode_INTERNAL_SUBSET : Fld s s.heap a_Context_Mode_INTERNAL_SUBSET "java/lang/Enum" "ordinal" "I" (.int (4 : Int32)) := by
    obtain ⟨vx, vy, hvx, hvy, hk1, hk2⟩ := cmp_v (Or.inl g25)
    obtain rfl : Value.int (4 : Int32) = vy := Option.some.inj ((Term.int_eval (4 : Int32)).symm.trans hvy)
    obtain ⟨z, rfl⟩ : ∃ z, vx = Value.int z := hk2
    have hz := gotT (Cond.eq_ints hvx (Term.int_eval (4 : Int32))) g25
    subst hz; exact Fld.start ((fld_at ev_Context_Mode_INTERNAL_SUBSET).symm.trans hvx)
  have O_Context_Mode_CONTENT : Fld s s.heap a_Context_Mode_CONTENT "java/lang/Enum" "ordinal" "I" (.int (0 : Int32)) := by
    obtain ⟨vx, vy, hvx, hvy, hk1, hk2⟩ := cmp_v (Or.inl g29)
    obtain rfl : Value.int (0 : Int32) = vy := Option.some.inj ((Term.int_eval (0 : Int32)).symm.trans hvy)
    obtain ⟨z, rfl⟩ : ∃ z, vx = Value.int z := hk2
    have hz := gotT (Cond.eq_ints hvx (Term.int_eval (0 : Int32))) g29
    subst hz; exact Fld.start ((fld_at ev_Context_Mode_CONTENT).symm.trans hvx)
  have O_Context_Mode_CDATA_SECTION : Fld s s.heap a_Context_Mode_CDATA_SECTION "java/lang/Enum" "ordinal" "I" (.int (2 : Int32)) := by
    obtain ⟨vx, vy, hvx, hvy, hk1, hk2⟩ := cmp_v (Or.inl g30)
    obtain rfl : Value.int (2 : Int32) = vy := Option.some.inj ((Term.int_eval (2 : Int32)).symm.trans hvy)
    obtain ⟨z, rfl⟩ : ∃ z, vx = Value.int z := hk2
    have hz := gotT (Cond.eq_ints hvx (Term.int_eval (2 : Int32))) g30
    subst hz; exact Fld.start ((fld_at ev_Context_Mode_CDATA_SECTION).symm.trans hvx)
  have n3c := not_v (Cond.before_iff.mp (hsets _ (List.mem_of_getElem? (i := 2) rfl)))
  obtain ⟨wc, ewc⟩ := is_v (Cond.before_iff.mp (hsets _ (List.mem_of_getElem? (i := 1) rfl)))
  have S_wc : Sta s s.heap "java/lang/String" "COMPACT_STRINGS" "Z" (.int wc) := Sta.start ewc (Or.inl (hsets _ (List.mem_of_getElem? (i := 0) rfl)))
  have hwc : ¬ (wc = (0 : Int32)) := gotF (Cond.eq_ints ewc (Term.int_eval (0))) n3c
  obtain ⟨n, o, h1, h2, h3, _, L, rfl, ⟨rfl, N⟩, hq⟩ := rm0 l s _ hw tables_1 i0 i1 i2 i3 i4 i5 a_Context_Mode_CONTENT a_Context_Mode_COMMENT a_Context_Mode_CDATA_SECTION a_Context_Mode_PROCESSING_INSTRUCTION a_Context_Mode_INTERNAL_SUBSET wc s.heap s.heap.size (Nat.le_refl _) S_Context_Mode_CONTENT S_Context_Mode_COMMENT S_Context_Mode_CDATA_SECTION S_Context_Mode_PROCESSING_INSTRUCTION S_Context_Mode_INTERNAL_SUBSET S_wc hwc p e ha hc hk s m _ below hf ((Spec.applies_iff_loose hf).mp happ).1 ⟨rfl, State.Warmed39.refl s, rfl⟩ trivial
  refine ⟨n, _, h1, h2, h3, hpost _ _ _ _ _ _ ⟨Cond.after_iff.mpr rfl, Cond.after_iff.mpr (eq_i res_at (Term.int_eval (1)) (congrArg Value.int (own_law i0 i1 i2 i3 i4 i5 a_Context_Mode_CONTENT a_Context_Mode_COMMENT a_Context_Mode_CDATA_SECTION a_Context_Mode_PROCESSING_INSTRUCTION a_Context_Mode_INTERNAL_SUBSET wc))), trivial⟩ ⟨hq.1, hq.2.1, (hq.2.2.sift fun y hy => Or.inr (N y hy)).mono (by decide) (by decide)⟩⟩
theorem main_1_1 : Claimed_1_1 := comes_1 fun _ _ _ _ _ _ h hF => ⟨h.1, hF⟩
theorem main_1_2 : Claimed_1_2 := comes_1 fun _ _ _ _ _ _ h hF => ⟨h.2.1, hF⟩
end Jvm.Pilot.@@N@@
namespace Jvm.Pilot.@@N@@
open Jvm Jvm.ClassFile Sem Op Lib Jvm.Free Jvm.Stand Jvm.Pilot.@@N@@.Jvm.D
/-! MADE BY PROGRAM (witnessworld.py) out of the Statement's table words and the real class files: 20 classes; the members and pool entries that the words name. The judged class is class 1, her method 2. -/
namespace start1
open Jvm.ClassFile
def u (s : String) : CpInfo := .utf8 (stringToUtf16 s)
/-- a pool by its gaps: so many unusable entries, then the entry; so many at the end -/
def gap : Nat → List CpInfo → List CpInfo
  | 0, r => r
  | n + 1, r => .unusable :: gap n r
def poolList (es : List (Nat × CpInfo)) (last : Nat) : List CpInfo := es.foldr (fun e r => gap e.1 (e.2 :: r)) (gap last [])
def pool (es : List (Nat × CpInfo)) (last : Nat) : Array CpInfo := ⟨poolList es last⟩
def fileOf (pool : Array CpInfo) (this : Nat) (attrs : Array Attribute := #[]) (ms : Array MethodInfo := #[]) (fl : Nat := 33) (sup : Nat := 0) (ifs : Array Nat := #[]) (fds : Array FieldInfo := #[]) : ClassFile where
  minorVersion := 0
  majorVersion := 65
  constantPool := pool
  accessFlags := fl
  thisClass := this
  superClass := sup
  interfaces := ifs
  fields := fds
  methods := ms
  attributes := attrs
def plain (name : String) (sup : Option ClassId) : Class where
  name := name
  kind := .ordinary
  loader := none
  accessFlags := 33
  super := sup
  interfaces := #[]
  cf := none
  fields := #[]
  methods := #[]
  instanceTypes := #[]
  staticTypes := #[]
  resolved := #[]
  callSites := []
  init := .initialized
  statics := none
  mirror := none

def pool0 : Array CpInfo := pool [(5, u "<init>"), (0, u "()V"), (1, .class_ 10), (1, u "java/lang/Object")] 113

def k0c0 : Code := { maxStack := 0, maxLocals := 1, code := object_method_1_code, exceptionTable := #[], attributes := #[] }
def k0m0 : Method := { name := "<init>", desc := "()V", sig := { parameters := [], returnType := none }, accessFlags := 1, code := some k0c0 }
/-- java/lang/Object -/
def k0 : Class := { plain "java/lang/Object" none with
  accessFlags := 33
  interfaces := #[]
  cf := some (fileOf pool0 8 #[] #[{ accessFlags := 1, nameIndex := 5, descriptorIndex := 6, attributes := #[] }] 33 0 #[] #[])
  fields := #[]
  methods := #[k0m0]
  instanceTypes := #[]
  staticTypes := #[]
  resolved := Array.replicate 124 none
  statics := none }

def pool1 : Array CpInfo := pool [(2, .class_ 4), (1, u "java/lang/Object"), (0, u "<init>"), (0, u "()V"), (0, .fieldref 8 9), (0, .class_ 10), (0, .nameAndType 11 12), (0, u "com/example/grove8/grove8/Context$Mode"), (0, u "CONTENT"), (0, u "Lcom/example/grove8/grove8/Context$Mode;"), (0, .fieldref 8 14), (0, .nameAndType 15 12), (0, u "COMMENT"), (0, .fieldref 8 17), (0, .nameAndType 18 12), (0, u "CDATA_SECTION"), (0, .fieldref 8 20), (0, .nameAndType 21 12), (0, u "PROCESSING_INSTRUCTION"), (0, .fieldref 8 23), (0, .nameAndType 24 12), (0, u "INTERNAL_SUBSET"), (0, .methodref 26 27), (0, .class_ 28), (0, .nameAndType 29 30), (0, u "com/example/grove8/grove8/ContextEqualsPinLaw"), (0, u "mode"), (0, u "(I)Lcom/example/grove8/grove8/Context$Mode;"), (0, .methodref 32 33), (0, .class_ 34), (0, .nameAndType 35 36), (0, u "java/lang/String"), (0, u "valueOf"), (0, u "(C)Ljava/lang/String;"), (0, .class_ 38), (0, u "com/example/grove8/grove8/Context"), (0, .methodref 37 40), (0, .nameAndType 5 41), (0, u "(Lcom/example/grove8/grove8/Context$Mode;JJJIJ)V"), (0, .methodref 37 43), (0, .nameAndType 44 45), (0, u "equals"), (0, u "(Ljava/lang/Object;)Z"), (3, u "law"), (0, u "(IJJJJJ)Z")] 4

def k1m0 : Method := { name := "<init>", desc := "()V", sig := { parameters := [], returnType := none }, accessFlags := 1, code := none }
def k1c1 : Code := { maxStack := 2, maxLocals := 1, code := method_2_code, exceptionTable := #[], attributes := #[] }
def k1m1 : Method := { name := "mode", desc := "(I)Lcom/example/grove8/grove8/Context$Mode;", sig := { parameters := [.int], returnType := some (.object "com/example/grove8/grove8/Context$Mode") }, accessFlags := 10, code := some k1c1 }
def k1c2 : Code := { maxStack := 12, maxLocals := 28, code := code, exceptionTable := #[], attributes := #[] }
def k1m2 : Method := { name := "law", desc := "(IJJJJJ)Z", sig := { parameters := [.int, .long, .long, .long, .long, .long], returnType := some .boolean }, accessFlags := 9, code := some k1c2 }
/-- com/example/grove8/grove8/ContextEqualsPinLaw -/
def k1 : Class := { plain "com/example/grove8/grove8/ContextEqualsPinLaw" (some 0) with
  accessFlags := 49
  interfaces := #[]
  cf := some (fileOf pool1 26 #[] #[{ accessFlags := 1, nameIndex := 5, descriptorIndex := 6, attributes := #[] }, { accessFlags := 10, nameIndex := 29, descriptorIndex := 30, attributes := #[] }, { accessFlags := 9, nameIndex := 49, descriptorIndex := 50, attributes := #[] }] 49 2 #[] #[])
  fields := #[]
  methods := #[k1m0, k1m1, k1m2]
  instanceTypes := #[]
  staticTypes := #[]
  resolved := Array.replicate 55 none
  statics := none }

def pool2 : Array CpInfo := pool [(1, .class_ 2), (0, u "java/lang/constant/Constable"), (0, .class_ 4), (0, u "java/lang/Object")] 6

/-- java/lang/constant/Constable -/
def k2 : Class := { plain "java/lang/constant/Constable" (some 0) with
  accessFlags := 1537
  interfaces := #[]
  cf := some (fileOf pool2 1 #[] #[] 1537 3 #[] #[])
  fields := #[]
  methods := #[]
  instanceTypes := #[]
  staticTypes := #[]
  resolved := Array.replicate 11 none
  statics := none }

def pool3 : Array CpInfo := pool [(1, .class_ 2), (0, u "java/lang/Comparable"), (0, .class_ 4), (0, u "java/lang/Object")] 7

/-- java/lang/Comparable -/
def k3 : Class := { plain "java/lang/Comparable" (some 0) with
  accessFlags := 1537
  interfaces := #[]
  cf := some (fileOf pool3 1 #[] #[] 1537 3 #[] #[])
  fields := #[]
  methods := #[]
  instanceTypes := #[]
  staticTypes := #[]
  resolved := Array.replicate 12 none
  statics := none }

def pool4 : Array CpInfo := pool [(1, .class_ 2), (0, u "java/io/Serializable"), (0, .class_ 4), (0, u "java/lang/Object")] 2

/-- java/io/Serializable -/
def k4 : Class := { plain "java/io/Serializable" (some 0) with
  accessFlags := 1537
  interfaces := #[]
  cf := some (fileOf pool4 1 #[] #[] 1537 3 #[] #[])
  fields := #[]
  methods := #[]
  instanceTypes := #[]
  staticTypes := #[]
  resolved := Array.replicate 7 none
  statics := none }

def pool5 : Array CpInfo := pool [(2, .class_ 4), (1, u "java/lang/Enum"), (0, u "name"), (0, u "Ljava/lang/String;"), (2, u "ordinal"), (0, u "I"), (1, .class_ 14), (1, u "java/lang/Object"), (4, u "hash"), (86, .class_ 108), (1, u "java/lang/Enum$EnumDesc"), (2, .class_ 112), (0, u "java/lang/constant/Constable"), (0, .class_ 114), (0, u "java/lang/Comparable"), (0, .class_ 116), (0, u "java/io/Serializable")] 87

/-- java/lang/Enum -/
def k5 : Class := { plain "java/lang/Enum" (some 0) with
  accessFlags := 1057
  interfaces := #[2, 3, 4]
  cf := some (fileOf pool5 2 #[.nestMembers #[106]] #[] 1057 12 #[111, 113, 115] #[{ accessFlags := 18, nameIndex := 5, descriptorIndex := 6, attributes := #[] }, { accessFlags := 18, nameIndex := 9, descriptorIndex := 10, attributes := #[] }, { accessFlags := 2, nameIndex := 19, descriptorIndex := 10, attributes := #[] }])
  fields := #[{ name := "name", type := (.object "java/lang/String"), accessFlags := 18, slot := 0, constantValue := 0 }, { name := "ordinal", type := .int, accessFlags := 18, slot := 1, constantValue := 0 }, { name := "hash", type := .int, accessFlags := 2, slot := 2, constantValue := 0 }]
  methods := #[]
  instanceTypes := #[(.object "java/lang/String"), .int, .int]
  staticTypes := #[]
  resolved := Array.replicate 204 none
  statics := none }

def pool6 : Array CpInfo := pool [(1, .class_ 2), (0, u "com/example/grove8/grove8/Context$Mode"), (2, u "CONTENT"), (0, u "Lcom/example/grove8/grove8/Context$Mode;"), (2, u "COMMENT"), (2, u "CDATA_SECTION"), (2, u "PROCESSING_INSTRUCTION"), (2, u "INTERNAL_SUBSET"), (2, u "$VALUES"), (0, u "[Lcom/example/grove8/grove8/Context$Mode;"), (6, .class_ 31), (1, u "java/lang/Enum"), (8, u "construct"), (0, u "Ljava/lang/String;"), (36, .class_ 79), (0, u "com/example/grove8/grove8/Context")] 2

/-- com/example/grove8/grove8/Context$Mode -/
def k6 : Class := { plain "com/example/grove8/grove8/Context$Mode" (some 5) with
  accessFlags := 16432
  interfaces := #[]
  cf := some (fileOf pool6 1 #[.nestHost 78] #[] 16432 29 #[] #[{ accessFlags := 16409, nameIndex := 5, descriptorIndex := 6, attributes := #[] }, { accessFlags := 16409, nameIndex := 9, descriptorIndex := 6, attributes := #[] }, { accessFlags := 16409, nameIndex := 12, descriptorIndex := 6, attributes := #[] }, { accessFlags := 16409, nameIndex := 15, descriptorIndex := 6, attributes := #[] }, { accessFlags := 16409, nameIndex := 18, descriptorIndex := 6, attributes := #[] }, { accessFlags := 18, nameIndex := 40, descriptorIndex := 41, attributes := #[] }, { accessFlags := 4122, nameIndex := 21, descriptorIndex := 22, attributes := #[] }])
  fields := #[{ name := "CONTENT", type := (.object "com/example/grove8/grove8/Context$Mode"), accessFlags := 16409, slot := 0, constantValue := 0 }, { name := "COMMENT", type := (.object "com/example/grove8/grove8/Context$Mode"), accessFlags := 16409, slot := 1, constantValue := 0 }, { name := "CDATA_SECTION", type := (.object "com/example/grove8/grove8/Context$Mode"), accessFlags := 16409, slot := 2, constantValue := 0 }, { name := "PROCESSING_INSTRUCTION", type := (.object "com/example/grove8/grove8/Context$Mode"), accessFlags := 16409, slot := 3, constantValue := 0 }, { name := "INTERNAL_SUBSET", type := (.object "com/example/grove8/grove8/Context$Mode"), accessFlags := 16409, slot := 4, constantValue := 0 }, { name := "construct", type := (.object "java/lang/String"), accessFlags := 18, slot := 3, constantValue := 0 }, { name := "$VALUES", type := (.array (.object "com/example/grove8/grove8/Context$Mode")), accessFlags := 4122, slot := 5, constantValue := 0 }]
  methods := #[]
  instanceTypes := #[(.object "java/lang/String"), .int, .int, (.object "java/lang/String")]
  staticTypes := #[(.object "com/example/grove8/grove8/Context$Mode"), (.object "com/example/grove8/grove8/Context$Mode"), (.object "com/example/grove8/grove8/Context$Mode"), (.object "com/example/grove8/grove8/Context$Mode"), (.object "com/example/grove8/grove8/Context$Mode"), (.array (.object "com/example/grove8/grove8/Context$Mode"))]
  resolved := Array.replicate 82 none
  statics := some 0 }

def pool7 : Array CpInfo := pool [(2, .class_ 4), (1, u "java/lang/CharSequence"), (42, .class_ 48), (0, u "java/lang/CharSequence$1CodePointIterator"), (10, .class_ 60), (0, u "java/lang/CharSequence$1CharIterator"), (5, .class_ 67), (0, u "java/lang/Object")] 63

/-- java/lang/CharSequence -/
def k7 : Class := { plain "java/lang/CharSequence" (some 0) with
  accessFlags := 1537
  interfaces := #[]
  cf := some (fileOf pool7 2 #[.nestMembers #[47, 59]] #[] 1537 66 #[] #[])
  fields := #[]
  methods := #[]
  instanceTypes := #[]
  staticTypes := #[]
  resolved := Array.replicate 131 none
  statics := none }

def pool8 : Array CpInfo := pool [(1, .class_ 2), (0, u "java/lang/constant/ConstantDesc"), (0, .class_ 4), (0, u "java/lang/Object")] 32

/-- java/lang/constant/ConstantDesc -/
def k8 : Class := { plain "java/lang/constant/ConstantDesc" (some 0) with
  accessFlags := 1537
  interfaces := #[]
  cf := some (fileOf pool8 1 #[] #[] 1537 3 #[] #[])
  fields := #[]
  methods := #[]
  instanceTypes := #[]
  staticTypes := #[]
  resolved := Array.replicate 37 none
  statics := none }

def pool9 : Array CpInfo := pool [(1, .methodref 2 3), (0, .class_ 4), (0, .nameAndType 5 6), (0, u "java/lang/Object"), (0, u "<init>"), (0, u "()V"), (2, .fieldref 10 11), (0, .class_ 12), (0, .nameAndType 13 14), (0, u "java/lang/String"), (0, u "value"), (0, u "[B"), (0, .fieldref 10 16), (0, .nameAndType 17 18), (0, u "coder"), (0, u "B"), (2, u "hash"), (0, u "I"), (2, u "hashIsZero"), (0, u "Z"), (11, .fieldref 10 39), (0, .nameAndType 40 26), (0, u "COMPACT_STRINGS"), (12, u "toBytes"), (53, .class_ 109), (1, u "java/lang/StringLatin1"), (99, .methodref 10 210), (0, .nameAndType 5 211), (0, u "([BB)V"), (157, u "(C)Z"), (205, .class_ 576), (0, u "java/lang/CharSequence"), (22, u "CASE_INSENSITIVE_ORDER"), (0, u "Ljava/util/Comparator;"), (181, u "valueOf"), (0, u "(C)Ljava/lang/String;"), (231, .methodref 107 1016), (0, .nameAndType 1017 369), (0, u "canEncode"), (0, .methodref 107 1019), (0, .nameAndType 53 1020), (0, u "(C)[B"), (80, u "serialPersistentFields"), (0, u "[Ljava/io/ObjectStreamField;"), (0, .class_ 1104), (0, u "java/lang/String$CaseInsensitiveComparator"), (1, .class_ 1107), (0, u "java/io/Serializable"), (0, .class_ 1109), (0, u "java/lang/Comparable"), (0, .class_ 1111), (0, u "java/lang/constant/Constable"), (0, .class_ 1113), (0, u "java/lang/constant/ConstantDesc"), (2, u "serialVersionUID"), (0, u "J"), (3, u "REPL"), (0, u "C"), (2, u "LATIN1"), (1, u "UTF16")] 323

def k9m0 : Method := { name := "<init>", desc := "()V", sig := { parameters := [], returnType := none }, accessFlags := 1, code := none }
def k9c1 : Code := { maxStack := 4, maxLocals := 1, code := jdk_42_method_139_code, exceptionTable := #[], attributes := #[] }
def k9m1 : Method := { name := "valueOf", desc := "(C)Ljava/lang/String;", sig := { parameters := [.char], returnType := some (.object "java/lang/String") }, accessFlags := 9, code := some k9c1 }
def k9c2 : Code := { maxStack := 2, maxLocals := 3, code := jdk_42_method_151_code, exceptionTable := #[], attributes := #[] }
def k9m2 : Method := { name := "<init>", desc := "([BB)V", sig := { parameters := [(.array .byte), .byte], returnType := none }, accessFlags := 0, code := some k9c2 }
/-- java/lang/String -/
def k9 : Class := { plain "java/lang/String" (some 0) with
  accessFlags := 49
  interfaces := #[4, 3, 7, 2, 8]
  cf := some (fileOf pool9 10 #[.nestMembers #[1103]] #[{ accessFlags := 1, nameIndex := 5, descriptorIndex := 6, attributes := #[] }, { accessFlags := 9, nameIndex := 782, descriptorIndex := 783, attributes := #[] }, { accessFlags := 0, nameIndex := 5, descriptorIndex := 211, attributes := #[] }] 49 2 #[1106, 1108, 575, 1110, 1112] #[{ accessFlags := 18, nameIndex := 13, descriptorIndex := 14, attributes := #[] }, { accessFlags := 18, nameIndex := 17, descriptorIndex := 18, attributes := #[] }, { accessFlags := 2, nameIndex := 21, descriptorIndex := 22, attributes := #[] }, { accessFlags := 2, nameIndex := 25, descriptorIndex := 26, attributes := #[] }, { accessFlags := 26, nameIndex := 1116, descriptorIndex := 1117, attributes := #[] }, { accessFlags := 24, nameIndex := 40, descriptorIndex := 26, attributes := #[] }, { accessFlags := 26, nameIndex := 1101, descriptorIndex := 1102, attributes := #[] }, { accessFlags := 26, nameIndex := 1121, descriptorIndex := 1122, attributes := #[] }, { accessFlags := 25, nameIndex := 599, descriptorIndex := 600, attributes := #[] }, { accessFlags := 24, nameIndex := 1125, descriptorIndex := 18, attributes := #[] }, { accessFlags := 24, nameIndex := 1127, descriptorIndex := 18, attributes := #[] }])
  fields := #[{ name := "value", type := (.array .byte), accessFlags := 18, slot := 0, constantValue := 0 }, { name := "coder", type := .byte, accessFlags := 18, slot := 1, constantValue := 0 }, { name := "hash", type := .int, accessFlags := 2, slot := 2, constantValue := 0 }, { name := "hashIsZero", type := .boolean, accessFlags := 2, slot := 3, constantValue := 0 }, { name := "serialVersionUID", type := .long, accessFlags := 26, slot := 0, constantValue := 0 }, { name := "COMPACT_STRINGS", type := .boolean, accessFlags := 24, slot := 1, constantValue := 0 }, { name := "serialPersistentFields", type := (.array (.object "java/io/ObjectStreamField")), accessFlags := 26, slot := 2, constantValue := 0 }, { name := "REPL", type := .char, accessFlags := 26, slot := 3, constantValue := 0 }, { name := "CASE_INSENSITIVE_ORDER", type := (.object "java/util/Comparator"), accessFlags := 25, slot := 4, constantValue := 0 }, { name := "LATIN1", type := .byte, accessFlags := 24, slot := 5, constantValue := 0 }, { name := "UTF16", type := .byte, accessFlags := 24, slot := 6, constantValue := 0 }]
  methods := #[k9m0, k9m1, k9m2]
  instanceTypes := #[(.array .byte), .byte, .int, .boolean]
  staticTypes := #[.long, .boolean, (.array (.object "java/io/ObjectStreamField")), .char, (.object "java/util/Comparator"), .byte, .byte]
  resolved := Array.replicate 1451 none
  statics := some 1 }

def pool10 : Array CpInfo := pool [(4, .class_ 6), (1, u "java/lang/Object"), (0, u "<init>"), (0, u "()V"), (5, .class_ 16), (1, u "java/lang/StringLatin1"), (73, u "canEncode"), (14, u "(C)Z"), (15, u "$assertionsDisabled"), (0, u "Z"), (98, .class_ 223), (1, u "java/lang/StringLatin1$LinesSpliterator"), (156, u "toBytes"), (1, u "(C)[B"), (7, .class_ 391), (0, u "java/lang/StringLatin1$CharsSpliterator")] 3

def k10m0 : Method := { name := "<init>", desc := "()V", sig := { parameters := [], returnType := none }, accessFlags := 0, code := none }
def k10c1 : Code := { maxStack := 2, maxLocals := 1, code := jdk_43_method_3_code, exceptionTable := #[], attributes := #[] }
def k10m1 : Method := { name := "canEncode", desc := "(C)Z", sig := { parameters := [.char], returnType := some .boolean }, accessFlags := 9, code := some k10c1 }
def k10c2 : Code := { maxStack := 4, maxLocals := 1, code := jdk_43_method_46_code, exceptionTable := #[], attributes := #[] }
def k10m2 : Method := { name := "toBytes", desc := "(C)[B", sig := { parameters := [.char], returnType := some (.array .byte) }, accessFlags := 9, code := some k10c2 }
/-- java/lang/StringLatin1 -/
def k10 : Class := { plain "java/lang/StringLatin1" (some 0) with
  accessFlags := 48
  interfaces := #[]
  cf := some (fileOf pool10 14 #[.nestMembers #[390, 221]] #[{ accessFlags := 0, nameIndex := 7, descriptorIndex := 8, attributes := #[] }, { accessFlags := 9, nameIndex := 90, descriptorIndex := 105, attributes := #[] }, { accessFlags := 9, nameIndex := 380, descriptorIndex := 382, attributes := #[] }] 48 4 #[] #[{ accessFlags := 4120, nameIndex := 121, descriptorIndex := 122, attributes := #[] }])
  fields := #[{ name := "$assertionsDisabled", type := .boolean, accessFlags := 4120, slot := 0, constantValue := 0 }]
  methods := #[k10m0, k10m1, k10m2]
  instanceTypes := #[]
  staticTypes := #[.boolean]
  resolved := Array.replicate 395 none
  statics := none }

def pool11 : Array CpInfo := pool [(1, .methodref 2 3), (0, .class_ 4), (0, .nameAndType 5 6), (0, u "java/lang/Object"), (0, u "<init>"), (0, u "()V"), (0, .class_ 8), (0, u "java/lang/Record")] 13

def k11c0 : Code := { maxStack := 1, maxLocals := 1, code := jdk_30_method_1_code, exceptionTable := #[], attributes := #[] }
def k11m0 : Method := { name := "<init>", desc := "()V", sig := { parameters := [], returnType := none }, accessFlags := 4, code := some k11c0 }
/-- java/lang/Record -/
def k11 : Class := { plain "java/lang/Record" (some 0) with
  accessFlags := 1057
  interfaces := #[]
  cf := some (fileOf pool11 7 #[] #[{ accessFlags := 4, nameIndex := 5, descriptorIndex := 6, attributes := #[] }] 1057 2 #[] #[])
  fields := #[]
  methods := #[k11m0]
  instanceTypes := #[]
  staticTypes := #[]
  resolved := Array.replicate 22 none
  statics := none }

def pool12 : Array CpInfo := pool [(1, .methodref 2 3), (0, .class_ 4), (0, .nameAndType 5 6), (0, u "java/lang/Record"), (0, u "<init>"), (0, u "()V"), (0, .fieldref 8 9), (0, .class_ 10), (0, .nameAndType 11 12), (0, u "com/example/grove8/grove8/Context"), (0, u "mode"), (0, u "Lcom/example/grove8/grove8/Context$Mode;"), (0, .fieldref 8 14), (0, .nameAndType 15 16), (0, u "at"), (0, u "J"), (0, .fieldref 8 18), (0, .nameAndType 19 16), (0, u "begunAt"), (0, .fieldref 8 21), (0, .nameAndType 22 16), (0, u "doctypeAt"), (0, .fieldref 8 24), (0, .nameAndType 25 26), (0, u "closing"), (0, u "I"), (0, .fieldref 8 28), (0, .nameAndType 29 16), (0, u "prologStart"), (24, .class_ 56), (1, u "com/example/grove8/grove8/Context$Mode"), (5, u "(Lcom/example/grove8/grove8/Context$Mode;JJJIJ)V"), (2, u "DOCUMENT_START"), (0, u "Lcom/example/grove8/grove8/Context;"), (3, u "equals"), (0, u "(Ljava/lang/Object;)Z")] 34

def k12c0 : Code := { maxStack := 3, maxLocals := 11, code := prog_12_method_1_code, exceptionTable := #[], attributes := #[] }
def k12m0 : Method := { name := "<init>", desc := "(Lcom/example/grove8/grove8/Context$Mode;JJJIJ)V", sig := { parameters := [(.object "com/example/grove8/grove8/Context$Mode"), .long, .long, .long, .int, .long], returnType := none }, accessFlags := 0, code := some k12c0 }
def k12c1 : Code := { maxStack := 4, maxLocals := 3, code := prog_12_method_2_code, exceptionTable := #[], attributes := #[] }
def k12m1 : Method := { name := "equals", desc := "(Ljava/lang/Object;)Z", sig := { parameters := [(.object "java/lang/Object")], returnType := some .boolean }, accessFlags := 1, code := some k12c1 }
/-- com/example/grove8/grove8/Context -/
def k12 : Class := { plain "com/example/grove8/grove8/Context" (some 11) with
  accessFlags := 48
  interfaces := #[]
  cf := some (fileOf pool12 8 #[.nestMembers #[54]] #[{ accessFlags := 0, nameIndex := 5, descriptorIndex := 62, attributes := #[] }, { accessFlags := 1, nameIndex := 70, descriptorIndex := 71, attributes := #[] }] 48 2 #[] #[{ accessFlags := 18, nameIndex := 11, descriptorIndex := 12, attributes := #[] }, { accessFlags := 18, nameIndex := 15, descriptorIndex := 16, attributes := #[] }, { accessFlags := 18, nameIndex := 19, descriptorIndex := 16, attributes := #[] }, { accessFlags := 18, nameIndex := 22, descriptorIndex := 16, attributes := #[] }, { accessFlags := 18, nameIndex := 25, descriptorIndex := 26, attributes := #[] }, { accessFlags := 18, nameIndex := 29, descriptorIndex := 16, attributes := #[] }, { accessFlags := 24, nameIndex := 65, descriptorIndex := 66, attributes := #[] }])
  fields := #[{ name := "mode", type := (.object "com/example/grove8/grove8/Context$Mode"), accessFlags := 18, slot := 0, constantValue := 0 }, { name := "at", type := .long, accessFlags := 18, slot := 1, constantValue := 0 }, { name := "begunAt", type := .long, accessFlags := 18, slot := 2, constantValue := 0 }, { name := "doctypeAt", type := .long, accessFlags := 18, slot := 3, constantValue := 0 }, { name := "closing", type := .int, accessFlags := 18, slot := 4, constantValue := 0 }, { name := "prologStart", type := .long, accessFlags := 18, slot := 5, constantValue := 0 }, { name := "DOCUMENT_START", type := (.object "com/example/grove8/grove8/Context"), accessFlags := 24, slot := 0, constantValue := 0 }]
  methods := #[k12m0, k12m1]
  instanceTypes := #[(.object "com/example/grove8/grove8/Context$Mode"), .long, .long, .long, .int, .long]
  staticTypes := #[(.object "com/example/grove8/grove8/Context")]
  resolved := Array.replicate 106 none
  statics := none }

def pool13 : Array CpInfo := pool [(2, .class_ 4), (1, u "java/lang/Object"), (0, u "<init>"), (0, u "()V"), (17, .class_ 26), (1, u "jdk/internal/util/Preconditions"), (28, .class_ 56), (0, u "jdk/internal/util/Preconditions$4"), (57, .class_ 115), (0, u "jdk/internal/util/Preconditions$1"), (7, u "SIOOBE_FORMATTER"), (0, u "Ljava/util/function/BiFunction;"), (0, .class_ 126), (0, u "jdk/internal/util/Preconditions$2"), (3, u "AIOOBE_FORMATTER"), (0, .class_ 132), (0, u "jdk/internal/util/Preconditions$3"), (3, u "IOOBE_FORMATTER")] 57

def k13m0 : Method := { name := "<init>", desc := "()V", sig := { parameters := [], returnType := none }, accessFlags := 1, code := none }
/-- jdk/internal/util/Preconditions -/
def k13 : Class := { plain "jdk/internal/util/Preconditions" (some 0) with
  accessFlags := 33
  interfaces := #[]
  cf := some (fileOf pool13 24 #[.nestMembers #[55, 131, 125, 114]] #[{ accessFlags := 1, nameIndex := 5, descriptorIndex := 6, attributes := #[] }] 33 2 #[] #[{ accessFlags := 25, nameIndex := 123, descriptorIndex := 124, attributes := #[] }, { accessFlags := 25, nameIndex := 130, descriptorIndex := 124, attributes := #[] }, { accessFlags := 25, nameIndex := 136, descriptorIndex := 124, attributes := #[] }])
  fields := #[{ name := "SIOOBE_FORMATTER", type := (.object "java/util/function/BiFunction"), accessFlags := 25, slot := 0, constantValue := 0 }, { name := "AIOOBE_FORMATTER", type := (.object "java/util/function/BiFunction"), accessFlags := 25, slot := 1, constantValue := 0 }, { name := "IOOBE_FORMATTER", type := (.object "java/util/function/BiFunction"), accessFlags := 25, slot := 2, constantValue := 0 }]
  methods := #[k13m0]
  instanceTypes := #[]
  staticTypes := #[(.object "java/util/function/BiFunction"), (.object "java/util/function/BiFunction"), (.object "java/util/function/BiFunction")]
  resolved := Array.replicate 194 none
  statics := some 2 }

def pool14 : Array CpInfo := pool [(9, u "<init>"), (6, .class_ 18), (1, u "java/lang/Object"), (0, u "()V"), (1, .class_ 23), (1, u "jdk/internal/util/ArraysSupport"), (0, u "LOG2_ARRAY_LONG_INDEX_SCALE"), (0, u "I"), (2, u "U"), (0, u "Ljdk/internal/misc/Unsafe;"), (8, u "BIG_ENDIAN"), (0, u "Z"), (8, u "LOG2_BYTE_BIT_SIZE"), (4, u "LOG2_ARRAY_INT_INDEX_SCALE"), (54, u "JLA"), (0, u "Ljdk/internal/access/JavaLangAccess;"), (11, u "LOG2_ARRAY_BOOLEAN_INDEX_SCALE"), (9, u "LOG2_ARRAY_BYTE_INDEX_SCALE"), (5, u "LOG2_ARRAY_CHAR_INDEX_SCALE"), (5, u "LOG2_ARRAY_SHORT_INDEX_SCALE"), (18, u "LOG2_ARRAY_FLOAT_INDEX_SCALE"), (24, u "LOG2_ARRAY_DOUBLE_INDEX_SCALE"), (89, u "T_BOOLEAN"), (2, u "T_CHAR"), (1, u "T_FLOAT"), (1, u "T_DOUBLE"), (1, u "T_BYTE"), (1, u "T_SHORT"), (1, u "T_INT"), (1, u "T_LONG"), (1, u "SOFT_MAX_ARRAY_LENGTH")] 83

def k14m0 : Method := { name := "<init>", desc := "()V", sig := { parameters := [], returnType := none }, accessFlags := 2, code := none }
/-- jdk/internal/util/ArraysSupport -/
def k14 : Class := { plain "jdk/internal/util/ArraysSupport" (some 0) with
  accessFlags := 33
  interfaces := #[]
  cf := some (fileOf pool14 21 #[] #[{ accessFlags := 2, nameIndex := 9, descriptorIndex := 19, attributes := #[] }] 33 16 #[] #[{ accessFlags := 24, nameIndex := 28, descriptorIndex := 29, attributes := #[] }, { accessFlags := 26, nameIndex := 38, descriptorIndex := 39, attributes := #[] }, { accessFlags := 25, nameIndex := 121, descriptorIndex := 25, attributes := #[] }, { accessFlags := 25, nameIndex := 131, descriptorIndex := 25, attributes := #[] }, { accessFlags := 25, nameIndex := 137, descriptorIndex := 25, attributes := #[] }, { accessFlags := 25, nameIndex := 143, descriptorIndex := 25, attributes := #[] }, { accessFlags := 25, nameIndex := 53, descriptorIndex := 25, attributes := #[] }, { accessFlags := 25, nameIndex := 24, descriptorIndex := 25, attributes := #[] }, { accessFlags := 25, nameIndex := 162, descriptorIndex := 25, attributes := #[] }, { accessFlags := 25, nameIndex := 187, descriptorIndex := 25, attributes := #[] }, { accessFlags := 26, nameIndex := 48, descriptorIndex := 25, attributes := #[] }, { accessFlags := 25, nameIndex := 277, descriptorIndex := 25, attributes := #[] }, { accessFlags := 25, nameIndex := 280, descriptorIndex := 25, attributes := #[] }, { accessFlags := 25, nameIndex := 282, descriptorIndex := 25, attributes := #[] }, { accessFlags := 25, nameIndex := 284, descriptorIndex := 25, attributes := #[] }, { accessFlags := 25, nameIndex := 286, descriptorIndex := 25, attributes := #[] }, { accessFlags := 25, nameIndex := 288, descriptorIndex := 25, attributes := #[] }, { accessFlags := 25, nameIndex := 290, descriptorIndex := 25, attributes := #[] }, { accessFlags := 25, nameIndex := 292, descriptorIndex := 25, attributes := #[] }, { accessFlags := 26, nameIndex := 108, descriptorIndex := 109, attributes := #[] }, { accessFlags := 25, nameIndex := 294, descriptorIndex := 25, attributes := #[] }])
  fields := #[{ name := "U", type := (.object "jdk/internal/misc/Unsafe"), accessFlags := 24, slot := 0, constantValue := 0 }, { name := "BIG_ENDIAN", type := .boolean, accessFlags := 26, slot := 1, constantValue := 0 }, { name := "LOG2_ARRAY_BOOLEAN_INDEX_SCALE", type := .int, accessFlags := 25, slot := 2, constantValue := 0 }, { name := "LOG2_ARRAY_BYTE_INDEX_SCALE", type := .int, accessFlags := 25, slot := 3, constantValue := 0 }, { name := "LOG2_ARRAY_CHAR_INDEX_SCALE", type := .int, accessFlags := 25, slot := 4, constantValue := 0 }, { name := "LOG2_ARRAY_SHORT_INDEX_SCALE", type := .int, accessFlags := 25, slot := 5, constantValue := 0 }, { name := "LOG2_ARRAY_INT_INDEX_SCALE", type := .int, accessFlags := 25, slot := 6, constantValue := 0 }, { name := "LOG2_ARRAY_LONG_INDEX_SCALE", type := .int, accessFlags := 25, slot := 7, constantValue := 0 }, { name := "LOG2_ARRAY_FLOAT_INDEX_SCALE", type := .int, accessFlags := 25, slot := 8, constantValue := 0 }, { name := "LOG2_ARRAY_DOUBLE_INDEX_SCALE", type := .int, accessFlags := 25, slot := 9, constantValue := 0 }, { name := "LOG2_BYTE_BIT_SIZE", type := .int, accessFlags := 26, slot := 10, constantValue := 0 }, { name := "T_BOOLEAN", type := .int, accessFlags := 25, slot := 11, constantValue := 0 }, { name := "T_CHAR", type := .int, accessFlags := 25, slot := 12, constantValue := 0 }, { name := "T_FLOAT", type := .int, accessFlags := 25, slot := 13, constantValue := 0 }, { name := "T_DOUBLE", type := .int, accessFlags := 25, slot := 14, constantValue := 0 }, { name := "T_BYTE", type := .int, accessFlags := 25, slot := 15, constantValue := 0 }, { name := "T_SHORT", type := .int, accessFlags := 25, slot := 16, constantValue := 0 }, { name := "T_INT", type := .int, accessFlags := 25, slot := 17, constantValue := 0 }, { name := "T_LONG", type := .int, accessFlags := 25, slot := 18, constantValue := 0 }, { name := "JLA", type := (.object "jdk/internal/access/JavaLangAccess"), accessFlags := 26, slot := 19, constantValue := 0 }, { name := "SOFT_MAX_ARRAY_LENGTH", type := .int, accessFlags := 25, slot := 20, constantValue := 0 }]
  methods := #[k14m0]
  instanceTypes := #[]
  staticTypes := #[(.object "jdk/internal/misc/Unsafe"), .boolean, .int, .int, .int, .int, .int, .int, .int, .int, .int, .int, .int, .int, .int, .int, .int, .int, .int, (.object "jdk/internal/access/JavaLangAccess"), .int]
  resolved := Array.replicate 378 none
  statics := none }

def pool15 : Array CpInfo := pool [(1, u "java/lang/Cloneable"), (0, .class_ 1), (0, u "java/lang/Object"), (0, .class_ 3)] 3

/-- java/lang/Cloneable -/
def k15 : Class := { plain "java/lang/Cloneable" (some 0) with
  accessFlags := 1537
  interfaces := #[]
  cf := some (fileOf pool15 2 #[] #[] 1537 4 #[] #[])
  fields := #[]
  methods := #[]
  instanceTypes := #[]
  staticTypes := #[]
  resolved := Array.replicate 8 none
  statics := none }

/-- the primitive byte -/
def k16 : Class := { plain "byte" none with kind := .primitive 'B', accessFlags := 0x411 }
/-- [B -/
def k17 : Class := { plain "[B" (some 0) with kind := .array 16 .byte, interfaces := #[15, 4], accessFlags := 1041 }

/-- the primitive int -/
def k18 : Class := { plain "int" none with kind := .primitive 'I', accessFlags := 0x411 }
/-- [I -/
def k19 : Class := { plain "[I" (some 0) with kind := .array 18 .int, interfaces := #[15, 4], accessFlags := 1041 }

def heap : Heap := #[{ cls := 6, slots := #[.ref 3, .ref 4, .ref 5, .ref 6, .ref 7, .null], vm := .statics 6 },
  { cls := 9, slots := #[.long 0, .int 1, .null, .int 0, .null, .int 0, .int 0], vm := .statics 9 },
  { cls := 13, slots := #[.null, .null, .null], vm := .statics 13 },
  { cls := 6, slots := #[.null, .int 0, .int 0, .null], vm := .none },
  { cls := 6, slots := #[.null, .int 1, .int 0, .null], vm := .none },
  { cls := 6, slots := #[.null, .int 2, .int 0, .null], vm := .none },
  { cls := 6, slots := #[.null, .int 3, .int 0, .null], vm := .none },
  { cls := 6, slots := #[.null, .int 4, .int 0, .null], vm := .none }]
def classes : Array Class := #[k0, k1, k2, k3, k4, k5, k6, k7, k8, k9, k10, k11, k12, k13, k14, k15, k16, k17, k18, k19]
def interned : List (Array UInt16 × Addr) := []
def slotsUsed : Nat := 36
def theMethod : MethodId := ⟨1, 2⟩
def args0 : Array Value := #[.int 5, .long 6, .long 3, .long 7, .long 8, .long 9]
def aboutOver (below : List Frame) : State where
  vm := { classes := classes, interned := interned.toArray }
  heap := heap
  slotsUsed := slotsUsed
  threads := #[{ frames := .invoking theMethod args0 :: below }]
def below0 : List Frame := [.native { method := ⟨0, 0⟩, args := #[] }]
def about1 : State := aboutOver below0
def p0 : Program := .bare "" "" ""
def e0 : Env := launch0.env 0 0 0
theorem w_frames : about1.frames = Frame.invoking theMethod args0 :: below0 := rfl
set_option maxRecDepth 65536 in
theorem w_args : argsFit about1.vm theMethod args0 = true := by decide +kernel
set_option maxRecDepth 65536 in
theorem w_heap : heapFits about1 = true := by decide +kernel
set_option maxRecDepth 65536 in
theorem w_runnable : about1.curStatus? = some .runnable := by decide +kernel
set_option maxRecDepth 65536 in
theorem w_alone : about1.alone = true := by decide +kernel
set_option maxRecDepth 65536 in
theorem w_named : about1.methodNamed? x = some theMethod := by decide +kernel
set_option maxRecDepth 65536 in
theorem w_hears : about1.hears theMethod below0 = true := by decide +kernel
set_option maxRecDepth 65536 in
theorem w_ripe : about1.ripe theMethod args0 below0 = true := by decide +kernel
theorem w_running : about1.status = .running := rfl
set_option maxRecDepth 65536 in
theorem w_room : about1.hasRoom e0.platform room_1 = true :=
  launch0.hasRoom_least _ room_1 (by decide +kernel) (by decide +kernel) (by decide +kernel) (by decide +kernel) (by decide +kernel) (by decide +kernel)
theorem allAtoms_all (ts : List Jvm.Cond) (a : Array Jvm.Value) (st : Jvm.State) : (allAtoms ts).before a st = ts.all (fun c => c.before a st) := by
  induction ts with
  | nil => rfl
  | cons c t ih =>
    show (Jvm.Cond.and c (allAtoms t)).before a st = _
    rw [Jvm.Cond.before_and, ih, List.all_cons]
def words1 : List Jvm.Cond := Jvm.Cond.code x code maxLocals ret :: tables_1
/-- a 'code' word, met by the world's own term for the bytes: nothing is compared byte by byte -/
theorem code_word {y : MethodName} {bytes : ByteArray} {mx : Nat} {rt : Option FieldType} {a : Array Value} {s : State} {m : MethodId} {meth : Method} {c : Code} (h1 : s.methodNamed? y = some m) (h2 : s.vm.method? m = some meth) (h3 : meth.code = some c) (h4 : c.code = bytes)
    (h5 : (c.maxLocals == mx && c.exceptionTable.isEmpty && decide (c.maxStack ≤ mostOperands) && decide (meth.sig.returnType = rt) && !meth.locks && decide (parseMethodDescriptor y.desc = some meth.sig)) = true) : (Jvm.Cond.code y bytes mx rt).before a s = true := by
  simp only [Bool.and_eq_true, beq_iff_eq, Bool.not_eq_true', decide_eq_true_eq] at h5
  obtain ⟨⟨⟨⟨⟨g1, g2⟩, g3⟩, g4⟩, g5⟩, g6⟩ := h5
  simp [Cond.before, Cond.holds, Cond.value, h1, h2, h3, h4, g1, g2, g3, g4, g5, g6]
def isCode : Jvm.Cond → Bool
  | .code _ _ _ _ => true
  | _ => false
theorem all_split {L : List Jvm.Cond} {P : Jvm.Cond → Bool} (h1 : L.all (fun c => isCode c || P c) = true) (h2 : ∀ c ∈ L.filter isCode, P c = true) : L.all P = true := by
  refine List.all_eq_true.mpr fun c hc => ?_
  have h := List.all_eq_true.mp h1 c hc
  rcases Bool.eq_false_or_eq_true (isCode c) with hi | hi
  · exact h2 c (List.mem_filter.mpr ⟨hc, hi⟩)
  · simpa [hi] using h
set_option maxRecDepth 65536 in
theorem w_c0 : (Jvm.Cond.code x code maxLocals ret).before args0 about1 = true := code_word (m := ⟨1, 2⟩) (meth := k1m2) (c := k1c2) (by decide +kernel) rfl rfl rfl (by decide +kernel)
set_option maxRecDepth 65536 in
theorem w_c1 : (Jvm.Cond.code ({ cls := "com/example/grove8/grove8/ContextEqualsPinLaw", name := "mode", desc := "(I)Lcom/example/grove8/grove8/Context$Mode;" } : Jvm.MethodName) method_2_code (1 : Nat) (Option.some (Jvm.ClassFile.FieldType.object "com/example/grove8/grove8/Context$Mode"))).before args0 about1 = true := code_word (m := ⟨1, 1⟩) (meth := k1m1) (c := k1c1) (by decide +kernel) rfl rfl rfl (by decide +kernel)
set_option maxRecDepth 65536 in
theorem w_c2 : (Jvm.Cond.code ({ cls := "java/lang/String", name := "valueOf", desc := "(C)Ljava/lang/String;" } : Jvm.MethodName) jdk_42_method_139_code (1 : Nat) (Option.some (Jvm.ClassFile.FieldType.object "java/lang/String"))).before args0 about1 = true := code_word (m := ⟨9, 1⟩) (meth := k9m1) (c := k9c1) (by decide +kernel) rfl rfl rfl (by decide +kernel)
set_option maxRecDepth 65536 in
theorem w_c3 : (Jvm.Cond.code ({ cls := "java/lang/StringLatin1", name := "canEncode", desc := "(C)Z" } : Jvm.MethodName) jdk_43_method_3_code (1 : Nat) (Option.some Jvm.ClassFile.FieldType.boolean)).before args0 about1 = true := code_word (m := ⟨10, 1⟩) (meth := k10m1) (c := k10c1) (by decide +kernel) rfl rfl rfl (by decide +kernel)
set_option maxRecDepth 65536 in
theorem w_c4 : (Jvm.Cond.code ({ cls := "java/lang/StringLatin1", name := "toBytes", desc := "(C)[B" } : Jvm.MethodName) jdk_43_method_46_code (1 : Nat) (Option.some (Jvm.ClassFile.FieldType.array Jvm.ClassFile.FieldType.byte))).before args0 about1 = true := code_word (m := ⟨10, 2⟩) (meth := k10m2) (c := k10c2) (by decide +kernel) rfl rfl rfl (by decide +kernel)
set_option maxRecDepth 65536 in
theorem w_c5 : (Jvm.Cond.code ({ cls := "java/lang/String", name := "<init>", desc := "([BB)V" } : Jvm.MethodName) jdk_42_method_151_code (3 : Nat) (Option.none : Option Jvm.ClassFile.FieldType)).before args0 about1 = true := code_word (m := ⟨9, 2⟩) (meth := k9m2) (c := k9c2) (by decide +kernel) rfl rfl rfl (by decide +kernel)
set_option maxRecDepth 65536 in
theorem w_c6 : (Jvm.Cond.code ({ cls := "java/lang/Object", name := "<init>", desc := "()V" } : Jvm.MethodName) object_method_1_code (1 : Nat) (Option.none : Option Jvm.ClassFile.FieldType)).before args0 about1 = true := code_word (m := ⟨0, 0⟩) (meth := k0m0) (c := k0c0) (by decide +kernel) rfl rfl rfl (by decide +kernel)
set_option maxRecDepth 65536 in
theorem w_c7 : (Jvm.Cond.code ({ cls := "com/example/grove8/grove8/Context", name := "<init>", desc := "(Lcom/example/grove8/grove8/Context$Mode;JJJIJ)V" } : Jvm.MethodName) prog_12_method_1_code (11 : Nat) (Option.none : Option Jvm.ClassFile.FieldType)).before args0 about1 = true := code_word (m := ⟨12, 0⟩) (meth := k12m0) (c := k12c0) (by decide +kernel) rfl rfl rfl (by decide +kernel)
set_option maxRecDepth 65536 in
theorem w_c8 : (Jvm.Cond.code ({ cls := "java/lang/Record", name := "<init>", desc := "()V" } : Jvm.MethodName) jdk_30_method_1_code (1 : Nat) (Option.none : Option Jvm.ClassFile.FieldType)).before args0 about1 = true := code_word (m := ⟨11, 0⟩) (meth := k11m0) (c := k11c0) (by decide +kernel) rfl rfl rfl (by decide +kernel)
set_option maxRecDepth 65536 in
theorem w_c9 : (Jvm.Cond.code ({ cls := "com/example/grove8/grove8/Context", name := "equals", desc := "(Ljava/lang/Object;)Z" } : Jvm.MethodName) prog_12_method_2_code (3 : Nat) (Option.some Jvm.ClassFile.FieldType.boolean)).before args0 about1 = true := code_word (m := ⟨12, 1⟩) (meth := k12m1) (c := k12c1) (by decide +kernel) rfl rfl rfl (by decide +kernel)
def codes1 : List Jvm.Cond := [Jvm.Cond.code x code maxLocals ret, Jvm.Cond.code ({ cls := "com/example/grove8/grove8/ContextEqualsPinLaw", name := "mode", desc := "(I)Lcom/example/grove8/grove8/Context$Mode;" } : Jvm.MethodName) method_2_code (1 : Nat) (Option.some (Jvm.ClassFile.FieldType.object "com/example/grove8/grove8/Context$Mode")), Jvm.Cond.code ({ cls := "java/lang/String", name := "valueOf", desc := "(C)Ljava/lang/String;" } : Jvm.MethodName) jdk_42_method_139_code (1 : Nat) (Option.some (Jvm.ClassFile.FieldType.object "java/lang/String")), Jvm.Cond.code ({ cls := "java/lang/StringLatin1", name := "canEncode", desc := "(C)Z" } : Jvm.MethodName) jdk_43_method_3_code (1 : Nat) (Option.some Jvm.ClassFile.FieldType.boolean), Jvm.Cond.code ({ cls := "java/lang/StringLatin1", name := "toBytes", desc := "(C)[B" } : Jvm.MethodName) jdk_43_method_46_code (1 : Nat) (Option.some (Jvm.ClassFile.FieldType.array Jvm.ClassFile.FieldType.byte)), Jvm.Cond.code ({ cls := "java/lang/String", name := "<init>", desc := "([BB)V" } : Jvm.MethodName) jdk_42_method_151_code (3 : Nat) (Option.none : Option Jvm.ClassFile.FieldType), Jvm.Cond.code ({ cls := "java/lang/Object", name := "<init>", desc := "()V" } : Jvm.MethodName) object_method_1_code (1 : Nat) (Option.none : Option Jvm.ClassFile.FieldType), Jvm.Cond.code ({ cls := "com/example/grove8/grove8/Context", name := "<init>", desc := "(Lcom/example/grove8/grove8/Context$Mode;JJJIJ)V" } : Jvm.MethodName) prog_12_method_1_code (11 : Nat) (Option.none : Option Jvm.ClassFile.FieldType), Jvm.Cond.code ({ cls := "java/lang/Record", name := "<init>", desc := "()V" } : Jvm.MethodName) jdk_30_method_1_code (1 : Nat) (Option.none : Option Jvm.ClassFile.FieldType), Jvm.Cond.code ({ cls := "com/example/grove8/grove8/Context", name := "equals", desc := "(Ljava/lang/Object;)Z" } : Jvm.MethodName) prog_12_method_2_code (3 : Nat) (Option.some Jvm.ClassFile.FieldType.boolean)]
set_option maxRecDepth 65536 in
theorem codes_eq : words1.filter isCode = codes1 := rfl
theorem w_codes : ∀ c ∈ words1.filter isCode, c.before args0 about1 = true := by
  rw [codes_eq]
  intro c hc
  simp only [codes1, List.mem_cons, List.not_mem_nil, or_false] at hc
  rcases hc with rfl | rfl | rfl | rfl | rfl | rfl | rfl | rfl | rfl | rfl
  · exact w_c0
  · exact w_c1
  · exact w_c2
  · exact w_c3
  · exact w_c4
  · exact w_c5
  · exact w_c6
  · exact w_c7
  · exact w_c8
  · exact w_c9
set_option maxRecDepth 65536 in
theorem w_t1 : (words1.take 24).all (fun c => isCode c || c.before args0 about1) = true := by decide +kernel
set_option maxRecDepth 65536 in
theorem w_t2 : ((words1.drop 24).take 24).all (fun c => isCode c || c.before args0 about1) = true := by decide +kernel
set_option maxRecDepth 65536 in
theorem w_t3 : (((words1.drop 24).drop 24).take 24).all (fun c => isCode c || c.before args0 about1) = true := by decide +kernel
set_option maxRecDepth 65536 in
theorem w_t4 : (((words1.drop 24).drop 24).drop 24).all (fun c => isCode c || c.before args0 about1) = true := by decide +kernel
theorem w_tables : (allAtoms (Jvm.Cond.code x code maxLocals ret :: tables_1)).before args0 about1 = true := by
  rw [allAtoms_all]
  show words1.all (fun c => c.before args0 about1) = true
  refine all_split ?_ w_codes
  rw [← List.take_append_drop 24 words1, List.all_append, w_t1, ← List.take_append_drop 24 (words1.drop 24), List.all_append, w_t2, ← List.take_append_drop 24 ((words1.drop 24).drop 24), List.all_append, w_t3, w_t4]
  rfl
set_option maxRecDepth 65536 in
theorem w_rest : rest_1_c.before args0 about1 = true := by decide +kernel
set_option maxRecDepth 65536 in
theorem w_case : (Jvm.Cond.and given_1 narrow_1).before args0 about1 = true := by decide +kernel
theorem w_applies : (headSpec (Jvm.Cond.code x code maxLocals ret :: tables_1) room_1).applies x e0.platform about1 = true :=
  (Spec.applies_iff w_frames).mpr ⟨w_running, w_runnable, w_alone, w_named, w_hears, w_ripe, w_room, w_tables⟩
theorem atStart : AtStart classFile x code maxLocals ret World_1 tables_1 room_1 Calls_1 rest_1 Pre_1 launch0 p0 e0 about1 theMethod args0 below0 :=
  ⟨lists_1, trivial, launch0.admits_env _ _ _, launch0.least_env, fairChoices_fair.cas, fairChoices_fair.clock, w_frames, w_args, w_heap, w_applies, trivial, w_rest, w_case⟩
end start1
theorem witness_1 : WitnessClaimed_1 := ⟨start1.p0, start1.e0, start1.about1, start1.theMethod, start1.args0, start1.below0, start1.atStart⟩
end Jvm.Pilot.@@N@@
