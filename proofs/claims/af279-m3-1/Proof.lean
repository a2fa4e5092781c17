import JvmDerived
import JvmDerived.Pilot.@@N@@Statement
import JvmDerived.Pilot.@@N@@Code
set_option linter.unusedVariables false
set_option linter.unusedSimpArgs false
namespace Jvm.RoadKit
open Sem ClassFile Op Lib Jvm.Stand Jvm.Free Jvm.LawKit
section New
variable {p : Program} {l : Launch} {e : Env} {R : Room} {s : State} {m : MethodId} {args : Array Value} {below : List Frame} {meth : Method} {c : Code} {T : State} {locs : List Loc} {cells slots : Nat}
theorem retI (X : Stand p l e R s m args below meth c T locs cells slots) (hx : p.tables.exec = Jvm.exec) {pc : Nat} {Ls : Array Slot} {z : Int32} {rest : List Value} (hret : meth.sig.returnType = some .int) (hd : decode c.code pc = .ok (.ireturn, 1)) {fs : List Frame}
    (hl : ∀ (f : JFrame) (acts : List Action), f.method = m → f.locked = none → f.entered = [] → (doReturn e (T.setTop f) acts (some (.int z))).1 = T.setFrames fs) : Steps p.tables e below (T.setTop (mkF m pc Ls (.int z :: rest))) (T.setFrames fs) := by
  have hm' : T.vm.method? m = some meth := X.method'
  have hn : narrow .int (.int z) = .int z := rfl
  show Steps p.tables e below (T.setTop { method := m, pc := pc, locals := Ls, stack := _ :: rest, locked := none }) _
  jvm_step X.here [X.here.top, hx, hd, hm', hret, hn]
  first | (intro acts; rw [hl _ acts rfl rfl rfl]) | rw [hl _ _ rfl rfl rfl]
  exact Steps.refl _
end New
end Jvm.RoadKit
namespace Jvm.Pilot.@@N@@
open Jvm Jvm.ClassFile Sem Op Lib Jvm.Free Jvm.Stand Jvm.LawKit Jvm.RoadKit Bundle Jvm.Pilot.@@N@@.Jvm.D
theorem own_staK {Z : State} {h h' : Heap} {ws : List Addr} {C n d : String} {v : Value} (F : Sta Z h C n d v) (K : Keep h h' ws) (q : ∀ x ∈ ws, ∀ c : Cell, h[x]? = some c → c.vm.isStatics = false) : Sta Z h' C n d v := by
  obtain ⟨cf, i, k, f, st, cell, h1, h2, h3, h4, h5, h6, h7⟩ := F
  exact ⟨cf, i, k, f, st, cell, h1, h2, h3, h4, K.2.1 st cell h5 (fun z => by have := q st z cell h5; rw [h6] at this; cases this), h6, h7⟩
theorem own_exaN {Z : State} {h : Heap} {a : Addr} {C : String} (E : Exa Z h a C) : ∀ c : Cell, h[a]? = some c → c.vm.isStatics = false := fun c hc => by
  obtain ⟨c', k, h1, -, -, h4, -⟩ := E
  cases h1.symm.trans hc; exact h4
theorem own_selPriv {s : State} {args : Array Value} {n : Nat} {y : MethodName} (hy : y.cls ≠ "java/lang/invoke/MethodHandle" ∧ y.cls ≠ "java/lang/invoke/VarHandle") (hins : (Cond.instantiable y.cls n).before args s = true) (hpriv : (Cond.privateMethod y).before args s = true) (hinst : (Cond.instanceMethod y).before args s = true) :
    (Cond.selects y.cls y y).before args s = true := by
  obtain ⟨c, k, hc, hk, -, hniab, -, -⟩ := Cond.instantiable_spec hins
  have hni : k.isInterface = false := (Bool.or_eq_false_iff.mp hniab).1
  obtain ⟨mk, methM, hnamed, hmethM, -, -⟩ := Cond.instanceMethod_spec hinst
  have hfound : s.methodFound? y.cls y.name y.desc = some mk := State.methodFound?_of_named hnamed hy
  have hcls : mk.cls = c := Option.some.inj ((findClass_of_methodNamed hnamed).symm.trans hc)
  have hsel : selectMethod {} s.vm c mk = .method mk := selectMethod_private hmethM (Cond.privateMethod_at hpriv mk methM hnamed hmethM)
  simp only [Cond.before, Cond.holds, Cond.value, hc, hfound, hnamed, hsel, hcls, hk]
  simp; exact hni
theorem own_asym {x : Int32} (h : (0 : Int32) < x) : ¬ x < (0 : Int32) := fun q => by rw [Int32.lt_iff_toInt_lt] at h q; omega
theorem own_ne0 {x : Int32} (h : (0 : Int32) < x) : ¬ (x = (0 : Int32)) := fun q => by subst q; revert h; decide
theorem own_cap {x : Int32} (h : ¬ ((4096 : Int32) < x)) : x.toNatClampNeg ≤ 4096 := by
  rw [Int32.lt_iff_toInt_lt] at h
  have e : (4096 : Int32).toInt = 4096 := by decide
  show x.toInt.toNat ≤ 4096
  omega
theorem d1_0 : decode prog_8_method_1_code 0 = .ok (.aload_n 0, 1) := by decide +kernel
theorem d1_1 : decode prog_8_method_1_code 1 = .ok (.invokespecial 1, 3) := by decide +kernel
theorem d1_4 : decode prog_8_method_1_code 4 = .ok (.aload_n 0, 1) := by decide +kernel
theorem d1_5 : decode prog_8_method_1_code 5 = .ok (.getstatic 7, 3) := by decide +kernel
theorem d1_8 : decode prog_8_method_1_code 8 = .ok (.putfield 13, 3) := by decide +kernel
theorem d1_11 : decode prog_8_method_1_code 11 = .ok (.aload_n 0, 1) := by decide +kernel
theorem d1_12 : decode prog_8_method_1_code 12 = .ok (.sipush 256, 3) := by decide +kernel
theorem d1_15 : decode prog_8_method_1_code 15 = .ok (.newarray .byte, 2) := by decide +kernel
theorem d1_17 : decode prog_8_method_1_code 17 = .ok (.putfield 18, 3) := by decide +kernel
theorem d1_20 : decode prog_8_method_1_code 20 = .ok (.aload_n 0, 1) := by decide +kernel
theorem d1_21 : decode prog_8_method_1_code 21 = .ok (.iconst 0, 1) := by decide +kernel
theorem d1_22 : decode prog_8_method_1_code 22 = .ok (.newarray .byte, 2) := by decide +kernel
theorem d1_24 : decode prog_8_method_1_code 24 = .ok (.putfield 22, 3) := by decide +kernel
theorem d1_27 : decode prog_8_method_1_code 27 = .ok (.aload_n 0, 1) := by decide +kernel
theorem d1_28 : decode prog_8_method_1_code 28 = .ok (.iload_n 1, 1) := by decide +kernel
theorem d1_29 : decode prog_8_method_1_code 29 = .ok (.putfield 25, 3) := by decide +kernel
theorem d1_32 : decode prog_8_method_1_code 32 = .ok (.aload_n 0, 1) := by decide +kernel
theorem d1_33 : decode prog_8_method_1_code 33 = .ok (.iload_n 2, 1) := by decide +kernel
theorem d1_34 : decode prog_8_method_1_code 34 = .ok (.putfield 29, 3) := by decide +kernel
theorem d1_37 : decode prog_8_method_1_code 37 = .ok (.return_, 1) := by decide +kernel
theorem pn_com_example_admission_for_endpoints_admissionforendpoints_MessageReader : plainName "com/example/admission_for_endpoints/admissionforendpoints/MessageReader" = true := by first | (simp [plainName, overriddenIn]; done) | decide +kernel
theorem ef_1 (r0 : Addr) (p1 : Int32) (p2 : Int32) (wH : Addr) (m : MethodId) : entryFrame m #[(.ref r0), (.int p1), (.int p2)] 3 = mkF m 0 #[.val (.ref r0), .val (.int p1), .val (.int p2)] [] := by first | (simp [entryFrame, mkF, argsToLocals, Value.category]; done) | rfl
def Q1 (Z : State) (r0 : Addr) (p1 : Int32) (p2 : Int32) (wH : Addr) (h0 : Heap) (n0 : Nat) (v : Option Value) (h : Heap) (L : List Loc) : Prop := ∃ (ab : Addr) (kb : ClassId), v = none ∧ Fr n0 L ∧ Keep h0 h [r0] ∧ Exa Z h r0 "com/example/admission_for_endpoints/admissionforendpoints/MessageReader" ∧ Fld Z h r0 "com/example/admission_for_endpoints/admissionforendpoints/MessageReader" "stage" "Lcom/example/admission_for_endpoints/admissionforendpoints/MessageReader$Stage;" (.ref wH) ∧ Fld Z h r0 "com/example/admission_for_endpoints/admissionforendpoints/MessageReader" "body" "[B" (.ref ab) ∧ Fld Z h r0 "com/example/admission_for_endpoints/admissionforendpoints/MessageReader" "maxBodyBytes" "I" (.int p1) ∧ Fld Z h r0 "com/example/admission_for_endpoints/admissionforendpoints/MessageReader" "dropping" "Z" (.int (0 : Int32)) ∧ Fld Z h r0 "com/example/admission_for_endpoints/admissionforendpoints/MessageReader" "lineBytes" "I" (.int (0 : Int32)) ∧ Fld Z h r0 "com/example/admission_for_endpoints/admissionforendpoints/MessageReader" "truncated" "Z" (.int (0 : Int32)) ∧ Fld Z h r0 "com/example/admission_for_endpoints/admissionforendpoints/MessageReader" "bodyBytes" "I" (.int (0 : Int32)) ∧ Fld Z h r0 "com/example/admission_for_endpoints/admissionforendpoints/MessageReader" "left" "J" (.long (0 : Int64)) ∧ Arv Z h ab kb .byte (0 : Int32) [] (.int (0 : Int32)) ∧ ab ≠ r0
set_option maxRecDepth 65536 in
set_option maxHeartbeats 40000000 in
theorem rm1 (l : Launch) (Z : State) (a0 : Array Value) (hw : ∀ d ∈ tables_1, d.before a0 Z = true) (ws : List Jvm.Cond) (r0 : Addr) (p1 : Int32) (p2 : Int32) (wH : Addr) (h0 : Heap) (n0 : Nat) (Z0 : n0 ≤ h0.size) (E_r : Exa Z h0 r0 "com/example/admission_for_endpoints/admissionforendpoints/MessageReader") (F_stage : Fld Z h0 r0 "com/example/admission_for_endpoints/admissionforendpoints/MessageReader" "stage" "Lcom/example/admission_for_endpoints/admissionforendpoints/MessageReader$Stage;" .null) (F_body : Fld Z h0 r0 "com/example/admission_for_endpoints/admissionforendpoints/MessageReader" "body" "[B" .null) (F_maxBodyBytes : Fld Z h0 r0 "com/example/admission_for_endpoints/admissionforendpoints/MessageReader" "maxBodyBytes" "I" (.int (0 : Int32))) (F_dropping : Fld Z h0 r0 "com/example/admission_for_endpoints/admissionforendpoints/MessageReader" "dropping" "Z" (.int (0 : Int32))) (F_lineBytes : Fld Z h0 r0 "com/example/admission_for_endpoints/admissionforendpoints/MessageReader" "lineBytes" "I" (.int (0 : Int32))) (F_truncated : Fld Z h0 r0 "com/example/admission_for_endpoints/admissionforendpoints/MessageReader" "truncated" "Z" (.int (0 : Int32))) (F_bodyBytes : Fld Z h0 r0 "com/example/admission_for_endpoints/admissionforendpoints/MessageReader" "bodyBytes" "I" (.int (0 : Int32))) (F_left : Fld Z h0 r0 "com/example/admission_for_endpoints/admissionforendpoints/MessageReader" "left" "J" (.long (0 : Int64))) (F_line : Fld Z h0 r0 "com/example/admission_for_endpoints/admissionforendpoints/MessageReader" "line" "[B" .null) (F_cutOffAtBound : Fld Z h0 r0 "com/example/admission_for_endpoints/admissionforendpoints/MessageReader" "cutOffAtBound" "Z" (.int (0 : Int32))) (S_wH : Sta Z h0 "com/example/admission_for_endpoints/admissionforendpoints/MessageReader$Stage" "HEAD" "Lcom/example/admission_for_endpoints/admissionforendpoints/MessageReader$Stage;" (.ref wH)) (g_r0 : n0 ≤ r0) :
    MetFree l (⟨"com/example/admission_for_endpoints/admissionforendpoints/MessageReader", "<init>", "(IZ)V"⟩ : MethodName) (head1 (Jvm.Cond.code (⟨"com/example/admission_for_endpoints/admissionforendpoints/MessageReader", "<init>", "(IZ)V"⟩ : MethodName) prog_8_method_1_code 3 none :: ws) ({ frames := 1, cells := 2, slots := 256, locals := 12 } : Room)) (fun a U => a = #[(.ref r0), (.int p1), (.int p2)] ∧ Z.Warmed39 U.vm ∧ U.heap = h0) (fun _ _ _ _ _ => True) (fun _ U o U' => ∃ v L, o = .returned v ∧ Q1 Z r0 p1 p2 wH h0 n0 v U'.heap L ∧ FrameEnd U o U' L ({ frames := 1, cells := 2, slots := 256, locals := 12 } : Room).cells ({ frames := 1, cells := 2, slots := 256, locals := 12 } : Room).slots) := by
  refine MetFree.of_bodySF (plainFor_of_name pn_com_example_admission_for_endpoints_admissionforendpoints_MessageReader) hisR ?_
  intro p e s m args below meth c s₁ Bd hml0 hP hK
  obtain ⟨rfl, hZ, hh⟩ := hP
  have hx := Bd.exec
  have hby := Bd.bytes
  have hml : c.maxLocals = 3 := hml0
  have hown : s.vm.findClass "com/example/admission_for_endpoints/admissionforendpoints/MessageReader" = some m.cls := findClass_of_methodNamed Bd.named
  have hnm := (name_of_methodNamed Bd.named Bd.method).1
  have X0 : Stand p l e ({ frames := 1, cells := 2, slots := 256, locals := 12 } : Room) s m #[(.ref r0), (.int p1), (.int p2)] below meth c s₁ [] 0 0 := Stand.of_body Bd
  have e0 : s₁.heap = h0 := by rw [← hh, Bd.state]; rfl
  have N0 := Fr.nil n0
  have pre0 : ∀ t, Steps p.tables e below (s₁.setTop (mkF m 0 #[.val (.ref r0), .val (.int p1), .val (.int p2)] [])) t → Steps p.tables e below (s₁.setTop (entryFrame m #[(.ref r0), (.int p1), (.int p2)] 3)) t := fun t k => castTop (ef_1 r0 p1 p2 wH m) k
  obtain ⟨T1, X1, e1, st1⟩ := initO X0 hx hZ hown (hw _ (List.mem_of_getElem? (i := 7) rfl)) (hw _ (List.mem_of_getElem? (i := 8) rfl)) (hw _ (List.mem_of_getElem? (i := 9) rfl)) e0 (g := (mkF m 1 #[.val (.ref r0), .val (.int p1), .val (.int p2)] [(.ref r0)])) rfl (by rw [hml]; rfl) rfl (hb hby d1_1) (by decide) (W := 0) (by show 2 * 0 + _ ≤ _; exact Nat.le_of_eq rfl) (by decide)
  obtain ⟨T2, X2, e2, st2⟩ := getS2 X1 hx hZ hown (host := "") (Or.inl (hw _ (List.mem_of_getElem? (i := 10) rfl))) Via.refl e1 S_wH (g := (mkF m 5 #[.val (.ref r0), .val (.int p1), .val (.int p2)] [(.ref r0)])) rfl (hb hby d1_5)
  obtain ⟨T3, h3, X3, e3, W3, st3⟩ := putF X2 hx hZ hown (host := "") (Or.inl (hw _ (List.mem_of_getElem? (i := 13) rfl))) Via.refl e2 F_stage E_r (Or.inl (hw _ (List.mem_of_getElem? (i := 14) rfl))) (hw _ (List.mem_of_getElem? (i := 2) rfl)) (ty := (.object "com/example/admission_for_endpoints/admissionforendpoints/MessageReader$Stage")) (by decide) rfl rfl (g := (mkF m 8 #[.val (.ref r0), .val (.int p1), .val (.int p2)] [(.ref wH), (.ref r0)])) rfl rfl (hb hby d1_8)
  have Fw3 : Fld Z h3 r0 "com/example/admission_for_endpoints/admissionforendpoints/MessageReader" "stage" "Lcom/example/admission_for_endpoints/admissionforendpoints/MessageReader$Stage;" (.ref wH) := Fld.same W3 F_stage
  have K3 : Keep h0 h3 [r0] := (Keep.refl h0 [r0]).wr W3 (Or.inl (List.mem_of_getElem? (i := 0) rfl))
  have N3 := Fr.snoc X3 N0 g_r0
  obtain ⟨T4, h4, k4, X4, e4, E4, A4, st4⟩ := newP X3 hx hZ (hw _ (List.mem_of_getElem? (i := 15) rfl)) e3 (g := (mkF m 15 #[.val (.ref r0), .val (.int p1), .val (.int p2)] [(.int (256 : Int32)), (.ref r0)])) rfl (hb hby d1_15) rfl (by decide) (cap := 256) (by decide) (by decide) (by decide) (by decide)
  obtain ⟨b4, g4⟩ : ∃ z, z = h3.size := ⟨_, rfl⟩
  rw [← g4] at A4 st4
  have ne5 : r0 ≠ b4 := Nat.ne_of_lt (Nat.lt_of_lt_of_le (Exa.wr W3 E_r).lt (Nat.le_of_eq g4.symm))
  have g_b4 : n0 ≤ b4 := Nat.le_trans (Nat.le_trans Z0 (Keep.of_wr W3).1) (Nat.le_of_eq g4.symm)
  have sz_b4 : h0.size ≤ b4 := Nat.le_trans K3.1 (Nat.le_of_eq g4.symm)
  have V_b4 : Arv Z h4 b4 k4 .byte (256 : Int32) [] (.int (0 : Int32)) := Arv.new A4 (by decide)
  have K4 : Keep h0 h4 [r0] := K3.ext E4
  obtain ⟨T6, h6, X6, e6, W6, st6⟩ := putF X4 hx hZ hown (host := "") (Or.inl (hw _ (List.mem_of_getElem? (i := 16) rfl))) Via.refl e4 (Fld.ext E4 (Fld.other W3 F_line (Or.inr (slot_ne (Or.inl (hw _ (List.mem_of_getElem? (i := 17) rfl))) (Or.inl (hw _ (List.mem_of_getElem? (i := 14) rfl))) (by decide) (t := (.array .byte)) (t' := (.object "com/example/admission_for_endpoints/admissionforendpoints/MessageReader$Stage")) (by decide) (by decide))))) (Exa.ext E4 (Exa.wr W3 E_r)) (Or.inl (hw _ (List.mem_of_getElem? (i := 17) rfl))) (hw _ (List.mem_of_getElem? (i := 2) rfl)) (ty := (.array .byte)) (by decide) rfl rfl (g := (mkF m 17 #[.val (.ref r0), .val (.int p1), .val (.int p2)] [(.ref b4), (.ref r0)])) rfl rfl (hb hby d1_17)
  have Fw6 : Fld Z h6 r0 "com/example/admission_for_endpoints/admissionforendpoints/MessageReader" "line" "[B" (.ref b4) := Fld.same W6 (Fld.ext E4 (Fld.other W3 F_line (Or.inr (slot_ne (Or.inl (hw _ (List.mem_of_getElem? (i := 17) rfl))) (Or.inl (hw _ (List.mem_of_getElem? (i := 14) rfl))) (by decide) (t := (.array .byte)) (t' := (.object "com/example/admission_for_endpoints/admissionforendpoints/MessageReader$Stage")) (by decide) (by decide)))))
  have K6 : Keep h0 h6 [r0] := K4.wr W6 (Or.inl (List.mem_of_getElem? (i := 0) rfl))
  have N6 := Fr.snoc X6 N3 g_r0
  obtain ⟨T7, h7, k7, X7, e7, E7, A7, st7⟩ := newP X6 hx hZ (hw _ (List.mem_of_getElem? (i := 15) rfl)) e6 (g := (mkF m 22 #[.val (.ref r0), .val (.int p1), .val (.int p2)] [(.int (0 : Int32)), (.ref r0)])) rfl (hb hby d1_22) rfl (by decide) (cap := 0) (by decide) (by decide) (by decide) (by decide)
  obtain ⟨b7, g7⟩ : ∃ z, z = h6.size := ⟨_, rfl⟩
  rw [← g7] at A7 st7
  have ne8 : r0 ≠ b7 := Nat.ne_of_lt (Nat.lt_of_lt_of_le (Exa.wr W6 (Exa.ext E4 (Exa.wr W3 E_r))).lt (Nat.le_of_eq g7.symm))
  have ne9 : b4 ≠ b7 := Nat.ne_of_lt (Nat.lt_of_lt_of_le (V_b4.other W6 (Ne.symm ne5)).lt (Nat.le_of_eq g7.symm))
  have g_b7 : n0 ≤ b7 := Nat.le_trans (Nat.le_trans (Nat.le_trans (Nat.le_trans Z0 (Keep.of_wr W3).1) E4.1) (Keep.of_wr W6).1) (Nat.le_of_eq g7.symm)
  have sz_b7 : h0.size ≤ b7 := Nat.le_trans K6.1 (Nat.le_of_eq g7.symm)
  have V_b7 : Arv Z h7 b7 k7 .byte (0 : Int32) [] (.int (0 : Int32)) := Arv.new A7 (by decide)
  have K7 : Keep h0 h7 [r0] := K6.ext E7
  obtain ⟨T10, h10, X10, e10, W10, st10⟩ := putF X7 hx hZ hown (host := "") (Or.inl (hw _ (List.mem_of_getElem? (i := 18) rfl))) Via.refl e7 (Fld.ext E7 (Fld.other W6 (Fld.ext E4 (Fld.other W3 F_body (Or.inr (slot_ne (Or.inl (hw _ (List.mem_of_getElem? (i := 19) rfl))) (Or.inl (hw _ (List.mem_of_getElem? (i := 14) rfl))) (by decide) (t := (.array .byte)) (t' := (.object "com/example/admission_for_endpoints/admissionforendpoints/MessageReader$Stage")) (by decide) (by decide))))) (Or.inr (slot_ne (Or.inl (hw _ (List.mem_of_getElem? (i := 19) rfl))) (Or.inl (hw _ (List.mem_of_getElem? (i := 17) rfl))) (by decide) (t := (.array .byte)) (t' := (.array .byte)) (by decide) (by decide))))) (Exa.ext E7 (Exa.wr W6 (Exa.ext E4 (Exa.wr W3 E_r)))) (Or.inl (hw _ (List.mem_of_getElem? (i := 19) rfl))) (hw _ (List.mem_of_getElem? (i := 2) rfl)) (ty := (.array .byte)) (by decide) rfl rfl (g := (mkF m 24 #[.val (.ref r0), .val (.int p1), .val (.int p2)] [(.ref b7), (.ref r0)])) rfl rfl (hb hby d1_24)
  have Fw10 : Fld Z h10 r0 "com/example/admission_for_endpoints/admissionforendpoints/MessageReader" "body" "[B" (.ref b7) := Fld.same W10 (Fld.ext E7 (Fld.other W6 (Fld.ext E4 (Fld.other W3 F_body (Or.inr (slot_ne (Or.inl (hw _ (List.mem_of_getElem? (i := 19) rfl))) (Or.inl (hw _ (List.mem_of_getElem? (i := 14) rfl))) (by decide) (t := (.array .byte)) (t' := (.object "com/example/admission_for_endpoints/admissionforendpoints/MessageReader$Stage")) (by decide) (by decide))))) (Or.inr (slot_ne (Or.inl (hw _ (List.mem_of_getElem? (i := 19) rfl))) (Or.inl (hw _ (List.mem_of_getElem? (i := 17) rfl))) (by decide) (t := (.array .byte)) (t' := (.array .byte)) (by decide) (by decide)))))
  have K10 : Keep h0 h10 [r0] := K7.wr W10 (Or.inl (List.mem_of_getElem? (i := 0) rfl))
  have N10 := Fr.snoc X10 N6 g_r0
  obtain ⟨T11, h11, X11, e11, W11, st11⟩ := putF X10 hx hZ hown (host := "") (Or.inl (hw _ (List.mem_of_getElem? (i := 20) rfl))) Via.refl e10 (Fld.other W10 (Fld.ext E7 (Fld.other W6 (Fld.ext E4 (Fld.other W3 F_maxBodyBytes (Or.inr (slot_ne (Or.inr (hw _ (List.mem_of_getElem? (i := 21) rfl))) (Or.inl (hw _ (List.mem_of_getElem? (i := 14) rfl))) (by decide) (t := .int) (t' := (.object "com/example/admission_for_endpoints/admissionforendpoints/MessageReader$Stage")) (by decide) (by decide))))) (Or.inr (slot_ne (Or.inr (hw _ (List.mem_of_getElem? (i := 21) rfl))) (Or.inl (hw _ (List.mem_of_getElem? (i := 17) rfl))) (by decide) (t := .int) (t' := (.array .byte)) (by decide) (by decide))))) (Or.inr (slot_ne (Or.inr (hw _ (List.mem_of_getElem? (i := 21) rfl))) (Or.inl (hw _ (List.mem_of_getElem? (i := 19) rfl))) (by decide) (t := .int) (t' := (.array .byte)) (by decide) (by decide)))) (Exa.wr W10 (Exa.ext E7 (Exa.wr W6 (Exa.ext E4 (Exa.wr W3 E_r))))) (Or.inr ⟨(hw _ (List.mem_of_getElem? (i := 21) rfl)), rfl, hnm⟩) (hw _ (List.mem_of_getElem? (i := 2) rfl)) (ty := .int) (by decide) rfl rfl (g := (mkF m 29 #[.val (.ref r0), .val (.int p1), .val (.int p2)] [(.int p1), (.ref r0)])) rfl rfl (hb hby d1_29)
  have Fw11 : Fld Z h11 r0 "com/example/admission_for_endpoints/admissionforendpoints/MessageReader" "maxBodyBytes" "I" (.int p1) := Fld.same W11 (Fld.other W10 (Fld.ext E7 (Fld.other W6 (Fld.ext E4 (Fld.other W3 F_maxBodyBytes (Or.inr (slot_ne (Or.inr (hw _ (List.mem_of_getElem? (i := 21) rfl))) (Or.inl (hw _ (List.mem_of_getElem? (i := 14) rfl))) (by decide) (t := .int) (t' := (.object "com/example/admission_for_endpoints/admissionforendpoints/MessageReader$Stage")) (by decide) (by decide))))) (Or.inr (slot_ne (Or.inr (hw _ (List.mem_of_getElem? (i := 21) rfl))) (Or.inl (hw _ (List.mem_of_getElem? (i := 17) rfl))) (by decide) (t := .int) (t' := (.array .byte)) (by decide) (by decide))))) (Or.inr (slot_ne (Or.inr (hw _ (List.mem_of_getElem? (i := 21) rfl))) (Or.inl (hw _ (List.mem_of_getElem? (i := 19) rfl))) (by decide) (t := .int) (t' := (.array .byte)) (by decide) (by decide))))
  have K11 : Keep h0 h11 [r0] := K10.wr W11 (Or.inl (List.mem_of_getElem? (i := 0) rfl))
  have N11 := Fr.snoc X11 N10 g_r0
  obtain ⟨T12, h12, X12, e12, W12, st12⟩ := putFN X11 hx hZ hown (hw _ (List.mem_of_getElem? (i := 22) rfl)) Via.refl e11 (Fld.other W11 (Fld.other W10 (Fld.ext E7 (Fld.other W6 (Fld.ext E4 (Fld.other W3 F_cutOffAtBound (Or.inr (slot_ne (Or.inr (hw _ (List.mem_of_getElem? (i := 23) rfl))) (Or.inl (hw _ (List.mem_of_getElem? (i := 14) rfl))) (by decide) (t := .boolean) (t' := (.object "com/example/admission_for_endpoints/admissionforendpoints/MessageReader$Stage")) (by decide) (by decide))))) (Or.inr (slot_ne (Or.inr (hw _ (List.mem_of_getElem? (i := 23) rfl))) (Or.inl (hw _ (List.mem_of_getElem? (i := 17) rfl))) (by decide) (t := .boolean) (t' := (.array .byte)) (by decide) (by decide))))) (Or.inr (slot_ne (Or.inr (hw _ (List.mem_of_getElem? (i := 23) rfl))) (Or.inl (hw _ (List.mem_of_getElem? (i := 19) rfl))) (by decide) (t := .boolean) (t' := (.array .byte)) (by decide) (by decide)))) (Or.inr (slot_ne (Or.inr (hw _ (List.mem_of_getElem? (i := 23) rfl))) (Or.inr (hw _ (List.mem_of_getElem? (i := 21) rfl))) (by decide) (t := .boolean) (t' := .int) (by decide) (by decide)))) (Exa.wr W11 (Exa.wr W10 (Exa.ext E7 (Exa.wr W6 (Exa.ext E4 (Exa.wr W3 E_r)))))) (Or.inr ⟨(hw _ (List.mem_of_getElem? (i := 23) rfl)), rfl, hnm⟩) (hw _ (List.mem_of_getElem? (i := 2) rfl)) (ty := .boolean) (v' := (.int (nar .boolean p2))) (by decide) rfl (fits_nar_bool _) (g := (mkF m 34 #[.val (.ref r0), .val (.int p1), .val (.int p2)] [(.int p2), (.ref r0)])) rfl rfl (hb hby d1_34)
  have Fw12 : Fld Z h12 r0 "com/example/admission_for_endpoints/admissionforendpoints/MessageReader" "cutOffAtBound" "Z" (.int (nar .boolean p2)) := Fld.same W12 (Fld.other W11 (Fld.other W10 (Fld.ext E7 (Fld.other W6 (Fld.ext E4 (Fld.other W3 F_cutOffAtBound (Or.inr (slot_ne (Or.inr (hw _ (List.mem_of_getElem? (i := 23) rfl))) (Or.inl (hw _ (List.mem_of_getElem? (i := 14) rfl))) (by decide) (t := .boolean) (t' := (.object "com/example/admission_for_endpoints/admissionforendpoints/MessageReader$Stage")) (by decide) (by decide))))) (Or.inr (slot_ne (Or.inr (hw _ (List.mem_of_getElem? (i := 23) rfl))) (Or.inl (hw _ (List.mem_of_getElem? (i := 17) rfl))) (by decide) (t := .boolean) (t' := (.array .byte)) (by decide) (by decide))))) (Or.inr (slot_ne (Or.inr (hw _ (List.mem_of_getElem? (i := 23) rfl))) (Or.inl (hw _ (List.mem_of_getElem? (i := 19) rfl))) (by decide) (t := .boolean) (t' := (.array .byte)) (by decide) (by decide)))) (Or.inr (slot_ne (Or.inr (hw _ (List.mem_of_getElem? (i := 23) rfl))) (Or.inr (hw _ (List.mem_of_getElem? (i := 21) rfl))) (by decide) (t := .boolean) (t' := .int) (by decide) (by decide))))
  have K12 : Keep h0 h12 [r0] := K11.wr W12 (Or.inl (List.mem_of_getElem? (i := 0) rfl))
  have N12 := Fr.snoc X12 N11 g_r0
  obtain ⟨fs, hr, hrun, hended, hW, hsame⟩ := X12.leave (v := none) (fun _ => rfl)
  refine ⟨_, _, pre0 _ ?_, hrun, hended, _, _, rfl, ?_, ⟨_, rfl⟩, hW, hsame.mono (by decide) (by decide)⟩
  · show Steps p.tables e below (s₁.setTop (mkF m 0 #[.val (.ref r0), .val (.int p1), .val (.int p2)] [])) _
    refine XS.aloadN X0.here hx rfl (hb hby d1_0) rfl rfl ?_
    show Steps p.tables e below (s₁.setTop (mkF m 1 #[.val (.ref r0), .val (.int p1), .val (.int p2)] [(.ref r0)])) _
    refine st1 _ ?_
    show Steps p.tables e below (T1.setTop (mkF m 4 #[.val (.ref r0), .val (.int p1), .val (.int p2)] [])) _
    refine XS.aloadN X1.here hx rfl (hb hby d1_4) rfl rfl ?_
    show Steps p.tables e below (T1.setTop (mkF m 5 #[.val (.ref r0), .val (.int p1), .val (.int p2)] [(.ref r0)])) _
    refine st2 _ ?_
    show Steps p.tables e below (T2.setTop (mkF m 8 #[.val (.ref r0), .val (.int p1), .val (.int p2)] [(.ref wH), (.ref r0)])) _
    refine st3 _ ?_
    show Steps p.tables e below (T3.setTop (mkF m 11 #[.val (.ref r0), .val (.int p1), .val (.int p2)] [])) _
    refine XS.aloadN X3.here hx rfl (hb hby d1_11) rfl rfl ?_
    show Steps p.tables e below (T3.setTop (mkF m 12 #[.val (.ref r0), .val (.int p1), .val (.int p2)] [(.ref r0)])) _
    refine XS.sipush X3.here hx rfl (hb hby d1_12) ?_
    show Steps p.tables e below (T3.setTop (mkF m 15 #[.val (.ref r0), .val (.int p1), .val (.int p2)] [(.int (256 : Int32)), (.ref r0)])) _
    refine st4 _ ?_
    show Steps p.tables e below (T4.setTop (mkF m 17 #[.val (.ref r0), .val (.int p1), .val (.int p2)] [(.ref b4), (.ref r0)])) _
    refine st6 _ ?_
    show Steps p.tables e below (T6.setTop (mkF m 20 #[.val (.ref r0), .val (.int p1), .val (.int p2)] [])) _
    refine XS.aloadN X6.here hx rfl (hb hby d1_20) rfl rfl ?_
    show Steps p.tables e below (T6.setTop (mkF m 21 #[.val (.ref r0), .val (.int p1), .val (.int p2)] [(.ref r0)])) _
    refine XS.iconst X6.here hx rfl (hb hby d1_21) ?_
    show Steps p.tables e below (T6.setTop (mkF m 22 #[.val (.ref r0), .val (.int p1), .val (.int p2)] [(.int (0 : Int32)), (.ref r0)])) _
    refine st7 _ ?_
    show Steps p.tables e below (T7.setTop (mkF m 24 #[.val (.ref r0), .val (.int p1), .val (.int p2)] [(.ref b7), (.ref r0)])) _
    refine st10 _ ?_
    show Steps p.tables e below (T10.setTop (mkF m 27 #[.val (.ref r0), .val (.int p1), .val (.int p2)] [])) _
    refine XS.aloadN X10.here hx rfl (hb hby d1_27) rfl rfl ?_
    show Steps p.tables e below (T10.setTop (mkF m 28 #[.val (.ref r0), .val (.int p1), .val (.int p2)] [(.ref r0)])) _
    refine XS.iloadN X10.here hx rfl (hb hby d1_28) rfl ?_
    show Steps p.tables e below (T10.setTop (mkF m 29 #[.val (.ref r0), .val (.int p1), .val (.int p2)] [(.int p1), (.ref r0)])) _
    refine st11 _ ?_
    show Steps p.tables e below (T11.setTop (mkF m 32 #[.val (.ref r0), .val (.int p1), .val (.int p2)] [])) _
    refine XS.aloadN X11.here hx rfl (hb hby d1_32) rfl rfl ?_
    show Steps p.tables e below (T11.setTop (mkF m 33 #[.val (.ref r0), .val (.int p1), .val (.int p2)] [(.ref r0)])) _
    refine XS.iloadN X11.here hx rfl (hb hby d1_33) rfl ?_
    show Steps p.tables e below (T11.setTop (mkF m 34 #[.val (.ref r0), .val (.int p1), .val (.int p2)] [(.int p2), (.ref r0)])) _
    refine st12 _ ?_
    show Steps p.tables e below (T12.setTop (mkF m 37 #[.val (.ref r0), .val (.int p1), .val (.int p2)] [])) _
    exact X12.returnOut hx Bd.returns (hb hby d1_37) hr
  · show Q1 Z r0 p1 p2 wH h0 n0 _ T12.heap _
    rw [e12]
    exact ⟨b7, k7, rfl, N12, K12, (Exa.wr W12 (Exa.wr W11 (Exa.wr W10 (Exa.ext E7 (Exa.wr W6 (Exa.ext E4 (Exa.wr W3 E_r))))))), (Fld.other W12 (Fld.other W11 (Fld.other W10 (Fld.ext E7 (Fld.other W6 (Fld.ext E4 Fw3) (Or.inr (slot_ne (Or.inl (hw _ (List.mem_of_getElem? (i := 14) rfl))) (Or.inl (hw _ (List.mem_of_getElem? (i := 17) rfl))) (by decide) (t := (.object "com/example/admission_for_endpoints/admissionforendpoints/MessageReader$Stage")) (t' := (.array .byte)) (by decide) (by decide))))) (Or.inr (slot_ne (Or.inl (hw _ (List.mem_of_getElem? (i := 14) rfl))) (Or.inl (hw _ (List.mem_of_getElem? (i := 19) rfl))) (by decide) (t := (.object "com/example/admission_for_endpoints/admissionforendpoints/MessageReader$Stage")) (t' := (.array .byte)) (by decide) (by decide)))) (Or.inr (slot_ne (Or.inl (hw _ (List.mem_of_getElem? (i := 14) rfl))) (Or.inr (hw _ (List.mem_of_getElem? (i := 21) rfl))) (by decide) (t := (.object "com/example/admission_for_endpoints/admissionforendpoints/MessageReader$Stage")) (t' := .int) (by decide) (by decide)))) (Or.inr (slot_ne (Or.inl (hw _ (List.mem_of_getElem? (i := 14) rfl))) (Or.inr (hw _ (List.mem_of_getElem? (i := 23) rfl))) (by decide) (t := (.object "com/example/admission_for_endpoints/admissionforendpoints/MessageReader$Stage")) (t' := .boolean) (by decide) (by decide)))), (Fld.other W12 (Fld.other W11 Fw10 (Or.inr (slot_ne (Or.inl (hw _ (List.mem_of_getElem? (i := 19) rfl))) (Or.inr (hw _ (List.mem_of_getElem? (i := 21) rfl))) (by decide) (t := (.array .byte)) (t' := .int) (by decide) (by decide)))) (Or.inr (slot_ne (Or.inl (hw _ (List.mem_of_getElem? (i := 19) rfl))) (Or.inr (hw _ (List.mem_of_getElem? (i := 23) rfl))) (by decide) (t := (.array .byte)) (t' := .boolean) (by decide) (by decide)))), (Fld.other W12 Fw11 (Or.inr (slot_ne (Or.inr (hw _ (List.mem_of_getElem? (i := 21) rfl))) (Or.inr (hw _ (List.mem_of_getElem? (i := 23) rfl))) (by decide) (t := .int) (t' := .boolean) (by decide) (by decide)))), (Fld.other W12 (Fld.other W11 (Fld.other W10 (Fld.ext E7 (Fld.other W6 (Fld.ext E4 (Fld.other W3 F_dropping (Or.inr (slot_ne (Or.inl (hw _ (List.mem_of_getElem? (i := 30) rfl))) (Or.inl (hw _ (List.mem_of_getElem? (i := 14) rfl))) (by decide) (t := .boolean) (t' := (.object "com/example/admission_for_endpoints/admissionforendpoints/MessageReader$Stage")) (by decide) (by decide))))) (Or.inr (slot_ne (Or.inl (hw _ (List.mem_of_getElem? (i := 30) rfl))) (Or.inl (hw _ (List.mem_of_getElem? (i := 17) rfl))) (by decide) (t := .boolean) (t' := (.array .byte)) (by decide) (by decide))))) (Or.inr (slot_ne (Or.inl (hw _ (List.mem_of_getElem? (i := 30) rfl))) (Or.inl (hw _ (List.mem_of_getElem? (i := 19) rfl))) (by decide) (t := .boolean) (t' := (.array .byte)) (by decide) (by decide)))) (Or.inr (slot_ne (Or.inl (hw _ (List.mem_of_getElem? (i := 30) rfl))) (Or.inr (hw _ (List.mem_of_getElem? (i := 21) rfl))) (by decide) (t := .boolean) (t' := .int) (by decide) (by decide)))) (Or.inr (slot_ne (Or.inl (hw _ (List.mem_of_getElem? (i := 30) rfl))) (Or.inr (hw _ (List.mem_of_getElem? (i := 23) rfl))) (by decide) (t := .boolean) (t' := .boolean) (by decide) (by decide)))), (Fld.other W12 (Fld.other W11 (Fld.other W10 (Fld.ext E7 (Fld.other W6 (Fld.ext E4 (Fld.other W3 F_lineBytes (Or.inr (slot_ne (Or.inl (hw _ (List.mem_of_getElem? (i := 40) rfl))) (Or.inl (hw _ (List.mem_of_getElem? (i := 14) rfl))) (by decide) (t := .int) (t' := (.object "com/example/admission_for_endpoints/admissionforendpoints/MessageReader$Stage")) (by decide) (by decide))))) (Or.inr (slot_ne (Or.inl (hw _ (List.mem_of_getElem? (i := 40) rfl))) (Or.inl (hw _ (List.mem_of_getElem? (i := 17) rfl))) (by decide) (t := .int) (t' := (.array .byte)) (by decide) (by decide))))) (Or.inr (slot_ne (Or.inl (hw _ (List.mem_of_getElem? (i := 40) rfl))) (Or.inl (hw _ (List.mem_of_getElem? (i := 19) rfl))) (by decide) (t := .int) (t' := (.array .byte)) (by decide) (by decide)))) (Or.inr (slot_ne (Or.inl (hw _ (List.mem_of_getElem? (i := 40) rfl))) (Or.inr (hw _ (List.mem_of_getElem? (i := 21) rfl))) (by decide) (t := .int) (t' := .int) (by decide) (by decide)))) (Or.inr (slot_ne (Or.inl (hw _ (List.mem_of_getElem? (i := 40) rfl))) (Or.inr (hw _ (List.mem_of_getElem? (i := 23) rfl))) (by decide) (t := .int) (t' := .boolean) (by decide) (by decide)))), (Fld.other W12 (Fld.other W11 (Fld.other W10 (Fld.ext E7 (Fld.other W6 (Fld.ext E4 (Fld.other W3 F_truncated (Or.inr (slot_ne (Or.inl (hw _ (List.mem_of_getElem? (i := 75) rfl))) (Or.inl (hw _ (List.mem_of_getElem? (i := 14) rfl))) (by decide) (t := .boolean) (t' := (.object "com/example/admission_for_endpoints/admissionforendpoints/MessageReader$Stage")) (by decide) (by decide))))) (Or.inr (slot_ne (Or.inl (hw _ (List.mem_of_getElem? (i := 75) rfl))) (Or.inl (hw _ (List.mem_of_getElem? (i := 17) rfl))) (by decide) (t := .boolean) (t' := (.array .byte)) (by decide) (by decide))))) (Or.inr (slot_ne (Or.inl (hw _ (List.mem_of_getElem? (i := 75) rfl))) (Or.inl (hw _ (List.mem_of_getElem? (i := 19) rfl))) (by decide) (t := .boolean) (t' := (.array .byte)) (by decide) (by decide)))) (Or.inr (slot_ne (Or.inl (hw _ (List.mem_of_getElem? (i := 75) rfl))) (Or.inr (hw _ (List.mem_of_getElem? (i := 21) rfl))) (by decide) (t := .boolean) (t' := .int) (by decide) (by decide)))) (Or.inr (slot_ne (Or.inl (hw _ (List.mem_of_getElem? (i := 75) rfl))) (Or.inr (hw _ (List.mem_of_getElem? (i := 23) rfl))) (by decide) (t := .boolean) (t' := .boolean) (by decide) (by decide)))), (Fld.other W12 (Fld.other W11 (Fld.other W10 (Fld.ext E7 (Fld.other W6 (Fld.ext E4 (Fld.other W3 F_bodyBytes (Or.inr (slot_ne (Or.inl (hw _ (List.mem_of_getElem? (i := 82) rfl))) (Or.inl (hw _ (List.mem_of_getElem? (i := 14) rfl))) (by decide) (t := .int) (t' := (.object "com/example/admission_for_endpoints/admissionforendpoints/MessageReader$Stage")) (by decide) (by decide))))) (Or.inr (slot_ne (Or.inl (hw _ (List.mem_of_getElem? (i := 82) rfl))) (Or.inl (hw _ (List.mem_of_getElem? (i := 17) rfl))) (by decide) (t := .int) (t' := (.array .byte)) (by decide) (by decide))))) (Or.inr (slot_ne (Or.inl (hw _ (List.mem_of_getElem? (i := 82) rfl))) (Or.inl (hw _ (List.mem_of_getElem? (i := 19) rfl))) (by decide) (t := .int) (t' := (.array .byte)) (by decide) (by decide)))) (Or.inr (slot_ne (Or.inl (hw _ (List.mem_of_getElem? (i := 82) rfl))) (Or.inr (hw _ (List.mem_of_getElem? (i := 21) rfl))) (by decide) (t := .int) (t' := .int) (by decide) (by decide)))) (Or.inr (slot_ne (Or.inl (hw _ (List.mem_of_getElem? (i := 82) rfl))) (Or.inr (hw _ (List.mem_of_getElem? (i := 23) rfl))) (by decide) (t := .int) (t' := .boolean) (by decide) (by decide)))), (Fld.other W12 (Fld.other W11 (Fld.other W10 (Fld.ext E7 (Fld.other W6 (Fld.ext E4 (Fld.other W3 F_left (Or.inr (slot_ne (Or.inl (hw _ (List.mem_of_getElem? (i := 88) rfl))) (Or.inl (hw _ (List.mem_of_getElem? (i := 14) rfl))) (by decide) (t := .long) (t' := (.object "com/example/admission_for_endpoints/admissionforendpoints/MessageReader$Stage")) (by decide) (by decide))))) (Or.inr (slot_ne (Or.inl (hw _ (List.mem_of_getElem? (i := 88) rfl))) (Or.inl (hw _ (List.mem_of_getElem? (i := 17) rfl))) (by decide) (t := .long) (t' := (.array .byte)) (by decide) (by decide))))) (Or.inr (slot_ne (Or.inl (hw _ (List.mem_of_getElem? (i := 88) rfl))) (Or.inl (hw _ (List.mem_of_getElem? (i := 19) rfl))) (by decide) (t := .long) (t' := (.array .byte)) (by decide) (by decide)))) (Or.inr (slot_ne (Or.inl (hw _ (List.mem_of_getElem? (i := 88) rfl))) (Or.inr (hw _ (List.mem_of_getElem? (i := 21) rfl))) (by decide) (t := .long) (t' := .int) (by decide) (by decide)))) (Or.inr (slot_ne (Or.inl (hw _ (List.mem_of_getElem? (i := 88) rfl))) (Or.inr (hw _ (List.mem_of_getElem? (i := 23) rfl))) (by decide) (t := .long) (t' := .boolean) (by decide) (by decide)))), (((V_b7.other W10 (Ne.symm ne8)).other W11 (Ne.symm ne8)).other W12 (Ne.symm ne8)), (Ne.symm ne8)⟩
theorem d3_0 : decode prog_8_method_9_code 0 = .ok (.aload_n 0, 1) := by decide +kernel
theorem d3_1 : decode prog_8_method_9_code 1 = .ok (.iconst 1, 1) := by decide +kernel
theorem d3_2 : decode prog_8_method_9_code 2 = .ok (.putfield 157, 3) := by decide +kernel
theorem d3_5 : decode prog_8_method_9_code 5 = .ok (.return_, 1) := by decide +kernel
theorem ef_3 (r0 : Addr) (sS ab : Addr) (mx dr lb tr bb : Int32) (lf : Int64) (m : MethodId) : entryFrame m #[(.ref r0)] 1 = mkF m 0 #[.val (.ref r0)] [] := by first | (simp [entryFrame, mkF, argsToLocals, Value.category]; done) | rfl
def Q3 (Z : State) (r0 : Addr) (sS ab : Addr) (mx dr lb tr bb : Int32) (lf : Int64) (h0 : Heap) (n0 : Nat) (v : Option Value) (h : Heap) (L : List Loc) : Prop := v = none ∧ Fr n0 L ∧ Keep h0 h [r0] ∧ Exa Z h r0 "com/example/admission_for_endpoints/admissionforendpoints/MessageReader" ∧ Fld Z h r0 "com/example/admission_for_endpoints/admissionforendpoints/MessageReader" "stage" "Lcom/example/admission_for_endpoints/admissionforendpoints/MessageReader$Stage;" (.ref sS) ∧ Fld Z h r0 "com/example/admission_for_endpoints/admissionforendpoints/MessageReader" "body" "[B" (.ref ab) ∧ Fld Z h r0 "com/example/admission_for_endpoints/admissionforendpoints/MessageReader" "maxBodyBytes" "I" (.int mx) ∧ Fld Z h r0 "com/example/admission_for_endpoints/admissionforendpoints/MessageReader" "dropping" "Z" (.int (1 : Int32)) ∧ Fld Z h r0 "com/example/admission_for_endpoints/admissionforendpoints/MessageReader" "lineBytes" "I" (.int lb) ∧ Fld Z h r0 "com/example/admission_for_endpoints/admissionforendpoints/MessageReader" "truncated" "Z" (.int tr) ∧ Fld Z h r0 "com/example/admission_for_endpoints/admissionforendpoints/MessageReader" "bodyBytes" "I" (.int bb) ∧ Fld Z h r0 "com/example/admission_for_endpoints/admissionforendpoints/MessageReader" "left" "J" (.long lf)
set_option maxRecDepth 65536 in
set_option maxHeartbeats 40000000 in
theorem rm3 (l : Launch) (Z : State) (a0 : Array Value) (hw : ∀ d ∈ tables_1, d.before a0 Z = true) (ws : List Jvm.Cond) (r0 : Addr) (sS ab : Addr) (mx dr lb tr bb : Int32) (lf : Int64) (h0 : Heap) (n0 : Nat) (Z0 : n0 ≤ h0.size) (E_r : Exa Z h0 r0 "com/example/admission_for_endpoints/admissionforendpoints/MessageReader") (F_stage : Fld Z h0 r0 "com/example/admission_for_endpoints/admissionforendpoints/MessageReader" "stage" "Lcom/example/admission_for_endpoints/admissionforendpoints/MessageReader$Stage;" (.ref sS)) (F_body : Fld Z h0 r0 "com/example/admission_for_endpoints/admissionforendpoints/MessageReader" "body" "[B" (.ref ab)) (F_maxBodyBytes : Fld Z h0 r0 "com/example/admission_for_endpoints/admissionforendpoints/MessageReader" "maxBodyBytes" "I" (.int mx)) (F_dropping : Fld Z h0 r0 "com/example/admission_for_endpoints/admissionforendpoints/MessageReader" "dropping" "Z" (.int dr)) (F_lineBytes : Fld Z h0 r0 "com/example/admission_for_endpoints/admissionforendpoints/MessageReader" "lineBytes" "I" (.int lb)) (F_truncated : Fld Z h0 r0 "com/example/admission_for_endpoints/admissionforendpoints/MessageReader" "truncated" "Z" (.int tr)) (F_bodyBytes : Fld Z h0 r0 "com/example/admission_for_endpoints/admissionforendpoints/MessageReader" "bodyBytes" "I" (.int bb)) (F_left : Fld Z h0 r0 "com/example/admission_for_endpoints/admissionforendpoints/MessageReader" "left" "J" (.long lf)) (g_r0 : n0 ≤ r0) :
    MetFree l (⟨"com/example/admission_for_endpoints/admissionforendpoints/MessageReader", "drop", "()V"⟩ : MethodName) (head1 (Jvm.Cond.code (⟨"com/example/admission_for_endpoints/admissionforendpoints/MessageReader", "drop", "()V"⟩ : MethodName) prog_8_method_9_code 1 none :: ws) ({ frames := 0, cells := 0, slots := 0, locals := 0 } : Room)) (fun a U => a = #[(.ref r0)] ∧ Z.Warmed39 U.vm ∧ U.heap = h0) (fun _ _ _ _ _ => True) (fun _ U o U' => ∃ v L, o = .returned v ∧ Q3 Z r0 sS ab mx dr lb tr bb lf h0 n0 v U'.heap L ∧ FrameEnd U o U' L ({ frames := 0, cells := 0, slots := 0, locals := 0 } : Room).cells ({ frames := 0, cells := 0, slots := 0, locals := 0 } : Room).slots) := by
  refine MetFree.of_bodySF (plainFor_of_name pn_com_example_admission_for_endpoints_admissionforendpoints_MessageReader) hisR ?_
  intro p e s m args below meth c s₁ Bd hml0 hP hK
  obtain ⟨rfl, hZ, hh⟩ := hP
  have hx := Bd.exec
  have hby := Bd.bytes
  have hml : c.maxLocals = 1 := hml0
  have hown : s.vm.findClass "com/example/admission_for_endpoints/admissionforendpoints/MessageReader" = some m.cls := findClass_of_methodNamed Bd.named
  have hnm := (name_of_methodNamed Bd.named Bd.method).1
  have X0 : Stand p l e ({ frames := 0, cells := 0, slots := 0, locals := 0 } : Room) s m #[(.ref r0)] below meth c s₁ [] 0 0 := Stand.of_body Bd
  have e0 : s₁.heap = h0 := by rw [← hh, Bd.state]; rfl
  have N0 := Fr.nil n0
  have pre0 : ∀ t, Steps p.tables e below (s₁.setTop (mkF m 0 #[.val (.ref r0)] [])) t → Steps p.tables e below (s₁.setTop (entryFrame m #[(.ref r0)] 1)) t := fun t k => castTop (ef_3 r0 sS ab mx dr lb tr bb lf m) k
  obtain ⟨T1, h1, X1, e1, W1, st1⟩ := putFN X0 hx hZ hown (hw _ (List.mem_of_getElem? (i := 29) rfl)) Via.refl e0 F_dropping E_r (Or.inl (hw _ (List.mem_of_getElem? (i := 30) rfl))) (hw _ (List.mem_of_getElem? (i := 2) rfl)) (ty := .boolean) (v' := (.int (1 : Int32))) (by decide) rfl rfl (g := (mkF m 2 #[.val (.ref r0)] [(.int (1 : Int32)), (.ref r0)])) rfl rfl (hb hby d3_2)
  have Fw1 : Fld Z h1 r0 "com/example/admission_for_endpoints/admissionforendpoints/MessageReader" "dropping" "Z" (.int (1 : Int32)) := Fld.same W1 F_dropping
  have K1 : Keep h0 h1 [r0] := (Keep.refl h0 [r0]).wr W1 (Or.inl (List.mem_of_getElem? (i := 0) rfl))
  have N1 := Fr.snoc X1 N0 g_r0
  obtain ⟨fs, hr, hrun, hended, hW, hsame⟩ := X1.leave (v := none) (fun _ => rfl)
  refine ⟨_, _, pre0 _ ?_, hrun, hended, _, _, rfl, ?_, ⟨_, rfl⟩, hW, hsame.mono (by decide) (by decide)⟩
  · show Steps p.tables e below (s₁.setTop (mkF m 0 #[.val (.ref r0)] [])) _
    refine XS.aloadN X0.here hx rfl (hb hby d3_0) rfl rfl ?_
    show Steps p.tables e below (s₁.setTop (mkF m 1 #[.val (.ref r0)] [(.ref r0)])) _
    refine XS.iconst X0.here hx rfl (hb hby d3_1) ?_
    show Steps p.tables e below (s₁.setTop (mkF m 2 #[.val (.ref r0)] [(.int (1 : Int32)), (.ref r0)])) _
    refine st1 _ ?_
    show Steps p.tables e below (T1.setTop (mkF m 5 #[.val (.ref r0)] [])) _
    exact X1.returnOut hx Bd.returns (hb hby d3_5) hr
  · show Q3 Z r0 sS ab mx dr lb tr bb lf h0 n0 _ T1.heap _
    rw [e1]
    exact ⟨rfl, N1, K1, (Exa.wr W1 E_r), (Fld.other W1 F_stage (Or.inr (slot_ne (Or.inl (hw _ (List.mem_of_getElem? (i := 14) rfl))) (Or.inl (hw _ (List.mem_of_getElem? (i := 30) rfl))) (by decide) (t := (.object "com/example/admission_for_endpoints/admissionforendpoints/MessageReader$Stage")) (t' := .boolean) (by decide) (by decide)))), (Fld.other W1 F_body (Or.inr (slot_ne (Or.inl (hw _ (List.mem_of_getElem? (i := 19) rfl))) (Or.inl (hw _ (List.mem_of_getElem? (i := 30) rfl))) (by decide) (t := (.array .byte)) (t' := .boolean) (by decide) (by decide)))), (Fld.other W1 F_maxBodyBytes (Or.inr (slot_ne (Or.inr (hw _ (List.mem_of_getElem? (i := 21) rfl))) (Or.inl (hw _ (List.mem_of_getElem? (i := 30) rfl))) (by decide) (t := .int) (t' := .boolean) (by decide) (by decide)))), Fw1, (Fld.other W1 F_lineBytes (Or.inr (slot_ne (Or.inl (hw _ (List.mem_of_getElem? (i := 40) rfl))) (Or.inl (hw _ (List.mem_of_getElem? (i := 30) rfl))) (by decide) (t := .int) (t' := .boolean) (by decide) (by decide)))), (Fld.other W1 F_truncated (Or.inr (slot_ne (Or.inl (hw _ (List.mem_of_getElem? (i := 75) rfl))) (Or.inl (hw _ (List.mem_of_getElem? (i := 30) rfl))) (by decide) (t := .boolean) (t' := .boolean) (by decide) (by decide)))), (Fld.other W1 F_bodyBytes (Or.inr (slot_ne (Or.inl (hw _ (List.mem_of_getElem? (i := 82) rfl))) (Or.inl (hw _ (List.mem_of_getElem? (i := 30) rfl))) (by decide) (t := .int) (t' := .boolean) (by decide) (by decide)))), (Fld.other W1 F_left (Or.inr (slot_ne (Or.inl (hw _ (List.mem_of_getElem? (i := 88) rfl))) (Or.inl (hw _ (List.mem_of_getElem? (i := 30) rfl))) (by decide) (t := .long) (t' := .boolean) (by decide) (by decide))))⟩
theorem d5_0 : decode jdk_37_method_2_code 0 = .ok (.aload_n 0, 1) := by decide +kernel
theorem d5_1 : decode jdk_37_method_2_code 1 = .ok (.getfield 7, 3) := by decide +kernel
theorem d5_4 : decode jdk_37_method_2_code 4 = .ok (.ireturn, 1) := by decide +kernel
theorem pn_java_lang_Enum : plainName "java/lang/Enum" = true := by first | (simp [plainName, overriddenIn]; done) | decide +kernel
theorem ef_5 (r0 : Addr) (w : Int32) (m : MethodId) : entryFrame m #[(.ref r0)] 1 = mkF m 0 #[.val (.ref r0)] [] := by first | (simp [entryFrame, mkF, argsToLocals, Value.category]; done) | rfl
def Q5 (Z : State) (r0 : Addr) (w : Int32) (h0 : Heap) (n0 : Nat) (v : Option Value) (h : Heap) (L : List Loc) : Prop := v = some (.int w) ∧ Fr n0 L ∧ h = h0
set_option maxRecDepth 65536 in
set_option maxHeartbeats 40000000 in
theorem rm5 (l : Launch) (Z : State) (a0 : Array Value) (hw : ∀ d ∈ tables_1, d.before a0 Z = true) (ws : List Jvm.Cond) (r0 : Addr) (w : Int32) (h0 : Heap) (n0 : Nat) (Z0 : n0 ≤ h0.size) (F_o : Fld Z h0 r0 "java/lang/Enum" "ordinal" "I" (.int w)) :
    MetFree l (⟨"java/lang/Enum", "ordinal", "()I"⟩ : MethodName) (head1 (Jvm.Cond.code (⟨"java/lang/Enum", "ordinal", "()I"⟩ : MethodName) jdk_37_method_2_code 1 (some .int) :: ws) ({ frames := 0, cells := 0, slots := 0, locals := 0 } : Room)) (fun a U => a = #[(.ref r0)] ∧ Z.Warmed39 U.vm ∧ U.heap = h0) (fun _ _ _ _ _ => True) (fun _ U o U' => ∃ v L, o = .returned v ∧ Q5 Z r0 w h0 n0 v U'.heap L ∧ FrameEnd U o U' L ({ frames := 0, cells := 0, slots := 0, locals := 0 } : Room).cells ({ frames := 0, cells := 0, slots := 0, locals := 0 } : Room).slots) := by
  refine MetFree.of_bodySF (plainFor_of_name pn_java_lang_Enum) hisR ?_
  intro p e s m args below meth c s₁ Bd hml0 hP hK
  obtain ⟨rfl, hZ, hh⟩ := hP
  have hx := Bd.exec
  have hby := Bd.bytes
  have hml : c.maxLocals = 1 := hml0
  have hown : s.vm.findClass "java/lang/Enum" = some m.cls := findClass_of_methodNamed Bd.named
  have hnm := (name_of_methodNamed Bd.named Bd.method).1
  have X0 : Stand p l e ({ frames := 0, cells := 0, slots := 0, locals := 0 } : Room) s m #[(.ref r0)] below meth c s₁ [] 0 0 := Stand.of_body Bd
  have e0 : s₁.heap = h0 := by rw [← hh, Bd.state]; rfl
  have N0 := Fr.nil n0
  have pre0 : ∀ t, Steps p.tables e below (s₁.setTop (mkF m 0 #[.val (.ref r0)] [])) t → Steps p.tables e below (s₁.setTop (entryFrame m #[(.ref r0)] 1)) t := fun t k => castTop (ef_5 r0 w m) k
  obtain ⟨T1, X1, e1, st1⟩ := getF X0 hx hZ hown (host := "") (Or.inl (hw _ (List.mem_of_getElem? (i := 48) rfl))) Via.refl e0 F_o (g := (mkF m 1 #[.val (.ref r0)] [(.ref r0)])) rfl rfl (hb hby d5_1)
  obtain ⟨fs, hr, hrun, hended, hW, hsame⟩ := X1.leave (v := some (.int w)) (fun h => by rw [Bd.returns] at h; cases h)
  refine ⟨_, _, pre0 _ ?_, hrun, hended, _, _, rfl, ?_, ⟨_, rfl⟩, hW, hsame.mono (by decide) (by decide)⟩
  · show Steps p.tables e below (s₁.setTop (mkF m 0 #[.val (.ref r0)] [])) _
    refine XS.aloadN X0.here hx rfl (hb hby d5_0) rfl rfl ?_
    show Steps p.tables e below (s₁.setTop (mkF m 1 #[.val (.ref r0)] [(.ref r0)])) _
    refine st1 _ ?_
    show Steps p.tables e below (T1.setTop (mkF m 4 #[.val (.ref r0)] [(.int w)])) _
    exact retI X1 hx Bd.returns (hb hby d5_4) hr
  · show Q5 Z r0 w h0 n0 _ T1.heap _
    rw [e1]
    exact ⟨rfl, N0, rfl⟩
theorem d11_0 : decode jdk_29_method_70_code 0 = .ok (.lload_n 0, 1) := by decide +kernel
theorem d11_1 : decode jdk_29_method_70_code 1 = .ok (.lload_n 2, 1) := by decide +kernel
theorem d11_2 : decode jdk_29_method_70_code 2 = .ok (.lcmp, 1) := by decide +kernel
theorem d11_3 : decode jdk_29_method_70_code 3 = .ok (.ifCond .gt 7, 3) := by decide +kernel
theorem d11_6 : decode jdk_29_method_70_code 6 = .ok (.lload_n 0, 1) := by decide +kernel
theorem d11_7 : decode jdk_29_method_70_code 7 = .ok (.goto 4, 3) := by decide +kernel
theorem d11_10 : decode jdk_29_method_70_code 10 = .ok (.lload_n 2, 1) := by decide +kernel
theorem d11_11 : decode jdk_29_method_70_code 11 = .ok (.lreturn, 1) := by decide +kernel
theorem ef_11 (q0 : Int64) (q1 : Int64)  (m : MethodId) : entryFrame m #[(.long q0), (.long q1)] 4 = mkF m 0 #[.val (.long q0), .second, .val (.long q1), .second] [] := by first | (simp [entryFrame, mkF, argsToLocals, Value.category]; done) | rfl
def F11 (q0 : Int64) (q1 : Int64) : Int64 := (if (0 : Int32) < (lcmpW q0 q1) then q1 else q0)
def Q11 (Z : State) (q0 : Int64) (q1 : Int64)  (h0 : Heap) (n0 : Nat) (v : Option Value) (h : Heap) (L : List Loc) : Prop := v = some (.long (F11 q0 q1)) ∧ Fr n0 L ∧ h = h0
set_option maxRecDepth 65536 in
set_option maxHeartbeats 40000000 in
theorem rm11 (l : Launch) (Z : State) (a0 : Array Value) (hw : ∀ d ∈ tables_1, d.before a0 Z = true) (ws : List Jvm.Cond) (q0 : Int64) (q1 : Int64)  (h0 : Heap) (n0 : Nat) (Z0 : n0 ≤ h0.size) :
    MetFree l (⟨"java/lang/Math", "min", "(JJ)J"⟩ : MethodName) (head1 (Jvm.Cond.code (⟨"java/lang/Math", "min", "(JJ)J"⟩ : MethodName) jdk_29_method_70_code 4 (some .long) :: ws) ({ frames := 0, cells := 0, slots := 0, locals := 0 } : Room)) (fun a U => a = #[(.long q0), (.long q1)] ∧ Z.Warmed39 U.vm ∧ U.heap = h0) (fun _ _ _ _ _ => True) (fun _ U o U' => ∃ v L, o = .returned v ∧ Q11 Z q0 q1 h0 n0 v U'.heap L ∧ FrameEnd U o U' L ({ frames := 0, cells := 0, slots := 0, locals := 0 } : Room).cells ({ frames := 0, cells := 0, slots := 0, locals := 0 } : Room).slots) := by
  refine MetFree.of_bodySF (Jvm.Free.JP.mathPlain rfl (by decide +kernel)) hisR ?_
  intro p e s m args below meth c s₁ Bd hml0 hP hK
  obtain ⟨rfl, hZ, hh⟩ := hP
  have hx := Bd.exec
  have hby := Bd.bytes
  have hml : c.maxLocals = 4 := hml0
  have hown : s.vm.findClass "java/lang/Math" = some m.cls := findClass_of_methodNamed Bd.named
  have hnm := (name_of_methodNamed Bd.named Bd.method).1
  have X0 : Stand p l e ({ frames := 0, cells := 0, slots := 0, locals := 0 } : Room) s m #[(.long q0), (.long q1)] below meth c s₁ [] 0 0 := Stand.of_body Bd
  have e0 : s₁.heap = h0 := by rw [← hh, Bd.state]; rfl
  have N0 := Fr.nil n0
  have pre0 : ∀ t, Steps p.tables e below (s₁.setTop (mkF m 0 #[.val (.long q0), .second, .val (.long q1), .second] [])) t → Steps p.tables e below (s₁.setTop (entryFrame m #[(.long q0), (.long q1)] 4)) t := fun t k => castTop (ef_11 q0 q1 m) k
  have pre1 : ∀ t, Steps p.tables e below (s₁.setTop (mkF m 3 #[.val (.long q0), .second, .val (.long q1), .second] [(.int (lcmpW q0 q1))])) t → Steps p.tables e below (s₁.setTop (entryFrame m #[(.long q0), (.long q1)] 4)) t := fun t kt => pre0 t (by
    show Steps p.tables e below (s₁.setTop (mkF m 0 #[.val (.long q0), .second, .val (.long q1), .second] [])) _
    refine XS.lloadN X0.here hx rfl (hb hby d11_0) rfl ?_
    show Steps p.tables e below (s₁.setTop (mkF m 1 #[.val (.long q0), .second, .val (.long q1), .second] [(.long q0)])) _
    refine XS.lloadN X0.here hx rfl (hb hby d11_1) rfl ?_
    show Steps p.tables e below (s₁.setTop (mkF m 2 #[.val (.long q0), .second, .val (.long q1), .second] [(.long q1), (.long q0)])) _
    refine XS.lcmp X0.here hx rfl (hb hby d11_2) rfl ?_
    exact kt)
  by_cases hc3 : (0 : Int32) < (lcmpW q0 q1)
  · obtain ⟨fs, hr, hrun, hended, hW, hsame⟩ := X0.leave (v := some (.long q1)) (fun h => by rw [Bd.returns] at h; cases h)
    refine ⟨_, _, pre1 _ ?_, hrun, hended, _, _, rfl, ?_, ⟨_, rfl⟩, hW, hsame.mono (by decide) (by decide)⟩
    · show Steps p.tables e below (s₁.setTop (mkF m 3 #[.val (.long q0), .second, .val (.long q1), .second] [(.int (lcmpW q0 q1))])) _
      refine XS.ifYes X0.here hx rfl (pc0 := 3) (pc' := 10) rfl (hb hby d11_3) rfl ((if0 _ _).trans (tlt hc3).2.2.1) (by decide) (by decide) ?_
      show Steps p.tables e below (s₁.setTop (mkF m 10 #[.val (.long q0), .second, .val (.long q1), .second] [])) _
      refine XS.lloadN X0.here hx rfl (hb hby d11_10) rfl ?_
      show Steps p.tables e below (s₁.setTop (mkF m 11 #[.val (.long q0), .second, .val (.long q1), .second] [(.long q1)])) _
      exact retOut X0 hx (t := .long) Bd.returns rfl (Or.inr (Or.inl ⟨rfl, rfl, _, rfl⟩)) (hb hby d11_11) hr
    · show Q11 Z q0 q1 h0 n0 _ s₁.heap _
      rw [e0]
      exact ⟨(by unfold F11; simp only [if_pos hc3]), N0, rfl⟩
  · obtain ⟨fs, hr, hrun, hended, hW, hsame⟩ := X0.leave (v := some (.long q0)) (fun h => by rw [Bd.returns] at h; cases h)
    refine ⟨_, _, pre1 _ ?_, hrun, hended, _, _, rfl, ?_, ⟨_, rfl⟩, hW, hsame.mono (by decide) (by decide)⟩
    · show Steps p.tables e below (s₁.setTop (mkF m 3 #[.val (.long q0), .second, .val (.long q1), .second] [(.int (lcmpW q0 q1))])) _
      refine XS.ifNo X0.here hx rfl (hb hby d11_3) rfl ((if0 _ _).trans (flt hc3).2.2.1) ?_
      show Steps p.tables e below (s₁.setTop (mkF m 6 #[.val (.long q0), .second, .val (.long q1), .second] [])) _
      refine XS.lloadN X0.here hx rfl (hb hby d11_6) rfl ?_
      show Steps p.tables e below (s₁.setTop (mkF m 7 #[.val (.long q0), .second, .val (.long q1), .second] [(.long q0)])) _
      refine XS.goto X0.here hx rfl (pc0 := 7) (pc' := 11) rfl (hb hby d11_7) (by decide) (by decide) ?_
      show Steps p.tables e below (s₁.setTop (mkF m 11 #[.val (.long q0), .second, .val (.long q1), .second] [(.long q0)])) _
      exact retOut X0 hx (t := .long) Bd.returns rfl (Or.inr (Or.inl ⟨rfl, rfl, _, rfl⟩)) (hb hby d11_11) hr
    · show Q11 Z q0 q1 h0 n0 _ s₁.heap _
      rw [e0]
      exact ⟨(by unfold F11; simp only [if_neg hc3]), N0, rfl⟩
theorem d13_0 : decode jdk_29_method_69_code 0 = .ok (.iload_n 0, 1) := by decide +kernel
theorem d13_1 : decode jdk_29_method_69_code 1 = .ok (.iload_n 1, 1) := by decide +kernel
theorem d13_2 : decode jdk_29_method_69_code 2 = .ok (.if_icmp .gt 7, 3) := by decide +kernel
theorem d13_5 : decode jdk_29_method_69_code 5 = .ok (.iload_n 0, 1) := by decide +kernel
theorem d13_6 : decode jdk_29_method_69_code 6 = .ok (.goto 4, 3) := by decide +kernel
theorem d13_9 : decode jdk_29_method_69_code 9 = .ok (.iload_n 1, 1) := by decide +kernel
theorem d13_10 : decode jdk_29_method_69_code 10 = .ok (.ireturn, 1) := by decide +kernel
theorem ef_13 (p0 : Int32) (p1 : Int32)  (m : MethodId) : entryFrame m #[(.int p0), (.int p1)] 2 = mkF m 0 #[.val (.int p0), .val (.int p1)] [] := by first | (simp [entryFrame, mkF, argsToLocals, Value.category]; done) | rfl
def F13 (p0 : Int32) (p1 : Int32) : Int32 := (if p1 < p0 then p1 else p0)
def Q13 (Z : State) (p0 : Int32) (p1 : Int32)  (h0 : Heap) (n0 : Nat) (v : Option Value) (h : Heap) (L : List Loc) : Prop := v = some (.int (F13 p0 p1)) ∧ Fr n0 L ∧ h = h0
set_option maxRecDepth 65536 in
set_option maxHeartbeats 40000000 in
theorem rm13 (l : Launch) (Z : State) (a0 : Array Value) (hw : ∀ d ∈ tables_1, d.before a0 Z = true) (ws : List Jvm.Cond) (p0 : Int32) (p1 : Int32)  (h0 : Heap) (n0 : Nat) (Z0 : n0 ≤ h0.size) :
    MetFree l (⟨"java/lang/Math", "min", "(II)I"⟩ : MethodName) (head1 (Jvm.Cond.code (⟨"java/lang/Math", "min", "(II)I"⟩ : MethodName) jdk_29_method_69_code 2 (some .int) :: ws) ({ frames := 0, cells := 0, slots := 0, locals := 0 } : Room)) (fun a U => a = #[(.int p0), (.int p1)] ∧ Z.Warmed39 U.vm ∧ U.heap = h0) (fun _ _ _ _ _ => True) (fun _ U o U' => ∃ v L, o = .returned v ∧ Q13 Z p0 p1 h0 n0 v U'.heap L ∧ FrameEnd U o U' L ({ frames := 0, cells := 0, slots := 0, locals := 0 } : Room).cells ({ frames := 0, cells := 0, slots := 0, locals := 0 } : Room).slots) := by
  refine MetFree.of_bodySF (Jvm.Free.JP.mathPlain rfl (by decide +kernel)) hisR ?_
  intro p e s m args below meth c s₁ Bd hml0 hP hK
  obtain ⟨rfl, hZ, hh⟩ := hP
  have hx := Bd.exec
  have hby := Bd.bytes
  have hml : c.maxLocals = 2 := hml0
  have hown : s.vm.findClass "java/lang/Math" = some m.cls := findClass_of_methodNamed Bd.named
  have hnm := (name_of_methodNamed Bd.named Bd.method).1
  have X0 : Stand p l e ({ frames := 0, cells := 0, slots := 0, locals := 0 } : Room) s m #[(.int p0), (.int p1)] below meth c s₁ [] 0 0 := Stand.of_body Bd
  have e0 : s₁.heap = h0 := by rw [← hh, Bd.state]; rfl
  have N0 := Fr.nil n0
  have pre0 : ∀ t, Steps p.tables e below (s₁.setTop (mkF m 0 #[.val (.int p0), .val (.int p1)] [])) t → Steps p.tables e below (s₁.setTop (entryFrame m #[(.int p0), (.int p1)] 2)) t := fun t k => castTop (ef_13 p0 p1 m) k
  have pre1 : ∀ t, Steps p.tables e below (s₁.setTop (mkF m 2 #[.val (.int p0), .val (.int p1)] [(.int p1), (.int p0)])) t → Steps p.tables e below (s₁.setTop (entryFrame m #[(.int p0), (.int p1)] 2)) t := fun t kt => pre0 t (by
    show Steps p.tables e below (s₁.setTop (mkF m 0 #[.val (.int p0), .val (.int p1)] [])) _
    refine XS.iloadN X0.here hx rfl (hb hby d13_0) rfl ?_
    show Steps p.tables e below (s₁.setTop (mkF m 1 #[.val (.int p0), .val (.int p1)] [(.int p0)])) _
    refine XS.iloadN X0.here hx rfl (hb hby d13_1) rfl ?_
    exact kt)
  by_cases hc2 : p1 < p0
  · obtain ⟨fs, hr, hrun, hended, hW, hsame⟩ := X0.leave (v := some (.int p1)) (fun h => by rw [Bd.returns] at h; cases h)
    refine ⟨_, _, pre1 _ ?_, hrun, hended, _, _, rfl, ?_, ⟨_, rfl⟩, hW, hsame.mono (by decide) (by decide)⟩
    · show Steps p.tables e below (s₁.setTop (mkF m 2 #[.val (.int p0), .val (.int p1)] [(.int p1), (.int p0)])) _
      refine XS.icmpYes X0.here hx rfl (pc0 := 2) (pc' := 9) rfl (hb hby d13_2) rfl (tlt hc2).2.2.1 (by decide) (by decide) ?_
      show Steps p.tables e below (s₁.setTop (mkF m 9 #[.val (.int p0), .val (.int p1)] [])) _
      refine XS.iloadN X0.here hx rfl (hb hby d13_9) rfl ?_
      show Steps p.tables e below (s₁.setTop (mkF m 10 #[.val (.int p0), .val (.int p1)] [(.int p1)])) _
      exact retI X0 hx Bd.returns (hb hby d13_10) hr
    · show Q13 Z p0 p1 h0 n0 _ s₁.heap _
      rw [e0]
      exact ⟨(by unfold F13; simp only [if_pos hc2]), N0, rfl⟩
  · obtain ⟨fs, hr, hrun, hended, hW, hsame⟩ := X0.leave (v := some (.int p0)) (fun h => by rw [Bd.returns] at h; cases h)
    refine ⟨_, _, pre1 _ ?_, hrun, hended, _, _, rfl, ?_, ⟨_, rfl⟩, hW, hsame.mono (by decide) (by decide)⟩
    · show Steps p.tables e below (s₁.setTop (mkF m 2 #[.val (.int p0), .val (.int p1)] [(.int p1), (.int p0)])) _
      refine XS.icmpNo X0.here hx rfl (hb hby d13_2) rfl (flt hc2).2.2.1 ?_
      show Steps p.tables e below (s₁.setTop (mkF m 5 #[.val (.int p0), .val (.int p1)] [])) _
      refine XS.iloadN X0.here hx rfl (hb hby d13_5) rfl ?_
      show Steps p.tables e below (s₁.setTop (mkF m 6 #[.val (.int p0), .val (.int p1)] [(.int p0)])) _
      refine XS.goto X0.here hx rfl (pc0 := 6) (pc' := 10) rfl (hb hby d13_6) (by decide) (by decide) ?_
      show Steps p.tables e below (s₁.setTop (mkF m 10 #[.val (.int p0), .val (.int p1)] [(.int p0)])) _
      exact retI X0 hx Bd.returns (hb hby d13_10) hr
    · show Q13 Z p0 p1 h0 n0 _ s₁.heap _
      rw [e0]
      exact ⟨(by unfold F13; simp only [if_neg hc2]), N0, rfl⟩
theorem own_min0 {x : Int32} (h : (0 : Int32) < x) : F13 (0 : Int32) x = (0 : Int32) := by unfold F13; rw [if_neg (own_asym h)]
theorem d12_0 : decode jdk_65_method_121_code 0 = .ok (.iload_n 1, 1) := by decide +kernel
theorem d12_1 : decode jdk_65_method_121_code 1 = .ok (.aload_n 0, 1) := by decide +kernel
theorem d12_2 : decode jdk_65_method_121_code 2 = .ok (.arraylength, 1) := by decide +kernel
theorem d12_3 : decode jdk_65_method_121_code 3 = .ok (.if_icmp .ne 11, 3) := by decide +kernel
theorem d12_14 : decode jdk_65_method_121_code 14 = .ok (.iload_n 1, 1) := by decide +kernel
theorem d12_15 : decode jdk_65_method_121_code 15 = .ok (.newarray .byte, 2) := by decide +kernel
theorem d12_17 : decode jdk_65_method_121_code 17 = .ok (.astore_n 2, 1) := by decide +kernel
theorem d12_18 : decode jdk_65_method_121_code 18 = .ok (.aload_n 0, 1) := by decide +kernel
theorem d12_19 : decode jdk_65_method_121_code 19 = .ok (.iconst 0, 1) := by decide +kernel
theorem d12_20 : decode jdk_65_method_121_code 20 = .ok (.aload_n 2, 1) := by decide +kernel
theorem d12_21 : decode jdk_65_method_121_code 21 = .ok (.iconst 0, 1) := by decide +kernel
theorem d12_22 : decode jdk_65_method_121_code 22 = .ok (.aload_n 0, 1) := by decide +kernel
theorem d12_23 : decode jdk_65_method_121_code 23 = .ok (.arraylength, 1) := by decide +kernel
theorem d12_24 : decode jdk_65_method_121_code 24 = .ok (.iload_n 1, 1) := by decide +kernel
theorem d12_25 : decode jdk_65_method_121_code 25 = .ok (.invokestatic 304, 3) := by decide +kernel
theorem d12_28 : decode jdk_65_method_121_code 28 = .ok (.invokestatic 150, 3) := by decide +kernel
theorem d12_31 : decode jdk_65_method_121_code 31 = .ok (.aload_n 2, 1) := by decide +kernel
theorem d12_32 : decode jdk_65_method_121_code 32 = .ok (.areturn, 1) := by decide +kernel
theorem pn_java_util_Arrays : plainName "java/util/Arrays" = true := by first | (simp [plainName, overriddenIn]; done) | decide +kernel
theorem pd__II_I : parseMethodDescriptor "(II)I" = some ⟨[.int, .int], some .int⟩ := by decide +kernel
theorem ef_12 (r0 : Addr) (p1 : Int32) (kb : ClassId) (m : MethodId) : entryFrame m #[(.ref r0), (.int p1)] 3 = mkF m 0 #[.val (.ref r0), .val (.int p1), .unset] [] := by first | (simp [entryFrame, mkF, argsToLocals, Value.category]; done) | rfl
def Q12 (Z : State) (r0 : Addr) (p1 : Int32) (kb : ClassId) (h0 : Heap) (n0 : Nat) (v : Option Value) (h : Heap) (L : List Loc) : Prop := ∃ b : Addr, v = some (.ref b) ∧ Fr n0 L ∧ Keep h0 h [] ∧ h0.size ≤ b
set_option maxRecDepth 65536 in
set_option maxHeartbeats 40000000 in
theorem rm12 (l : Launch) (Z : State) (a0 : Array Value) (hw : ∀ d ∈ tables_1, d.before a0 Z = true) (ws : List Jvm.Cond) (r0 : Addr) (p1 : Int32) (kb : ClassId) (h0 : Heap) (n0 : Nat) (Z0 : n0 ≤ h0.size) (V_b : Arv Z h0 r0 kb .byte (0 : Int32) [] (.int (0 : Int32))) (h0p : (0 : Int32) < p1) (h4p : ¬ ((4096 : Int32) < p1)) :
    MetFree l (⟨"java/util/Arrays", "copyOf", "([BI)[B"⟩ : MethodName) (head1 (Jvm.Cond.code (⟨"java/util/Arrays", "copyOf", "([BI)[B"⟩ : MethodName) jdk_65_method_121_code 3 (some (.array .byte)) :: ws) ({ frames := 1, cells := 1, slots := 4096, locals := 40 } : Room)) (fun a U => a = #[(.ref r0), (.int p1)] ∧ Z.Warmed39 U.vm ∧ U.heap = h0) (fun _ _ _ _ _ => True) (fun _ U o U' => ∃ v L, o = .returned v ∧ Q12 Z r0 p1 kb h0 n0 v U'.heap L ∧ FrameEnd U o U' L ({ frames := 1, cells := 1, slots := 4096, locals := 40 } : Room).cells ({ frames := 1, cells := 1, slots := 4096, locals := 40 } : Room).slots) := by
  refine MetFree.of_bodySF (plainFor_of_name pn_java_util_Arrays) hisR ?_
  intro p e s m args below meth c s₁ Bd hml0 hP hK
  obtain ⟨rfl, hZ, hh⟩ := hP
  have hx := Bd.exec
  have hby := Bd.bytes
  have hml : c.maxLocals = 3 := hml0
  have hown : s.vm.findClass "java/util/Arrays" = some m.cls := findClass_of_methodNamed Bd.named
  have hnm := (name_of_methodNamed Bd.named Bd.method).1
  have X0 : Stand p l e ({ frames := 1, cells := 1, slots := 4096, locals := 40 } : Room) s m #[(.ref r0), (.int p1)] below meth c s₁ [] 0 0 := Stand.of_body Bd
  have e0 : s₁.heap = h0 := by rw [← hh, Bd.state]; rfl
  have N0 := Fr.nil n0
  have pre0 : ∀ t, Steps p.tables e below (s₁.setTop (mkF m 0 #[.val (.ref r0), .val (.int p1), .unset] [])) t → Steps p.tables e below (s₁.setTop (entryFrame m #[(.ref r0), (.int p1)] 3)) t := fun t k => castTop (ef_12 r0 p1 kb m) k
  obtain ⟨cl1, Ar1, -, S1, Nl1, -, -⟩ := id V_b
  obtain ⟨T2, h2, k2, X2, e2, E2, A2, st2⟩ := newP X0 hx hZ (hw _ (List.mem_of_getElem? (i := 15) rfl)) e0 (g := (mkF m 15 #[.val (.ref r0), .val (.int p1), .unset] [(.int p1)])) rfl (hb hby d12_15) rfl (own_asym h0p) (cap := 4096) (own_cap h4p) (by decide) (by decide) (by decide)
  obtain ⟨b2, g2⟩ : ∃ z, z = h0.size := ⟨_, rfl⟩
  rw [← g2] at A2 st2
  have ne3 : r0 ≠ b2 := Nat.ne_of_lt (Nat.lt_of_lt_of_le V_b.lt (Nat.le_of_eq g2.symm))
  have g_b2 : n0 ≤ b2 := Nat.le_trans Z0 (Nat.le_of_eq g2.symm)
  have sz_b2 : h0.size ≤ b2 := Nat.le_trans (Keep.refl h0 []).1 (Nat.le_of_eq g2.symm)
  have V_b2 : Arv Z h2 b2 k2 .byte p1 [] (.int (0 : Int32)) := Arv.new A2 (own_asym h0p)
  have K2 : Keep h0 h2 [] := (Keep.refl h0 []).ext E2
  obtain ⟨cl4, Ar4, -, S4, Nl4, -, -⟩ := id (V_b.ext E2)
  obtain ⟨_, _, ⟨T5, L5, k5, n5⟩, -, X5, ⟨Lc5, hQ5, ll5, ly5, lz5⟩, st5⟩ := Jvm.LawKit.callS X2 hx (y := (⟨"java/lang/Math", "min", "(II)I"⟩ : MethodName)) hown (mvT hZ (hw _ (List.mem_of_getElem? (i := 97) rfl))) (mvT hZ (hw _ (List.mem_of_getElem? (i := 98) rfl))) (mvT hZ (hw _ (List.mem_of_getElem? (i := 91) rfl))) (mvT hZ (hw _ (List.mem_of_getElem? (i := 99) rfl))) (by decide) (backOf (W := 4) (rm13 l Z a0 hw [] (0 : Int32) p1 h2 n0 (Nat.le_trans Z0 E2.1) ) hZ (hw _ (List.mem_of_getElem? (i := 99) rfl)) (hw _ (List.mem_of_getElem? (i := 91) rfl)) (by decide) (by decide)) (g := (mkF m 25 #[.val (.ref r0), .val (.int p1), .val (.ref b2)] [(.int p1), (.int (0 : Int32)), (.int (0 : Int32)), (.ref b2), (.int (0 : Int32)), (.ref r0)])) rfl (by rw [hml]; rfl) (argsL := [(.int (0 : Int32)), (.int p1)]) (rest := [(.int (0 : Int32)), (.ref b2), (.int (0 : Int32)), (.ref r0)]) (lenOf pd__II_I rfl) rfl (by show 2 * 0 + _ ≤ _; exact Nat.le_of_eq rfl) (hb hby d12_25) (fun _ _ => ⟨rfl, e2, (by decide : 1 + 0 ≤ _), (by decide : 4096 + 0 ≤ _)⟩)
  dsimp only [Pt.U, Pt.locs, Pt.cells, Pt.slots] at X5 ll5 ly5 lz5 st5 hQ5
  subst ll5 ly5 lz5
  obtain ⟨rfl, N5q, e5⟩ := hQ5
  have N5 := Fr.app N0 N5q
  have pre6 : ∀ t, Steps p.tables e below (T5.setTop (mkF m 28 #[.val (.ref r0), .val (.int p1), .val (.ref b2)] [(.int (F13 (0 : Int32) p1)), (.int (0 : Int32)), (.ref b2), (.int (0 : Int32)), (.ref r0)])) t → Steps p.tables e below (s₁.setTop (entryFrame m #[(.ref r0), (.int p1)] 3)) t := fun t kt => pre0 t (by
    show Steps p.tables e below (s₁.setTop (mkF m 0 #[.val (.ref r0), .val (.int p1), .unset] [])) _
    refine XS.iloadN X0.here hx rfl (hb hby d12_0) rfl ?_
    show Steps p.tables e below (s₁.setTop (mkF m 1 #[.val (.ref r0), .val (.int p1), .unset] [(.int p1)])) _
    refine XS.aloadN X0.here hx rfl (hb hby d12_1) rfl rfl ?_
    show Steps p.tables e below (s₁.setTop (mkF m 2 #[.val (.ref r0), .val (.int p1), .unset] [(.ref r0), (.int p1)])) _
    refine X0.arraylength hx (by rw [e0]; exact Ar1.1) (State.isArrayOf_alike hZ.alike Ar1.2.1) (g := (mkF m 2 #[.val (.ref r0), .val (.int p1), .unset] [(.ref r0), (.int p1)])) rfl rfl (hb hby d12_2) _ ?_
    rw [len_of S1 Nl1]
    show Steps p.tables e below (s₁.setTop (mkF m 3 #[.val (.ref r0), .val (.int p1), .unset] [(.int (0 : Int32)), (.int p1)])) _
    refine XS.icmpYes X0.here hx rfl (pc0 := 3) (pc' := 14) rfl (hb hby d12_3) rfl (feq (own_ne0 h0p)).2 (by decide) (by decide) ?_
    show Steps p.tables e below (s₁.setTop (mkF m 14 #[.val (.ref r0), .val (.int p1), .unset] [])) _
    refine XS.iloadN X0.here hx rfl (hb hby d12_14) rfl ?_
    show Steps p.tables e below (s₁.setTop (mkF m 15 #[.val (.ref r0), .val (.int p1), .unset] [(.int p1)])) _
    refine st2 _ ?_
    show Steps p.tables e below (T2.setTop (mkF m 17 #[.val (.ref r0), .val (.int p1), .unset] [(.ref b2)])) _
    refine XS.astoreN X2.here hx rfl (hb hby d12_17) rfl rfl (l' := #[.val (.ref r0), .val (.int p1), .val (.ref b2)]) rfl ?_
    show Steps p.tables e below (T2.setTop (mkF m 18 #[.val (.ref r0), .val (.int p1), .val (.ref b2)] [])) _
    refine XS.aloadN X2.here hx rfl (hb hby d12_18) rfl rfl ?_
    show Steps p.tables e below (T2.setTop (mkF m 19 #[.val (.ref r0), .val (.int p1), .val (.ref b2)] [(.ref r0)])) _
    refine XS.iconst X2.here hx rfl (hb hby d12_19) ?_
    show Steps p.tables e below (T2.setTop (mkF m 20 #[.val (.ref r0), .val (.int p1), .val (.ref b2)] [(.int (0 : Int32)), (.ref r0)])) _
    refine XS.aloadN X2.here hx rfl (hb hby d12_20) rfl rfl ?_
    show Steps p.tables e below (T2.setTop (mkF m 21 #[.val (.ref r0), .val (.int p1), .val (.ref b2)] [(.ref b2), (.int (0 : Int32)), (.ref r0)])) _
    refine XS.iconst X2.here hx rfl (hb hby d12_21) ?_
    show Steps p.tables e below (T2.setTop (mkF m 22 #[.val (.ref r0), .val (.int p1), .val (.ref b2)] [(.int (0 : Int32)), (.ref b2), (.int (0 : Int32)), (.ref r0)])) _
    refine XS.aloadN X2.here hx rfl (hb hby d12_22) rfl rfl ?_
    show Steps p.tables e below (T2.setTop (mkF m 23 #[.val (.ref r0), .val (.int p1), .val (.ref b2)] [(.ref r0), (.int (0 : Int32)), (.ref b2), (.int (0 : Int32)), (.ref r0)])) _
    refine X2.arraylength hx (by rw [e2]; exact Ar4.1) (State.isArrayOf_alike hZ.alike Ar4.2.1) (g := (mkF m 23 #[.val (.ref r0), .val (.int p1), .val (.ref b2)] [(.ref r0), (.int (0 : Int32)), (.ref b2), (.int (0 : Int32)), (.ref r0)])) rfl rfl (hb hby d12_23) _ ?_
    rw [len_of S4 Nl4]
    show Steps p.tables e below (T2.setTop (mkF m 24 #[.val (.ref r0), .val (.int p1), .val (.ref b2)] [(.int (0 : Int32)), (.int (0 : Int32)), (.ref b2), (.int (0 : Int32)), (.ref r0)])) _
    refine XS.iloadN X2.here hx rfl (hb hby d12_24) rfl ?_
    show Steps p.tables e below (T2.setTop (mkF m 25 #[.val (.ref r0), .val (.int p1), .val (.ref b2)] [(.int p1), (.int (0 : Int32)), (.int (0 : Int32)), (.ref b2), (.int (0 : Int32)), (.ref r0)])) _
    refine st5 _ ?_
    exact kt)
  have qr7 : (F13 (0 : Int32) p1) = (0 : Int32) := own_min0 h0p
  have pre8 : ∀ t, Steps p.tables e below (T5.setTop (mkF m 28 #[.val (.ref r0), .val (.int p1), .val (.ref b2)] [(.int (0 : Int32)), (.int (0 : Int32)), (.ref b2), (.int (0 : Int32)), (.ref r0)])) t → Steps p.tables e below (s₁.setTop (entryFrame m #[(.ref r0), (.int p1)] 3)) t := fun t kt => pre6 t (by rw [qr7]; exact kt)
  obtain ⟨T9, h9, L9, X9, e9, N9, K9c, V9, st9⟩ := cpA (us := []) X5 hx hZ hown (hw _ (List.mem_of_getElem? (i := 100) rfl)) (hw _ (List.mem_of_getElem? (i := 103) rfl)) (hw _ (List.mem_of_getElem? (i := 101) rfl)) (hw _ (List.mem_of_getElem? (i := 102) rfl)) e5 (V_b.ext E2) V_b2 (Or.inl ⟨rfl, rfl⟩) (by decide) (by decide) (by decide) (by decide) (Nat.zero_le _) rfl (by decide) N5 g_b2 (g := (mkF m 28 #[.val (.ref r0), .val (.int p1), .val (.ref b2)] [(.int (0 : Int32)), (.int (0 : Int32)), (.ref b2), (.int (0 : Int32)), (.ref r0)])) rfl (by rw [hml]; rfl) rfl (hb hby d12_28) (by decide) (W := 0) (by show 2 * 0 + _ ≤ _; exact Nat.le_of_eq rfl) (by decide)
  have K9 : Keep h0 h9 [] := K2.trans K9c (allS (Or.inr sz_b2) all0)
  obtain ⟨fs, hr, hrun, hended, hW, hsame⟩ := X9.leave (v := some (.ref b2)) (fun h => by rw [Bd.returns] at h; cases h)
  refine ⟨_, _, pre8 _ ?_, hrun, hended, _, _, rfl, ?_, ⟨_, rfl⟩, hW, hsame.mono (by decide) (by decide)⟩
  · show Steps p.tables e below (T5.setTop (mkF m 28 #[.val (.ref r0), .val (.int p1), .val (.ref b2)] [(.int (0 : Int32)), (.int (0 : Int32)), (.ref b2), (.int (0 : Int32)), (.ref r0)])) _
    refine st9 _ ?_
    show Steps p.tables e below (T9.setTop (mkF m 31 #[.val (.ref r0), .val (.int p1), .val (.ref b2)] [])) _
    refine XS.aloadN X9.here hx rfl (hb hby d12_31) rfl rfl ?_
    show Steps p.tables e below (T9.setTop (mkF m 32 #[.val (.ref r0), .val (.int p1), .val (.ref b2)] [(.ref b2)])) _
    exact retOut X9 hx Bd.returns rfl (Or.inr (Or.inr (Or.inr (Or.inr ⟨rfl, rfl, rfl⟩)))) (hb hby d12_32) hr
  · show Q12 Z r0 p1 kb h0 n0 _ T9.heap _
    rw [e9]
    exact ⟨b2, rfl, N9, K9, sz_b2⟩
theorem own_minz (mx : Int32) : ¬ ((0 : Int32) < (F11 (0 : Int64) (mx.toInt64)).toInt32) := by
  unfold F11
  have h := rng32 mx
  have e : (mx.toInt64).toInt = mx.toInt := Int32.toInt_toInt64 mx
  split
  · rename_i g
    rw [lw_gt, Int64.lt_iff_toInt_lt] at g
    have e0 : (0 : Int64).toInt = 0 := by decide
    rw [Int32.lt_iff_toInt_lt]
    have r : mx.toInt64.toInt32 = mx := by simp
    have z : (0 : Int32).toInt = 0 := by decide
    rw [r]; omega
  · decide
theorem own_minm (mx : Int32) : ¬ ((4096 : Int32) < (F11 (4096 : Int64) (mx.toInt64)).toInt32) := by
  unfold F11
  have e : (mx.toInt64).toInt = mx.toInt := Int32.toInt_toInt64 mx
  split
  · rename_i g
    rw [lw_gt, Int64.lt_iff_toInt_lt] at g
    have e0 : (4096 : Int64).toInt = 4096 := by decide
    rw [Int32.lt_iff_toInt_lt]
    have r : mx.toInt64.toInt32 = mx := by simp
    have z : (4096 : Int32).toInt = 4096 := by decide
    rw [r]; omega
  · decide
def J6z_4_S0 (r0 : Addr) (sS ab : Addr) (mx dr lb tr bb : Int32) (lf : Int64) (kb : ClassId) : Int32 := (if dr = (0 : Int32) then ((F11 (0 : Int64) (mx.toInt64)).toInt32) else (0 : Int32))
theorem own_rz (r0 : Addr) (sS ab : Addr) (mx dr lb tr bb : Int32) (lf : Int64) (kb : ClassId) : ¬ ((0 : Int32) < J6z_4_S0 r0 sS ab mx dr lb tr bb lf kb) := by
  unfold J6z_4_S0
  split
  · exact own_minz mx
  · decide
theorem d6_0 : decode prog_8_method_24_code 0 = .ok (.aload_n 0, 1) := by decide +kernel
theorem d6_1 : decode prog_8_method_24_code 1 = .ok (.getfield 157, 3) := by decide +kernel
theorem d6_4 : decode prog_8_method_24_code 4 = .ok (.ifCond .eq 7, 3) := by decide +kernel
theorem d6_7 : decode prog_8_method_24_code 7 = .ok (.iconst 0, 1) := by decide +kernel
theorem d6_8 : decode prog_8_method_24_code 8 = .ok (.goto 13, 3) := by decide +kernel
theorem d6_11 : decode prog_8_method_24_code 11 = .ok (.lload_n 1, 1) := by decide +kernel
theorem d6_12 : decode prog_8_method_24_code 12 = .ok (.aload_n 0, 1) := by decide +kernel
theorem d6_13 : decode prog_8_method_24_code 13 = .ok (.getfield 25, 3) := by decide +kernel
theorem d6_16 : decode prog_8_method_24_code 16 = .ok (.i2l, 1) := by decide +kernel
theorem d6_17 : decode prog_8_method_24_code 17 = .ok (.invokestatic 311, 3) := by decide +kernel
theorem d6_20 : decode prog_8_method_24_code 20 = .ok (.l2i, 1) := by decide +kernel
theorem d6_21 : decode prog_8_method_24_code 21 = .ok (.istore_n 3, 1) := by decide +kernel
theorem d6_22 : decode prog_8_method_24_code 22 = .ok (.iload_n 3, 1) := by decide +kernel
theorem d6_23 : decode prog_8_method_24_code 23 = .ok (.aload_n 0, 1) := by decide +kernel
theorem d6_24 : decode prog_8_method_24_code 24 = .ok (.getfield 22, 3) := by decide +kernel
theorem d6_27 : decode prog_8_method_24_code 27 = .ok (.arraylength, 1) := by decide +kernel
theorem d6_28 : decode prog_8_method_24_code 28 = .ok (.if_icmp .le 15, 3) := by decide +kernel
theorem d6_43 : decode prog_8_method_24_code 43 = .ok (.return_, 1) := by decide +kernel
theorem pd__JJ_J : parseMethodDescriptor "(JJ)J" = some ⟨[.long, .long], some .long⟩ := by decide +kernel
theorem ef_6z (r0 : Addr) (sS ab : Addr) (mx dr lb tr bb : Int32) (lf : Int64) (kb : ClassId) (m : MethodId) : entryFrame m #[(.ref r0), (.long (0 : Int64))] 4 = mkF m 0 #[.val (.ref r0), .val (.long (0 : Int64)), .second, .unset] [] := by first | (simp [entryFrame, mkF, argsToLocals, Value.category]; done) | rfl
def Q6z (Z : State) (r0 : Addr) (sS ab : Addr) (mx dr lb tr bb : Int32) (lf : Int64) (kb : ClassId) (h0 : Heap) (n0 : Nat) (v : Option Value) (h : Heap) (L : List Loc) : Prop := v = none ∧ Fr n0 L ∧ Keep h0 h [r0] ∧ Exa Z h r0 "com/example/admission_for_endpoints/admissionforendpoints/MessageReader" ∧ Fld Z h r0 "com/example/admission_for_endpoints/admissionforendpoints/MessageReader" "stage" "Lcom/example/admission_for_endpoints/admissionforendpoints/MessageReader$Stage;" (.ref sS) ∧ Fld Z h r0 "com/example/admission_for_endpoints/admissionforendpoints/MessageReader" "maxBodyBytes" "I" (.int mx) ∧ Fld Z h r0 "com/example/admission_for_endpoints/admissionforendpoints/MessageReader" "dropping" "Z" (.int dr) ∧ Fld Z h r0 "com/example/admission_for_endpoints/admissionforendpoints/MessageReader" "lineBytes" "I" (.int lb) ∧ Fld Z h r0 "com/example/admission_for_endpoints/admissionforendpoints/MessageReader" "truncated" "Z" (.int tr) ∧ Fld Z h r0 "com/example/admission_for_endpoints/admissionforendpoints/MessageReader" "bodyBytes" "I" (.int bb) ∧ Fld Z h r0 "com/example/admission_for_endpoints/admissionforendpoints/MessageReader" "left" "J" (.long lf)
set_option maxRecDepth 65536 in
set_option maxHeartbeats 40000000 in
theorem rm6z (l : Launch) (Z : State) (a0 : Array Value) (hw : ∀ d ∈ tables_1, d.before a0 Z = true) (ws : List Jvm.Cond) (r0 : Addr) (sS ab : Addr) (mx dr lb tr bb : Int32) (lf : Int64) (kb : ClassId) (h0 : Heap) (n0 : Nat) (Z0 : n0 ≤ h0.size) (E_r : Exa Z h0 r0 "com/example/admission_for_endpoints/admissionforendpoints/MessageReader") (F_stage : Fld Z h0 r0 "com/example/admission_for_endpoints/admissionforendpoints/MessageReader" "stage" "Lcom/example/admission_for_endpoints/admissionforendpoints/MessageReader$Stage;" (.ref sS)) (F_body : Fld Z h0 r0 "com/example/admission_for_endpoints/admissionforendpoints/MessageReader" "body" "[B" (.ref ab)) (F_maxBodyBytes : Fld Z h0 r0 "com/example/admission_for_endpoints/admissionforendpoints/MessageReader" "maxBodyBytes" "I" (.int mx)) (F_dropping : Fld Z h0 r0 "com/example/admission_for_endpoints/admissionforendpoints/MessageReader" "dropping" "Z" (.int dr)) (F_lineBytes : Fld Z h0 r0 "com/example/admission_for_endpoints/admissionforendpoints/MessageReader" "lineBytes" "I" (.int lb)) (F_truncated : Fld Z h0 r0 "com/example/admission_for_endpoints/admissionforendpoints/MessageReader" "truncated" "Z" (.int tr)) (F_bodyBytes : Fld Z h0 r0 "com/example/admission_for_endpoints/admissionforendpoints/MessageReader" "bodyBytes" "I" (.int bb)) (F_left : Fld Z h0 r0 "com/example/admission_for_endpoints/admissionforendpoints/MessageReader" "left" "J" (.long lf)) (V_b : Arv Z h0 ab kb .byte (0 : Int32) [] (.int (0 : Int32))) (g_r0 : n0 ≤ r0) (ne_ab : ab ≠ r0) :
    MetFree l (⟨"com/example/admission_for_endpoints/admissionforendpoints/MessageReader", "makeRoom", "(J)V"⟩ : MethodName) (head1 (Jvm.Cond.code (⟨"com/example/admission_for_endpoints/admissionforendpoints/MessageReader", "makeRoom", "(J)V"⟩ : MethodName) prog_8_method_24_code 4 none :: ws) ({ frames := 1, cells := 0, slots := 0, locals := 15 } : Room)) (fun a U => a = #[(.ref r0), (.long (0 : Int64))] ∧ Z.Warmed39 U.vm ∧ U.heap = h0) (fun _ _ _ _ _ => True) (fun _ U o U' => ∃ v L, o = .returned v ∧ Q6z Z r0 sS ab mx dr lb tr bb lf kb h0 n0 v U'.heap L ∧ FrameEnd U o U' L ({ frames := 1, cells := 0, slots := 0, locals := 15 } : Room).cells ({ frames := 1, cells := 0, slots := 0, locals := 15 } : Room).slots) := by
  refine MetFree.of_bodySF (plainFor_of_name pn_com_example_admission_for_endpoints_admissionforendpoints_MessageReader) hisR ?_
  intro p e s m args below meth c s₁ Bd hml0 hP hK
  obtain ⟨rfl, hZ, hh⟩ := hP
  have hx := Bd.exec
  have hby := Bd.bytes
  have hml : c.maxLocals = 4 := hml0
  have hown : s.vm.findClass "com/example/admission_for_endpoints/admissionforendpoints/MessageReader" = some m.cls := findClass_of_methodNamed Bd.named
  have hnm := (name_of_methodNamed Bd.named Bd.method).1
  have X0 : Stand p l e ({ frames := 1, cells := 0, slots := 0, locals := 15 } : Room) s m #[(.ref r0), (.long (0 : Int64))] below meth c s₁ [] 0 0 := Stand.of_body Bd
  have e0 : s₁.heap = h0 := by rw [← hh, Bd.state]; rfl
  have N0 := Fr.nil n0
  have pre0 : ∀ t, Steps p.tables e below (s₁.setTop (mkF m 0 #[.val (.ref r0), .val (.long (0 : Int64)), .second, .unset] [])) t → Steps p.tables e below (s₁.setTop (entryFrame m #[(.ref r0), (.long (0 : Int64))] 4)) t := fun t k => castTop (ef_6z r0 sS ab mx dr lb tr bb lf kb m) k
  obtain ⟨T1, X1, e1, st1⟩ := getF X0 hx hZ hown (host := "") (Or.inl (hw _ (List.mem_of_getElem? (i := 29) rfl))) Via.refl e0 F_dropping (g := (mkF m 1 #[.val (.ref r0), .val (.long (0 : Int64)), .second, .unset] [(.ref r0)])) rfl rfl (hb hby d6_1)
  have pre2 : ∀ t, Steps p.tables e below (T1.setTop (mkF m 4 #[.val (.ref r0), .val (.long (0 : Int64)), .second, .unset] [(.int dr)])) t → Steps p.tables e below (s₁.setTop (entryFrame m #[(.ref r0), (.long (0 : Int64))] 4)) t := fun t kt => pre0 t (by
    show Steps p.tables e below (s₁.setTop (mkF m 0 #[.val (.ref r0), .val (.long (0 : Int64)), .second, .unset] [])) _
    refine XS.aloadN X0.here hx rfl (hb hby d6_0) rfl rfl ?_
    show Steps p.tables e below (s₁.setTop (mkF m 1 #[.val (.ref r0), .val (.long (0 : Int64)), .second, .unset] [(.ref r0)])) _
    refine st1 _ ?_
    exact kt)
  obtain ⟨Tj5, lj5, Xj5, Nj5, ej5, pre5⟩ : ∃ (T' : State) (locs' : List Loc), Stand p l e ({ frames := 1, cells := 0, slots := 0, locals := 15 } : Room) s m #[(.ref r0), (.long (0 : Int64))] below meth c T' locs' 0 0 ∧ Fr n0 locs' ∧ T'.heap = h0 ∧ ∀ t, Steps p.tables e below (T'.setTop (mkF m 21 #[.val (.ref r0), .val (.long (0 : Int64)), .second, .unset] [(.int (J6z_4_S0 r0 sS ab mx dr lb tr bb lf kb))])) t → Steps p.tables e below (s₁.setTop (entryFrame m #[(.ref r0), (.long (0 : Int64))] 4)) t := by
    by_cases hc4 : dr = (0 : Int32)
    · obtain ⟨T3, X3, e3, st3⟩ := getF X1 hx hZ hown (host := "") (Or.inl (hw _ (List.mem_of_getElem? (i := 20) rfl))) Via.refl e1 F_maxBodyBytes (g := (mkF m 13 #[.val (.ref r0), .val (.long (0 : Int64)), .second, .unset] [(.ref r0), (.long (0 : Int64))])) rfl rfl (hb hby d6_13)
      obtain ⟨_, _, ⟨T4, L4, k4, n4⟩, -, X4, ⟨Lc4, hQ4, ll4, ly4, lz4⟩, st4⟩ := Jvm.LawKit.callS X3 hx (y := (⟨"java/lang/Math", "min", "(JJ)J"⟩ : MethodName)) hown (mvT hZ (hw _ (List.mem_of_getElem? (i := 89) rfl))) (mvT hZ (hw _ (List.mem_of_getElem? (i := 90) rfl))) (mvT hZ (hw _ (List.mem_of_getElem? (i := 91) rfl))) (mvT hZ (hw _ (List.mem_of_getElem? (i := 92) rfl))) (by decide) (backOf (W := 0) (rm11 l Z a0 hw [] (0 : Int64) (mx.toInt64) h0 n0 Z0 ) hZ (hw _ (List.mem_of_getElem? (i := 92) rfl)) (hw _ (List.mem_of_getElem? (i := 91) rfl)) (by decide) (by decide)) (g := (mkF m 17 #[.val (.ref r0), .val (.long (0 : Int64)), .second, .unset] [(.long (mx.toInt64)), (.long (0 : Int64))])) rfl (by rw [hml]; rfl) (argsL := [(.long (0 : Int64)), (.long (mx.toInt64))]) (rest := []) (lenOf pd__JJ_J rfl) rfl (by show 2 * 0 + _ ≤ _; exact Nat.le_of_eq rfl) (hb hby d6_17) (fun _ _ => ⟨rfl, e3, (by decide : 0 + 0 ≤ _), (by decide : 0 + 0 ≤ _)⟩)
      dsimp only [Pt.U, Pt.locs, Pt.cells, Pt.slots] at X4 ll4 ly4 lz4 st4 hQ4
      subst ll4 ly4 lz4
      obtain ⟨rfl, N4q, e4⟩ := hQ4
      have N4 := Fr.app N0 N4q
      refine ⟨T4, _, X4, N4, e4, fun t kt => pre2 t ?_⟩
      show Steps p.tables e below (T1.setTop (mkF m 4 #[.val (.ref r0), .val (.long (0 : Int64)), .second, .unset] [(.int dr)])) _
      refine XS.ifYes X1.here hx rfl (pc0 := 4) (pc' := 11) rfl (hb hby d6_4) rfl ((if0 _ _).trans (teq hc4).1) (by decide) (by decide) ?_
      show Steps p.tables e below (T1.setTop (mkF m 11 #[.val (.ref r0), .val (.long (0 : Int64)), .second, .unset] [])) _
      refine XS.lloadN X1.here hx rfl (hb hby d6_11) rfl ?_
      show Steps p.tables e below (T1.setTop (mkF m 12 #[.val (.ref r0), .val (.long (0 : Int64)), .second, .unset] [(.long (0 : Int64))])) _
      refine XS.aloadN X1.here hx rfl (hb hby d6_12) rfl rfl ?_
      show Steps p.tables e below (T1.setTop (mkF m 13 #[.val (.ref r0), .val (.long (0 : Int64)), .second, .unset] [(.ref r0), (.long (0 : Int64))])) _
      refine st3 _ ?_
      show Steps p.tables e below (T3.setTop (mkF m 16 #[.val (.ref r0), .val (.long (0 : Int64)), .second, .unset] [(.int mx), (.long (0 : Int64))])) _
      refine XS.i2l X3.here hx rfl (hb hby d6_16) rfl ?_
      show Steps p.tables e below (T3.setTop (mkF m 17 #[.val (.ref r0), .val (.long (0 : Int64)), .second, .unset] [(.long (mx.toInt64)), (.long (0 : Int64))])) _
      refine st4 _ ?_
      show Steps p.tables e below (T4.setTop (mkF m 20 #[.val (.ref r0), .val (.long (0 : Int64)), .second, .unset] [(.long (F11 (0 : Int64) (mx.toInt64)))])) _
      refine XS.l2i X4.here hx rfl (hb hby d6_20) rfl ?_
      show Steps p.tables e below (T4.setTop (mkF m 21 #[.val (.ref r0), .val (.long (0 : Int64)), .second, .unset] [(.int ((F11 (0 : Int64) (mx.toInt64)).toInt32))])) _
      have qjS0 : (J6z_4_S0 r0 sS ab mx dr lb tr bb lf kb) = ((F11 (0 : Int64) (mx.toInt64)).toInt32) := by unfold J6z_4_S0; simp only [if_true, if_false, if_pos hc4]
      rw [qjS0] at kt
      exact kt
    · refine ⟨T1, _, X1, N0, e1, fun t kt => pre2 t ?_⟩
      show Steps p.tables e below (T1.setTop (mkF m 4 #[.val (.ref r0), .val (.long (0 : Int64)), .second, .unset] [(.int dr)])) _
      refine XS.ifNo X1.here hx rfl (hb hby d6_4) rfl ((if0 _ _).trans (feq hc4).1) ?_
      show Steps p.tables e below (T1.setTop (mkF m 7 #[.val (.ref r0), .val (.long (0 : Int64)), .second, .unset] [])) _
      refine XS.iconst X1.here hx rfl (hb hby d6_7) ?_
      show Steps p.tables e below (T1.setTop (mkF m 8 #[.val (.ref r0), .val (.long (0 : Int64)), .second, .unset] [(.int (0 : Int32))])) _
      refine XS.goto X1.here hx rfl (pc0 := 8) (pc' := 21) rfl (hb hby d6_8) (by decide) (by decide) ?_
      show Steps p.tables e below (T1.setTop (mkF m 21 #[.val (.ref r0), .val (.long (0 : Int64)), .second, .unset] [(.int (0 : Int32))])) _
      have qjS0 : (J6z_4_S0 r0 sS ab mx dr lb tr bb lf kb) = (0 : Int32) := by unfold J6z_4_S0; simp only [if_true, if_false, if_neg hc4]
      rw [qjS0] at kt
      exact kt
  obtain ⟨T6, X6, e6, st6⟩ := getF Xj5 hx hZ hown (host := "") (Or.inl (hw _ (List.mem_of_getElem? (i := 18) rfl))) Via.refl ej5 F_body (g := (mkF m 24 #[.val (.ref r0), .val (.long (0 : Int64)), .second, .val (.int (J6z_4_S0 r0 sS ab mx dr lb tr bb lf kb))] [(.ref r0), (.int (J6z_4_S0 r0 sS ab mx dr lb tr bb lf kb))])) rfl rfl (hb hby d6_24)
  obtain ⟨cl7, Ar7, -, S7, Nl7, -, -⟩ := id V_b
  obtain ⟨fs, hr, hrun, hended, hW, hsame⟩ := X6.leave (v := none) (fun _ => rfl)
  refine ⟨_, _, pre5 _ ?_, hrun, hended, _, _, rfl, ?_, ⟨_, rfl⟩, hW, hsame.mono (by decide) (by decide)⟩
  · show Steps p.tables e below (Tj5.setTop (mkF m 21 #[.val (.ref r0), .val (.long (0 : Int64)), .second, .unset] [(.int (J6z_4_S0 r0 sS ab mx dr lb tr bb lf kb))])) _
    refine XS.istoreN Xj5.here hx rfl (hb hby d6_21) rfl (l' := #[.val (.ref r0), .val (.long (0 : Int64)), .second, .val (.int (J6z_4_S0 r0 sS ab mx dr lb tr bb lf kb))]) rfl ?_
    show Steps p.tables e below (Tj5.setTop (mkF m 22 #[.val (.ref r0), .val (.long (0 : Int64)), .second, .val (.int (J6z_4_S0 r0 sS ab mx dr lb tr bb lf kb))] [])) _
    refine XS.iloadN Xj5.here hx rfl (hb hby d6_22) rfl ?_
    show Steps p.tables e below (Tj5.setTop (mkF m 23 #[.val (.ref r0), .val (.long (0 : Int64)), .second, .val (.int (J6z_4_S0 r0 sS ab mx dr lb tr bb lf kb))] [(.int (J6z_4_S0 r0 sS ab mx dr lb tr bb lf kb))])) _
    refine XS.aloadN Xj5.here hx rfl (hb hby d6_23) rfl rfl ?_
    show Steps p.tables e below (Tj5.setTop (mkF m 24 #[.val (.ref r0), .val (.long (0 : Int64)), .second, .val (.int (J6z_4_S0 r0 sS ab mx dr lb tr bb lf kb))] [(.ref r0), (.int (J6z_4_S0 r0 sS ab mx dr lb tr bb lf kb))])) _
    refine st6 _ ?_
    show Steps p.tables e below (T6.setTop (mkF m 27 #[.val (.ref r0), .val (.long (0 : Int64)), .second, .val (.int (J6z_4_S0 r0 sS ab mx dr lb tr bb lf kb))] [(.ref ab), (.int (J6z_4_S0 r0 sS ab mx dr lb tr bb lf kb))])) _
    refine X6.arraylength hx (by rw [e6]; exact Ar7.1) (State.isArrayOf_alike hZ.alike Ar7.2.1) (g := (mkF m 27 #[.val (.ref r0), .val (.long (0 : Int64)), .second, .val (.int (J6z_4_S0 r0 sS ab mx dr lb tr bb lf kb))] [(.ref ab), (.int (J6z_4_S0 r0 sS ab mx dr lb tr bb lf kb))])) rfl rfl (hb hby d6_27) _ ?_
    rw [len_of S7 Nl7]
    show Steps p.tables e below (T6.setTop (mkF m 28 #[.val (.ref r0), .val (.long (0 : Int64)), .second, .val (.int (J6z_4_S0 r0 sS ab mx dr lb tr bb lf kb))] [(.int (0 : Int32)), (.int (J6z_4_S0 r0 sS ab mx dr lb tr bb lf kb))])) _
    refine XS.icmpYes X6.here hx rfl (pc0 := 28) (pc' := 43) rfl (hb hby d6_28) rfl (flt (own_rz r0 sS ab mx dr lb tr bb lf kb)).2.2.2 (by decide) (by decide) ?_
    show Steps p.tables e below (T6.setTop (mkF m 43 #[.val (.ref r0), .val (.long (0 : Int64)), .second, .val (.int (J6z_4_S0 r0 sS ab mx dr lb tr bb lf kb))] [])) _
    exact X6.returnOut hx Bd.returns (hb hby d6_43) hr
  · show Q6z Z r0 sS ab mx dr lb tr bb lf kb h0 n0 _ T6.heap _
    rw [e6]
    exact ⟨rfl, Nj5, (Keep.refl h0 [r0]), E_r, F_stage, F_maxBodyBytes, F_dropping, F_lineBytes, F_truncated, F_bodyBytes, F_left⟩
def J6m_4_S0 (r0 : Addr) (sS ab : Addr) (mx dr lb tr bb : Int32) (lf : Int64) (kb : ClassId) : Int32 := (if dr = (0 : Int32) then ((F11 (4096 : Int64) (mx.toInt64)).toInt32) else (0 : Int32))
theorem own_rm (r0 : Addr) (sS ab : Addr) (mx dr lb tr bb : Int32) (lf : Int64) (kb : ClassId) : ¬ ((4096 : Int32) < J6m_4_S0 r0 sS ab mx dr lb tr bb lf kb) := by
  unfold J6m_4_S0
  split
  · exact own_minm mx
  · decide
theorem d6_31 : decode prog_8_method_24_code 31 = .ok (.aload_n 0, 1) := by decide +kernel
theorem d6_32 : decode prog_8_method_24_code 32 = .ok (.aload_n 0, 1) := by decide +kernel
theorem d6_33 : decode prog_8_method_24_code 33 = .ok (.getfield 22, 3) := by decide +kernel
theorem d6_36 : decode prog_8_method_24_code 36 = .ok (.iload_n 3, 1) := by decide +kernel
theorem d6_37 : decode prog_8_method_24_code 37 = .ok (.invokestatic 319, 3) := by decide +kernel
theorem d6_40 : decode prog_8_method_24_code 40 = .ok (.putfield 22, 3) := by decide +kernel
theorem pd___BI__B : parseMethodDescriptor "([BI)[B" = some ⟨[(.array .byte), .int], some (.array .byte)⟩ := by decide +kernel
theorem ef_6m (r0 : Addr) (sS ab : Addr) (mx dr lb tr bb : Int32) (lf : Int64) (kb : ClassId) (m : MethodId) : entryFrame m #[(.ref r0), (.long (4096 : Int64))] 4 = mkF m 0 #[.val (.ref r0), .val (.long (4096 : Int64)), .second, .unset] [] := by first | (simp [entryFrame, mkF, argsToLocals, Value.category]; done) | rfl
def Q6m (Z : State) (r0 : Addr) (sS ab : Addr) (mx dr lb tr bb : Int32) (lf : Int64) (kb : ClassId) (h0 : Heap) (n0 : Nat) (v : Option Value) (h : Heap) (L : List Loc) : Prop := v = none ∧ Fr n0 L ∧ Keep h0 h [r0] ∧ Exa Z h r0 "com/example/admission_for_endpoints/admissionforendpoints/MessageReader" ∧ Fld Z h r0 "com/example/admission_for_endpoints/admissionforendpoints/MessageReader" "stage" "Lcom/example/admission_for_endpoints/admissionforendpoints/MessageReader$Stage;" (.ref sS) ∧ Fld Z h r0 "com/example/admission_for_endpoints/admissionforendpoints/MessageReader" "maxBodyBytes" "I" (.int mx) ∧ Fld Z h r0 "com/example/admission_for_endpoints/admissionforendpoints/MessageReader" "dropping" "Z" (.int dr) ∧ Fld Z h r0 "com/example/admission_for_endpoints/admissionforendpoints/MessageReader" "lineBytes" "I" (.int lb) ∧ Fld Z h r0 "com/example/admission_for_endpoints/admissionforendpoints/MessageReader" "truncated" "Z" (.int tr) ∧ Fld Z h r0 "com/example/admission_for_endpoints/admissionforendpoints/MessageReader" "bodyBytes" "I" (.int bb) ∧ Fld Z h r0 "com/example/admission_for_endpoints/admissionforendpoints/MessageReader" "left" "J" (.long lf)
set_option maxRecDepth 65536 in
set_option maxHeartbeats 40000000 in
theorem rm6m (l : Launch) (Z : State) (a0 : Array Value) (hw : ∀ d ∈ tables_1, d.before a0 Z = true) (ws : List Jvm.Cond) (r0 : Addr) (sS ab : Addr) (mx dr lb tr bb : Int32) (lf : Int64) (kb : ClassId) (h0 : Heap) (n0 : Nat) (Z0 : n0 ≤ h0.size) (E_r : Exa Z h0 r0 "com/example/admission_for_endpoints/admissionforendpoints/MessageReader") (F_stage : Fld Z h0 r0 "com/example/admission_for_endpoints/admissionforendpoints/MessageReader" "stage" "Lcom/example/admission_for_endpoints/admissionforendpoints/MessageReader$Stage;" (.ref sS)) (F_body : Fld Z h0 r0 "com/example/admission_for_endpoints/admissionforendpoints/MessageReader" "body" "[B" (.ref ab)) (F_maxBodyBytes : Fld Z h0 r0 "com/example/admission_for_endpoints/admissionforendpoints/MessageReader" "maxBodyBytes" "I" (.int mx)) (F_dropping : Fld Z h0 r0 "com/example/admission_for_endpoints/admissionforendpoints/MessageReader" "dropping" "Z" (.int dr)) (F_lineBytes : Fld Z h0 r0 "com/example/admission_for_endpoints/admissionforendpoints/MessageReader" "lineBytes" "I" (.int lb)) (F_truncated : Fld Z h0 r0 "com/example/admission_for_endpoints/admissionforendpoints/MessageReader" "truncated" "Z" (.int tr)) (F_bodyBytes : Fld Z h0 r0 "com/example/admission_for_endpoints/admissionforendpoints/MessageReader" "bodyBytes" "I" (.int bb)) (F_left : Fld Z h0 r0 "com/example/admission_for_endpoints/admissionforendpoints/MessageReader" "left" "J" (.long lf)) (V_b : Arv Z h0 ab kb .byte (0 : Int32) [] (.int (0 : Int32))) (g_r0 : n0 ≤ r0) (ne_ab : ab ≠ r0) :
    MetFree l (⟨"com/example/admission_for_endpoints/admissionforendpoints/MessageReader", "makeRoom", "(J)V"⟩ : MethodName) (head1 (Jvm.Cond.code (⟨"com/example/admission_for_endpoints/admissionforendpoints/MessageReader", "makeRoom", "(J)V"⟩ : MethodName) prog_8_method_24_code 4 none :: ws) ({ frames := 2, cells := 1, slots := 4096, locals := 55 } : Room)) (fun a U => a = #[(.ref r0), (.long (4096 : Int64))] ∧ Z.Warmed39 U.vm ∧ U.heap = h0) (fun _ _ _ _ _ => True) (fun _ U o U' => ∃ v L, o = .returned v ∧ Q6m Z r0 sS ab mx dr lb tr bb lf kb h0 n0 v U'.heap L ∧ FrameEnd U o U' L ({ frames := 2, cells := 1, slots := 4096, locals := 55 } : Room).cells ({ frames := 2, cells := 1, slots := 4096, locals := 55 } : Room).slots) := by
  refine MetFree.of_bodySF (plainFor_of_name pn_com_example_admission_for_endpoints_admissionforendpoints_MessageReader) hisR ?_
  intro p e s m args below meth c s₁ Bd hml0 hP hK
  obtain ⟨rfl, hZ, hh⟩ := hP
  have hx := Bd.exec
  have hby := Bd.bytes
  have hml : c.maxLocals = 4 := hml0
  have hown : s.vm.findClass "com/example/admission_for_endpoints/admissionforendpoints/MessageReader" = some m.cls := findClass_of_methodNamed Bd.named
  have hnm := (name_of_methodNamed Bd.named Bd.method).1
  have X0 : Stand p l e ({ frames := 2, cells := 1, slots := 4096, locals := 55 } : Room) s m #[(.ref r0), (.long (4096 : Int64))] below meth c s₁ [] 0 0 := Stand.of_body Bd
  have e0 : s₁.heap = h0 := by rw [← hh, Bd.state]; rfl
  have N0 := Fr.nil n0
  have pre0 : ∀ t, Steps p.tables e below (s₁.setTop (mkF m 0 #[.val (.ref r0), .val (.long (4096 : Int64)), .second, .unset] [])) t → Steps p.tables e below (s₁.setTop (entryFrame m #[(.ref r0), (.long (4096 : Int64))] 4)) t := fun t k => castTop (ef_6m r0 sS ab mx dr lb tr bb lf kb m) k
  obtain ⟨T1, X1, e1, st1⟩ := getF X0 hx hZ hown (host := "") (Or.inl (hw _ (List.mem_of_getElem? (i := 29) rfl))) Via.refl e0 F_dropping (g := (mkF m 1 #[.val (.ref r0), .val (.long (4096 : Int64)), .second, .unset] [(.ref r0)])) rfl rfl (hb hby d6_1)
  have pre2 : ∀ t, Steps p.tables e below (T1.setTop (mkF m 4 #[.val (.ref r0), .val (.long (4096 : Int64)), .second, .unset] [(.int dr)])) t → Steps p.tables e below (s₁.setTop (entryFrame m #[(.ref r0), (.long (4096 : Int64))] 4)) t := fun t kt => pre0 t (by
    show Steps p.tables e below (s₁.setTop (mkF m 0 #[.val (.ref r0), .val (.long (4096 : Int64)), .second, .unset] [])) _
    refine XS.aloadN X0.here hx rfl (hb hby d6_0) rfl rfl ?_
    show Steps p.tables e below (s₁.setTop (mkF m 1 #[.val (.ref r0), .val (.long (4096 : Int64)), .second, .unset] [(.ref r0)])) _
    refine st1 _ ?_
    exact kt)
  obtain ⟨Tj5, lj5, Xj5, Nj5, ej5, pre5⟩ : ∃ (T' : State) (locs' : List Loc), Stand p l e ({ frames := 2, cells := 1, slots := 4096, locals := 55 } : Room) s m #[(.ref r0), (.long (4096 : Int64))] below meth c T' locs' 0 0 ∧ Fr n0 locs' ∧ T'.heap = h0 ∧ ∀ t, Steps p.tables e below (T'.setTop (mkF m 21 #[.val (.ref r0), .val (.long (4096 : Int64)), .second, .unset] [(.int (J6m_4_S0 r0 sS ab mx dr lb tr bb lf kb))])) t → Steps p.tables e below (s₁.setTop (entryFrame m #[(.ref r0), (.long (4096 : Int64))] 4)) t := by
    by_cases hc4 : dr = (0 : Int32)
    · obtain ⟨T3, X3, e3, st3⟩ := getF X1 hx hZ hown (host := "") (Or.inl (hw _ (List.mem_of_getElem? (i := 20) rfl))) Via.refl e1 F_maxBodyBytes (g := (mkF m 13 #[.val (.ref r0), .val (.long (4096 : Int64)), .second, .unset] [(.ref r0), (.long (4096 : Int64))])) rfl rfl (hb hby d6_13)
      obtain ⟨_, _, ⟨T4, L4, k4, n4⟩, -, X4, ⟨Lc4, hQ4, ll4, ly4, lz4⟩, st4⟩ := Jvm.LawKit.callS X3 hx (y := (⟨"java/lang/Math", "min", "(JJ)J"⟩ : MethodName)) hown (mvT hZ (hw _ (List.mem_of_getElem? (i := 89) rfl))) (mvT hZ (hw _ (List.mem_of_getElem? (i := 90) rfl))) (mvT hZ (hw _ (List.mem_of_getElem? (i := 91) rfl))) (mvT hZ (hw _ (List.mem_of_getElem? (i := 92) rfl))) (by decide) (backOf (W := 0) (rm11 l Z a0 hw [] (4096 : Int64) (mx.toInt64) h0 n0 Z0 ) hZ (hw _ (List.mem_of_getElem? (i := 92) rfl)) (hw _ (List.mem_of_getElem? (i := 91) rfl)) (by decide) (by decide)) (g := (mkF m 17 #[.val (.ref r0), .val (.long (4096 : Int64)), .second, .unset] [(.long (mx.toInt64)), (.long (4096 : Int64))])) rfl (by rw [hml]; rfl) (argsL := [(.long (4096 : Int64)), (.long (mx.toInt64))]) (rest := []) (lenOf pd__JJ_J rfl) rfl (by show 2 * 0 + _ ≤ _; exact Nat.le_of_eq rfl) (hb hby d6_17) (fun _ _ => ⟨rfl, e3, (by decide : 0 + 0 ≤ _), (by decide : 0 + 0 ≤ _)⟩)
      dsimp only [Pt.U, Pt.locs, Pt.cells, Pt.slots] at X4 ll4 ly4 lz4 st4 hQ4
      subst ll4 ly4 lz4
      obtain ⟨rfl, N4q, e4⟩ := hQ4
      have N4 := Fr.app N0 N4q
      refine ⟨T4, _, X4, N4, e4, fun t kt => pre2 t ?_⟩
      show Steps p.tables e below (T1.setTop (mkF m 4 #[.val (.ref r0), .val (.long (4096 : Int64)), .second, .unset] [(.int dr)])) _
      refine XS.ifYes X1.here hx rfl (pc0 := 4) (pc' := 11) rfl (hb hby d6_4) rfl ((if0 _ _).trans (teq hc4).1) (by decide) (by decide) ?_
      show Steps p.tables e below (T1.setTop (mkF m 11 #[.val (.ref r0), .val (.long (4096 : Int64)), .second, .unset] [])) _
      refine XS.lloadN X1.here hx rfl (hb hby d6_11) rfl ?_
      show Steps p.tables e below (T1.setTop (mkF m 12 #[.val (.ref r0), .val (.long (4096 : Int64)), .second, .unset] [(.long (4096 : Int64))])) _
      refine XS.aloadN X1.here hx rfl (hb hby d6_12) rfl rfl ?_
      show Steps p.tables e below (T1.setTop (mkF m 13 #[.val (.ref r0), .val (.long (4096 : Int64)), .second, .unset] [(.ref r0), (.long (4096 : Int64))])) _
      refine st3 _ ?_
      show Steps p.tables e below (T3.setTop (mkF m 16 #[.val (.ref r0), .val (.long (4096 : Int64)), .second, .unset] [(.int mx), (.long (4096 : Int64))])) _
      refine XS.i2l X3.here hx rfl (hb hby d6_16) rfl ?_
      show Steps p.tables e below (T3.setTop (mkF m 17 #[.val (.ref r0), .val (.long (4096 : Int64)), .second, .unset] [(.long (mx.toInt64)), (.long (4096 : Int64))])) _
      refine st4 _ ?_
      show Steps p.tables e below (T4.setTop (mkF m 20 #[.val (.ref r0), .val (.long (4096 : Int64)), .second, .unset] [(.long (F11 (4096 : Int64) (mx.toInt64)))])) _
      refine XS.l2i X4.here hx rfl (hb hby d6_20) rfl ?_
      show Steps p.tables e below (T4.setTop (mkF m 21 #[.val (.ref r0), .val (.long (4096 : Int64)), .second, .unset] [(.int ((F11 (4096 : Int64) (mx.toInt64)).toInt32))])) _
      have qjS0 : (J6m_4_S0 r0 sS ab mx dr lb tr bb lf kb) = ((F11 (4096 : Int64) (mx.toInt64)).toInt32) := by unfold J6m_4_S0; simp only [if_true, if_false, if_pos hc4]
      rw [qjS0] at kt
      exact kt
    · refine ⟨T1, _, X1, N0, e1, fun t kt => pre2 t ?_⟩
      show Steps p.tables e below (T1.setTop (mkF m 4 #[.val (.ref r0), .val (.long (4096 : Int64)), .second, .unset] [(.int dr)])) _
      refine XS.ifNo X1.here hx rfl (hb hby d6_4) rfl ((if0 _ _).trans (feq hc4).1) ?_
      show Steps p.tables e below (T1.setTop (mkF m 7 #[.val (.ref r0), .val (.long (4096 : Int64)), .second, .unset] [])) _
      refine XS.iconst X1.here hx rfl (hb hby d6_7) ?_
      show Steps p.tables e below (T1.setTop (mkF m 8 #[.val (.ref r0), .val (.long (4096 : Int64)), .second, .unset] [(.int (0 : Int32))])) _
      refine XS.goto X1.here hx rfl (pc0 := 8) (pc' := 21) rfl (hb hby d6_8) (by decide) (by decide) ?_
      show Steps p.tables e below (T1.setTop (mkF m 21 #[.val (.ref r0), .val (.long (4096 : Int64)), .second, .unset] [(.int (0 : Int32))])) _
      have qjS0 : (J6m_4_S0 r0 sS ab mx dr lb tr bb lf kb) = (0 : Int32) := by unfold J6m_4_S0; simp only [if_true, if_false, if_neg hc4]
      rw [qjS0] at kt
      exact kt
  obtain ⟨T6, X6, e6, st6⟩ := getF Xj5 hx hZ hown (host := "") (Or.inl (hw _ (List.mem_of_getElem? (i := 18) rfl))) Via.refl ej5 F_body (g := (mkF m 24 #[.val (.ref r0), .val (.long (4096 : Int64)), .second, .val (.int (J6m_4_S0 r0 sS ab mx dr lb tr bb lf kb))] [(.ref r0), (.int (J6m_4_S0 r0 sS ab mx dr lb tr bb lf kb))])) rfl rfl (hb hby d6_24)
  obtain ⟨cl7, Ar7, -, S7, Nl7, -, -⟩ := id V_b
  have pre8 : ∀ t, Steps p.tables e below (T6.setTop (mkF m 28 #[.val (.ref r0), .val (.long (4096 : Int64)), .second, .val (.int (J6m_4_S0 r0 sS ab mx dr lb tr bb lf kb))] [(.int (0 : Int32)), (.int (J6m_4_S0 r0 sS ab mx dr lb tr bb lf kb))])) t → Steps p.tables e below (s₁.setTop (entryFrame m #[(.ref r0), (.long (4096 : Int64))] 4)) t := fun t kt => pre5 t (by
    show Steps p.tables e below (Tj5.setTop (mkF m 21 #[.val (.ref r0), .val (.long (4096 : Int64)), .second, .unset] [(.int (J6m_4_S0 r0 sS ab mx dr lb tr bb lf kb))])) _
    refine XS.istoreN Xj5.here hx rfl (hb hby d6_21) rfl (l' := #[.val (.ref r0), .val (.long (4096 : Int64)), .second, .val (.int (J6m_4_S0 r0 sS ab mx dr lb tr bb lf kb))]) rfl ?_
    show Steps p.tables e below (Tj5.setTop (mkF m 22 #[.val (.ref r0), .val (.long (4096 : Int64)), .second, .val (.int (J6m_4_S0 r0 sS ab mx dr lb tr bb lf kb))] [])) _
    refine XS.iloadN Xj5.here hx rfl (hb hby d6_22) rfl ?_
    show Steps p.tables e below (Tj5.setTop (mkF m 23 #[.val (.ref r0), .val (.long (4096 : Int64)), .second, .val (.int (J6m_4_S0 r0 sS ab mx dr lb tr bb lf kb))] [(.int (J6m_4_S0 r0 sS ab mx dr lb tr bb lf kb))])) _
    refine XS.aloadN Xj5.here hx rfl (hb hby d6_23) rfl rfl ?_
    show Steps p.tables e below (Tj5.setTop (mkF m 24 #[.val (.ref r0), .val (.long (4096 : Int64)), .second, .val (.int (J6m_4_S0 r0 sS ab mx dr lb tr bb lf kb))] [(.ref r0), (.int (J6m_4_S0 r0 sS ab mx dr lb tr bb lf kb))])) _
    refine st6 _ ?_
    show Steps p.tables e below (T6.setTop (mkF m 27 #[.val (.ref r0), .val (.long (4096 : Int64)), .second, .val (.int (J6m_4_S0 r0 sS ab mx dr lb tr bb lf kb))] [(.ref ab), (.int (J6m_4_S0 r0 sS ab mx dr lb tr bb lf kb))])) _
    refine X6.arraylength hx (by rw [e6]; exact Ar7.1) (State.isArrayOf_alike hZ.alike Ar7.2.1) (g := (mkF m 27 #[.val (.ref r0), .val (.long (4096 : Int64)), .second, .val (.int (J6m_4_S0 r0 sS ab mx dr lb tr bb lf kb))] [(.ref ab), (.int (J6m_4_S0 r0 sS ab mx dr lb tr bb lf kb))])) rfl rfl (hb hby d6_27) _ ?_
    rw [len_of S7 Nl7]
    exact kt)
  by_cases hc28 : (0 : Int32) < (J6m_4_S0 r0 sS ab mx dr lb tr bb lf kb)
  · obtain ⟨T9, X9, e9, st9⟩ := getF X6 hx hZ hown (host := "") (Or.inl (hw _ (List.mem_of_getElem? (i := 18) rfl))) Via.refl e6 F_body (g := (mkF m 33 #[.val (.ref r0), .val (.long (4096 : Int64)), .second, .val (.int (J6m_4_S0 r0 sS ab mx dr lb tr bb lf kb))] [(.ref r0), (.ref r0)])) rfl rfl (hb hby d6_33)
    obtain ⟨_, _, ⟨T10, L10, k10, n10⟩, -, X10, ⟨Lc10, hQ10, ll10, ly10, lz10⟩, st10⟩ := Jvm.LawKit.callS X9 hx (y := (⟨"java/util/Arrays", "copyOf", "([BI)[B"⟩ : MethodName)) hown (mvT hZ (hw _ (List.mem_of_getElem? (i := 93) rfl))) (mvT hZ (hw _ (List.mem_of_getElem? (i := 94) rfl))) (mvT hZ (hw _ (List.mem_of_getElem? (i := 95) rfl))) (mvT hZ (hw _ (List.mem_of_getElem? (i := 96) rfl))) (by decide) (backOf (W := 1) (rm12 l Z a0 hw [] ab (J6m_4_S0 r0 sS ab mx dr lb tr bb lf kb) kb h0 n0 Z0 V_b hc28 (own_rm r0 sS ab mx dr lb tr bb lf kb)) hZ (hw _ (List.mem_of_getElem? (i := 96) rfl)) (hw _ (List.mem_of_getElem? (i := 95) rfl)) (by decide) (by decide)) (g := (mkF m 37 #[.val (.ref r0), .val (.long (4096 : Int64)), .second, .val (.int (J6m_4_S0 r0 sS ab mx dr lb tr bb lf kb))] [(.int (J6m_4_S0 r0 sS ab mx dr lb tr bb lf kb)), (.ref ab), (.ref r0)])) rfl (by rw [hml]; rfl) (argsL := [(.ref ab), (.int (J6m_4_S0 r0 sS ab mx dr lb tr bb lf kb))]) (rest := [(.ref r0)]) (lenOf pd___BI__B rfl) rfl (by show 2 * 0 + _ ≤ _; exact Nat.le_of_eq rfl) (hb hby d6_37) (fun _ _ => ⟨rfl, e9, (by decide : 0 + 1 ≤ _), (by decide : 0 + 4096 ≤ _)⟩)
    dsimp only [Pt.U, Pt.locs, Pt.cells, Pt.slots] at X10 ll10 ly10 lz10 st10 hQ10
    subst ll10 ly10 lz10
    obtain ⟨b10, rfl, N10q, K10c, u10⟩ := hQ10
    have ne11 : r0 ≠ b10 := Nat.ne_of_lt (Nat.lt_of_lt_of_le E_r.lt u10)
    have ne12 : ab ≠ b10 := Nat.ne_of_lt (Nat.lt_of_lt_of_le V_b.lt u10)
    have g_b10 : n0 ≤ b10 := Nat.le_trans Z0 u10
    have sz_b10 : h0.size ≤ b10 := Nat.le_trans (Keep.refl h0 [r0]).1 u10
    have N10 := Fr.app Nj5 N10q
    have K10 : Keep h0 T10.heap [r0] := (Keep.refl h0 [r0]).trans K10c all0
    obtain ⟨T13, h13, X13, e13, W13, st13⟩ := putF X10 hx hZ hown (host := "") (Or.inl (hw _ (List.mem_of_getElem? (i := 18) rfl))) Via.refl (rfl : T10.heap = T10.heap) (F_body.keep K10c nin0) (Exa.keep E_r K10c) (Or.inl (hw _ (List.mem_of_getElem? (i := 19) rfl))) (hw _ (List.mem_of_getElem? (i := 2) rfl)) (ty := (.array .byte)) (by decide) rfl rfl (g := (mkF m 40 #[.val (.ref r0), .val (.long (4096 : Int64)), .second, .val (.int (J6m_4_S0 r0 sS ab mx dr lb tr bb lf kb))] [(.ref b10), (.ref r0)])) rfl rfl (hb hby d6_40)
    have Fw13 : Fld Z h13 r0 "com/example/admission_for_endpoints/admissionforendpoints/MessageReader" "body" "[B" (.ref b10) := Fld.same W13 (F_body.keep K10c nin0)
    have K13 : Keep h0 h13 [r0] := K10.wr W13 (Or.inl (List.mem_of_getElem? (i := 0) rfl))
    have N13 := Fr.snoc X13 N10 g_r0
    obtain ⟨fs, hr, hrun, hended, hW, hsame⟩ := X13.leave (v := none) (fun _ => rfl)
    refine ⟨_, _, pre8 _ ?_, hrun, hended, _, _, rfl, ?_, ⟨_, rfl⟩, hW, hsame.mono (by decide) (by decide)⟩
    · show Steps p.tables e below (T6.setTop (mkF m 28 #[.val (.ref r0), .val (.long (4096 : Int64)), .second, .val (.int (J6m_4_S0 r0 sS ab mx dr lb tr bb lf kb))] [(.int (0 : Int32)), (.int (J6m_4_S0 r0 sS ab mx dr lb tr bb lf kb))])) _
      refine XS.icmpNo X6.here hx rfl (hb hby d6_28) rfl (tlt hc28).2.2.2 ?_
      show Steps p.tables e below (T6.setTop (mkF m 31 #[.val (.ref r0), .val (.long (4096 : Int64)), .second, .val (.int (J6m_4_S0 r0 sS ab mx dr lb tr bb lf kb))] [])) _
      refine XS.aloadN X6.here hx rfl (hb hby d6_31) rfl rfl ?_
      show Steps p.tables e below (T6.setTop (mkF m 32 #[.val (.ref r0), .val (.long (4096 : Int64)), .second, .val (.int (J6m_4_S0 r0 sS ab mx dr lb tr bb lf kb))] [(.ref r0)])) _
      refine XS.aloadN X6.here hx rfl (hb hby d6_32) rfl rfl ?_
      show Steps p.tables e below (T6.setTop (mkF m 33 #[.val (.ref r0), .val (.long (4096 : Int64)), .second, .val (.int (J6m_4_S0 r0 sS ab mx dr lb tr bb lf kb))] [(.ref r0), (.ref r0)])) _
      refine st9 _ ?_
      show Steps p.tables e below (T9.setTop (mkF m 36 #[.val (.ref r0), .val (.long (4096 : Int64)), .second, .val (.int (J6m_4_S0 r0 sS ab mx dr lb tr bb lf kb))] [(.ref ab), (.ref r0)])) _
      refine XS.iloadN X9.here hx rfl (hb hby d6_36) rfl ?_
      show Steps p.tables e below (T9.setTop (mkF m 37 #[.val (.ref r0), .val (.long (4096 : Int64)), .second, .val (.int (J6m_4_S0 r0 sS ab mx dr lb tr bb lf kb))] [(.int (J6m_4_S0 r0 sS ab mx dr lb tr bb lf kb)), (.ref ab), (.ref r0)])) _
      refine st10 _ ?_
      show Steps p.tables e below (T10.setTop (mkF m 40 #[.val (.ref r0), .val (.long (4096 : Int64)), .second, .val (.int (J6m_4_S0 r0 sS ab mx dr lb tr bb lf kb))] [(.ref b10), (.ref r0)])) _
      refine st13 _ ?_
      show Steps p.tables e below (T13.setTop (mkF m 43 #[.val (.ref r0), .val (.long (4096 : Int64)), .second, .val (.int (J6m_4_S0 r0 sS ab mx dr lb tr bb lf kb))] [])) _
      exact X13.returnOut hx Bd.returns (hb hby d6_43) hr
    · show Q6m Z r0 sS ab mx dr lb tr bb lf kb h0 n0 _ T13.heap _
      rw [e13]
      exact ⟨rfl, N13, K13, (Exa.wr W13 (Exa.keep E_r K10c)), (Fld.other W13 (F_stage.keep K10c nin0) (Or.inr (slot_ne (Or.inl (hw _ (List.mem_of_getElem? (i := 14) rfl))) (Or.inl (hw _ (List.mem_of_getElem? (i := 19) rfl))) (by decide) (t := (.object "com/example/admission_for_endpoints/admissionforendpoints/MessageReader$Stage")) (t' := (.array .byte)) (by decide) (by decide)))), (Fld.other W13 (F_maxBodyBytes.keep K10c nin0) (Or.inr (slot_ne (Or.inr (hw _ (List.mem_of_getElem? (i := 21) rfl))) (Or.inl (hw _ (List.mem_of_getElem? (i := 19) rfl))) (by decide) (t := .int) (t' := (.array .byte)) (by decide) (by decide)))), (Fld.other W13 (F_dropping.keep K10c nin0) (Or.inr (slot_ne (Or.inl (hw _ (List.mem_of_getElem? (i := 30) rfl))) (Or.inl (hw _ (List.mem_of_getElem? (i := 19) rfl))) (by decide) (t := .boolean) (t' := (.array .byte)) (by decide) (by decide)))), (Fld.other W13 (F_lineBytes.keep K10c nin0) (Or.inr (slot_ne (Or.inl (hw _ (List.mem_of_getElem? (i := 40) rfl))) (Or.inl (hw _ (List.mem_of_getElem? (i := 19) rfl))) (by decide) (t := .int) (t' := (.array .byte)) (by decide) (by decide)))), (Fld.other W13 (F_truncated.keep K10c nin0) (Or.inr (slot_ne (Or.inl (hw _ (List.mem_of_getElem? (i := 75) rfl))) (Or.inl (hw _ (List.mem_of_getElem? (i := 19) rfl))) (by decide) (t := .boolean) (t' := (.array .byte)) (by decide) (by decide)))), (Fld.other W13 (F_bodyBytes.keep K10c nin0) (Or.inr (slot_ne (Or.inl (hw _ (List.mem_of_getElem? (i := 82) rfl))) (Or.inl (hw _ (List.mem_of_getElem? (i := 19) rfl))) (by decide) (t := .int) (t' := (.array .byte)) (by decide) (by decide)))), (Fld.other W13 (F_left.keep K10c nin0) (Or.inr (slot_ne (Or.inl (hw _ (List.mem_of_getElem? (i := 88) rfl))) (Or.inl (hw _ (List.mem_of_getElem? (i := 19) rfl))) (by decide) (t := .long) (t' := (.array .byte)) (by decide) (by decide))))⟩
  · obtain ⟨fs, hr, hrun, hended, hW, hsame⟩ := X6.leave (v := none) (fun _ => rfl)
    refine ⟨_, _, pre8 _ ?_, hrun, hended, _, _, rfl, ?_, ⟨_, rfl⟩, hW, hsame.mono (by decide) (by decide)⟩
    · show Steps p.tables e below (T6.setTop (mkF m 28 #[.val (.ref r0), .val (.long (4096 : Int64)), .second, .val (.int (J6m_4_S0 r0 sS ab mx dr lb tr bb lf kb))] [(.int (0 : Int32)), (.int (J6m_4_S0 r0 sS ab mx dr lb tr bb lf kb))])) _
      refine XS.icmpYes X6.here hx rfl (pc0 := 28) (pc' := 43) rfl (hb hby d6_28) rfl (flt hc28).2.2.2 (by decide) (by decide) ?_
      show Steps p.tables e below (T6.setTop (mkF m 43 #[.val (.ref r0), .val (.long (4096 : Int64)), .second, .val (.int (J6m_4_S0 r0 sS ab mx dr lb tr bb lf kb))] [])) _
      exact X6.returnOut hx Bd.returns (hb hby d6_43) hr
    · show Q6m Z r0 sS ab mx dr lb tr bb lf kb h0 n0 _ T6.heap _
      rw [e6]
      exact ⟨rfl, Nj5, (Keep.refl h0 [r0]), E_r, F_stage, F_maxBodyBytes, F_dropping, F_lineBytes, F_truncated, F_bodyBytes, F_left⟩
theorem d4_0 : decode prog_8_method_7_code 0 = .ok (.aload_n 0, 1) := by decide +kernel
theorem d4_1 : decode prog_8_method_7_code 1 = .ok (.iconst 0, 1) := by decide +kernel
theorem d4_2 : decode prog_8_method_7_code 2 = .ok (.putfield 110, 3) := by decide +kernel
theorem d4_5 : decode prog_8_method_7_code 5 = .ok (.aload_n 1, 1) := by decide +kernel
theorem d4_6 : decode prog_8_method_7_code 6 = .ok (.invokevirtual 138, 3) := by decide +kernel
theorem d4_9 : decode prog_8_method_7_code 9 = .ok (.tableswitch 110 0 3 #[31, 41, 79, 96], 31) := by decide +kernel
theorem d4_40 : decode prog_8_method_7_code 40 = .ok (.aload_n 0, 1) := by decide +kernel
theorem d4_41 : decode prog_8_method_7_code 41 = .ok (.getstatic 39, 3) := by decide +kernel
theorem d4_44 : decode prog_8_method_7_code 44 = .ok (.putfield 13, 3) := by decide +kernel
theorem d4_47 : decode prog_8_method_7_code 47 = .ok (.goto 72, 3) := by decide +kernel
theorem d4_119 : decode prog_8_method_7_code 119 = .ok (.return_, 1) := by decide +kernel
theorem pd___I : parseMethodDescriptor "()I" = some ⟨[], some .int⟩ := by decide +kernel
theorem ef_4o0 (r0 : Addr) (r1 : Addr) (sS ab : Addr) (mx dr lb tr bb : Int32) (lf : Int64) (kb : ClassId) (wD wU : Addr) (m : MethodId) : entryFrame m #[(.ref r0), (.ref r1), (.long (0 : Int64))] 4 = mkF m 0 #[.val (.ref r0), .val (.ref r1), .val (.long (0 : Int64)), .second] [] := by first | (simp [entryFrame, mkF, argsToLocals, Value.category]; done) | rfl
def Q4o0 (Z : State) (r0 : Addr) (r1 : Addr) (sS ab : Addr) (mx dr lb tr bb : Int32) (lf : Int64) (kb : ClassId) (wD wU : Addr) (h0 : Heap) (n0 : Nat) (v : Option Value) (h : Heap) (L : List Loc) : Prop := v = none ∧ Fr n0 L ∧ Keep h0 h [r0] ∧ Exa Z h r0 "com/example/admission_for_endpoints/admissionforendpoints/MessageReader" ∧ Fld Z h r0 "com/example/admission_for_endpoints/admissionforendpoints/MessageReader" "stage" "Lcom/example/admission_for_endpoints/admissionforendpoints/MessageReader$Stage;" (.ref wD) ∧ Fld Z h r0 "com/example/admission_for_endpoints/admissionforendpoints/MessageReader" "maxBodyBytes" "I" (.int mx) ∧ Fld Z h r0 "com/example/admission_for_endpoints/admissionforendpoints/MessageReader" "dropping" "Z" (.int dr) ∧ Fld Z h r0 "com/example/admission_for_endpoints/admissionforendpoints/MessageReader" "lineBytes" "I" (.int (0 : Int32)) ∧ Fld Z h r0 "com/example/admission_for_endpoints/admissionforendpoints/MessageReader" "truncated" "Z" (.int tr) ∧ Fld Z h r0 "com/example/admission_for_endpoints/admissionforendpoints/MessageReader" "bodyBytes" "I" (.int bb) ∧ Fld Z h r0 "com/example/admission_for_endpoints/admissionforendpoints/MessageReader" "left" "J" (.long lf)
set_option maxRecDepth 65536 in
set_option maxHeartbeats 40000000 in
theorem rm4o0 (l : Launch) (Z : State) (a0 : Array Value) (hw : ∀ d ∈ tables_1, d.before a0 Z = true) (ws : List Jvm.Cond) (r0 : Addr) (r1 : Addr) (sS ab : Addr) (mx dr lb tr bb : Int32) (lf : Int64) (kb : ClassId) (wD wU : Addr) (h0 : Heap) (n0 : Nat) (Z0 : n0 ≤ h0.size) (E_r : Exa Z h0 r0 "com/example/admission_for_endpoints/admissionforendpoints/MessageReader") (F_stage : Fld Z h0 r0 "com/example/admission_for_endpoints/admissionforendpoints/MessageReader" "stage" "Lcom/example/admission_for_endpoints/admissionforendpoints/MessageReader$Stage;" (.ref sS)) (F_body : Fld Z h0 r0 "com/example/admission_for_endpoints/admissionforendpoints/MessageReader" "body" "[B" (.ref ab)) (F_maxBodyBytes : Fld Z h0 r0 "com/example/admission_for_endpoints/admissionforendpoints/MessageReader" "maxBodyBytes" "I" (.int mx)) (F_dropping : Fld Z h0 r0 "com/example/admission_for_endpoints/admissionforendpoints/MessageReader" "dropping" "Z" (.int dr)) (F_lineBytes : Fld Z h0 r0 "com/example/admission_for_endpoints/admissionforendpoints/MessageReader" "lineBytes" "I" (.int lb)) (F_truncated : Fld Z h0 r0 "com/example/admission_for_endpoints/admissionforendpoints/MessageReader" "truncated" "Z" (.int tr)) (F_bodyBytes : Fld Z h0 r0 "com/example/admission_for_endpoints/admissionforendpoints/MessageReader" "bodyBytes" "I" (.int bb)) (F_left : Fld Z h0 r0 "com/example/admission_for_endpoints/admissionforendpoints/MessageReader" "left" "J" (.long lf)) (V_b : Arv Z h0 ab kb .byte (0 : Int32) [] (.int (0 : Int32))) (S_wD : Sta Z h0 "com/example/admission_for_endpoints/admissionforendpoints/MessageReader$Stage" "DONE" "Lcom/example/admission_for_endpoints/admissionforendpoints/MessageReader$Stage;" (.ref wD)) (S_wU : Sta Z h0 "com/example/admission_for_endpoints/admissionforendpoints/MessageReader$Stage" "UNTIL_CLOSE" "Lcom/example/admission_for_endpoints/admissionforendpoints/MessageReader$Stage;" (.ref wU)) (E_f : Exa Z h0 r1 "com/example/admission_for_endpoints/admissionforendpoints/MessageReader$Framing") (F_o : Fld Z h0 r1 "java/lang/Enum" "ordinal" "I" (.int (0 : Int32))) (g_r0 : n0 ≤ r0) (ne_ab : ab ≠ r0) (ne_f : r1 ≠ r0) :
    MetFree l (⟨"com/example/admission_for_endpoints/admissionforendpoints/MessageReader", "frame", "(Lcom/example/admission_for_endpoints/admissionforendpoints/MessageReader$Framing;J)V"⟩ : MethodName) (head1 (Jvm.Cond.code (⟨"com/example/admission_for_endpoints/admissionforendpoints/MessageReader", "frame", "(Lcom/example/admission_for_endpoints/admissionforendpoints/MessageReader$Framing;J)V"⟩ : MethodName) prog_8_method_7_code 4 none :: ws) ({ frames := 1, cells := 0, slots := 0, locals := 12 } : Room)) (fun a U => a = #[(.ref r0), (.ref r1), (.long (0 : Int64))] ∧ Z.Warmed39 U.vm ∧ U.heap = h0) (fun _ _ _ _ _ => True) (fun _ U o U' => ∃ v L, o = .returned v ∧ Q4o0 Z r0 r1 sS ab mx dr lb tr bb lf kb wD wU h0 n0 v U'.heap L ∧ FrameEnd U o U' L ({ frames := 1, cells := 0, slots := 0, locals := 12 } : Room).cells ({ frames := 1, cells := 0, slots := 0, locals := 12 } : Room).slots) := by
  refine MetFree.of_bodySF (plainFor_of_name pn_com_example_admission_for_endpoints_admissionforendpoints_MessageReader) hisR ?_
  intro p e s m args below meth c s₁ Bd hml0 hP hK
  obtain ⟨rfl, hZ, hh⟩ := hP
  have hx := Bd.exec
  have hby := Bd.bytes
  have hml : c.maxLocals = 4 := hml0
  have hown : s.vm.findClass "com/example/admission_for_endpoints/admissionforendpoints/MessageReader" = some m.cls := findClass_of_methodNamed Bd.named
  have hnm := (name_of_methodNamed Bd.named Bd.method).1
  have X0 : Stand p l e ({ frames := 1, cells := 0, slots := 0, locals := 12 } : Room) s m #[(.ref r0), (.ref r1), (.long (0 : Int64))] below meth c s₁ [] 0 0 := Stand.of_body Bd
  have e0 : s₁.heap = h0 := by rw [← hh, Bd.state]; rfl
  have N0 := Fr.nil n0
  have pre0 : ∀ t, Steps p.tables e below (s₁.setTop (mkF m 0 #[.val (.ref r0), .val (.ref r1), .val (.long (0 : Int64)), .second] [])) t → Steps p.tables e below (s₁.setTop (entryFrame m #[(.ref r0), (.ref r1), (.long (0 : Int64))] 4)) t := fun t k => castTop (ef_4o0 r0 r1 sS ab mx dr lb tr bb lf kb wD wU m) k
  obtain ⟨T1, h1, X1, e1, W1, st1⟩ := putF X0 hx hZ hown (host := "") (Or.inl (hw _ (List.mem_of_getElem? (i := 39) rfl))) Via.refl e0 F_lineBytes E_r (Or.inl (hw _ (List.mem_of_getElem? (i := 40) rfl))) (hw _ (List.mem_of_getElem? (i := 2) rfl)) (ty := .int) (by decide) rfl rfl (g := (mkF m 2 #[.val (.ref r0), .val (.ref r1), .val (.long (0 : Int64)), .second] [(.int (0 : Int32)), (.ref r0)])) rfl rfl (hb hby d4_2)
  have Fw1 : Fld Z h1 r0 "com/example/admission_for_endpoints/admissionforendpoints/MessageReader" "lineBytes" "I" (.int (0 : Int32)) := Fld.same W1 F_lineBytes
  have K1 : Keep h0 h1 [r0] := (Keep.refl h0 [r0]).wr W1 (Or.inl (List.mem_of_getElem? (i := 0) rfl))
  have N1 := Fr.snoc X1 N0 g_r0
  obtain ⟨cq2, kq2, q2a, q2b, q2c⟩ := isOf hZ e1 (Exa.wr W1 E_f)
  obtain ⟨_, _, ⟨T2, L2, k2, n2⟩, -, X2, ⟨Lc2, hQ2, ll2, ly2, lz2⟩, st2⟩ := X1.virtualBackUp hx (x := (⟨"com/example/admission_for_endpoints/admissionforendpoints/MessageReader$Framing", "ordinal", "()I"⟩ : MethodName)) (y := (⟨"java/lang/Enum", "ordinal", "()I"⟩ : MethodName)) (owner := "java/lang/Enum") hown (mvT hZ (hw _ (List.mem_of_getElem? (i := 41) rfl))) (mvT hZ (hw _ (List.mem_of_getElem? (i := 42) rfl))) (mvT hZ (hw _ (List.mem_of_getElem? (i := 43) rfl))) (by decide) (mvT hZ (hw _ (List.mem_of_getElem? (i := 45) rfl))) (mvT hZ (hw _ (List.mem_of_getElem? (i := 44) rfl))) (backOf (W := 0) (rm5 l Z a0 hw [] r1 (0 : Int32) h1 n0 (Nat.le_trans Z0 (Keep.of_wr W1).1) (Fld.other W1 F_o (Or.inl ne_f))) hZ (hw _ (List.mem_of_getElem? (i := 47) rfl)) (hw _ (List.mem_of_getElem? (i := 46) rfl)) (by decide) (by decide)) q2a q2c (g := (mkF m 6 #[.val (.ref r0), .val (.ref r1), .val (.long (0 : Int64)), .second] [(.ref r1)])) rfl (by rw [hml]; rfl) (Steps.refl _) (argsL := []) (rest := []) (lenOf pd___I rfl) rfl (by show 2 * 0 + _ ≤ _; exact Nat.le_of_eq rfl) (hb hby d4_6) (fun _ _ => ⟨rfl, e1, (by decide : 0 + 0 ≤ _), (by decide : 0 + 0 ≤ _)⟩)
  dsimp only [Pt.U, Pt.locs, Pt.cells, Pt.slots] at X2 ll2 ly2 lz2 st2 hQ2
  subst ll2 ly2 lz2
  obtain ⟨rfl, N2q, e2⟩ := hQ2
  have N2 := Fr.app N1 N2q
  obtain ⟨T3, X3, e3, st3⟩ := getS2 X2 hx hZ hown (host := "") (Or.inl (hw _ (List.mem_of_getElem? (i := 62) rfl))) Via.refl e2 (Sta.wr W1 S_wD) (g := (mkF m 41 #[.val (.ref r0), .val (.ref r1), .val (.long (0 : Int64)), .second] [(.ref r0)])) rfl (hb hby d4_41)
  obtain ⟨T4, h4, X4, e4, W4, st4⟩ := putF X3 hx hZ hown (host := "") (Or.inl (hw _ (List.mem_of_getElem? (i := 13) rfl))) Via.refl e3 (Fld.other W1 F_stage (Or.inr (slot_ne (Or.inl (hw _ (List.mem_of_getElem? (i := 14) rfl))) (Or.inl (hw _ (List.mem_of_getElem? (i := 40) rfl))) (by decide) (t := (.object "com/example/admission_for_endpoints/admissionforendpoints/MessageReader$Stage")) (t' := .int) (by decide) (by decide)))) (Exa.wr W1 E_r) (Or.inl (hw _ (List.mem_of_getElem? (i := 14) rfl))) (hw _ (List.mem_of_getElem? (i := 2) rfl)) (ty := (.object "com/example/admission_for_endpoints/admissionforendpoints/MessageReader$Stage")) (by decide) rfl rfl (g := (mkF m 44 #[.val (.ref r0), .val (.ref r1), .val (.long (0 : Int64)), .second] [(.ref wD), (.ref r0)])) rfl rfl (hb hby d4_44)
  have Fw4 : Fld Z h4 r0 "com/example/admission_for_endpoints/admissionforendpoints/MessageReader" "stage" "Lcom/example/admission_for_endpoints/admissionforendpoints/MessageReader$Stage;" (.ref wD) := Fld.same W4 (Fld.other W1 F_stage (Or.inr (slot_ne (Or.inl (hw _ (List.mem_of_getElem? (i := 14) rfl))) (Or.inl (hw _ (List.mem_of_getElem? (i := 40) rfl))) (by decide) (t := (.object "com/example/admission_for_endpoints/admissionforendpoints/MessageReader$Stage")) (t' := .int) (by decide) (by decide))))
  have K4 : Keep h0 h4 [r0] := K1.wr W4 (Or.inl (List.mem_of_getElem? (i := 0) rfl))
  have N4 := Fr.snoc X4 N2 g_r0
  obtain ⟨fs, hr, hrun, hended, hW, hsame⟩ := X4.leave (v := none) (fun _ => rfl)
  refine ⟨_, _, pre0 _ ?_, hrun, hended, _, _, rfl, ?_, ⟨_, rfl⟩, hW, hsame.mono (by decide) (by decide)⟩
  · show Steps p.tables e below (s₁.setTop (mkF m 0 #[.val (.ref r0), .val (.ref r1), .val (.long (0 : Int64)), .second] [])) _
    refine XS.aloadN X0.here hx rfl (hb hby d4_0) rfl rfl ?_
    show Steps p.tables e below (s₁.setTop (mkF m 1 #[.val (.ref r0), .val (.ref r1), .val (.long (0 : Int64)), .second] [(.ref r0)])) _
    refine XS.iconst X0.here hx rfl (hb hby d4_1) ?_
    show Steps p.tables e below (s₁.setTop (mkF m 2 #[.val (.ref r0), .val (.ref r1), .val (.long (0 : Int64)), .second] [(.int (0 : Int32)), (.ref r0)])) _
    refine st1 _ ?_
    show Steps p.tables e below (T1.setTop (mkF m 5 #[.val (.ref r0), .val (.ref r1), .val (.long (0 : Int64)), .second] [])) _
    refine XS.aloadN X1.here hx rfl (hb hby d4_5) rfl rfl ?_
    show Steps p.tables e below (T1.setTop (mkF m 6 #[.val (.ref r0), .val (.ref r1), .val (.long (0 : Int64)), .second] [(.ref r1)])) _
    refine st2.trans ?_
    show Steps p.tables e below (T2.setTop (mkF m 9 #[.val (.ref r0), .val (.ref r1), .val (.long (0 : Int64)), .second] [(.int (0 : Int32))])) _
    refine XS.tswIn X2.here hx rfl (pc0 := 9) (pc' := 40) (o := 31) rfl (hb hby d4_9) rfl (by decide) (by decide) (by decide) (by decide) ?_
    show Steps p.tables e below (T2.setTop (mkF m 40 #[.val (.ref r0), .val (.ref r1), .val (.long (0 : Int64)), .second] [])) _
    refine XS.aloadN X2.here hx rfl (hb hby d4_40) rfl rfl ?_
    show Steps p.tables e below (T2.setTop (mkF m 41 #[.val (.ref r0), .val (.ref r1), .val (.long (0 : Int64)), .second] [(.ref r0)])) _
    refine st3 _ ?_
    show Steps p.tables e below (T3.setTop (mkF m 44 #[.val (.ref r0), .val (.ref r1), .val (.long (0 : Int64)), .second] [(.ref wD), (.ref r0)])) _
    refine st4 _ ?_
    show Steps p.tables e below (T4.setTop (mkF m 47 #[.val (.ref r0), .val (.ref r1), .val (.long (0 : Int64)), .second] [])) _
    refine XS.goto X4.here hx rfl (pc0 := 47) (pc' := 119) rfl (hb hby d4_47) (by decide) (by decide) ?_
    show Steps p.tables e below (T4.setTop (mkF m 119 #[.val (.ref r0), .val (.ref r1), .val (.long (0 : Int64)), .second] [])) _
    exact X4.returnOut hx Bd.returns (hb hby d4_119) hr
  · show Q4o0 Z r0 r1 sS ab mx dr lb tr bb lf kb wD wU h0 n0 _ T4.heap _
    rw [e4]
    exact ⟨rfl, N4, K4, (Exa.wr W4 (Exa.wr W1 E_r)), Fw4, (Fld.other W4 (Fld.other W1 F_maxBodyBytes (Or.inr (slot_ne (Or.inr (hw _ (List.mem_of_getElem? (i := 21) rfl))) (Or.inl (hw _ (List.mem_of_getElem? (i := 40) rfl))) (by decide) (t := .int) (t' := .int) (by decide) (by decide)))) (Or.inr (slot_ne (Or.inr (hw _ (List.mem_of_getElem? (i := 21) rfl))) (Or.inl (hw _ (List.mem_of_getElem? (i := 14) rfl))) (by decide) (t := .int) (t' := (.object "com/example/admission_for_endpoints/admissionforendpoints/MessageReader$Stage")) (by decide) (by decide)))), (Fld.other W4 (Fld.other W1 F_dropping (Or.inr (slot_ne (Or.inl (hw _ (List.mem_of_getElem? (i := 30) rfl))) (Or.inl (hw _ (List.mem_of_getElem? (i := 40) rfl))) (by decide) (t := .boolean) (t' := .int) (by decide) (by decide)))) (Or.inr (slot_ne (Or.inl (hw _ (List.mem_of_getElem? (i := 30) rfl))) (Or.inl (hw _ (List.mem_of_getElem? (i := 14) rfl))) (by decide) (t := .boolean) (t' := (.object "com/example/admission_for_endpoints/admissionforendpoints/MessageReader$Stage")) (by decide) (by decide)))), (Fld.other W4 Fw1 (Or.inr (slot_ne (Or.inl (hw _ (List.mem_of_getElem? (i := 40) rfl))) (Or.inl (hw _ (List.mem_of_getElem? (i := 14) rfl))) (by decide) (t := .int) (t' := (.object "com/example/admission_for_endpoints/admissionforendpoints/MessageReader$Stage")) (by decide) (by decide)))), (Fld.other W4 (Fld.other W1 F_truncated (Or.inr (slot_ne (Or.inl (hw _ (List.mem_of_getElem? (i := 75) rfl))) (Or.inl (hw _ (List.mem_of_getElem? (i := 40) rfl))) (by decide) (t := .boolean) (t' := .int) (by decide) (by decide)))) (Or.inr (slot_ne (Or.inl (hw _ (List.mem_of_getElem? (i := 75) rfl))) (Or.inl (hw _ (List.mem_of_getElem? (i := 14) rfl))) (by decide) (t := .boolean) (t' := (.object "com/example/admission_for_endpoints/admissionforendpoints/MessageReader$Stage")) (by decide) (by decide)))), (Fld.other W4 (Fld.other W1 F_bodyBytes (Or.inr (slot_ne (Or.inl (hw _ (List.mem_of_getElem? (i := 82) rfl))) (Or.inl (hw _ (List.mem_of_getElem? (i := 40) rfl))) (by decide) (t := .int) (t' := .int) (by decide) (by decide)))) (Or.inr (slot_ne (Or.inl (hw _ (List.mem_of_getElem? (i := 82) rfl))) (Or.inl (hw _ (List.mem_of_getElem? (i := 14) rfl))) (by decide) (t := .int) (t' := (.object "com/example/admission_for_endpoints/admissionforendpoints/MessageReader$Stage")) (by decide) (by decide)))), (Fld.other W4 (Fld.other W1 F_left (Or.inr (slot_ne (Or.inl (hw _ (List.mem_of_getElem? (i := 88) rfl))) (Or.inl (hw _ (List.mem_of_getElem? (i := 40) rfl))) (by decide) (t := .long) (t' := .int) (by decide) (by decide)))) (Or.inr (slot_ne (Or.inl (hw _ (List.mem_of_getElem? (i := 88) rfl))) (Or.inl (hw _ (List.mem_of_getElem? (i := 14) rfl))) (by decide) (t := .long) (t' := (.object "com/example/admission_for_endpoints/admissionforendpoints/MessageReader$Stage")) (by decide) (by decide))))⟩
theorem d4_50 : decode prog_8_method_7_code 50 = .ok (.aload_n 0, 1) := by decide +kernel
theorem d4_51 : decode prog_8_method_7_code 51 = .ok (.lload_n 2, 1) := by decide +kernel
theorem d4_52 : decode prog_8_method_7_code 52 = .ok (.putfield 141, 3) := by decide +kernel
theorem d4_55 : decode prog_8_method_7_code 55 = .ok (.aload_n 0, 1) := by decide +kernel
theorem d4_56 : decode prog_8_method_7_code 56 = .ok (.aload_n 0, 1) := by decide +kernel
theorem d4_57 : decode prog_8_method_7_code 57 = .ok (.getfield 141, 3) := by decide +kernel
theorem d4_60 : decode prog_8_method_7_code 60 = .ok (.invokevirtual 145, 3) := by decide +kernel
theorem d4_63 : decode prog_8_method_7_code 63 = .ok (.aload_n 0, 1) := by decide +kernel
theorem d4_64 : decode prog_8_method_7_code 64 = .ok (.aload_n 0, 1) := by decide +kernel
theorem d4_65 : decode prog_8_method_7_code 65 = .ok (.getfield 141, 3) := by decide +kernel
theorem d4_68 : decode prog_8_method_7_code 68 = .ok (.lconst 0, 1) := by decide +kernel
theorem d4_69 : decode prog_8_method_7_code 69 = .ok (.lcmp, 1) := by decide +kernel
theorem d4_70 : decode prog_8_method_7_code 70 = .ok (.ifCond .ne 9, 3) := by decide +kernel
theorem d4_73 : decode prog_8_method_7_code 73 = .ok (.getstatic 39, 3) := by decide +kernel
theorem d4_76 : decode prog_8_method_7_code 76 = .ok (.goto 6, 3) := by decide +kernel
theorem d4_82 : decode prog_8_method_7_code 82 = .ok (.putfield 13, 3) := by decide +kernel
theorem d4_85 : decode prog_8_method_7_code 85 = .ok (.goto 34, 3) := by decide +kernel
theorem pd__J_V : parseMethodDescriptor "(J)V" = some ⟨[.long], none⟩ := by decide +kernel
theorem ef_4o1 (r0 : Addr) (r1 : Addr) (sS ab : Addr) (mx dr lb tr bb : Int32) (lf : Int64) (kb : ClassId) (wD wU : Addr) (m : MethodId) : entryFrame m #[(.ref r0), (.ref r1), (.long (0 : Int64))] 4 = mkF m 0 #[.val (.ref r0), .val (.ref r1), .val (.long (0 : Int64)), .second] [] := by first | (simp [entryFrame, mkF, argsToLocals, Value.category]; done) | rfl
def Q4o1 (Z : State) (r0 : Addr) (r1 : Addr) (sS ab : Addr) (mx dr lb tr bb : Int32) (lf : Int64) (kb : ClassId) (wD wU : Addr) (h0 : Heap) (n0 : Nat) (v : Option Value) (h : Heap) (L : List Loc) : Prop := v = none ∧ Fr n0 L ∧ Keep h0 h [r0] ∧ Exa Z h r0 "com/example/admission_for_endpoints/admissionforendpoints/MessageReader" ∧ Fld Z h r0 "com/example/admission_for_endpoints/admissionforendpoints/MessageReader" "stage" "Lcom/example/admission_for_endpoints/admissionforendpoints/MessageReader$Stage;" (.ref wD) ∧ Fld Z h r0 "com/example/admission_for_endpoints/admissionforendpoints/MessageReader" "maxBodyBytes" "I" (.int mx) ∧ Fld Z h r0 "com/example/admission_for_endpoints/admissionforendpoints/MessageReader" "dropping" "Z" (.int dr) ∧ Fld Z h r0 "com/example/admission_for_endpoints/admissionforendpoints/MessageReader" "lineBytes" "I" (.int (0 : Int32)) ∧ Fld Z h r0 "com/example/admission_for_endpoints/admissionforendpoints/MessageReader" "truncated" "Z" (.int tr) ∧ Fld Z h r0 "com/example/admission_for_endpoints/admissionforendpoints/MessageReader" "bodyBytes" "I" (.int bb) ∧ Fld Z h r0 "com/example/admission_for_endpoints/admissionforendpoints/MessageReader" "left" "J" (.long (0 : Int64))
set_option maxRecDepth 65536 in
set_option maxHeartbeats 40000000 in
theorem rm4o1 (l : Launch) (Z : State) (a0 : Array Value) (hw : ∀ d ∈ tables_1, d.before a0 Z = true) (ws : List Jvm.Cond) (r0 : Addr) (r1 : Addr) (sS ab : Addr) (mx dr lb tr bb : Int32) (lf : Int64) (kb : ClassId) (wD wU : Addr) (h0 : Heap) (n0 : Nat) (Z0 : n0 ≤ h0.size) (E_r : Exa Z h0 r0 "com/example/admission_for_endpoints/admissionforendpoints/MessageReader") (F_stage : Fld Z h0 r0 "com/example/admission_for_endpoints/admissionforendpoints/MessageReader" "stage" "Lcom/example/admission_for_endpoints/admissionforendpoints/MessageReader$Stage;" (.ref sS)) (F_body : Fld Z h0 r0 "com/example/admission_for_endpoints/admissionforendpoints/MessageReader" "body" "[B" (.ref ab)) (F_maxBodyBytes : Fld Z h0 r0 "com/example/admission_for_endpoints/admissionforendpoints/MessageReader" "maxBodyBytes" "I" (.int mx)) (F_dropping : Fld Z h0 r0 "com/example/admission_for_endpoints/admissionforendpoints/MessageReader" "dropping" "Z" (.int dr)) (F_lineBytes : Fld Z h0 r0 "com/example/admission_for_endpoints/admissionforendpoints/MessageReader" "lineBytes" "I" (.int lb)) (F_truncated : Fld Z h0 r0 "com/example/admission_for_endpoints/admissionforendpoints/MessageReader" "truncated" "Z" (.int tr)) (F_bodyBytes : Fld Z h0 r0 "com/example/admission_for_endpoints/admissionforendpoints/MessageReader" "bodyBytes" "I" (.int bb)) (F_left : Fld Z h0 r0 "com/example/admission_for_endpoints/admissionforendpoints/MessageReader" "left" "J" (.long lf)) (V_b : Arv Z h0 ab kb .byte (0 : Int32) [] (.int (0 : Int32))) (S_wD : Sta Z h0 "com/example/admission_for_endpoints/admissionforendpoints/MessageReader$Stage" "DONE" "Lcom/example/admission_for_endpoints/admissionforendpoints/MessageReader$Stage;" (.ref wD)) (S_wU : Sta Z h0 "com/example/admission_for_endpoints/admissionforendpoints/MessageReader$Stage" "UNTIL_CLOSE" "Lcom/example/admission_for_endpoints/admissionforendpoints/MessageReader$Stage;" (.ref wU)) (E_f : Exa Z h0 r1 "com/example/admission_for_endpoints/admissionforendpoints/MessageReader$Framing") (F_o : Fld Z h0 r1 "java/lang/Enum" "ordinal" "I" (.int (1 : Int32))) (g_r0 : n0 ≤ r0) (ne_ab : ab ≠ r0) (ne_f : r1 ≠ r0) :
    MetFree l (⟨"com/example/admission_for_endpoints/admissionforendpoints/MessageReader", "frame", "(Lcom/example/admission_for_endpoints/admissionforendpoints/MessageReader$Framing;J)V"⟩ : MethodName) (head1 (Jvm.Cond.code (⟨"com/example/admission_for_endpoints/admissionforendpoints/MessageReader", "frame", "(Lcom/example/admission_for_endpoints/admissionforendpoints/MessageReader$Framing;J)V"⟩ : MethodName) prog_8_method_7_code 4 none :: ws) ({ frames := 2, cells := 0, slots := 0, locals := 30 } : Room)) (fun a U => a = #[(.ref r0), (.ref r1), (.long (0 : Int64))] ∧ Z.Warmed39 U.vm ∧ U.heap = h0) (fun _ _ _ _ _ => True) (fun _ U o U' => ∃ v L, o = .returned v ∧ Q4o1 Z r0 r1 sS ab mx dr lb tr bb lf kb wD wU h0 n0 v U'.heap L ∧ FrameEnd U o U' L ({ frames := 2, cells := 0, slots := 0, locals := 30 } : Room).cells ({ frames := 2, cells := 0, slots := 0, locals := 30 } : Room).slots) := by
  refine MetFree.of_bodySF (plainFor_of_name pn_com_example_admission_for_endpoints_admissionforendpoints_MessageReader) hisR ?_
  intro p e s m args below meth c s₁ Bd hml0 hP hK
  obtain ⟨rfl, hZ, hh⟩ := hP
  have hx := Bd.exec
  have hby := Bd.bytes
  have hml : c.maxLocals = 4 := hml0
  have hown : s.vm.findClass "com/example/admission_for_endpoints/admissionforendpoints/MessageReader" = some m.cls := findClass_of_methodNamed Bd.named
  have hnm := (name_of_methodNamed Bd.named Bd.method).1
  have X0 : Stand p l e ({ frames := 2, cells := 0, slots := 0, locals := 30 } : Room) s m #[(.ref r0), (.ref r1), (.long (0 : Int64))] below meth c s₁ [] 0 0 := Stand.of_body Bd
  have e0 : s₁.heap = h0 := by rw [← hh, Bd.state]; rfl
  have N0 := Fr.nil n0
  have pre0 : ∀ t, Steps p.tables e below (s₁.setTop (mkF m 0 #[.val (.ref r0), .val (.ref r1), .val (.long (0 : Int64)), .second] [])) t → Steps p.tables e below (s₁.setTop (entryFrame m #[(.ref r0), (.ref r1), (.long (0 : Int64))] 4)) t := fun t k => castTop (ef_4o1 r0 r1 sS ab mx dr lb tr bb lf kb wD wU m) k
  obtain ⟨T1, h1, X1, e1, W1, st1⟩ := putF X0 hx hZ hown (host := "") (Or.inl (hw _ (List.mem_of_getElem? (i := 39) rfl))) Via.refl e0 F_lineBytes E_r (Or.inl (hw _ (List.mem_of_getElem? (i := 40) rfl))) (hw _ (List.mem_of_getElem? (i := 2) rfl)) (ty := .int) (by decide) rfl rfl (g := (mkF m 2 #[.val (.ref r0), .val (.ref r1), .val (.long (0 : Int64)), .second] [(.int (0 : Int32)), (.ref r0)])) rfl rfl (hb hby d4_2)
  have Fw1 : Fld Z h1 r0 "com/example/admission_for_endpoints/admissionforendpoints/MessageReader" "lineBytes" "I" (.int (0 : Int32)) := Fld.same W1 F_lineBytes
  have K1 : Keep h0 h1 [r0] := (Keep.refl h0 [r0]).wr W1 (Or.inl (List.mem_of_getElem? (i := 0) rfl))
  have N1 := Fr.snoc X1 N0 g_r0
  obtain ⟨cq2, kq2, q2a, q2b, q2c⟩ := isOf hZ e1 (Exa.wr W1 E_f)
  obtain ⟨_, _, ⟨T2, L2, k2, n2⟩, -, X2, ⟨Lc2, hQ2, ll2, ly2, lz2⟩, st2⟩ := X1.virtualBackUp hx (x := (⟨"com/example/admission_for_endpoints/admissionforendpoints/MessageReader$Framing", "ordinal", "()I"⟩ : MethodName)) (y := (⟨"java/lang/Enum", "ordinal", "()I"⟩ : MethodName)) (owner := "java/lang/Enum") hown (mvT hZ (hw _ (List.mem_of_getElem? (i := 41) rfl))) (mvT hZ (hw _ (List.mem_of_getElem? (i := 42) rfl))) (mvT hZ (hw _ (List.mem_of_getElem? (i := 43) rfl))) (by decide) (mvT hZ (hw _ (List.mem_of_getElem? (i := 45) rfl))) (mvT hZ (hw _ (List.mem_of_getElem? (i := 44) rfl))) (backOf (W := 0) (rm5 l Z a0 hw [] r1 (1 : Int32) h1 n0 (Nat.le_trans Z0 (Keep.of_wr W1).1) (Fld.other W1 F_o (Or.inl ne_f))) hZ (hw _ (List.mem_of_getElem? (i := 47) rfl)) (hw _ (List.mem_of_getElem? (i := 46) rfl)) (by decide) (by decide)) q2a q2c (g := (mkF m 6 #[.val (.ref r0), .val (.ref r1), .val (.long (0 : Int64)), .second] [(.ref r1)])) rfl (by rw [hml]; rfl) (Steps.refl _) (argsL := []) (rest := []) (lenOf pd___I rfl) rfl (by show 2 * 0 + _ ≤ _; exact Nat.le_of_eq rfl) (hb hby d4_6) (fun _ _ => ⟨rfl, e1, (by decide : 0 + 0 ≤ _), (by decide : 0 + 0 ≤ _)⟩)
  dsimp only [Pt.U, Pt.locs, Pt.cells, Pt.slots] at X2 ll2 ly2 lz2 st2 hQ2
  subst ll2 ly2 lz2
  obtain ⟨rfl, N2q, e2⟩ := hQ2
  have N2 := Fr.app N1 N2q
  obtain ⟨T3, h3, X3, e3, W3, st3⟩ := putF X2 hx hZ hown (host := "") (Or.inl (hw _ (List.mem_of_getElem? (i := 87) rfl))) Via.refl e2 (Fld.other W1 F_left (Or.inr (slot_ne (Or.inl (hw _ (List.mem_of_getElem? (i := 88) rfl))) (Or.inl (hw _ (List.mem_of_getElem? (i := 40) rfl))) (by decide) (t := .long) (t' := .int) (by decide) (by decide)))) (Exa.wr W1 E_r) (Or.inl (hw _ (List.mem_of_getElem? (i := 88) rfl))) (hw _ (List.mem_of_getElem? (i := 2) rfl)) (ty := .long) (by decide) rfl rfl (g := (mkF m 52 #[.val (.ref r0), .val (.ref r1), .val (.long (0 : Int64)), .second] [(.long (0 : Int64)), (.ref r0)])) rfl rfl (hb hby d4_52)
  have Fw3 : Fld Z h3 r0 "com/example/admission_for_endpoints/admissionforendpoints/MessageReader" "left" "J" (.long (0 : Int64)) := Fld.same W3 (Fld.other W1 F_left (Or.inr (slot_ne (Or.inl (hw _ (List.mem_of_getElem? (i := 88) rfl))) (Or.inl (hw _ (List.mem_of_getElem? (i := 40) rfl))) (by decide) (t := .long) (t' := .int) (by decide) (by decide))))
  have K3 : Keep h0 h3 [r0] := K1.wr W3 (Or.inl (List.mem_of_getElem? (i := 0) rfl))
  have N3 := Fr.snoc X3 N2 g_r0
  obtain ⟨T4, X4, e4, st4⟩ := getF X3 hx hZ hown (host := "") (Or.inl (hw _ (List.mem_of_getElem? (i := 87) rfl))) Via.refl e3 Fw3 (g := (mkF m 57 #[.val (.ref r0), .val (.ref r1), .val (.long (0 : Int64)), .second] [(.ref r0), (.ref r0)])) rfl rfl (hb hby d4_57)
  obtain ⟨cq5, qq5, qq5'⟩ := (Exa.wr W3 (Exa.wr W1 E_r)).cell
  obtain ⟨_, _, ⟨T5, L5, k5, n5⟩, -, X5, ⟨Lc5, hQ5, ll5, ly5, lz5⟩, st5⟩ := X4.privateBack hx (y := (⟨"com/example/admission_for_endpoints/admissionforendpoints/MessageReader", "makeRoom", "(J)V"⟩ : MethodName)) hown (mvT hZ (hw _ (List.mem_of_getElem? (i := 51) rfl))) (mvT hZ (hw _ (List.mem_of_getElem? (i := 52) rfl))) (mvT hZ (own_selPriv (by decide) (hw _ (List.mem_of_getElem? (i := 2) rfl)) (hw _ (List.mem_of_getElem? (i := 53) rfl)) (hw _ (List.mem_of_getElem? (i := 52) rfl)))) (Cond.privateMethod_at (mvP hZ (hw _ (List.mem_of_getElem? (i := 53) rfl)) (args := #[]))) (mvT hZ (hw _ (List.mem_of_getElem? (i := 54) rfl))) (by decide) (backOf (W := 0) (rm6z l Z a0 hw [] r0 sS ab mx dr (0 : Int32) tr bb (0 : Int64) kb h3 n0 (Nat.le_trans (Nat.le_trans Z0 (Keep.of_wr W1).1) (Keep.of_wr W3).1) (Exa.wr W3 (Exa.wr W1 E_r)) (Fld.other W3 (Fld.other W1 F_stage (Or.inr (slot_ne (Or.inl (hw _ (List.mem_of_getElem? (i := 14) rfl))) (Or.inl (hw _ (List.mem_of_getElem? (i := 40) rfl))) (by decide) (t := (.object "com/example/admission_for_endpoints/admissionforendpoints/MessageReader$Stage")) (t' := .int) (by decide) (by decide)))) (Or.inr (slot_ne (Or.inl (hw _ (List.mem_of_getElem? (i := 14) rfl))) (Or.inl (hw _ (List.mem_of_getElem? (i := 88) rfl))) (by decide) (t := (.object "com/example/admission_for_endpoints/admissionforendpoints/MessageReader$Stage")) (t' := .long) (by decide) (by decide)))) (Fld.other W3 (Fld.other W1 F_body (Or.inr (slot_ne (Or.inl (hw _ (List.mem_of_getElem? (i := 19) rfl))) (Or.inl (hw _ (List.mem_of_getElem? (i := 40) rfl))) (by decide) (t := (.array .byte)) (t' := .int) (by decide) (by decide)))) (Or.inr (slot_ne (Or.inl (hw _ (List.mem_of_getElem? (i := 19) rfl))) (Or.inl (hw _ (List.mem_of_getElem? (i := 88) rfl))) (by decide) (t := (.array .byte)) (t' := .long) (by decide) (by decide)))) (Fld.other W3 (Fld.other W1 F_maxBodyBytes (Or.inr (slot_ne (Or.inr (hw _ (List.mem_of_getElem? (i := 21) rfl))) (Or.inl (hw _ (List.mem_of_getElem? (i := 40) rfl))) (by decide) (t := .int) (t' := .int) (by decide) (by decide)))) (Or.inr (slot_ne (Or.inr (hw _ (List.mem_of_getElem? (i := 21) rfl))) (Or.inl (hw _ (List.mem_of_getElem? (i := 88) rfl))) (by decide) (t := .int) (t' := .long) (by decide) (by decide)))) (Fld.other W3 (Fld.other W1 F_dropping (Or.inr (slot_ne (Or.inl (hw _ (List.mem_of_getElem? (i := 30) rfl))) (Or.inl (hw _ (List.mem_of_getElem? (i := 40) rfl))) (by decide) (t := .boolean) (t' := .int) (by decide) (by decide)))) (Or.inr (slot_ne (Or.inl (hw _ (List.mem_of_getElem? (i := 30) rfl))) (Or.inl (hw _ (List.mem_of_getElem? (i := 88) rfl))) (by decide) (t := .boolean) (t' := .long) (by decide) (by decide)))) (Fld.other W3 Fw1 (Or.inr (slot_ne (Or.inl (hw _ (List.mem_of_getElem? (i := 40) rfl))) (Or.inl (hw _ (List.mem_of_getElem? (i := 88) rfl))) (by decide) (t := .int) (t' := .long) (by decide) (by decide)))) (Fld.other W3 (Fld.other W1 F_truncated (Or.inr (slot_ne (Or.inl (hw _ (List.mem_of_getElem? (i := 75) rfl))) (Or.inl (hw _ (List.mem_of_getElem? (i := 40) rfl))) (by decide) (t := .boolean) (t' := .int) (by decide) (by decide)))) (Or.inr (slot_ne (Or.inl (hw _ (List.mem_of_getElem? (i := 75) rfl))) (Or.inl (hw _ (List.mem_of_getElem? (i := 88) rfl))) (by decide) (t := .boolean) (t' := .long) (by decide) (by decide)))) (Fld.other W3 (Fld.other W1 F_bodyBytes (Or.inr (slot_ne (Or.inl (hw _ (List.mem_of_getElem? (i := 82) rfl))) (Or.inl (hw _ (List.mem_of_getElem? (i := 40) rfl))) (by decide) (t := .int) (t' := .int) (by decide) (by decide)))) (Or.inr (slot_ne (Or.inl (hw _ (List.mem_of_getElem? (i := 82) rfl))) (Or.inl (hw _ (List.mem_of_getElem? (i := 88) rfl))) (by decide) (t := .int) (t' := .long) (by decide) (by decide)))) Fw3 ((V_b.other W1 ne_ab).other W3 ne_ab) g_r0 ne_ab) hZ (hw _ (List.mem_of_getElem? (i := 54) rfl)) (hw _ (List.mem_of_getElem? (i := 3) rfl)) (by decide) (by decide)) (g := (mkF m 60 #[.val (.ref r0), .val (.ref r1), .val (.long (0 : Int64)), .second] [(.long (0 : Int64)), (.ref r0)])) rfl (by rw [hml]; rfl) (Steps.refl _) (a := r0) (by rw [e4]; exact qq5) qq5' (argsL := [(.long (0 : Int64))]) (rest := []) (lenOf pd__J_V rfl) rfl (by show 2 * 0 + _ ≤ _; exact Nat.le_of_eq rfl) (hb hby d4_60) (fun _ _ => ⟨rfl, e4, (by decide : 0 + 0 ≤ _), (by decide : 0 + 0 ≤ _)⟩)
  dsimp only [Pt.U, Pt.locs, Pt.cells, Pt.slots] at X5 ll5 ly5 lz5 st5 hQ5
  subst ll5 ly5 lz5
  obtain ⟨rfl, N5q, K5c, P5_0, P5_1, P5_2, P5_3, P5_4, P5_5, P5_6, P5_7⟩ := hQ5
  have N5 := Fr.app N3 N5q
  have K5 : Keep h0 T5.heap [r0] := K3.trans K5c (allS (Or.inl (List.mem_of_getElem? (i := 0) rfl)) all0)
  obtain ⟨T6, X6, e6, st6⟩ := getF X5 hx hZ hown (host := "") (Or.inl (hw _ (List.mem_of_getElem? (i := 87) rfl))) Via.refl (rfl : T5.heap = T5.heap) P5_7 (g := (mkF m 65 #[.val (.ref r0), .val (.ref r1), .val (.long (0 : Int64)), .second] [(.ref r0), (.ref r0)])) rfl rfl (hb hby d4_65)
  obtain ⟨T7, X7, e7, st7⟩ := getS2 X6 hx hZ hown (host := "") (Or.inl (hw _ (List.mem_of_getElem? (i := 62) rfl))) Via.refl e6 (own_staK (Sta.wr W3 (Sta.wr W1 S_wD)) K5c (allS (own_exaN (Exa.wr W3 (Exa.wr W1 E_r))) all0)) (g := (mkF m 73 #[.val (.ref r0), .val (.ref r1), .val (.long (0 : Int64)), .second] [(.ref r0)])) rfl (hb hby d4_73)
  obtain ⟨T8, h8, X8, e8, W8, st8⟩ := putF X7 hx hZ hown (host := "") (Or.inl (hw _ (List.mem_of_getElem? (i := 13) rfl))) Via.refl e7 P5_1 P5_0 (Or.inl (hw _ (List.mem_of_getElem? (i := 14) rfl))) (hw _ (List.mem_of_getElem? (i := 2) rfl)) (ty := (.object "com/example/admission_for_endpoints/admissionforendpoints/MessageReader$Stage")) (by decide) rfl rfl (g := (mkF m 82 #[.val (.ref r0), .val (.ref r1), .val (.long (0 : Int64)), .second] [(.ref wD), (.ref r0)])) rfl rfl (hb hby d4_82)
  have Fw8 : Fld Z h8 r0 "com/example/admission_for_endpoints/admissionforendpoints/MessageReader" "stage" "Lcom/example/admission_for_endpoints/admissionforendpoints/MessageReader$Stage;" (.ref wD) := Fld.same W8 P5_1
  have K8 : Keep h0 h8 [r0] := K5.wr W8 (Or.inl (List.mem_of_getElem? (i := 0) rfl))
  have N8 := Fr.snoc X8 N5 g_r0
  obtain ⟨fs, hr, hrun, hended, hW, hsame⟩ := X8.leave (v := none) (fun _ => rfl)
  refine ⟨_, _, pre0 _ ?_, hrun, hended, _, _, rfl, ?_, ⟨_, rfl⟩, hW, hsame.mono (by decide) (by decide)⟩
  · show Steps p.tables e below (s₁.setTop (mkF m 0 #[.val (.ref r0), .val (.ref r1), .val (.long (0 : Int64)), .second] [])) _
    refine XS.aloadN X0.here hx rfl (hb hby d4_0) rfl rfl ?_
    show Steps p.tables e below (s₁.setTop (mkF m 1 #[.val (.ref r0), .val (.ref r1), .val (.long (0 : Int64)), .second] [(.ref r0)])) _
    refine XS.iconst X0.here hx rfl (hb hby d4_1) ?_
    show Steps p.tables e below (s₁.setTop (mkF m 2 #[.val (.ref r0), .val (.ref r1), .val (.long (0 : Int64)), .second] [(.int (0 : Int32)), (.ref r0)])) _
    refine st1 _ ?_
    show Steps p.tables e below (T1.setTop (mkF m 5 #[.val (.ref r0), .val (.ref r1), .val (.long (0 : Int64)), .second] [])) _
    refine XS.aloadN X1.here hx rfl (hb hby d4_5) rfl rfl ?_
    show Steps p.tables e below (T1.setTop (mkF m 6 #[.val (.ref r0), .val (.ref r1), .val (.long (0 : Int64)), .second] [(.ref r1)])) _
    refine st2.trans ?_
    show Steps p.tables e below (T2.setTop (mkF m 9 #[.val (.ref r0), .val (.ref r1), .val (.long (0 : Int64)), .second] [(.int (1 : Int32))])) _
    refine XS.tswIn X2.here hx rfl (pc0 := 9) (pc' := 50) (o := 41) rfl (hb hby d4_9) rfl (by decide) (by decide) (by decide) (by decide) ?_
    show Steps p.tables e below (T2.setTop (mkF m 50 #[.val (.ref r0), .val (.ref r1), .val (.long (0 : Int64)), .second] [])) _
    refine XS.aloadN X2.here hx rfl (hb hby d4_50) rfl rfl ?_
    show Steps p.tables e below (T2.setTop (mkF m 51 #[.val (.ref r0), .val (.ref r1), .val (.long (0 : Int64)), .second] [(.ref r0)])) _
    refine XS.lloadN X2.here hx rfl (hb hby d4_51) rfl ?_
    show Steps p.tables e below (T2.setTop (mkF m 52 #[.val (.ref r0), .val (.ref r1), .val (.long (0 : Int64)), .second] [(.long (0 : Int64)), (.ref r0)])) _
    refine st3 _ ?_
    show Steps p.tables e below (T3.setTop (mkF m 55 #[.val (.ref r0), .val (.ref r1), .val (.long (0 : Int64)), .second] [])) _
    refine XS.aloadN X3.here hx rfl (hb hby d4_55) rfl rfl ?_
    show Steps p.tables e below (T3.setTop (mkF m 56 #[.val (.ref r0), .val (.ref r1), .val (.long (0 : Int64)), .second] [(.ref r0)])) _
    refine XS.aloadN X3.here hx rfl (hb hby d4_56) rfl rfl ?_
    show Steps p.tables e below (T3.setTop (mkF m 57 #[.val (.ref r0), .val (.ref r1), .val (.long (0 : Int64)), .second] [(.ref r0), (.ref r0)])) _
    refine st4 _ ?_
    show Steps p.tables e below (T4.setTop (mkF m 60 #[.val (.ref r0), .val (.ref r1), .val (.long (0 : Int64)), .second] [(.long (0 : Int64)), (.ref r0)])) _
    refine st5.trans ?_
    show Steps p.tables e below (T5.setTop (mkF m 63 #[.val (.ref r0), .val (.ref r1), .val (.long (0 : Int64)), .second] [])) _
    refine XS.aloadN X5.here hx rfl (hb hby d4_63) rfl rfl ?_
    show Steps p.tables e below (T5.setTop (mkF m 64 #[.val (.ref r0), .val (.ref r1), .val (.long (0 : Int64)), .second] [(.ref r0)])) _
    refine XS.aloadN X5.here hx rfl (hb hby d4_64) rfl rfl ?_
    show Steps p.tables e below (T5.setTop (mkF m 65 #[.val (.ref r0), .val (.ref r1), .val (.long (0 : Int64)), .second] [(.ref r0), (.ref r0)])) _
    refine st6 _ ?_
    show Steps p.tables e below (T6.setTop (mkF m 68 #[.val (.ref r0), .val (.ref r1), .val (.long (0 : Int64)), .second] [(.long (0 : Int64)), (.ref r0)])) _
    refine XS.lconst X6.here hx rfl (hb hby d4_68) ?_
    show Steps p.tables e below (T6.setTop (mkF m 69 #[.val (.ref r0), .val (.ref r1), .val (.long (0 : Int64)), .second] [(.long (0 : Int64)), (.long (0 : Int64)), (.ref r0)])) _
    refine XS.lcmp X6.here hx rfl (hb hby d4_69) rfl ?_
    show Steps p.tables e below (T6.setTop (mkF m 70 #[.val (.ref r0), .val (.ref r1), .val (.long (0 : Int64)), .second] [(.int (lcmpW (0 : Int64) (0 : Int64))), (.ref r0)])) _
    refine XS.ifNo X6.here hx rfl (hb hby d4_70) rfl ((if0 _ _).trans (teq ((lw_eq (0 : Int64) (0 : Int64)).mpr rfl)).2) ?_
    show Steps p.tables e below (T6.setTop (mkF m 73 #[.val (.ref r0), .val (.ref r1), .val (.long (0 : Int64)), .second] [(.ref r0)])) _
    refine st7 _ ?_
    show Steps p.tables e below (T7.setTop (mkF m 76 #[.val (.ref r0), .val (.ref r1), .val (.long (0 : Int64)), .second] [(.ref wD), (.ref r0)])) _
    refine XS.goto X7.here hx rfl (pc0 := 76) (pc' := 82) rfl (hb hby d4_76) (by decide) (by decide) ?_
    show Steps p.tables e below (T7.setTop (mkF m 82 #[.val (.ref r0), .val (.ref r1), .val (.long (0 : Int64)), .second] [(.ref wD), (.ref r0)])) _
    refine st8 _ ?_
    show Steps p.tables e below (T8.setTop (mkF m 85 #[.val (.ref r0), .val (.ref r1), .val (.long (0 : Int64)), .second] [])) _
    refine XS.goto X8.here hx rfl (pc0 := 85) (pc' := 119) rfl (hb hby d4_85) (by decide) (by decide) ?_
    show Steps p.tables e below (T8.setTop (mkF m 119 #[.val (.ref r0), .val (.ref r1), .val (.long (0 : Int64)), .second] [])) _
    exact X8.returnOut hx Bd.returns (hb hby d4_119) hr
  · show Q4o1 Z r0 r1 sS ab mx dr lb tr bb lf kb wD wU h0 n0 _ T8.heap _
    rw [e8]
    exact ⟨rfl, N8, K8, (Exa.wr W8 P5_0), Fw8, (Fld.other W8 P5_2 (Or.inr (slot_ne (Or.inr (hw _ (List.mem_of_getElem? (i := 21) rfl))) (Or.inl (hw _ (List.mem_of_getElem? (i := 14) rfl))) (by decide) (t := .int) (t' := (.object "com/example/admission_for_endpoints/admissionforendpoints/MessageReader$Stage")) (by decide) (by decide)))), (Fld.other W8 P5_3 (Or.inr (slot_ne (Or.inl (hw _ (List.mem_of_getElem? (i := 30) rfl))) (Or.inl (hw _ (List.mem_of_getElem? (i := 14) rfl))) (by decide) (t := .boolean) (t' := (.object "com/example/admission_for_endpoints/admissionforendpoints/MessageReader$Stage")) (by decide) (by decide)))), (Fld.other W8 P5_4 (Or.inr (slot_ne (Or.inl (hw _ (List.mem_of_getElem? (i := 40) rfl))) (Or.inl (hw _ (List.mem_of_getElem? (i := 14) rfl))) (by decide) (t := .int) (t' := (.object "com/example/admission_for_endpoints/admissionforendpoints/MessageReader$Stage")) (by decide) (by decide)))), (Fld.other W8 P5_5 (Or.inr (slot_ne (Or.inl (hw _ (List.mem_of_getElem? (i := 75) rfl))) (Or.inl (hw _ (List.mem_of_getElem? (i := 14) rfl))) (by decide) (t := .boolean) (t' := (.object "com/example/admission_for_endpoints/admissionforendpoints/MessageReader$Stage")) (by decide) (by decide)))), (Fld.other W8 P5_6 (Or.inr (slot_ne (Or.inl (hw _ (List.mem_of_getElem? (i := 82) rfl))) (Or.inl (hw _ (List.mem_of_getElem? (i := 14) rfl))) (by decide) (t := .int) (t' := (.object "com/example/admission_for_endpoints/admissionforendpoints/MessageReader$Stage")) (by decide) (by decide)))), (Fld.other W8 P5_7 (Or.inr (slot_ne (Or.inl (hw _ (List.mem_of_getElem? (i := 88) rfl))) (Or.inl (hw _ (List.mem_of_getElem? (i := 14) rfl))) (by decide) (t := .long) (t' := (.object "com/example/admission_for_endpoints/admissionforendpoints/MessageReader$Stage")) (by decide) (by decide))))⟩
theorem d4_105 : decode prog_8_method_7_code 105 = .ok (.aload_n 0, 1) := by decide +kernel
theorem d4_106 : decode prog_8_method_7_code 106 = .ok (.ldc2_w 152, 3) := by decide +kernel
theorem d4_109 : decode prog_8_method_7_code 109 = .ok (.invokevirtual 145, 3) := by decide +kernel
theorem d4_112 : decode prog_8_method_7_code 112 = .ok (.aload_n 0, 1) := by decide +kernel
theorem d4_113 : decode prog_8_method_7_code 113 = .ok (.getstatic 87, 3) := by decide +kernel
theorem d4_116 : decode prog_8_method_7_code 116 = .ok (.putfield 13, 3) := by decide +kernel
theorem ef_4o3 (r0 : Addr) (r1 : Addr) (sS ab : Addr) (mx dr lb tr bb : Int32) (lf : Int64) (kb : ClassId) (wD wU : Addr) (m : MethodId) : entryFrame m #[(.ref r0), (.ref r1), (.long (0 : Int64))] 4 = mkF m 0 #[.val (.ref r0), .val (.ref r1), .val (.long (0 : Int64)), .second] [] := by first | (simp [entryFrame, mkF, argsToLocals, Value.category]; done) | rfl
def Q4o3 (Z : State) (r0 : Addr) (r1 : Addr) (sS ab : Addr) (mx dr lb tr bb : Int32) (lf : Int64) (kb : ClassId) (wD wU : Addr) (h0 : Heap) (n0 : Nat) (v : Option Value) (h : Heap) (L : List Loc) : Prop := v = none ∧ Fr n0 L ∧ Keep h0 h [r0] ∧ Exa Z h r0 "com/example/admission_for_endpoints/admissionforendpoints/MessageReader" ∧ Fld Z h r0 "com/example/admission_for_endpoints/admissionforendpoints/MessageReader" "stage" "Lcom/example/admission_for_endpoints/admissionforendpoints/MessageReader$Stage;" (.ref wU) ∧ Fld Z h r0 "com/example/admission_for_endpoints/admissionforendpoints/MessageReader" "maxBodyBytes" "I" (.int mx) ∧ Fld Z h r0 "com/example/admission_for_endpoints/admissionforendpoints/MessageReader" "dropping" "Z" (.int dr) ∧ Fld Z h r0 "com/example/admission_for_endpoints/admissionforendpoints/MessageReader" "lineBytes" "I" (.int (0 : Int32)) ∧ Fld Z h r0 "com/example/admission_for_endpoints/admissionforendpoints/MessageReader" "truncated" "Z" (.int tr) ∧ Fld Z h r0 "com/example/admission_for_endpoints/admissionforendpoints/MessageReader" "bodyBytes" "I" (.int bb) ∧ Fld Z h r0 "com/example/admission_for_endpoints/admissionforendpoints/MessageReader" "left" "J" (.long lf)
set_option maxRecDepth 65536 in
set_option maxHeartbeats 40000000 in
theorem rm4o3 (l : Launch) (Z : State) (a0 : Array Value) (hw : ∀ d ∈ tables_1, d.before a0 Z = true) (ws : List Jvm.Cond) (r0 : Addr) (r1 : Addr) (sS ab : Addr) (mx dr lb tr bb : Int32) (lf : Int64) (kb : ClassId) (wD wU : Addr) (h0 : Heap) (n0 : Nat) (Z0 : n0 ≤ h0.size) (E_r : Exa Z h0 r0 "com/example/admission_for_endpoints/admissionforendpoints/MessageReader") (F_stage : Fld Z h0 r0 "com/example/admission_for_endpoints/admissionforendpoints/MessageReader" "stage" "Lcom/example/admission_for_endpoints/admissionforendpoints/MessageReader$Stage;" (.ref sS)) (F_body : Fld Z h0 r0 "com/example/admission_for_endpoints/admissionforendpoints/MessageReader" "body" "[B" (.ref ab)) (F_maxBodyBytes : Fld Z h0 r0 "com/example/admission_for_endpoints/admissionforendpoints/MessageReader" "maxBodyBytes" "I" (.int mx)) (F_dropping : Fld Z h0 r0 "com/example/admission_for_endpoints/admissionforendpoints/MessageReader" "dropping" "Z" (.int dr)) (F_lineBytes : Fld Z h0 r0 "com/example/admission_for_endpoints/admissionforendpoints/MessageReader" "lineBytes" "I" (.int lb)) (F_truncated : Fld Z h0 r0 "com/example/admission_for_endpoints/admissionforendpoints/MessageReader" "truncated" "Z" (.int tr)) (F_bodyBytes : Fld Z h0 r0 "com/example/admission_for_endpoints/admissionforendpoints/MessageReader" "bodyBytes" "I" (.int bb)) (F_left : Fld Z h0 r0 "com/example/admission_for_endpoints/admissionforendpoints/MessageReader" "left" "J" (.long lf)) (V_b : Arv Z h0 ab kb .byte (0 : Int32) [] (.int (0 : Int32))) (S_wD : Sta Z h0 "com/example/admission_for_endpoints/admissionforendpoints/MessageReader$Stage" "DONE" "Lcom/example/admission_for_endpoints/admissionforendpoints/MessageReader$Stage;" (.ref wD)) (S_wU : Sta Z h0 "com/example/admission_for_endpoints/admissionforendpoints/MessageReader$Stage" "UNTIL_CLOSE" "Lcom/example/admission_for_endpoints/admissionforendpoints/MessageReader$Stage;" (.ref wU)) (E_f : Exa Z h0 r1 "com/example/admission_for_endpoints/admissionforendpoints/MessageReader$Framing") (F_o : Fld Z h0 r1 "java/lang/Enum" "ordinal" "I" (.int (3 : Int32))) (g_r0 : n0 ≤ r0) (ne_ab : ab ≠ r0) (ne_f : r1 ≠ r0) :
    MetFree l (⟨"com/example/admission_for_endpoints/admissionforendpoints/MessageReader", "frame", "(Lcom/example/admission_for_endpoints/admissionforendpoints/MessageReader$Framing;J)V"⟩ : MethodName) (head1 (Jvm.Cond.code (⟨"com/example/admission_for_endpoints/admissionforendpoints/MessageReader", "frame", "(Lcom/example/admission_for_endpoints/admissionforendpoints/MessageReader$Framing;J)V"⟩ : MethodName) prog_8_method_7_code 4 none :: ws) ({ frames := 3, cells := 1, slots := 4096, locals := 70 } : Room)) (fun a U => a = #[(.ref r0), (.ref r1), (.long (0 : Int64))] ∧ Z.Warmed39 U.vm ∧ U.heap = h0) (fun _ _ _ _ _ => True) (fun _ U o U' => ∃ v L, o = .returned v ∧ Q4o3 Z r0 r1 sS ab mx dr lb tr bb lf kb wD wU h0 n0 v U'.heap L ∧ FrameEnd U o U' L ({ frames := 3, cells := 1, slots := 4096, locals := 70 } : Room).cells ({ frames := 3, cells := 1, slots := 4096, locals := 70 } : Room).slots) := by
  refine MetFree.of_bodySF (plainFor_of_name pn_com_example_admission_for_endpoints_admissionforendpoints_MessageReader) hisR ?_
  intro p e s m args below meth c s₁ Bd hml0 hP hK
  obtain ⟨rfl, hZ, hh⟩ := hP
  have hx := Bd.exec
  have hby := Bd.bytes
  have hml : c.maxLocals = 4 := hml0
  have hown : s.vm.findClass "com/example/admission_for_endpoints/admissionforendpoints/MessageReader" = some m.cls := findClass_of_methodNamed Bd.named
  have hnm := (name_of_methodNamed Bd.named Bd.method).1
  have X0 : Stand p l e ({ frames := 3, cells := 1, slots := 4096, locals := 70 } : Room) s m #[(.ref r0), (.ref r1), (.long (0 : Int64))] below meth c s₁ [] 0 0 := Stand.of_body Bd
  have e0 : s₁.heap = h0 := by rw [← hh, Bd.state]; rfl
  have N0 := Fr.nil n0
  have pre0 : ∀ t, Steps p.tables e below (s₁.setTop (mkF m 0 #[.val (.ref r0), .val (.ref r1), .val (.long (0 : Int64)), .second] [])) t → Steps p.tables e below (s₁.setTop (entryFrame m #[(.ref r0), (.ref r1), (.long (0 : Int64))] 4)) t := fun t k => castTop (ef_4o3 r0 r1 sS ab mx dr lb tr bb lf kb wD wU m) k
  obtain ⟨T1, h1, X1, e1, W1, st1⟩ := putF X0 hx hZ hown (host := "") (Or.inl (hw _ (List.mem_of_getElem? (i := 39) rfl))) Via.refl e0 F_lineBytes E_r (Or.inl (hw _ (List.mem_of_getElem? (i := 40) rfl))) (hw _ (List.mem_of_getElem? (i := 2) rfl)) (ty := .int) (by decide) rfl rfl (g := (mkF m 2 #[.val (.ref r0), .val (.ref r1), .val (.long (0 : Int64)), .second] [(.int (0 : Int32)), (.ref r0)])) rfl rfl (hb hby d4_2)
  have Fw1 : Fld Z h1 r0 "com/example/admission_for_endpoints/admissionforendpoints/MessageReader" "lineBytes" "I" (.int (0 : Int32)) := Fld.same W1 F_lineBytes
  have K1 : Keep h0 h1 [r0] := (Keep.refl h0 [r0]).wr W1 (Or.inl (List.mem_of_getElem? (i := 0) rfl))
  have N1 := Fr.snoc X1 N0 g_r0
  obtain ⟨cq2, kq2, q2a, q2b, q2c⟩ := isOf hZ e1 (Exa.wr W1 E_f)
  obtain ⟨_, _, ⟨T2, L2, k2, n2⟩, -, X2, ⟨Lc2, hQ2, ll2, ly2, lz2⟩, st2⟩ := X1.virtualBackUp hx (x := (⟨"com/example/admission_for_endpoints/admissionforendpoints/MessageReader$Framing", "ordinal", "()I"⟩ : MethodName)) (y := (⟨"java/lang/Enum", "ordinal", "()I"⟩ : MethodName)) (owner := "java/lang/Enum") hown (mvT hZ (hw _ (List.mem_of_getElem? (i := 41) rfl))) (mvT hZ (hw _ (List.mem_of_getElem? (i := 42) rfl))) (mvT hZ (hw _ (List.mem_of_getElem? (i := 43) rfl))) (by decide) (mvT hZ (hw _ (List.mem_of_getElem? (i := 45) rfl))) (mvT hZ (hw _ (List.mem_of_getElem? (i := 44) rfl))) (backOf (W := 0) (rm5 l Z a0 hw [] r1 (3 : Int32) h1 n0 (Nat.le_trans Z0 (Keep.of_wr W1).1) (Fld.other W1 F_o (Or.inl ne_f))) hZ (hw _ (List.mem_of_getElem? (i := 47) rfl)) (hw _ (List.mem_of_getElem? (i := 46) rfl)) (by decide) (by decide)) q2a q2c (g := (mkF m 6 #[.val (.ref r0), .val (.ref r1), .val (.long (0 : Int64)), .second] [(.ref r1)])) rfl (by rw [hml]; rfl) (Steps.refl _) (argsL := []) (rest := []) (lenOf pd___I rfl) rfl (by show 2 * 0 + _ ≤ _; exact Nat.le_of_eq rfl) (hb hby d4_6) (fun _ _ => ⟨rfl, e1, (by decide : 0 + 0 ≤ _), (by decide : 0 + 0 ≤ _)⟩)
  dsimp only [Pt.U, Pt.locs, Pt.cells, Pt.slots] at X2 ll2 ly2 lz2 st2 hQ2
  subst ll2 ly2 lz2
  obtain ⟨rfl, N2q, e2⟩ := hQ2
  have N2 := Fr.app N1 N2q
  obtain ⟨cq3, qq3, qq3'⟩ := (Exa.wr W1 E_r).cell
  obtain ⟨_, _, ⟨T3, L3, k3, n3⟩, -, X3, ⟨Lc3, hQ3, ll3, ly3, lz3⟩, st3⟩ := X2.privateBack hx (y := (⟨"com/example/admission_for_endpoints/admissionforendpoints/MessageReader", "makeRoom", "(J)V"⟩ : MethodName)) hown (mvT hZ (hw _ (List.mem_of_getElem? (i := 51) rfl))) (mvT hZ (hw _ (List.mem_of_getElem? (i := 52) rfl))) (mvT hZ (own_selPriv (by decide) (hw _ (List.mem_of_getElem? (i := 2) rfl)) (hw _ (List.mem_of_getElem? (i := 53) rfl)) (hw _ (List.mem_of_getElem? (i := 52) rfl)))) (Cond.privateMethod_at (mvP hZ (hw _ (List.mem_of_getElem? (i := 53) rfl)) (args := #[]))) (mvT hZ (hw _ (List.mem_of_getElem? (i := 54) rfl))) (by decide) (backOf (W := 0) (rm6m l Z a0 hw [] r0 sS ab mx dr (0 : Int32) tr bb lf kb h1 n0 (Nat.le_trans Z0 (Keep.of_wr W1).1) (Exa.wr W1 E_r) (Fld.other W1 F_stage (Or.inr (slot_ne (Or.inl (hw _ (List.mem_of_getElem? (i := 14) rfl))) (Or.inl (hw _ (List.mem_of_getElem? (i := 40) rfl))) (by decide) (t := (.object "com/example/admission_for_endpoints/admissionforendpoints/MessageReader$Stage")) (t' := .int) (by decide) (by decide)))) (Fld.other W1 F_body (Or.inr (slot_ne (Or.inl (hw _ (List.mem_of_getElem? (i := 19) rfl))) (Or.inl (hw _ (List.mem_of_getElem? (i := 40) rfl))) (by decide) (t := (.array .byte)) (t' := .int) (by decide) (by decide)))) (Fld.other W1 F_maxBodyBytes (Or.inr (slot_ne (Or.inr (hw _ (List.mem_of_getElem? (i := 21) rfl))) (Or.inl (hw _ (List.mem_of_getElem? (i := 40) rfl))) (by decide) (t := .int) (t' := .int) (by decide) (by decide)))) (Fld.other W1 F_dropping (Or.inr (slot_ne (Or.inl (hw _ (List.mem_of_getElem? (i := 30) rfl))) (Or.inl (hw _ (List.mem_of_getElem? (i := 40) rfl))) (by decide) (t := .boolean) (t' := .int) (by decide) (by decide)))) Fw1 (Fld.other W1 F_truncated (Or.inr (slot_ne (Or.inl (hw _ (List.mem_of_getElem? (i := 75) rfl))) (Or.inl (hw _ (List.mem_of_getElem? (i := 40) rfl))) (by decide) (t := .boolean) (t' := .int) (by decide) (by decide)))) (Fld.other W1 F_bodyBytes (Or.inr (slot_ne (Or.inl (hw _ (List.mem_of_getElem? (i := 82) rfl))) (Or.inl (hw _ (List.mem_of_getElem? (i := 40) rfl))) (by decide) (t := .int) (t' := .int) (by decide) (by decide)))) (Fld.other W1 F_left (Or.inr (slot_ne (Or.inl (hw _ (List.mem_of_getElem? (i := 88) rfl))) (Or.inl (hw _ (List.mem_of_getElem? (i := 40) rfl))) (by decide) (t := .long) (t' := .int) (by decide) (by decide)))) (V_b.other W1 ne_ab) g_r0 ne_ab) hZ (hw _ (List.mem_of_getElem? (i := 54) rfl)) (hw _ (List.mem_of_getElem? (i := 3) rfl)) (by decide) (by decide)) (g := (mkF m 109 #[.val (.ref r0), .val (.ref r1), .val (.long (0 : Int64)), .second] [(.long (4096 : Int64)), (.ref r0)])) rfl (by rw [hml]; rfl) (Steps.refl _) (a := r0) (by rw [e2]; exact qq3) qq3' (argsL := [(.long (4096 : Int64))]) (rest := []) (lenOf pd__J_V rfl) rfl (by show 2 * 0 + _ ≤ _; exact Nat.le_of_eq rfl) (hb hby d4_109) (fun _ _ => ⟨rfl, e2, (by decide : 0 + 1 ≤ _), (by decide : 0 + 4096 ≤ _)⟩)
  dsimp only [Pt.U, Pt.locs, Pt.cells, Pt.slots] at X3 ll3 ly3 lz3 st3 hQ3
  subst ll3 ly3 lz3
  obtain ⟨rfl, N3q, K3c, P3_0, P3_1, P3_2, P3_3, P3_4, P3_5, P3_6, P3_7⟩ := hQ3
  have N3 := Fr.app N2 N3q
  have K3 : Keep h0 T3.heap [r0] := K1.trans K3c (allS (Or.inl (List.mem_of_getElem? (i := 0) rfl)) all0)
  obtain ⟨T4, X4, e4, st4⟩ := getS2 X3 hx hZ hown (host := "") (Or.inl (hw _ (List.mem_of_getElem? (i := 55) rfl))) Via.refl (rfl : T3.heap = T3.heap) (own_staK (Sta.wr W1 S_wU) K3c (allS (own_exaN (Exa.wr W1 E_r)) all0)) (g := (mkF m 113 #[.val (.ref r0), .val (.ref r1), .val (.long (0 : Int64)), .second] [(.ref r0)])) rfl (hb hby d4_113)
  obtain ⟨T5, h5, X5, e5, W5, st5⟩ := putF X4 hx hZ hown (host := "") (Or.inl (hw _ (List.mem_of_getElem? (i := 13) rfl))) Via.refl e4 P3_1 P3_0 (Or.inl (hw _ (List.mem_of_getElem? (i := 14) rfl))) (hw _ (List.mem_of_getElem? (i := 2) rfl)) (ty := (.object "com/example/admission_for_endpoints/admissionforendpoints/MessageReader$Stage")) (by decide) rfl rfl (g := (mkF m 116 #[.val (.ref r0), .val (.ref r1), .val (.long (0 : Int64)), .second] [(.ref wU), (.ref r0)])) rfl rfl (hb hby d4_116)
  have Fw5 : Fld Z h5 r0 "com/example/admission_for_endpoints/admissionforendpoints/MessageReader" "stage" "Lcom/example/admission_for_endpoints/admissionforendpoints/MessageReader$Stage;" (.ref wU) := Fld.same W5 P3_1
  have K5 : Keep h0 h5 [r0] := K3.wr W5 (Or.inl (List.mem_of_getElem? (i := 0) rfl))
  have N5 := Fr.snoc X5 N3 g_r0
  obtain ⟨fs, hr, hrun, hended, hW, hsame⟩ := X5.leave (v := none) (fun _ => rfl)
  refine ⟨_, _, pre0 _ ?_, hrun, hended, _, _, rfl, ?_, ⟨_, rfl⟩, hW, hsame.mono (by decide) (by decide)⟩
  · show Steps p.tables e below (s₁.setTop (mkF m 0 #[.val (.ref r0), .val (.ref r1), .val (.long (0 : Int64)), .second] [])) _
    refine XS.aloadN X0.here hx rfl (hb hby d4_0) rfl rfl ?_
    show Steps p.tables e below (s₁.setTop (mkF m 1 #[.val (.ref r0), .val (.ref r1), .val (.long (0 : Int64)), .second] [(.ref r0)])) _
    refine XS.iconst X0.here hx rfl (hb hby d4_1) ?_
    show Steps p.tables e below (s₁.setTop (mkF m 2 #[.val (.ref r0), .val (.ref r1), .val (.long (0 : Int64)), .second] [(.int (0 : Int32)), (.ref r0)])) _
    refine st1 _ ?_
    show Steps p.tables e below (T1.setTop (mkF m 5 #[.val (.ref r0), .val (.ref r1), .val (.long (0 : Int64)), .second] [])) _
    refine XS.aloadN X1.here hx rfl (hb hby d4_5) rfl rfl ?_
    show Steps p.tables e below (T1.setTop (mkF m 6 #[.val (.ref r0), .val (.ref r1), .val (.long (0 : Int64)), .second] [(.ref r1)])) _
    refine st2.trans ?_
    show Steps p.tables e below (T2.setTop (mkF m 9 #[.val (.ref r0), .val (.ref r1), .val (.long (0 : Int64)), .second] [(.int (3 : Int32))])) _
    refine XS.tswIn X2.here hx rfl (pc0 := 9) (pc' := 105) (o := 96) rfl (hb hby d4_9) rfl (by decide) (by decide) (by decide) (by decide) ?_
    show Steps p.tables e below (T2.setTop (mkF m 105 #[.val (.ref r0), .val (.ref r1), .val (.long (0 : Int64)), .second] [])) _
    refine XS.aloadN X2.here hx rfl (hb hby d4_105) rfl rfl ?_
    show Steps p.tables e below (T2.setTop (mkF m 106 #[.val (.ref r0), .val (.ref r1), .val (.long (0 : Int64)), .second] [(.ref r0)])) _
    refine X2.ldc2Long hx hown (mvT hZ (hw _ (List.mem_of_getElem? (i := 50) rfl))) (g := (mkF m 106 #[.val (.ref r0), .val (.ref r1), .val (.long (0 : Int64)), .second] [(.ref r0)])) rfl (hb hby d4_106) _ ?_
    show Steps p.tables e below (T2.setTop (mkF m 109 #[.val (.ref r0), .val (.ref r1), .val (.long (0 : Int64)), .second] [(.long (4096 : Int64)), (.ref r0)])) _
    refine st3.trans ?_
    show Steps p.tables e below (T3.setTop (mkF m 112 #[.val (.ref r0), .val (.ref r1), .val (.long (0 : Int64)), .second] [])) _
    refine XS.aloadN X3.here hx rfl (hb hby d4_112) rfl rfl ?_
    show Steps p.tables e below (T3.setTop (mkF m 113 #[.val (.ref r0), .val (.ref r1), .val (.long (0 : Int64)), .second] [(.ref r0)])) _
    refine st4 _ ?_
    show Steps p.tables e below (T4.setTop (mkF m 116 #[.val (.ref r0), .val (.ref r1), .val (.long (0 : Int64)), .second] [(.ref wU), (.ref r0)])) _
    refine st5 _ ?_
    show Steps p.tables e below (T5.setTop (mkF m 119 #[.val (.ref r0), .val (.ref r1), .val (.long (0 : Int64)), .second] [])) _
    exact X5.returnOut hx Bd.returns (hb hby d4_119) hr
  · show Q4o3 Z r0 r1 sS ab mx dr lb tr bb lf kb wD wU h0 n0 _ T5.heap _
    rw [e5]
    exact ⟨rfl, N5, K5, (Exa.wr W5 P3_0), Fw5, (Fld.other W5 P3_2 (Or.inr (slot_ne (Or.inr (hw _ (List.mem_of_getElem? (i := 21) rfl))) (Or.inl (hw _ (List.mem_of_getElem? (i := 14) rfl))) (by decide) (t := .int) (t' := (.object "com/example/admission_for_endpoints/admissionforendpoints/MessageReader$Stage")) (by decide) (by decide)))), (Fld.other W5 P3_3 (Or.inr (slot_ne (Or.inl (hw _ (List.mem_of_getElem? (i := 30) rfl))) (Or.inl (hw _ (List.mem_of_getElem? (i := 14) rfl))) (by decide) (t := .boolean) (t' := (.object "com/example/admission_for_endpoints/admissionforendpoints/MessageReader$Stage")) (by decide) (by decide)))), (Fld.other W5 P3_4 (Or.inr (slot_ne (Or.inl (hw _ (List.mem_of_getElem? (i := 40) rfl))) (Or.inl (hw _ (List.mem_of_getElem? (i := 14) rfl))) (by decide) (t := .int) (t' := (.object "com/example/admission_for_endpoints/admissionforendpoints/MessageReader$Stage")) (by decide) (by decide)))), (Fld.other W5 P3_5 (Or.inr (slot_ne (Or.inl (hw _ (List.mem_of_getElem? (i := 75) rfl))) (Or.inl (hw _ (List.mem_of_getElem? (i := 14) rfl))) (by decide) (t := .boolean) (t' := (.object "com/example/admission_for_endpoints/admissionforendpoints/MessageReader$Stage")) (by decide) (by decide)))), (Fld.other W5 P3_6 (Or.inr (slot_ne (Or.inl (hw _ (List.mem_of_getElem? (i := 82) rfl))) (Or.inl (hw _ (List.mem_of_getElem? (i := 14) rfl))) (by decide) (t := .int) (t' := (.object "com/example/admission_for_endpoints/admissionforendpoints/MessageReader$Stage")) (by decide) (by decide)))), (Fld.other W5 P3_7 (Or.inr (slot_ne (Or.inl (hw _ (List.mem_of_getElem? (i := 88) rfl))) (Or.inl (hw _ (List.mem_of_getElem? (i := 14) rfl))) (by decide) (t := .long) (t' := (.object "com/example/admission_for_endpoints/admissionforendpoints/MessageReader$Stage")) (by decide) (by decide))))⟩
theorem d7_0 : decode prog_8_method_10_code 0 = .ok (.aload_n 0, 1) := by decide +kernel
theorem d7_1 : decode prog_8_method_10_code 1 = .ok (.getfield 13, 3) := by decide +kernel
theorem d7_4 : decode prog_8_method_10_code 4 = .ok (.getstatic 39, 3) := by decide +kernel
theorem d7_7 : decode prog_8_method_10_code 7 = .ok (.if_acmp .ne 7, 3) := by decide +kernel
theorem d7_10 : decode prog_8_method_10_code 10 = .ok (.iconst 1, 1) := by decide +kernel
theorem d7_11 : decode prog_8_method_10_code 11 = .ok (.goto 4, 3) := by decide +kernel
theorem d7_15 : decode prog_8_method_10_code 15 = .ok (.ireturn, 1) := by decide +kernel
theorem ef_7d (r0 : Addr) (wD : Addr) (m : MethodId) : entryFrame m #[(.ref r0)] 1 = mkF m 0 #[.val (.ref r0)] [] := by first | (simp [entryFrame, mkF, argsToLocals, Value.category]; done) | rfl
def Q7d (Z : State) (r0 : Addr) (wD : Addr) (h0 : Heap) (n0 : Nat) (v : Option Value) (h : Heap) (L : List Loc) : Prop := v = some (.int (1 : Int32)) ∧ Fr n0 L ∧ h = h0
set_option maxRecDepth 65536 in
set_option maxHeartbeats 40000000 in
theorem rm7d (l : Launch) (Z : State) (a0 : Array Value) (hw : ∀ d ∈ tables_1, d.before a0 Z = true) (ws : List Jvm.Cond) (r0 : Addr) (wD : Addr) (h0 : Heap) (n0 : Nat) (Z0 : n0 ≤ h0.size) (F_s : Fld Z h0 r0 "com/example/admission_for_endpoints/admissionforendpoints/MessageReader" "stage" "Lcom/example/admission_for_endpoints/admissionforendpoints/MessageReader$Stage;" (.ref wD)) (S_wD : Sta Z h0 "com/example/admission_for_endpoints/admissionforendpoints/MessageReader$Stage" "DONE" "Lcom/example/admission_for_endpoints/admissionforendpoints/MessageReader$Stage;" (.ref wD)) :
    MetFree l (⟨"com/example/admission_for_endpoints/admissionforendpoints/MessageReader", "ended", "()Z"⟩ : MethodName) (head1 (Jvm.Cond.code (⟨"com/example/admission_for_endpoints/admissionforendpoints/MessageReader", "ended", "()Z"⟩ : MethodName) prog_8_method_10_code 1 (some .boolean) :: ws) ({ frames := 0, cells := 0, slots := 0, locals := 0 } : Room)) (fun a U => a = #[(.ref r0)] ∧ Z.Warmed39 U.vm ∧ U.heap = h0) (fun _ _ _ _ _ => True) (fun _ U o U' => ∃ v L, o = .returned v ∧ Q7d Z r0 wD h0 n0 v U'.heap L ∧ FrameEnd U o U' L ({ frames := 0, cells := 0, slots := 0, locals := 0 } : Room).cells ({ frames := 0, cells := 0, slots := 0, locals := 0 } : Room).slots) := by
  refine MetFree.of_bodySF (plainFor_of_name pn_com_example_admission_for_endpoints_admissionforendpoints_MessageReader) hisR ?_
  intro p e s m args below meth c s₁ Bd hml0 hP hK
  obtain ⟨rfl, hZ, hh⟩ := hP
  have hx := Bd.exec
  have hby := Bd.bytes
  have hml : c.maxLocals = 1 := hml0
  have hown : s.vm.findClass "com/example/admission_for_endpoints/admissionforendpoints/MessageReader" = some m.cls := findClass_of_methodNamed Bd.named
  have hnm := (name_of_methodNamed Bd.named Bd.method).1
  have X0 : Stand p l e ({ frames := 0, cells := 0, slots := 0, locals := 0 } : Room) s m #[(.ref r0)] below meth c s₁ [] 0 0 := Stand.of_body Bd
  have e0 : s₁.heap = h0 := by rw [← hh, Bd.state]; rfl
  have N0 := Fr.nil n0
  have pre0 : ∀ t, Steps p.tables e below (s₁.setTop (mkF m 0 #[.val (.ref r0)] [])) t → Steps p.tables e below (s₁.setTop (entryFrame m #[(.ref r0)] 1)) t := fun t k => castTop (ef_7d r0 wD m) k
  obtain ⟨T1, X1, e1, st1⟩ := getF X0 hx hZ hown (host := "") (Or.inl (hw _ (List.mem_of_getElem? (i := 13) rfl))) Via.refl e0 F_s (g := (mkF m 1 #[.val (.ref r0)] [(.ref r0)])) rfl rfl (hb hby d7_1)
  obtain ⟨T2, X2, e2, st2⟩ := getS2 X1 hx hZ hown (host := "") (Or.inl (hw _ (List.mem_of_getElem? (i := 62) rfl))) Via.refl e1 S_wD (g := (mkF m 4 #[.val (.ref r0)] [(.ref wD)])) rfl (hb hby d7_4)
  obtain ⟨fs, hr, hrun, hended, hW, hsame⟩ := X2.leave (v := some (.int (1 : Int32))) (fun h => by rw [Bd.returns] at h; cases h)
  refine ⟨_, _, pre0 _ ?_, hrun, hended, _, _, rfl, ?_, ⟨_, rfl⟩, hW, hsame.mono (by decide) (by decide)⟩
  · show Steps p.tables e below (s₁.setTop (mkF m 0 #[.val (.ref r0)] [])) _
    refine XS.aloadN X0.here hx rfl (hb hby d7_0) rfl rfl ?_
    show Steps p.tables e below (s₁.setTop (mkF m 1 #[.val (.ref r0)] [(.ref r0)])) _
    refine st1 _ ?_
    show Steps p.tables e below (T1.setTop (mkF m 4 #[.val (.ref r0)] [(.ref wD)])) _
    refine st2 _ ?_
    show Steps p.tables e below (T2.setTop (mkF m 7 #[.val (.ref r0)] [(.ref wD), (.ref wD)])) _
    refine Jvm.RoadKit.acmp (g := (mkF m 7 #[.val (.ref r0)] [(.ref wD), (.ref wD)])) X2 hx rfl rfl rfl (pc0 := 7) (pc' := 10) (same := true) rfl (hb hby d7_7) rfl (decide_eq_true rfl) (by decide) (by decide) ?_
    show Steps p.tables e below (T2.setTop (mkF m 10 #[.val (.ref r0)] [])) _
    refine XS.iconst X2.here hx rfl (hb hby d7_10) ?_
    show Steps p.tables e below (T2.setTop (mkF m 11 #[.val (.ref r0)] [(.int (1 : Int32))])) _
    refine XS.goto X2.here hx rfl (pc0 := 11) (pc' := 15) rfl (hb hby d7_11) (by decide) (by decide) ?_
    show Steps p.tables e below (T2.setTop (mkF m 15 #[.val (.ref r0)] [(.int (1 : Int32))])) _
    exact retN X2 hx (t := .boolean) Bd.returns (by simp) (hb hby d7_15) hr
  · show Q7d Z r0 wD h0 n0 _ T2.heap _
    rw [e2]
    exact ⟨rfl, N0, rfl⟩
theorem d7_14 : decode prog_8_method_10_code 14 = .ok (.iconst 0, 1) := by decide +kernel
theorem ef_7u (r0 : Addr) (wU wD : Addr) (m : MethodId) : entryFrame m #[(.ref r0)] 1 = mkF m 0 #[.val (.ref r0)] [] := by first | (simp [entryFrame, mkF, argsToLocals, Value.category]; done) | rfl
def Q7u (Z : State) (r0 : Addr) (wU wD : Addr) (h0 : Heap) (n0 : Nat) (v : Option Value) (h : Heap) (L : List Loc) : Prop := v = some (.int (0 : Int32)) ∧ Fr n0 L ∧ h = h0
set_option maxRecDepth 65536 in
set_option maxHeartbeats 40000000 in
theorem rm7u (l : Launch) (Z : State) (a0 : Array Value) (hw : ∀ d ∈ tables_1, d.before a0 Z = true) (ws : List Jvm.Cond) (r0 : Addr) (wU wD : Addr) (h0 : Heap) (n0 : Nat) (Z0 : n0 ≤ h0.size) (F_s : Fld Z h0 r0 "com/example/admission_for_endpoints/admissionforendpoints/MessageReader" "stage" "Lcom/example/admission_for_endpoints/admissionforendpoints/MessageReader$Stage;" (.ref wU)) (S_wD : Sta Z h0 "com/example/admission_for_endpoints/admissionforendpoints/MessageReader$Stage" "DONE" "Lcom/example/admission_for_endpoints/admissionforendpoints/MessageReader$Stage;" (.ref wD)) (ne_UD : wU ≠ wD) :
    MetFree l (⟨"com/example/admission_for_endpoints/admissionforendpoints/MessageReader", "ended", "()Z"⟩ : MethodName) (head1 (Jvm.Cond.code (⟨"com/example/admission_for_endpoints/admissionforendpoints/MessageReader", "ended", "()Z"⟩ : MethodName) prog_8_method_10_code 1 (some .boolean) :: ws) ({ frames := 0, cells := 0, slots := 0, locals := 0 } : Room)) (fun a U => a = #[(.ref r0)] ∧ Z.Warmed39 U.vm ∧ U.heap = h0) (fun _ _ _ _ _ => True) (fun _ U o U' => ∃ v L, o = .returned v ∧ Q7u Z r0 wU wD h0 n0 v U'.heap L ∧ FrameEnd U o U' L ({ frames := 0, cells := 0, slots := 0, locals := 0 } : Room).cells ({ frames := 0, cells := 0, slots := 0, locals := 0 } : Room).slots) := by
  refine MetFree.of_bodySF (plainFor_of_name pn_com_example_admission_for_endpoints_admissionforendpoints_MessageReader) hisR ?_
  intro p e s m args below meth c s₁ Bd hml0 hP hK
  obtain ⟨rfl, hZ, hh⟩ := hP
  have hx := Bd.exec
  have hby := Bd.bytes
  have hml : c.maxLocals = 1 := hml0
  have hown : s.vm.findClass "com/example/admission_for_endpoints/admissionforendpoints/MessageReader" = some m.cls := findClass_of_methodNamed Bd.named
  have hnm := (name_of_methodNamed Bd.named Bd.method).1
  have X0 : Stand p l e ({ frames := 0, cells := 0, slots := 0, locals := 0 } : Room) s m #[(.ref r0)] below meth c s₁ [] 0 0 := Stand.of_body Bd
  have e0 : s₁.heap = h0 := by rw [← hh, Bd.state]; rfl
  have N0 := Fr.nil n0
  have pre0 : ∀ t, Steps p.tables e below (s₁.setTop (mkF m 0 #[.val (.ref r0)] [])) t → Steps p.tables e below (s₁.setTop (entryFrame m #[(.ref r0)] 1)) t := fun t k => castTop (ef_7u r0 wU wD m) k
  obtain ⟨T1, X1, e1, st1⟩ := getF X0 hx hZ hown (host := "") (Or.inl (hw _ (List.mem_of_getElem? (i := 13) rfl))) Via.refl e0 F_s (g := (mkF m 1 #[.val (.ref r0)] [(.ref r0)])) rfl rfl (hb hby d7_1)
  obtain ⟨T2, X2, e2, st2⟩ := getS2 X1 hx hZ hown (host := "") (Or.inl (hw _ (List.mem_of_getElem? (i := 62) rfl))) Via.refl e1 S_wD (g := (mkF m 4 #[.val (.ref r0)] [(.ref wU)])) rfl (hb hby d7_4)
  obtain ⟨fs, hr, hrun, hended, hW, hsame⟩ := X2.leave (v := some (.int (0 : Int32))) (fun h => by rw [Bd.returns] at h; cases h)
  refine ⟨_, _, pre0 _ ?_, hrun, hended, _, _, rfl, ?_, ⟨_, rfl⟩, hW, hsame.mono (by decide) (by decide)⟩
  · show Steps p.tables e below (s₁.setTop (mkF m 0 #[.val (.ref r0)] [])) _
    refine XS.aloadN X0.here hx rfl (hb hby d7_0) rfl rfl ?_
    show Steps p.tables e below (s₁.setTop (mkF m 1 #[.val (.ref r0)] [(.ref r0)])) _
    refine st1 _ ?_
    show Steps p.tables e below (T1.setTop (mkF m 4 #[.val (.ref r0)] [(.ref wU)])) _
    refine st2 _ ?_
    show Steps p.tables e below (T2.setTop (mkF m 7 #[.val (.ref r0)] [(.ref wD), (.ref wU)])) _
    refine Jvm.RoadKit.acmp (g := (mkF m 7 #[.val (.ref r0)] [(.ref wD), (.ref wU)])) X2 hx rfl rfl rfl (pc0 := 7) (pc' := 14) (same := false) rfl (hb hby d7_7) rfl (decide_eq_false fun q => ne_UD (Value.ref.inj q)) (by decide) (by decide) ?_
    show Steps p.tables e below (T2.setTop (mkF m 14 #[.val (.ref r0)] [])) _
    refine XS.iconst X2.here hx rfl (hb hby d7_14) ?_
    show Steps p.tables e below (T2.setTop (mkF m 15 #[.val (.ref r0)] [(.int (0 : Int32))])) _
    exact retN X2 hx (t := .boolean) Bd.returns (by simp) (hb hby d7_15) hr
  · show Q7u Z r0 wU wD h0 n0 _ T2.heap _
    rw [e2]
    exact ⟨rfl, N0, rfl⟩
theorem d8_0 : decode prog_8_method_3_code 0 = .ok (.aload_n 0, 1) := by decide +kernel
theorem d8_1 : decode prog_8_method_3_code 1 = .ok (.getfield 13, 3) := by decide +kernel
theorem d8_4 : decode prog_8_method_3_code 4 = .ok (.getstatic 87, 3) := by decide +kernel
theorem d8_7 : decode prog_8_method_3_code 7 = .ok (.if_acmp .ne 13, 3) := by decide +kernel
theorem d8_20 : decode prog_8_method_3_code 20 = .ok (.aload_n 0, 1) := by decide +kernel
theorem d8_21 : decode prog_8_method_3_code 21 = .ok (.getfield 13, 3) := by decide +kernel
theorem d8_24 : decode prog_8_method_3_code 24 = .ok (.getstatic 39, 3) := by decide +kernel
theorem d8_27 : decode prog_8_method_3_code 27 = .ok (.if_acmp .eq 13, 3) := by decide +kernel
theorem d8_40 : decode prog_8_method_3_code 40 = .ok (.iconst 1, 1) := by decide +kernel
theorem d8_41 : decode prog_8_method_3_code 41 = .ok (.ireturn, 1) := by decide +kernel
theorem ef_8d (r0 : Addr) (wD wU : Addr) (m : MethodId) : entryFrame m #[(.ref r0)] 1 = mkF m 0 #[.val (.ref r0)] [] := by first | (simp [entryFrame, mkF, argsToLocals, Value.category]; done) | rfl
def Q8d (Z : State) (r0 : Addr) (wD wU : Addr) (h0 : Heap) (n0 : Nat) (v : Option Value) (h : Heap) (L : List Loc) : Prop := v = some (.int (1 : Int32)) ∧ Fr n0 L ∧ h = h0
set_option maxRecDepth 65536 in
set_option maxHeartbeats 40000000 in
theorem rm8d (l : Launch) (Z : State) (a0 : Array Value) (hw : ∀ d ∈ tables_1, d.before a0 Z = true) (ws : List Jvm.Cond) (r0 : Addr) (wD wU : Addr) (h0 : Heap) (n0 : Nat) (Z0 : n0 ≤ h0.size) (F_s : Fld Z h0 r0 "com/example/admission_for_endpoints/admissionforendpoints/MessageReader" "stage" "Lcom/example/admission_for_endpoints/admissionforendpoints/MessageReader$Stage;" (.ref wD)) (S_wD : Sta Z h0 "com/example/admission_for_endpoints/admissionforendpoints/MessageReader$Stage" "DONE" "Lcom/example/admission_for_endpoints/admissionforendpoints/MessageReader$Stage;" (.ref wD)) (S_wU : Sta Z h0 "com/example/admission_for_endpoints/admissionforendpoints/MessageReader$Stage" "UNTIL_CLOSE" "Lcom/example/admission_for_endpoints/admissionforendpoints/MessageReader$Stage;" (.ref wU)) (ne_UD : wU ≠ wD) :
    MetFree l (⟨"com/example/admission_for_endpoints/admissionforendpoints/MessageReader", "end", "()Z"⟩ : MethodName) (head1 (Jvm.Cond.code (⟨"com/example/admission_for_endpoints/admissionforendpoints/MessageReader", "end", "()Z"⟩ : MethodName) prog_8_method_3_code 1 (some .boolean) :: ws) ({ frames := 0, cells := 0, slots := 0, locals := 0 } : Room)) (fun a U => a = #[(.ref r0)] ∧ Z.Warmed39 U.vm ∧ U.heap = h0) (fun _ _ _ _ _ => True) (fun _ U o U' => ∃ v L, o = .returned v ∧ Q8d Z r0 wD wU h0 n0 v U'.heap L ∧ FrameEnd U o U' L ({ frames := 0, cells := 0, slots := 0, locals := 0 } : Room).cells ({ frames := 0, cells := 0, slots := 0, locals := 0 } : Room).slots) := by
  refine MetFree.of_bodySF (plainFor_of_name pn_com_example_admission_for_endpoints_admissionforendpoints_MessageReader) hisR ?_
  intro p e s m args below meth c s₁ Bd hml0 hP hK
  obtain ⟨rfl, hZ, hh⟩ := hP
  have hx := Bd.exec
  have hby := Bd.bytes
  have hml : c.maxLocals = 1 := hml0
  have hown : s.vm.findClass "com/example/admission_for_endpoints/admissionforendpoints/MessageReader" = some m.cls := findClass_of_methodNamed Bd.named
  have hnm := (name_of_methodNamed Bd.named Bd.method).1
  have X0 : Stand p l e ({ frames := 0, cells := 0, slots := 0, locals := 0 } : Room) s m #[(.ref r0)] below meth c s₁ [] 0 0 := Stand.of_body Bd
  have e0 : s₁.heap = h0 := by rw [← hh, Bd.state]; rfl
  have N0 := Fr.nil n0
  have pre0 : ∀ t, Steps p.tables e below (s₁.setTop (mkF m 0 #[.val (.ref r0)] [])) t → Steps p.tables e below (s₁.setTop (entryFrame m #[(.ref r0)] 1)) t := fun t k => castTop (ef_8d r0 wD wU m) k
  obtain ⟨T1, X1, e1, st1⟩ := getF X0 hx hZ hown (host := "") (Or.inl (hw _ (List.mem_of_getElem? (i := 13) rfl))) Via.refl e0 F_s (g := (mkF m 1 #[.val (.ref r0)] [(.ref r0)])) rfl rfl (hb hby d8_1)
  obtain ⟨T2, X2, e2, st2⟩ := getS2 X1 hx hZ hown (host := "") (Or.inl (hw _ (List.mem_of_getElem? (i := 55) rfl))) Via.refl e1 S_wU (g := (mkF m 4 #[.val (.ref r0)] [(.ref wD)])) rfl (hb hby d8_4)
  obtain ⟨T3, X3, e3, st3⟩ := getF X2 hx hZ hown (host := "") (Or.inl (hw _ (List.mem_of_getElem? (i := 13) rfl))) Via.refl e2 F_s (g := (mkF m 21 #[.val (.ref r0)] [(.ref r0)])) rfl rfl (hb hby d8_21)
  obtain ⟨T4, X4, e4, st4⟩ := getS2 X3 hx hZ hown (host := "") (Or.inl (hw _ (List.mem_of_getElem? (i := 62) rfl))) Via.refl e3 S_wD (g := (mkF m 24 #[.val (.ref r0)] [(.ref wD)])) rfl (hb hby d8_24)
  obtain ⟨fs, hr, hrun, hended, hW, hsame⟩ := X4.leave (v := some (.int (1 : Int32))) (fun h => by rw [Bd.returns] at h; cases h)
  refine ⟨_, _, pre0 _ ?_, hrun, hended, _, _, rfl, ?_, ⟨_, rfl⟩, hW, hsame.mono (by decide) (by decide)⟩
  · show Steps p.tables e below (s₁.setTop (mkF m 0 #[.val (.ref r0)] [])) _
    refine XS.aloadN X0.here hx rfl (hb hby d8_0) rfl rfl ?_
    show Steps p.tables e below (s₁.setTop (mkF m 1 #[.val (.ref r0)] [(.ref r0)])) _
    refine st1 _ ?_
    show Steps p.tables e below (T1.setTop (mkF m 4 #[.val (.ref r0)] [(.ref wD)])) _
    refine st2 _ ?_
    show Steps p.tables e below (T2.setTop (mkF m 7 #[.val (.ref r0)] [(.ref wU), (.ref wD)])) _
    refine Jvm.RoadKit.acmp (g := (mkF m 7 #[.val (.ref r0)] [(.ref wU), (.ref wD)])) X2 hx rfl rfl rfl (pc0 := 7) (pc' := 20) (same := false) rfl (hb hby d8_7) rfl (decide_eq_false fun q => (Ne.symm ne_UD) (Value.ref.inj q)) (by decide) (by decide) ?_
    show Steps p.tables e below (T2.setTop (mkF m 20 #[.val (.ref r0)] [])) _
    refine XS.aloadN X2.here hx rfl (hb hby d8_20) rfl rfl ?_
    show Steps p.tables e below (T2.setTop (mkF m 21 #[.val (.ref r0)] [(.ref r0)])) _
    refine st3 _ ?_
    show Steps p.tables e below (T3.setTop (mkF m 24 #[.val (.ref r0)] [(.ref wD)])) _
    refine st4 _ ?_
    show Steps p.tables e below (T4.setTop (mkF m 27 #[.val (.ref r0)] [(.ref wD), (.ref wD)])) _
    refine Jvm.RoadKit.acmp (g := (mkF m 27 #[.val (.ref r0)] [(.ref wD), (.ref wD)])) X4 hx rfl rfl rfl (pc0 := 27) (pc' := 40) (same := true) rfl (hb hby d8_27) rfl (decide_eq_true rfl) (by decide) (by decide) ?_
    show Steps p.tables e below (T4.setTop (mkF m 40 #[.val (.ref r0)] [])) _
    refine XS.iconst X4.here hx rfl (hb hby d8_40) ?_
    show Steps p.tables e below (T4.setTop (mkF m 41 #[.val (.ref r0)] [(.int (1 : Int32))])) _
    exact retN X4 hx (t := .boolean) Bd.returns (by simp) (hb hby d8_41) hr
  · show Q8d Z r0 wD wU h0 n0 _ T4.heap _
    rw [e4]
    exact ⟨rfl, N0, rfl⟩
theorem d8_10 : decode prog_8_method_3_code 10 = .ok (.aload_n 0, 1) := by decide +kernel
theorem d8_11 : decode prog_8_method_3_code 11 = .ok (.getstatic 39, 3) := by decide +kernel
theorem d8_14 : decode prog_8_method_3_code 14 = .ok (.putfield 13, 3) := by decide +kernel
theorem d8_17 : decode prog_8_method_3_code 17 = .ok (.goto 23, 3) := by decide +kernel
theorem ef_8u (r0 : Addr) (wU wD : Addr) (tr bb : Int32) (m : MethodId) : entryFrame m #[(.ref r0)] 1 = mkF m 0 #[.val (.ref r0)] [] := by first | (simp [entryFrame, mkF, argsToLocals, Value.category]; done) | rfl
def Q8u (Z : State) (r0 : Addr) (wU wD : Addr) (tr bb : Int32) (h0 : Heap) (n0 : Nat) (v : Option Value) (h : Heap) (L : List Loc) : Prop := v = some (.int (1 : Int32)) ∧ Fr n0 L ∧ Keep h0 h [r0] ∧ Exa Z h r0 "com/example/admission_for_endpoints/admissionforendpoints/MessageReader" ∧ Fld Z h r0 "com/example/admission_for_endpoints/admissionforendpoints/MessageReader" "stage" "Lcom/example/admission_for_endpoints/admissionforendpoints/MessageReader$Stage;" (.ref wD) ∧ Fld Z h r0 "com/example/admission_for_endpoints/admissionforendpoints/MessageReader" "truncated" "Z" (.int tr) ∧ Fld Z h r0 "com/example/admission_for_endpoints/admissionforendpoints/MessageReader" "bodyBytes" "I" (.int bb)
set_option maxRecDepth 65536 in
set_option maxHeartbeats 40000000 in
theorem rm8u (l : Launch) (Z : State) (a0 : Array Value) (hw : ∀ d ∈ tables_1, d.before a0 Z = true) (ws : List Jvm.Cond) (r0 : Addr) (wU wD : Addr) (tr bb : Int32) (h0 : Heap) (n0 : Nat) (Z0 : n0 ≤ h0.size) (E_r : Exa Z h0 r0 "com/example/admission_for_endpoints/admissionforendpoints/MessageReader") (F_stage : Fld Z h0 r0 "com/example/admission_for_endpoints/admissionforendpoints/MessageReader" "stage" "Lcom/example/admission_for_endpoints/admissionforendpoints/MessageReader$Stage;" (.ref wU)) (F_truncated : Fld Z h0 r0 "com/example/admission_for_endpoints/admissionforendpoints/MessageReader" "truncated" "Z" (.int tr)) (F_bodyBytes : Fld Z h0 r0 "com/example/admission_for_endpoints/admissionforendpoints/MessageReader" "bodyBytes" "I" (.int bb)) (S_wD : Sta Z h0 "com/example/admission_for_endpoints/admissionforendpoints/MessageReader$Stage" "DONE" "Lcom/example/admission_for_endpoints/admissionforendpoints/MessageReader$Stage;" (.ref wD)) (S_wU : Sta Z h0 "com/example/admission_for_endpoints/admissionforendpoints/MessageReader$Stage" "UNTIL_CLOSE" "Lcom/example/admission_for_endpoints/admissionforendpoints/MessageReader$Stage;" (.ref wU)) (g_r0 : n0 ≤ r0) :
    MetFree l (⟨"com/example/admission_for_endpoints/admissionforendpoints/MessageReader", "end", "()Z"⟩ : MethodName) (head1 (Jvm.Cond.code (⟨"com/example/admission_for_endpoints/admissionforendpoints/MessageReader", "end", "()Z"⟩ : MethodName) prog_8_method_3_code 1 (some .boolean) :: ws) ({ frames := 0, cells := 0, slots := 0, locals := 0 } : Room)) (fun a U => a = #[(.ref r0)] ∧ Z.Warmed39 U.vm ∧ U.heap = h0) (fun _ _ _ _ _ => True) (fun _ U o U' => ∃ v L, o = .returned v ∧ Q8u Z r0 wU wD tr bb h0 n0 v U'.heap L ∧ FrameEnd U o U' L ({ frames := 0, cells := 0, slots := 0, locals := 0 } : Room).cells ({ frames := 0, cells := 0, slots := 0, locals := 0 } : Room).slots) := by
  refine MetFree.of_bodySF (plainFor_of_name pn_com_example_admission_for_endpoints_admissionforendpoints_MessageReader) hisR ?_
  intro p e s m args below meth c s₁ Bd hml0 hP hK
  obtain ⟨rfl, hZ, hh⟩ := hP
  have hx := Bd.exec
  have hby := Bd.bytes
  have hml : c.maxLocals = 1 := hml0
  have hown : s.vm.findClass "com/example/admission_for_endpoints/admissionforendpoints/MessageReader" = some m.cls := findClass_of_methodNamed Bd.named
  have hnm := (name_of_methodNamed Bd.named Bd.method).1
  have X0 : Stand p l e ({ frames := 0, cells := 0, slots := 0, locals := 0 } : Room) s m #[(.ref r0)] below meth c s₁ [] 0 0 := Stand.of_body Bd
  have e0 : s₁.heap = h0 := by rw [← hh, Bd.state]; rfl
  have N0 := Fr.nil n0
  have pre0 : ∀ t, Steps p.tables e below (s₁.setTop (mkF m 0 #[.val (.ref r0)] [])) t → Steps p.tables e below (s₁.setTop (entryFrame m #[(.ref r0)] 1)) t := fun t k => castTop (ef_8u r0 wU wD tr bb m) k
  obtain ⟨T1, X1, e1, st1⟩ := getF X0 hx hZ hown (host := "") (Or.inl (hw _ (List.mem_of_getElem? (i := 13) rfl))) Via.refl e0 F_stage (g := (mkF m 1 #[.val (.ref r0)] [(.ref r0)])) rfl rfl (hb hby d8_1)
  obtain ⟨T2, X2, e2, st2⟩ := getS2 X1 hx hZ hown (host := "") (Or.inl (hw _ (List.mem_of_getElem? (i := 55) rfl))) Via.refl e1 S_wU (g := (mkF m 4 #[.val (.ref r0)] [(.ref wU)])) rfl (hb hby d8_4)
  obtain ⟨T3, X3, e3, st3⟩ := getS2 X2 hx hZ hown (host := "") (Or.inl (hw _ (List.mem_of_getElem? (i := 62) rfl))) Via.refl e2 S_wD (g := (mkF m 11 #[.val (.ref r0)] [(.ref r0)])) rfl (hb hby d8_11)
  obtain ⟨T4, h4, X4, e4, W4, st4⟩ := putF X3 hx hZ hown (host := "") (Or.inl (hw _ (List.mem_of_getElem? (i := 13) rfl))) Via.refl e3 F_stage E_r (Or.inl (hw _ (List.mem_of_getElem? (i := 14) rfl))) (hw _ (List.mem_of_getElem? (i := 2) rfl)) (ty := (.object "com/example/admission_for_endpoints/admissionforendpoints/MessageReader$Stage")) (by decide) rfl rfl (g := (mkF m 14 #[.val (.ref r0)] [(.ref wD), (.ref r0)])) rfl rfl (hb hby d8_14)
  have Fw4 : Fld Z h4 r0 "com/example/admission_for_endpoints/admissionforendpoints/MessageReader" "stage" "Lcom/example/admission_for_endpoints/admissionforendpoints/MessageReader$Stage;" (.ref wD) := Fld.same W4 F_stage
  have K4 : Keep h0 h4 [r0] := (Keep.refl h0 [r0]).wr W4 (Or.inl (List.mem_of_getElem? (i := 0) rfl))
  have N4 := Fr.snoc X4 N0 g_r0
  obtain ⟨fs, hr, hrun, hended, hW, hsame⟩ := X4.leave (v := some (.int (1 : Int32))) (fun h => by rw [Bd.returns] at h; cases h)
  refine ⟨_, _, pre0 _ ?_, hrun, hended, _, _, rfl, ?_, ⟨_, rfl⟩, hW, hsame.mono (by decide) (by decide)⟩
  · show Steps p.tables e below (s₁.setTop (mkF m 0 #[.val (.ref r0)] [])) _
    refine XS.aloadN X0.here hx rfl (hb hby d8_0) rfl rfl ?_
    show Steps p.tables e below (s₁.setTop (mkF m 1 #[.val (.ref r0)] [(.ref r0)])) _
    refine st1 _ ?_
    show Steps p.tables e below (T1.setTop (mkF m 4 #[.val (.ref r0)] [(.ref wU)])) _
    refine st2 _ ?_
    show Steps p.tables e below (T2.setTop (mkF m 7 #[.val (.ref r0)] [(.ref wU), (.ref wU)])) _
    refine Jvm.RoadKit.acmp (g := (mkF m 7 #[.val (.ref r0)] [(.ref wU), (.ref wU)])) X2 hx rfl rfl rfl (pc0 := 7) (pc' := 10) (same := true) rfl (hb hby d8_7) rfl (decide_eq_true rfl) (by decide) (by decide) ?_
    show Steps p.tables e below (T2.setTop (mkF m 10 #[.val (.ref r0)] [])) _
    refine XS.aloadN X2.here hx rfl (hb hby d8_10) rfl rfl ?_
    show Steps p.tables e below (T2.setTop (mkF m 11 #[.val (.ref r0)] [(.ref r0)])) _
    refine st3 _ ?_
    show Steps p.tables e below (T3.setTop (mkF m 14 #[.val (.ref r0)] [(.ref wD), (.ref r0)])) _
    refine st4 _ ?_
    show Steps p.tables e below (T4.setTop (mkF m 17 #[.val (.ref r0)] [])) _
    refine XS.goto X4.here hx rfl (pc0 := 17) (pc' := 40) rfl (hb hby d8_17) (by decide) (by decide) ?_
    show Steps p.tables e below (T4.setTop (mkF m 40 #[.val (.ref r0)] [])) _
    refine XS.iconst X4.here hx rfl (hb hby d8_40) ?_
    show Steps p.tables e below (T4.setTop (mkF m 41 #[.val (.ref r0)] [(.int (1 : Int32))])) _
    exact retN X4 hx (t := .boolean) Bd.returns (by simp) (hb hby d8_41) hr
  · show Q8u Z r0 wU wD tr bb h0 n0 _ T4.heap _
    rw [e4]
    exact ⟨rfl, N4, K4, (Exa.wr W4 E_r), Fw4, (Fld.other W4 F_truncated (Or.inr (slot_ne (Or.inl (hw _ (List.mem_of_getElem? (i := 75) rfl))) (Or.inl (hw _ (List.mem_of_getElem? (i := 14) rfl))) (by decide) (t := .boolean) (t' := (.object "com/example/admission_for_endpoints/admissionforendpoints/MessageReader$Stage")) (by decide) (by decide)))), (Fld.other W4 F_bodyBytes (Or.inr (slot_ne (Or.inl (hw _ (List.mem_of_getElem? (i := 82) rfl))) (Or.inl (hw _ (List.mem_of_getElem? (i := 14) rfl))) (by decide) (t := .int) (t' := (.object "com/example/admission_for_endpoints/admissionforendpoints/MessageReader$Stage")) (by decide) (by decide))))⟩
theorem d9_0 : decode prog_8_method_11_code 0 = .ok (.aload_n 0, 1) := by decide +kernel
theorem d9_1 : decode prog_8_method_11_code 1 = .ok (.getfield 42, 3) := by decide +kernel
theorem d9_4 : decode prog_8_method_11_code 4 = .ok (.ireturn, 1) := by decide +kernel
theorem ef_9 (r0 : Addr)  (m : MethodId) : entryFrame m #[(.ref r0)] 1 = mkF m 0 #[.val (.ref r0)] [] := by first | (simp [entryFrame, mkF, argsToLocals, Value.category]; done) | rfl
def Q9 (Z : State) (r0 : Addr)  (h0 : Heap) (n0 : Nat) (v : Option Value) (h : Heap) (L : List Loc) : Prop := v = some (.int (0 : Int32)) ∧ Fr n0 L ∧ h = h0
set_option maxRecDepth 65536 in
set_option maxHeartbeats 40000000 in
theorem rm9 (l : Launch) (Z : State) (a0 : Array Value) (hw : ∀ d ∈ tables_1, d.before a0 Z = true) (ws : List Jvm.Cond) (r0 : Addr)  (h0 : Heap) (n0 : Nat) (Z0 : n0 ≤ h0.size) (F_w : Fld Z h0 r0 "com/example/admission_for_endpoints/admissionforendpoints/MessageReader" "truncated" "Z" (.int (0 : Int32))) :
    MetFree l (⟨"com/example/admission_for_endpoints/admissionforendpoints/MessageReader", "truncated", "()Z"⟩ : MethodName) (head1 (Jvm.Cond.code (⟨"com/example/admission_for_endpoints/admissionforendpoints/MessageReader", "truncated", "()Z"⟩ : MethodName) prog_8_method_11_code 1 (some .boolean) :: ws) ({ frames := 0, cells := 0, slots := 0, locals := 0 } : Room)) (fun a U => a = #[(.ref r0)] ∧ Z.Warmed39 U.vm ∧ U.heap = h0) (fun _ _ _ _ _ => True) (fun _ U o U' => ∃ v L, o = .returned v ∧ Q9 Z r0 h0 n0 v U'.heap L ∧ FrameEnd U o U' L ({ frames := 0, cells := 0, slots := 0, locals := 0 } : Room).cells ({ frames := 0, cells := 0, slots := 0, locals := 0 } : Room).slots) := by
  refine MetFree.of_bodySF (plainFor_of_name pn_com_example_admission_for_endpoints_admissionforendpoints_MessageReader) hisR ?_
  intro p e s m args below meth c s₁ Bd hml0 hP hK
  obtain ⟨rfl, hZ, hh⟩ := hP
  have hx := Bd.exec
  have hby := Bd.bytes
  have hml : c.maxLocals = 1 := hml0
  have hown : s.vm.findClass "com/example/admission_for_endpoints/admissionforendpoints/MessageReader" = some m.cls := findClass_of_methodNamed Bd.named
  have hnm := (name_of_methodNamed Bd.named Bd.method).1
  have X0 : Stand p l e ({ frames := 0, cells := 0, slots := 0, locals := 0 } : Room) s m #[(.ref r0)] below meth c s₁ [] 0 0 := Stand.of_body Bd
  have e0 : s₁.heap = h0 := by rw [← hh, Bd.state]; rfl
  have N0 := Fr.nil n0
  have pre0 : ∀ t, Steps p.tables e below (s₁.setTop (mkF m 0 #[.val (.ref r0)] [])) t → Steps p.tables e below (s₁.setTop (entryFrame m #[(.ref r0)] 1)) t := fun t k => castTop (ef_9 r0 m) k
  obtain ⟨T1, X1, e1, st1⟩ := getF X0 hx hZ hown (host := "") (Or.inl (hw _ (List.mem_of_getElem? (i := 74) rfl))) Via.refl e0 F_w (g := (mkF m 1 #[.val (.ref r0)] [(.ref r0)])) rfl rfl (hb hby d9_1)
  obtain ⟨fs, hr, hrun, hended, hW, hsame⟩ := X1.leave (v := some (.int (0 : Int32))) (fun h => by rw [Bd.returns] at h; cases h)
  refine ⟨_, _, pre0 _ ?_, hrun, hended, _, _, rfl, ?_, ⟨_, rfl⟩, hW, hsame.mono (by decide) (by decide)⟩
  · show Steps p.tables e below (s₁.setTop (mkF m 0 #[.val (.ref r0)] [])) _
    refine XS.aloadN X0.here hx rfl (hb hby d9_0) rfl rfl ?_
    show Steps p.tables e below (s₁.setTop (mkF m 1 #[.val (.ref r0)] [(.ref r0)])) _
    refine st1 _ ?_
    show Steps p.tables e below (T1.setTop (mkF m 4 #[.val (.ref r0)] [(.int (0 : Int32))])) _
    exact retN X1 hx (t := .boolean) Bd.returns (by simp) (hb hby d9_4) hr
  · show Q9 Z r0 h0 n0 _ T1.heap _
    rw [e1]
    exact ⟨rfl, N0, rfl⟩
theorem d10_0 : decode prog_8_method_13_code 0 = .ok (.aload_n 0, 1) := by decide +kernel
theorem d10_1 : decode prog_8_method_13_code 1 = .ok (.getfield 160, 3) := by decide +kernel
theorem d10_4 : decode prog_8_method_13_code 4 = .ok (.ireturn, 1) := by decide +kernel
theorem ef_10 (r0 : Addr)  (m : MethodId) : entryFrame m #[(.ref r0)] 1 = mkF m 0 #[.val (.ref r0)] [] := by first | (simp [entryFrame, mkF, argsToLocals, Value.category]; done) | rfl
def Q10 (Z : State) (r0 : Addr)  (h0 : Heap) (n0 : Nat) (v : Option Value) (h : Heap) (L : List Loc) : Prop := v = some (.int (0 : Int32)) ∧ Fr n0 L ∧ h = h0
set_option maxRecDepth 65536 in
set_option maxHeartbeats 40000000 in
theorem rm10 (l : Launch) (Z : State) (a0 : Array Value) (hw : ∀ d ∈ tables_1, d.before a0 Z = true) (ws : List Jvm.Cond) (r0 : Addr)  (h0 : Heap) (n0 : Nat) (Z0 : n0 ≤ h0.size) (F_w : Fld Z h0 r0 "com/example/admission_for_endpoints/admissionforendpoints/MessageReader" "bodyBytes" "I" (.int (0 : Int32))) :
    MetFree l (⟨"com/example/admission_for_endpoints/admissionforendpoints/MessageReader", "bodyBytes", "()I"⟩ : MethodName) (head1 (Jvm.Cond.code (⟨"com/example/admission_for_endpoints/admissionforendpoints/MessageReader", "bodyBytes", "()I"⟩ : MethodName) prog_8_method_13_code 1 (some .int) :: ws) ({ frames := 0, cells := 0, slots := 0, locals := 0 } : Room)) (fun a U => a = #[(.ref r0)] ∧ Z.Warmed39 U.vm ∧ U.heap = h0) (fun _ _ _ _ _ => True) (fun _ U o U' => ∃ v L, o = .returned v ∧ Q10 Z r0 h0 n0 v U'.heap L ∧ FrameEnd U o U' L ({ frames := 0, cells := 0, slots := 0, locals := 0 } : Room).cells ({ frames := 0, cells := 0, slots := 0, locals := 0 } : Room).slots) := by
  refine MetFree.of_bodySF (plainFor_of_name pn_com_example_admission_for_endpoints_admissionforendpoints_MessageReader) hisR ?_
  intro p e s m args below meth c s₁ Bd hml0 hP hK
  obtain ⟨rfl, hZ, hh⟩ := hP
  have hx := Bd.exec
  have hby := Bd.bytes
  have hml : c.maxLocals = 1 := hml0
  have hown : s.vm.findClass "com/example/admission_for_endpoints/admissionforendpoints/MessageReader" = some m.cls := findClass_of_methodNamed Bd.named
  have hnm := (name_of_methodNamed Bd.named Bd.method).1
  have X0 : Stand p l e ({ frames := 0, cells := 0, slots := 0, locals := 0 } : Room) s m #[(.ref r0)] below meth c s₁ [] 0 0 := Stand.of_body Bd
  have e0 : s₁.heap = h0 := by rw [← hh, Bd.state]; rfl
  have N0 := Fr.nil n0
  have pre0 : ∀ t, Steps p.tables e below (s₁.setTop (mkF m 0 #[.val (.ref r0)] [])) t → Steps p.tables e below (s₁.setTop (entryFrame m #[(.ref r0)] 1)) t := fun t k => castTop (ef_10 r0 m) k
  obtain ⟨T1, X1, e1, st1⟩ := getF X0 hx hZ hown (host := "") (Or.inl (hw _ (List.mem_of_getElem? (i := 81) rfl))) Via.refl e0 F_w (g := (mkF m 1 #[.val (.ref r0)] [(.ref r0)])) rfl rfl (hb hby d10_1)
  obtain ⟨fs, hr, hrun, hended, hW, hsame⟩ := X1.leave (v := some (.int (0 : Int32))) (fun h => by rw [Bd.returns] at h; cases h)
  refine ⟨_, _, pre0 _ ?_, hrun, hended, _, _, rfl, ?_, ⟨_, rfl⟩, hW, hsame.mono (by decide) (by decide)⟩
  · show Steps p.tables e below (s₁.setTop (mkF m 0 #[.val (.ref r0)] [])) _
    refine XS.aloadN X0.here hx rfl (hb hby d10_0) rfl rfl ?_
    show Steps p.tables e below (s₁.setTop (mkF m 1 #[.val (.ref r0)] [(.ref r0)])) _
    refine st1 _ ?_
    show Steps p.tables e below (T1.setTop (mkF m 4 #[.val (.ref r0)] [(.int (0 : Int32))])) _
    exact retI X1 hx Bd.returns (hb hby d10_4) hr
  · show Q10 Z r0 h0 n0 _ T1.heap _
    rw [e1]
    exact ⟨rfl, N0, rfl⟩
def J0_3_S0 (p0 : Int32) (p1 : Int32) (p2 : Int32) (wH wD wU fN fL fU : Addr) : Int32 := (if (p1 &&& (1 : Int32)) = (0 : Int32) then (0 : Int32) else (1 : Int32))
def J0_15_S0 (p0 : Int32) (p1 : Int32) (p2 : Int32) (wH wD wU fN fL fU : Addr) : Int32 := (if (p1 &&& (2 : Int32)) = (0 : Int32) then (0 : Int32) else (1 : Int32))
def J0_28_S0 (p0 : Int32) (p1 : Int32) (p2 : Int32) (wH wD wU fN fL fU : Addr) : Int32 := (if (p1 &&& (4 : Int32)) = (0 : Int32) then (0 : Int32) else (1 : Int32))
def A0_44 (p0 : Int32) (p1 : Int32) (p2 : Int32) (wH wD wU fN fL fU : Addr) : Int32 := ((p2 &&& (2147483647 : Int32)) % (3 : Int32))
theorem own_three (p0 : Int32) : (p0 &&& (2147483647 : Int32)) % (3 : Int32) = 0 ∨ (p0 &&& (2147483647 : Int32)) % (3 : Int32) = 1 ∨ (p0 &&& (2147483647 : Int32)) % (3 : Int32) = 2 := by
  have m := c_mask p0 2147483647 31 (by decide) (by decide)
  have r := (c_irem (p0 &&& (2147483647 : Int32)) 3 3 (by decide)).1 (by omega)
  simp only [← Int32.toInt_inj]
  show _ = (0 : Int) ∨ _ = (1 : Int) ∨ _ = (2 : Int)
  omega
theorem own_ni {x y : Int32} (h : x ≠ y) : Value.int x ≠ Value.int y := fun q => h (Value.int.inj q)
theorem pn_com_example_admission_for_endpoints_admissionforendpoints_MessageReaderEndPinLaw : plainName "com/example/admission_for_endpoints/admissionforendpoints/MessageReaderEndPinLaw" = true := by first | (simp [plainName, overriddenIn]; done) | decide +kernel
theorem pd__IZ_V : parseMethodDescriptor "(IZ)V" = some ⟨[.int, .boolean], none⟩ := by decide +kernel
theorem pd__Lcom_example_admission_for_endpoints_admissionforendpoints_MessageReader_Framing_J_V : parseMethodDescriptor "(Lcom/example/admission_for_endpoints/admissionforendpoints/MessageReader$Framing;J)V" = some ⟨[(.object "com/example/admission_for_endpoints/admissionforendpoints/MessageReader$Framing"), .long], none⟩ := by decide +kernel
theorem pd___Z : parseMethodDescriptor "()Z" = some ⟨[], some .boolean⟩ := by decide +kernel
theorem pd___V : parseMethodDescriptor "()V" = some ⟨[], none⟩ := by decide +kernel
theorem ef_0 (p0 : Int32) (p1 : Int32) (p2 : Int32) (wH wD wU fN fL fU : Addr) (m : MethodId) : entryFrame m #[(.int p0), (.int p1), (.int p2)] maxLocals = mkF m 0 #[.val (.int p0), .val (.int p1), .val (.int p2), .unset, .unset, .unset, .unset, .unset, .unset, .unset, .unset, .unset, .unset] [] := by first | (simp [entryFrame, mkF, argsToLocals, Value.category, maxLocals]; done) | rfl
def F0 (p0 : Int32) (p1 : Int32) (p2 : Int32) (wH wD wU fN fL fU : Addr) : Int32 := (if (A0_44 p0 p1 p2 wH wD wU fN fL fU) = (0 : Int32) then (if (J0_15_S0 p0 p1 p2 wH wD wU fN fL fU) = (0 : Int32) then (if (J0_28_S0 p0 p1 p2 wH wD wU fN fL fU) = (0 : Int32) then (1 : Int32) else (1 : Int32)) else (if (J0_28_S0 p0 p1 p2 wH wD wU fN fL fU) = (0 : Int32) then (1 : Int32) else (1 : Int32))) else (if (A0_44 p0 p1 p2 wH wD wU fN fL fU) = (1 : Int32) then (if (J0_15_S0 p0 p1 p2 wH wD wU fN fL fU) = (0 : Int32) then (if (J0_28_S0 p0 p1 p2 wH wD wU fN fL fU) = (0 : Int32) then (1 : Int32) else (1 : Int32)) else (if (J0_28_S0 p0 p1 p2 wH wD wU fN fL fU) = (0 : Int32) then (1 : Int32) else (1 : Int32))) else (if (J0_15_S0 p0 p1 p2 wH wD wU fN fL fU) = (0 : Int32) then (if (J0_28_S0 p0 p1 p2 wH wD wU fN fL fU) = (0 : Int32) then (1 : Int32) else (1 : Int32)) else (if (J0_28_S0 p0 p1 p2 wH wD wU fN fL fU) = (0 : Int32) then (1 : Int32) else (1 : Int32)))))
def Q0 (Z : State) (p0 : Int32) (p1 : Int32) (p2 : Int32) (wH wD wU fN fL fU : Addr) (h0 : Heap) (n0 : Nat) (v : Option Value) (h : Heap) (L : List Loc) : Prop := v = some (.int (F0 p0 p1 p2 wH wD wU fN fL fU)) ∧ Fr n0 L
set_option maxRecDepth 65536 in
set_option maxHeartbeats 40000000 in
theorem rm0 (l : Launch) (Z : State) (a0 : Array Value) (hw : ∀ d ∈ tables_1, d.before a0 Z = true) (ws : List Jvm.Cond) (p0 : Int32) (p1 : Int32) (p2 : Int32) (wH wD wU fN fL fU : Addr) (h0 : Heap) (n0 : Nat) (Z0 : n0 ≤ h0.size) (S_wH : Sta Z h0 "com/example/admission_for_endpoints/admissionforendpoints/MessageReader$Stage" "HEAD" "Lcom/example/admission_for_endpoints/admissionforendpoints/MessageReader$Stage;" (.ref wH)) (S_wD : Sta Z h0 "com/example/admission_for_endpoints/admissionforendpoints/MessageReader$Stage" "DONE" "Lcom/example/admission_for_endpoints/admissionforendpoints/MessageReader$Stage;" (.ref wD)) (S_wU : Sta Z h0 "com/example/admission_for_endpoints/admissionforendpoints/MessageReader$Stage" "UNTIL_CLOSE" "Lcom/example/admission_for_endpoints/admissionforendpoints/MessageReader$Stage;" (.ref wU)) (S_fN : Sta Z h0 "com/example/admission_for_endpoints/admissionforendpoints/MessageReader$Framing" "NONE" "Lcom/example/admission_for_endpoints/admissionforendpoints/MessageReader$Framing;" (.ref fN)) (E_fN : Exa Z h0 fN "com/example/admission_for_endpoints/admissionforendpoints/MessageReader$Framing") (O_fN : Fld Z h0 fN "java/lang/Enum" "ordinal" "I" (.int (0 : Int32))) (S_fL : Sta Z h0 "com/example/admission_for_endpoints/admissionforendpoints/MessageReader$Framing" "LENGTH" "Lcom/example/admission_for_endpoints/admissionforendpoints/MessageReader$Framing;" (.ref fL)) (E_fL : Exa Z h0 fL "com/example/admission_for_endpoints/admissionforendpoints/MessageReader$Framing") (O_fL : Fld Z h0 fL "java/lang/Enum" "ordinal" "I" (.int (1 : Int32))) (S_fU : Sta Z h0 "com/example/admission_for_endpoints/admissionforendpoints/MessageReader$Framing" "UNTIL_CLOSE" "Lcom/example/admission_for_endpoints/admissionforendpoints/MessageReader$Framing;" (.ref fU)) (E_fU : Exa Z h0 fU "com/example/admission_for_endpoints/admissionforendpoints/MessageReader$Framing") (O_fU : Fld Z h0 fU "java/lang/Enum" "ordinal" "I" (.int (3 : Int32))) (ne_UD : wU ≠ wD) :
    MetFree l x (head1 (Jvm.Cond.code x code maxLocals ret :: ws) room_1) (fun a U => a = #[(.int p0), (.int p1), (.int p2)] ∧ Z.Warmed39 U.vm ∧ U.heap = h0) (fun _ _ _ _ _ => True) (fun _ U o U' => ∃ v L, o = .returned v ∧ Q0 Z p0 p1 p2 wH wD wU fN fL fU h0 n0 v U'.heap L ∧ FrameEnd U o U' L room_1.cells room_1.slots) := by
  refine MetFree.of_bodySF (plainFor_of_name pn_com_example_admission_for_endpoints_admissionforendpoints_MessageReaderEndPinLaw) hisR ?_
  intro p e s m args below meth c s₁ Bd hml0 hP hK
  obtain ⟨rfl, hZ, hh⟩ := hP
  have hx := Bd.exec
  have hby := Bd.bytes
  have hml : c.maxLocals = 13 := hml0
  have hown : s.vm.findClass "com/example/admission_for_endpoints/admissionforendpoints/MessageReaderEndPinLaw" = some m.cls := findClass_of_methodNamed Bd.named
  have hnm := (name_of_methodNamed Bd.named Bd.method).1
  have X0 : Stand p l e room_1 s m #[(.int p0), (.int p1), (.int p2)] below meth c s₁ [] 0 0 := Stand.of_body Bd
  have e0 : s₁.heap = h0 := by rw [← hh, Bd.state]; rfl
  have N0 := Fr.nil n0
  have pre0 : ∀ t, Steps p.tables e below (s₁.setTop (mkF m 0 #[.val (.int p0), .val (.int p1), .val (.int p2), .unset, .unset, .unset, .unset, .unset, .unset, .unset, .unset, .unset, .unset] [])) t → Steps p.tables e below (s₁.setTop (entryFrame m #[(.int p0), (.int p1), (.int p2)] maxLocals)) t := fun t k => castTop (ef_0 p0 p1 p2 wH wD wU fN fL fU m) k
  have pre1 : ∀ t, Steps p.tables e below (s₁.setTop (mkF m 3 #[.val (.int p0), .val (.int p1), .val (.int p2), .unset, .unset, .unset, .unset, .unset, .unset, .unset, .unset, .unset, .unset] [(.int (p1 &&& (1 : Int32)))])) t → Steps p.tables e below (s₁.setTop (entryFrame m #[(.int p0), (.int p1), (.int p2)] maxLocals)) t := fun t kt => pre0 t (by
    show Steps p.tables e below (s₁.setTop (mkF m 0 #[.val (.int p0), .val (.int p1), .val (.int p2), .unset, .unset, .unset, .unset, .unset, .unset, .unset, .unset, .unset, .unset] [])) _
    refine XS.iloadN X0.here hx rfl (hb hby at_0) rfl ?_
    show Steps p.tables e below (s₁.setTop (mkF m 1 #[.val (.int p0), .val (.int p1), .val (.int p2), .unset, .unset, .unset, .unset, .unset, .unset, .unset, .unset, .unset, .unset] [(.int p1)])) _
    refine XS.iconst X0.here hx rfl (hb hby at_1) ?_
    show Steps p.tables e below (s₁.setTop (mkF m 2 #[.val (.int p0), .val (.int p1), .val (.int p2), .unset, .unset, .unset, .unset, .unset, .unset, .unset, .unset, .unset, .unset] [(.int (1 : Int32)), (.int p1)])) _
    refine XS.iand X0.here hx rfl (hb hby at_2) rfl ?_
    exact kt)
  obtain ⟨Tj2, lj2, Xj2, Nj2, ej2, pre2⟩ : ∃ (T' : State) (locs' : List Loc), Stand p l e room_1 s m #[(.int p0), (.int p1), (.int p2)] below meth c T' locs' 0 0 ∧ Fr n0 locs' ∧ T'.heap = h0 ∧ ∀ t, Steps p.tables e below (T'.setTop (mkF m 11 #[.val (.int p0), .val (.int p1), .val (.int p2), .unset, .unset, .unset, .unset, .unset, .unset, .unset, .unset, .unset, .unset] [(.int (J0_3_S0 p0 p1 p2 wH wD wU fN fL fU))])) t → Steps p.tables e below (s₁.setTop (entryFrame m #[(.int p0), (.int p1), (.int p2)] maxLocals)) t := by
    by_cases hc3 : (p1 &&& (1 : Int32)) = (0 : Int32)
    · refine ⟨s₁, _, X0, N0, e0, fun t kt => pre1 t ?_⟩
      show Steps p.tables e below (s₁.setTop (mkF m 3 #[.val (.int p0), .val (.int p1), .val (.int p2), .unset, .unset, .unset, .unset, .unset, .unset, .unset, .unset, .unset, .unset] [(.int (p1 &&& (1 : Int32)))])) _
      refine XS.ifYes X0.here hx rfl (pc0 := 3) (pc' := 10) rfl (hb hby at_3) rfl ((if0 _ _).trans (teq hc3).1) (by decide) (by decide) ?_
      show Steps p.tables e below (s₁.setTop (mkF m 10 #[.val (.int p0), .val (.int p1), .val (.int p2), .unset, .unset, .unset, .unset, .unset, .unset, .unset, .unset, .unset, .unset] [])) _
      refine XS.iconst X0.here hx rfl (hb hby at_10) ?_
      show Steps p.tables e below (s₁.setTop (mkF m 11 #[.val (.int p0), .val (.int p1), .val (.int p2), .unset, .unset, .unset, .unset, .unset, .unset, .unset, .unset, .unset, .unset] [(.int (0 : Int32))])) _
      have qjS0 : (J0_3_S0 p0 p1 p2 wH wD wU fN fL fU) = (0 : Int32) := by unfold J0_3_S0; simp only [if_true, if_false, if_pos hc3]
      rw [qjS0] at kt
      exact kt
    · refine ⟨s₁, _, X0, N0, e0, fun t kt => pre1 t ?_⟩
      show Steps p.tables e below (s₁.setTop (mkF m 3 #[.val (.int p0), .val (.int p1), .val (.int p2), .unset, .unset, .unset, .unset, .unset, .unset, .unset, .unset, .unset, .unset] [(.int (p1 &&& (1 : Int32)))])) _
      refine XS.ifNo X0.here hx rfl (hb hby at_3) rfl ((if0 _ _).trans (feq hc3).1) ?_
      show Steps p.tables e below (s₁.setTop (mkF m 6 #[.val (.int p0), .val (.int p1), .val (.int p2), .unset, .unset, .unset, .unset, .unset, .unset, .unset, .unset, .unset, .unset] [])) _
      refine XS.iconst X0.here hx rfl (hb hby at_6) ?_
      show Steps p.tables e below (s₁.setTop (mkF m 7 #[.val (.int p0), .val (.int p1), .val (.int p2), .unset, .unset, .unset, .unset, .unset, .unset, .unset, .unset, .unset, .unset] [(.int (1 : Int32))])) _
      refine XS.goto X0.here hx rfl (pc0 := 7) (pc' := 11) rfl (hb hby at_7) (by decide) (by decide) ?_
      show Steps p.tables e below (s₁.setTop (mkF m 11 #[.val (.int p0), .val (.int p1), .val (.int p2), .unset, .unset, .unset, .unset, .unset, .unset, .unset, .unset, .unset, .unset] [(.int (1 : Int32))])) _
      have qjS0 : (J0_3_S0 p0 p1 p2 wH wD wU fN fL fU) = (1 : Int32) := by unfold J0_3_S0; simp only [if_true, if_false, if_neg hc3]
      rw [qjS0] at kt
      exact kt
  have pre3 : ∀ t, Steps p.tables e below (Tj2.setTop (mkF m 15 #[.val (.int p0), .val (.int p1), .val (.int p2), .val (.int (J0_3_S0 p0 p1 p2 wH wD wU fN fL fU)), .unset, .unset, .unset, .unset, .unset, .unset, .unset, .unset, .unset] [(.int (p1 &&& (2 : Int32)))])) t → Steps p.tables e below (s₁.setTop (entryFrame m #[(.int p0), (.int p1), (.int p2)] maxLocals)) t := fun t kt => pre2 t (by
    show Steps p.tables e below (Tj2.setTop (mkF m 11 #[.val (.int p0), .val (.int p1), .val (.int p2), .unset, .unset, .unset, .unset, .unset, .unset, .unset, .unset, .unset, .unset] [(.int (J0_3_S0 p0 p1 p2 wH wD wU fN fL fU))])) _
    refine XS.istoreN Xj2.here hx rfl (hb hby at_11) rfl (l' := #[.val (.int p0), .val (.int p1), .val (.int p2), .val (.int (J0_3_S0 p0 p1 p2 wH wD wU fN fL fU)), .unset, .unset, .unset, .unset, .unset, .unset, .unset, .unset, .unset]) rfl ?_
    show Steps p.tables e below (Tj2.setTop (mkF m 12 #[.val (.int p0), .val (.int p1), .val (.int p2), .val (.int (J0_3_S0 p0 p1 p2 wH wD wU fN fL fU)), .unset, .unset, .unset, .unset, .unset, .unset, .unset, .unset, .unset] [])) _
    refine XS.iloadN Xj2.here hx rfl (hb hby at_12) rfl ?_
    show Steps p.tables e below (Tj2.setTop (mkF m 13 #[.val (.int p0), .val (.int p1), .val (.int p2), .val (.int (J0_3_S0 p0 p1 p2 wH wD wU fN fL fU)), .unset, .unset, .unset, .unset, .unset, .unset, .unset, .unset, .unset] [(.int p1)])) _
    refine XS.iconst Xj2.here hx rfl (hb hby at_13) ?_
    show Steps p.tables e below (Tj2.setTop (mkF m 14 #[.val (.int p0), .val (.int p1), .val (.int p2), .val (.int (J0_3_S0 p0 p1 p2 wH wD wU fN fL fU)), .unset, .unset, .unset, .unset, .unset, .unset, .unset, .unset, .unset] [(.int (2 : Int32)), (.int p1)])) _
    refine XS.iand Xj2.here hx rfl (hb hby at_14) rfl ?_
    exact kt)
  obtain ⟨Tj4, lj4, Xj4, Nj4, ej4, pre4⟩ : ∃ (T' : State) (locs' : List Loc), Stand p l e room_1 s m #[(.int p0), (.int p1), (.int p2)] below meth c T' locs' 0 0 ∧ Fr n0 locs' ∧ T'.heap = h0 ∧ ∀ t, Steps p.tables e below (T'.setTop (mkF m 23 #[.val (.int p0), .val (.int p1), .val (.int p2), .val (.int (J0_3_S0 p0 p1 p2 wH wD wU fN fL fU)), .unset, .unset, .unset, .unset, .unset, .unset, .unset, .unset, .unset] [(.int (J0_15_S0 p0 p1 p2 wH wD wU fN fL fU))])) t → Steps p.tables e below (s₁.setTop (entryFrame m #[(.int p0), (.int p1), (.int p2)] maxLocals)) t := by
    by_cases hc15 : (p1 &&& (2 : Int32)) = (0 : Int32)
    · refine ⟨Tj2, _, Xj2, Nj2, ej2, fun t kt => pre3 t ?_⟩
      show Steps p.tables e below (Tj2.setTop (mkF m 15 #[.val (.int p0), .val (.int p1), .val (.int p2), .val (.int (J0_3_S0 p0 p1 p2 wH wD wU fN fL fU)), .unset, .unset, .unset, .unset, .unset, .unset, .unset, .unset, .unset] [(.int (p1 &&& (2 : Int32)))])) _
      refine XS.ifYes Xj2.here hx rfl (pc0 := 15) (pc' := 22) rfl (hb hby at_15) rfl ((if0 _ _).trans (teq hc15).1) (by decide) (by decide) ?_
      show Steps p.tables e below (Tj2.setTop (mkF m 22 #[.val (.int p0), .val (.int p1), .val (.int p2), .val (.int (J0_3_S0 p0 p1 p2 wH wD wU fN fL fU)), .unset, .unset, .unset, .unset, .unset, .unset, .unset, .unset, .unset] [])) _
      refine XS.iconst Xj2.here hx rfl (hb hby at_22) ?_
      show Steps p.tables e below (Tj2.setTop (mkF m 23 #[.val (.int p0), .val (.int p1), .val (.int p2), .val (.int (J0_3_S0 p0 p1 p2 wH wD wU fN fL fU)), .unset, .unset, .unset, .unset, .unset, .unset, .unset, .unset, .unset] [(.int (0 : Int32))])) _
      have qjS0 : (J0_15_S0 p0 p1 p2 wH wD wU fN fL fU) = (0 : Int32) := by unfold J0_15_S0; simp only [if_true, if_false, if_pos hc15]
      rw [qjS0] at kt
      exact kt
    · refine ⟨Tj2, _, Xj2, Nj2, ej2, fun t kt => pre3 t ?_⟩
      show Steps p.tables e below (Tj2.setTop (mkF m 15 #[.val (.int p0), .val (.int p1), .val (.int p2), .val (.int (J0_3_S0 p0 p1 p2 wH wD wU fN fL fU)), .unset, .unset, .unset, .unset, .unset, .unset, .unset, .unset, .unset] [(.int (p1 &&& (2 : Int32)))])) _
      refine XS.ifNo Xj2.here hx rfl (hb hby at_15) rfl ((if0 _ _).trans (feq hc15).1) ?_
      show Steps p.tables e below (Tj2.setTop (mkF m 18 #[.val (.int p0), .val (.int p1), .val (.int p2), .val (.int (J0_3_S0 p0 p1 p2 wH wD wU fN fL fU)), .unset, .unset, .unset, .unset, .unset, .unset, .unset, .unset, .unset] [])) _
      refine XS.iconst Xj2.here hx rfl (hb hby at_18) ?_
      show Steps p.tables e below (Tj2.setTop (mkF m 19 #[.val (.int p0), .val (.int p1), .val (.int p2), .val (.int (J0_3_S0 p0 p1 p2 wH wD wU fN fL fU)), .unset, .unset, .unset, .unset, .unset, .unset, .unset, .unset, .unset] [(.int (1 : Int32))])) _
      refine XS.goto Xj2.here hx rfl (pc0 := 19) (pc' := 23) rfl (hb hby at_19) (by decide) (by decide) ?_
      show Steps p.tables e below (Tj2.setTop (mkF m 23 #[.val (.int p0), .val (.int p1), .val (.int p2), .val (.int (J0_3_S0 p0 p1 p2 wH wD wU fN fL fU)), .unset, .unset, .unset, .unset, .unset, .unset, .unset, .unset, .unset] [(.int (1 : Int32))])) _
      have qjS0 : (J0_15_S0 p0 p1 p2 wH wD wU fN fL fU) = (1 : Int32) := by unfold J0_15_S0; simp only [if_true, if_false, if_neg hc15]
      rw [qjS0] at kt
      exact kt
  have pre5 : ∀ t, Steps p.tables e below (Tj4.setTop (mkF m 28 #[.val (.int p0), .val (.int p1), .val (.int p2), .val (.int (J0_3_S0 p0 p1 p2 wH wD wU fN fL fU)), .val (.int (J0_15_S0 p0 p1 p2 wH wD wU fN fL fU)), .unset, .unset, .unset, .unset, .unset, .unset, .unset, .unset] [(.int (p1 &&& (4 : Int32)))])) t → Steps p.tables e below (s₁.setTop (entryFrame m #[(.int p0), (.int p1), (.int p2)] maxLocals)) t := fun t kt => pre4 t (by
    show Steps p.tables e below (Tj4.setTop (mkF m 23 #[.val (.int p0), .val (.int p1), .val (.int p2), .val (.int (J0_3_S0 p0 p1 p2 wH wD wU fN fL fU)), .unset, .unset, .unset, .unset, .unset, .unset, .unset, .unset, .unset] [(.int (J0_15_S0 p0 p1 p2 wH wD wU fN fL fU))])) _
    refine XS.istore Xj4.here hx rfl (hb hby at_23) rfl (l' := #[.val (.int p0), .val (.int p1), .val (.int p2), .val (.int (J0_3_S0 p0 p1 p2 wH wD wU fN fL fU)), .val (.int (J0_15_S0 p0 p1 p2 wH wD wU fN fL fU)), .unset, .unset, .unset, .unset, .unset, .unset, .unset, .unset]) rfl ?_
    show Steps p.tables e below (Tj4.setTop (mkF m 25 #[.val (.int p0), .val (.int p1), .val (.int p2), .val (.int (J0_3_S0 p0 p1 p2 wH wD wU fN fL fU)), .val (.int (J0_15_S0 p0 p1 p2 wH wD wU fN fL fU)), .unset, .unset, .unset, .unset, .unset, .unset, .unset, .unset] [])) _
    refine XS.iloadN Xj4.here hx rfl (hb hby at_25) rfl ?_
    show Steps p.tables e below (Tj4.setTop (mkF m 26 #[.val (.int p0), .val (.int p1), .val (.int p2), .val (.int (J0_3_S0 p0 p1 p2 wH wD wU fN fL fU)), .val (.int (J0_15_S0 p0 p1 p2 wH wD wU fN fL fU)), .unset, .unset, .unset, .unset, .unset, .unset, .unset, .unset] [(.int p1)])) _
    refine XS.iconst Xj4.here hx rfl (hb hby at_26) ?_
    show Steps p.tables e below (Tj4.setTop (mkF m 27 #[.val (.int p0), .val (.int p1), .val (.int p2), .val (.int (J0_3_S0 p0 p1 p2 wH wD wU fN fL fU)), .val (.int (J0_15_S0 p0 p1 p2 wH wD wU fN fL fU)), .unset, .unset, .unset, .unset, .unset, .unset, .unset, .unset] [(.int (4 : Int32)), (.int p1)])) _
    refine XS.iand Xj4.here hx rfl (hb hby at_27) rfl ?_
    exact kt)
  obtain ⟨Tj6, lj6, Xj6, Nj6, ej6, pre6⟩ : ∃ (T' : State) (locs' : List Loc), Stand p l e room_1 s m #[(.int p0), (.int p1), (.int p2)] below meth c T' locs' 0 0 ∧ Fr n0 locs' ∧ T'.heap = h0 ∧ ∀ t, Steps p.tables e below (T'.setTop (mkF m 36 #[.val (.int p0), .val (.int p1), .val (.int p2), .val (.int (J0_3_S0 p0 p1 p2 wH wD wU fN fL fU)), .val (.int (J0_15_S0 p0 p1 p2 wH wD wU fN fL fU)), .unset, .unset, .unset, .unset, .unset, .unset, .unset, .unset] [(.int (J0_28_S0 p0 p1 p2 wH wD wU fN fL fU))])) t → Steps p.tables e below (s₁.setTop (entryFrame m #[(.int p0), (.int p1), (.int p2)] maxLocals)) t := by
    by_cases hc28 : (p1 &&& (4 : Int32)) = (0 : Int32)
    · refine ⟨Tj4, _, Xj4, Nj4, ej4, fun t kt => pre5 t ?_⟩
      show Steps p.tables e below (Tj4.setTop (mkF m 28 #[.val (.int p0), .val (.int p1), .val (.int p2), .val (.int (J0_3_S0 p0 p1 p2 wH wD wU fN fL fU)), .val (.int (J0_15_S0 p0 p1 p2 wH wD wU fN fL fU)), .unset, .unset, .unset, .unset, .unset, .unset, .unset, .unset] [(.int (p1 &&& (4 : Int32)))])) _
      refine XS.ifYes Xj4.here hx rfl (pc0 := 28) (pc' := 35) rfl (hb hby at_28) rfl ((if0 _ _).trans (teq hc28).1) (by decide) (by decide) ?_
      show Steps p.tables e below (Tj4.setTop (mkF m 35 #[.val (.int p0), .val (.int p1), .val (.int p2), .val (.int (J0_3_S0 p0 p1 p2 wH wD wU fN fL fU)), .val (.int (J0_15_S0 p0 p1 p2 wH wD wU fN fL fU)), .unset, .unset, .unset, .unset, .unset, .unset, .unset, .unset] [])) _
      refine XS.iconst Xj4.here hx rfl (hb hby at_35) ?_
      show Steps p.tables e below (Tj4.setTop (mkF m 36 #[.val (.int p0), .val (.int p1), .val (.int p2), .val (.int (J0_3_S0 p0 p1 p2 wH wD wU fN fL fU)), .val (.int (J0_15_S0 p0 p1 p2 wH wD wU fN fL fU)), .unset, .unset, .unset, .unset, .unset, .unset, .unset, .unset] [(.int (0 : Int32))])) _
      have qjS0 : (J0_28_S0 p0 p1 p2 wH wD wU fN fL fU) = (0 : Int32) := by unfold J0_28_S0; simp only [if_true, if_false, if_pos hc28]
      rw [qjS0] at kt
      exact kt
    · refine ⟨Tj4, _, Xj4, Nj4, ej4, fun t kt => pre5 t ?_⟩
      show Steps p.tables e below (Tj4.setTop (mkF m 28 #[.val (.int p0), .val (.int p1), .val (.int p2), .val (.int (J0_3_S0 p0 p1 p2 wH wD wU fN fL fU)), .val (.int (J0_15_S0 p0 p1 p2 wH wD wU fN fL fU)), .unset, .unset, .unset, .unset, .unset, .unset, .unset, .unset] [(.int (p1 &&& (4 : Int32)))])) _
      refine XS.ifNo Xj4.here hx rfl (hb hby at_28) rfl ((if0 _ _).trans (feq hc28).1) ?_
      show Steps p.tables e below (Tj4.setTop (mkF m 31 #[.val (.int p0), .val (.int p1), .val (.int p2), .val (.int (J0_3_S0 p0 p1 p2 wH wD wU fN fL fU)), .val (.int (J0_15_S0 p0 p1 p2 wH wD wU fN fL fU)), .unset, .unset, .unset, .unset, .unset, .unset, .unset, .unset] [])) _
      refine XS.iconst Xj4.here hx rfl (hb hby at_31) ?_
      show Steps p.tables e below (Tj4.setTop (mkF m 32 #[.val (.int p0), .val (.int p1), .val (.int p2), .val (.int (J0_3_S0 p0 p1 p2 wH wD wU fN fL fU)), .val (.int (J0_15_S0 p0 p1 p2 wH wD wU fN fL fU)), .unset, .unset, .unset, .unset, .unset, .unset, .unset, .unset] [(.int (1 : Int32))])) _
      refine XS.goto Xj4.here hx rfl (pc0 := 32) (pc' := 36) rfl (hb hby at_32) (by decide) (by decide) ?_
      show Steps p.tables e below (Tj4.setTop (mkF m 36 #[.val (.int p0), .val (.int p1), .val (.int p2), .val (.int (J0_3_S0 p0 p1 p2 wH wD wU fN fL fU)), .val (.int (J0_15_S0 p0 p1 p2 wH wD wU fN fL fU)), .unset, .unset, .unset, .unset, .unset, .unset, .unset, .unset] [(.int (1 : Int32))])) _
      have qjS0 : (J0_28_S0 p0 p1 p2 wH wD wU fN fL fU) = (1 : Int32) := by unfold J0_28_S0; simp only [if_true, if_false, if_neg hc28]
      rw [qjS0] at kt
      exact kt
  have pre7 : ∀ t, Steps p.tables e below (Tj6.setTop (mkF m 46 #[.val (.int p0), .val (.int p1), .val (.int p2), .val (.int (J0_3_S0 p0 p1 p2 wH wD wU fN fL fU)), .val (.int (J0_15_S0 p0 p1 p2 wH wD wU fN fL fU)), .val (.int (J0_28_S0 p0 p1 p2 wH wD wU fN fL fU)), .val (.int (A0_44 p0 p1 p2 wH wD wU fN fL fU)), .unset, .unset, .unset, .unset, .unset, .unset] [])) t → Steps p.tables e below (s₁.setTop (entryFrame m #[(.int p0), (.int p1), (.int p2)] maxLocals)) t := fun t kt => pre6 t (by
    show Steps p.tables e below (Tj6.setTop (mkF m 36 #[.val (.int p0), .val (.int p1), .val (.int p2), .val (.int (J0_3_S0 p0 p1 p2 wH wD wU fN fL fU)), .val (.int (J0_15_S0 p0 p1 p2 wH wD wU fN fL fU)), .unset, .unset, .unset, .unset, .unset, .unset, .unset, .unset] [(.int (J0_28_S0 p0 p1 p2 wH wD wU fN fL fU))])) _
    refine XS.istore Xj6.here hx rfl (hb hby at_36) rfl (l' := #[.val (.int p0), .val (.int p1), .val (.int p2), .val (.int (J0_3_S0 p0 p1 p2 wH wD wU fN fL fU)), .val (.int (J0_15_S0 p0 p1 p2 wH wD wU fN fL fU)), .val (.int (J0_28_S0 p0 p1 p2 wH wD wU fN fL fU)), .unset, .unset, .unset, .unset, .unset, .unset, .unset]) rfl ?_
    show Steps p.tables e below (Tj6.setTop (mkF m 38 #[.val (.int p0), .val (.int p1), .val (.int p2), .val (.int (J0_3_S0 p0 p1 p2 wH wD wU fN fL fU)), .val (.int (J0_15_S0 p0 p1 p2 wH wD wU fN fL fU)), .val (.int (J0_28_S0 p0 p1 p2 wH wD wU fN fL fU)), .unset, .unset, .unset, .unset, .unset, .unset, .unset] [])) _
    refine XS.iloadN Xj6.here hx rfl (hb hby at_38) rfl ?_
    show Steps p.tables e below (Tj6.setTop (mkF m 39 #[.val (.int p0), .val (.int p1), .val (.int p2), .val (.int (J0_3_S0 p0 p1 p2 wH wD wU fN fL fU)), .val (.int (J0_15_S0 p0 p1 p2 wH wD wU fN fL fU)), .val (.int (J0_28_S0 p0 p1 p2 wH wD wU fN fL fU)), .unset, .unset, .unset, .unset, .unset, .unset, .unset] [(.int p2)])) _
    refine Xj6.ldcInt hx hown (mvT hZ (hw _ (List.mem_of_getElem? (i := 0) rfl))) (g := (mkF m 39 #[.val (.int p0), .val (.int p1), .val (.int p2), .val (.int (J0_3_S0 p0 p1 p2 wH wD wU fN fL fU)), .val (.int (J0_15_S0 p0 p1 p2 wH wD wU fN fL fU)), .val (.int (J0_28_S0 p0 p1 p2 wH wD wU fN fL fU)), .unset, .unset, .unset, .unset, .unset, .unset, .unset] [(.int p2)])) rfl (hb hby at_39) _ ?_
    show Steps p.tables e below (Tj6.setTop (mkF m 41 #[.val (.int p0), .val (.int p1), .val (.int p2), .val (.int (J0_3_S0 p0 p1 p2 wH wD wU fN fL fU)), .val (.int (J0_15_S0 p0 p1 p2 wH wD wU fN fL fU)), .val (.int (J0_28_S0 p0 p1 p2 wH wD wU fN fL fU)), .unset, .unset, .unset, .unset, .unset, .unset, .unset] [(.int (2147483647 : Int32)), (.int p2)])) _
    refine XS.iand Xj6.here hx rfl (hb hby at_41) rfl ?_
    show Steps p.tables e below (Tj6.setTop (mkF m 42 #[.val (.int p0), .val (.int p1), .val (.int p2), .val (.int (J0_3_S0 p0 p1 p2 wH wD wU fN fL fU)), .val (.int (J0_15_S0 p0 p1 p2 wH wD wU fN fL fU)), .val (.int (J0_28_S0 p0 p1 p2 wH wD wU fN fL fU)), .unset, .unset, .unset, .unset, .unset, .unset, .unset] [(.int (p2 &&& (2147483647 : Int32)))])) _
    refine XS.iconst Xj6.here hx rfl (hb hby at_42) ?_
    show Steps p.tables e below (Tj6.setTop (mkF m 43 #[.val (.int p0), .val (.int p1), .val (.int p2), .val (.int (J0_3_S0 p0 p1 p2 wH wD wU fN fL fU)), .val (.int (J0_15_S0 p0 p1 p2 wH wD wU fN fL fU)), .val (.int (J0_28_S0 p0 p1 p2 wH wD wU fN fL fU)), .unset, .unset, .unset, .unset, .unset, .unset, .unset] [(.int (3 : Int32)), (.int (p2 &&& (2147483647 : Int32)))])) _
    refine iremM Xj6 hx rfl (hb hby at_43) rfl (by decide) ?_
    show Steps p.tables e below (Tj6.setTop (mkF m 44 #[.val (.int p0), .val (.int p1), .val (.int p2), .val (.int (J0_3_S0 p0 p1 p2 wH wD wU fN fL fU)), .val (.int (J0_15_S0 p0 p1 p2 wH wD wU fN fL fU)), .val (.int (J0_28_S0 p0 p1 p2 wH wD wU fN fL fU)), .unset, .unset, .unset, .unset, .unset, .unset, .unset] [(.int ((p2 &&& (2147483647 : Int32)) % (3 : Int32)))])) _
    refine XS.istore Xj6.here hx rfl (hb hby at_44) rfl (l' := #[.val (.int p0), .val (.int p1), .val (.int p2), .val (.int (J0_3_S0 p0 p1 p2 wH wD wU fN fL fU)), .val (.int (J0_15_S0 p0 p1 p2 wH wD wU fN fL fU)), .val (.int (J0_28_S0 p0 p1 p2 wH wD wU fN fL fU)), .val (.int ((p2 &&& (2147483647 : Int32)) % (3 : Int32))), .unset, .unset, .unset, .unset, .unset, .unset]) rfl ?_
    exact kt)
  by_cases hi0 : (A0_44 p0 p1 p2 wH wD wU fN fL fU) = (0 : Int32)
  · have qr8 : (A0_44 p0 p1 p2 wH wD wU fN fL fU) = (0 : Int32) := hi0
    have pre9 : ∀ t, Steps p.tables e below (Tj6.setTop (mkF m 46 #[.val (.int p0), .val (.int p1), .val (.int p2), .val (.int (J0_3_S0 p0 p1 p2 wH wD wU fN fL fU)), .val (.int (J0_15_S0 p0 p1 p2 wH wD wU fN fL fU)), .val (.int (J0_28_S0 p0 p1 p2 wH wD wU fN fL fU)), .val (.int (0 : Int32)), .unset, .unset, .unset, .unset, .unset, .unset] [])) t → Steps p.tables e below (s₁.setTop (entryFrame m #[(.int p0), (.int p1), (.int p2)] maxLocals)) t := fun t kt => pre7 t (by rw [qr8]; exact kt)
    obtain ⟨T10, h10, X10, e10, E10, A10, D10, U10, st10⟩ := newO Xj6 hx hZ hown (hw _ (List.mem_of_getElem? (i := 1) rfl)) (hw _ (List.mem_of_getElem? (i := 2) rfl)) (hw _ (List.mem_of_getElem? (i := 3) rfl)) ej6 (g := (mkF m 46 #[.val (.int p0), .val (.int p1), .val (.int p2), .val (.int (J0_3_S0 p0 p1 p2 wH wD wU fN fL fU)), .val (.int (J0_15_S0 p0 p1 p2 wH wD wU fN fL fU)), .val (.int (J0_28_S0 p0 p1 p2 wH wD wU fN fL fU)), .val (.int (0 : Int32)), .unset, .unset, .unset, .unset, .unset, .unset] [])) rfl (hb hby at_46) (by decide) (by decide)
    obtain ⟨b10, g10⟩ : ∃ z, z = h0.size := ⟨_, rfl⟩
    rw [← g10] at A10 D10 st10
    have ne11 : fN ≠ b10 := Nat.ne_of_lt (Nat.lt_of_lt_of_le E_fN.lt (Nat.le_of_eq g10.symm))
    have ne12 : fL ≠ b10 := Nat.ne_of_lt (Nat.lt_of_lt_of_le E_fL.lt (Nat.le_of_eq g10.symm))
    have ne13 : fU ≠ b10 := Nat.ne_of_lt (Nat.lt_of_lt_of_le E_fU.lt (Nat.le_of_eq g10.symm))
    have g_b10 : n0 ≤ b10 := Nat.le_trans Z0 (Nat.le_of_eq g10.symm)
    have sz_b10 : h0.size ≤ b10 := Nat.le_trans (Keep.refl h0 []).1 (Nat.le_of_eq g10.symm)
    have K10 : Keep h0 h10 [] := (Keep.refl h0 []).ext E10
    have F_stage_b10 : Fld Z h10 b10 "com/example/admission_for_endpoints/admissionforendpoints/MessageReader" "stage" "Lcom/example/admission_for_endpoints/admissionforendpoints/MessageReader$Stage;" .null := D10 (Or.inl (hw _ (List.mem_of_getElem? (i := 14) rfl))) (ty := (.object "com/example/admission_for_endpoints/admissionforendpoints/MessageReader$Stage")) (by decide)
    have F_line_b10 : Fld Z h10 b10 "com/example/admission_for_endpoints/admissionforendpoints/MessageReader" "line" "[B" .null := D10 (Or.inl (hw _ (List.mem_of_getElem? (i := 17) rfl))) (ty := (.array .byte)) (by decide)
    have F_body_b10 : Fld Z h10 b10 "com/example/admission_for_endpoints/admissionforendpoints/MessageReader" "body" "[B" .null := D10 (Or.inl (hw _ (List.mem_of_getElem? (i := 19) rfl))) (ty := (.array .byte)) (by decide)
    have F_maxBodyBytes_b10 : Fld Z h10 b10 "com/example/admission_for_endpoints/admissionforendpoints/MessageReader" "maxBodyBytes" "I" (.int (0 : Int32)) := D10 (Or.inr (hw _ (List.mem_of_getElem? (i := 21) rfl))) (ty := .int) (by decide)
    have F_cutOffAtBound_b10 : Fld Z h10 b10 "com/example/admission_for_endpoints/admissionforendpoints/MessageReader" "cutOffAtBound" "Z" (.int (0 : Int32)) := D10 (Or.inr (hw _ (List.mem_of_getElem? (i := 23) rfl))) (ty := .boolean) (by decide)
    have F_dropping_b10 : Fld Z h10 b10 "com/example/admission_for_endpoints/admissionforendpoints/MessageReader" "dropping" "Z" (.int (0 : Int32)) := D10 (Or.inl (hw _ (List.mem_of_getElem? (i := 30) rfl))) (ty := .boolean) (by decide)
    have F_lineBytes_b10 : Fld Z h10 b10 "com/example/admission_for_endpoints/admissionforendpoints/MessageReader" "lineBytes" "I" (.int (0 : Int32)) := D10 (Or.inl (hw _ (List.mem_of_getElem? (i := 40) rfl))) (ty := .int) (by decide)
    have F_truncated_b10 : Fld Z h10 b10 "com/example/admission_for_endpoints/admissionforendpoints/MessageReader" "truncated" "Z" (.int (0 : Int32)) := D10 (Or.inl (hw _ (List.mem_of_getElem? (i := 75) rfl))) (ty := .boolean) (by decide)
    have F_bodyBytes_b10 : Fld Z h10 b10 "com/example/admission_for_endpoints/admissionforendpoints/MessageReader" "bodyBytes" "I" (.int (0 : Int32)) := D10 (Or.inl (hw _ (List.mem_of_getElem? (i := 82) rfl))) (ty := .int) (by decide)
    have F_left_b10 : Fld Z h10 b10 "com/example/admission_for_endpoints/admissionforendpoints/MessageReader" "left" "J" (.long (0 : Int64)) := D10 (Or.inl (hw _ (List.mem_of_getElem? (i := 88) rfl))) (ty := .long) (by decide)
    obtain ⟨_, _, ⟨T14, L14, k14, n14⟩, -, X14, ⟨Lc14, hQ14, ll14, ly14, lz14⟩, st14⟩ := X10.specialBack hx (y := (⟨"com/example/admission_for_endpoints/admissionforendpoints/MessageReader", "<init>", "(IZ)V"⟩ : MethodName)) rfl hown (mvT hZ (hw _ (List.mem_of_getElem? (i := 4) rfl))) (mvT hZ (hw _ (List.mem_of_getElem? (i := 5) rfl))) (mvT hZ (hw _ (List.mem_of_getElem? (i := 6) rfl))) (by decide) (backOf (W := 1) (rm1 l Z a0 hw [] b10 p0 (J0_3_S0 p0 p1 p2 wH wD wU fN fL fU) wH h10 n0 (Nat.le_trans Z0 E10.1) A10 F_stage_b10 F_body_b10 F_maxBodyBytes_b10 F_dropping_b10 F_lineBytes_b10 F_truncated_b10 F_bodyBytes_b10 F_left_b10 F_line_b10 F_cutOffAtBound_b10 (Sta.ext E10 S_wH) g_b10) hZ (hw _ (List.mem_of_getElem? (i := 6) rfl)) (hw _ (List.mem_of_getElem? (i := 3) rfl)) (by decide) (by decide)) (g := (mkF m 52 #[.val (.int p0), .val (.int p1), .val (.int p2), .val (.int (J0_3_S0 p0 p1 p2 wH wD wU fN fL fU)), .val (.int (J0_15_S0 p0 p1 p2 wH wD wU fN fL fU)), .val (.int (J0_28_S0 p0 p1 p2 wH wD wU fN fL fU)), .val (.int (0 : Int32)), .unset, .unset, .unset, .unset, .unset, .unset] [(.int (J0_3_S0 p0 p1 p2 wH wD wU fN fL fU)), (.int p0), (.ref b10), (.ref b10)])) rfl (by rw [hml]; rfl) (Steps.refl _) (a := b10) (argsL := [(.int p0), (.int (J0_3_S0 p0 p1 p2 wH wD wU fN fL fU))]) (rest := [(.ref b10)]) (lenOf pd__IZ_V rfl) rfl (by show 2 * 0 + _ ≤ _; exact Nat.le_of_eq rfl) (hb hby at_52) (fun _ _ => ⟨rfl, e10, (by decide : 1 + 2 ≤ _), (by decide : 11 + 256 ≤ _)⟩)
    dsimp only [Pt.U, Pt.locs, Pt.cells, Pt.slots] at X14 ll14 ly14 lz14 st14 hQ14
    subst ll14 ly14 lz14
    obtain ⟨ab14, kb14, rfl, N14q, K14c, P14_0, P14_1, P14_2, P14_3, P14_4, P14_5, P14_6, P14_7, P14_8, P14_9, P14_10⟩ := hQ14
    have N14 := Fr.app Nj6 N14q
    have K14 : Keep h0 T14.heap [] := K10.trans K14c (allS (Or.inr sz_b10) all0)
    have pre15 : ∀ t, Steps p.tables e below (T14.setTop (mkF m 59 #[.val (.int p0), .val (.int p1), .val (.int p2), .val (.int (J0_3_S0 p0 p1 p2 wH wD wU fN fL fU)), .val (.int (J0_15_S0 p0 p1 p2 wH wD wU fN fL fU)), .val (.int (J0_28_S0 p0 p1 p2 wH wD wU fN fL fU)), .val (.int (0 : Int32)), .val (.ref b10), .unset, .unset, .unset, .unset, .unset] [(.int (J0_15_S0 p0 p1 p2 wH wD wU fN fL fU))])) t → Steps p.tables e below (s₁.setTop (entryFrame m #[(.int p0), (.int p1), (.int p2)] maxLocals)) t := fun t kt => pre9 t (by
      show Steps p.tables e below (Tj6.setTop (mkF m 46 #[.val (.int p0), .val (.int p1), .val (.int p2), .val (.int (J0_3_S0 p0 p1 p2 wH wD wU fN fL fU)), .val (.int (J0_15_S0 p0 p1 p2 wH wD wU fN fL fU)), .val (.int (J0_28_S0 p0 p1 p2 wH wD wU fN fL fU)), .val (.int (0 : Int32)), .unset, .unset, .unset, .unset, .unset, .unset] [])) _
      refine st10 _ ?_
      show Steps p.tables e below (T10.setTop (mkF m 49 #[.val (.int p0), .val (.int p1), .val (.int p2), .val (.int (J0_3_S0 p0 p1 p2 wH wD wU fN fL fU)), .val (.int (J0_15_S0 p0 p1 p2 wH wD wU fN fL fU)), .val (.int (J0_28_S0 p0 p1 p2 wH wD wU fN fL fU)), .val (.int (0 : Int32)), .unset, .unset, .unset, .unset, .unset, .unset] [(.ref b10)])) _
      refine XS.dup X10.here hx rfl (hb hby at_49) rfl rfl ?_
      show Steps p.tables e below (T10.setTop (mkF m 50 #[.val (.int p0), .val (.int p1), .val (.int p2), .val (.int (J0_3_S0 p0 p1 p2 wH wD wU fN fL fU)), .val (.int (J0_15_S0 p0 p1 p2 wH wD wU fN fL fU)), .val (.int (J0_28_S0 p0 p1 p2 wH wD wU fN fL fU)), .val (.int (0 : Int32)), .unset, .unset, .unset, .unset, .unset, .unset] [(.ref b10), (.ref b10)])) _
      refine XS.iloadN X10.here hx rfl (hb hby at_50) rfl ?_
      show Steps p.tables e below (T10.setTop (mkF m 51 #[.val (.int p0), .val (.int p1), .val (.int p2), .val (.int (J0_3_S0 p0 p1 p2 wH wD wU fN fL fU)), .val (.int (J0_15_S0 p0 p1 p2 wH wD wU fN fL fU)), .val (.int (J0_28_S0 p0 p1 p2 wH wD wU fN fL fU)), .val (.int (0 : Int32)), .unset, .unset, .unset, .unset, .unset, .unset] [(.int p0), (.ref b10), (.ref b10)])) _
      refine XS.iloadN X10.here hx rfl (hb hby at_51) rfl ?_
      show Steps p.tables e below (T10.setTop (mkF m 52 #[.val (.int p0), .val (.int p1), .val (.int p2), .val (.int (J0_3_S0 p0 p1 p2 wH wD wU fN fL fU)), .val (.int (J0_15_S0 p0 p1 p2 wH wD wU fN fL fU)), .val (.int (J0_28_S0 p0 p1 p2 wH wD wU fN fL fU)), .val (.int (0 : Int32)), .unset, .unset, .unset, .unset, .unset, .unset] [(.int (J0_3_S0 p0 p1 p2 wH wD wU fN fL fU)), (.int p0), (.ref b10), (.ref b10)])) _
      refine st14.trans ?_
      show Steps p.tables e below (T14.setTop (mkF m 55 #[.val (.int p0), .val (.int p1), .val (.int p2), .val (.int (J0_3_S0 p0 p1 p2 wH wD wU fN fL fU)), .val (.int (J0_15_S0 p0 p1 p2 wH wD wU fN fL fU)), .val (.int (J0_28_S0 p0 p1 p2 wH wD wU fN fL fU)), .val (.int (0 : Int32)), .unset, .unset, .unset, .unset, .unset, .unset] [(.ref b10)])) _
      refine XS.astore X14.here hx rfl (hb hby at_55) rfl rfl (l' := #[.val (.int p0), .val (.int p1), .val (.int p2), .val (.int (J0_3_S0 p0 p1 p2 wH wD wU fN fL fU)), .val (.int (J0_15_S0 p0 p1 p2 wH wD wU fN fL fU)), .val (.int (J0_28_S0 p0 p1 p2 wH wD wU fN fL fU)), .val (.int (0 : Int32)), .val (.ref b10), .unset, .unset, .unset, .unset, .unset]) rfl ?_
      show Steps p.tables e below (T14.setTop (mkF m 57 #[.val (.int p0), .val (.int p1), .val (.int p2), .val (.int (J0_3_S0 p0 p1 p2 wH wD wU fN fL fU)), .val (.int (J0_15_S0 p0 p1 p2 wH wD wU fN fL fU)), .val (.int (J0_28_S0 p0 p1 p2 wH wD wU fN fL fU)), .val (.int (0 : Int32)), .val (.ref b10), .unset, .unset, .unset, .unset, .unset] [])) _
      refine XS.iload X14.here hx rfl (hb hby at_57) rfl ?_
      exact kt)
    by_cases hc59 : (J0_15_S0 p0 p1 p2 wH wD wU fN fL fU) = (0 : Int32)
    · obtain ⟨T16, X16, e16, st16⟩ := getS2 X14 hx hZ hown (host := "") (Or.inl (hw _ (List.mem_of_getElem? (i := 83) rfl))) Via.refl (rfl : T14.heap = T14.heap) (own_staK (Sta.ext E10 S_fN) K14c (allS (own_exaN A10) all0)) (g := (mkF m 72 #[.val (.int p0), .val (.int p1), .val (.int p2), .val (.int (J0_3_S0 p0 p1 p2 wH wD wU fN fL fU)), .val (.int (J0_15_S0 p0 p1 p2 wH wD wU fN fL fU)), .val (.int (J0_28_S0 p0 p1 p2 wH wD wU fN fL fU)), .val (.int (0 : Int32)), .val (.ref b10), .unset, .unset, .unset, .unset, .unset] [])) rfl (hb hby at_72)
      obtain ⟨cq17, kq17, q17a, q17b, q17c⟩ := isOf hZ e16 P14_0
      obtain ⟨_, _, ⟨T17, L17, k17, n17⟩, -, X17, ⟨Lc17, hQ17, ll17, ly17, lz17⟩, st17⟩ := X16.virtualBack hx (y := (⟨"com/example/admission_for_endpoints/admissionforendpoints/MessageReader", "frame", "(Lcom/example/admission_for_endpoints/admissionforendpoints/MessageReader$Framing;J)V"⟩ : MethodName)) (z := (⟨"com/example/admission_for_endpoints/admissionforendpoints/MessageReader", "frame", "(Lcom/example/admission_for_endpoints/admissionforendpoints/MessageReader$Framing;J)V"⟩ : MethodName)) hown (mvT hZ (hw _ (List.mem_of_getElem? (i := 34) rfl))) (mvT hZ (hw _ (List.mem_of_getElem? (i := 35) rfl))) (notFace_of_selects (args := #[]) (mvT hZ (hw _ (List.mem_of_getElem? (i := 37) rfl)))) (mvT hZ (hw _ (List.mem_of_getElem? (i := 37) rfl))) (mvT hZ (hw _ (List.mem_of_getElem? (i := 36) rfl))) (by decide) (backOf (W := 0) (rm4o0 l Z a0 hw [] b10 fN wH ab14 p0 (0 : Int32) (0 : Int32) (0 : Int32) (0 : Int32) (0 : Int64) kb14 wD wU T14.heap n0 (Nat.le_trans (Nat.le_trans Z0 E10.1) K14c.1) P14_0 P14_1 P14_2 P14_3 P14_4 P14_5 P14_6 P14_7 P14_8 P14_9 (own_staK (Sta.ext E10 S_wD) K14c (allS (own_exaN A10) all0)) (own_staK (Sta.ext E10 S_wU) K14c (allS (own_exaN A10) all0)) (Exa.keep (Exa.ext E10 E_fN) K14c) ((Fld.ext E10 O_fN).keep K14c (ninS ne11 nin0)) g_b10 P14_10 ne11) hZ (hw _ (List.mem_of_getElem? (i := 38) rfl)) (hw _ (List.mem_of_getElem? (i := 3) rfl)) (by decide) (by decide)) q17a q17c (g := (mkF m 104 #[.val (.int p0), .val (.int p1), .val (.int p2), .val (.int (J0_3_S0 p0 p1 p2 wH wD wU fN fL fU)), .val (.int (J0_15_S0 p0 p1 p2 wH wD wU fN fL fU)), .val (.int (J0_28_S0 p0 p1 p2 wH wD wU fN fL fU)), .val (.int (0 : Int32)), .val (.ref b10), .val (.ref fN), .unset, .unset, .unset, .unset] [(.long (0 : Int64)), (.ref fN), (.ref b10)])) rfl (by rw [hml]; rfl) (Steps.refl _) (argsL := [(.ref fN), (.long (0 : Int64))]) (rest := []) (lenOf pd__Lcom_example_admission_for_endpoints_admissionforendpoints_MessageReader_Framing_J_V rfl) rfl (by show 2 * 0 + _ ≤ _; exact Nat.le_of_eq rfl) (hb hby at_104) (fun _ _ => ⟨rfl, e16, (by decide : 3 + 0 ≤ _), (by decide : 267 + 0 ≤ _)⟩)
      dsimp only [Pt.U, Pt.locs, Pt.cells, Pt.slots] at X17 ll17 ly17 lz17 st17 hQ17
      subst ll17 ly17 lz17
      obtain ⟨rfl, N17q, K17c, P17_0, P17_1, P17_2, P17_3, P17_4, P17_5, P17_6, P17_7⟩ := hQ17
      have N17 := Fr.app N14 N17q
      have K17 : Keep h0 T17.heap [] := K14.trans K17c (allS (Or.inr sz_b10) all0)
      obtain ⟨cq18, kq18, q18a, q18b, q18c⟩ := isOf hZ (rfl : T17.heap = T17.heap) P17_0
      obtain ⟨_, _, ⟨T18, L18, k18, n18⟩, -, X18, ⟨Lc18, hQ18, ll18, ly18, lz18⟩, st18⟩ := X17.virtualBack hx (y := (⟨"com/example/admission_for_endpoints/admissionforendpoints/MessageReader", "ended", "()Z"⟩ : MethodName)) (z := (⟨"com/example/admission_for_endpoints/admissionforendpoints/MessageReader", "ended", "()Z"⟩ : MethodName)) hown (mvT hZ (hw _ (List.mem_of_getElem? (i := 57) rfl))) (mvT hZ (hw _ (List.mem_of_getElem? (i := 58) rfl))) (notFace_of_selects (args := #[]) (mvT hZ (hw _ (List.mem_of_getElem? (i := 60) rfl)))) (mvT hZ (hw _ (List.mem_of_getElem? (i := 60) rfl))) (mvT hZ (hw _ (List.mem_of_getElem? (i := 59) rfl))) (by decide) (backOf (W := 0) (rm7d l Z a0 hw [] b10 wD T17.heap n0 (Nat.le_trans (Nat.le_trans (Nat.le_trans Z0 E10.1) K14c.1) K17c.1) P17_1 (own_staK (own_staK (Sta.ext E10 S_wD) K14c (allS (own_exaN A10) all0)) K17c (allS (own_exaN P14_0) all0))) hZ (hw _ (List.mem_of_getElem? (i := 61) rfl)) (hw _ (List.mem_of_getElem? (i := 3) rfl)) (by decide) (by decide)) q18a q18c (g := (mkF m 109 #[.val (.int p0), .val (.int p1), .val (.int p2), .val (.int (J0_3_S0 p0 p1 p2 wH wD wU fN fL fU)), .val (.int (J0_15_S0 p0 p1 p2 wH wD wU fN fL fU)), .val (.int (J0_28_S0 p0 p1 p2 wH wD wU fN fL fU)), .val (.int (0 : Int32)), .val (.ref b10), .val (.ref fN), .unset, .unset, .unset, .unset] [(.ref b10)])) rfl (by rw [hml]; rfl) (Steps.refl _) (argsL := []) (rest := []) (lenOf pd___Z rfl) rfl (by show 2 * 0 + _ ≤ _; exact Nat.le_of_eq rfl) (hb hby at_109) (fun _ _ => ⟨rfl, (rfl : T17.heap = T17.heap), (by decide : 3 + 0 ≤ _), (by decide : 267 + 0 ≤ _)⟩)
      dsimp only [Pt.U, Pt.locs, Pt.cells, Pt.slots] at X18 ll18 ly18 lz18 st18 hQ18
      subst ll18 ly18 lz18
      obtain ⟨rfl, N18q, e18⟩ := hQ18
      have N18 := Fr.app N17 N18q
      obtain ⟨cq19, kq19, q19a, q19b, q19c⟩ := isOf hZ e18 P17_0
      obtain ⟨_, _, ⟨T19, L19, k19, n19⟩, -, X19, ⟨Lc19, hQ19, ll19, ly19, lz19⟩, st19⟩ := X18.virtualBack hx (y := (⟨"com/example/admission_for_endpoints/admissionforendpoints/MessageReader", "end", "()Z"⟩ : MethodName)) (z := (⟨"com/example/admission_for_endpoints/admissionforendpoints/MessageReader", "end", "()Z"⟩ : MethodName)) hown (mvT hZ (hw _ (List.mem_of_getElem? (i := 64) rfl))) (mvT hZ (hw _ (List.mem_of_getElem? (i := 65) rfl))) (notFace_of_selects (args := #[]) (mvT hZ (hw _ (List.mem_of_getElem? (i := 67) rfl)))) (mvT hZ (hw _ (List.mem_of_getElem? (i := 67) rfl))) (mvT hZ (hw _ (List.mem_of_getElem? (i := 66) rfl))) (by decide) (backOf (W := 0) (rm8d l Z a0 hw [] b10 wD wU T17.heap n0 (Nat.le_trans (Nat.le_trans (Nat.le_trans Z0 E10.1) K14c.1) K17c.1) P17_1 (own_staK (own_staK (Sta.ext E10 S_wD) K14c (allS (own_exaN A10) all0)) K17c (allS (own_exaN P14_0) all0)) (own_staK (own_staK (Sta.ext E10 S_wU) K14c (allS (own_exaN A10) all0)) K17c (allS (own_exaN P14_0) all0)) ne_UD) hZ (hw _ (List.mem_of_getElem? (i := 68) rfl)) (hw _ (List.mem_of_getElem? (i := 3) rfl)) (by decide) (by decide)) q19a q19c (g := (mkF m 129 #[.val (.int p0), .val (.int p1), .val (.int p2), .val (.int (J0_3_S0 p0 p1 p2 wH wD wU fN fL fU)), .val (.int (J0_15_S0 p0 p1 p2 wH wD wU fN fL fU)), .val (.int (J0_28_S0 p0 p1 p2 wH wD wU fN fL fU)), .val (.int (0 : Int32)), .val (.ref b10), .val (.ref fN), .val (.int (1 : Int32)), .val (.int (1 : Int32)), .unset, .unset] [(.ref b10)])) rfl (by rw [hml]; rfl) (Steps.refl _) (argsL := []) (rest := []) (lenOf pd___Z rfl) rfl (by show 2 * 0 + _ ≤ _; exact Nat.le_of_eq rfl) (hb hby at_129) (fun _ _ => ⟨rfl, e18, (by decide : 3 + 0 ≤ _), (by decide : 267 + 0 ≤ _)⟩)
      dsimp only [Pt.U, Pt.locs, Pt.cells, Pt.slots] at X19 ll19 ly19 lz19 st19 hQ19
      subst ll19 ly19 lz19
      obtain ⟨rfl, N19q, e19⟩ := hQ19
      have N19 := Fr.app N18 N19q
      obtain ⟨cq20, kq20, q20a, q20b, q20c⟩ := isOf hZ e19 P17_0
      obtain ⟨_, _, ⟨T20, L20, k20, n20⟩, -, X20, ⟨Lc20, hQ20, ll20, ly20, lz20⟩, st20⟩ := X19.virtualBack hx (y := (⟨"com/example/admission_for_endpoints/admissionforendpoints/MessageReader", "ended", "()Z"⟩ : MethodName)) (z := (⟨"com/example/admission_for_endpoints/admissionforendpoints/MessageReader", "ended", "()Z"⟩ : MethodName)) hown (mvT hZ (hw _ (List.mem_of_getElem? (i := 57) rfl))) (mvT hZ (hw _ (List.mem_of_getElem? (i := 58) rfl))) (notFace_of_selects (args := #[]) (mvT hZ (hw _ (List.mem_of_getElem? (i := 60) rfl)))) (mvT hZ (hw _ (List.mem_of_getElem? (i := 60) rfl))) (mvT hZ (hw _ (List.mem_of_getElem? (i := 59) rfl))) (by decide) (backOf (W := 0) (rm7d l Z a0 hw [] b10 wD T17.heap n0 (Nat.le_trans (Nat.le_trans (Nat.le_trans Z0 E10.1) K14c.1) K17c.1) P17_1 (own_staK (own_staK (Sta.ext E10 S_wD) K14c (allS (own_exaN A10) all0)) K17c (allS (own_exaN P14_0) all0))) hZ (hw _ (List.mem_of_getElem? (i := 61) rfl)) (hw _ (List.mem_of_getElem? (i := 3) rfl)) (by decide) (by decide)) q20a q20c (g := (mkF m 148 #[.val (.int p0), .val (.int p1), .val (.int p2), .val (.int (J0_3_S0 p0 p1 p2 wH wD wU fN fL fU)), .val (.int (J0_15_S0 p0 p1 p2 wH wD wU fN fL fU)), .val (.int (J0_28_S0 p0 p1 p2 wH wD wU fN fL fU)), .val (.int (0 : Int32)), .val (.ref b10), .val (.ref fN), .val (.int (1 : Int32)), .val (.int (1 : Int32)), .val (.int (1 : Int32)), .unset] [(.ref b10)])) rfl (by rw [hml]; rfl) (Steps.refl _) (argsL := []) (rest := []) (lenOf pd___Z rfl) rfl (by show 2 * 0 + _ ≤ _; exact Nat.le_of_eq rfl) (hb hby at_148) (fun _ _ => ⟨rfl, e19, (by decide : 3 + 0 ≤ _), (by decide : 267 + 0 ≤ _)⟩)
      dsimp only [Pt.U, Pt.locs, Pt.cells, Pt.slots] at X20 ll20 ly20 lz20 st20 hQ20
      subst ll20 ly20 lz20
      obtain ⟨rfl, N20q, e20⟩ := hQ20
      have N20 := Fr.app N19 N20q
      obtain ⟨cq21, kq21, q21a, q21b, q21c⟩ := isOf hZ e20 P17_0
      obtain ⟨_, _, ⟨T21, L21, k21, n21⟩, -, X21, ⟨Lc21, hQ21, ll21, ly21, lz21⟩, st21⟩ := X20.virtualBack hx (y := (⟨"com/example/admission_for_endpoints/admissionforendpoints/MessageReader", "truncated", "()Z"⟩ : MethodName)) (z := (⟨"com/example/admission_for_endpoints/admissionforendpoints/MessageReader", "truncated", "()Z"⟩ : MethodName)) hown (mvT hZ (hw _ (List.mem_of_getElem? (i := 69) rfl))) (mvT hZ (hw _ (List.mem_of_getElem? (i := 70) rfl))) (notFace_of_selects (args := #[]) (mvT hZ (hw _ (List.mem_of_getElem? (i := 72) rfl)))) (mvT hZ (hw _ (List.mem_of_getElem? (i := 72) rfl))) (mvT hZ (hw _ (List.mem_of_getElem? (i := 71) rfl))) (by decide) (backOf (W := 0) (rm9 l Z a0 hw [] b10 T17.heap n0 (Nat.le_trans (Nat.le_trans (Nat.le_trans Z0 E10.1) K14c.1) K17c.1) P17_5) hZ (hw _ (List.mem_of_getElem? (i := 73) rfl)) (hw _ (List.mem_of_getElem? (i := 3) rfl)) (by decide) (by decide)) q21a q21c (g := (mkF m 156 #[.val (.int p0), .val (.int p1), .val (.int p2), .val (.int (J0_3_S0 p0 p1 p2 wH wD wU fN fL fU)), .val (.int (J0_15_S0 p0 p1 p2 wH wD wU fN fL fU)), .val (.int (J0_28_S0 p0 p1 p2 wH wD wU fN fL fU)), .val (.int (0 : Int32)), .val (.ref b10), .val (.ref fN), .val (.int (1 : Int32)), .val (.int (1 : Int32)), .val (.int (1 : Int32)), .unset] [(.ref b10)])) rfl (by rw [hml]; rfl) (Steps.refl _) (argsL := []) (rest := []) (lenOf pd___Z rfl) rfl (by show 2 * 0 + _ ≤ _; exact Nat.le_of_eq rfl) (hb hby at_156) (fun _ _ => ⟨rfl, e20, (by decide : 3 + 0 ≤ _), (by decide : 267 + 0 ≤ _)⟩)
      dsimp only [Pt.U, Pt.locs, Pt.cells, Pt.slots] at X21 ll21 ly21 lz21 st21 hQ21
      subst ll21 ly21 lz21
      obtain ⟨rfl, N21q, e21⟩ := hQ21
      have N21 := Fr.app N20 N21q
      obtain ⟨cq22, kq22, q22a, q22b, q22c⟩ := isOf hZ e21 P17_0
      obtain ⟨_, _, ⟨T22, L22, k22, n22⟩, -, X22, ⟨Lc22, hQ22, ll22, ly22, lz22⟩, st22⟩ := X21.virtualBack hx (y := (⟨"com/example/admission_for_endpoints/admissionforendpoints/MessageReader", "bodyBytes", "()I"⟩ : MethodName)) (z := (⟨"com/example/admission_for_endpoints/admissionforendpoints/MessageReader", "bodyBytes", "()I"⟩ : MethodName)) hown (mvT hZ (hw _ (List.mem_of_getElem? (i := 76) rfl))) (mvT hZ (hw _ (List.mem_of_getElem? (i := 77) rfl))) (notFace_of_selects (args := #[]) (mvT hZ (hw _ (List.mem_of_getElem? (i := 79) rfl)))) (mvT hZ (hw _ (List.mem_of_getElem? (i := 79) rfl))) (mvT hZ (hw _ (List.mem_of_getElem? (i := 78) rfl))) (by decide) (backOf (W := 0) (rm10 l Z a0 hw [] b10 T17.heap n0 (Nat.le_trans (Nat.le_trans (Nat.le_trans Z0 E10.1) K14c.1) K17c.1) P17_6) hZ (hw _ (List.mem_of_getElem? (i := 80) rfl)) (hw _ (List.mem_of_getElem? (i := 3) rfl)) (by decide) (by decide)) q22a q22c (g := (mkF m 164 #[.val (.int p0), .val (.int p1), .val (.int p2), .val (.int (J0_3_S0 p0 p1 p2 wH wD wU fN fL fU)), .val (.int (J0_15_S0 p0 p1 p2 wH wD wU fN fL fU)), .val (.int (J0_28_S0 p0 p1 p2 wH wD wU fN fL fU)), .val (.int (0 : Int32)), .val (.ref b10), .val (.ref fN), .val (.int (1 : Int32)), .val (.int (1 : Int32)), .val (.int (1 : Int32)), .unset] [(.ref b10)])) rfl (by rw [hml]; rfl) (Steps.refl _) (argsL := []) (rest := []) (lenOf pd___I rfl) rfl (by show 2 * 0 + _ ≤ _; exact Nat.le_of_eq rfl) (hb hby at_164) (fun _ _ => ⟨rfl, e21, (by decide : 3 + 0 ≤ _), (by decide : 267 + 0 ≤ _)⟩)
      dsimp only [Pt.U, Pt.locs, Pt.cells, Pt.slots] at X22 ll22 ly22 lz22 st22 hQ22
      subst ll22 ly22 lz22
      obtain ⟨rfl, N22q, e22⟩ := hQ22
      have N22 := Fr.app N21 N22q
      have pre23 : ∀ t, Steps p.tables e below (T22.setTop (mkF m 179 #[.val (.int p0), .val (.int p1), .val (.int p2), .val (.int (J0_3_S0 p0 p1 p2 wH wD wU fN fL fU)), .val (.int (J0_15_S0 p0 p1 p2 wH wD wU fN fL fU)), .val (.int (J0_28_S0 p0 p1 p2 wH wD wU fN fL fU)), .val (.int (0 : Int32)), .val (.ref b10), .val (.ref fN), .val (.int (1 : Int32)), .val (.int (1 : Int32)), .val (.int (1 : Int32)), .val (.int (1 : Int32))] [(.int (J0_28_S0 p0 p1 p2 wH wD wU fN fL fU))])) t → Steps p.tables e below (s₁.setTop (entryFrame m #[(.int p0), (.int p1), (.int p2)] maxLocals)) t := fun t kt => pre15 t (by
        show Steps p.tables e below (T14.setTop (mkF m 59 #[.val (.int p0), .val (.int p1), .val (.int p2), .val (.int (J0_3_S0 p0 p1 p2 wH wD wU fN fL fU)), .val (.int (J0_15_S0 p0 p1 p2 wH wD wU fN fL fU)), .val (.int (J0_28_S0 p0 p1 p2 wH wD wU fN fL fU)), .val (.int (0 : Int32)), .val (.ref b10), .unset, .unset, .unset, .unset, .unset] [(.int (J0_15_S0 p0 p1 p2 wH wD wU fN fL fU))])) _
        refine XS.ifYes X14.here hx rfl (pc0 := 59) (pc' := 67) rfl (hb hby at_59) rfl ((if0 _ _).trans (teq hc59).1) (by decide) (by decide) ?_
        show Steps p.tables e below (T14.setTop (mkF m 67 #[.val (.int p0), .val (.int p1), .val (.int p2), .val (.int (J0_3_S0 p0 p1 p2 wH wD wU fN fL fU)), .val (.int (J0_15_S0 p0 p1 p2 wH wD wU fN fL fU)), .val (.int (J0_28_S0 p0 p1 p2 wH wD wU fN fL fU)), .val (.int (0 : Int32)), .val (.ref b10), .unset, .unset, .unset, .unset, .unset] [])) _
        refine XS.iload X14.here hx rfl (hb hby at_67) rfl ?_
        show Steps p.tables e below (T14.setTop (mkF m 69 #[.val (.int p0), .val (.int p1), .val (.int p2), .val (.int (J0_3_S0 p0 p1 p2 wH wD wU fN fL fU)), .val (.int (J0_15_S0 p0 p1 p2 wH wD wU fN fL fU)), .val (.int (J0_28_S0 p0 p1 p2 wH wD wU fN fL fU)), .val (.int (0 : Int32)), .val (.ref b10), .unset, .unset, .unset, .unset, .unset] [(.int (0 : Int32))])) _
        refine XS.ifNo X14.here hx rfl (hb hby at_69) rfl ((if0 _ _).trans (teq (by decide : (0 : Int32) = (0 : Int32))).2) ?_
        show Steps p.tables e below (T14.setTop (mkF m 72 #[.val (.int p0), .val (.int p1), .val (.int p2), .val (.int (J0_3_S0 p0 p1 p2 wH wD wU fN fL fU)), .val (.int (J0_15_S0 p0 p1 p2 wH wD wU fN fL fU)), .val (.int (J0_28_S0 p0 p1 p2 wH wD wU fN fL fU)), .val (.int (0 : Int32)), .val (.ref b10), .unset, .unset, .unset, .unset, .unset] [])) _
        refine st16 _ ?_
        show Steps p.tables e below (T16.setTop (mkF m 75 #[.val (.int p0), .val (.int p1), .val (.int p2), .val (.int (J0_3_S0 p0 p1 p2 wH wD wU fN fL fU)), .val (.int (J0_15_S0 p0 p1 p2 wH wD wU fN fL fU)), .val (.int (J0_28_S0 p0 p1 p2 wH wD wU fN fL fU)), .val (.int (0 : Int32)), .val (.ref b10), .unset, .unset, .unset, .unset, .unset] [(.ref fN)])) _
        refine XS.astore X16.here hx rfl (hb hby at_75) rfl rfl (l' := #[.val (.int p0), .val (.int p1), .val (.int p2), .val (.int (J0_3_S0 p0 p1 p2 wH wD wU fN fL fU)), .val (.int (J0_15_S0 p0 p1 p2 wH wD wU fN fL fU)), .val (.int (J0_28_S0 p0 p1 p2 wH wD wU fN fL fU)), .val (.int (0 : Int32)), .val (.ref b10), .val (.ref fN), .unset, .unset, .unset, .unset]) rfl ?_
        show Steps p.tables e below (T16.setTop (mkF m 77 #[.val (.int p0), .val (.int p1), .val (.int p2), .val (.int (J0_3_S0 p0 p1 p2 wH wD wU fN fL fU)), .val (.int (J0_15_S0 p0 p1 p2 wH wD wU fN fL fU)), .val (.int (J0_28_S0 p0 p1 p2 wH wD wU fN fL fU)), .val (.int (0 : Int32)), .val (.ref b10), .val (.ref fN), .unset, .unset, .unset, .unset] [])) _
        refine XS.goto X16.here hx rfl (pc0 := 77) (pc' := 99) rfl (hb hby at_77) (by decide) (by decide) ?_
        show Steps p.tables e below (T16.setTop (mkF m 99 #[.val (.int p0), .val (.int p1), .val (.int p2), .val (.int (J0_3_S0 p0 p1 p2 wH wD wU fN fL fU)), .val (.int (J0_15_S0 p0 p1 p2 wH wD wU fN fL fU)), .val (.int (J0_28_S0 p0 p1 p2 wH wD wU fN fL fU)), .val (.int (0 : Int32)), .val (.ref b10), .val (.ref fN), .unset, .unset, .unset, .unset] [])) _
        refine XS.aload X16.here hx rfl (hb hby at_99) rfl rfl ?_
        show Steps p.tables e below (T16.setTop (mkF m 101 #[.val (.int p0), .val (.int p1), .val (.int p2), .val (.int (J0_3_S0 p0 p1 p2 wH wD wU fN fL fU)), .val (.int (J0_15_S0 p0 p1 p2 wH wD wU fN fL fU)), .val (.int (J0_28_S0 p0 p1 p2 wH wD wU fN fL fU)), .val (.int (0 : Int32)), .val (.ref b10), .val (.ref fN), .unset, .unset, .unset, .unset] [(.ref b10)])) _
        refine XS.aload X16.here hx rfl (hb hby at_101) rfl rfl ?_
        show Steps p.tables e below (T16.setTop (mkF m 103 #[.val (.int p0), .val (.int p1), .val (.int p2), .val (.int (J0_3_S0 p0 p1 p2 wH wD wU fN fL fU)), .val (.int (J0_15_S0 p0 p1 p2 wH wD wU fN fL fU)), .val (.int (J0_28_S0 p0 p1 p2 wH wD wU fN fL fU)), .val (.int (0 : Int32)), .val (.ref b10), .val (.ref fN), .unset, .unset, .unset, .unset] [(.ref fN), (.ref b10)])) _
        refine XS.lconst X16.here hx rfl (hb hby at_103) ?_
        show Steps p.tables e below (T16.setTop (mkF m 104 #[.val (.int p0), .val (.int p1), .val (.int p2), .val (.int (J0_3_S0 p0 p1 p2 wH wD wU fN fL fU)), .val (.int (J0_15_S0 p0 p1 p2 wH wD wU fN fL fU)), .val (.int (J0_28_S0 p0 p1 p2 wH wD wU fN fL fU)), .val (.int (0 : Int32)), .val (.ref b10), .val (.ref fN), .unset, .unset, .unset, .unset] [(.long (0 : Int64)), (.ref fN), (.ref b10)])) _
        refine st17.trans ?_
        show Steps p.tables e below (T17.setTop (mkF m 107 #[.val (.int p0), .val (.int p1), .val (.int p2), .val (.int (J0_3_S0 p0 p1 p2 wH wD wU fN fL fU)), .val (.int (J0_15_S0 p0 p1 p2 wH wD wU fN fL fU)), .val (.int (J0_28_S0 p0 p1 p2 wH wD wU fN fL fU)), .val (.int (0 : Int32)), .val (.ref b10), .val (.ref fN), .unset, .unset, .unset, .unset] [])) _
        refine XS.aload X17.here hx rfl (hb hby at_107) rfl rfl ?_
        show Steps p.tables e below (T17.setTop (mkF m 109 #[.val (.int p0), .val (.int p1), .val (.int p2), .val (.int (J0_3_S0 p0 p1 p2 wH wD wU fN fL fU)), .val (.int (J0_15_S0 p0 p1 p2 wH wD wU fN fL fU)), .val (.int (J0_28_S0 p0 p1 p2 wH wD wU fN fL fU)), .val (.int (0 : Int32)), .val (.ref b10), .val (.ref fN), .unset, .unset, .unset, .unset] [(.ref b10)])) _
        refine st18.trans ?_
        show Steps p.tables e below (T18.setTop (mkF m 112 #[.val (.int p0), .val (.int p1), .val (.int p2), .val (.int (J0_3_S0 p0 p1 p2 wH wD wU fN fL fU)), .val (.int (J0_15_S0 p0 p1 p2 wH wD wU fN fL fU)), .val (.int (J0_28_S0 p0 p1 p2 wH wD wU fN fL fU)), .val (.int (0 : Int32)), .val (.ref b10), .val (.ref fN), .unset, .unset, .unset, .unset] [(.int (1 : Int32))])) _
        refine XS.istore X18.here hx rfl (hb hby at_112) rfl (l' := #[.val (.int p0), .val (.int p1), .val (.int p2), .val (.int (J0_3_S0 p0 p1 p2 wH wD wU fN fL fU)), .val (.int (J0_15_S0 p0 p1 p2 wH wD wU fN fL fU)), .val (.int (J0_28_S0 p0 p1 p2 wH wD wU fN fL fU)), .val (.int (0 : Int32)), .val (.ref b10), .val (.ref fN), .val (.int (1 : Int32)), .unset, .unset, .unset]) rfl ?_
        show Steps p.tables e below (T18.setTop (mkF m 114 #[.val (.int p0), .val (.int p1), .val (.int p2), .val (.int (J0_3_S0 p0 p1 p2 wH wD wU fN fL fU)), .val (.int (J0_15_S0 p0 p1 p2 wH wD wU fN fL fU)), .val (.int (J0_28_S0 p0 p1 p2 wH wD wU fN fL fU)), .val (.int (0 : Int32)), .val (.ref b10), .val (.ref fN), .val (.int (1 : Int32)), .unset, .unset, .unset] [])) _
        refine XS.iload X18.here hx rfl (hb hby at_114) rfl ?_
        show Steps p.tables e below (T18.setTop (mkF m 116 #[.val (.int p0), .val (.int p1), .val (.int p2), .val (.int (J0_3_S0 p0 p1 p2 wH wD wU fN fL fU)), .val (.int (J0_15_S0 p0 p1 p2 wH wD wU fN fL fU)), .val (.int (J0_28_S0 p0 p1 p2 wH wD wU fN fL fU)), .val (.int (0 : Int32)), .val (.ref b10), .val (.ref fN), .val (.int (1 : Int32)), .unset, .unset, .unset] [(.int (0 : Int32))])) _
        refine XS.iconst X18.here hx rfl (hb hby at_116) ?_
        show Steps p.tables e below (T18.setTop (mkF m 117 #[.val (.int p0), .val (.int p1), .val (.int p2), .val (.int (J0_3_S0 p0 p1 p2 wH wD wU fN fL fU)), .val (.int (J0_15_S0 p0 p1 p2 wH wD wU fN fL fU)), .val (.int (J0_28_S0 p0 p1 p2 wH wD wU fN fL fU)), .val (.int (0 : Int32)), .val (.ref b10), .val (.ref fN), .val (.int (1 : Int32)), .unset, .unset, .unset] [(.int (2 : Int32)), (.int (0 : Int32))])) _
        refine XS.icmpNo X18.here hx rfl (hb hby at_117) rfl (feq (by decide : ¬ ((0 : Int32) = (2 : Int32)))).1 ?_
        show Steps p.tables e below (T18.setTop (mkF m 120 #[.val (.int p0), .val (.int p1), .val (.int p2), .val (.int (J0_3_S0 p0 p1 p2 wH wD wU fN fL fU)), .val (.int (J0_15_S0 p0 p1 p2 wH wD wU fN fL fU)), .val (.int (J0_28_S0 p0 p1 p2 wH wD wU fN fL fU)), .val (.int (0 : Int32)), .val (.ref b10), .val (.ref fN), .val (.int (1 : Int32)), .unset, .unset, .unset] [])) _
        refine XS.iconst X18.here hx rfl (hb hby at_120) ?_
        show Steps p.tables e below (T18.setTop (mkF m 121 #[.val (.int p0), .val (.int p1), .val (.int p2), .val (.int (J0_3_S0 p0 p1 p2 wH wD wU fN fL fU)), .val (.int (J0_15_S0 p0 p1 p2 wH wD wU fN fL fU)), .val (.int (J0_28_S0 p0 p1 p2 wH wD wU fN fL fU)), .val (.int (0 : Int32)), .val (.ref b10), .val (.ref fN), .val (.int (1 : Int32)), .unset, .unset, .unset] [(.int (1 : Int32))])) _
        refine XS.goto X18.here hx rfl (pc0 := 121) (pc' := 125) rfl (hb hby at_121) (by decide) (by decide) ?_
        show Steps p.tables e below (T18.setTop (mkF m 125 #[.val (.int p0), .val (.int p1), .val (.int p2), .val (.int (J0_3_S0 p0 p1 p2 wH wD wU fN fL fU)), .val (.int (J0_15_S0 p0 p1 p2 wH wD wU fN fL fU)), .val (.int (J0_28_S0 p0 p1 p2 wH wD wU fN fL fU)), .val (.int (0 : Int32)), .val (.ref b10), .val (.ref fN), .val (.int (1 : Int32)), .unset, .unset, .unset] [(.int (1 : Int32))])) _
        refine XS.istore X18.here hx rfl (hb hby at_125) rfl (l' := #[.val (.int p0), .val (.int p1), .val (.int p2), .val (.int (J0_3_S0 p0 p1 p2 wH wD wU fN fL fU)), .val (.int (J0_15_S0 p0 p1 p2 wH wD wU fN fL fU)), .val (.int (J0_28_S0 p0 p1 p2 wH wD wU fN fL fU)), .val (.int (0 : Int32)), .val (.ref b10), .val (.ref fN), .val (.int (1 : Int32)), .val (.int (1 : Int32)), .unset, .unset]) rfl ?_
        show Steps p.tables e below (T18.setTop (mkF m 127 #[.val (.int p0), .val (.int p1), .val (.int p2), .val (.int (J0_3_S0 p0 p1 p2 wH wD wU fN fL fU)), .val (.int (J0_15_S0 p0 p1 p2 wH wD wU fN fL fU)), .val (.int (J0_28_S0 p0 p1 p2 wH wD wU fN fL fU)), .val (.int (0 : Int32)), .val (.ref b10), .val (.ref fN), .val (.int (1 : Int32)), .val (.int (1 : Int32)), .unset, .unset] [])) _
        refine XS.aload X18.here hx rfl (hb hby at_127) rfl rfl ?_
        show Steps p.tables e below (T18.setTop (mkF m 129 #[.val (.int p0), .val (.int p1), .val (.int p2), .val (.int (J0_3_S0 p0 p1 p2 wH wD wU fN fL fU)), .val (.int (J0_15_S0 p0 p1 p2 wH wD wU fN fL fU)), .val (.int (J0_28_S0 p0 p1 p2 wH wD wU fN fL fU)), .val (.int (0 : Int32)), .val (.ref b10), .val (.ref fN), .val (.int (1 : Int32)), .val (.int (1 : Int32)), .unset, .unset] [(.ref b10)])) _
        refine st19.trans ?_
        show Steps p.tables e below (T19.setTop (mkF m 132 #[.val (.int p0), .val (.int p1), .val (.int p2), .val (.int (J0_3_S0 p0 p1 p2 wH wD wU fN fL fU)), .val (.int (J0_15_S0 p0 p1 p2 wH wD wU fN fL fU)), .val (.int (J0_28_S0 p0 p1 p2 wH wD wU fN fL fU)), .val (.int (0 : Int32)), .val (.ref b10), .val (.ref fN), .val (.int (1 : Int32)), .val (.int (1 : Int32)), .unset, .unset] [(.int (1 : Int32))])) _
        refine XS.istore X19.here hx rfl (hb hby at_132) rfl (l' := #[.val (.int p0), .val (.int p1), .val (.int p2), .val (.int (J0_3_S0 p0 p1 p2 wH wD wU fN fL fU)), .val (.int (J0_15_S0 p0 p1 p2 wH wD wU fN fL fU)), .val (.int (J0_28_S0 p0 p1 p2 wH wD wU fN fL fU)), .val (.int (0 : Int32)), .val (.ref b10), .val (.ref fN), .val (.int (1 : Int32)), .val (.int (1 : Int32)), .val (.int (1 : Int32)), .unset]) rfl ?_
        show Steps p.tables e below (T19.setTop (mkF m 134 #[.val (.int p0), .val (.int p1), .val (.int p2), .val (.int (J0_3_S0 p0 p1 p2 wH wD wU fN fL fU)), .val (.int (J0_15_S0 p0 p1 p2 wH wD wU fN fL fU)), .val (.int (J0_28_S0 p0 p1 p2 wH wD wU fN fL fU)), .val (.int (0 : Int32)), .val (.ref b10), .val (.ref fN), .val (.int (1 : Int32)), .val (.int (1 : Int32)), .val (.int (1 : Int32)), .unset] [])) _
        refine XS.iload X19.here hx rfl (hb hby at_134) rfl ?_
        show Steps p.tables e below (T19.setTop (mkF m 136 #[.val (.int p0), .val (.int p1), .val (.int p2), .val (.int (J0_3_S0 p0 p1 p2 wH wD wU fN fL fU)), .val (.int (J0_15_S0 p0 p1 p2 wH wD wU fN fL fU)), .val (.int (J0_28_S0 p0 p1 p2 wH wD wU fN fL fU)), .val (.int (0 : Int32)), .val (.ref b10), .val (.ref fN), .val (.int (1 : Int32)), .val (.int (1 : Int32)), .val (.int (1 : Int32)), .unset] [(.int (1 : Int32))])) _
        refine XS.iload X19.here hx rfl (hb hby at_136) rfl ?_
        show Steps p.tables e below (T19.setTop (mkF m 138 #[.val (.int p0), .val (.int p1), .val (.int p2), .val (.int (J0_3_S0 p0 p1 p2 wH wD wU fN fL fU)), .val (.int (J0_15_S0 p0 p1 p2 wH wD wU fN fL fU)), .val (.int (J0_28_S0 p0 p1 p2 wH wD wU fN fL fU)), .val (.int (0 : Int32)), .val (.ref b10), .val (.ref fN), .val (.int (1 : Int32)), .val (.int (1 : Int32)), .val (.int (1 : Int32)), .unset] [(.int (1 : Int32)), (.int (1 : Int32))])) _
        refine XS.icmpNo X19.here hx rfl (hb hby at_138) rfl (teq (by decide : (1 : Int32) = (1 : Int32))).2 ?_
        show Steps p.tables e below (T19.setTop (mkF m 141 #[.val (.int p0), .val (.int p1), .val (.int p2), .val (.int (J0_3_S0 p0 p1 p2 wH wD wU fN fL fU)), .val (.int (J0_15_S0 p0 p1 p2 wH wD wU fN fL fU)), .val (.int (J0_28_S0 p0 p1 p2 wH wD wU fN fL fU)), .val (.int (0 : Int32)), .val (.ref b10), .val (.ref fN), .val (.int (1 : Int32)), .val (.int (1 : Int32)), .val (.int (1 : Int32)), .unset] [])) _
        refine XS.iload X19.here hx rfl (hb hby at_141) rfl ?_
        show Steps p.tables e below (T19.setTop (mkF m 143 #[.val (.int p0), .val (.int p1), .val (.int p2), .val (.int (J0_3_S0 p0 p1 p2 wH wD wU fN fL fU)), .val (.int (J0_15_S0 p0 p1 p2 wH wD wU fN fL fU)), .val (.int (J0_28_S0 p0 p1 p2 wH wD wU fN fL fU)), .val (.int (0 : Int32)), .val (.ref b10), .val (.ref fN), .val (.int (1 : Int32)), .val (.int (1 : Int32)), .val (.int (1 : Int32)), .unset] [(.int (1 : Int32))])) _
        refine XS.ifNo X19.here hx rfl (hb hby at_143) rfl ((if0 _ _).trans (feq (by decide : ¬ ((1 : Int32) = (0 : Int32)))).1) ?_
        show Steps p.tables e below (T19.setTop (mkF m 146 #[.val (.int p0), .val (.int p1), .val (.int p2), .val (.int (J0_3_S0 p0 p1 p2 wH wD wU fN fL fU)), .val (.int (J0_15_S0 p0 p1 p2 wH wD wU fN fL fU)), .val (.int (J0_28_S0 p0 p1 p2 wH wD wU fN fL fU)), .val (.int (0 : Int32)), .val (.ref b10), .val (.ref fN), .val (.int (1 : Int32)), .val (.int (1 : Int32)), .val (.int (1 : Int32)), .unset] [])) _
        refine XS.aload X19.here hx rfl (hb hby at_146) rfl rfl ?_
        show Steps p.tables e below (T19.setTop (mkF m 148 #[.val (.int p0), .val (.int p1), .val (.int p2), .val (.int (J0_3_S0 p0 p1 p2 wH wD wU fN fL fU)), .val (.int (J0_15_S0 p0 p1 p2 wH wD wU fN fL fU)), .val (.int (J0_28_S0 p0 p1 p2 wH wD wU fN fL fU)), .val (.int (0 : Int32)), .val (.ref b10), .val (.ref fN), .val (.int (1 : Int32)), .val (.int (1 : Int32)), .val (.int (1 : Int32)), .unset] [(.ref b10)])) _
        refine st20.trans ?_
        show Steps p.tables e below (T20.setTop (mkF m 151 #[.val (.int p0), .val (.int p1), .val (.int p2), .val (.int (J0_3_S0 p0 p1 p2 wH wD wU fN fL fU)), .val (.int (J0_15_S0 p0 p1 p2 wH wD wU fN fL fU)), .val (.int (J0_28_S0 p0 p1 p2 wH wD wU fN fL fU)), .val (.int (0 : Int32)), .val (.ref b10), .val (.ref fN), .val (.int (1 : Int32)), .val (.int (1 : Int32)), .val (.int (1 : Int32)), .unset] [(.int (1 : Int32))])) _
        refine XS.ifNo X20.here hx rfl (hb hby at_151) rfl ((if0 _ _).trans (feq (by decide : ¬ ((1 : Int32) = (0 : Int32)))).1) ?_
        show Steps p.tables e below (T20.setTop (mkF m 154 #[.val (.int p0), .val (.int p1), .val (.int p2), .val (.int (J0_3_S0 p0 p1 p2 wH wD wU fN fL fU)), .val (.int (J0_15_S0 p0 p1 p2 wH wD wU fN fL fU)), .val (.int (J0_28_S0 p0 p1 p2 wH wD wU fN fL fU)), .val (.int (0 : Int32)), .val (.ref b10), .val (.ref fN), .val (.int (1 : Int32)), .val (.int (1 : Int32)), .val (.int (1 : Int32)), .unset] [])) _
        refine XS.aload X20.here hx rfl (hb hby at_154) rfl rfl ?_
        show Steps p.tables e below (T20.setTop (mkF m 156 #[.val (.int p0), .val (.int p1), .val (.int p2), .val (.int (J0_3_S0 p0 p1 p2 wH wD wU fN fL fU)), .val (.int (J0_15_S0 p0 p1 p2 wH wD wU fN fL fU)), .val (.int (J0_28_S0 p0 p1 p2 wH wD wU fN fL fU)), .val (.int (0 : Int32)), .val (.ref b10), .val (.ref fN), .val (.int (1 : Int32)), .val (.int (1 : Int32)), .val (.int (1 : Int32)), .unset] [(.ref b10)])) _
        refine st21.trans ?_
        show Steps p.tables e below (T21.setTop (mkF m 159 #[.val (.int p0), .val (.int p1), .val (.int p2), .val (.int (J0_3_S0 p0 p1 p2 wH wD wU fN fL fU)), .val (.int (J0_15_S0 p0 p1 p2 wH wD wU fN fL fU)), .val (.int (J0_28_S0 p0 p1 p2 wH wD wU fN fL fU)), .val (.int (0 : Int32)), .val (.ref b10), .val (.ref fN), .val (.int (1 : Int32)), .val (.int (1 : Int32)), .val (.int (1 : Int32)), .unset] [(.int (0 : Int32))])) _
        refine XS.ifNo X21.here hx rfl (hb hby at_159) rfl ((if0 _ _).trans (teq (by decide : (0 : Int32) = (0 : Int32))).2) ?_
        show Steps p.tables e below (T21.setTop (mkF m 162 #[.val (.int p0), .val (.int p1), .val (.int p2), .val (.int (J0_3_S0 p0 p1 p2 wH wD wU fN fL fU)), .val (.int (J0_15_S0 p0 p1 p2 wH wD wU fN fL fU)), .val (.int (J0_28_S0 p0 p1 p2 wH wD wU fN fL fU)), .val (.int (0 : Int32)), .val (.ref b10), .val (.ref fN), .val (.int (1 : Int32)), .val (.int (1 : Int32)), .val (.int (1 : Int32)), .unset] [])) _
        refine XS.aload X21.here hx rfl (hb hby at_162) rfl rfl ?_
        show Steps p.tables e below (T21.setTop (mkF m 164 #[.val (.int p0), .val (.int p1), .val (.int p2), .val (.int (J0_3_S0 p0 p1 p2 wH wD wU fN fL fU)), .val (.int (J0_15_S0 p0 p1 p2 wH wD wU fN fL fU)), .val (.int (J0_28_S0 p0 p1 p2 wH wD wU fN fL fU)), .val (.int (0 : Int32)), .val (.ref b10), .val (.ref fN), .val (.int (1 : Int32)), .val (.int (1 : Int32)), .val (.int (1 : Int32)), .unset] [(.ref b10)])) _
        refine st22.trans ?_
        show Steps p.tables e below (T22.setTop (mkF m 167 #[.val (.int p0), .val (.int p1), .val (.int p2), .val (.int (J0_3_S0 p0 p1 p2 wH wD wU fN fL fU)), .val (.int (J0_15_S0 p0 p1 p2 wH wD wU fN fL fU)), .val (.int (J0_28_S0 p0 p1 p2 wH wD wU fN fL fU)), .val (.int (0 : Int32)), .val (.ref b10), .val (.ref fN), .val (.int (1 : Int32)), .val (.int (1 : Int32)), .val (.int (1 : Int32)), .unset] [(.int (0 : Int32))])) _
        refine XS.ifNo X22.here hx rfl (hb hby at_167) rfl ((if0 _ _).trans (teq (by decide : (0 : Int32) = (0 : Int32))).2) ?_
        show Steps p.tables e below (T22.setTop (mkF m 170 #[.val (.int p0), .val (.int p1), .val (.int p2), .val (.int (J0_3_S0 p0 p1 p2 wH wD wU fN fL fU)), .val (.int (J0_15_S0 p0 p1 p2 wH wD wU fN fL fU)), .val (.int (J0_28_S0 p0 p1 p2 wH wD wU fN fL fU)), .val (.int (0 : Int32)), .val (.ref b10), .val (.ref fN), .val (.int (1 : Int32)), .val (.int (1 : Int32)), .val (.int (1 : Int32)), .unset] [])) _
        refine XS.iconst X22.here hx rfl (hb hby at_170) ?_
        show Steps p.tables e below (T22.setTop (mkF m 171 #[.val (.int p0), .val (.int p1), .val (.int p2), .val (.int (J0_3_S0 p0 p1 p2 wH wD wU fN fL fU)), .val (.int (J0_15_S0 p0 p1 p2 wH wD wU fN fL fU)), .val (.int (J0_28_S0 p0 p1 p2 wH wD wU fN fL fU)), .val (.int (0 : Int32)), .val (.ref b10), .val (.ref fN), .val (.int (1 : Int32)), .val (.int (1 : Int32)), .val (.int (1 : Int32)), .unset] [(.int (1 : Int32))])) _
        refine XS.goto X22.here hx rfl (pc0 := 171) (pc' := 175) rfl (hb hby at_171) (by decide) (by decide) ?_
        show Steps p.tables e below (T22.setTop (mkF m 175 #[.val (.int p0), .val (.int p1), .val (.int p2), .val (.int (J0_3_S0 p0 p1 p2 wH wD wU fN fL fU)), .val (.int (J0_15_S0 p0 p1 p2 wH wD wU fN fL fU)), .val (.int (J0_28_S0 p0 p1 p2 wH wD wU fN fL fU)), .val (.int (0 : Int32)), .val (.ref b10), .val (.ref fN), .val (.int (1 : Int32)), .val (.int (1 : Int32)), .val (.int (1 : Int32)), .unset] [(.int (1 : Int32))])) _
        refine XS.istore X22.here hx rfl (hb hby at_175) rfl (l' := #[.val (.int p0), .val (.int p1), .val (.int p2), .val (.int (J0_3_S0 p0 p1 p2 wH wD wU fN fL fU)), .val (.int (J0_15_S0 p0 p1 p2 wH wD wU fN fL fU)), .val (.int (J0_28_S0 p0 p1 p2 wH wD wU fN fL fU)), .val (.int (0 : Int32)), .val (.ref b10), .val (.ref fN), .val (.int (1 : Int32)), .val (.int (1 : Int32)), .val (.int (1 : Int32)), .val (.int (1 : Int32))]) rfl ?_
        show Steps p.tables e below (T22.setTop (mkF m 177 #[.val (.int p0), .val (.int p1), .val (.int p2), .val (.int (J0_3_S0 p0 p1 p2 wH wD wU fN fL fU)), .val (.int (J0_15_S0 p0 p1 p2 wH wD wU fN fL fU)), .val (.int (J0_28_S0 p0 p1 p2 wH wD wU fN fL fU)), .val (.int (0 : Int32)), .val (.ref b10), .val (.ref fN), .val (.int (1 : Int32)), .val (.int (1 : Int32)), .val (.int (1 : Int32)), .val (.int (1 : Int32))] [])) _
        refine XS.iload X22.here hx rfl (hb hby at_177) rfl ?_
        exact kt)
      by_cases hc179 : (J0_28_S0 p0 p1 p2 wH wD wU fN fL fU) = (0 : Int32)
      · obtain ⟨fs, hr, hrun, hended, hW, hsame⟩ := X22.leave (v := some (.int (1 : Int32))) (fun h => by rw [Bd.returns] at h; cases h)
        refine ⟨_, _, pre23 _ ?_, hrun, hended, _, _, rfl, ?_, ⟨_, rfl⟩, hW, hsame.mono (by decide) (by decide)⟩
        · show Steps p.tables e below (T22.setTop (mkF m 179 #[.val (.int p0), .val (.int p1), .val (.int p2), .val (.int (J0_3_S0 p0 p1 p2 wH wD wU fN fL fU)), .val (.int (J0_15_S0 p0 p1 p2 wH wD wU fN fL fU)), .val (.int (J0_28_S0 p0 p1 p2 wH wD wU fN fL fU)), .val (.int (0 : Int32)), .val (.ref b10), .val (.ref fN), .val (.int (1 : Int32)), .val (.int (1 : Int32)), .val (.int (1 : Int32)), .val (.int (1 : Int32))] [(.int (J0_28_S0 p0 p1 p2 wH wD wU fN fL fU))])) _
          refine XS.ifYes X22.here hx rfl (pc0 := 179) (pc' := 210) rfl (hb hby at_179) rfl ((if0 _ _).trans (teq hc179).1) (by decide) (by decide) ?_
          show Steps p.tables e below (T22.setTop (mkF m 210 #[.val (.int p0), .val (.int p1), .val (.int p2), .val (.int (J0_3_S0 p0 p1 p2 wH wD wU fN fL fU)), .val (.int (J0_15_S0 p0 p1 p2 wH wD wU fN fL fU)), .val (.int (J0_28_S0 p0 p1 p2 wH wD wU fN fL fU)), .val (.int (0 : Int32)), .val (.ref b10), .val (.ref fN), .val (.int (1 : Int32)), .val (.int (1 : Int32)), .val (.int (1 : Int32)), .val (.int (1 : Int32))] [])) _
          refine XS.iload X22.here hx rfl (hb hby at_210) rfl ?_
          show Steps p.tables e below (T22.setTop (mkF m 212 #[.val (.int p0), .val (.int p1), .val (.int p2), .val (.int (J0_3_S0 p0 p1 p2 wH wD wU fN fL fU)), .val (.int (J0_15_S0 p0 p1 p2 wH wD wU fN fL fU)), .val (.int (J0_28_S0 p0 p1 p2 wH wD wU fN fL fU)), .val (.int (0 : Int32)), .val (.ref b10), .val (.ref fN), .val (.int (1 : Int32)), .val (.int (1 : Int32)), .val (.int (1 : Int32)), .val (.int (1 : Int32))] [(.int (1 : Int32))])) _
          exact retN X22 hx (t := .boolean) Bd.returns (by simp) (hb hby at_212) hr
        · show Q0 Z p0 p1 p2 wH wD wU fN fL fU h0 n0 _ T22.heap _
          rw [e22]
          exact ⟨(by unfold F0; simp only [if_pos hi0, if_pos hc59, if_pos hc179]), N22⟩
      · obtain ⟨cq24, kq24, q24a, q24b, q24c⟩ := isOf hZ e22 P17_0
        obtain ⟨_, _, ⟨T24, L24, k24, n24⟩, -, X24, ⟨Lc24, hQ24, ll24, ly24, lz24⟩, st24⟩ := X22.virtualBack hx (y := (⟨"com/example/admission_for_endpoints/admissionforendpoints/MessageReader", "end", "()Z"⟩ : MethodName)) (z := (⟨"com/example/admission_for_endpoints/admissionforendpoints/MessageReader", "end", "()Z"⟩ : MethodName)) hown (mvT hZ (hw _ (List.mem_of_getElem? (i := 64) rfl))) (mvT hZ (hw _ (List.mem_of_getElem? (i := 65) rfl))) (notFace_of_selects (args := #[]) (mvT hZ (hw _ (List.mem_of_getElem? (i := 67) rfl)))) (mvT hZ (hw _ (List.mem_of_getElem? (i := 67) rfl))) (mvT hZ (hw _ (List.mem_of_getElem? (i := 66) rfl))) (by decide) (backOf (W := 0) (rm8d l Z a0 hw [] b10 wD wU T17.heap n0 (Nat.le_trans (Nat.le_trans (Nat.le_trans Z0 E10.1) K14c.1) K17c.1) P17_1 (own_staK (own_staK (Sta.ext E10 S_wD) K14c (allS (own_exaN A10) all0)) K17c (allS (own_exaN P14_0) all0)) (own_staK (own_staK (Sta.ext E10 S_wU) K14c (allS (own_exaN A10) all0)) K17c (allS (own_exaN P14_0) all0)) ne_UD) hZ (hw _ (List.mem_of_getElem? (i := 68) rfl)) (hw _ (List.mem_of_getElem? (i := 3) rfl)) (by decide) (by decide)) q24a q24c (g := (mkF m 189 #[.val (.int p0), .val (.int p1), .val (.int p2), .val (.int (J0_3_S0 p0 p1 p2 wH wD wU fN fL fU)), .val (.int (J0_15_S0 p0 p1 p2 wH wD wU fN fL fU)), .val (.int (J0_28_S0 p0 p1 p2 wH wD wU fN fL fU)), .val (.int (0 : Int32)), .val (.ref b10), .val (.ref fN), .val (.int (1 : Int32)), .val (.int (1 : Int32)), .val (.int (1 : Int32)), .val (.int (1 : Int32))] [(.ref b10)])) rfl (by rw [hml]; rfl) (Steps.refl _) (argsL := []) (rest := []) (lenOf pd___Z rfl) rfl (by show 2 * 0 + _ ≤ _; exact Nat.le_of_eq rfl) (hb hby at_189) (fun _ _ => ⟨rfl, e22, (by decide : 3 + 0 ≤ _), (by decide : 267 + 0 ≤ _)⟩)
        dsimp only [Pt.U, Pt.locs, Pt.cells, Pt.slots] at X24 ll24 ly24 lz24 st24 hQ24
        subst ll24 ly24 lz24
        obtain ⟨rfl, N24q, e24⟩ := hQ24
        have N24 := Fr.app N22 N24q
        obtain ⟨cq25, kq25, q25a, q25b, q25c⟩ := isOf hZ e24 P17_0
        obtain ⟨_, _, ⟨T25, L25, k25, n25⟩, -, X25, ⟨Lc25, hQ25, ll25, ly25, lz25⟩, st25⟩ := X24.virtualBack hx (y := (⟨"com/example/admission_for_endpoints/admissionforendpoints/MessageReader", "ended", "()Z"⟩ : MethodName)) (z := (⟨"com/example/admission_for_endpoints/admissionforendpoints/MessageReader", "ended", "()Z"⟩ : MethodName)) hown (mvT hZ (hw _ (List.mem_of_getElem? (i := 57) rfl))) (mvT hZ (hw _ (List.mem_of_getElem? (i := 58) rfl))) (notFace_of_selects (args := #[]) (mvT hZ (hw _ (List.mem_of_getElem? (i := 60) rfl)))) (mvT hZ (hw _ (List.mem_of_getElem? (i := 60) rfl))) (mvT hZ (hw _ (List.mem_of_getElem? (i := 59) rfl))) (by decide) (backOf (W := 0) (rm7d l Z a0 hw [] b10 wD T17.heap n0 (Nat.le_trans (Nat.le_trans (Nat.le_trans Z0 E10.1) K14c.1) K17c.1) P17_1 (own_staK (own_staK (Sta.ext E10 S_wD) K14c (allS (own_exaN A10) all0)) K17c (allS (own_exaN P14_0) all0))) hZ (hw _ (List.mem_of_getElem? (i := 61) rfl)) (hw _ (List.mem_of_getElem? (i := 3) rfl)) (by decide) (by decide)) q25a q25c (g := (mkF m 197 #[.val (.int p0), .val (.int p1), .val (.int p2), .val (.int (J0_3_S0 p0 p1 p2 wH wD wU fN fL fU)), .val (.int (J0_15_S0 p0 p1 p2 wH wD wU fN fL fU)), .val (.int (J0_28_S0 p0 p1 p2 wH wD wU fN fL fU)), .val (.int (0 : Int32)), .val (.ref b10), .val (.ref fN), .val (.int (1 : Int32)), .val (.int (1 : Int32)), .val (.int (1 : Int32)), .val (.int (1 : Int32))] [(.ref b10)])) rfl (by rw [hml]; rfl) (Steps.refl _) (argsL := []) (rest := []) (lenOf pd___Z rfl) rfl (by show 2 * 0 + _ ≤ _; exact Nat.le_of_eq rfl) (hb hby at_197) (fun _ _ => ⟨rfl, e24, (by decide : 3 + 0 ≤ _), (by decide : 267 + 0 ≤ _)⟩)
        dsimp only [Pt.U, Pt.locs, Pt.cells, Pt.slots] at X25 ll25 ly25 lz25 st25 hQ25
        subst ll25 ly25 lz25
        obtain ⟨rfl, N25q, e25⟩ := hQ25
        have N25 := Fr.app N24 N25q
        obtain ⟨fs, hr, hrun, hended, hW, hsame⟩ := X25.leave (v := some (.int (1 : Int32))) (fun h => by rw [Bd.returns] at h; cases h)
        refine ⟨_, _, pre23 _ ?_, hrun, hended, _, _, rfl, ?_, ⟨_, rfl⟩, hW, hsame.mono (by decide) (by decide)⟩
        · show Steps p.tables e below (T22.setTop (mkF m 179 #[.val (.int p0), .val (.int p1), .val (.int p2), .val (.int (J0_3_S0 p0 p1 p2 wH wD wU fN fL fU)), .val (.int (J0_15_S0 p0 p1 p2 wH wD wU fN fL fU)), .val (.int (J0_28_S0 p0 p1 p2 wH wD wU fN fL fU)), .val (.int (0 : Int32)), .val (.ref b10), .val (.ref fN), .val (.int (1 : Int32)), .val (.int (1 : Int32)), .val (.int (1 : Int32)), .val (.int (1 : Int32))] [(.int (J0_28_S0 p0 p1 p2 wH wD wU fN fL fU))])) _
          refine XS.ifNo X22.here hx rfl (hb hby at_179) rfl ((if0 _ _).trans (feq hc179).1) ?_
          show Steps p.tables e below (T22.setTop (mkF m 182 #[.val (.int p0), .val (.int p1), .val (.int p2), .val (.int (J0_3_S0 p0 p1 p2 wH wD wU fN fL fU)), .val (.int (J0_15_S0 p0 p1 p2 wH wD wU fN fL fU)), .val (.int (J0_28_S0 p0 p1 p2 wH wD wU fN fL fU)), .val (.int (0 : Int32)), .val (.ref b10), .val (.ref fN), .val (.int (1 : Int32)), .val (.int (1 : Int32)), .val (.int (1 : Int32)), .val (.int (1 : Int32))] [])) _
          refine XS.iload X22.here hx rfl (hb hby at_182) rfl ?_
          show Steps p.tables e below (T22.setTop (mkF m 184 #[.val (.int p0), .val (.int p1), .val (.int p2), .val (.int (J0_3_S0 p0 p1 p2 wH wD wU fN fL fU)), .val (.int (J0_15_S0 p0 p1 p2 wH wD wU fN fL fU)), .val (.int (J0_28_S0 p0 p1 p2 wH wD wU fN fL fU)), .val (.int (0 : Int32)), .val (.ref b10), .val (.ref fN), .val (.int (1 : Int32)), .val (.int (1 : Int32)), .val (.int (1 : Int32)), .val (.int (1 : Int32))] [(.int (1 : Int32))])) _
          refine XS.ifNo X22.here hx rfl (hb hby at_184) rfl ((if0 _ _).trans (feq (by decide : ¬ ((1 : Int32) = (0 : Int32)))).1) ?_
          show Steps p.tables e below (T22.setTop (mkF m 187 #[.val (.int p0), .val (.int p1), .val (.int p2), .val (.int (J0_3_S0 p0 p1 p2 wH wD wU fN fL fU)), .val (.int (J0_15_S0 p0 p1 p2 wH wD wU fN fL fU)), .val (.int (J0_28_S0 p0 p1 p2 wH wD wU fN fL fU)), .val (.int (0 : Int32)), .val (.ref b10), .val (.ref fN), .val (.int (1 : Int32)), .val (.int (1 : Int32)), .val (.int (1 : Int32)), .val (.int (1 : Int32))] [])) _
          refine XS.aload X22.here hx rfl (hb hby at_187) rfl rfl ?_
          show Steps p.tables e below (T22.setTop (mkF m 189 #[.val (.int p0), .val (.int p1), .val (.int p2), .val (.int (J0_3_S0 p0 p1 p2 wH wD wU fN fL fU)), .val (.int (J0_15_S0 p0 p1 p2 wH wD wU fN fL fU)), .val (.int (J0_28_S0 p0 p1 p2 wH wD wU fN fL fU)), .val (.int (0 : Int32)), .val (.ref b10), .val (.ref fN), .val (.int (1 : Int32)), .val (.int (1 : Int32)), .val (.int (1 : Int32)), .val (.int (1 : Int32))] [(.ref b10)])) _
          refine st24.trans ?_
          show Steps p.tables e below (T24.setTop (mkF m 192 #[.val (.int p0), .val (.int p1), .val (.int p2), .val (.int (J0_3_S0 p0 p1 p2 wH wD wU fN fL fU)), .val (.int (J0_15_S0 p0 p1 p2 wH wD wU fN fL fU)), .val (.int (J0_28_S0 p0 p1 p2 wH wD wU fN fL fU)), .val (.int (0 : Int32)), .val (.ref b10), .val (.ref fN), .val (.int (1 : Int32)), .val (.int (1 : Int32)), .val (.int (1 : Int32)), .val (.int (1 : Int32))] [(.int (1 : Int32))])) _
          refine XS.ifNo X24.here hx rfl (hb hby at_192) rfl ((if0 _ _).trans (feq (by decide : ¬ ((1 : Int32) = (0 : Int32)))).1) ?_
          show Steps p.tables e below (T24.setTop (mkF m 195 #[.val (.int p0), .val (.int p1), .val (.int p2), .val (.int (J0_3_S0 p0 p1 p2 wH wD wU fN fL fU)), .val (.int (J0_15_S0 p0 p1 p2 wH wD wU fN fL fU)), .val (.int (J0_28_S0 p0 p1 p2 wH wD wU fN fL fU)), .val (.int (0 : Int32)), .val (.ref b10), .val (.ref fN), .val (.int (1 : Int32)), .val (.int (1 : Int32)), .val (.int (1 : Int32)), .val (.int (1 : Int32))] [])) _
          refine XS.aload X24.here hx rfl (hb hby at_195) rfl rfl ?_
          show Steps p.tables e below (T24.setTop (mkF m 197 #[.val (.int p0), .val (.int p1), .val (.int p2), .val (.int (J0_3_S0 p0 p1 p2 wH wD wU fN fL fU)), .val (.int (J0_15_S0 p0 p1 p2 wH wD wU fN fL fU)), .val (.int (J0_28_S0 p0 p1 p2 wH wD wU fN fL fU)), .val (.int (0 : Int32)), .val (.ref b10), .val (.ref fN), .val (.int (1 : Int32)), .val (.int (1 : Int32)), .val (.int (1 : Int32)), .val (.int (1 : Int32))] [(.ref b10)])) _
          refine st25.trans ?_
          show Steps p.tables e below (T25.setTop (mkF m 200 #[.val (.int p0), .val (.int p1), .val (.int p2), .val (.int (J0_3_S0 p0 p1 p2 wH wD wU fN fL fU)), .val (.int (J0_15_S0 p0 p1 p2 wH wD wU fN fL fU)), .val (.int (J0_28_S0 p0 p1 p2 wH wD wU fN fL fU)), .val (.int (0 : Int32)), .val (.ref b10), .val (.ref fN), .val (.int (1 : Int32)), .val (.int (1 : Int32)), .val (.int (1 : Int32)), .val (.int (1 : Int32))] [(.int (1 : Int32))])) _
          refine XS.ifNo X25.here hx rfl (hb hby at_200) rfl ((if0 _ _).trans (feq (by decide : ¬ ((1 : Int32) = (0 : Int32)))).1) ?_
          show Steps p.tables e below (T25.setTop (mkF m 203 #[.val (.int p0), .val (.int p1), .val (.int p2), .val (.int (J0_3_S0 p0 p1 p2 wH wD wU fN fL fU)), .val (.int (J0_15_S0 p0 p1 p2 wH wD wU fN fL fU)), .val (.int (J0_28_S0 p0 p1 p2 wH wD wU fN fL fU)), .val (.int (0 : Int32)), .val (.ref b10), .val (.ref fN), .val (.int (1 : Int32)), .val (.int (1 : Int32)), .val (.int (1 : Int32)), .val (.int (1 : Int32))] [])) _
          refine XS.iconst X25.here hx rfl (hb hby at_203) ?_
          show Steps p.tables e below (T25.setTop (mkF m 204 #[.val (.int p0), .val (.int p1), .val (.int p2), .val (.int (J0_3_S0 p0 p1 p2 wH wD wU fN fL fU)), .val (.int (J0_15_S0 p0 p1 p2 wH wD wU fN fL fU)), .val (.int (J0_28_S0 p0 p1 p2 wH wD wU fN fL fU)), .val (.int (0 : Int32)), .val (.ref b10), .val (.ref fN), .val (.int (1 : Int32)), .val (.int (1 : Int32)), .val (.int (1 : Int32)), .val (.int (1 : Int32))] [(.int (1 : Int32))])) _
          refine XS.goto X25.here hx rfl (pc0 := 204) (pc' := 208) rfl (hb hby at_204) (by decide) (by decide) ?_
          show Steps p.tables e below (T25.setTop (mkF m 208 #[.val (.int p0), .val (.int p1), .val (.int p2), .val (.int (J0_3_S0 p0 p1 p2 wH wD wU fN fL fU)), .val (.int (J0_15_S0 p0 p1 p2 wH wD wU fN fL fU)), .val (.int (J0_28_S0 p0 p1 p2 wH wD wU fN fL fU)), .val (.int (0 : Int32)), .val (.ref b10), .val (.ref fN), .val (.int (1 : Int32)), .val (.int (1 : Int32)), .val (.int (1 : Int32)), .val (.int (1 : Int32))] [(.int (1 : Int32))])) _
          refine XS.istore X25.here hx rfl (hb hby at_208) rfl (l' := #[.val (.int p0), .val (.int p1), .val (.int p2), .val (.int (J0_3_S0 p0 p1 p2 wH wD wU fN fL fU)), .val (.int (J0_15_S0 p0 p1 p2 wH wD wU fN fL fU)), .val (.int (J0_28_S0 p0 p1 p2 wH wD wU fN fL fU)), .val (.int (0 : Int32)), .val (.ref b10), .val (.ref fN), .val (.int (1 : Int32)), .val (.int (1 : Int32)), .val (.int (1 : Int32)), .val (.int (1 : Int32))]) rfl ?_
          show Steps p.tables e below (T25.setTop (mkF m 210 #[.val (.int p0), .val (.int p1), .val (.int p2), .val (.int (J0_3_S0 p0 p1 p2 wH wD wU fN fL fU)), .val (.int (J0_15_S0 p0 p1 p2 wH wD wU fN fL fU)), .val (.int (J0_28_S0 p0 p1 p2 wH wD wU fN fL fU)), .val (.int (0 : Int32)), .val (.ref b10), .val (.ref fN), .val (.int (1 : Int32)), .val (.int (1 : Int32)), .val (.int (1 : Int32)), .val (.int (1 : Int32))] [])) _
          refine XS.iload X25.here hx rfl (hb hby at_210) rfl ?_
          show Steps p.tables e below (T25.setTop (mkF m 212 #[.val (.int p0), .val (.int p1), .val (.int p2), .val (.int (J0_3_S0 p0 p1 p2 wH wD wU fN fL fU)), .val (.int (J0_15_S0 p0 p1 p2 wH wD wU fN fL fU)), .val (.int (J0_28_S0 p0 p1 p2 wH wD wU fN fL fU)), .val (.int (0 : Int32)), .val (.ref b10), .val (.ref fN), .val (.int (1 : Int32)), .val (.int (1 : Int32)), .val (.int (1 : Int32)), .val (.int (1 : Int32))] [(.int (1 : Int32))])) _
          exact retN X25 hx (t := .boolean) Bd.returns (by simp) (hb hby at_212) hr
        · show Q0 Z p0 p1 p2 wH wD wU fN fL fU h0 n0 _ T25.heap _
          rw [e25]
          exact ⟨(by unfold F0; simp only [if_pos hi0, if_pos hc59, if_neg hc179]), N25⟩
    · obtain ⟨cq26, kq26, q26a, q26b, q26c⟩ := isOf hZ (rfl : T14.heap = T14.heap) P14_0
      obtain ⟨_, _, ⟨T26, L26, k26, n26⟩, -, X26, ⟨Lc26, hQ26, ll26, ly26, lz26⟩, st26⟩ := X14.virtualBack hx (y := (⟨"com/example/admission_for_endpoints/admissionforendpoints/MessageReader", "drop", "()V"⟩ : MethodName)) (z := (⟨"com/example/admission_for_endpoints/admissionforendpoints/MessageReader", "drop", "()V"⟩ : MethodName)) hown (mvT hZ (hw _ (List.mem_of_getElem? (i := 24) rfl))) (mvT hZ (hw _ (List.mem_of_getElem? (i := 25) rfl))) (notFace_of_selects (args := #[]) (mvT hZ (hw _ (List.mem_of_getElem? (i := 27) rfl)))) (mvT hZ (hw _ (List.mem_of_getElem? (i := 27) rfl))) (mvT hZ (hw _ (List.mem_of_getElem? (i := 26) rfl))) (by decide) (backOf (W := 0) (rm3 l Z a0 hw [] b10 wH ab14 p0 (0 : Int32) (0 : Int32) (0 : Int32) (0 : Int32) (0 : Int64) T14.heap n0 (Nat.le_trans (Nat.le_trans Z0 E10.1) K14c.1) P14_0 P14_1 P14_2 P14_3 P14_4 P14_5 P14_6 P14_7 P14_8 g_b10) hZ (hw _ (List.mem_of_getElem? (i := 28) rfl)) (hw _ (List.mem_of_getElem? (i := 3) rfl)) (by decide) (by decide)) q26a q26c (g := (mkF m 64 #[.val (.int p0), .val (.int p1), .val (.int p2), .val (.int (J0_3_S0 p0 p1 p2 wH wD wU fN fL fU)), .val (.int (J0_15_S0 p0 p1 p2 wH wD wU fN fL fU)), .val (.int (J0_28_S0 p0 p1 p2 wH wD wU fN fL fU)), .val (.int (0 : Int32)), .val (.ref b10), .unset, .unset, .unset, .unset, .unset] [(.ref b10)])) rfl (by rw [hml]; rfl) (Steps.refl _) (argsL := []) (rest := []) (lenOf pd___V rfl) rfl (by show 2 * 0 + _ ≤ _; exact Nat.le_of_eq rfl) (hb hby at_64) (fun _ _ => ⟨rfl, (rfl : T14.heap = T14.heap), (by decide : 3 + 0 ≤ _), (by decide : 267 + 0 ≤ _)⟩)
      dsimp only [Pt.U, Pt.locs, Pt.cells, Pt.slots] at X26 ll26 ly26 lz26 st26 hQ26
      subst ll26 ly26 lz26
      obtain ⟨rfl, N26q, K26c, P26_0, P26_1, P26_2, P26_3, P26_4, P26_5, P26_6, P26_7, P26_8⟩ := hQ26
      have N26 := Fr.app N14 N26q
      have K26 : Keep h0 T26.heap [] := K14.trans K26c (allS (Or.inr sz_b10) all0)
      obtain ⟨T27, X27, e27, st27⟩ := getS2 X26 hx hZ hown (host := "") (Or.inl (hw _ (List.mem_of_getElem? (i := 83) rfl))) Via.refl (rfl : T26.heap = T26.heap) (own_staK (own_staK (Sta.ext E10 S_fN) K14c (allS (own_exaN A10) all0)) K26c (allS (own_exaN P14_0) all0)) (g := (mkF m 72 #[.val (.int p0), .val (.int p1), .val (.int p2), .val (.int (J0_3_S0 p0 p1 p2 wH wD wU fN fL fU)), .val (.int (J0_15_S0 p0 p1 p2 wH wD wU fN fL fU)), .val (.int (J0_28_S0 p0 p1 p2 wH wD wU fN fL fU)), .val (.int (0 : Int32)), .val (.ref b10), .unset, .unset, .unset, .unset, .unset] [])) rfl (hb hby at_72)
      obtain ⟨cq28, kq28, q28a, q28b, q28c⟩ := isOf hZ e27 P26_0
      obtain ⟨_, _, ⟨T28, L28, k28, n28⟩, -, X28, ⟨Lc28, hQ28, ll28, ly28, lz28⟩, st28⟩ := X27.virtualBack hx (y := (⟨"com/example/admission_for_endpoints/admissionforendpoints/MessageReader", "frame", "(Lcom/example/admission_for_endpoints/admissionforendpoints/MessageReader$Framing;J)V"⟩ : MethodName)) (z := (⟨"com/example/admission_for_endpoints/admissionforendpoints/MessageReader", "frame", "(Lcom/example/admission_for_endpoints/admissionforendpoints/MessageReader$Framing;J)V"⟩ : MethodName)) hown (mvT hZ (hw _ (List.mem_of_getElem? (i := 34) rfl))) (mvT hZ (hw _ (List.mem_of_getElem? (i := 35) rfl))) (notFace_of_selects (args := #[]) (mvT hZ (hw _ (List.mem_of_getElem? (i := 37) rfl)))) (mvT hZ (hw _ (List.mem_of_getElem? (i := 37) rfl))) (mvT hZ (hw _ (List.mem_of_getElem? (i := 36) rfl))) (by decide) (backOf (W := 0) (rm4o0 l Z a0 hw [] b10 fN wH ab14 p0 (1 : Int32) (0 : Int32) (0 : Int32) (0 : Int32) (0 : Int64) kb14 wD wU T26.heap n0 (Nat.le_trans (Nat.le_trans (Nat.le_trans Z0 E10.1) K14c.1) K26c.1) P26_0 P26_1 P26_2 P26_3 P26_4 P26_5 P26_6 P26_7 P26_8 (P14_9.keep K26c (ninS P14_10 nin0)) (own_staK (own_staK (Sta.ext E10 S_wD) K14c (allS (own_exaN A10) all0)) K26c (allS (own_exaN P14_0) all0)) (own_staK (own_staK (Sta.ext E10 S_wU) K14c (allS (own_exaN A10) all0)) K26c (allS (own_exaN P14_0) all0)) (Exa.keep (Exa.keep (Exa.ext E10 E_fN) K14c) K26c) (((Fld.ext E10 O_fN).keep K14c (ninS ne11 nin0)).keep K26c (ninS ne11 nin0)) g_b10 P14_10 ne11) hZ (hw _ (List.mem_of_getElem? (i := 38) rfl)) (hw _ (List.mem_of_getElem? (i := 3) rfl)) (by decide) (by decide)) q28a q28c (g := (mkF m 104 #[.val (.int p0), .val (.int p1), .val (.int p2), .val (.int (J0_3_S0 p0 p1 p2 wH wD wU fN fL fU)), .val (.int (J0_15_S0 p0 p1 p2 wH wD wU fN fL fU)), .val (.int (J0_28_S0 p0 p1 p2 wH wD wU fN fL fU)), .val (.int (0 : Int32)), .val (.ref b10), .val (.ref fN), .unset, .unset, .unset, .unset] [(.long (0 : Int64)), (.ref fN), (.ref b10)])) rfl (by rw [hml]; rfl) (Steps.refl _) (argsL := [(.ref fN), (.long (0 : Int64))]) (rest := []) (lenOf pd__Lcom_example_admission_for_endpoints_admissionforendpoints_MessageReader_Framing_J_V rfl) rfl (by show 2 * 0 + _ ≤ _; exact Nat.le_of_eq rfl) (hb hby at_104) (fun _ _ => ⟨rfl, e27, (by decide : 3 + 0 ≤ _), (by decide : 267 + 0 ≤ _)⟩)
      dsimp only [Pt.U, Pt.locs, Pt.cells, Pt.slots] at X28 ll28 ly28 lz28 st28 hQ28
      subst ll28 ly28 lz28
      obtain ⟨rfl, N28q, K28c, P28_0, P28_1, P28_2, P28_3, P28_4, P28_5, P28_6, P28_7⟩ := hQ28
      have N28 := Fr.app N26 N28q
      have K28 : Keep h0 T28.heap [] := K26.trans K28c (allS (Or.inr sz_b10) all0)
      obtain ⟨cq29, kq29, q29a, q29b, q29c⟩ := isOf hZ (rfl : T28.heap = T28.heap) P28_0
      obtain ⟨_, _, ⟨T29, L29, k29, n29⟩, -, X29, ⟨Lc29, hQ29, ll29, ly29, lz29⟩, st29⟩ := X28.virtualBack hx (y := (⟨"com/example/admission_for_endpoints/admissionforendpoints/MessageReader", "ended", "()Z"⟩ : MethodName)) (z := (⟨"com/example/admission_for_endpoints/admissionforendpoints/MessageReader", "ended", "()Z"⟩ : MethodName)) hown (mvT hZ (hw _ (List.mem_of_getElem? (i := 57) rfl))) (mvT hZ (hw _ (List.mem_of_getElem? (i := 58) rfl))) (notFace_of_selects (args := #[]) (mvT hZ (hw _ (List.mem_of_getElem? (i := 60) rfl)))) (mvT hZ (hw _ (List.mem_of_getElem? (i := 60) rfl))) (mvT hZ (hw _ (List.mem_of_getElem? (i := 59) rfl))) (by decide) (backOf (W := 0) (rm7d l Z a0 hw [] b10 wD T28.heap n0 (Nat.le_trans (Nat.le_trans (Nat.le_trans (Nat.le_trans Z0 E10.1) K14c.1) K26c.1) K28c.1) P28_1 (own_staK (own_staK (own_staK (Sta.ext E10 S_wD) K14c (allS (own_exaN A10) all0)) K26c (allS (own_exaN P14_0) all0)) K28c (allS (own_exaN P26_0) all0))) hZ (hw _ (List.mem_of_getElem? (i := 61) rfl)) (hw _ (List.mem_of_getElem? (i := 3) rfl)) (by decide) (by decide)) q29a q29c (g := (mkF m 109 #[.val (.int p0), .val (.int p1), .val (.int p2), .val (.int (J0_3_S0 p0 p1 p2 wH wD wU fN fL fU)), .val (.int (J0_15_S0 p0 p1 p2 wH wD wU fN fL fU)), .val (.int (J0_28_S0 p0 p1 p2 wH wD wU fN fL fU)), .val (.int (0 : Int32)), .val (.ref b10), .val (.ref fN), .unset, .unset, .unset, .unset] [(.ref b10)])) rfl (by rw [hml]; rfl) (Steps.refl _) (argsL := []) (rest := []) (lenOf pd___Z rfl) rfl (by show 2 * 0 + _ ≤ _; exact Nat.le_of_eq rfl) (hb hby at_109) (fun _ _ => ⟨rfl, (rfl : T28.heap = T28.heap), (by decide : 3 + 0 ≤ _), (by decide : 267 + 0 ≤ _)⟩)
      dsimp only [Pt.U, Pt.locs, Pt.cells, Pt.slots] at X29 ll29 ly29 lz29 st29 hQ29
      subst ll29 ly29 lz29
      obtain ⟨rfl, N29q, e29⟩ := hQ29
      have N29 := Fr.app N28 N29q
      obtain ⟨cq30, kq30, q30a, q30b, q30c⟩ := isOf hZ e29 P28_0
      obtain ⟨_, _, ⟨T30, L30, k30, n30⟩, -, X30, ⟨Lc30, hQ30, ll30, ly30, lz30⟩, st30⟩ := X29.virtualBack hx (y := (⟨"com/example/admission_for_endpoints/admissionforendpoints/MessageReader", "end", "()Z"⟩ : MethodName)) (z := (⟨"com/example/admission_for_endpoints/admissionforendpoints/MessageReader", "end", "()Z"⟩ : MethodName)) hown (mvT hZ (hw _ (List.mem_of_getElem? (i := 64) rfl))) (mvT hZ (hw _ (List.mem_of_getElem? (i := 65) rfl))) (notFace_of_selects (args := #[]) (mvT hZ (hw _ (List.mem_of_getElem? (i := 67) rfl)))) (mvT hZ (hw _ (List.mem_of_getElem? (i := 67) rfl))) (mvT hZ (hw _ (List.mem_of_getElem? (i := 66) rfl))) (by decide) (backOf (W := 0) (rm8d l Z a0 hw [] b10 wD wU T28.heap n0 (Nat.le_trans (Nat.le_trans (Nat.le_trans (Nat.le_trans Z0 E10.1) K14c.1) K26c.1) K28c.1) P28_1 (own_staK (own_staK (own_staK (Sta.ext E10 S_wD) K14c (allS (own_exaN A10) all0)) K26c (allS (own_exaN P14_0) all0)) K28c (allS (own_exaN P26_0) all0)) (own_staK (own_staK (own_staK (Sta.ext E10 S_wU) K14c (allS (own_exaN A10) all0)) K26c (allS (own_exaN P14_0) all0)) K28c (allS (own_exaN P26_0) all0)) ne_UD) hZ (hw _ (List.mem_of_getElem? (i := 68) rfl)) (hw _ (List.mem_of_getElem? (i := 3) rfl)) (by decide) (by decide)) q30a q30c (g := (mkF m 129 #[.val (.int p0), .val (.int p1), .val (.int p2), .val (.int (J0_3_S0 p0 p1 p2 wH wD wU fN fL fU)), .val (.int (J0_15_S0 p0 p1 p2 wH wD wU fN fL fU)), .val (.int (J0_28_S0 p0 p1 p2 wH wD wU fN fL fU)), .val (.int (0 : Int32)), .val (.ref b10), .val (.ref fN), .val (.int (1 : Int32)), .val (.int (1 : Int32)), .unset, .unset] [(.ref b10)])) rfl (by rw [hml]; rfl) (Steps.refl _) (argsL := []) (rest := []) (lenOf pd___Z rfl) rfl (by show 2 * 0 + _ ≤ _; exact Nat.le_of_eq rfl) (hb hby at_129) (fun _ _ => ⟨rfl, e29, (by decide : 3 + 0 ≤ _), (by decide : 267 + 0 ≤ _)⟩)
      dsimp only [Pt.U, Pt.locs, Pt.cells, Pt.slots] at X30 ll30 ly30 lz30 st30 hQ30
      subst ll30 ly30 lz30
      obtain ⟨rfl, N30q, e30⟩ := hQ30
      have N30 := Fr.app N29 N30q
      obtain ⟨cq31, kq31, q31a, q31b, q31c⟩ := isOf hZ e30 P28_0
      obtain ⟨_, _, ⟨T31, L31, k31, n31⟩, -, X31, ⟨Lc31, hQ31, ll31, ly31, lz31⟩, st31⟩ := X30.virtualBack hx (y := (⟨"com/example/admission_for_endpoints/admissionforendpoints/MessageReader", "ended", "()Z"⟩ : MethodName)) (z := (⟨"com/example/admission_for_endpoints/admissionforendpoints/MessageReader", "ended", "()Z"⟩ : MethodName)) hown (mvT hZ (hw _ (List.mem_of_getElem? (i := 57) rfl))) (mvT hZ (hw _ (List.mem_of_getElem? (i := 58) rfl))) (notFace_of_selects (args := #[]) (mvT hZ (hw _ (List.mem_of_getElem? (i := 60) rfl)))) (mvT hZ (hw _ (List.mem_of_getElem? (i := 60) rfl))) (mvT hZ (hw _ (List.mem_of_getElem? (i := 59) rfl))) (by decide) (backOf (W := 0) (rm7d l Z a0 hw [] b10 wD T28.heap n0 (Nat.le_trans (Nat.le_trans (Nat.le_trans (Nat.le_trans Z0 E10.1) K14c.1) K26c.1) K28c.1) P28_1 (own_staK (own_staK (own_staK (Sta.ext E10 S_wD) K14c (allS (own_exaN A10) all0)) K26c (allS (own_exaN P14_0) all0)) K28c (allS (own_exaN P26_0) all0))) hZ (hw _ (List.mem_of_getElem? (i := 61) rfl)) (hw _ (List.mem_of_getElem? (i := 3) rfl)) (by decide) (by decide)) q31a q31c (g := (mkF m 148 #[.val (.int p0), .val (.int p1), .val (.int p2), .val (.int (J0_3_S0 p0 p1 p2 wH wD wU fN fL fU)), .val (.int (J0_15_S0 p0 p1 p2 wH wD wU fN fL fU)), .val (.int (J0_28_S0 p0 p1 p2 wH wD wU fN fL fU)), .val (.int (0 : Int32)), .val (.ref b10), .val (.ref fN), .val (.int (1 : Int32)), .val (.int (1 : Int32)), .val (.int (1 : Int32)), .unset] [(.ref b10)])) rfl (by rw [hml]; rfl) (Steps.refl _) (argsL := []) (rest := []) (lenOf pd___Z rfl) rfl (by show 2 * 0 + _ ≤ _; exact Nat.le_of_eq rfl) (hb hby at_148) (fun _ _ => ⟨rfl, e30, (by decide : 3 + 0 ≤ _), (by decide : 267 + 0 ≤ _)⟩)
      dsimp only [Pt.U, Pt.locs, Pt.cells, Pt.slots] at X31 ll31 ly31 lz31 st31 hQ31
      subst ll31 ly31 lz31
      obtain ⟨rfl, N31q, e31⟩ := hQ31
      have N31 := Fr.app N30 N31q
      obtain ⟨cq32, kq32, q32a, q32b, q32c⟩ := isOf hZ e31 P28_0
      obtain ⟨_, _, ⟨T32, L32, k32, n32⟩, -, X32, ⟨Lc32, hQ32, ll32, ly32, lz32⟩, st32⟩ := X31.virtualBack hx (y := (⟨"com/example/admission_for_endpoints/admissionforendpoints/MessageReader", "truncated", "()Z"⟩ : MethodName)) (z := (⟨"com/example/admission_for_endpoints/admissionforendpoints/MessageReader", "truncated", "()Z"⟩ : MethodName)) hown (mvT hZ (hw _ (List.mem_of_getElem? (i := 69) rfl))) (mvT hZ (hw _ (List.mem_of_getElem? (i := 70) rfl))) (notFace_of_selects (args := #[]) (mvT hZ (hw _ (List.mem_of_getElem? (i := 72) rfl)))) (mvT hZ (hw _ (List.mem_of_getElem? (i := 72) rfl))) (mvT hZ (hw _ (List.mem_of_getElem? (i := 71) rfl))) (by decide) (backOf (W := 0) (rm9 l Z a0 hw [] b10 T28.heap n0 (Nat.le_trans (Nat.le_trans (Nat.le_trans (Nat.le_trans Z0 E10.1) K14c.1) K26c.1) K28c.1) P28_5) hZ (hw _ (List.mem_of_getElem? (i := 73) rfl)) (hw _ (List.mem_of_getElem? (i := 3) rfl)) (by decide) (by decide)) q32a q32c (g := (mkF m 156 #[.val (.int p0), .val (.int p1), .val (.int p2), .val (.int (J0_3_S0 p0 p1 p2 wH wD wU fN fL fU)), .val (.int (J0_15_S0 p0 p1 p2 wH wD wU fN fL fU)), .val (.int (J0_28_S0 p0 p1 p2 wH wD wU fN fL fU)), .val (.int (0 : Int32)), .val (.ref b10), .val (.ref fN), .val (.int (1 : Int32)), .val (.int (1 : Int32)), .val (.int (1 : Int32)), .unset] [(.ref b10)])) rfl (by rw [hml]; rfl) (Steps.refl _) (argsL := []) (rest := []) (lenOf pd___Z rfl) rfl (by show 2 * 0 + _ ≤ _; exact Nat.le_of_eq rfl) (hb hby at_156) (fun _ _ => ⟨rfl, e31, (by decide : 3 + 0 ≤ _), (by decide : 267 + 0 ≤ _)⟩)
      dsimp only [Pt.U, Pt.locs, Pt.cells, Pt.slots] at X32 ll32 ly32 lz32 st32 hQ32
      subst ll32 ly32 lz32
      obtain ⟨rfl, N32q, e32⟩ := hQ32
      have N32 := Fr.app N31 N32q
      obtain ⟨cq33, kq33, q33a, q33b, q33c⟩ := isOf hZ e32 P28_0
      obtain ⟨_, _, ⟨T33, L33, k33, n33⟩, -, X33, ⟨Lc33, hQ33, ll33, ly33, lz33⟩, st33⟩ := X32.virtualBack hx (y := (⟨"com/example/admission_for_endpoints/admissionforendpoints/MessageReader", "bodyBytes", "()I"⟩ : MethodName)) (z := (⟨"com/example/admission_for_endpoints/admissionforendpoints/MessageReader", "bodyBytes", "()I"⟩ : MethodName)) hown (mvT hZ (hw _ (List.mem_of_getElem? (i := 76) rfl))) (mvT hZ (hw _ (List.mem_of_getElem? (i := 77) rfl))) (notFace_of_selects (args := #[]) (mvT hZ (hw _ (List.mem_of_getElem? (i := 79) rfl)))) (mvT hZ (hw _ (List.mem_of_getElem? (i := 79) rfl))) (mvT hZ (hw _ (List.mem_of_getElem? (i := 78) rfl))) (by decide) (backOf (W := 0) (rm10 l Z a0 hw [] b10 T28.heap n0 (Nat.le_trans (Nat.le_trans (Nat.le_trans (Nat.le_trans Z0 E10.1) K14c.1) K26c.1) K28c.1) P28_6) hZ (hw _ (List.mem_of_getElem? (i := 80) rfl)) (hw _ (List.mem_of_getElem? (i := 3) rfl)) (by decide) (by decide)) q33a q33c (g := (mkF m 164 #[.val (.int p0), .val (.int p1), .val (.int p2), .val (.int (J0_3_S0 p0 p1 p2 wH wD wU fN fL fU)), .val (.int (J0_15_S0 p0 p1 p2 wH wD wU fN fL fU)), .val (.int (J0_28_S0 p0 p1 p2 wH wD wU fN fL fU)), .val (.int (0 : Int32)), .val (.ref b10), .val (.ref fN), .val (.int (1 : Int32)), .val (.int (1 : Int32)), .val (.int (1 : Int32)), .unset] [(.ref b10)])) rfl (by rw [hml]; rfl) (Steps.refl _) (argsL := []) (rest := []) (lenOf pd___I rfl) rfl (by show 2 * 0 + _ ≤ _; exact Nat.le_of_eq rfl) (hb hby at_164) (fun _ _ => ⟨rfl, e32, (by decide : 3 + 0 ≤ _), (by decide : 267 + 0 ≤ _)⟩)
      dsimp only [Pt.U, Pt.locs, Pt.cells, Pt.slots] at X33 ll33 ly33 lz33 st33 hQ33
      subst ll33 ly33 lz33
      obtain ⟨rfl, N33q, e33⟩ := hQ33
      have N33 := Fr.app N32 N33q
      have pre34 : ∀ t, Steps p.tables e below (T33.setTop (mkF m 179 #[.val (.int p0), .val (.int p1), .val (.int p2), .val (.int (J0_3_S0 p0 p1 p2 wH wD wU fN fL fU)), .val (.int (J0_15_S0 p0 p1 p2 wH wD wU fN fL fU)), .val (.int (J0_28_S0 p0 p1 p2 wH wD wU fN fL fU)), .val (.int (0 : Int32)), .val (.ref b10), .val (.ref fN), .val (.int (1 : Int32)), .val (.int (1 : Int32)), .val (.int (1 : Int32)), .val (.int (1 : Int32))] [(.int (J0_28_S0 p0 p1 p2 wH wD wU fN fL fU))])) t → Steps p.tables e below (s₁.setTop (entryFrame m #[(.int p0), (.int p1), (.int p2)] maxLocals)) t := fun t kt => pre15 t (by
        show Steps p.tables e below (T14.setTop (mkF m 59 #[.val (.int p0), .val (.int p1), .val (.int p2), .val (.int (J0_3_S0 p0 p1 p2 wH wD wU fN fL fU)), .val (.int (J0_15_S0 p0 p1 p2 wH wD wU fN fL fU)), .val (.int (J0_28_S0 p0 p1 p2 wH wD wU fN fL fU)), .val (.int (0 : Int32)), .val (.ref b10), .unset, .unset, .unset, .unset, .unset] [(.int (J0_15_S0 p0 p1 p2 wH wD wU fN fL fU))])) _
        refine XS.ifNo X14.here hx rfl (hb hby at_59) rfl ((if0 _ _).trans (feq hc59).1) ?_
        show Steps p.tables e below (T14.setTop (mkF m 62 #[.val (.int p0), .val (.int p1), .val (.int p2), .val (.int (J0_3_S0 p0 p1 p2 wH wD wU fN fL fU)), .val (.int (J0_15_S0 p0 p1 p2 wH wD wU fN fL fU)), .val (.int (J0_28_S0 p0 p1 p2 wH wD wU fN fL fU)), .val (.int (0 : Int32)), .val (.ref b10), .unset, .unset, .unset, .unset, .unset] [])) _
        refine XS.aload X14.here hx rfl (hb hby at_62) rfl rfl ?_
        show Steps p.tables e below (T14.setTop (mkF m 64 #[.val (.int p0), .val (.int p1), .val (.int p2), .val (.int (J0_3_S0 p0 p1 p2 wH wD wU fN fL fU)), .val (.int (J0_15_S0 p0 p1 p2 wH wD wU fN fL fU)), .val (.int (J0_28_S0 p0 p1 p2 wH wD wU fN fL fU)), .val (.int (0 : Int32)), .val (.ref b10), .unset, .unset, .unset, .unset, .unset] [(.ref b10)])) _
        refine st26.trans ?_
        show Steps p.tables e below (T26.setTop (mkF m 67 #[.val (.int p0), .val (.int p1), .val (.int p2), .val (.int (J0_3_S0 p0 p1 p2 wH wD wU fN fL fU)), .val (.int (J0_15_S0 p0 p1 p2 wH wD wU fN fL fU)), .val (.int (J0_28_S0 p0 p1 p2 wH wD wU fN fL fU)), .val (.int (0 : Int32)), .val (.ref b10), .unset, .unset, .unset, .unset, .unset] [])) _
        refine XS.iload X26.here hx rfl (hb hby at_67) rfl ?_
        show Steps p.tables e below (T26.setTop (mkF m 69 #[.val (.int p0), .val (.int p1), .val (.int p2), .val (.int (J0_3_S0 p0 p1 p2 wH wD wU fN fL fU)), .val (.int (J0_15_S0 p0 p1 p2 wH wD wU fN fL fU)), .val (.int (J0_28_S0 p0 p1 p2 wH wD wU fN fL fU)), .val (.int (0 : Int32)), .val (.ref b10), .unset, .unset, .unset, .unset, .unset] [(.int (0 : Int32))])) _
        refine XS.ifNo X26.here hx rfl (hb hby at_69) rfl ((if0 _ _).trans (teq (by decide : (0 : Int32) = (0 : Int32))).2) ?_
        show Steps p.tables e below (T26.setTop (mkF m 72 #[.val (.int p0), .val (.int p1), .val (.int p2), .val (.int (J0_3_S0 p0 p1 p2 wH wD wU fN fL fU)), .val (.int (J0_15_S0 p0 p1 p2 wH wD wU fN fL fU)), .val (.int (J0_28_S0 p0 p1 p2 wH wD wU fN fL fU)), .val (.int (0 : Int32)), .val (.ref b10), .unset, .unset, .unset, .unset, .unset] [])) _
        refine st27 _ ?_
        show Steps p.tables e below (T27.setTop (mkF m 75 #[.val (.int p0), .val (.int p1), .val (.int p2), .val (.int (J0_3_S0 p0 p1 p2 wH wD wU fN fL fU)), .val (.int (J0_15_S0 p0 p1 p2 wH wD wU fN fL fU)), .val (.int (J0_28_S0 p0 p1 p2 wH wD wU fN fL fU)), .val (.int (0 : Int32)), .val (.ref b10), .unset, .unset, .unset, .unset, .unset] [(.ref fN)])) _
        refine XS.astore X27.here hx rfl (hb hby at_75) rfl rfl (l' := #[.val (.int p0), .val (.int p1), .val (.int p2), .val (.int (J0_3_S0 p0 p1 p2 wH wD wU fN fL fU)), .val (.int (J0_15_S0 p0 p1 p2 wH wD wU fN fL fU)), .val (.int (J0_28_S0 p0 p1 p2 wH wD wU fN fL fU)), .val (.int (0 : Int32)), .val (.ref b10), .val (.ref fN), .unset, .unset, .unset, .unset]) rfl ?_
        show Steps p.tables e below (T27.setTop (mkF m 77 #[.val (.int p0), .val (.int p1), .val (.int p2), .val (.int (J0_3_S0 p0 p1 p2 wH wD wU fN fL fU)), .val (.int (J0_15_S0 p0 p1 p2 wH wD wU fN fL fU)), .val (.int (J0_28_S0 p0 p1 p2 wH wD wU fN fL fU)), .val (.int (0 : Int32)), .val (.ref b10), .val (.ref fN), .unset, .unset, .unset, .unset] [])) _
        refine XS.goto X27.here hx rfl (pc0 := 77) (pc' := 99) rfl (hb hby at_77) (by decide) (by decide) ?_
        show Steps p.tables e below (T27.setTop (mkF m 99 #[.val (.int p0), .val (.int p1), .val (.int p2), .val (.int (J0_3_S0 p0 p1 p2 wH wD wU fN fL fU)), .val (.int (J0_15_S0 p0 p1 p2 wH wD wU fN fL fU)), .val (.int (J0_28_S0 p0 p1 p2 wH wD wU fN fL fU)), .val (.int (0 : Int32)), .val (.ref b10), .val (.ref fN), .unset, .unset, .unset, .unset] [])) _
        refine XS.aload X27.here hx rfl (hb hby at_99) rfl rfl ?_
        show Steps p.tables e below (T27.setTop (mkF m 101 #[.val (.int p0), .val (.int p1), .val (.int p2), .val (.int (J0_3_S0 p0 p1 p2 wH wD wU fN fL fU)), .val (.int (J0_15_S0 p0 p1 p2 wH wD wU fN fL fU)), .val (.int (J0_28_S0 p0 p1 p2 wH wD wU fN fL fU)), .val (.int (0 : Int32)), .val (.ref b10), .val (.ref fN), .unset, .unset, .unset, .unset] [(.ref b10)])) _
        refine XS.aload X27.here hx rfl (hb hby at_101) rfl rfl ?_
        show Steps p.tables e below (T27.setTop (mkF m 103 #[.val (.int p0), .val (.int p1), .val (.int p2), .val (.int (J0_3_S0 p0 p1 p2 wH wD wU fN fL fU)), .val (.int (J0_15_S0 p0 p1 p2 wH wD wU fN fL fU)), .val (.int (J0_28_S0 p0 p1 p2 wH wD wU fN fL fU)), .val (.int (0 : Int32)), .val (.ref b10), .val (.ref fN), .unset, .unset, .unset, .unset] [(.ref fN), (.ref b10)])) _
        refine XS.lconst X27.here hx rfl (hb hby at_103) ?_
        show Steps p.tables e below (T27.setTop (mkF m 104 #[.val (.int p0), .val (.int p1), .val (.int p2), .val (.int (J0_3_S0 p0 p1 p2 wH wD wU fN fL fU)), .val (.int (J0_15_S0 p0 p1 p2 wH wD wU fN fL fU)), .val (.int (J0_28_S0 p0 p1 p2 wH wD wU fN fL fU)), .val (.int (0 : Int32)), .val (.ref b10), .val (.ref fN), .unset, .unset, .unset, .unset] [(.long (0 : Int64)), (.ref fN), (.ref b10)])) _
        refine st28.trans ?_
        show Steps p.tables e below (T28.setTop (mkF m 107 #[.val (.int p0), .val (.int p1), .val (.int p2), .val (.int (J0_3_S0 p0 p1 p2 wH wD wU fN fL fU)), .val (.int (J0_15_S0 p0 p1 p2 wH wD wU fN fL fU)), .val (.int (J0_28_S0 p0 p1 p2 wH wD wU fN fL fU)), .val (.int (0 : Int32)), .val (.ref b10), .val (.ref fN), .unset, .unset, .unset, .unset] [])) _
        refine XS.aload X28.here hx rfl (hb hby at_107) rfl rfl ?_
        show Steps p.tables e below (T28.setTop (mkF m 109 #[.val (.int p0), .val (.int p1), .val (.int p2), .val (.int (J0_3_S0 p0 p1 p2 wH wD wU fN fL fU)), .val (.int (J0_15_S0 p0 p1 p2 wH wD wU fN fL fU)), .val (.int (J0_28_S0 p0 p1 p2 wH wD wU fN fL fU)), .val (.int (0 : Int32)), .val (.ref b10), .val (.ref fN), .unset, .unset, .unset, .unset] [(.ref b10)])) _
        refine st29.trans ?_
        show Steps p.tables e below (T29.setTop (mkF m 112 #[.val (.int p0), .val (.int p1), .val (.int p2), .val (.int (J0_3_S0 p0 p1 p2 wH wD wU fN fL fU)), .val (.int (J0_15_S0 p0 p1 p2 wH wD wU fN fL fU)), .val (.int (J0_28_S0 p0 p1 p2 wH wD wU fN fL fU)), .val (.int (0 : Int32)), .val (.ref b10), .val (.ref fN), .unset, .unset, .unset, .unset] [(.int (1 : Int32))])) _
        refine XS.istore X29.here hx rfl (hb hby at_112) rfl (l' := #[.val (.int p0), .val (.int p1), .val (.int p2), .val (.int (J0_3_S0 p0 p1 p2 wH wD wU fN fL fU)), .val (.int (J0_15_S0 p0 p1 p2 wH wD wU fN fL fU)), .val (.int (J0_28_S0 p0 p1 p2 wH wD wU fN fL fU)), .val (.int (0 : Int32)), .val (.ref b10), .val (.ref fN), .val (.int (1 : Int32)), .unset, .unset, .unset]) rfl ?_
        show Steps p.tables e below (T29.setTop (mkF m 114 #[.val (.int p0), .val (.int p1), .val (.int p2), .val (.int (J0_3_S0 p0 p1 p2 wH wD wU fN fL fU)), .val (.int (J0_15_S0 p0 p1 p2 wH wD wU fN fL fU)), .val (.int (J0_28_S0 p0 p1 p2 wH wD wU fN fL fU)), .val (.int (0 : Int32)), .val (.ref b10), .val (.ref fN), .val (.int (1 : Int32)), .unset, .unset, .unset] [])) _
        refine XS.iload X29.here hx rfl (hb hby at_114) rfl ?_
        show Steps p.tables e below (T29.setTop (mkF m 116 #[.val (.int p0), .val (.int p1), .val (.int p2), .val (.int (J0_3_S0 p0 p1 p2 wH wD wU fN fL fU)), .val (.int (J0_15_S0 p0 p1 p2 wH wD wU fN fL fU)), .val (.int (J0_28_S0 p0 p1 p2 wH wD wU fN fL fU)), .val (.int (0 : Int32)), .val (.ref b10), .val (.ref fN), .val (.int (1 : Int32)), .unset, .unset, .unset] [(.int (0 : Int32))])) _
        refine XS.iconst X29.here hx rfl (hb hby at_116) ?_
        show Steps p.tables e below (T29.setTop (mkF m 117 #[.val (.int p0), .val (.int p1), .val (.int p2), .val (.int (J0_3_S0 p0 p1 p2 wH wD wU fN fL fU)), .val (.int (J0_15_S0 p0 p1 p2 wH wD wU fN fL fU)), .val (.int (J0_28_S0 p0 p1 p2 wH wD wU fN fL fU)), .val (.int (0 : Int32)), .val (.ref b10), .val (.ref fN), .val (.int (1 : Int32)), .unset, .unset, .unset] [(.int (2 : Int32)), (.int (0 : Int32))])) _
        refine XS.icmpNo X29.here hx rfl (hb hby at_117) rfl (feq (by decide : ¬ ((0 : Int32) = (2 : Int32)))).1 ?_
        show Steps p.tables e below (T29.setTop (mkF m 120 #[.val (.int p0), .val (.int p1), .val (.int p2), .val (.int (J0_3_S0 p0 p1 p2 wH wD wU fN fL fU)), .val (.int (J0_15_S0 p0 p1 p2 wH wD wU fN fL fU)), .val (.int (J0_28_S0 p0 p1 p2 wH wD wU fN fL fU)), .val (.int (0 : Int32)), .val (.ref b10), .val (.ref fN), .val (.int (1 : Int32)), .unset, .unset, .unset] [])) _
        refine XS.iconst X29.here hx rfl (hb hby at_120) ?_
        show Steps p.tables e below (T29.setTop (mkF m 121 #[.val (.int p0), .val (.int p1), .val (.int p2), .val (.int (J0_3_S0 p0 p1 p2 wH wD wU fN fL fU)), .val (.int (J0_15_S0 p0 p1 p2 wH wD wU fN fL fU)), .val (.int (J0_28_S0 p0 p1 p2 wH wD wU fN fL fU)), .val (.int (0 : Int32)), .val (.ref b10), .val (.ref fN), .val (.int (1 : Int32)), .unset, .unset, .unset] [(.int (1 : Int32))])) _
        refine XS.goto X29.here hx rfl (pc0 := 121) (pc' := 125) rfl (hb hby at_121) (by decide) (by decide) ?_
        show Steps p.tables e below (T29.setTop (mkF m 125 #[.val (.int p0), .val (.int p1), .val (.int p2), .val (.int (J0_3_S0 p0 p1 p2 wH wD wU fN fL fU)), .val (.int (J0_15_S0 p0 p1 p2 wH wD wU fN fL fU)), .val (.int (J0_28_S0 p0 p1 p2 wH wD wU fN fL fU)), .val (.int (0 : Int32)), .val (.ref b10), .val (.ref fN), .val (.int (1 : Int32)), .unset, .unset, .unset] [(.int (1 : Int32))])) _
        refine XS.istore X29.here hx rfl (hb hby at_125) rfl (l' := #[.val (.int p0), .val (.int p1), .val (.int p2), .val (.int (J0_3_S0 p0 p1 p2 wH wD wU fN fL fU)), .val (.int (J0_15_S0 p0 p1 p2 wH wD wU fN fL fU)), .val (.int (J0_28_S0 p0 p1 p2 wH wD wU fN fL fU)), .val (.int (0 : Int32)), .val (.ref b10), .val (.ref fN), .val (.int (1 : Int32)), .val (.int (1 : Int32)), .unset, .unset]) rfl ?_
        show Steps p.tables e below (T29.setTop (mkF m 127 #[.val (.int p0), .val (.int p1), .val (.int p2), .val (.int (J0_3_S0 p0 p1 p2 wH wD wU fN fL fU)), .val (.int (J0_15_S0 p0 p1 p2 wH wD wU fN fL fU)), .val (.int (J0_28_S0 p0 p1 p2 wH wD wU fN fL fU)), .val (.int (0 : Int32)), .val (.ref b10), .val (.ref fN), .val (.int (1 : Int32)), .val (.int (1 : Int32)), .unset, .unset] [])) _
        refine XS.aload X29.here hx rfl (hb hby at_127) rfl rfl ?_
        show Steps p.tables e below (T29.setTop (mkF m 129 #[.val (.int p0), .val (.int p1), .val (.int p2), .val (.int (J0_3_S0 p0 p1 p2 wH wD wU fN fL fU)), .val (.int (J0_15_S0 p0 p1 p2 wH wD wU fN fL fU)), .val (.int (J0_28_S0 p0 p1 p2 wH wD wU fN fL fU)), .val (.int (0 : Int32)), .val (.ref b10), .val (.ref fN), .val (.int (1 : Int32)), .val (.int (1 : Int32)), .unset, .unset] [(.ref b10)])) _
        refine st30.trans ?_
        show Steps p.tables e below (T30.setTop (mkF m 132 #[.val (.int p0), .val (.int p1), .val (.int p2), .val (.int (J0_3_S0 p0 p1 p2 wH wD wU fN fL fU)), .val (.int (J0_15_S0 p0 p1 p2 wH wD wU fN fL fU)), .val (.int (J0_28_S0 p0 p1 p2 wH wD wU fN fL fU)), .val (.int (0 : Int32)), .val (.ref b10), .val (.ref fN), .val (.int (1 : Int32)), .val (.int (1 : Int32)), .unset, .unset] [(.int (1 : Int32))])) _
        refine XS.istore X30.here hx rfl (hb hby at_132) rfl (l' := #[.val (.int p0), .val (.int p1), .val (.int p2), .val (.int (J0_3_S0 p0 p1 p2 wH wD wU fN fL fU)), .val (.int (J0_15_S0 p0 p1 p2 wH wD wU fN fL fU)), .val (.int (J0_28_S0 p0 p1 p2 wH wD wU fN fL fU)), .val (.int (0 : Int32)), .val (.ref b10), .val (.ref fN), .val (.int (1 : Int32)), .val (.int (1 : Int32)), .val (.int (1 : Int32)), .unset]) rfl ?_
        show Steps p.tables e below (T30.setTop (mkF m 134 #[.val (.int p0), .val (.int p1), .val (.int p2), .val (.int (J0_3_S0 p0 p1 p2 wH wD wU fN fL fU)), .val (.int (J0_15_S0 p0 p1 p2 wH wD wU fN fL fU)), .val (.int (J0_28_S0 p0 p1 p2 wH wD wU fN fL fU)), .val (.int (0 : Int32)), .val (.ref b10), .val (.ref fN), .val (.int (1 : Int32)), .val (.int (1 : Int32)), .val (.int (1 : Int32)), .unset] [])) _
        refine XS.iload X30.here hx rfl (hb hby at_134) rfl ?_
        show Steps p.tables e below (T30.setTop (mkF m 136 #[.val (.int p0), .val (.int p1), .val (.int p2), .val (.int (J0_3_S0 p0 p1 p2 wH wD wU fN fL fU)), .val (.int (J0_15_S0 p0 p1 p2 wH wD wU fN fL fU)), .val (.int (J0_28_S0 p0 p1 p2 wH wD wU fN fL fU)), .val (.int (0 : Int32)), .val (.ref b10), .val (.ref fN), .val (.int (1 : Int32)), .val (.int (1 : Int32)), .val (.int (1 : Int32)), .unset] [(.int (1 : Int32))])) _
        refine XS.iload X30.here hx rfl (hb hby at_136) rfl ?_
        show Steps p.tables e below (T30.setTop (mkF m 138 #[.val (.int p0), .val (.int p1), .val (.int p2), .val (.int (J0_3_S0 p0 p1 p2 wH wD wU fN fL fU)), .val (.int (J0_15_S0 p0 p1 p2 wH wD wU fN fL fU)), .val (.int (J0_28_S0 p0 p1 p2 wH wD wU fN fL fU)), .val (.int (0 : Int32)), .val (.ref b10), .val (.ref fN), .val (.int (1 : Int32)), .val (.int (1 : Int32)), .val (.int (1 : Int32)), .unset] [(.int (1 : Int32)), (.int (1 : Int32))])) _
        refine XS.icmpNo X30.here hx rfl (hb hby at_138) rfl (teq (by decide : (1 : Int32) = (1 : Int32))).2 ?_
        show Steps p.tables e below (T30.setTop (mkF m 141 #[.val (.int p0), .val (.int p1), .val (.int p2), .val (.int (J0_3_S0 p0 p1 p2 wH wD wU fN fL fU)), .val (.int (J0_15_S0 p0 p1 p2 wH wD wU fN fL fU)), .val (.int (J0_28_S0 p0 p1 p2 wH wD wU fN fL fU)), .val (.int (0 : Int32)), .val (.ref b10), .val (.ref fN), .val (.int (1 : Int32)), .val (.int (1 : Int32)), .val (.int (1 : Int32)), .unset] [])) _
        refine XS.iload X30.here hx rfl (hb hby at_141) rfl ?_
        show Steps p.tables e below (T30.setTop (mkF m 143 #[.val (.int p0), .val (.int p1), .val (.int p2), .val (.int (J0_3_S0 p0 p1 p2 wH wD wU fN fL fU)), .val (.int (J0_15_S0 p0 p1 p2 wH wD wU fN fL fU)), .val (.int (J0_28_S0 p0 p1 p2 wH wD wU fN fL fU)), .val (.int (0 : Int32)), .val (.ref b10), .val (.ref fN), .val (.int (1 : Int32)), .val (.int (1 : Int32)), .val (.int (1 : Int32)), .unset] [(.int (1 : Int32))])) _
        refine XS.ifNo X30.here hx rfl (hb hby at_143) rfl ((if0 _ _).trans (feq (by decide : ¬ ((1 : Int32) = (0 : Int32)))).1) ?_
        show Steps p.tables e below (T30.setTop (mkF m 146 #[.val (.int p0), .val (.int p1), .val (.int p2), .val (.int (J0_3_S0 p0 p1 p2 wH wD wU fN fL fU)), .val (.int (J0_15_S0 p0 p1 p2 wH wD wU fN fL fU)), .val (.int (J0_28_S0 p0 p1 p2 wH wD wU fN fL fU)), .val (.int (0 : Int32)), .val (.ref b10), .val (.ref fN), .val (.int (1 : Int32)), .val (.int (1 : Int32)), .val (.int (1 : Int32)), .unset] [])) _
        refine XS.aload X30.here hx rfl (hb hby at_146) rfl rfl ?_
        show Steps p.tables e below (T30.setTop (mkF m 148 #[.val (.int p0), .val (.int p1), .val (.int p2), .val (.int (J0_3_S0 p0 p1 p2 wH wD wU fN fL fU)), .val (.int (J0_15_S0 p0 p1 p2 wH wD wU fN fL fU)), .val (.int (J0_28_S0 p0 p1 p2 wH wD wU fN fL fU)), .val (.int (0 : Int32)), .val (.ref b10), .val (.ref fN), .val (.int (1 : Int32)), .val (.int (1 : Int32)), .val (.int (1 : Int32)), .unset] [(.ref b10)])) _
        refine st31.trans ?_
        show Steps p.tables e below (T31.setTop (mkF m 151 #[.val (.int p0), .val (.int p1), .val (.int p2), .val (.int (J0_3_S0 p0 p1 p2 wH wD wU fN fL fU)), .val (.int (J0_15_S0 p0 p1 p2 wH wD wU fN fL fU)), .val (.int (J0_28_S0 p0 p1 p2 wH wD wU fN fL fU)), .val (.int (0 : Int32)), .val (.ref b10), .val (.ref fN), .val (.int (1 : Int32)), .val (.int (1 : Int32)), .val (.int (1 : Int32)), .unset] [(.int (1 : Int32))])) _
        refine XS.ifNo X31.here hx rfl (hb hby at_151) rfl ((if0 _ _).trans (feq (by decide : ¬ ((1 : Int32) = (0 : Int32)))).1) ?_
        show Steps p.tables e below (T31.setTop (mkF m 154 #[.val (.int p0), .val (.int p1), .val (.int p2), .val (.int (J0_3_S0 p0 p1 p2 wH wD wU fN fL fU)), .val (.int (J0_15_S0 p0 p1 p2 wH wD wU fN fL fU)), .val (.int (J0_28_S0 p0 p1 p2 wH wD wU fN fL fU)), .val (.int (0 : Int32)), .val (.ref b10), .val (.ref fN), .val (.int (1 : Int32)), .val (.int (1 : Int32)), .val (.int (1 : Int32)), .unset] [])) _
        refine XS.aload X31.here hx rfl (hb hby at_154) rfl rfl ?_
        show Steps p.tables e below (T31.setTop (mkF m 156 #[.val (.int p0), .val (.int p1), .val (.int p2), .val (.int (J0_3_S0 p0 p1 p2 wH wD wU fN fL fU)), .val (.int (J0_15_S0 p0 p1 p2 wH wD wU fN fL fU)), .val (.int (J0_28_S0 p0 p1 p2 wH wD wU fN fL fU)), .val (.int (0 : Int32)), .val (.ref b10), .val (.ref fN), .val (.int (1 : Int32)), .val (.int (1 : Int32)), .val (.int (1 : Int32)), .unset] [(.ref b10)])) _
        refine st32.trans ?_
        show Steps p.tables e below (T32.setTop (mkF m 159 #[.val (.int p0), .val (.int p1), .val (.int p2), .val (.int (J0_3_S0 p0 p1 p2 wH wD wU fN fL fU)), .val (.int (J0_15_S0 p0 p1 p2 wH wD wU fN fL fU)), .val (.int (J0_28_S0 p0 p1 p2 wH wD wU fN fL fU)), .val (.int (0 : Int32)), .val (.ref b10), .val (.ref fN), .val (.int (1 : Int32)), .val (.int (1 : Int32)), .val (.int (1 : Int32)), .unset] [(.int (0 : Int32))])) _
        refine XS.ifNo X32.here hx rfl (hb hby at_159) rfl ((if0 _ _).trans (teq (by decide : (0 : Int32) = (0 : Int32))).2) ?_
        show Steps p.tables e below (T32.setTop (mkF m 162 #[.val (.int p0), .val (.int p1), .val (.int p2), .val (.int (J0_3_S0 p0 p1 p2 wH wD wU fN fL fU)), .val (.int (J0_15_S0 p0 p1 p2 wH wD wU fN fL fU)), .val (.int (J0_28_S0 p0 p1 p2 wH wD wU fN fL fU)), .val (.int (0 : Int32)), .val (.ref b10), .val (.ref fN), .val (.int (1 : Int32)), .val (.int (1 : Int32)), .val (.int (1 : Int32)), .unset] [])) _
        refine XS.aload X32.here hx rfl (hb hby at_162) rfl rfl ?_
        show Steps p.tables e below (T32.setTop (mkF m 164 #[.val (.int p0), .val (.int p1), .val (.int p2), .val (.int (J0_3_S0 p0 p1 p2 wH wD wU fN fL fU)), .val (.int (J0_15_S0 p0 p1 p2 wH wD wU fN fL fU)), .val (.int (J0_28_S0 p0 p1 p2 wH wD wU fN fL fU)), .val (.int (0 : Int32)), .val (.ref b10), .val (.ref fN), .val (.int (1 : Int32)), .val (.int (1 : Int32)), .val (.int (1 : Int32)), .unset] [(.ref b10)])) _
        refine st33.trans ?_
        show Steps p.tables e below (T33.setTop (mkF m 167 #[.val (.int p0), .val (.int p1), .val (.int p2), .val (.int (J0_3_S0 p0 p1 p2 wH wD wU fN fL fU)), .val (.int (J0_15_S0 p0 p1 p2 wH wD wU fN fL fU)), .val (.int (J0_28_S0 p0 p1 p2 wH wD wU fN fL fU)), .val (.int (0 : Int32)), .val (.ref b10), .val (.ref fN), .val (.int (1 : Int32)), .val (.int (1 : Int32)), .val (.int (1 : Int32)), .unset] [(.int (0 : Int32))])) _
        refine XS.ifNo X33.here hx rfl (hb hby at_167) rfl ((if0 _ _).trans (teq (by decide : (0 : Int32) = (0 : Int32))).2) ?_
        show Steps p.tables e below (T33.setTop (mkF m 170 #[.val (.int p0), .val (.int p1), .val (.int p2), .val (.int (J0_3_S0 p0 p1 p2 wH wD wU fN fL fU)), .val (.int (J0_15_S0 p0 p1 p2 wH wD wU fN fL fU)), .val (.int (J0_28_S0 p0 p1 p2 wH wD wU fN fL fU)), .val (.int (0 : Int32)), .val (.ref b10), .val (.ref fN), .val (.int (1 : Int32)), .val (.int (1 : Int32)), .val (.int (1 : Int32)), .unset] [])) _
        refine XS.iconst X33.here hx rfl (hb hby at_170) ?_
        show Steps p.tables e below (T33.setTop (mkF m 171 #[.val (.int p0), .val (.int p1), .val (.int p2), .val (.int (J0_3_S0 p0 p1 p2 wH wD wU fN fL fU)), .val (.int (J0_15_S0 p0 p1 p2 wH wD wU fN fL fU)), .val (.int (J0_28_S0 p0 p1 p2 wH wD wU fN fL fU)), .val (.int (0 : Int32)), .val (.ref b10), .val (.ref fN), .val (.int (1 : Int32)), .val (.int (1 : Int32)), .val (.int (1 : Int32)), .unset] [(.int (1 : Int32))])) _
        refine XS.goto X33.here hx rfl (pc0 := 171) (pc' := 175) rfl (hb hby at_171) (by decide) (by decide) ?_
        show Steps p.tables e below (T33.setTop (mkF m 175 #[.val (.int p0), .val (.int p1), .val (.int p2), .val (.int (J0_3_S0 p0 p1 p2 wH wD wU fN fL fU)), .val (.int (J0_15_S0 p0 p1 p2 wH wD wU fN fL fU)), .val (.int (J0_28_S0 p0 p1 p2 wH wD wU fN fL fU)), .val (.int (0 : Int32)), .val (.ref b10), .val (.ref fN), .val (.int (1 : Int32)), .val (.int (1 : Int32)), .val (.int (1 : Int32)), .unset] [(.int (1 : Int32))])) _
        refine XS.istore X33.here hx rfl (hb hby at_175) rfl (l' := #[.val (.int p0), .val (.int p1), .val (.int p2), .val (.int (J0_3_S0 p0 p1 p2 wH wD wU fN fL fU)), .val (.int (J0_15_S0 p0 p1 p2 wH wD wU fN fL fU)), .val (.int (J0_28_S0 p0 p1 p2 wH wD wU fN fL fU)), .val (.int (0 : Int32)), .val (.ref b10), .val (.ref fN), .val (.int (1 : Int32)), .val (.int (1 : Int32)), .val (.int (1 : Int32)), .val (.int (1 : Int32))]) rfl ?_
        show Steps p.tables e below (T33.setTop (mkF m 177 #[.val (.int p0), .val (.int p1), .val (.int p2), .val (.int (J0_3_S0 p0 p1 p2 wH wD wU fN fL fU)), .val (.int (J0_15_S0 p0 p1 p2 wH wD wU fN fL fU)), .val (.int (J0_28_S0 p0 p1 p2 wH wD wU fN fL fU)), .val (.int (0 : Int32)), .val (.ref b10), .val (.ref fN), .val (.int (1 : Int32)), .val (.int (1 : Int32)), .val (.int (1 : Int32)), .val (.int (1 : Int32))] [])) _
        refine XS.iload X33.here hx rfl (hb hby at_177) rfl ?_
        exact kt)
      by_cases hc179 : (J0_28_S0 p0 p1 p2 wH wD wU fN fL fU) = (0 : Int32)
      · obtain ⟨fs, hr, hrun, hended, hW, hsame⟩ := X33.leave (v := some (.int (1 : Int32))) (fun h => by rw [Bd.returns] at h; cases h)
        refine ⟨_, _, pre34 _ ?_, hrun, hended, _, _, rfl, ?_, ⟨_, rfl⟩, hW, hsame.mono (by decide) (by decide)⟩
        · show Steps p.tables e below (T33.setTop (mkF m 179 #[.val (.int p0), .val (.int p1), .val (.int p2), .val (.int (J0_3_S0 p0 p1 p2 wH wD wU fN fL fU)), .val (.int (J0_15_S0 p0 p1 p2 wH wD wU fN fL fU)), .val (.int (J0_28_S0 p0 p1 p2 wH wD wU fN fL fU)), .val (.int (0 : Int32)), .val (.ref b10), .val (.ref fN), .val (.int (1 : Int32)), .val (.int (1 : Int32)), .val (.int (1 : Int32)), .val (.int (1 : Int32))] [(.int (J0_28_S0 p0 p1 p2 wH wD wU fN fL fU))])) _
          refine XS.ifYes X33.here hx rfl (pc0 := 179) (pc' := 210) rfl (hb hby at_179) rfl ((if0 _ _).trans (teq hc179).1) (by decide) (by decide) ?_
          show Steps p.tables e below (T33.setTop (mkF m 210 #[.val (.int p0), .val (.int p1), .val (.int p2), .val (.int (J0_3_S0 p0 p1 p2 wH wD wU fN fL fU)), .val (.int (J0_15_S0 p0 p1 p2 wH wD wU fN fL fU)), .val (.int (J0_28_S0 p0 p1 p2 wH wD wU fN fL fU)), .val (.int (0 : Int32)), .val (.ref b10), .val (.ref fN), .val (.int (1 : Int32)), .val (.int (1 : Int32)), .val (.int (1 : Int32)), .val (.int (1 : Int32))] [])) _
          refine XS.iload X33.here hx rfl (hb hby at_210) rfl ?_
          show Steps p.tables e below (T33.setTop (mkF m 212 #[.val (.int p0), .val (.int p1), .val (.int p2), .val (.int (J0_3_S0 p0 p1 p2 wH wD wU fN fL fU)), .val (.int (J0_15_S0 p0 p1 p2 wH wD wU fN fL fU)), .val (.int (J0_28_S0 p0 p1 p2 wH wD wU fN fL fU)), .val (.int (0 : Int32)), .val (.ref b10), .val (.ref fN), .val (.int (1 : Int32)), .val (.int (1 : Int32)), .val (.int (1 : Int32)), .val (.int (1 : Int32))] [(.int (1 : Int32))])) _
          exact retN X33 hx (t := .boolean) Bd.returns (by simp) (hb hby at_212) hr
        · show Q0 Z p0 p1 p2 wH wD wU fN fL fU h0 n0 _ T33.heap _
          rw [e33]
          exact ⟨(by unfold F0; simp only [if_pos hi0, if_neg hc59, if_pos hc179]), N33⟩
      · obtain ⟨cq35, kq35, q35a, q35b, q35c⟩ := isOf hZ e33 P28_0
        obtain ⟨_, _, ⟨T35, L35, k35, n35⟩, -, X35, ⟨Lc35, hQ35, ll35, ly35, lz35⟩, st35⟩ := X33.virtualBack hx (y := (⟨"com/example/admission_for_endpoints/admissionforendpoints/MessageReader", "end", "()Z"⟩ : MethodName)) (z := (⟨"com/example/admission_for_endpoints/admissionforendpoints/MessageReader", "end", "()Z"⟩ : MethodName)) hown (mvT hZ (hw _ (List.mem_of_getElem? (i := 64) rfl))) (mvT hZ (hw _ (List.mem_of_getElem? (i := 65) rfl))) (notFace_of_selects (args := #[]) (mvT hZ (hw _ (List.mem_of_getElem? (i := 67) rfl)))) (mvT hZ (hw _ (List.mem_of_getElem? (i := 67) rfl))) (mvT hZ (hw _ (List.mem_of_getElem? (i := 66) rfl))) (by decide) (backOf (W := 0) (rm8d l Z a0 hw [] b10 wD wU T28.heap n0 (Nat.le_trans (Nat.le_trans (Nat.le_trans (Nat.le_trans Z0 E10.1) K14c.1) K26c.1) K28c.1) P28_1 (own_staK (own_staK (own_staK (Sta.ext E10 S_wD) K14c (allS (own_exaN A10) all0)) K26c (allS (own_exaN P14_0) all0)) K28c (allS (own_exaN P26_0) all0)) (own_staK (own_staK (own_staK (Sta.ext E10 S_wU) K14c (allS (own_exaN A10) all0)) K26c (allS (own_exaN P14_0) all0)) K28c (allS (own_exaN P26_0) all0)) ne_UD) hZ (hw _ (List.mem_of_getElem? (i := 68) rfl)) (hw _ (List.mem_of_getElem? (i := 3) rfl)) (by decide) (by decide)) q35a q35c (g := (mkF m 189 #[.val (.int p0), .val (.int p1), .val (.int p2), .val (.int (J0_3_S0 p0 p1 p2 wH wD wU fN fL fU)), .val (.int (J0_15_S0 p0 p1 p2 wH wD wU fN fL fU)), .val (.int (J0_28_S0 p0 p1 p2 wH wD wU fN fL fU)), .val (.int (0 : Int32)), .val (.ref b10), .val (.ref fN), .val (.int (1 : Int32)), .val (.int (1 : Int32)), .val (.int (1 : Int32)), .val (.int (1 : Int32))] [(.ref b10)])) rfl (by rw [hml]; rfl) (Steps.refl _) (argsL := []) (rest := []) (lenOf pd___Z rfl) rfl (by show 2 * 0 + _ ≤ _; exact Nat.le_of_eq rfl) (hb hby at_189) (fun _ _ => ⟨rfl, e33, (by decide : 3 + 0 ≤ _), (by decide : 267 + 0 ≤ _)⟩)
        dsimp only [Pt.U, Pt.locs, Pt.cells, Pt.slots] at X35 ll35 ly35 lz35 st35 hQ35
        subst ll35 ly35 lz35
        obtain ⟨rfl, N35q, e35⟩ := hQ35
        have N35 := Fr.app N33 N35q
        obtain ⟨cq36, kq36, q36a, q36b, q36c⟩ := isOf hZ e35 P28_0
        obtain ⟨_, _, ⟨T36, L36, k36, n36⟩, -, X36, ⟨Lc36, hQ36, ll36, ly36, lz36⟩, st36⟩ := X35.virtualBack hx (y := (⟨"com/example/admission_for_endpoints/admissionforendpoints/MessageReader", "ended", "()Z"⟩ : MethodName)) (z := (⟨"com/example/admission_for_endpoints/admissionforendpoints/MessageReader", "ended", "()Z"⟩ : MethodName)) hown (mvT hZ (hw _ (List.mem_of_getElem? (i := 57) rfl))) (mvT hZ (hw _ (List.mem_of_getElem? (i := 58) rfl))) (notFace_of_selects (args := #[]) (mvT hZ (hw _ (List.mem_of_getElem? (i := 60) rfl)))) (mvT hZ (hw _ (List.mem_of_getElem? (i := 60) rfl))) (mvT hZ (hw _ (List.mem_of_getElem? (i := 59) rfl))) (by decide) (backOf (W := 0) (rm7d l Z a0 hw [] b10 wD T28.heap n0 (Nat.le_trans (Nat.le_trans (Nat.le_trans (Nat.le_trans Z0 E10.1) K14c.1) K26c.1) K28c.1) P28_1 (own_staK (own_staK (own_staK (Sta.ext E10 S_wD) K14c (allS (own_exaN A10) all0)) K26c (allS (own_exaN P14_0) all0)) K28c (allS (own_exaN P26_0) all0))) hZ (hw _ (List.mem_of_getElem? (i := 61) rfl)) (hw _ (List.mem_of_getElem? (i := 3) rfl)) (by decide) (by decide)) q36a q36c (g := (mkF m 197 #[.val (.int p0), .val (.int p1), .val (.int p2), .val (.int (J0_3_S0 p0 p1 p2 wH wD wU fN fL fU)), .val (.int (J0_15_S0 p0 p1 p2 wH wD wU fN fL fU)), .val (.int (J0_28_S0 p0 p1 p2 wH wD wU fN fL fU)), .val (.int (0 : Int32)), .val (.ref b10), .val (.ref fN), .val (.int (1 : Int32)), .val (.int (1 : Int32)), .val (.int (1 : Int32)), .val (.int (1 : Int32))] [(.ref b10)])) rfl (by rw [hml]; rfl) (Steps.refl _) (argsL := []) (rest := []) (lenOf pd___Z rfl) rfl (by show 2 * 0 + _ ≤ _; exact Nat.le_of_eq rfl) (hb hby at_197) (fun _ _ => ⟨rfl, e35, (by decide : 3 + 0 ≤ _), (by decide : 267 + 0 ≤ _)⟩)
        dsimp only [Pt.U, Pt.locs, Pt.cells, Pt.slots] at X36 ll36 ly36 lz36 st36 hQ36
        subst ll36 ly36 lz36
        obtain ⟨rfl, N36q, e36⟩ := hQ36
        have N36 := Fr.app N35 N36q
        obtain ⟨fs, hr, hrun, hended, hW, hsame⟩ := X36.leave (v := some (.int (1 : Int32))) (fun h => by rw [Bd.returns] at h; cases h)
        refine ⟨_, _, pre34 _ ?_, hrun, hended, _, _, rfl, ?_, ⟨_, rfl⟩, hW, hsame.mono (by decide) (by decide)⟩
        · show Steps p.tables e below (T33.setTop (mkF m 179 #[.val (.int p0), .val (.int p1), .val (.int p2), .val (.int (J0_3_S0 p0 p1 p2 wH wD wU fN fL fU)), .val (.int (J0_15_S0 p0 p1 p2 wH wD wU fN fL fU)), .val (.int (J0_28_S0 p0 p1 p2 wH wD wU fN fL fU)), .val (.int (0 : Int32)), .val (.ref b10), .val (.ref fN), .val (.int (1 : Int32)), .val (.int (1 : Int32)), .val (.int (1 : Int32)), .val (.int (1 : Int32))] [(.int (J0_28_S0 p0 p1 p2 wH wD wU fN fL fU))])) _
          refine XS.ifNo X33.here hx rfl (hb hby at_179) rfl ((if0 _ _).trans (feq hc179).1) ?_
          show Steps p.tables e below (T33.setTop (mkF m 182 #[.val (.int p0), .val (.int p1), .val (.int p2), .val (.int (J0_3_S0 p0 p1 p2 wH wD wU fN fL fU)), .val (.int (J0_15_S0 p0 p1 p2 wH wD wU fN fL fU)), .val (.int (J0_28_S0 p0 p1 p2 wH wD wU fN fL fU)), .val (.int (0 : Int32)), .val (.ref b10), .val (.ref fN), .val (.int (1 : Int32)), .val (.int (1 : Int32)), .val (.int (1 : Int32)), .val (.int (1 : Int32))] [])) _
          refine XS.iload X33.here hx rfl (hb hby at_182) rfl ?_
          show Steps p.tables e below (T33.setTop (mkF m 184 #[.val (.int p0), .val (.int p1), .val (.int p2), .val (.int (J0_3_S0 p0 p1 p2 wH wD wU fN fL fU)), .val (.int (J0_15_S0 p0 p1 p2 wH wD wU fN fL fU)), .val (.int (J0_28_S0 p0 p1 p2 wH wD wU fN fL fU)), .val (.int (0 : Int32)), .val (.ref b10), .val (.ref fN), .val (.int (1 : Int32)), .val (.int (1 : Int32)), .val (.int (1 : Int32)), .val (.int (1 : Int32))] [(.int (1 : Int32))])) _
          refine XS.ifNo X33.here hx rfl (hb hby at_184) rfl ((if0 _ _).trans (feq (by decide : ¬ ((1 : Int32) = (0 : Int32)))).1) ?_
          show Steps p.tables e below (T33.setTop (mkF m 187 #[.val (.int p0), .val (.int p1), .val (.int p2), .val (.int (J0_3_S0 p0 p1 p2 wH wD wU fN fL fU)), .val (.int (J0_15_S0 p0 p1 p2 wH wD wU fN fL fU)), .val (.int (J0_28_S0 p0 p1 p2 wH wD wU fN fL fU)), .val (.int (0 : Int32)), .val (.ref b10), .val (.ref fN), .val (.int (1 : Int32)), .val (.int (1 : Int32)), .val (.int (1 : Int32)), .val (.int (1 : Int32))] [])) _
          refine XS.aload X33.here hx rfl (hb hby at_187) rfl rfl ?_
          show Steps p.tables e below (T33.setTop (mkF m 189 #[.val (.int p0), .val (.int p1), .val (.int p2), .val (.int (J0_3_S0 p0 p1 p2 wH wD wU fN fL fU)), .val (.int (J0_15_S0 p0 p1 p2 wH wD wU fN fL fU)), .val (.int (J0_28_S0 p0 p1 p2 wH wD wU fN fL fU)), .val (.int (0 : Int32)), .val (.ref b10), .val (.ref fN), .val (.int (1 : Int32)), .val (.int (1 : Int32)), .val (.int (1 : Int32)), .val (.int (1 : Int32))] [(.ref b10)])) _
          refine st35.trans ?_
          show Steps p.tables e below (T35.setTop (mkF m 192 #[.val (.int p0), .val (.int p1), .val (.int p2), .val (.int (J0_3_S0 p0 p1 p2 wH wD wU fN fL fU)), .val (.int (J0_15_S0 p0 p1 p2 wH wD wU fN fL fU)), .val (.int (J0_28_S0 p0 p1 p2 wH wD wU fN fL fU)), .val (.int (0 : Int32)), .val (.ref b10), .val (.ref fN), .val (.int (1 : Int32)), .val (.int (1 : Int32)), .val (.int (1 : Int32)), .val (.int (1 : Int32))] [(.int (1 : Int32))])) _
          refine XS.ifNo X35.here hx rfl (hb hby at_192) rfl ((if0 _ _).trans (feq (by decide : ¬ ((1 : Int32) = (0 : Int32)))).1) ?_
          show Steps p.tables e below (T35.setTop (mkF m 195 #[.val (.int p0), .val (.int p1), .val (.int p2), .val (.int (J0_3_S0 p0 p1 p2 wH wD wU fN fL fU)), .val (.int (J0_15_S0 p0 p1 p2 wH wD wU fN fL fU)), .val (.int (J0_28_S0 p0 p1 p2 wH wD wU fN fL fU)), .val (.int (0 : Int32)), .val (.ref b10), .val (.ref fN), .val (.int (1 : Int32)), .val (.int (1 : Int32)), .val (.int (1 : Int32)), .val (.int (1 : Int32))] [])) _
          refine XS.aload X35.here hx rfl (hb hby at_195) rfl rfl ?_
          show Steps p.tables e below (T35.setTop (mkF m 197 #[.val (.int p0), .val (.int p1), .val (.int p2), .val (.int (J0_3_S0 p0 p1 p2 wH wD wU fN fL fU)), .val (.int (J0_15_S0 p0 p1 p2 wH wD wU fN fL fU)), .val (.int (J0_28_S0 p0 p1 p2 wH wD wU fN fL fU)), .val (.int (0 : Int32)), .val (.ref b10), .val (.ref fN), .val (.int (1 : Int32)), .val (.int (1 : Int32)), .val (.int (1 : Int32)), .val (.int (1 : Int32))] [(.ref b10)])) _
          refine st36.trans ?_
          show Steps p.tables e below (T36.setTop (mkF m 200 #[.val (.int p0), .val (.int p1), .val (.int p2), .val (.int (J0_3_S0 p0 p1 p2 wH wD wU fN fL fU)), .val (.int (J0_15_S0 p0 p1 p2 wH wD wU fN fL fU)), .val (.int (J0_28_S0 p0 p1 p2 wH wD wU fN fL fU)), .val (.int (0 : Int32)), .val (.ref b10), .val (.ref fN), .val (.int (1 : Int32)), .val (.int (1 : Int32)), .val (.int (1 : Int32)), .val (.int (1 : Int32))] [(.int (1 : Int32))])) _
          refine XS.ifNo X36.here hx rfl (hb hby at_200) rfl ((if0 _ _).trans (feq (by decide : ¬ ((1 : Int32) = (0 : Int32)))).1) ?_
          show Steps p.tables e below (T36.setTop (mkF m 203 #[.val (.int p0), .val (.int p1), .val (.int p2), .val (.int (J0_3_S0 p0 p1 p2 wH wD wU fN fL fU)), .val (.int (J0_15_S0 p0 p1 p2 wH wD wU fN fL fU)), .val (.int (J0_28_S0 p0 p1 p2 wH wD wU fN fL fU)), .val (.int (0 : Int32)), .val (.ref b10), .val (.ref fN), .val (.int (1 : Int32)), .val (.int (1 : Int32)), .val (.int (1 : Int32)), .val (.int (1 : Int32))] [])) _
          refine XS.iconst X36.here hx rfl (hb hby at_203) ?_
          show Steps p.tables e below (T36.setTop (mkF m 204 #[.val (.int p0), .val (.int p1), .val (.int p2), .val (.int (J0_3_S0 p0 p1 p2 wH wD wU fN fL fU)), .val (.int (J0_15_S0 p0 p1 p2 wH wD wU fN fL fU)), .val (.int (J0_28_S0 p0 p1 p2 wH wD wU fN fL fU)), .val (.int (0 : Int32)), .val (.ref b10), .val (.ref fN), .val (.int (1 : Int32)), .val (.int (1 : Int32)), .val (.int (1 : Int32)), .val (.int (1 : Int32))] [(.int (1 : Int32))])) _
          refine XS.goto X36.here hx rfl (pc0 := 204) (pc' := 208) rfl (hb hby at_204) (by decide) (by decide) ?_
          show Steps p.tables e below (T36.setTop (mkF m 208 #[.val (.int p0), .val (.int p1), .val (.int p2), .val (.int (J0_3_S0 p0 p1 p2 wH wD wU fN fL fU)), .val (.int (J0_15_S0 p0 p1 p2 wH wD wU fN fL fU)), .val (.int (J0_28_S0 p0 p1 p2 wH wD wU fN fL fU)), .val (.int (0 : Int32)), .val (.ref b10), .val (.ref fN), .val (.int (1 : Int32)), .val (.int (1 : Int32)), .val (.int (1 : Int32)), .val (.int (1 : Int32))] [(.int (1 : Int32))])) _
          refine XS.istore X36.here hx rfl (hb hby at_208) rfl (l' := #[.val (.int p0), .val (.int p1), .val (.int p2), .val (.int (J0_3_S0 p0 p1 p2 wH wD wU fN fL fU)), .val (.int (J0_15_S0 p0 p1 p2 wH wD wU fN fL fU)), .val (.int (J0_28_S0 p0 p1 p2 wH wD wU fN fL fU)), .val (.int (0 : Int32)), .val (.ref b10), .val (.ref fN), .val (.int (1 : Int32)), .val (.int (1 : Int32)), .val (.int (1 : Int32)), .val (.int (1 : Int32))]) rfl ?_
          show Steps p.tables e below (T36.setTop (mkF m 210 #[.val (.int p0), .val (.int p1), .val (.int p2), .val (.int (J0_3_S0 p0 p1 p2 wH wD wU fN fL fU)), .val (.int (J0_15_S0 p0 p1 p2 wH wD wU fN fL fU)), .val (.int (J0_28_S0 p0 p1 p2 wH wD wU fN fL fU)), .val (.int (0 : Int32)), .val (.ref b10), .val (.ref fN), .val (.int (1 : Int32)), .val (.int (1 : Int32)), .val (.int (1 : Int32)), .val (.int (1 : Int32))] [])) _
          refine XS.iload X36.here hx rfl (hb hby at_210) rfl ?_
          show Steps p.tables e below (T36.setTop (mkF m 212 #[.val (.int p0), .val (.int p1), .val (.int p2), .val (.int (J0_3_S0 p0 p1 p2 wH wD wU fN fL fU)), .val (.int (J0_15_S0 p0 p1 p2 wH wD wU fN fL fU)), .val (.int (J0_28_S0 p0 p1 p2 wH wD wU fN fL fU)), .val (.int (0 : Int32)), .val (.ref b10), .val (.ref fN), .val (.int (1 : Int32)), .val (.int (1 : Int32)), .val (.int (1 : Int32)), .val (.int (1 : Int32))] [(.int (1 : Int32))])) _
          exact retN X36 hx (t := .boolean) Bd.returns (by simp) (hb hby at_212) hr
        · show Q0 Z p0 p1 p2 wH wD wU fN fL fU h0 n0 _ T36.heap _
          rw [e36]
          exact ⟨(by unfold F0; simp only [if_pos hi0, if_neg hc59, if_neg hc179]), N36⟩
  · by_cases hi1 : (A0_44 p0 p1 p2 wH wD wU fN fL fU) = (1 : Int32)
    · have qr37 : (A0_44 p0 p1 p2 wH wD wU fN fL fU) = (1 : Int32) := hi1
      have pre38 : ∀ t, Steps p.tables e below (Tj6.setTop (mkF m 46 #[.val (.int p0), .val (.int p1), .val (.int p2), .val (.int (J0_3_S0 p0 p1 p2 wH wD wU fN fL fU)), .val (.int (J0_15_S0 p0 p1 p2 wH wD wU fN fL fU)), .val (.int (J0_28_S0 p0 p1 p2 wH wD wU fN fL fU)), .val (.int (1 : Int32)), .unset, .unset, .unset, .unset, .unset, .unset] [])) t → Steps p.tables e below (s₁.setTop (entryFrame m #[(.int p0), (.int p1), (.int p2)] maxLocals)) t := fun t kt => pre7 t (by rw [qr37]; exact kt)
      obtain ⟨T39, h39, X39, e39, E39, A39, D39, U39, st39⟩ := newO Xj6 hx hZ hown (hw _ (List.mem_of_getElem? (i := 1) rfl)) (hw _ (List.mem_of_getElem? (i := 2) rfl)) (hw _ (List.mem_of_getElem? (i := 3) rfl)) ej6 (g := (mkF m 46 #[.val (.int p0), .val (.int p1), .val (.int p2), .val (.int (J0_3_S0 p0 p1 p2 wH wD wU fN fL fU)), .val (.int (J0_15_S0 p0 p1 p2 wH wD wU fN fL fU)), .val (.int (J0_28_S0 p0 p1 p2 wH wD wU fN fL fU)), .val (.int (1 : Int32)), .unset, .unset, .unset, .unset, .unset, .unset] [])) rfl (hb hby at_46) (by decide) (by decide)
      obtain ⟨b39, g39⟩ : ∃ z, z = h0.size := ⟨_, rfl⟩
      rw [← g39] at A39 D39 st39
      have ne40 : fN ≠ b39 := Nat.ne_of_lt (Nat.lt_of_lt_of_le E_fN.lt (Nat.le_of_eq g39.symm))
      have ne41 : fL ≠ b39 := Nat.ne_of_lt (Nat.lt_of_lt_of_le E_fL.lt (Nat.le_of_eq g39.symm))
      have ne42 : fU ≠ b39 := Nat.ne_of_lt (Nat.lt_of_lt_of_le E_fU.lt (Nat.le_of_eq g39.symm))
      have g_b39 : n0 ≤ b39 := Nat.le_trans Z0 (Nat.le_of_eq g39.symm)
      have sz_b39 : h0.size ≤ b39 := Nat.le_trans (Keep.refl h0 []).1 (Nat.le_of_eq g39.symm)
      have K39 : Keep h0 h39 [] := (Keep.refl h0 []).ext E39
      have F_stage_b39 : Fld Z h39 b39 "com/example/admission_for_endpoints/admissionforendpoints/MessageReader" "stage" "Lcom/example/admission_for_endpoints/admissionforendpoints/MessageReader$Stage;" .null := D39 (Or.inl (hw _ (List.mem_of_getElem? (i := 14) rfl))) (ty := (.object "com/example/admission_for_endpoints/admissionforendpoints/MessageReader$Stage")) (by decide)
      have F_line_b39 : Fld Z h39 b39 "com/example/admission_for_endpoints/admissionforendpoints/MessageReader" "line" "[B" .null := D39 (Or.inl (hw _ (List.mem_of_getElem? (i := 17) rfl))) (ty := (.array .byte)) (by decide)
      have F_body_b39 : Fld Z h39 b39 "com/example/admission_for_endpoints/admissionforendpoints/MessageReader" "body" "[B" .null := D39 (Or.inl (hw _ (List.mem_of_getElem? (i := 19) rfl))) (ty := (.array .byte)) (by decide)
      have F_maxBodyBytes_b39 : Fld Z h39 b39 "com/example/admission_for_endpoints/admissionforendpoints/MessageReader" "maxBodyBytes" "I" (.int (0 : Int32)) := D39 (Or.inr (hw _ (List.mem_of_getElem? (i := 21) rfl))) (ty := .int) (by decide)
      have F_cutOffAtBound_b39 : Fld Z h39 b39 "com/example/admission_for_endpoints/admissionforendpoints/MessageReader" "cutOffAtBound" "Z" (.int (0 : Int32)) := D39 (Or.inr (hw _ (List.mem_of_getElem? (i := 23) rfl))) (ty := .boolean) (by decide)
      have F_dropping_b39 : Fld Z h39 b39 "com/example/admission_for_endpoints/admissionforendpoints/MessageReader" "dropping" "Z" (.int (0 : Int32)) := D39 (Or.inl (hw _ (List.mem_of_getElem? (i := 30) rfl))) (ty := .boolean) (by decide)
      have F_lineBytes_b39 : Fld Z h39 b39 "com/example/admission_for_endpoints/admissionforendpoints/MessageReader" "lineBytes" "I" (.int (0 : Int32)) := D39 (Or.inl (hw _ (List.mem_of_getElem? (i := 40) rfl))) (ty := .int) (by decide)
      have F_truncated_b39 : Fld Z h39 b39 "com/example/admission_for_endpoints/admissionforendpoints/MessageReader" "truncated" "Z" (.int (0 : Int32)) := D39 (Or.inl (hw _ (List.mem_of_getElem? (i := 75) rfl))) (ty := .boolean) (by decide)
      have F_bodyBytes_b39 : Fld Z h39 b39 "com/example/admission_for_endpoints/admissionforendpoints/MessageReader" "bodyBytes" "I" (.int (0 : Int32)) := D39 (Or.inl (hw _ (List.mem_of_getElem? (i := 82) rfl))) (ty := .int) (by decide)
      have F_left_b39 : Fld Z h39 b39 "com/example/admission_for_endpoints/admissionforendpoints/MessageReader" "left" "J" (.long (0 : Int64)) := D39 (Or.inl (hw _ (List.mem_of_getElem? (i := 88) rfl))) (ty := .long) (by decide)
      obtain ⟨_, _, ⟨T43, L43, k43, n43⟩, -, X43, ⟨Lc43, hQ43, ll43, ly43, lz43⟩, st43⟩ := X39.specialBack hx (y := (⟨"com/example/admission_for_endpoints/admissionforendpoints/MessageReader", "<init>", "(IZ)V"⟩ : MethodName)) rfl hown (mvT hZ (hw _ (List.mem_of_getElem? (i := 4) rfl))) (mvT hZ (hw _ (List.mem_of_getElem? (i := 5) rfl))) (mvT hZ (hw _ (List.mem_of_getElem? (i := 6) rfl))) (by decide) (backOf (W := 1) (rm1 l Z a0 hw [] b39 p0 (J0_3_S0 p0 p1 p2 wH wD wU fN fL fU) wH h39 n0 (Nat.le_trans Z0 E39.1) A39 F_stage_b39 F_body_b39 F_maxBodyBytes_b39 F_dropping_b39 F_lineBytes_b39 F_truncated_b39 F_bodyBytes_b39 F_left_b39 F_line_b39 F_cutOffAtBound_b39 (Sta.ext E39 S_wH) g_b39) hZ (hw _ (List.mem_of_getElem? (i := 6) rfl)) (hw _ (List.mem_of_getElem? (i := 3) rfl)) (by decide) (by decide)) (g := (mkF m 52 #[.val (.int p0), .val (.int p1), .val (.int p2), .val (.int (J0_3_S0 p0 p1 p2 wH wD wU fN fL fU)), .val (.int (J0_15_S0 p0 p1 p2 wH wD wU fN fL fU)), .val (.int (J0_28_S0 p0 p1 p2 wH wD wU fN fL fU)), .val (.int (1 : Int32)), .unset, .unset, .unset, .unset, .unset, .unset] [(.int (J0_3_S0 p0 p1 p2 wH wD wU fN fL fU)), (.int p0), (.ref b39), (.ref b39)])) rfl (by rw [hml]; rfl) (Steps.refl _) (a := b39) (argsL := [(.int p0), (.int (J0_3_S0 p0 p1 p2 wH wD wU fN fL fU))]) (rest := [(.ref b39)]) (lenOf pd__IZ_V rfl) rfl (by show 2 * 0 + _ ≤ _; exact Nat.le_of_eq rfl) (hb hby at_52) (fun _ _ => ⟨rfl, e39, (by decide : 1 + 2 ≤ _), (by decide : 11 + 256 ≤ _)⟩)
      dsimp only [Pt.U, Pt.locs, Pt.cells, Pt.slots] at X43 ll43 ly43 lz43 st43 hQ43
      subst ll43 ly43 lz43
      obtain ⟨ab43, kb43, rfl, N43q, K43c, P43_0, P43_1, P43_2, P43_3, P43_4, P43_5, P43_6, P43_7, P43_8, P43_9, P43_10⟩ := hQ43
      have N43 := Fr.app Nj6 N43q
      have K43 : Keep h0 T43.heap [] := K39.trans K43c (allS (Or.inr sz_b39) all0)
      have pre44 : ∀ t, Steps p.tables e below (T43.setTop (mkF m 59 #[.val (.int p0), .val (.int p1), .val (.int p2), .val (.int (J0_3_S0 p0 p1 p2 wH wD wU fN fL fU)), .val (.int (J0_15_S0 p0 p1 p2 wH wD wU fN fL fU)), .val (.int (J0_28_S0 p0 p1 p2 wH wD wU fN fL fU)), .val (.int (1 : Int32)), .val (.ref b39), .unset, .unset, .unset, .unset, .unset] [(.int (J0_15_S0 p0 p1 p2 wH wD wU fN fL fU))])) t → Steps p.tables e below (s₁.setTop (entryFrame m #[(.int p0), (.int p1), (.int p2)] maxLocals)) t := fun t kt => pre38 t (by
        show Steps p.tables e below (Tj6.setTop (mkF m 46 #[.val (.int p0), .val (.int p1), .val (.int p2), .val (.int (J0_3_S0 p0 p1 p2 wH wD wU fN fL fU)), .val (.int (J0_15_S0 p0 p1 p2 wH wD wU fN fL fU)), .val (.int (J0_28_S0 p0 p1 p2 wH wD wU fN fL fU)), .val (.int (1 : Int32)), .unset, .unset, .unset, .unset, .unset, .unset] [])) _
        refine st39 _ ?_
        show Steps p.tables e below (T39.setTop (mkF m 49 #[.val (.int p0), .val (.int p1), .val (.int p2), .val (.int (J0_3_S0 p0 p1 p2 wH wD wU fN fL fU)), .val (.int (J0_15_S0 p0 p1 p2 wH wD wU fN fL fU)), .val (.int (J0_28_S0 p0 p1 p2 wH wD wU fN fL fU)), .val (.int (1 : Int32)), .unset, .unset, .unset, .unset, .unset, .unset] [(.ref b39)])) _
        refine XS.dup X39.here hx rfl (hb hby at_49) rfl rfl ?_
        show Steps p.tables e below (T39.setTop (mkF m 50 #[.val (.int p0), .val (.int p1), .val (.int p2), .val (.int (J0_3_S0 p0 p1 p2 wH wD wU fN fL fU)), .val (.int (J0_15_S0 p0 p1 p2 wH wD wU fN fL fU)), .val (.int (J0_28_S0 p0 p1 p2 wH wD wU fN fL fU)), .val (.int (1 : Int32)), .unset, .unset, .unset, .unset, .unset, .unset] [(.ref b39), (.ref b39)])) _
        refine XS.iloadN X39.here hx rfl (hb hby at_50) rfl ?_
        show Steps p.tables e below (T39.setTop (mkF m 51 #[.val (.int p0), .val (.int p1), .val (.int p2), .val (.int (J0_3_S0 p0 p1 p2 wH wD wU fN fL fU)), .val (.int (J0_15_S0 p0 p1 p2 wH wD wU fN fL fU)), .val (.int (J0_28_S0 p0 p1 p2 wH wD wU fN fL fU)), .val (.int (1 : Int32)), .unset, .unset, .unset, .unset, .unset, .unset] [(.int p0), (.ref b39), (.ref b39)])) _
        refine XS.iloadN X39.here hx rfl (hb hby at_51) rfl ?_
        show Steps p.tables e below (T39.setTop (mkF m 52 #[.val (.int p0), .val (.int p1), .val (.int p2), .val (.int (J0_3_S0 p0 p1 p2 wH wD wU fN fL fU)), .val (.int (J0_15_S0 p0 p1 p2 wH wD wU fN fL fU)), .val (.int (J0_28_S0 p0 p1 p2 wH wD wU fN fL fU)), .val (.int (1 : Int32)), .unset, .unset, .unset, .unset, .unset, .unset] [(.int (J0_3_S0 p0 p1 p2 wH wD wU fN fL fU)), (.int p0), (.ref b39), (.ref b39)])) _
        refine st43.trans ?_
        show Steps p.tables e below (T43.setTop (mkF m 55 #[.val (.int p0), .val (.int p1), .val (.int p2), .val (.int (J0_3_S0 p0 p1 p2 wH wD wU fN fL fU)), .val (.int (J0_15_S0 p0 p1 p2 wH wD wU fN fL fU)), .val (.int (J0_28_S0 p0 p1 p2 wH wD wU fN fL fU)), .val (.int (1 : Int32)), .unset, .unset, .unset, .unset, .unset, .unset] [(.ref b39)])) _
        refine XS.astore X43.here hx rfl (hb hby at_55) rfl rfl (l' := #[.val (.int p0), .val (.int p1), .val (.int p2), .val (.int (J0_3_S0 p0 p1 p2 wH wD wU fN fL fU)), .val (.int (J0_15_S0 p0 p1 p2 wH wD wU fN fL fU)), .val (.int (J0_28_S0 p0 p1 p2 wH wD wU fN fL fU)), .val (.int (1 : Int32)), .val (.ref b39), .unset, .unset, .unset, .unset, .unset]) rfl ?_
        show Steps p.tables e below (T43.setTop (mkF m 57 #[.val (.int p0), .val (.int p1), .val (.int p2), .val (.int (J0_3_S0 p0 p1 p2 wH wD wU fN fL fU)), .val (.int (J0_15_S0 p0 p1 p2 wH wD wU fN fL fU)), .val (.int (J0_28_S0 p0 p1 p2 wH wD wU fN fL fU)), .val (.int (1 : Int32)), .val (.ref b39), .unset, .unset, .unset, .unset, .unset] [])) _
        refine XS.iload X43.here hx rfl (hb hby at_57) rfl ?_
        exact kt)
      by_cases hc59 : (J0_15_S0 p0 p1 p2 wH wD wU fN fL fU) = (0 : Int32)
      · obtain ⟨T45, X45, e45, st45⟩ := getS2 X43 hx hZ hown (host := "") (Or.inl (hw _ (List.mem_of_getElem? (i := 85) rfl))) Via.refl (rfl : T43.heap = T43.heap) (own_staK (Sta.ext E39 S_fL) K43c (allS (own_exaN A39) all0)) (g := (mkF m 86 #[.val (.int p0), .val (.int p1), .val (.int p2), .val (.int (J0_3_S0 p0 p1 p2 wH wD wU fN fL fU)), .val (.int (J0_15_S0 p0 p1 p2 wH wD wU fN fL fU)), .val (.int (J0_28_S0 p0 p1 p2 wH wD wU fN fL fU)), .val (.int (1 : Int32)), .val (.ref b39), .unset, .unset, .unset, .unset, .unset] [])) rfl (hb hby at_86)
        obtain ⟨cq46, kq46, q46a, q46b, q46c⟩ := isOf hZ e45 P43_0
        obtain ⟨_, _, ⟨T46, L46, k46, n46⟩, -, X46, ⟨Lc46, hQ46, ll46, ly46, lz46⟩, st46⟩ := X45.virtualBack hx (y := (⟨"com/example/admission_for_endpoints/admissionforendpoints/MessageReader", "frame", "(Lcom/example/admission_for_endpoints/admissionforendpoints/MessageReader$Framing;J)V"⟩ : MethodName)) (z := (⟨"com/example/admission_for_endpoints/admissionforendpoints/MessageReader", "frame", "(Lcom/example/admission_for_endpoints/admissionforendpoints/MessageReader$Framing;J)V"⟩ : MethodName)) hown (mvT hZ (hw _ (List.mem_of_getElem? (i := 34) rfl))) (mvT hZ (hw _ (List.mem_of_getElem? (i := 35) rfl))) (notFace_of_selects (args := #[]) (mvT hZ (hw _ (List.mem_of_getElem? (i := 37) rfl)))) (mvT hZ (hw _ (List.mem_of_getElem? (i := 37) rfl))) (mvT hZ (hw _ (List.mem_of_getElem? (i := 36) rfl))) (by decide) (backOf (W := 0) (rm4o1 l Z a0 hw [] b39 fL wH ab43 p0 (0 : Int32) (0 : Int32) (0 : Int32) (0 : Int32) (0 : Int64) kb43 wD wU T43.heap n0 (Nat.le_trans (Nat.le_trans Z0 E39.1) K43c.1) P43_0 P43_1 P43_2 P43_3 P43_4 P43_5 P43_6 P43_7 P43_8 P43_9 (own_staK (Sta.ext E39 S_wD) K43c (allS (own_exaN A39) all0)) (own_staK (Sta.ext E39 S_wU) K43c (allS (own_exaN A39) all0)) (Exa.keep (Exa.ext E39 E_fL) K43c) ((Fld.ext E39 O_fL).keep K43c (ninS ne41 nin0)) g_b39 P43_10 ne41) hZ (hw _ (List.mem_of_getElem? (i := 38) rfl)) (hw _ (List.mem_of_getElem? (i := 3) rfl)) (by decide) (by decide)) q46a q46c (g := (mkF m 104 #[.val (.int p0), .val (.int p1), .val (.int p2), .val (.int (J0_3_S0 p0 p1 p2 wH wD wU fN fL fU)), .val (.int (J0_15_S0 p0 p1 p2 wH wD wU fN fL fU)), .val (.int (J0_28_S0 p0 p1 p2 wH wD wU fN fL fU)), .val (.int (1 : Int32)), .val (.ref b39), .val (.ref fL), .unset, .unset, .unset, .unset] [(.long (0 : Int64)), (.ref fL), (.ref b39)])) rfl (by rw [hml]; rfl) (Steps.refl _) (argsL := [(.ref fL), (.long (0 : Int64))]) (rest := []) (lenOf pd__Lcom_example_admission_for_endpoints_admissionforendpoints_MessageReader_Framing_J_V rfl) rfl (by show 2 * 0 + _ ≤ _; exact Nat.le_of_eq rfl) (hb hby at_104) (fun _ _ => ⟨rfl, e45, (by decide : 3 + 0 ≤ _), (by decide : 267 + 0 ≤ _)⟩)
        dsimp only [Pt.U, Pt.locs, Pt.cells, Pt.slots] at X46 ll46 ly46 lz46 st46 hQ46
        subst ll46 ly46 lz46
        obtain ⟨rfl, N46q, K46c, P46_0, P46_1, P46_2, P46_3, P46_4, P46_5, P46_6, P46_7⟩ := hQ46
        have N46 := Fr.app N43 N46q
        have K46 : Keep h0 T46.heap [] := K43.trans K46c (allS (Or.inr sz_b39) all0)
        obtain ⟨cq47, kq47, q47a, q47b, q47c⟩ := isOf hZ (rfl : T46.heap = T46.heap) P46_0
        obtain ⟨_, _, ⟨T47, L47, k47, n47⟩, -, X47, ⟨Lc47, hQ47, ll47, ly47, lz47⟩, st47⟩ := X46.virtualBack hx (y := (⟨"com/example/admission_for_endpoints/admissionforendpoints/MessageReader", "ended", "()Z"⟩ : MethodName)) (z := (⟨"com/example/admission_for_endpoints/admissionforendpoints/MessageReader", "ended", "()Z"⟩ : MethodName)) hown (mvT hZ (hw _ (List.mem_of_getElem? (i := 57) rfl))) (mvT hZ (hw _ (List.mem_of_getElem? (i := 58) rfl))) (notFace_of_selects (args := #[]) (mvT hZ (hw _ (List.mem_of_getElem? (i := 60) rfl)))) (mvT hZ (hw _ (List.mem_of_getElem? (i := 60) rfl))) (mvT hZ (hw _ (List.mem_of_getElem? (i := 59) rfl))) (by decide) (backOf (W := 0) (rm7d l Z a0 hw [] b39 wD T46.heap n0 (Nat.le_trans (Nat.le_trans (Nat.le_trans Z0 E39.1) K43c.1) K46c.1) P46_1 (own_staK (own_staK (Sta.ext E39 S_wD) K43c (allS (own_exaN A39) all0)) K46c (allS (own_exaN P43_0) all0))) hZ (hw _ (List.mem_of_getElem? (i := 61) rfl)) (hw _ (List.mem_of_getElem? (i := 3) rfl)) (by decide) (by decide)) q47a q47c (g := (mkF m 109 #[.val (.int p0), .val (.int p1), .val (.int p2), .val (.int (J0_3_S0 p0 p1 p2 wH wD wU fN fL fU)), .val (.int (J0_15_S0 p0 p1 p2 wH wD wU fN fL fU)), .val (.int (J0_28_S0 p0 p1 p2 wH wD wU fN fL fU)), .val (.int (1 : Int32)), .val (.ref b39), .val (.ref fL), .unset, .unset, .unset, .unset] [(.ref b39)])) rfl (by rw [hml]; rfl) (Steps.refl _) (argsL := []) (rest := []) (lenOf pd___Z rfl) rfl (by show 2 * 0 + _ ≤ _; exact Nat.le_of_eq rfl) (hb hby at_109) (fun _ _ => ⟨rfl, (rfl : T46.heap = T46.heap), (by decide : 3 + 0 ≤ _), (by decide : 267 + 0 ≤ _)⟩)
        dsimp only [Pt.U, Pt.locs, Pt.cells, Pt.slots] at X47 ll47 ly47 lz47 st47 hQ47
        subst ll47 ly47 lz47
        obtain ⟨rfl, N47q, e47⟩ := hQ47
        have N47 := Fr.app N46 N47q
        obtain ⟨cq48, kq48, q48a, q48b, q48c⟩ := isOf hZ e47 P46_0
        obtain ⟨_, _, ⟨T48, L48, k48, n48⟩, -, X48, ⟨Lc48, hQ48, ll48, ly48, lz48⟩, st48⟩ := X47.virtualBack hx (y := (⟨"com/example/admission_for_endpoints/admissionforendpoints/MessageReader", "end", "()Z"⟩ : MethodName)) (z := (⟨"com/example/admission_for_endpoints/admissionforendpoints/MessageReader", "end", "()Z"⟩ : MethodName)) hown (mvT hZ (hw _ (List.mem_of_getElem? (i := 64) rfl))) (mvT hZ (hw _ (List.mem_of_getElem? (i := 65) rfl))) (notFace_of_selects (args := #[]) (mvT hZ (hw _ (List.mem_of_getElem? (i := 67) rfl)))) (mvT hZ (hw _ (List.mem_of_getElem? (i := 67) rfl))) (mvT hZ (hw _ (List.mem_of_getElem? (i := 66) rfl))) (by decide) (backOf (W := 0) (rm8d l Z a0 hw [] b39 wD wU T46.heap n0 (Nat.le_trans (Nat.le_trans (Nat.le_trans Z0 E39.1) K43c.1) K46c.1) P46_1 (own_staK (own_staK (Sta.ext E39 S_wD) K43c (allS (own_exaN A39) all0)) K46c (allS (own_exaN P43_0) all0)) (own_staK (own_staK (Sta.ext E39 S_wU) K43c (allS (own_exaN A39) all0)) K46c (allS (own_exaN P43_0) all0)) ne_UD) hZ (hw _ (List.mem_of_getElem? (i := 68) rfl)) (hw _ (List.mem_of_getElem? (i := 3) rfl)) (by decide) (by decide)) q48a q48c (g := (mkF m 129 #[.val (.int p0), .val (.int p1), .val (.int p2), .val (.int (J0_3_S0 p0 p1 p2 wH wD wU fN fL fU)), .val (.int (J0_15_S0 p0 p1 p2 wH wD wU fN fL fU)), .val (.int (J0_28_S0 p0 p1 p2 wH wD wU fN fL fU)), .val (.int (1 : Int32)), .val (.ref b39), .val (.ref fL), .val (.int (1 : Int32)), .val (.int (1 : Int32)), .unset, .unset] [(.ref b39)])) rfl (by rw [hml]; rfl) (Steps.refl _) (argsL := []) (rest := []) (lenOf pd___Z rfl) rfl (by show 2 * 0 + _ ≤ _; exact Nat.le_of_eq rfl) (hb hby at_129) (fun _ _ => ⟨rfl, e47, (by decide : 3 + 0 ≤ _), (by decide : 267 + 0 ≤ _)⟩)
        dsimp only [Pt.U, Pt.locs, Pt.cells, Pt.slots] at X48 ll48 ly48 lz48 st48 hQ48
        subst ll48 ly48 lz48
        obtain ⟨rfl, N48q, e48⟩ := hQ48
        have N48 := Fr.app N47 N48q
        obtain ⟨cq49, kq49, q49a, q49b, q49c⟩ := isOf hZ e48 P46_0
        obtain ⟨_, _, ⟨T49, L49, k49, n49⟩, -, X49, ⟨Lc49, hQ49, ll49, ly49, lz49⟩, st49⟩ := X48.virtualBack hx (y := (⟨"com/example/admission_for_endpoints/admissionforendpoints/MessageReader", "ended", "()Z"⟩ : MethodName)) (z := (⟨"com/example/admission_for_endpoints/admissionforendpoints/MessageReader", "ended", "()Z"⟩ : MethodName)) hown (mvT hZ (hw _ (List.mem_of_getElem? (i := 57) rfl))) (mvT hZ (hw _ (List.mem_of_getElem? (i := 58) rfl))) (notFace_of_selects (args := #[]) (mvT hZ (hw _ (List.mem_of_getElem? (i := 60) rfl)))) (mvT hZ (hw _ (List.mem_of_getElem? (i := 60) rfl))) (mvT hZ (hw _ (List.mem_of_getElem? (i := 59) rfl))) (by decide) (backOf (W := 0) (rm7d l Z a0 hw [] b39 wD T46.heap n0 (Nat.le_trans (Nat.le_trans (Nat.le_trans Z0 E39.1) K43c.1) K46c.1) P46_1 (own_staK (own_staK (Sta.ext E39 S_wD) K43c (allS (own_exaN A39) all0)) K46c (allS (own_exaN P43_0) all0))) hZ (hw _ (List.mem_of_getElem? (i := 61) rfl)) (hw _ (List.mem_of_getElem? (i := 3) rfl)) (by decide) (by decide)) q49a q49c (g := (mkF m 148 #[.val (.int p0), .val (.int p1), .val (.int p2), .val (.int (J0_3_S0 p0 p1 p2 wH wD wU fN fL fU)), .val (.int (J0_15_S0 p0 p1 p2 wH wD wU fN fL fU)), .val (.int (J0_28_S0 p0 p1 p2 wH wD wU fN fL fU)), .val (.int (1 : Int32)), .val (.ref b39), .val (.ref fL), .val (.int (1 : Int32)), .val (.int (1 : Int32)), .val (.int (1 : Int32)), .unset] [(.ref b39)])) rfl (by rw [hml]; rfl) (Steps.refl _) (argsL := []) (rest := []) (lenOf pd___Z rfl) rfl (by show 2 * 0 + _ ≤ _; exact Nat.le_of_eq rfl) (hb hby at_148) (fun _ _ => ⟨rfl, e48, (by decide : 3 + 0 ≤ _), (by decide : 267 + 0 ≤ _)⟩)
        dsimp only [Pt.U, Pt.locs, Pt.cells, Pt.slots] at X49 ll49 ly49 lz49 st49 hQ49
        subst ll49 ly49 lz49
        obtain ⟨rfl, N49q, e49⟩ := hQ49
        have N49 := Fr.app N48 N49q
        obtain ⟨cq50, kq50, q50a, q50b, q50c⟩ := isOf hZ e49 P46_0
        obtain ⟨_, _, ⟨T50, L50, k50, n50⟩, -, X50, ⟨Lc50, hQ50, ll50, ly50, lz50⟩, st50⟩ := X49.virtualBack hx (y := (⟨"com/example/admission_for_endpoints/admissionforendpoints/MessageReader", "truncated", "()Z"⟩ : MethodName)) (z := (⟨"com/example/admission_for_endpoints/admissionforendpoints/MessageReader", "truncated", "()Z"⟩ : MethodName)) hown (mvT hZ (hw _ (List.mem_of_getElem? (i := 69) rfl))) (mvT hZ (hw _ (List.mem_of_getElem? (i := 70) rfl))) (notFace_of_selects (args := #[]) (mvT hZ (hw _ (List.mem_of_getElem? (i := 72) rfl)))) (mvT hZ (hw _ (List.mem_of_getElem? (i := 72) rfl))) (mvT hZ (hw _ (List.mem_of_getElem? (i := 71) rfl))) (by decide) (backOf (W := 0) (rm9 l Z a0 hw [] b39 T46.heap n0 (Nat.le_trans (Nat.le_trans (Nat.le_trans Z0 E39.1) K43c.1) K46c.1) P46_5) hZ (hw _ (List.mem_of_getElem? (i := 73) rfl)) (hw _ (List.mem_of_getElem? (i := 3) rfl)) (by decide) (by decide)) q50a q50c (g := (mkF m 156 #[.val (.int p0), .val (.int p1), .val (.int p2), .val (.int (J0_3_S0 p0 p1 p2 wH wD wU fN fL fU)), .val (.int (J0_15_S0 p0 p1 p2 wH wD wU fN fL fU)), .val (.int (J0_28_S0 p0 p1 p2 wH wD wU fN fL fU)), .val (.int (1 : Int32)), .val (.ref b39), .val (.ref fL), .val (.int (1 : Int32)), .val (.int (1 : Int32)), .val (.int (1 : Int32)), .unset] [(.ref b39)])) rfl (by rw [hml]; rfl) (Steps.refl _) (argsL := []) (rest := []) (lenOf pd___Z rfl) rfl (by show 2 * 0 + _ ≤ _; exact Nat.le_of_eq rfl) (hb hby at_156) (fun _ _ => ⟨rfl, e49, (by decide : 3 + 0 ≤ _), (by decide : 267 + 0 ≤ _)⟩)
        dsimp only [Pt.U, Pt.locs, Pt.cells, Pt.slots] at X50 ll50 ly50 lz50 st50 hQ50
        subst ll50 ly50 lz50
        obtain ⟨rfl, N50q, e50⟩ := hQ50
        have N50 := Fr.app N49 N50q
        obtain ⟨cq51, kq51, q51a, q51b, q51c⟩ := isOf hZ e50 P46_0
        obtain ⟨_, _, ⟨T51, L51, k51, n51⟩, -, X51, ⟨Lc51, hQ51, ll51, ly51, lz51⟩, st51⟩ := X50.virtualBack hx (y := (⟨"com/example/admission_for_endpoints/admissionforendpoints/MessageReader", "bodyBytes", "()I"⟩ : MethodName)) (z := (⟨"com/example/admission_for_endpoints/admissionforendpoints/MessageReader", "bodyBytes", "()I"⟩ : MethodName)) hown (mvT hZ (hw _ (List.mem_of_getElem? (i := 76) rfl))) (mvT hZ (hw _ (List.mem_of_getElem? (i := 77) rfl))) (notFace_of_selects (args := #[]) (mvT hZ (hw _ (List.mem_of_getElem? (i := 79) rfl)))) (mvT hZ (hw _ (List.mem_of_getElem? (i := 79) rfl))) (mvT hZ (hw _ (List.mem_of_getElem? (i := 78) rfl))) (by decide) (backOf (W := 0) (rm10 l Z a0 hw [] b39 T46.heap n0 (Nat.le_trans (Nat.le_trans (Nat.le_trans Z0 E39.1) K43c.1) K46c.1) P46_6) hZ (hw _ (List.mem_of_getElem? (i := 80) rfl)) (hw _ (List.mem_of_getElem? (i := 3) rfl)) (by decide) (by decide)) q51a q51c (g := (mkF m 164 #[.val (.int p0), .val (.int p1), .val (.int p2), .val (.int (J0_3_S0 p0 p1 p2 wH wD wU fN fL fU)), .val (.int (J0_15_S0 p0 p1 p2 wH wD wU fN fL fU)), .val (.int (J0_28_S0 p0 p1 p2 wH wD wU fN fL fU)), .val (.int (1 : Int32)), .val (.ref b39), .val (.ref fL), .val (.int (1 : Int32)), .val (.int (1 : Int32)), .val (.int (1 : Int32)), .unset] [(.ref b39)])) rfl (by rw [hml]; rfl) (Steps.refl _) (argsL := []) (rest := []) (lenOf pd___I rfl) rfl (by show 2 * 0 + _ ≤ _; exact Nat.le_of_eq rfl) (hb hby at_164) (fun _ _ => ⟨rfl, e50, (by decide : 3 + 0 ≤ _), (by decide : 267 + 0 ≤ _)⟩)
        dsimp only [Pt.U, Pt.locs, Pt.cells, Pt.slots] at X51 ll51 ly51 lz51 st51 hQ51
        subst ll51 ly51 lz51
        obtain ⟨rfl, N51q, e51⟩ := hQ51
        have N51 := Fr.app N50 N51q
        have pre52 : ∀ t, Steps p.tables e below (T51.setTop (mkF m 179 #[.val (.int p0), .val (.int p1), .val (.int p2), .val (.int (J0_3_S0 p0 p1 p2 wH wD wU fN fL fU)), .val (.int (J0_15_S0 p0 p1 p2 wH wD wU fN fL fU)), .val (.int (J0_28_S0 p0 p1 p2 wH wD wU fN fL fU)), .val (.int (1 : Int32)), .val (.ref b39), .val (.ref fL), .val (.int (1 : Int32)), .val (.int (1 : Int32)), .val (.int (1 : Int32)), .val (.int (1 : Int32))] [(.int (J0_28_S0 p0 p1 p2 wH wD wU fN fL fU))])) t → Steps p.tables e below (s₁.setTop (entryFrame m #[(.int p0), (.int p1), (.int p2)] maxLocals)) t := fun t kt => pre44 t (by
          show Steps p.tables e below (T43.setTop (mkF m 59 #[.val (.int p0), .val (.int p1), .val (.int p2), .val (.int (J0_3_S0 p0 p1 p2 wH wD wU fN fL fU)), .val (.int (J0_15_S0 p0 p1 p2 wH wD wU fN fL fU)), .val (.int (J0_28_S0 p0 p1 p2 wH wD wU fN fL fU)), .val (.int (1 : Int32)), .val (.ref b39), .unset, .unset, .unset, .unset, .unset] [(.int (J0_15_S0 p0 p1 p2 wH wD wU fN fL fU))])) _
          refine XS.ifYes X43.here hx rfl (pc0 := 59) (pc' := 67) rfl (hb hby at_59) rfl ((if0 _ _).trans (teq hc59).1) (by decide) (by decide) ?_
          show Steps p.tables e below (T43.setTop (mkF m 67 #[.val (.int p0), .val (.int p1), .val (.int p2), .val (.int (J0_3_S0 p0 p1 p2 wH wD wU fN fL fU)), .val (.int (J0_15_S0 p0 p1 p2 wH wD wU fN fL fU)), .val (.int (J0_28_S0 p0 p1 p2 wH wD wU fN fL fU)), .val (.int (1 : Int32)), .val (.ref b39), .unset, .unset, .unset, .unset, .unset] [])) _
          refine XS.iload X43.here hx rfl (hb hby at_67) rfl ?_
          show Steps p.tables e below (T43.setTop (mkF m 69 #[.val (.int p0), .val (.int p1), .val (.int p2), .val (.int (J0_3_S0 p0 p1 p2 wH wD wU fN fL fU)), .val (.int (J0_15_S0 p0 p1 p2 wH wD wU fN fL fU)), .val (.int (J0_28_S0 p0 p1 p2 wH wD wU fN fL fU)), .val (.int (1 : Int32)), .val (.ref b39), .unset, .unset, .unset, .unset, .unset] [(.int (1 : Int32))])) _
          refine XS.ifYes X43.here hx rfl (pc0 := 69) (pc' := 80) rfl (hb hby at_69) rfl ((if0 _ _).trans (feq (by decide : ¬ ((1 : Int32) = (0 : Int32)))).2) (by decide) (by decide) ?_
          show Steps p.tables e below (T43.setTop (mkF m 80 #[.val (.int p0), .val (.int p1), .val (.int p2), .val (.int (J0_3_S0 p0 p1 p2 wH wD wU fN fL fU)), .val (.int (J0_15_S0 p0 p1 p2 wH wD wU fN fL fU)), .val (.int (J0_28_S0 p0 p1 p2 wH wD wU fN fL fU)), .val (.int (1 : Int32)), .val (.ref b39), .unset, .unset, .unset, .unset, .unset] [])) _
          refine XS.iload X43.here hx rfl (hb hby at_80) rfl ?_
          show Steps p.tables e below (T43.setTop (mkF m 82 #[.val (.int p0), .val (.int p1), .val (.int p2), .val (.int (J0_3_S0 p0 p1 p2 wH wD wU fN fL fU)), .val (.int (J0_15_S0 p0 p1 p2 wH wD wU fN fL fU)), .val (.int (J0_28_S0 p0 p1 p2 wH wD wU fN fL fU)), .val (.int (1 : Int32)), .val (.ref b39), .unset, .unset, .unset, .unset, .unset] [(.int (1 : Int32))])) _
          refine XS.iconst X43.here hx rfl (hb hby at_82) ?_
          show Steps p.tables e below (T43.setTop (mkF m 83 #[.val (.int p0), .val (.int p1), .val (.int p2), .val (.int (J0_3_S0 p0 p1 p2 wH wD wU fN fL fU)), .val (.int (J0_15_S0 p0 p1 p2 wH wD wU fN fL fU)), .val (.int (J0_28_S0 p0 p1 p2 wH wD wU fN fL fU)), .val (.int (1 : Int32)), .val (.ref b39), .unset, .unset, .unset, .unset, .unset] [(.int (1 : Int32)), (.int (1 : Int32))])) _
          refine XS.icmpNo X43.here hx rfl (hb hby at_83) rfl (teq (by decide : (1 : Int32) = (1 : Int32))).2 ?_
          show Steps p.tables e below (T43.setTop (mkF m 86 #[.val (.int p0), .val (.int p1), .val (.int p2), .val (.int (J0_3_S0 p0 p1 p2 wH wD wU fN fL fU)), .val (.int (J0_15_S0 p0 p1 p2 wH wD wU fN fL fU)), .val (.int (J0_28_S0 p0 p1 p2 wH wD wU fN fL fU)), .val (.int (1 : Int32)), .val (.ref b39), .unset, .unset, .unset, .unset, .unset] [])) _
          refine st45 _ ?_
          show Steps p.tables e below (T45.setTop (mkF m 89 #[.val (.int p0), .val (.int p1), .val (.int p2), .val (.int (J0_3_S0 p0 p1 p2 wH wD wU fN fL fU)), .val (.int (J0_15_S0 p0 p1 p2 wH wD wU fN fL fU)), .val (.int (J0_28_S0 p0 p1 p2 wH wD wU fN fL fU)), .val (.int (1 : Int32)), .val (.ref b39), .unset, .unset, .unset, .unset, .unset] [(.ref fL)])) _
          refine XS.astore X45.here hx rfl (hb hby at_89) rfl rfl (l' := #[.val (.int p0), .val (.int p1), .val (.int p2), .val (.int (J0_3_S0 p0 p1 p2 wH wD wU fN fL fU)), .val (.int (J0_15_S0 p0 p1 p2 wH wD wU fN fL fU)), .val (.int (J0_28_S0 p0 p1 p2 wH wD wU fN fL fU)), .val (.int (1 : Int32)), .val (.ref b39), .val (.ref fL), .unset, .unset, .unset, .unset]) rfl ?_
          show Steps p.tables e below (T45.setTop (mkF m 91 #[.val (.int p0), .val (.int p1), .val (.int p2), .val (.int (J0_3_S0 p0 p1 p2 wH wD wU fN fL fU)), .val (.int (J0_15_S0 p0 p1 p2 wH wD wU fN fL fU)), .val (.int (J0_28_S0 p0 p1 p2 wH wD wU fN fL fU)), .val (.int (1 : Int32)), .val (.ref b39), .val (.ref fL), .unset, .unset, .unset, .unset] [])) _
          refine XS.goto X45.here hx rfl (pc0 := 91) (pc' := 99) rfl (hb hby at_91) (by decide) (by decide) ?_
          show Steps p.tables e below (T45.setTop (mkF m 99 #[.val (.int p0), .val (.int p1), .val (.int p2), .val (.int (J0_3_S0 p0 p1 p2 wH wD wU fN fL fU)), .val (.int (J0_15_S0 p0 p1 p2 wH wD wU fN fL fU)), .val (.int (J0_28_S0 p0 p1 p2 wH wD wU fN fL fU)), .val (.int (1 : Int32)), .val (.ref b39), .val (.ref fL), .unset, .unset, .unset, .unset] [])) _
          refine XS.aload X45.here hx rfl (hb hby at_99) rfl rfl ?_
          show Steps p.tables e below (T45.setTop (mkF m 101 #[.val (.int p0), .val (.int p1), .val (.int p2), .val (.int (J0_3_S0 p0 p1 p2 wH wD wU fN fL fU)), .val (.int (J0_15_S0 p0 p1 p2 wH wD wU fN fL fU)), .val (.int (J0_28_S0 p0 p1 p2 wH wD wU fN fL fU)), .val (.int (1 : Int32)), .val (.ref b39), .val (.ref fL), .unset, .unset, .unset, .unset] [(.ref b39)])) _
          refine XS.aload X45.here hx rfl (hb hby at_101) rfl rfl ?_
          show Steps p.tables e below (T45.setTop (mkF m 103 #[.val (.int p0), .val (.int p1), .val (.int p2), .val (.int (J0_3_S0 p0 p1 p2 wH wD wU fN fL fU)), .val (.int (J0_15_S0 p0 p1 p2 wH wD wU fN fL fU)), .val (.int (J0_28_S0 p0 p1 p2 wH wD wU fN fL fU)), .val (.int (1 : Int32)), .val (.ref b39), .val (.ref fL), .unset, .unset, .unset, .unset] [(.ref fL), (.ref b39)])) _
          refine XS.lconst X45.here hx rfl (hb hby at_103) ?_
          show Steps p.tables e below (T45.setTop (mkF m 104 #[.val (.int p0), .val (.int p1), .val (.int p2), .val (.int (J0_3_S0 p0 p1 p2 wH wD wU fN fL fU)), .val (.int (J0_15_S0 p0 p1 p2 wH wD wU fN fL fU)), .val (.int (J0_28_S0 p0 p1 p2 wH wD wU fN fL fU)), .val (.int (1 : Int32)), .val (.ref b39), .val (.ref fL), .unset, .unset, .unset, .unset] [(.long (0 : Int64)), (.ref fL), (.ref b39)])) _
          refine st46.trans ?_
          show Steps p.tables e below (T46.setTop (mkF m 107 #[.val (.int p0), .val (.int p1), .val (.int p2), .val (.int (J0_3_S0 p0 p1 p2 wH wD wU fN fL fU)), .val (.int (J0_15_S0 p0 p1 p2 wH wD wU fN fL fU)), .val (.int (J0_28_S0 p0 p1 p2 wH wD wU fN fL fU)), .val (.int (1 : Int32)), .val (.ref b39), .val (.ref fL), .unset, .unset, .unset, .unset] [])) _
          refine XS.aload X46.here hx rfl (hb hby at_107) rfl rfl ?_
          show Steps p.tables e below (T46.setTop (mkF m 109 #[.val (.int p0), .val (.int p1), .val (.int p2), .val (.int (J0_3_S0 p0 p1 p2 wH wD wU fN fL fU)), .val (.int (J0_15_S0 p0 p1 p2 wH wD wU fN fL fU)), .val (.int (J0_28_S0 p0 p1 p2 wH wD wU fN fL fU)), .val (.int (1 : Int32)), .val (.ref b39), .val (.ref fL), .unset, .unset, .unset, .unset] [(.ref b39)])) _
          refine st47.trans ?_
          show Steps p.tables e below (T47.setTop (mkF m 112 #[.val (.int p0), .val (.int p1), .val (.int p2), .val (.int (J0_3_S0 p0 p1 p2 wH wD wU fN fL fU)), .val (.int (J0_15_S0 p0 p1 p2 wH wD wU fN fL fU)), .val (.int (J0_28_S0 p0 p1 p2 wH wD wU fN fL fU)), .val (.int (1 : Int32)), .val (.ref b39), .val (.ref fL), .unset, .unset, .unset, .unset] [(.int (1 : Int32))])) _
          refine XS.istore X47.here hx rfl (hb hby at_112) rfl (l' := #[.val (.int p0), .val (.int p1), .val (.int p2), .val (.int (J0_3_S0 p0 p1 p2 wH wD wU fN fL fU)), .val (.int (J0_15_S0 p0 p1 p2 wH wD wU fN fL fU)), .val (.int (J0_28_S0 p0 p1 p2 wH wD wU fN fL fU)), .val (.int (1 : Int32)), .val (.ref b39), .val (.ref fL), .val (.int (1 : Int32)), .unset, .unset, .unset]) rfl ?_
          show Steps p.tables e below (T47.setTop (mkF m 114 #[.val (.int p0), .val (.int p1), .val (.int p2), .val (.int (J0_3_S0 p0 p1 p2 wH wD wU fN fL fU)), .val (.int (J0_15_S0 p0 p1 p2 wH wD wU fN fL fU)), .val (.int (J0_28_S0 p0 p1 p2 wH wD wU fN fL fU)), .val (.int (1 : Int32)), .val (.ref b39), .val (.ref fL), .val (.int (1 : Int32)), .unset, .unset, .unset] [])) _
          refine XS.iload X47.here hx rfl (hb hby at_114) rfl ?_
          show Steps p.tables e below (T47.setTop (mkF m 116 #[.val (.int p0), .val (.int p1), .val (.int p2), .val (.int (J0_3_S0 p0 p1 p2 wH wD wU fN fL fU)), .val (.int (J0_15_S0 p0 p1 p2 wH wD wU fN fL fU)), .val (.int (J0_28_S0 p0 p1 p2 wH wD wU fN fL fU)), .val (.int (1 : Int32)), .val (.ref b39), .val (.ref fL), .val (.int (1 : Int32)), .unset, .unset, .unset] [(.int (1 : Int32))])) _
          refine XS.iconst X47.here hx rfl (hb hby at_116) ?_
          show Steps p.tables e below (T47.setTop (mkF m 117 #[.val (.int p0), .val (.int p1), .val (.int p2), .val (.int (J0_3_S0 p0 p1 p2 wH wD wU fN fL fU)), .val (.int (J0_15_S0 p0 p1 p2 wH wD wU fN fL fU)), .val (.int (J0_28_S0 p0 p1 p2 wH wD wU fN fL fU)), .val (.int (1 : Int32)), .val (.ref b39), .val (.ref fL), .val (.int (1 : Int32)), .unset, .unset, .unset] [(.int (2 : Int32)), (.int (1 : Int32))])) _
          refine XS.icmpNo X47.here hx rfl (hb hby at_117) rfl (feq (by decide : ¬ ((1 : Int32) = (2 : Int32)))).1 ?_
          show Steps p.tables e below (T47.setTop (mkF m 120 #[.val (.int p0), .val (.int p1), .val (.int p2), .val (.int (J0_3_S0 p0 p1 p2 wH wD wU fN fL fU)), .val (.int (J0_15_S0 p0 p1 p2 wH wD wU fN fL fU)), .val (.int (J0_28_S0 p0 p1 p2 wH wD wU fN fL fU)), .val (.int (1 : Int32)), .val (.ref b39), .val (.ref fL), .val (.int (1 : Int32)), .unset, .unset, .unset] [])) _
          refine XS.iconst X47.here hx rfl (hb hby at_120) ?_
          show Steps p.tables e below (T47.setTop (mkF m 121 #[.val (.int p0), .val (.int p1), .val (.int p2), .val (.int (J0_3_S0 p0 p1 p2 wH wD wU fN fL fU)), .val (.int (J0_15_S0 p0 p1 p2 wH wD wU fN fL fU)), .val (.int (J0_28_S0 p0 p1 p2 wH wD wU fN fL fU)), .val (.int (1 : Int32)), .val (.ref b39), .val (.ref fL), .val (.int (1 : Int32)), .unset, .unset, .unset] [(.int (1 : Int32))])) _
          refine XS.goto X47.here hx rfl (pc0 := 121) (pc' := 125) rfl (hb hby at_121) (by decide) (by decide) ?_
          show Steps p.tables e below (T47.setTop (mkF m 125 #[.val (.int p0), .val (.int p1), .val (.int p2), .val (.int (J0_3_S0 p0 p1 p2 wH wD wU fN fL fU)), .val (.int (J0_15_S0 p0 p1 p2 wH wD wU fN fL fU)), .val (.int (J0_28_S0 p0 p1 p2 wH wD wU fN fL fU)), .val (.int (1 : Int32)), .val (.ref b39), .val (.ref fL), .val (.int (1 : Int32)), .unset, .unset, .unset] [(.int (1 : Int32))])) _
          refine XS.istore X47.here hx rfl (hb hby at_125) rfl (l' := #[.val (.int p0), .val (.int p1), .val (.int p2), .val (.int (J0_3_S0 p0 p1 p2 wH wD wU fN fL fU)), .val (.int (J0_15_S0 p0 p1 p2 wH wD wU fN fL fU)), .val (.int (J0_28_S0 p0 p1 p2 wH wD wU fN fL fU)), .val (.int (1 : Int32)), .val (.ref b39), .val (.ref fL), .val (.int (1 : Int32)), .val (.int (1 : Int32)), .unset, .unset]) rfl ?_
          show Steps p.tables e below (T47.setTop (mkF m 127 #[.val (.int p0), .val (.int p1), .val (.int p2), .val (.int (J0_3_S0 p0 p1 p2 wH wD wU fN fL fU)), .val (.int (J0_15_S0 p0 p1 p2 wH wD wU fN fL fU)), .val (.int (J0_28_S0 p0 p1 p2 wH wD wU fN fL fU)), .val (.int (1 : Int32)), .val (.ref b39), .val (.ref fL), .val (.int (1 : Int32)), .val (.int (1 : Int32)), .unset, .unset] [])) _
          refine XS.aload X47.here hx rfl (hb hby at_127) rfl rfl ?_
          show Steps p.tables e below (T47.setTop (mkF m 129 #[.val (.int p0), .val (.int p1), .val (.int p2), .val (.int (J0_3_S0 p0 p1 p2 wH wD wU fN fL fU)), .val (.int (J0_15_S0 p0 p1 p2 wH wD wU fN fL fU)), .val (.int (J0_28_S0 p0 p1 p2 wH wD wU fN fL fU)), .val (.int (1 : Int32)), .val (.ref b39), .val (.ref fL), .val (.int (1 : Int32)), .val (.int (1 : Int32)), .unset, .unset] [(.ref b39)])) _
          refine st48.trans ?_
          show Steps p.tables e below (T48.setTop (mkF m 132 #[.val (.int p0), .val (.int p1), .val (.int p2), .val (.int (J0_3_S0 p0 p1 p2 wH wD wU fN fL fU)), .val (.int (J0_15_S0 p0 p1 p2 wH wD wU fN fL fU)), .val (.int (J0_28_S0 p0 p1 p2 wH wD wU fN fL fU)), .val (.int (1 : Int32)), .val (.ref b39), .val (.ref fL), .val (.int (1 : Int32)), .val (.int (1 : Int32)), .unset, .unset] [(.int (1 : Int32))])) _
          refine XS.istore X48.here hx rfl (hb hby at_132) rfl (l' := #[.val (.int p0), .val (.int p1), .val (.int p2), .val (.int (J0_3_S0 p0 p1 p2 wH wD wU fN fL fU)), .val (.int (J0_15_S0 p0 p1 p2 wH wD wU fN fL fU)), .val (.int (J0_28_S0 p0 p1 p2 wH wD wU fN fL fU)), .val (.int (1 : Int32)), .val (.ref b39), .val (.ref fL), .val (.int (1 : Int32)), .val (.int (1 : Int32)), .val (.int (1 : Int32)), .unset]) rfl ?_
          show Steps p.tables e below (T48.setTop (mkF m 134 #[.val (.int p0), .val (.int p1), .val (.int p2), .val (.int (J0_3_S0 p0 p1 p2 wH wD wU fN fL fU)), .val (.int (J0_15_S0 p0 p1 p2 wH wD wU fN fL fU)), .val (.int (J0_28_S0 p0 p1 p2 wH wD wU fN fL fU)), .val (.int (1 : Int32)), .val (.ref b39), .val (.ref fL), .val (.int (1 : Int32)), .val (.int (1 : Int32)), .val (.int (1 : Int32)), .unset] [])) _
          refine XS.iload X48.here hx rfl (hb hby at_134) rfl ?_
          show Steps p.tables e below (T48.setTop (mkF m 136 #[.val (.int p0), .val (.int p1), .val (.int p2), .val (.int (J0_3_S0 p0 p1 p2 wH wD wU fN fL fU)), .val (.int (J0_15_S0 p0 p1 p2 wH wD wU fN fL fU)), .val (.int (J0_28_S0 p0 p1 p2 wH wD wU fN fL fU)), .val (.int (1 : Int32)), .val (.ref b39), .val (.ref fL), .val (.int (1 : Int32)), .val (.int (1 : Int32)), .val (.int (1 : Int32)), .unset] [(.int (1 : Int32))])) _
          refine XS.iload X48.here hx rfl (hb hby at_136) rfl ?_
          show Steps p.tables e below (T48.setTop (mkF m 138 #[.val (.int p0), .val (.int p1), .val (.int p2), .val (.int (J0_3_S0 p0 p1 p2 wH wD wU fN fL fU)), .val (.int (J0_15_S0 p0 p1 p2 wH wD wU fN fL fU)), .val (.int (J0_28_S0 p0 p1 p2 wH wD wU fN fL fU)), .val (.int (1 : Int32)), .val (.ref b39), .val (.ref fL), .val (.int (1 : Int32)), .val (.int (1 : Int32)), .val (.int (1 : Int32)), .unset] [(.int (1 : Int32)), (.int (1 : Int32))])) _
          refine XS.icmpNo X48.here hx rfl (hb hby at_138) rfl (teq (by decide : (1 : Int32) = (1 : Int32))).2 ?_
          show Steps p.tables e below (T48.setTop (mkF m 141 #[.val (.int p0), .val (.int p1), .val (.int p2), .val (.int (J0_3_S0 p0 p1 p2 wH wD wU fN fL fU)), .val (.int (J0_15_S0 p0 p1 p2 wH wD wU fN fL fU)), .val (.int (J0_28_S0 p0 p1 p2 wH wD wU fN fL fU)), .val (.int (1 : Int32)), .val (.ref b39), .val (.ref fL), .val (.int (1 : Int32)), .val (.int (1 : Int32)), .val (.int (1 : Int32)), .unset] [])) _
          refine XS.iload X48.here hx rfl (hb hby at_141) rfl ?_
          show Steps p.tables e below (T48.setTop (mkF m 143 #[.val (.int p0), .val (.int p1), .val (.int p2), .val (.int (J0_3_S0 p0 p1 p2 wH wD wU fN fL fU)), .val (.int (J0_15_S0 p0 p1 p2 wH wD wU fN fL fU)), .val (.int (J0_28_S0 p0 p1 p2 wH wD wU fN fL fU)), .val (.int (1 : Int32)), .val (.ref b39), .val (.ref fL), .val (.int (1 : Int32)), .val (.int (1 : Int32)), .val (.int (1 : Int32)), .unset] [(.int (1 : Int32))])) _
          refine XS.ifNo X48.here hx rfl (hb hby at_143) rfl ((if0 _ _).trans (feq (by decide : ¬ ((1 : Int32) = (0 : Int32)))).1) ?_
          show Steps p.tables e below (T48.setTop (mkF m 146 #[.val (.int p0), .val (.int p1), .val (.int p2), .val (.int (J0_3_S0 p0 p1 p2 wH wD wU fN fL fU)), .val (.int (J0_15_S0 p0 p1 p2 wH wD wU fN fL fU)), .val (.int (J0_28_S0 p0 p1 p2 wH wD wU fN fL fU)), .val (.int (1 : Int32)), .val (.ref b39), .val (.ref fL), .val (.int (1 : Int32)), .val (.int (1 : Int32)), .val (.int (1 : Int32)), .unset] [])) _
          refine XS.aload X48.here hx rfl (hb hby at_146) rfl rfl ?_
          show Steps p.tables e below (T48.setTop (mkF m 148 #[.val (.int p0), .val (.int p1), .val (.int p2), .val (.int (J0_3_S0 p0 p1 p2 wH wD wU fN fL fU)), .val (.int (J0_15_S0 p0 p1 p2 wH wD wU fN fL fU)), .val (.int (J0_28_S0 p0 p1 p2 wH wD wU fN fL fU)), .val (.int (1 : Int32)), .val (.ref b39), .val (.ref fL), .val (.int (1 : Int32)), .val (.int (1 : Int32)), .val (.int (1 : Int32)), .unset] [(.ref b39)])) _
          refine st49.trans ?_
          show Steps p.tables e below (T49.setTop (mkF m 151 #[.val (.int p0), .val (.int p1), .val (.int p2), .val (.int (J0_3_S0 p0 p1 p2 wH wD wU fN fL fU)), .val (.int (J0_15_S0 p0 p1 p2 wH wD wU fN fL fU)), .val (.int (J0_28_S0 p0 p1 p2 wH wD wU fN fL fU)), .val (.int (1 : Int32)), .val (.ref b39), .val (.ref fL), .val (.int (1 : Int32)), .val (.int (1 : Int32)), .val (.int (1 : Int32)), .unset] [(.int (1 : Int32))])) _
          refine XS.ifNo X49.here hx rfl (hb hby at_151) rfl ((if0 _ _).trans (feq (by decide : ¬ ((1 : Int32) = (0 : Int32)))).1) ?_
          show Steps p.tables e below (T49.setTop (mkF m 154 #[.val (.int p0), .val (.int p1), .val (.int p2), .val (.int (J0_3_S0 p0 p1 p2 wH wD wU fN fL fU)), .val (.int (J0_15_S0 p0 p1 p2 wH wD wU fN fL fU)), .val (.int (J0_28_S0 p0 p1 p2 wH wD wU fN fL fU)), .val (.int (1 : Int32)), .val (.ref b39), .val (.ref fL), .val (.int (1 : Int32)), .val (.int (1 : Int32)), .val (.int (1 : Int32)), .unset] [])) _
          refine XS.aload X49.here hx rfl (hb hby at_154) rfl rfl ?_
          show Steps p.tables e below (T49.setTop (mkF m 156 #[.val (.int p0), .val (.int p1), .val (.int p2), .val (.int (J0_3_S0 p0 p1 p2 wH wD wU fN fL fU)), .val (.int (J0_15_S0 p0 p1 p2 wH wD wU fN fL fU)), .val (.int (J0_28_S0 p0 p1 p2 wH wD wU fN fL fU)), .val (.int (1 : Int32)), .val (.ref b39), .val (.ref fL), .val (.int (1 : Int32)), .val (.int (1 : Int32)), .val (.int (1 : Int32)), .unset] [(.ref b39)])) _
          refine st50.trans ?_
          show Steps p.tables e below (T50.setTop (mkF m 159 #[.val (.int p0), .val (.int p1), .val (.int p2), .val (.int (J0_3_S0 p0 p1 p2 wH wD wU fN fL fU)), .val (.int (J0_15_S0 p0 p1 p2 wH wD wU fN fL fU)), .val (.int (J0_28_S0 p0 p1 p2 wH wD wU fN fL fU)), .val (.int (1 : Int32)), .val (.ref b39), .val (.ref fL), .val (.int (1 : Int32)), .val (.int (1 : Int32)), .val (.int (1 : Int32)), .unset] [(.int (0 : Int32))])) _
          refine XS.ifNo X50.here hx rfl (hb hby at_159) rfl ((if0 _ _).trans (teq (by decide : (0 : Int32) = (0 : Int32))).2) ?_
          show Steps p.tables e below (T50.setTop (mkF m 162 #[.val (.int p0), .val (.int p1), .val (.int p2), .val (.int (J0_3_S0 p0 p1 p2 wH wD wU fN fL fU)), .val (.int (J0_15_S0 p0 p1 p2 wH wD wU fN fL fU)), .val (.int (J0_28_S0 p0 p1 p2 wH wD wU fN fL fU)), .val (.int (1 : Int32)), .val (.ref b39), .val (.ref fL), .val (.int (1 : Int32)), .val (.int (1 : Int32)), .val (.int (1 : Int32)), .unset] [])) _
          refine XS.aload X50.here hx rfl (hb hby at_162) rfl rfl ?_
          show Steps p.tables e below (T50.setTop (mkF m 164 #[.val (.int p0), .val (.int p1), .val (.int p2), .val (.int (J0_3_S0 p0 p1 p2 wH wD wU fN fL fU)), .val (.int (J0_15_S0 p0 p1 p2 wH wD wU fN fL fU)), .val (.int (J0_28_S0 p0 p1 p2 wH wD wU fN fL fU)), .val (.int (1 : Int32)), .val (.ref b39), .val (.ref fL), .val (.int (1 : Int32)), .val (.int (1 : Int32)), .val (.int (1 : Int32)), .unset] [(.ref b39)])) _
          refine st51.trans ?_
          show Steps p.tables e below (T51.setTop (mkF m 167 #[.val (.int p0), .val (.int p1), .val (.int p2), .val (.int (J0_3_S0 p0 p1 p2 wH wD wU fN fL fU)), .val (.int (J0_15_S0 p0 p1 p2 wH wD wU fN fL fU)), .val (.int (J0_28_S0 p0 p1 p2 wH wD wU fN fL fU)), .val (.int (1 : Int32)), .val (.ref b39), .val (.ref fL), .val (.int (1 : Int32)), .val (.int (1 : Int32)), .val (.int (1 : Int32)), .unset] [(.int (0 : Int32))])) _
          refine XS.ifNo X51.here hx rfl (hb hby at_167) rfl ((if0 _ _).trans (teq (by decide : (0 : Int32) = (0 : Int32))).2) ?_
          show Steps p.tables e below (T51.setTop (mkF m 170 #[.val (.int p0), .val (.int p1), .val (.int p2), .val (.int (J0_3_S0 p0 p1 p2 wH wD wU fN fL fU)), .val (.int (J0_15_S0 p0 p1 p2 wH wD wU fN fL fU)), .val (.int (J0_28_S0 p0 p1 p2 wH wD wU fN fL fU)), .val (.int (1 : Int32)), .val (.ref b39), .val (.ref fL), .val (.int (1 : Int32)), .val (.int (1 : Int32)), .val (.int (1 : Int32)), .unset] [])) _
          refine XS.iconst X51.here hx rfl (hb hby at_170) ?_
          show Steps p.tables e below (T51.setTop (mkF m 171 #[.val (.int p0), .val (.int p1), .val (.int p2), .val (.int (J0_3_S0 p0 p1 p2 wH wD wU fN fL fU)), .val (.int (J0_15_S0 p0 p1 p2 wH wD wU fN fL fU)), .val (.int (J0_28_S0 p0 p1 p2 wH wD wU fN fL fU)), .val (.int (1 : Int32)), .val (.ref b39), .val (.ref fL), .val (.int (1 : Int32)), .val (.int (1 : Int32)), .val (.int (1 : Int32)), .unset] [(.int (1 : Int32))])) _
          refine XS.goto X51.here hx rfl (pc0 := 171) (pc' := 175) rfl (hb hby at_171) (by decide) (by decide) ?_
          show Steps p.tables e below (T51.setTop (mkF m 175 #[.val (.int p0), .val (.int p1), .val (.int p2), .val (.int (J0_3_S0 p0 p1 p2 wH wD wU fN fL fU)), .val (.int (J0_15_S0 p0 p1 p2 wH wD wU fN fL fU)), .val (.int (J0_28_S0 p0 p1 p2 wH wD wU fN fL fU)), .val (.int (1 : Int32)), .val (.ref b39), .val (.ref fL), .val (.int (1 : Int32)), .val (.int (1 : Int32)), .val (.int (1 : Int32)), .unset] [(.int (1 : Int32))])) _
          refine XS.istore X51.here hx rfl (hb hby at_175) rfl (l' := #[.val (.int p0), .val (.int p1), .val (.int p2), .val (.int (J0_3_S0 p0 p1 p2 wH wD wU fN fL fU)), .val (.int (J0_15_S0 p0 p1 p2 wH wD wU fN fL fU)), .val (.int (J0_28_S0 p0 p1 p2 wH wD wU fN fL fU)), .val (.int (1 : Int32)), .val (.ref b39), .val (.ref fL), .val (.int (1 : Int32)), .val (.int (1 : Int32)), .val (.int (1 : Int32)), .val (.int (1 : Int32))]) rfl ?_
          show Steps p.tables e below (T51.setTop (mkF m 177 #[.val (.int p0), .val (.int p1), .val (.int p2), .val (.int (J0_3_S0 p0 p1 p2 wH wD wU fN fL fU)), .val (.int (J0_15_S0 p0 p1 p2 wH wD wU fN fL fU)), .val (.int (J0_28_S0 p0 p1 p2 wH wD wU fN fL fU)), .val (.int (1 : Int32)), .val (.ref b39), .val (.ref fL), .val (.int (1 : Int32)), .val (.int (1 : Int32)), .val (.int (1 : Int32)), .val (.int (1 : Int32))] [])) _
          refine XS.iload X51.here hx rfl (hb hby at_177) rfl ?_
          exact kt)
        by_cases hc179 : (J0_28_S0 p0 p1 p2 wH wD wU fN fL fU) = (0 : Int32)
        · obtain ⟨fs, hr, hrun, hended, hW, hsame⟩ := X51.leave (v := some (.int (1 : Int32))) (fun h => by rw [Bd.returns] at h; cases h)
          refine ⟨_, _, pre52 _ ?_, hrun, hended, _, _, rfl, ?_, ⟨_, rfl⟩, hW, hsame.mono (by decide) (by decide)⟩
          · show Steps p.tables e below (T51.setTop (mkF m 179 #[.val (.int p0), .val (.int p1), .val (.int p2), .val (.int (J0_3_S0 p0 p1 p2 wH wD wU fN fL fU)), .val (.int (J0_15_S0 p0 p1 p2 wH wD wU fN fL fU)), .val (.int (J0_28_S0 p0 p1 p2 wH wD wU fN fL fU)), .val (.int (1 : Int32)), .val (.ref b39), .val (.ref fL), .val (.int (1 : Int32)), .val (.int (1 : Int32)), .val (.int (1 : Int32)), .val (.int (1 : Int32))] [(.int (J0_28_S0 p0 p1 p2 wH wD wU fN fL fU))])) _
            refine XS.ifYes X51.here hx rfl (pc0 := 179) (pc' := 210) rfl (hb hby at_179) rfl ((if0 _ _).trans (teq hc179).1) (by decide) (by decide) ?_
            show Steps p.tables e below (T51.setTop (mkF m 210 #[.val (.int p0), .val (.int p1), .val (.int p2), .val (.int (J0_3_S0 p0 p1 p2 wH wD wU fN fL fU)), .val (.int (J0_15_S0 p0 p1 p2 wH wD wU fN fL fU)), .val (.int (J0_28_S0 p0 p1 p2 wH wD wU fN fL fU)), .val (.int (1 : Int32)), .val (.ref b39), .val (.ref fL), .val (.int (1 : Int32)), .val (.int (1 : Int32)), .val (.int (1 : Int32)), .val (.int (1 : Int32))] [])) _
            refine XS.iload X51.here hx rfl (hb hby at_210) rfl ?_
            show Steps p.tables e below (T51.setTop (mkF m 212 #[.val (.int p0), .val (.int p1), .val (.int p2), .val (.int (J0_3_S0 p0 p1 p2 wH wD wU fN fL fU)), .val (.int (J0_15_S0 p0 p1 p2 wH wD wU fN fL fU)), .val (.int (J0_28_S0 p0 p1 p2 wH wD wU fN fL fU)), .val (.int (1 : Int32)), .val (.ref b39), .val (.ref fL), .val (.int (1 : Int32)), .val (.int (1 : Int32)), .val (.int (1 : Int32)), .val (.int (1 : Int32))] [(.int (1 : Int32))])) _
            exact retN X51 hx (t := .boolean) Bd.returns (by simp) (hb hby at_212) hr
          · show Q0 Z p0 p1 p2 wH wD wU fN fL fU h0 n0 _ T51.heap _
            rw [e51]
            exact ⟨(by unfold F0; simp only [if_neg hi0, if_pos hi1, if_pos hc59, if_pos hc179]), N51⟩
        · obtain ⟨cq53, kq53, q53a, q53b, q53c⟩ := isOf hZ e51 P46_0
          obtain ⟨_, _, ⟨T53, L53, k53, n53⟩, -, X53, ⟨Lc53, hQ53, ll53, ly53, lz53⟩, st53⟩ := X51.virtualBack hx (y := (⟨"com/example/admission_for_endpoints/admissionforendpoints/MessageReader", "end", "()Z"⟩ : MethodName)) (z := (⟨"com/example/admission_for_endpoints/admissionforendpoints/MessageReader", "end", "()Z"⟩ : MethodName)) hown (mvT hZ (hw _ (List.mem_of_getElem? (i := 64) rfl))) (mvT hZ (hw _ (List.mem_of_getElem? (i := 65) rfl))) (notFace_of_selects (args := #[]) (mvT hZ (hw _ (List.mem_of_getElem? (i := 67) rfl)))) (mvT hZ (hw _ (List.mem_of_getElem? (i := 67) rfl))) (mvT hZ (hw _ (List.mem_of_getElem? (i := 66) rfl))) (by decide) (backOf (W := 0) (rm8d l Z a0 hw [] b39 wD wU T46.heap n0 (Nat.le_trans (Nat.le_trans (Nat.le_trans Z0 E39.1) K43c.1) K46c.1) P46_1 (own_staK (own_staK (Sta.ext E39 S_wD) K43c (allS (own_exaN A39) all0)) K46c (allS (own_exaN P43_0) all0)) (own_staK (own_staK (Sta.ext E39 S_wU) K43c (allS (own_exaN A39) all0)) K46c (allS (own_exaN P43_0) all0)) ne_UD) hZ (hw _ (List.mem_of_getElem? (i := 68) rfl)) (hw _ (List.mem_of_getElem? (i := 3) rfl)) (by decide) (by decide)) q53a q53c (g := (mkF m 189 #[.val (.int p0), .val (.int p1), .val (.int p2), .val (.int (J0_3_S0 p0 p1 p2 wH wD wU fN fL fU)), .val (.int (J0_15_S0 p0 p1 p2 wH wD wU fN fL fU)), .val (.int (J0_28_S0 p0 p1 p2 wH wD wU fN fL fU)), .val (.int (1 : Int32)), .val (.ref b39), .val (.ref fL), .val (.int (1 : Int32)), .val (.int (1 : Int32)), .val (.int (1 : Int32)), .val (.int (1 : Int32))] [(.ref b39)])) rfl (by rw [hml]; rfl) (Steps.refl _) (argsL := []) (rest := []) (lenOf pd___Z rfl) rfl (by show 2 * 0 + _ ≤ _; exact Nat.le_of_eq rfl) (hb hby at_189) (fun _ _ => ⟨rfl, e51, (by decide : 3 + 0 ≤ _), (by decide : 267 + 0 ≤ _)⟩)
          dsimp only [Pt.U, Pt.locs, Pt.cells, Pt.slots] at X53 ll53 ly53 lz53 st53 hQ53
          subst ll53 ly53 lz53
          obtain ⟨rfl, N53q, e53⟩ := hQ53
          have N53 := Fr.app N51 N53q
          obtain ⟨cq54, kq54, q54a, q54b, q54c⟩ := isOf hZ e53 P46_0
          obtain ⟨_, _, ⟨T54, L54, k54, n54⟩, -, X54, ⟨Lc54, hQ54, ll54, ly54, lz54⟩, st54⟩ := X53.virtualBack hx (y := (⟨"com/example/admission_for_endpoints/admissionforendpoints/MessageReader", "ended", "()Z"⟩ : MethodName)) (z := (⟨"com/example/admission_for_endpoints/admissionforendpoints/MessageReader", "ended", "()Z"⟩ : MethodName)) hown (mvT hZ (hw _ (List.mem_of_getElem? (i := 57) rfl))) (mvT hZ (hw _ (List.mem_of_getElem? (i := 58) rfl))) (notFace_of_selects (args := #[]) (mvT hZ (hw _ (List.mem_of_getElem? (i := 60) rfl)))) (mvT hZ (hw _ (List.mem_of_getElem? (i := 60) rfl))) (mvT hZ (hw _ (List.mem_of_getElem? (i := 59) rfl))) (by decide) (backOf (W := 0) (rm7d l Z a0 hw [] b39 wD T46.heap n0 (Nat.le_trans (Nat.le_trans (Nat.le_trans Z0 E39.1) K43c.1) K46c.1) P46_1 (own_staK (own_staK (Sta.ext E39 S_wD) K43c (allS (own_exaN A39) all0)) K46c (allS (own_exaN P43_0) all0))) hZ (hw _ (List.mem_of_getElem? (i := 61) rfl)) (hw _ (List.mem_of_getElem? (i := 3) rfl)) (by decide) (by decide)) q54a q54c (g := (mkF m 197 #[.val (.int p0), .val (.int p1), .val (.int p2), .val (.int (J0_3_S0 p0 p1 p2 wH wD wU fN fL fU)), .val (.int (J0_15_S0 p0 p1 p2 wH wD wU fN fL fU)), .val (.int (J0_28_S0 p0 p1 p2 wH wD wU fN fL fU)), .val (.int (1 : Int32)), .val (.ref b39), .val (.ref fL), .val (.int (1 : Int32)), .val (.int (1 : Int32)), .val (.int (1 : Int32)), .val (.int (1 : Int32))] [(.ref b39)])) rfl (by rw [hml]; rfl) (Steps.refl _) (argsL := []) (rest := []) (lenOf pd___Z rfl) rfl (by show 2 * 0 + _ ≤ _; exact Nat.le_of_eq rfl) (hb hby at_197) (fun _ _ => ⟨rfl, e53, (by decide : 3 + 0 ≤ _), (by decide : 267 + 0 ≤ _)⟩)
          dsimp only [Pt.U, Pt.locs, Pt.cells, Pt.slots] at X54 ll54 ly54 lz54 st54 hQ54
          subst ll54 ly54 lz54
          obtain ⟨rfl, N54q, e54⟩ := hQ54
          have N54 := Fr.app N53 N54q
          obtain ⟨fs, hr, hrun, hended, hW, hsame⟩ := X54.leave (v := some (.int (1 : Int32))) (fun h => by rw [Bd.returns] at h; cases h)
          refine ⟨_, _, pre52 _ ?_, hrun, hended, _, _, rfl, ?_, ⟨_, rfl⟩, hW, hsame.mono (by decide) (by decide)⟩
          · show Steps p.tables e below (T51.setTop (mkF m 179 #[.val (.int p0), .val (.int p1), .val (.int p2), .val (.int (J0_3_S0 p0 p1 p2 wH wD wU fN fL fU)), .val (.int (J0_15_S0 p0 p1 p2 wH wD wU fN fL fU)), .val (.int (J0_28_S0 p0 p1 p2 wH wD wU fN fL fU)), .val (.int (1 : Int32)), .val (.ref b39), .val (.ref fL), .val (.int (1 : Int32)), .val (.int (1 : Int32)), .val (.int (1 : Int32)), .val (.int (1 : Int32))] [(.int (J0_28_S0 p0 p1 p2 wH wD wU fN fL fU))])) _
            refine XS.ifNo X51.here hx rfl (hb hby at_179) rfl ((if0 _ _).trans (feq hc179).1) ?_
            show Steps p.tables e below (T51.setTop (mkF m 182 #[.val (.int p0), .val (.int p1), .val (.int p2), .val (.int (J0_3_S0 p0 p1 p2 wH wD wU fN fL fU)), .val (.int (J0_15_S0 p0 p1 p2 wH wD wU fN fL fU)), .val (.int (J0_28_S0 p0 p1 p2 wH wD wU fN fL fU)), .val (.int (1 : Int32)), .val (.ref b39), .val (.ref fL), .val (.int (1 : Int32)), .val (.int (1 : Int32)), .val (.int (1 : Int32)), .val (.int (1 : Int32))] [])) _
            refine XS.iload X51.here hx rfl (hb hby at_182) rfl ?_
            show Steps p.tables e below (T51.setTop (mkF m 184 #[.val (.int p0), .val (.int p1), .val (.int p2), .val (.int (J0_3_S0 p0 p1 p2 wH wD wU fN fL fU)), .val (.int (J0_15_S0 p0 p1 p2 wH wD wU fN fL fU)), .val (.int (J0_28_S0 p0 p1 p2 wH wD wU fN fL fU)), .val (.int (1 : Int32)), .val (.ref b39), .val (.ref fL), .val (.int (1 : Int32)), .val (.int (1 : Int32)), .val (.int (1 : Int32)), .val (.int (1 : Int32))] [(.int (1 : Int32))])) _
            refine XS.ifNo X51.here hx rfl (hb hby at_184) rfl ((if0 _ _).trans (feq (by decide : ¬ ((1 : Int32) = (0 : Int32)))).1) ?_
            show Steps p.tables e below (T51.setTop (mkF m 187 #[.val (.int p0), .val (.int p1), .val (.int p2), .val (.int (J0_3_S0 p0 p1 p2 wH wD wU fN fL fU)), .val (.int (J0_15_S0 p0 p1 p2 wH wD wU fN fL fU)), .val (.int (J0_28_S0 p0 p1 p2 wH wD wU fN fL fU)), .val (.int (1 : Int32)), .val (.ref b39), .val (.ref fL), .val (.int (1 : Int32)), .val (.int (1 : Int32)), .val (.int (1 : Int32)), .val (.int (1 : Int32))] [])) _
            refine XS.aload X51.here hx rfl (hb hby at_187) rfl rfl ?_
            show Steps p.tables e below (T51.setTop (mkF m 189 #[.val (.int p0), .val (.int p1), .val (.int p2), .val (.int (J0_3_S0 p0 p1 p2 wH wD wU fN fL fU)), .val (.int (J0_15_S0 p0 p1 p2 wH wD wU fN fL fU)), .val (.int (J0_28_S0 p0 p1 p2 wH wD wU fN fL fU)), .val (.int (1 : Int32)), .val (.ref b39), .val (.ref fL), .val (.int (1 : Int32)), .val (.int (1 : Int32)), .val (.int (1 : Int32)), .val (.int (1 : Int32))] [(.ref b39)])) _
            refine st53.trans ?_
            show Steps p.tables e below (T53.setTop (mkF m 192 #[.val (.int p0), .val (.int p1), .val (.int p2), .val (.int (J0_3_S0 p0 p1 p2 wH wD wU fN fL fU)), .val (.int (J0_15_S0 p0 p1 p2 wH wD wU fN fL fU)), .val (.int (J0_28_S0 p0 p1 p2 wH wD wU fN fL fU)), .val (.int (1 : Int32)), .val (.ref b39), .val (.ref fL), .val (.int (1 : Int32)), .val (.int (1 : Int32)), .val (.int (1 : Int32)), .val (.int (1 : Int32))] [(.int (1 : Int32))])) _
            refine XS.ifNo X53.here hx rfl (hb hby at_192) rfl ((if0 _ _).trans (feq (by decide : ¬ ((1 : Int32) = (0 : Int32)))).1) ?_
            show Steps p.tables e below (T53.setTop (mkF m 195 #[.val (.int p0), .val (.int p1), .val (.int p2), .val (.int (J0_3_S0 p0 p1 p2 wH wD wU fN fL fU)), .val (.int (J0_15_S0 p0 p1 p2 wH wD wU fN fL fU)), .val (.int (J0_28_S0 p0 p1 p2 wH wD wU fN fL fU)), .val (.int (1 : Int32)), .val (.ref b39), .val (.ref fL), .val (.int (1 : Int32)), .val (.int (1 : Int32)), .val (.int (1 : Int32)), .val (.int (1 : Int32))] [])) _
            refine XS.aload X53.here hx rfl (hb hby at_195) rfl rfl ?_
            show Steps p.tables e below (T53.setTop (mkF m 197 #[.val (.int p0), .val (.int p1), .val (.int p2), .val (.int (J0_3_S0 p0 p1 p2 wH wD wU fN fL fU)), .val (.int (J0_15_S0 p0 p1 p2 wH wD wU fN fL fU)), .val (.int (J0_28_S0 p0 p1 p2 wH wD wU fN fL fU)), .val (.int (1 : Int32)), .val (.ref b39), .val (.ref fL), .val (.int (1 : Int32)), .val (.int (1 : Int32)), .val (.int (1 : Int32)), .val (.int (1 : Int32))] [(.ref b39)])) _
            refine st54.trans ?_
            show Steps p.tables e below (T54.setTop (mkF m 200 #[.val (.int p0), .val (.int p1), .val (.int p2), .val (.int (J0_3_S0 p0 p1 p2 wH wD wU fN fL fU)), .val (.int (J0_15_S0 p0 p1 p2 wH wD wU fN fL fU)), .val (.int (J0_28_S0 p0 p1 p2 wH wD wU fN fL fU)), .val (.int (1 : Int32)), .val (.ref b39), .val (.ref fL), .val (.int (1 : Int32)), .val (.int (1 : Int32)), .val (.int (1 : Int32)), .val (.int (1 : Int32))] [(.int (1 : Int32))])) _
            refine XS.ifNo X54.here hx rfl (hb hby at_200) rfl ((if0 _ _).trans (feq (by decide : ¬ ((1 : Int32) = (0 : Int32)))).1) ?_
            show Steps p.tables e below (T54.setTop (mkF m 203 #[.val (.int p0), .val (.int p1), .val (.int p2), .val (.int (J0_3_S0 p0 p1 p2 wH wD wU fN fL fU)), .val (.int (J0_15_S0 p0 p1 p2 wH wD wU fN fL fU)), .val (.int (J0_28_S0 p0 p1 p2 wH wD wU fN fL fU)), .val (.int (1 : Int32)), .val (.ref b39), .val (.ref fL), .val (.int (1 : Int32)), .val (.int (1 : Int32)), .val (.int (1 : Int32)), .val (.int (1 : Int32))] [])) _
            refine XS.iconst X54.here hx rfl (hb hby at_203) ?_
            show Steps p.tables e below (T54.setTop (mkF m 204 #[.val (.int p0), .val (.int p1), .val (.int p2), .val (.int (J0_3_S0 p0 p1 p2 wH wD wU fN fL fU)), .val (.int (J0_15_S0 p0 p1 p2 wH wD wU fN fL fU)), .val (.int (J0_28_S0 p0 p1 p2 wH wD wU fN fL fU)), .val (.int (1 : Int32)), .val (.ref b39), .val (.ref fL), .val (.int (1 : Int32)), .val (.int (1 : Int32)), .val (.int (1 : Int32)), .val (.int (1 : Int32))] [(.int (1 : Int32))])) _
            refine XS.goto X54.here hx rfl (pc0 := 204) (pc' := 208) rfl (hb hby at_204) (by decide) (by decide) ?_
            show Steps p.tables e below (T54.setTop (mkF m 208 #[.val (.int p0), .val (.int p1), .val (.int p2), .val (.int (J0_3_S0 p0 p1 p2 wH wD wU fN fL fU)), .val (.int (J0_15_S0 p0 p1 p2 wH wD wU fN fL fU)), .val (.int (J0_28_S0 p0 p1 p2 wH wD wU fN fL fU)), .val (.int (1 : Int32)), .val (.ref b39), .val (.ref fL), .val (.int (1 : Int32)), .val (.int (1 : Int32)), .val (.int (1 : Int32)), .val (.int (1 : Int32))] [(.int (1 : Int32))])) _
            refine XS.istore X54.here hx rfl (hb hby at_208) rfl (l' := #[.val (.int p0), .val (.int p1), .val (.int p2), .val (.int (J0_3_S0 p0 p1 p2 wH wD wU fN fL fU)), .val (.int (J0_15_S0 p0 p1 p2 wH wD wU fN fL fU)), .val (.int (J0_28_S0 p0 p1 p2 wH wD wU fN fL fU)), .val (.int (1 : Int32)), .val (.ref b39), .val (.ref fL), .val (.int (1 : Int32)), .val (.int (1 : Int32)), .val (.int (1 : Int32)), .val (.int (1 : Int32))]) rfl ?_
            show Steps p.tables e below (T54.setTop (mkF m 210 #[.val (.int p0), .val (.int p1), .val (.int p2), .val (.int (J0_3_S0 p0 p1 p2 wH wD wU fN fL fU)), .val (.int (J0_15_S0 p0 p1 p2 wH wD wU fN fL fU)), .val (.int (J0_28_S0 p0 p1 p2 wH wD wU fN fL fU)), .val (.int (1 : Int32)), .val (.ref b39), .val (.ref fL), .val (.int (1 : Int32)), .val (.int (1 : Int32)), .val (.int (1 : Int32)), .val (.int (1 : Int32))] [])) _
            refine XS.iload X54.here hx rfl (hb hby at_210) rfl ?_
            show Steps p.tables e below (T54.setTop (mkF m 212 #[.val (.int p0), .val (.int p1), .val (.int p2), .val (.int (J0_3_S0 p0 p1 p2 wH wD wU fN fL fU)), .val (.int (J0_15_S0 p0 p1 p2 wH wD wU fN fL fU)), .val (.int (J0_28_S0 p0 p1 p2 wH wD wU fN fL fU)), .val (.int (1 : Int32)), .val (.ref b39), .val (.ref fL), .val (.int (1 : Int32)), .val (.int (1 : Int32)), .val (.int (1 : Int32)), .val (.int (1 : Int32))] [(.int (1 : Int32))])) _
            exact retN X54 hx (t := .boolean) Bd.returns (by simp) (hb hby at_212) hr
          · show Q0 Z p0 p1 p2 wH wD wU fN fL fU h0 n0 _ T54.heap _
            rw [e54]
            exact ⟨(by unfold F0; simp only [if_neg hi0, if_pos hi1, if_pos hc59, if_neg hc179]), N54⟩
      · obtain ⟨cq55, kq55, q55a, q55b, q55c⟩ := isOf hZ (rfl : T43.heap = T43.heap) P43_0
        obtain ⟨_, _, ⟨T55, L55, k55, n55⟩, -, X55, ⟨Lc55, hQ55, ll55, ly55, lz55⟩, st55⟩ := X43.virtualBack hx (y := (⟨"com/example/admission_for_endpoints/admissionforendpoints/MessageReader", "drop", "()V"⟩ : MethodName)) (z := (⟨"com/example/admission_for_endpoints/admissionforendpoints/MessageReader", "drop", "()V"⟩ : MethodName)) hown (mvT hZ (hw _ (List.mem_of_getElem? (i := 24) rfl))) (mvT hZ (hw _ (List.mem_of_getElem? (i := 25) rfl))) (notFace_of_selects (args := #[]) (mvT hZ (hw _ (List.mem_of_getElem? (i := 27) rfl)))) (mvT hZ (hw _ (List.mem_of_getElem? (i := 27) rfl))) (mvT hZ (hw _ (List.mem_of_getElem? (i := 26) rfl))) (by decide) (backOf (W := 0) (rm3 l Z a0 hw [] b39 wH ab43 p0 (0 : Int32) (0 : Int32) (0 : Int32) (0 : Int32) (0 : Int64) T43.heap n0 (Nat.le_trans (Nat.le_trans Z0 E39.1) K43c.1) P43_0 P43_1 P43_2 P43_3 P43_4 P43_5 P43_6 P43_7 P43_8 g_b39) hZ (hw _ (List.mem_of_getElem? (i := 28) rfl)) (hw _ (List.mem_of_getElem? (i := 3) rfl)) (by decide) (by decide)) q55a q55c (g := (mkF m 64 #[.val (.int p0), .val (.int p1), .val (.int p2), .val (.int (J0_3_S0 p0 p1 p2 wH wD wU fN fL fU)), .val (.int (J0_15_S0 p0 p1 p2 wH wD wU fN fL fU)), .val (.int (J0_28_S0 p0 p1 p2 wH wD wU fN fL fU)), .val (.int (1 : Int32)), .val (.ref b39), .unset, .unset, .unset, .unset, .unset] [(.ref b39)])) rfl (by rw [hml]; rfl) (Steps.refl _) (argsL := []) (rest := []) (lenOf pd___V rfl) rfl (by show 2 * 0 + _ ≤ _; exact Nat.le_of_eq rfl) (hb hby at_64) (fun _ _ => ⟨rfl, (rfl : T43.heap = T43.heap), (by decide : 3 + 0 ≤ _), (by decide : 267 + 0 ≤ _)⟩)
        dsimp only [Pt.U, Pt.locs, Pt.cells, Pt.slots] at X55 ll55 ly55 lz55 st55 hQ55
        subst ll55 ly55 lz55
        obtain ⟨rfl, N55q, K55c, P55_0, P55_1, P55_2, P55_3, P55_4, P55_5, P55_6, P55_7, P55_8⟩ := hQ55
        have N55 := Fr.app N43 N55q
        have K55 : Keep h0 T55.heap [] := K43.trans K55c (allS (Or.inr sz_b39) all0)
        obtain ⟨T56, X56, e56, st56⟩ := getS2 X55 hx hZ hown (host := "") (Or.inl (hw _ (List.mem_of_getElem? (i := 85) rfl))) Via.refl (rfl : T55.heap = T55.heap) (own_staK (own_staK (Sta.ext E39 S_fL) K43c (allS (own_exaN A39) all0)) K55c (allS (own_exaN P43_0) all0)) (g := (mkF m 86 #[.val (.int p0), .val (.int p1), .val (.int p2), .val (.int (J0_3_S0 p0 p1 p2 wH wD wU fN fL fU)), .val (.int (J0_15_S0 p0 p1 p2 wH wD wU fN fL fU)), .val (.int (J0_28_S0 p0 p1 p2 wH wD wU fN fL fU)), .val (.int (1 : Int32)), .val (.ref b39), .unset, .unset, .unset, .unset, .unset] [])) rfl (hb hby at_86)
        obtain ⟨cq57, kq57, q57a, q57b, q57c⟩ := isOf hZ e56 P55_0
        obtain ⟨_, _, ⟨T57, L57, k57, n57⟩, -, X57, ⟨Lc57, hQ57, ll57, ly57, lz57⟩, st57⟩ := X56.virtualBack hx (y := (⟨"com/example/admission_for_endpoints/admissionforendpoints/MessageReader", "frame", "(Lcom/example/admission_for_endpoints/admissionforendpoints/MessageReader$Framing;J)V"⟩ : MethodName)) (z := (⟨"com/example/admission_for_endpoints/admissionforendpoints/MessageReader", "frame", "(Lcom/example/admission_for_endpoints/admissionforendpoints/MessageReader$Framing;J)V"⟩ : MethodName)) hown (mvT hZ (hw _ (List.mem_of_getElem? (i := 34) rfl))) (mvT hZ (hw _ (List.mem_of_getElem? (i := 35) rfl))) (notFace_of_selects (args := #[]) (mvT hZ (hw _ (List.mem_of_getElem? (i := 37) rfl)))) (mvT hZ (hw _ (List.mem_of_getElem? (i := 37) rfl))) (mvT hZ (hw _ (List.mem_of_getElem? (i := 36) rfl))) (by decide) (backOf (W := 0) (rm4o1 l Z a0 hw [] b39 fL wH ab43 p0 (1 : Int32) (0 : Int32) (0 : Int32) (0 : Int32) (0 : Int64) kb43 wD wU T55.heap n0 (Nat.le_trans (Nat.le_trans (Nat.le_trans Z0 E39.1) K43c.1) K55c.1) P55_0 P55_1 P55_2 P55_3 P55_4 P55_5 P55_6 P55_7 P55_8 (P43_9.keep K55c (ninS P43_10 nin0)) (own_staK (own_staK (Sta.ext E39 S_wD) K43c (allS (own_exaN A39) all0)) K55c (allS (own_exaN P43_0) all0)) (own_staK (own_staK (Sta.ext E39 S_wU) K43c (allS (own_exaN A39) all0)) K55c (allS (own_exaN P43_0) all0)) (Exa.keep (Exa.keep (Exa.ext E39 E_fL) K43c) K55c) (((Fld.ext E39 O_fL).keep K43c (ninS ne41 nin0)).keep K55c (ninS ne41 nin0)) g_b39 P43_10 ne41) hZ (hw _ (List.mem_of_getElem? (i := 38) rfl)) (hw _ (List.mem_of_getElem? (i := 3) rfl)) (by decide) (by decide)) q57a q57c (g := (mkF m 104 #[.val (.int p0), .val (.int p1), .val (.int p2), .val (.int (J0_3_S0 p0 p1 p2 wH wD wU fN fL fU)), .val (.int (J0_15_S0 p0 p1 p2 wH wD wU fN fL fU)), .val (.int (J0_28_S0 p0 p1 p2 wH wD wU fN fL fU)), .val (.int (1 : Int32)), .val (.ref b39), .val (.ref fL), .unset, .unset, .unset, .unset] [(.long (0 : Int64)), (.ref fL), (.ref b39)])) rfl (by rw [hml]; rfl) (Steps.refl _) (argsL := [(.ref fL), (.long (0 : Int64))]) (rest := []) (lenOf pd__Lcom_example_admission_for_endpoints_admissionforendpoints_MessageReader_Framing_J_V rfl) rfl (by show 2 * 0 + _ ≤ _; exact Nat.le_of_eq rfl) (hb hby at_104) (fun _ _ => ⟨rfl, e56, (by decide : 3 + 0 ≤ _), (by decide : 267 + 0 ≤ _)⟩)
        dsimp only [Pt.U, Pt.locs, Pt.cells, Pt.slots] at X57 ll57 ly57 lz57 st57 hQ57
        subst ll57 ly57 lz57
        obtain ⟨rfl, N57q, K57c, P57_0, P57_1, P57_2, P57_3, P57_4, P57_5, P57_6, P57_7⟩ := hQ57
        have N57 := Fr.app N55 N57q
        have K57 : Keep h0 T57.heap [] := K55.trans K57c (allS (Or.inr sz_b39) all0)
        obtain ⟨cq58, kq58, q58a, q58b, q58c⟩ := isOf hZ (rfl : T57.heap = T57.heap) P57_0
        obtain ⟨_, _, ⟨T58, L58, k58, n58⟩, -, X58, ⟨Lc58, hQ58, ll58, ly58, lz58⟩, st58⟩ := X57.virtualBack hx (y := (⟨"com/example/admission_for_endpoints/admissionforendpoints/MessageReader", "ended", "()Z"⟩ : MethodName)) (z := (⟨"com/example/admission_for_endpoints/admissionforendpoints/MessageReader", "ended", "()Z"⟩ : MethodName)) hown (mvT hZ (hw _ (List.mem_of_getElem? (i := 57) rfl))) (mvT hZ (hw _ (List.mem_of_getElem? (i := 58) rfl))) (notFace_of_selects (args := #[]) (mvT hZ (hw _ (List.mem_of_getElem? (i := 60) rfl)))) (mvT hZ (hw _ (List.mem_of_getElem? (i := 60) rfl))) (mvT hZ (hw _ (List.mem_of_getElem? (i := 59) rfl))) (by decide) (backOf (W := 0) (rm7d l Z a0 hw [] b39 wD T57.heap n0 (Nat.le_trans (Nat.le_trans (Nat.le_trans (Nat.le_trans Z0 E39.1) K43c.1) K55c.1) K57c.1) P57_1 (own_staK (own_staK (own_staK (Sta.ext E39 S_wD) K43c (allS (own_exaN A39) all0)) K55c (allS (own_exaN P43_0) all0)) K57c (allS (own_exaN P55_0) all0))) hZ (hw _ (List.mem_of_getElem? (i := 61) rfl)) (hw _ (List.mem_of_getElem? (i := 3) rfl)) (by decide) (by decide)) q58a q58c (g := (mkF m 109 #[.val (.int p0), .val (.int p1), .val (.int p2), .val (.int (J0_3_S0 p0 p1 p2 wH wD wU fN fL fU)), .val (.int (J0_15_S0 p0 p1 p2 wH wD wU fN fL fU)), .val (.int (J0_28_S0 p0 p1 p2 wH wD wU fN fL fU)), .val (.int (1 : Int32)), .val (.ref b39), .val (.ref fL), .unset, .unset, .unset, .unset] [(.ref b39)])) rfl (by rw [hml]; rfl) (Steps.refl _) (argsL := []) (rest := []) (lenOf pd___Z rfl) rfl (by show 2 * 0 + _ ≤ _; exact Nat.le_of_eq rfl) (hb hby at_109) (fun _ _ => ⟨rfl, (rfl : T57.heap = T57.heap), (by decide : 3 + 0 ≤ _), (by decide : 267 + 0 ≤ _)⟩)
        dsimp only [Pt.U, Pt.locs, Pt.cells, Pt.slots] at X58 ll58 ly58 lz58 st58 hQ58
        subst ll58 ly58 lz58
        obtain ⟨rfl, N58q, e58⟩ := hQ58
        have N58 := Fr.app N57 N58q
        obtain ⟨cq59, kq59, q59a, q59b, q59c⟩ := isOf hZ e58 P57_0
        obtain ⟨_, _, ⟨T59, L59, k59, n59⟩, -, X59, ⟨Lc59, hQ59, ll59, ly59, lz59⟩, st59⟩ := X58.virtualBack hx (y := (⟨"com/example/admission_for_endpoints/admissionforendpoints/MessageReader", "end", "()Z"⟩ : MethodName)) (z := (⟨"com/example/admission_for_endpoints/admissionforendpoints/MessageReader", "end", "()Z"⟩ : MethodName)) hown (mvT hZ (hw _ (List.mem_of_getElem? (i := 64) rfl))) (mvT hZ (hw _ (List.mem_of_getElem? (i := 65) rfl))) (notFace_of_selects (args := #[]) (mvT hZ (hw _ (List.mem_of_getElem? (i := 67) rfl)))) (mvT hZ (hw _ (List.mem_of_getElem? (i := 67) rfl))) (mvT hZ (hw _ (List.mem_of_getElem? (i := 66) rfl))) (by decide) (backOf (W := 0) (rm8d l Z a0 hw [] b39 wD wU T57.heap n0 (Nat.le_trans (Nat.le_trans (Nat.le_trans (Nat.le_trans Z0 E39.1) K43c.1) K55c.1) K57c.1) P57_1 (own_staK (own_staK (own_staK (Sta.ext E39 S_wD) K43c (allS (own_exaN A39) all0)) K55c (allS (own_exaN P43_0) all0)) K57c (allS (own_exaN P55_0) all0)) (own_staK (own_staK (own_staK (Sta.ext E39 S_wU) K43c (allS (own_exaN A39) all0)) K55c (allS (own_exaN P43_0) all0)) K57c (allS (own_exaN P55_0) all0)) ne_UD) hZ (hw _ (List.mem_of_getElem? (i := 68) rfl)) (hw _ (List.mem_of_getElem? (i := 3) rfl)) (by decide) (by decide)) q59a q59c (g := (mkF m 129 #[.val (.int p0), .val (.int p1), .val (.int p2), .val (.int (J0_3_S0 p0 p1 p2 wH wD wU fN fL fU)), .val (.int (J0_15_S0 p0 p1 p2 wH wD wU fN fL fU)), .val (.int (J0_28_S0 p0 p1 p2 wH wD wU fN fL fU)), .val (.int (1 : Int32)), .val (.ref b39), .val (.ref fL), .val (.int (1 : Int32)), .val (.int (1 : Int32)), .unset, .unset] [(.ref b39)])) rfl (by rw [hml]; rfl) (Steps.refl _) (argsL := []) (rest := []) (lenOf pd___Z rfl) rfl (by show 2 * 0 + _ ≤ _; exact Nat.le_of_eq rfl) (hb hby at_129) (fun _ _ => ⟨rfl, e58, (by decide : 3 + 0 ≤ _), (by decide : 267 + 0 ≤ _)⟩)
        dsimp only [Pt.U, Pt.locs, Pt.cells, Pt.slots] at X59 ll59 ly59 lz59 st59 hQ59
        subst ll59 ly59 lz59
        obtain ⟨rfl, N59q, e59⟩ := hQ59
        have N59 := Fr.app N58 N59q
        obtain ⟨cq60, kq60, q60a, q60b, q60c⟩ := isOf hZ e59 P57_0
        obtain ⟨_, _, ⟨T60, L60, k60, n60⟩, -, X60, ⟨Lc60, hQ60, ll60, ly60, lz60⟩, st60⟩ := X59.virtualBack hx (y := (⟨"com/example/admission_for_endpoints/admissionforendpoints/MessageReader", "ended", "()Z"⟩ : MethodName)) (z := (⟨"com/example/admission_for_endpoints/admissionforendpoints/MessageReader", "ended", "()Z"⟩ : MethodName)) hown (mvT hZ (hw _ (List.mem_of_getElem? (i := 57) rfl))) (mvT hZ (hw _ (List.mem_of_getElem? (i := 58) rfl))) (notFace_of_selects (args := #[]) (mvT hZ (hw _ (List.mem_of_getElem? (i := 60) rfl)))) (mvT hZ (hw _ (List.mem_of_getElem? (i := 60) rfl))) (mvT hZ (hw _ (List.mem_of_getElem? (i := 59) rfl))) (by decide) (backOf (W := 0) (rm7d l Z a0 hw [] b39 wD T57.heap n0 (Nat.le_trans (Nat.le_trans (Nat.le_trans (Nat.le_trans Z0 E39.1) K43c.1) K55c.1) K57c.1) P57_1 (own_staK (own_staK (own_staK (Sta.ext E39 S_wD) K43c (allS (own_exaN A39) all0)) K55c (allS (own_exaN P43_0) all0)) K57c (allS (own_exaN P55_0) all0))) hZ (hw _ (List.mem_of_getElem? (i := 61) rfl)) (hw _ (List.mem_of_getElem? (i := 3) rfl)) (by decide) (by decide)) q60a q60c (g := (mkF m 148 #[.val (.int p0), .val (.int p1), .val (.int p2), .val (.int (J0_3_S0 p0 p1 p2 wH wD wU fN fL fU)), .val (.int (J0_15_S0 p0 p1 p2 wH wD wU fN fL fU)), .val (.int (J0_28_S0 p0 p1 p2 wH wD wU fN fL fU)), .val (.int (1 : Int32)), .val (.ref b39), .val (.ref fL), .val (.int (1 : Int32)), .val (.int (1 : Int32)), .val (.int (1 : Int32)), .unset] [(.ref b39)])) rfl (by rw [hml]; rfl) (Steps.refl _) (argsL := []) (rest := []) (lenOf pd___Z rfl) rfl (by show 2 * 0 + _ ≤ _; exact Nat.le_of_eq rfl) (hb hby at_148) (fun _ _ => ⟨rfl, e59, (by decide : 3 + 0 ≤ _), (by decide : 267 + 0 ≤ _)⟩)
        dsimp only [Pt.U, Pt.locs, Pt.cells, Pt.slots] at X60 ll60 ly60 lz60 st60 hQ60
        subst ll60 ly60 lz60
        obtain ⟨rfl, N60q, e60⟩ := hQ60
        have N60 := Fr.app N59 N60q
        obtain ⟨cq61, kq61, q61a, q61b, q61c⟩ := isOf hZ e60 P57_0
        obtain ⟨_, _, ⟨T61, L61, k61, n61⟩, -, X61, ⟨Lc61, hQ61, ll61, ly61, lz61⟩, st61⟩ := X60.virtualBack hx (y := (⟨"com/example/admission_for_endpoints/admissionforendpoints/MessageReader", "truncated", "()Z"⟩ : MethodName)) (z := (⟨"com/example/admission_for_endpoints/admissionforendpoints/MessageReader", "truncated", "()Z"⟩ : MethodName)) hown (mvT hZ (hw _ (List.mem_of_getElem? (i := 69) rfl))) (mvT hZ (hw _ (List.mem_of_getElem? (i := 70) rfl))) (notFace_of_selects (args := #[]) (mvT hZ (hw _ (List.mem_of_getElem? (i := 72) rfl)))) (mvT hZ (hw _ (List.mem_of_getElem? (i := 72) rfl))) (mvT hZ (hw _ (List.mem_of_getElem? (i := 71) rfl))) (by decide) (backOf (W := 0) (rm9 l Z a0 hw [] b39 T57.heap n0 (Nat.le_trans (Nat.le_trans (Nat.le_trans (Nat.le_trans Z0 E39.1) K43c.1) K55c.1) K57c.1) P57_5) hZ (hw _ (List.mem_of_getElem? (i := 73) rfl)) (hw _ (List.mem_of_getElem? (i := 3) rfl)) (by decide) (by decide)) q61a q61c (g := (mkF m 156 #[.val (.int p0), .val (.int p1), .val (.int p2), .val (.int (J0_3_S0 p0 p1 p2 wH wD wU fN fL fU)), .val (.int (J0_15_S0 p0 p1 p2 wH wD wU fN fL fU)), .val (.int (J0_28_S0 p0 p1 p2 wH wD wU fN fL fU)), .val (.int (1 : Int32)), .val (.ref b39), .val (.ref fL), .val (.int (1 : Int32)), .val (.int (1 : Int32)), .val (.int (1 : Int32)), .unset] [(.ref b39)])) rfl (by rw [hml]; rfl) (Steps.refl _) (argsL := []) (rest := []) (lenOf pd___Z rfl) rfl (by show 2 * 0 + _ ≤ _; exact Nat.le_of_eq rfl) (hb hby at_156) (fun _ _ => ⟨rfl, e60, (by decide : 3 + 0 ≤ _), (by decide : 267 + 0 ≤ _)⟩)
        dsimp only [Pt.U, Pt.locs, Pt.cells, Pt.slots] at X61 ll61 ly61 lz61 st61 hQ61
        subst ll61 ly61 lz61
        obtain ⟨rfl, N61q, e61⟩ := hQ61
        have N61 := Fr.app N60 N61q
        obtain ⟨cq62, kq62, q62a, q62b, q62c⟩ := isOf hZ e61 P57_0
        obtain ⟨_, _, ⟨T62, L62, k62, n62⟩, -, X62, ⟨Lc62, hQ62, ll62, ly62, lz62⟩, st62⟩ := X61.virtualBack hx (y := (⟨"com/example/admission_for_endpoints/admissionforendpoints/MessageReader", "bodyBytes", "()I"⟩ : MethodName)) (z := (⟨"com/example/admission_for_endpoints/admissionforendpoints/MessageReader", "bodyBytes", "()I"⟩ : MethodName)) hown (mvT hZ (hw _ (List.mem_of_getElem? (i := 76) rfl))) (mvT hZ (hw _ (List.mem_of_getElem? (i := 77) rfl))) (notFace_of_selects (args := #[]) (mvT hZ (hw _ (List.mem_of_getElem? (i := 79) rfl)))) (mvT hZ (hw _ (List.mem_of_getElem? (i := 79) rfl))) (mvT hZ (hw _ (List.mem_of_getElem? (i := 78) rfl))) (by decide) (backOf (W := 0) (rm10 l Z a0 hw [] b39 T57.heap n0 (Nat.le_trans (Nat.le_trans (Nat.le_trans (Nat.le_trans Z0 E39.1) K43c.1) K55c.1) K57c.1) P57_6) hZ (hw _ (List.mem_of_getElem? (i := 80) rfl)) (hw _ (List.mem_of_getElem? (i := 3) rfl)) (by decide) (by decide)) q62a q62c (g := (mkF m 164 #[.val (.int p0), .val (.int p1), .val (.int p2), .val (.int (J0_3_S0 p0 p1 p2 wH wD wU fN fL fU)), .val (.int (J0_15_S0 p0 p1 p2 wH wD wU fN fL fU)), .val (.int (J0_28_S0 p0 p1 p2 wH wD wU fN fL fU)), .val (.int (1 : Int32)), .val (.ref b39), .val (.ref fL), .val (.int (1 : Int32)), .val (.int (1 : Int32)), .val (.int (1 : Int32)), .unset] [(.ref b39)])) rfl (by rw [hml]; rfl) (Steps.refl _) (argsL := []) (rest := []) (lenOf pd___I rfl) rfl (by show 2 * 0 + _ ≤ _; exact Nat.le_of_eq rfl) (hb hby at_164) (fun _ _ => ⟨rfl, e61, (by decide : 3 + 0 ≤ _), (by decide : 267 + 0 ≤ _)⟩)
        dsimp only [Pt.U, Pt.locs, Pt.cells, Pt.slots] at X62 ll62 ly62 lz62 st62 hQ62
        subst ll62 ly62 lz62
        obtain ⟨rfl, N62q, e62⟩ := hQ62
        have N62 := Fr.app N61 N62q
        have pre63 : ∀ t, Steps p.tables e below (T62.setTop (mkF m 179 #[.val (.int p0), .val (.int p1), .val (.int p2), .val (.int (J0_3_S0 p0 p1 p2 wH wD wU fN fL fU)), .val (.int (J0_15_S0 p0 p1 p2 wH wD wU fN fL fU)), .val (.int (J0_28_S0 p0 p1 p2 wH wD wU fN fL fU)), .val (.int (1 : Int32)), .val (.ref b39), .val (.ref fL), .val (.int (1 : Int32)), .val (.int (1 : Int32)), .val (.int (1 : Int32)), .val (.int (1 : Int32))] [(.int (J0_28_S0 p0 p1 p2 wH wD wU fN fL fU))])) t → Steps p.tables e below (s₁.setTop (entryFrame m #[(.int p0), (.int p1), (.int p2)] maxLocals)) t := fun t kt => pre44 t (by
          show Steps p.tables e below (T43.setTop (mkF m 59 #[.val (.int p0), .val (.int p1), .val (.int p2), .val (.int (J0_3_S0 p0 p1 p2 wH wD wU fN fL fU)), .val (.int (J0_15_S0 p0 p1 p2 wH wD wU fN fL fU)), .val (.int (J0_28_S0 p0 p1 p2 wH wD wU fN fL fU)), .val (.int (1 : Int32)), .val (.ref b39), .unset, .unset, .unset, .unset, .unset] [(.int (J0_15_S0 p0 p1 p2 wH wD wU fN fL fU))])) _
          refine XS.ifNo X43.here hx rfl (hb hby at_59) rfl ((if0 _ _).trans (feq hc59).1) ?_
          show Steps p.tables e below (T43.setTop (mkF m 62 #[.val (.int p0), .val (.int p1), .val (.int p2), .val (.int (J0_3_S0 p0 p1 p2 wH wD wU fN fL fU)), .val (.int (J0_15_S0 p0 p1 p2 wH wD wU fN fL fU)), .val (.int (J0_28_S0 p0 p1 p2 wH wD wU fN fL fU)), .val (.int (1 : Int32)), .val (.ref b39), .unset, .unset, .unset, .unset, .unset] [])) _
          refine XS.aload X43.here hx rfl (hb hby at_62) rfl rfl ?_
          show Steps p.tables e below (T43.setTop (mkF m 64 #[.val (.int p0), .val (.int p1), .val (.int p2), .val (.int (J0_3_S0 p0 p1 p2 wH wD wU fN fL fU)), .val (.int (J0_15_S0 p0 p1 p2 wH wD wU fN fL fU)), .val (.int (J0_28_S0 p0 p1 p2 wH wD wU fN fL fU)), .val (.int (1 : Int32)), .val (.ref b39), .unset, .unset, .unset, .unset, .unset] [(.ref b39)])) _
          refine st55.trans ?_
          show Steps p.tables e below (T55.setTop (mkF m 67 #[.val (.int p0), .val (.int p1), .val (.int p2), .val (.int (J0_3_S0 p0 p1 p2 wH wD wU fN fL fU)), .val (.int (J0_15_S0 p0 p1 p2 wH wD wU fN fL fU)), .val (.int (J0_28_S0 p0 p1 p2 wH wD wU fN fL fU)), .val (.int (1 : Int32)), .val (.ref b39), .unset, .unset, .unset, .unset, .unset] [])) _
          refine XS.iload X55.here hx rfl (hb hby at_67) rfl ?_
          show Steps p.tables e below (T55.setTop (mkF m 69 #[.val (.int p0), .val (.int p1), .val (.int p2), .val (.int (J0_3_S0 p0 p1 p2 wH wD wU fN fL fU)), .val (.int (J0_15_S0 p0 p1 p2 wH wD wU fN fL fU)), .val (.int (J0_28_S0 p0 p1 p2 wH wD wU fN fL fU)), .val (.int (1 : Int32)), .val (.ref b39), .unset, .unset, .unset, .unset, .unset] [(.int (1 : Int32))])) _
          refine XS.ifYes X55.here hx rfl (pc0 := 69) (pc' := 80) rfl (hb hby at_69) rfl ((if0 _ _).trans (feq (by decide : ¬ ((1 : Int32) = (0 : Int32)))).2) (by decide) (by decide) ?_
          show Steps p.tables e below (T55.setTop (mkF m 80 #[.val (.int p0), .val (.int p1), .val (.int p2), .val (.int (J0_3_S0 p0 p1 p2 wH wD wU fN fL fU)), .val (.int (J0_15_S0 p0 p1 p2 wH wD wU fN fL fU)), .val (.int (J0_28_S0 p0 p1 p2 wH wD wU fN fL fU)), .val (.int (1 : Int32)), .val (.ref b39), .unset, .unset, .unset, .unset, .unset] [])) _
          refine XS.iload X55.here hx rfl (hb hby at_80) rfl ?_
          show Steps p.tables e below (T55.setTop (mkF m 82 #[.val (.int p0), .val (.int p1), .val (.int p2), .val (.int (J0_3_S0 p0 p1 p2 wH wD wU fN fL fU)), .val (.int (J0_15_S0 p0 p1 p2 wH wD wU fN fL fU)), .val (.int (J0_28_S0 p0 p1 p2 wH wD wU fN fL fU)), .val (.int (1 : Int32)), .val (.ref b39), .unset, .unset, .unset, .unset, .unset] [(.int (1 : Int32))])) _
          refine XS.iconst X55.here hx rfl (hb hby at_82) ?_
          show Steps p.tables e below (T55.setTop (mkF m 83 #[.val (.int p0), .val (.int p1), .val (.int p2), .val (.int (J0_3_S0 p0 p1 p2 wH wD wU fN fL fU)), .val (.int (J0_15_S0 p0 p1 p2 wH wD wU fN fL fU)), .val (.int (J0_28_S0 p0 p1 p2 wH wD wU fN fL fU)), .val (.int (1 : Int32)), .val (.ref b39), .unset, .unset, .unset, .unset, .unset] [(.int (1 : Int32)), (.int (1 : Int32))])) _
          refine XS.icmpNo X55.here hx rfl (hb hby at_83) rfl (teq (by decide : (1 : Int32) = (1 : Int32))).2 ?_
          show Steps p.tables e below (T55.setTop (mkF m 86 #[.val (.int p0), .val (.int p1), .val (.int p2), .val (.int (J0_3_S0 p0 p1 p2 wH wD wU fN fL fU)), .val (.int (J0_15_S0 p0 p1 p2 wH wD wU fN fL fU)), .val (.int (J0_28_S0 p0 p1 p2 wH wD wU fN fL fU)), .val (.int (1 : Int32)), .val (.ref b39), .unset, .unset, .unset, .unset, .unset] [])) _
          refine st56 _ ?_
          show Steps p.tables e below (T56.setTop (mkF m 89 #[.val (.int p0), .val (.int p1), .val (.int p2), .val (.int (J0_3_S0 p0 p1 p2 wH wD wU fN fL fU)), .val (.int (J0_15_S0 p0 p1 p2 wH wD wU fN fL fU)), .val (.int (J0_28_S0 p0 p1 p2 wH wD wU fN fL fU)), .val (.int (1 : Int32)), .val (.ref b39), .unset, .unset, .unset, .unset, .unset] [(.ref fL)])) _
          refine XS.astore X56.here hx rfl (hb hby at_89) rfl rfl (l' := #[.val (.int p0), .val (.int p1), .val (.int p2), .val (.int (J0_3_S0 p0 p1 p2 wH wD wU fN fL fU)), .val (.int (J0_15_S0 p0 p1 p2 wH wD wU fN fL fU)), .val (.int (J0_28_S0 p0 p1 p2 wH wD wU fN fL fU)), .val (.int (1 : Int32)), .val (.ref b39), .val (.ref fL), .unset, .unset, .unset, .unset]) rfl ?_
          show Steps p.tables e below (T56.setTop (mkF m 91 #[.val (.int p0), .val (.int p1), .val (.int p2), .val (.int (J0_3_S0 p0 p1 p2 wH wD wU fN fL fU)), .val (.int (J0_15_S0 p0 p1 p2 wH wD wU fN fL fU)), .val (.int (J0_28_S0 p0 p1 p2 wH wD wU fN fL fU)), .val (.int (1 : Int32)), .val (.ref b39), .val (.ref fL), .unset, .unset, .unset, .unset] [])) _
          refine XS.goto X56.here hx rfl (pc0 := 91) (pc' := 99) rfl (hb hby at_91) (by decide) (by decide) ?_
          show Steps p.tables e below (T56.setTop (mkF m 99 #[.val (.int p0), .val (.int p1), .val (.int p2), .val (.int (J0_3_S0 p0 p1 p2 wH wD wU fN fL fU)), .val (.int (J0_15_S0 p0 p1 p2 wH wD wU fN fL fU)), .val (.int (J0_28_S0 p0 p1 p2 wH wD wU fN fL fU)), .val (.int (1 : Int32)), .val (.ref b39), .val (.ref fL), .unset, .unset, .unset, .unset] [])) _
          refine XS.aload X56.here hx rfl (hb hby at_99) rfl rfl ?_
          show Steps p.tables e below (T56.setTop (mkF m 101 #[.val (.int p0), .val (.int p1), .val (.int p2), .val (.int (J0_3_S0 p0 p1 p2 wH wD wU fN fL fU)), .val (.int (J0_15_S0 p0 p1 p2 wH wD wU fN fL fU)), .val (.int (J0_28_S0 p0 p1 p2 wH wD wU fN fL fU)), .val (.int (1 : Int32)), .val (.ref b39), .val (.ref fL), .unset, .unset, .unset, .unset] [(.ref b39)])) _
          refine XS.aload X56.here hx rfl (hb hby at_101) rfl rfl ?_
          show Steps p.tables e below (T56.setTop (mkF m 103 #[.val (.int p0), .val (.int p1), .val (.int p2), .val (.int (J0_3_S0 p0 p1 p2 wH wD wU fN fL fU)), .val (.int (J0_15_S0 p0 p1 p2 wH wD wU fN fL fU)), .val (.int (J0_28_S0 p0 p1 p2 wH wD wU fN fL fU)), .val (.int (1 : Int32)), .val (.ref b39), .val (.ref fL), .unset, .unset, .unset, .unset] [(.ref fL), (.ref b39)])) _
          refine XS.lconst X56.here hx rfl (hb hby at_103) ?_
          show Steps p.tables e below (T56.setTop (mkF m 104 #[.val (.int p0), .val (.int p1), .val (.int p2), .val (.int (J0_3_S0 p0 p1 p2 wH wD wU fN fL fU)), .val (.int (J0_15_S0 p0 p1 p2 wH wD wU fN fL fU)), .val (.int (J0_28_S0 p0 p1 p2 wH wD wU fN fL fU)), .val (.int (1 : Int32)), .val (.ref b39), .val (.ref fL), .unset, .unset, .unset, .unset] [(.long (0 : Int64)), (.ref fL), (.ref b39)])) _
          refine st57.trans ?_
          show Steps p.tables e below (T57.setTop (mkF m 107 #[.val (.int p0), .val (.int p1), .val (.int p2), .val (.int (J0_3_S0 p0 p1 p2 wH wD wU fN fL fU)), .val (.int (J0_15_S0 p0 p1 p2 wH wD wU fN fL fU)), .val (.int (J0_28_S0 p0 p1 p2 wH wD wU fN fL fU)), .val (.int (1 : Int32)), .val (.ref b39), .val (.ref fL), .unset, .unset, .unset, .unset] [])) _
          refine XS.aload X57.here hx rfl (hb hby at_107) rfl rfl ?_
          show Steps p.tables e below (T57.setTop (mkF m 109 #[.val (.int p0), .val (.int p1), .val (.int p2), .val (.int (J0_3_S0 p0 p1 p2 wH wD wU fN fL fU)), .val (.int (J0_15_S0 p0 p1 p2 wH wD wU fN fL fU)), .val (.int (J0_28_S0 p0 p1 p2 wH wD wU fN fL fU)), .val (.int (1 : Int32)), .val (.ref b39), .val (.ref fL), .unset, .unset, .unset, .unset] [(.ref b39)])) _
          refine st58.trans ?_
          show Steps p.tables e below (T58.setTop (mkF m 112 #[.val (.int p0), .val (.int p1), .val (.int p2), .val (.int (J0_3_S0 p0 p1 p2 wH wD wU fN fL fU)), .val (.int (J0_15_S0 p0 p1 p2 wH wD wU fN fL fU)), .val (.int (J0_28_S0 p0 p1 p2 wH wD wU fN fL fU)), .val (.int (1 : Int32)), .val (.ref b39), .val (.ref fL), .unset, .unset, .unset, .unset] [(.int (1 : Int32))])) _
          refine XS.istore X58.here hx rfl (hb hby at_112) rfl (l' := #[.val (.int p0), .val (.int p1), .val (.int p2), .val (.int (J0_3_S0 p0 p1 p2 wH wD wU fN fL fU)), .val (.int (J0_15_S0 p0 p1 p2 wH wD wU fN fL fU)), .val (.int (J0_28_S0 p0 p1 p2 wH wD wU fN fL fU)), .val (.int (1 : Int32)), .val (.ref b39), .val (.ref fL), .val (.int (1 : Int32)), .unset, .unset, .unset]) rfl ?_
          show Steps p.tables e below (T58.setTop (mkF m 114 #[.val (.int p0), .val (.int p1), .val (.int p2), .val (.int (J0_3_S0 p0 p1 p2 wH wD wU fN fL fU)), .val (.int (J0_15_S0 p0 p1 p2 wH wD wU fN fL fU)), .val (.int (J0_28_S0 p0 p1 p2 wH wD wU fN fL fU)), .val (.int (1 : Int32)), .val (.ref b39), .val (.ref fL), .val (.int (1 : Int32)), .unset, .unset, .unset] [])) _
          refine XS.iload X58.here hx rfl (hb hby at_114) rfl ?_
          show Steps p.tables e below (T58.setTop (mkF m 116 #[.val (.int p0), .val (.int p1), .val (.int p2), .val (.int (J0_3_S0 p0 p1 p2 wH wD wU fN fL fU)), .val (.int (J0_15_S0 p0 p1 p2 wH wD wU fN fL fU)), .val (.int (J0_28_S0 p0 p1 p2 wH wD wU fN fL fU)), .val (.int (1 : Int32)), .val (.ref b39), .val (.ref fL), .val (.int (1 : Int32)), .unset, .unset, .unset] [(.int (1 : Int32))])) _
          refine XS.iconst X58.here hx rfl (hb hby at_116) ?_
          show Steps p.tables e below (T58.setTop (mkF m 117 #[.val (.int p0), .val (.int p1), .val (.int p2), .val (.int (J0_3_S0 p0 p1 p2 wH wD wU fN fL fU)), .val (.int (J0_15_S0 p0 p1 p2 wH wD wU fN fL fU)), .val (.int (J0_28_S0 p0 p1 p2 wH wD wU fN fL fU)), .val (.int (1 : Int32)), .val (.ref b39), .val (.ref fL), .val (.int (1 : Int32)), .unset, .unset, .unset] [(.int (2 : Int32)), (.int (1 : Int32))])) _
          refine XS.icmpNo X58.here hx rfl (hb hby at_117) rfl (feq (by decide : ¬ ((1 : Int32) = (2 : Int32)))).1 ?_
          show Steps p.tables e below (T58.setTop (mkF m 120 #[.val (.int p0), .val (.int p1), .val (.int p2), .val (.int (J0_3_S0 p0 p1 p2 wH wD wU fN fL fU)), .val (.int (J0_15_S0 p0 p1 p2 wH wD wU fN fL fU)), .val (.int (J0_28_S0 p0 p1 p2 wH wD wU fN fL fU)), .val (.int (1 : Int32)), .val (.ref b39), .val (.ref fL), .val (.int (1 : Int32)), .unset, .unset, .unset] [])) _
          refine XS.iconst X58.here hx rfl (hb hby at_120) ?_
          show Steps p.tables e below (T58.setTop (mkF m 121 #[.val (.int p0), .val (.int p1), .val (.int p2), .val (.int (J0_3_S0 p0 p1 p2 wH wD wU fN fL fU)), .val (.int (J0_15_S0 p0 p1 p2 wH wD wU fN fL fU)), .val (.int (J0_28_S0 p0 p1 p2 wH wD wU fN fL fU)), .val (.int (1 : Int32)), .val (.ref b39), .val (.ref fL), .val (.int (1 : Int32)), .unset, .unset, .unset] [(.int (1 : Int32))])) _
          refine XS.goto X58.here hx rfl (pc0 := 121) (pc' := 125) rfl (hb hby at_121) (by decide) (by decide) ?_
          show Steps p.tables e below (T58.setTop (mkF m 125 #[.val (.int p0), .val (.int p1), .val (.int p2), .val (.int (J0_3_S0 p0 p1 p2 wH wD wU fN fL fU)), .val (.int (J0_15_S0 p0 p1 p2 wH wD wU fN fL fU)), .val (.int (J0_28_S0 p0 p1 p2 wH wD wU fN fL fU)), .val (.int (1 : Int32)), .val (.ref b39), .val (.ref fL), .val (.int (1 : Int32)), .unset, .unset, .unset] [(.int (1 : Int32))])) _
          refine XS.istore X58.here hx rfl (hb hby at_125) rfl (l' := #[.val (.int p0), .val (.int p1), .val (.int p2), .val (.int (J0_3_S0 p0 p1 p2 wH wD wU fN fL fU)), .val (.int (J0_15_S0 p0 p1 p2 wH wD wU fN fL fU)), .val (.int (J0_28_S0 p0 p1 p2 wH wD wU fN fL fU)), .val (.int (1 : Int32)), .val (.ref b39), .val (.ref fL), .val (.int (1 : Int32)), .val (.int (1 : Int32)), .unset, .unset]) rfl ?_
          show Steps p.tables e below (T58.setTop (mkF m 127 #[.val (.int p0), .val (.int p1), .val (.int p2), .val (.int (J0_3_S0 p0 p1 p2 wH wD wU fN fL fU)), .val (.int (J0_15_S0 p0 p1 p2 wH wD wU fN fL fU)), .val (.int (J0_28_S0 p0 p1 p2 wH wD wU fN fL fU)), .val (.int (1 : Int32)), .val (.ref b39), .val (.ref fL), .val (.int (1 : Int32)), .val (.int (1 : Int32)), .unset, .unset] [])) _
          refine XS.aload X58.here hx rfl (hb hby at_127) rfl rfl ?_
          show Steps p.tables e below (T58.setTop (mkF m 129 #[.val (.int p0), .val (.int p1), .val (.int p2), .val (.int (J0_3_S0 p0 p1 p2 wH wD wU fN fL fU)), .val (.int (J0_15_S0 p0 p1 p2 wH wD wU fN fL fU)), .val (.int (J0_28_S0 p0 p1 p2 wH wD wU fN fL fU)), .val (.int (1 : Int32)), .val (.ref b39), .val (.ref fL), .val (.int (1 : Int32)), .val (.int (1 : Int32)), .unset, .unset] [(.ref b39)])) _
          refine st59.trans ?_
          show Steps p.tables e below (T59.setTop (mkF m 132 #[.val (.int p0), .val (.int p1), .val (.int p2), .val (.int (J0_3_S0 p0 p1 p2 wH wD wU fN fL fU)), .val (.int (J0_15_S0 p0 p1 p2 wH wD wU fN fL fU)), .val (.int (J0_28_S0 p0 p1 p2 wH wD wU fN fL fU)), .val (.int (1 : Int32)), .val (.ref b39), .val (.ref fL), .val (.int (1 : Int32)), .val (.int (1 : Int32)), .unset, .unset] [(.int (1 : Int32))])) _
          refine XS.istore X59.here hx rfl (hb hby at_132) rfl (l' := #[.val (.int p0), .val (.int p1), .val (.int p2), .val (.int (J0_3_S0 p0 p1 p2 wH wD wU fN fL fU)), .val (.int (J0_15_S0 p0 p1 p2 wH wD wU fN fL fU)), .val (.int (J0_28_S0 p0 p1 p2 wH wD wU fN fL fU)), .val (.int (1 : Int32)), .val (.ref b39), .val (.ref fL), .val (.int (1 : Int32)), .val (.int (1 : Int32)), .val (.int (1 : Int32)), .unset]) rfl ?_
          show Steps p.tables e below (T59.setTop (mkF m 134 #[.val (.int p0), .val (.int p1), .val (.int p2), .val (.int (J0_3_S0 p0 p1 p2 wH wD wU fN fL fU)), .val (.int (J0_15_S0 p0 p1 p2 wH wD wU fN fL fU)), .val (.int (J0_28_S0 p0 p1 p2 wH wD wU fN fL fU)), .val (.int (1 : Int32)), .val (.ref b39), .val (.ref fL), .val (.int (1 : Int32)), .val (.int (1 : Int32)), .val (.int (1 : Int32)), .unset] [])) _
          refine XS.iload X59.here hx rfl (hb hby at_134) rfl ?_
          show Steps p.tables e below (T59.setTop (mkF m 136 #[.val (.int p0), .val (.int p1), .val (.int p2), .val (.int (J0_3_S0 p0 p1 p2 wH wD wU fN fL fU)), .val (.int (J0_15_S0 p0 p1 p2 wH wD wU fN fL fU)), .val (.int (J0_28_S0 p0 p1 p2 wH wD wU fN fL fU)), .val (.int (1 : Int32)), .val (.ref b39), .val (.ref fL), .val (.int (1 : Int32)), .val (.int (1 : Int32)), .val (.int (1 : Int32)), .unset] [(.int (1 : Int32))])) _
          refine XS.iload X59.here hx rfl (hb hby at_136) rfl ?_
          show Steps p.tables e below (T59.setTop (mkF m 138 #[.val (.int p0), .val (.int p1), .val (.int p2), .val (.int (J0_3_S0 p0 p1 p2 wH wD wU fN fL fU)), .val (.int (J0_15_S0 p0 p1 p2 wH wD wU fN fL fU)), .val (.int (J0_28_S0 p0 p1 p2 wH wD wU fN fL fU)), .val (.int (1 : Int32)), .val (.ref b39), .val (.ref fL), .val (.int (1 : Int32)), .val (.int (1 : Int32)), .val (.int (1 : Int32)), .unset] [(.int (1 : Int32)), (.int (1 : Int32))])) _
          refine XS.icmpNo X59.here hx rfl (hb hby at_138) rfl (teq (by decide : (1 : Int32) = (1 : Int32))).2 ?_
          show Steps p.tables e below (T59.setTop (mkF m 141 #[.val (.int p0), .val (.int p1), .val (.int p2), .val (.int (J0_3_S0 p0 p1 p2 wH wD wU fN fL fU)), .val (.int (J0_15_S0 p0 p1 p2 wH wD wU fN fL fU)), .val (.int (J0_28_S0 p0 p1 p2 wH wD wU fN fL fU)), .val (.int (1 : Int32)), .val (.ref b39), .val (.ref fL), .val (.int (1 : Int32)), .val (.int (1 : Int32)), .val (.int (1 : Int32)), .unset] [])) _
          refine XS.iload X59.here hx rfl (hb hby at_141) rfl ?_
          show Steps p.tables e below (T59.setTop (mkF m 143 #[.val (.int p0), .val (.int p1), .val (.int p2), .val (.int (J0_3_S0 p0 p1 p2 wH wD wU fN fL fU)), .val (.int (J0_15_S0 p0 p1 p2 wH wD wU fN fL fU)), .val (.int (J0_28_S0 p0 p1 p2 wH wD wU fN fL fU)), .val (.int (1 : Int32)), .val (.ref b39), .val (.ref fL), .val (.int (1 : Int32)), .val (.int (1 : Int32)), .val (.int (1 : Int32)), .unset] [(.int (1 : Int32))])) _
          refine XS.ifNo X59.here hx rfl (hb hby at_143) rfl ((if0 _ _).trans (feq (by decide : ¬ ((1 : Int32) = (0 : Int32)))).1) ?_
          show Steps p.tables e below (T59.setTop (mkF m 146 #[.val (.int p0), .val (.int p1), .val (.int p2), .val (.int (J0_3_S0 p0 p1 p2 wH wD wU fN fL fU)), .val (.int (J0_15_S0 p0 p1 p2 wH wD wU fN fL fU)), .val (.int (J0_28_S0 p0 p1 p2 wH wD wU fN fL fU)), .val (.int (1 : Int32)), .val (.ref b39), .val (.ref fL), .val (.int (1 : Int32)), .val (.int (1 : Int32)), .val (.int (1 : Int32)), .unset] [])) _
          refine XS.aload X59.here hx rfl (hb hby at_146) rfl rfl ?_
          show Steps p.tables e below (T59.setTop (mkF m 148 #[.val (.int p0), .val (.int p1), .val (.int p2), .val (.int (J0_3_S0 p0 p1 p2 wH wD wU fN fL fU)), .val (.int (J0_15_S0 p0 p1 p2 wH wD wU fN fL fU)), .val (.int (J0_28_S0 p0 p1 p2 wH wD wU fN fL fU)), .val (.int (1 : Int32)), .val (.ref b39), .val (.ref fL), .val (.int (1 : Int32)), .val (.int (1 : Int32)), .val (.int (1 : Int32)), .unset] [(.ref b39)])) _
          refine st60.trans ?_
          show Steps p.tables e below (T60.setTop (mkF m 151 #[.val (.int p0), .val (.int p1), .val (.int p2), .val (.int (J0_3_S0 p0 p1 p2 wH wD wU fN fL fU)), .val (.int (J0_15_S0 p0 p1 p2 wH wD wU fN fL fU)), .val (.int (J0_28_S0 p0 p1 p2 wH wD wU fN fL fU)), .val (.int (1 : Int32)), .val (.ref b39), .val (.ref fL), .val (.int (1 : Int32)), .val (.int (1 : Int32)), .val (.int (1 : Int32)), .unset] [(.int (1 : Int32))])) _
          refine XS.ifNo X60.here hx rfl (hb hby at_151) rfl ((if0 _ _).trans (feq (by decide : ¬ ((1 : Int32) = (0 : Int32)))).1) ?_
          show Steps p.tables e below (T60.setTop (mkF m 154 #[.val (.int p0), .val (.int p1), .val (.int p2), .val (.int (J0_3_S0 p0 p1 p2 wH wD wU fN fL fU)), .val (.int (J0_15_S0 p0 p1 p2 wH wD wU fN fL fU)), .val (.int (J0_28_S0 p0 p1 p2 wH wD wU fN fL fU)), .val (.int (1 : Int32)), .val (.ref b39), .val (.ref fL), .val (.int (1 : Int32)), .val (.int (1 : Int32)), .val (.int (1 : Int32)), .unset] [])) _
          refine XS.aload X60.here hx rfl (hb hby at_154) rfl rfl ?_
          show Steps p.tables e below (T60.setTop (mkF m 156 #[.val (.int p0), .val (.int p1), .val (.int p2), .val (.int (J0_3_S0 p0 p1 p2 wH wD wU fN fL fU)), .val (.int (J0_15_S0 p0 p1 p2 wH wD wU fN fL fU)), .val (.int (J0_28_S0 p0 p1 p2 wH wD wU fN fL fU)), .val (.int (1 : Int32)), .val (.ref b39), .val (.ref fL), .val (.int (1 : Int32)), .val (.int (1 : Int32)), .val (.int (1 : Int32)), .unset] [(.ref b39)])) _
          refine st61.trans ?_
          show Steps p.tables e below (T61.setTop (mkF m 159 #[.val (.int p0), .val (.int p1), .val (.int p2), .val (.int (J0_3_S0 p0 p1 p2 wH wD wU fN fL fU)), .val (.int (J0_15_S0 p0 p1 p2 wH wD wU fN fL fU)), .val (.int (J0_28_S0 p0 p1 p2 wH wD wU fN fL fU)), .val (.int (1 : Int32)), .val (.ref b39), .val (.ref fL), .val (.int (1 : Int32)), .val (.int (1 : Int32)), .val (.int (1 : Int32)), .unset] [(.int (0 : Int32))])) _
          refine XS.ifNo X61.here hx rfl (hb hby at_159) rfl ((if0 _ _).trans (teq (by decide : (0 : Int32) = (0 : Int32))).2) ?_
          show Steps p.tables e below (T61.setTop (mkF m 162 #[.val (.int p0), .val (.int p1), .val (.int p2), .val (.int (J0_3_S0 p0 p1 p2 wH wD wU fN fL fU)), .val (.int (J0_15_S0 p0 p1 p2 wH wD wU fN fL fU)), .val (.int (J0_28_S0 p0 p1 p2 wH wD wU fN fL fU)), .val (.int (1 : Int32)), .val (.ref b39), .val (.ref fL), .val (.int (1 : Int32)), .val (.int (1 : Int32)), .val (.int (1 : Int32)), .unset] [])) _
          refine XS.aload X61.here hx rfl (hb hby at_162) rfl rfl ?_
          show Steps p.tables e below (T61.setTop (mkF m 164 #[.val (.int p0), .val (.int p1), .val (.int p2), .val (.int (J0_3_S0 p0 p1 p2 wH wD wU fN fL fU)), .val (.int (J0_15_S0 p0 p1 p2 wH wD wU fN fL fU)), .val (.int (J0_28_S0 p0 p1 p2 wH wD wU fN fL fU)), .val (.int (1 : Int32)), .val (.ref b39), .val (.ref fL), .val (.int (1 : Int32)), .val (.int (1 : Int32)), .val (.int (1 : Int32)), .unset] [(.ref b39)])) _
          refine st62.trans ?_
          show Steps p.tables e below (T62.setTop (mkF m 167 #[.val (.int p0), .val (.int p1), .val (.int p2), .val (.int (J0_3_S0 p0 p1 p2 wH wD wU fN fL fU)), .val (.int (J0_15_S0 p0 p1 p2 wH wD wU fN fL fU)), .val (.int (J0_28_S0 p0 p1 p2 wH wD wU fN fL fU)), .val (.int (1 : Int32)), .val (.ref b39), .val (.ref fL), .val (.int (1 : Int32)), .val (.int (1 : Int32)), .val (.int (1 : Int32)), .unset] [(.int (0 : Int32))])) _
          refine XS.ifNo X62.here hx rfl (hb hby at_167) rfl ((if0 _ _).trans (teq (by decide : (0 : Int32) = (0 : Int32))).2) ?_
          show Steps p.tables e below (T62.setTop (mkF m 170 #[.val (.int p0), .val (.int p1), .val (.int p2), .val (.int (J0_3_S0 p0 p1 p2 wH wD wU fN fL fU)), .val (.int (J0_15_S0 p0 p1 p2 wH wD wU fN fL fU)), .val (.int (J0_28_S0 p0 p1 p2 wH wD wU fN fL fU)), .val (.int (1 : Int32)), .val (.ref b39), .val (.ref fL), .val (.int (1 : Int32)), .val (.int (1 : Int32)), .val (.int (1 : Int32)), .unset] [])) _
          refine XS.iconst X62.here hx rfl (hb hby at_170) ?_
          show Steps p.tables e below (T62.setTop (mkF m 171 #[.val (.int p0), .val (.int p1), .val (.int p2), .val (.int (J0_3_S0 p0 p1 p2 wH wD wU fN fL fU)), .val (.int (J0_15_S0 p0 p1 p2 wH wD wU fN fL fU)), .val (.int (J0_28_S0 p0 p1 p2 wH wD wU fN fL fU)), .val (.int (1 : Int32)), .val (.ref b39), .val (.ref fL), .val (.int (1 : Int32)), .val (.int (1 : Int32)), .val (.int (1 : Int32)), .unset] [(.int (1 : Int32))])) _
          refine XS.goto X62.here hx rfl (pc0 := 171) (pc' := 175) rfl (hb hby at_171) (by decide) (by decide) ?_
          show Steps p.tables e below (T62.setTop (mkF m 175 #[.val (.int p0), .val (.int p1), .val (.int p2), .val (.int (J0_3_S0 p0 p1 p2 wH wD wU fN fL fU)), .val (.int (J0_15_S0 p0 p1 p2 wH wD wU fN fL fU)), .val (.int (J0_28_S0 p0 p1 p2 wH wD wU fN fL fU)), .val (.int (1 : Int32)), .val (.ref b39), .val (.ref fL), .val (.int (1 : Int32)), .val (.int (1 : Int32)), .val (.int (1 : Int32)), .unset] [(.int (1 : Int32))])) _
          refine XS.istore X62.here hx rfl (hb hby at_175) rfl (l' := #[.val (.int p0), .val (.int p1), .val (.int p2), .val (.int (J0_3_S0 p0 p1 p2 wH wD wU fN fL fU)), .val (.int (J0_15_S0 p0 p1 p2 wH wD wU fN fL fU)), .val (.int (J0_28_S0 p0 p1 p2 wH wD wU fN fL fU)), .val (.int (1 : Int32)), .val (.ref b39), .val (.ref fL), .val (.int (1 : Int32)), .val (.int (1 : Int32)), .val (.int (1 : Int32)), .val (.int (1 : Int32))]) rfl ?_
          show Steps p.tables e below (T62.setTop (mkF m 177 #[.val (.int p0), .val (.int p1), .val (.int p2), .val (.int (J0_3_S0 p0 p1 p2 wH wD wU fN fL fU)), .val (.int (J0_15_S0 p0 p1 p2 wH wD wU fN fL fU)), .val (.int (J0_28_S0 p0 p1 p2 wH wD wU fN fL fU)), .val (.int (1 : Int32)), .val (.ref b39), .val (.ref fL), .val (.int (1 : Int32)), .val (.int (1 : Int32)), .val (.int (1 : Int32)), .val (.int (1 : Int32))] [])) _
          refine XS.iload X62.here hx rfl (hb hby at_177) rfl ?_
          exact kt)
        by_cases hc179 : (J0_28_S0 p0 p1 p2 wH wD wU fN fL fU) = (0 : Int32)
        · obtain ⟨fs, hr, hrun, hended, hW, hsame⟩ := X62.leave (v := some (.int (1 : Int32))) (fun h => by rw [Bd.returns] at h; cases h)
          refine ⟨_, _, pre63 _ ?_, hrun, hended, _, _, rfl, ?_, ⟨_, rfl⟩, hW, hsame.mono (by decide) (by decide)⟩
          · show Steps p.tables e below (T62.setTop (mkF m 179 #[.val (.int p0), .val (.int p1), .val (.int p2), .val (.int (J0_3_S0 p0 p1 p2 wH wD wU fN fL fU)), .val (.int (J0_15_S0 p0 p1 p2 wH wD wU fN fL fU)), .val (.int (J0_28_S0 p0 p1 p2 wH wD wU fN fL fU)), .val (.int (1 : Int32)), .val (.ref b39), .val (.ref fL), .val (.int (1 : Int32)), .val (.int (1 : Int32)), .val (.int (1 : Int32)), .val (.int (1 : Int32))] [(.int (J0_28_S0 p0 p1 p2 wH wD wU fN fL fU))])) _
            refine XS.ifYes X62.here hx rfl (pc0 := 179) (pc' := 210) rfl (hb hby at_179) rfl ((if0 _ _).trans (teq hc179).1) (by decide) (by decide) ?_
            show Steps p.tables e below (T62.setTop (mkF m 210 #[.val (.int p0), .val (.int p1), .val (.int p2), .val (.int (J0_3_S0 p0 p1 p2 wH wD wU fN fL fU)), .val (.int (J0_15_S0 p0 p1 p2 wH wD wU fN fL fU)), .val (.int (J0_28_S0 p0 p1 p2 wH wD wU fN fL fU)), .val (.int (1 : Int32)), .val (.ref b39), .val (.ref fL), .val (.int (1 : Int32)), .val (.int (1 : Int32)), .val (.int (1 : Int32)), .val (.int (1 : Int32))] [])) _
            refine XS.iload X62.here hx rfl (hb hby at_210) rfl ?_
            show Steps p.tables e below (T62.setTop (mkF m 212 #[.val (.int p0), .val (.int p1), .val (.int p2), .val (.int (J0_3_S0 p0 p1 p2 wH wD wU fN fL fU)), .val (.int (J0_15_S0 p0 p1 p2 wH wD wU fN fL fU)), .val (.int (J0_28_S0 p0 p1 p2 wH wD wU fN fL fU)), .val (.int (1 : Int32)), .val (.ref b39), .val (.ref fL), .val (.int (1 : Int32)), .val (.int (1 : Int32)), .val (.int (1 : Int32)), .val (.int (1 : Int32))] [(.int (1 : Int32))])) _
            exact retN X62 hx (t := .boolean) Bd.returns (by simp) (hb hby at_212) hr
          · show Q0 Z p0 p1 p2 wH wD wU fN fL fU h0 n0 _ T62.heap _
            rw [e62]
            exact ⟨(by unfold F0; simp only [if_neg hi0, if_pos hi1, if_neg hc59, if_pos hc179]), N62⟩
        · obtain ⟨cq64, kq64, q64a, q64b, q64c⟩ := isOf hZ e62 P57_0
          obtain ⟨_, _, ⟨T64, L64, k64, n64⟩, -, X64, ⟨Lc64, hQ64, ll64, ly64, lz64⟩, st64⟩ := X62.virtualBack hx (y := (⟨"com/example/admission_for_endpoints/admissionforendpoints/MessageReader", "end", "()Z"⟩ : MethodName)) (z := (⟨"com/example/admission_for_endpoints/admissionforendpoints/MessageReader", "end", "()Z"⟩ : MethodName)) hown (mvT hZ (hw _ (List.mem_of_getElem? (i := 64) rfl))) (mvT hZ (hw _ (List.mem_of_getElem? (i := 65) rfl))) (notFace_of_selects (args := #[]) (mvT hZ (hw _ (List.mem_of_getElem? (i := 67) rfl)))) (mvT hZ (hw _ (List.mem_of_getElem? (i := 67) rfl))) (mvT hZ (hw _ (List.mem_of_getElem? (i := 66) rfl))) (by decide) (backOf (W := 0) (rm8d l Z a0 hw [] b39 wD wU T57.heap n0 (Nat.le_trans (Nat.le_trans (Nat.le_trans (Nat.le_trans Z0 E39.1) K43c.1) K55c.1) K57c.1) P57_1 (own_staK (own_staK (own_staK (Sta.ext E39 S_wD) K43c (allS (own_exaN A39) all0)) K55c (allS (own_exaN P43_0) all0)) K57c (allS (own_exaN P55_0) all0)) (own_staK (own_staK (own_staK (Sta.ext E39 S_wU) K43c (allS (own_exaN A39) all0)) K55c (allS (own_exaN P43_0) all0)) K57c (allS (own_exaN P55_0) all0)) ne_UD) hZ (hw _ (List.mem_of_getElem? (i := 68) rfl)) (hw _ (List.mem_of_getElem? (i := 3) rfl)) (by decide) (by decide)) q64a q64c (g := (mkF m 189 #[.val (.int p0), .val (.int p1), .val (.int p2), .val (.int (J0_3_S0 p0 p1 p2 wH wD wU fN fL fU)), .val (.int (J0_15_S0 p0 p1 p2 wH wD wU fN fL fU)), .val (.int (J0_28_S0 p0 p1 p2 wH wD wU fN fL fU)), .val (.int (1 : Int32)), .val (.ref b39), .val (.ref fL), .val (.int (1 : Int32)), .val (.int (1 : Int32)), .val (.int (1 : Int32)), .val (.int (1 : Int32))] [(.ref b39)])) rfl (by rw [hml]; rfl) (Steps.refl _) (argsL := []) (rest := []) (lenOf pd___Z rfl) rfl (by show 2 * 0 + _ ≤ _; exact Nat.le_of_eq rfl) (hb hby at_189) (fun _ _ => ⟨rfl, e62, (by decide : 3 + 0 ≤ _), (by decide : 267 + 0 ≤ _)⟩)
          dsimp only [Pt.U, Pt.locs, Pt.cells, Pt.slots] at X64 ll64 ly64 lz64 st64 hQ64
          subst ll64 ly64 lz64
          obtain ⟨rfl, N64q, e64⟩ := hQ64
          have N64 := Fr.app N62 N64q
          obtain ⟨cq65, kq65, q65a, q65b, q65c⟩ := isOf hZ e64 P57_0
          obtain ⟨_, _, ⟨T65, L65, k65, n65⟩, -, X65, ⟨Lc65, hQ65, ll65, ly65, lz65⟩, st65⟩ := X64.virtualBack hx (y := (⟨"com/example/admission_for_endpoints/admissionforendpoints/MessageReader", "ended", "()Z"⟩ : MethodName)) (z := (⟨"com/example/admission_for_endpoints/admissionforendpoints/MessageReader", "ended", "()Z"⟩ : MethodName)) hown (mvT hZ (hw _ (List.mem_of_getElem? (i := 57) rfl))) (mvT hZ (hw _ (List.mem_of_getElem? (i := 58) rfl))) (notFace_of_selects (args := #[]) (mvT hZ (hw _ (List.mem_of_getElem? (i := 60) rfl)))) (mvT hZ (hw _ (List.mem_of_getElem? (i := 60) rfl))) (mvT hZ (hw _ (List.mem_of_getElem? (i := 59) rfl))) (by decide) (backOf (W := 0) (rm7d l Z a0 hw [] b39 wD T57.heap n0 (Nat.le_trans (Nat.le_trans (Nat.le_trans (Nat.le_trans Z0 E39.1) K43c.1) K55c.1) K57c.1) P57_1 (own_staK (own_staK (own_staK (Sta.ext E39 S_wD) K43c (allS (own_exaN A39) all0)) K55c (allS (own_exaN P43_0) all0)) K57c (allS (own_exaN P55_0) all0))) hZ (hw _ (List.mem_of_getElem? (i := 61) rfl)) (hw _ (List.mem_of_getElem? (i := 3) rfl)) (by decide) (by decide)) q65a q65c (g := (mkF m 197 #[.val (.int p0), .val (.int p1), .val (.int p2), .val (.int (J0_3_S0 p0 p1 p2 wH wD wU fN fL fU)), .val (.int (J0_15_S0 p0 p1 p2 wH wD wU fN fL fU)), .val (.int (J0_28_S0 p0 p1 p2 wH wD wU fN fL fU)), .val (.int (1 : Int32)), .val (.ref b39), .val (.ref fL), .val (.int (1 : Int32)), .val (.int (1 : Int32)), .val (.int (1 : Int32)), .val (.int (1 : Int32))] [(.ref b39)])) rfl (by rw [hml]; rfl) (Steps.refl _) (argsL := []) (rest := []) (lenOf pd___Z rfl) rfl (by show 2 * 0 + _ ≤ _; exact Nat.le_of_eq rfl) (hb hby at_197) (fun _ _ => ⟨rfl, e64, (by decide : 3 + 0 ≤ _), (by decide : 267 + 0 ≤ _)⟩)
          dsimp only [Pt.U, Pt.locs, Pt.cells, Pt.slots] at X65 ll65 ly65 lz65 st65 hQ65
          subst ll65 ly65 lz65
          obtain ⟨rfl, N65q, e65⟩ := hQ65
          have N65 := Fr.app N64 N65q
          obtain ⟨fs, hr, hrun, hended, hW, hsame⟩ := X65.leave (v := some (.int (1 : Int32))) (fun h => by rw [Bd.returns] at h; cases h)
          refine ⟨_, _, pre63 _ ?_, hrun, hended, _, _, rfl, ?_, ⟨_, rfl⟩, hW, hsame.mono (by decide) (by decide)⟩
          · show Steps p.tables e below (T62.setTop (mkF m 179 #[.val (.int p0), .val (.int p1), .val (.int p2), .val (.int (J0_3_S0 p0 p1 p2 wH wD wU fN fL fU)), .val (.int (J0_15_S0 p0 p1 p2 wH wD wU fN fL fU)), .val (.int (J0_28_S0 p0 p1 p2 wH wD wU fN fL fU)), .val (.int (1 : Int32)), .val (.ref b39), .val (.ref fL), .val (.int (1 : Int32)), .val (.int (1 : Int32)), .val (.int (1 : Int32)), .val (.int (1 : Int32))] [(.int (J0_28_S0 p0 p1 p2 wH wD wU fN fL fU))])) _
            refine XS.ifNo X62.here hx rfl (hb hby at_179) rfl ((if0 _ _).trans (feq hc179).1) ?_
            show Steps p.tables e below (T62.setTop (mkF m 182 #[.val (.int p0), .val (.int p1), .val (.int p2), .val (.int (J0_3_S0 p0 p1 p2 wH wD wU fN fL fU)), .val (.int (J0_15_S0 p0 p1 p2 wH wD wU fN fL fU)), .val (.int (J0_28_S0 p0 p1 p2 wH wD wU fN fL fU)), .val (.int (1 : Int32)), .val (.ref b39), .val (.ref fL), .val (.int (1 : Int32)), .val (.int (1 : Int32)), .val (.int (1 : Int32)), .val (.int (1 : Int32))] [])) _
            refine XS.iload X62.here hx rfl (hb hby at_182) rfl ?_
            show Steps p.tables e below (T62.setTop (mkF m 184 #[.val (.int p0), .val (.int p1), .val (.int p2), .val (.int (J0_3_S0 p0 p1 p2 wH wD wU fN fL fU)), .val (.int (J0_15_S0 p0 p1 p2 wH wD wU fN fL fU)), .val (.int (J0_28_S0 p0 p1 p2 wH wD wU fN fL fU)), .val (.int (1 : Int32)), .val (.ref b39), .val (.ref fL), .val (.int (1 : Int32)), .val (.int (1 : Int32)), .val (.int (1 : Int32)), .val (.int (1 : Int32))] [(.int (1 : Int32))])) _
            refine XS.ifNo X62.here hx rfl (hb hby at_184) rfl ((if0 _ _).trans (feq (by decide : ¬ ((1 : Int32) = (0 : Int32)))).1) ?_
            show Steps p.tables e below (T62.setTop (mkF m 187 #[.val (.int p0), .val (.int p1), .val (.int p2), .val (.int (J0_3_S0 p0 p1 p2 wH wD wU fN fL fU)), .val (.int (J0_15_S0 p0 p1 p2 wH wD wU fN fL fU)), .val (.int (J0_28_S0 p0 p1 p2 wH wD wU fN fL fU)), .val (.int (1 : Int32)), .val (.ref b39), .val (.ref fL), .val (.int (1 : Int32)), .val (.int (1 : Int32)), .val (.int (1 : Int32)), .val (.int (1 : Int32))] [])) _
            refine XS.aload X62.here hx rfl (hb hby at_187) rfl rfl ?_
            show Steps p.tables e below (T62.setTop (mkF m 189 #[.val (.int p0), .val (.int p1), .val (.int p2), .val (.int (J0_3_S0 p0 p1 p2 wH wD wU fN fL fU)), .val (.int (J0_15_S0 p0 p1 p2 wH wD wU fN fL fU)), .val (.int (J0_28_S0 p0 p1 p2 wH wD wU fN fL fU)), .val (.int (1 : Int32)), .val (.ref b39), .val (.ref fL), .val (.int (1 : Int32)), .val (.int (1 : Int32)), .val (.int (1 : Int32)), .val (.int (1 : Int32))] [(.ref b39)])) _
            refine st64.trans ?_
            show Steps p.tables e below (T64.setTop (mkF m 192 #[.val (.int p0), .val (.int p1), .val (.int p2), .val (.int (J0_3_S0 p0 p1 p2 wH wD wU fN fL fU)), .val (.int (J0_15_S0 p0 p1 p2 wH wD wU fN fL fU)), .val (.int (J0_28_S0 p0 p1 p2 wH wD wU fN fL fU)), .val (.int (1 : Int32)), .val (.ref b39), .val (.ref fL), .val (.int (1 : Int32)), .val (.int (1 : Int32)), .val (.int (1 : Int32)), .val (.int (1 : Int32))] [(.int (1 : Int32))])) _
            refine XS.ifNo X64.here hx rfl (hb hby at_192) rfl ((if0 _ _).trans (feq (by decide : ¬ ((1 : Int32) = (0 : Int32)))).1) ?_
            show Steps p.tables e below (T64.setTop (mkF m 195 #[.val (.int p0), .val (.int p1), .val (.int p2), .val (.int (J0_3_S0 p0 p1 p2 wH wD wU fN fL fU)), .val (.int (J0_15_S0 p0 p1 p2 wH wD wU fN fL fU)), .val (.int (J0_28_S0 p0 p1 p2 wH wD wU fN fL fU)), .val (.int (1 : Int32)), .val (.ref b39), .val (.ref fL), .val (.int (1 : Int32)), .val (.int (1 : Int32)), .val (.int (1 : Int32)), .val (.int (1 : Int32))] [])) _
            refine XS.aload X64.here hx rfl (hb hby at_195) rfl rfl ?_
            show Steps p.tables e below (T64.setTop (mkF m 197 #[.val (.int p0), .val (.int p1), .val (.int p2), .val (.int (J0_3_S0 p0 p1 p2 wH wD wU fN fL fU)), .val (.int (J0_15_S0 p0 p1 p2 wH wD wU fN fL fU)), .val (.int (J0_28_S0 p0 p1 p2 wH wD wU fN fL fU)), .val (.int (1 : Int32)), .val (.ref b39), .val (.ref fL), .val (.int (1 : Int32)), .val (.int (1 : Int32)), .val (.int (1 : Int32)), .val (.int (1 : Int32))] [(.ref b39)])) _
            refine st65.trans ?_
            show Steps p.tables e below (T65.setTop (mkF m 200 #[.val (.int p0), .val (.int p1), .val (.int p2), .val (.int (J0_3_S0 p0 p1 p2 wH wD wU fN fL fU)), .val (.int (J0_15_S0 p0 p1 p2 wH wD wU fN fL fU)), .val (.int (J0_28_S0 p0 p1 p2 wH wD wU fN fL fU)), .val (.int (1 : Int32)), .val (.ref b39), .val (.ref fL), .val (.int (1 : Int32)), .val (.int (1 : Int32)), .val (.int (1 : Int32)), .val (.int (1 : Int32))] [(.int (1 : Int32))])) _
            refine XS.ifNo X65.here hx rfl (hb hby at_200) rfl ((if0 _ _).trans (feq (by decide : ¬ ((1 : Int32) = (0 : Int32)))).1) ?_
            show Steps p.tables e below (T65.setTop (mkF m 203 #[.val (.int p0), .val (.int p1), .val (.int p2), .val (.int (J0_3_S0 p0 p1 p2 wH wD wU fN fL fU)), .val (.int (J0_15_S0 p0 p1 p2 wH wD wU fN fL fU)), .val (.int (J0_28_S0 p0 p1 p2 wH wD wU fN fL fU)), .val (.int (1 : Int32)), .val (.ref b39), .val (.ref fL), .val (.int (1 : Int32)), .val (.int (1 : Int32)), .val (.int (1 : Int32)), .val (.int (1 : Int32))] [])) _
            refine XS.iconst X65.here hx rfl (hb hby at_203) ?_
            show Steps p.tables e below (T65.setTop (mkF m 204 #[.val (.int p0), .val (.int p1), .val (.int p2), .val (.int (J0_3_S0 p0 p1 p2 wH wD wU fN fL fU)), .val (.int (J0_15_S0 p0 p1 p2 wH wD wU fN fL fU)), .val (.int (J0_28_S0 p0 p1 p2 wH wD wU fN fL fU)), .val (.int (1 : Int32)), .val (.ref b39), .val (.ref fL), .val (.int (1 : Int32)), .val (.int (1 : Int32)), .val (.int (1 : Int32)), .val (.int (1 : Int32))] [(.int (1 : Int32))])) _
            refine XS.goto X65.here hx rfl (pc0 := 204) (pc' := 208) rfl (hb hby at_204) (by decide) (by decide) ?_
            show Steps p.tables e below (T65.setTop (mkF m 208 #[.val (.int p0), .val (.int p1), .val (.int p2), .val (.int (J0_3_S0 p0 p1 p2 wH wD wU fN fL fU)), .val (.int (J0_15_S0 p0 p1 p2 wH wD wU fN fL fU)), .val (.int (J0_28_S0 p0 p1 p2 wH wD wU fN fL fU)), .val (.int (1 : Int32)), .val (.ref b39), .val (.ref fL), .val (.int (1 : Int32)), .val (.int (1 : Int32)), .val (.int (1 : Int32)), .val (.int (1 : Int32))] [(.int (1 : Int32))])) _
            refine XS.istore X65.here hx rfl (hb hby at_208) rfl (l' := #[.val (.int p0), .val (.int p1), .val (.int p2), .val (.int (J0_3_S0 p0 p1 p2 wH wD wU fN fL fU)), .val (.int (J0_15_S0 p0 p1 p2 wH wD wU fN fL fU)), .val (.int (J0_28_S0 p0 p1 p2 wH wD wU fN fL fU)), .val (.int (1 : Int32)), .val (.ref b39), .val (.ref fL), .val (.int (1 : Int32)), .val (.int (1 : Int32)), .val (.int (1 : Int32)), .val (.int (1 : Int32))]) rfl ?_
            show Steps p.tables e below (T65.setTop (mkF m 210 #[.val (.int p0), .val (.int p1), .val (.int p2), .val (.int (J0_3_S0 p0 p1 p2 wH wD wU fN fL fU)), .val (.int (J0_15_S0 p0 p1 p2 wH wD wU fN fL fU)), .val (.int (J0_28_S0 p0 p1 p2 wH wD wU fN fL fU)), .val (.int (1 : Int32)), .val (.ref b39), .val (.ref fL), .val (.int (1 : Int32)), .val (.int (1 : Int32)), .val (.int (1 : Int32)), .val (.int (1 : Int32))] [])) _
            refine XS.iload X65.here hx rfl (hb hby at_210) rfl ?_
            show Steps p.tables e below (T65.setTop (mkF m 212 #[.val (.int p0), .val (.int p1), .val (.int p2), .val (.int (J0_3_S0 p0 p1 p2 wH wD wU fN fL fU)), .val (.int (J0_15_S0 p0 p1 p2 wH wD wU fN fL fU)), .val (.int (J0_28_S0 p0 p1 p2 wH wD wU fN fL fU)), .val (.int (1 : Int32)), .val (.ref b39), .val (.ref fL), .val (.int (1 : Int32)), .val (.int (1 : Int32)), .val (.int (1 : Int32)), .val (.int (1 : Int32))] [(.int (1 : Int32))])) _
            exact retN X65 hx (t := .boolean) Bd.returns (by simp) (hb hby at_212) hr
          · show Q0 Z p0 p1 p2 wH wD wU fN fL fU h0 n0 _ T65.heap _
            rw [e65]
            exact ⟨(by unfold F0; simp only [if_neg hi0, if_pos hi1, if_neg hc59, if_neg hc179]), N65⟩
    · by_cases hi2 : (A0_44 p0 p1 p2 wH wD wU fN fL fU) = (2 : Int32)
      · have qr66 : (A0_44 p0 p1 p2 wH wD wU fN fL fU) = (2 : Int32) := hi2
        have pre67 : ∀ t, Steps p.tables e below (Tj6.setTop (mkF m 46 #[.val (.int p0), .val (.int p1), .val (.int p2), .val (.int (J0_3_S0 p0 p1 p2 wH wD wU fN fL fU)), .val (.int (J0_15_S0 p0 p1 p2 wH wD wU fN fL fU)), .val (.int (J0_28_S0 p0 p1 p2 wH wD wU fN fL fU)), .val (.int (2 : Int32)), .unset, .unset, .unset, .unset, .unset, .unset] [])) t → Steps p.tables e below (s₁.setTop (entryFrame m #[(.int p0), (.int p1), (.int p2)] maxLocals)) t := fun t kt => pre7 t (by rw [qr66]; exact kt)
        obtain ⟨T68, h68, X68, e68, E68, A68, D68, U68, st68⟩ := newO Xj6 hx hZ hown (hw _ (List.mem_of_getElem? (i := 1) rfl)) (hw _ (List.mem_of_getElem? (i := 2) rfl)) (hw _ (List.mem_of_getElem? (i := 3) rfl)) ej6 (g := (mkF m 46 #[.val (.int p0), .val (.int p1), .val (.int p2), .val (.int (J0_3_S0 p0 p1 p2 wH wD wU fN fL fU)), .val (.int (J0_15_S0 p0 p1 p2 wH wD wU fN fL fU)), .val (.int (J0_28_S0 p0 p1 p2 wH wD wU fN fL fU)), .val (.int (2 : Int32)), .unset, .unset, .unset, .unset, .unset, .unset] [])) rfl (hb hby at_46) (by decide) (by decide)
        obtain ⟨b68, g68⟩ : ∃ z, z = h0.size := ⟨_, rfl⟩
        rw [← g68] at A68 D68 st68
        have ne69 : fN ≠ b68 := Nat.ne_of_lt (Nat.lt_of_lt_of_le E_fN.lt (Nat.le_of_eq g68.symm))
        have ne70 : fL ≠ b68 := Nat.ne_of_lt (Nat.lt_of_lt_of_le E_fL.lt (Nat.le_of_eq g68.symm))
        have ne71 : fU ≠ b68 := Nat.ne_of_lt (Nat.lt_of_lt_of_le E_fU.lt (Nat.le_of_eq g68.symm))
        have g_b68 : n0 ≤ b68 := Nat.le_trans Z0 (Nat.le_of_eq g68.symm)
        have sz_b68 : h0.size ≤ b68 := Nat.le_trans (Keep.refl h0 []).1 (Nat.le_of_eq g68.symm)
        have K68 : Keep h0 h68 [] := (Keep.refl h0 []).ext E68
        have F_stage_b68 : Fld Z h68 b68 "com/example/admission_for_endpoints/admissionforendpoints/MessageReader" "stage" "Lcom/example/admission_for_endpoints/admissionforendpoints/MessageReader$Stage;" .null := D68 (Or.inl (hw _ (List.mem_of_getElem? (i := 14) rfl))) (ty := (.object "com/example/admission_for_endpoints/admissionforendpoints/MessageReader$Stage")) (by decide)
        have F_line_b68 : Fld Z h68 b68 "com/example/admission_for_endpoints/admissionforendpoints/MessageReader" "line" "[B" .null := D68 (Or.inl (hw _ (List.mem_of_getElem? (i := 17) rfl))) (ty := (.array .byte)) (by decide)
        have F_body_b68 : Fld Z h68 b68 "com/example/admission_for_endpoints/admissionforendpoints/MessageReader" "body" "[B" .null := D68 (Or.inl (hw _ (List.mem_of_getElem? (i := 19) rfl))) (ty := (.array .byte)) (by decide)
        have F_maxBodyBytes_b68 : Fld Z h68 b68 "com/example/admission_for_endpoints/admissionforendpoints/MessageReader" "maxBodyBytes" "I" (.int (0 : Int32)) := D68 (Or.inr (hw _ (List.mem_of_getElem? (i := 21) rfl))) (ty := .int) (by decide)
        have F_cutOffAtBound_b68 : Fld Z h68 b68 "com/example/admission_for_endpoints/admissionforendpoints/MessageReader" "cutOffAtBound" "Z" (.int (0 : Int32)) := D68 (Or.inr (hw _ (List.mem_of_getElem? (i := 23) rfl))) (ty := .boolean) (by decide)
        have F_dropping_b68 : Fld Z h68 b68 "com/example/admission_for_endpoints/admissionforendpoints/MessageReader" "dropping" "Z" (.int (0 : Int32)) := D68 (Or.inl (hw _ (List.mem_of_getElem? (i := 30) rfl))) (ty := .boolean) (by decide)
        have F_lineBytes_b68 : Fld Z h68 b68 "com/example/admission_for_endpoints/admissionforendpoints/MessageReader" "lineBytes" "I" (.int (0 : Int32)) := D68 (Or.inl (hw _ (List.mem_of_getElem? (i := 40) rfl))) (ty := .int) (by decide)
        have F_truncated_b68 : Fld Z h68 b68 "com/example/admission_for_endpoints/admissionforendpoints/MessageReader" "truncated" "Z" (.int (0 : Int32)) := D68 (Or.inl (hw _ (List.mem_of_getElem? (i := 75) rfl))) (ty := .boolean) (by decide)
        have F_bodyBytes_b68 : Fld Z h68 b68 "com/example/admission_for_endpoints/admissionforendpoints/MessageReader" "bodyBytes" "I" (.int (0 : Int32)) := D68 (Or.inl (hw _ (List.mem_of_getElem? (i := 82) rfl))) (ty := .int) (by decide)
        have F_left_b68 : Fld Z h68 b68 "com/example/admission_for_endpoints/admissionforendpoints/MessageReader" "left" "J" (.long (0 : Int64)) := D68 (Or.inl (hw _ (List.mem_of_getElem? (i := 88) rfl))) (ty := .long) (by decide)
        obtain ⟨_, _, ⟨T72, L72, k72, n72⟩, -, X72, ⟨Lc72, hQ72, ll72, ly72, lz72⟩, st72⟩ := X68.specialBack hx (y := (⟨"com/example/admission_for_endpoints/admissionforendpoints/MessageReader", "<init>", "(IZ)V"⟩ : MethodName)) rfl hown (mvT hZ (hw _ (List.mem_of_getElem? (i := 4) rfl))) (mvT hZ (hw _ (List.mem_of_getElem? (i := 5) rfl))) (mvT hZ (hw _ (List.mem_of_getElem? (i := 6) rfl))) (by decide) (backOf (W := 1) (rm1 l Z a0 hw [] b68 p0 (J0_3_S0 p0 p1 p2 wH wD wU fN fL fU) wH h68 n0 (Nat.le_trans Z0 E68.1) A68 F_stage_b68 F_body_b68 F_maxBodyBytes_b68 F_dropping_b68 F_lineBytes_b68 F_truncated_b68 F_bodyBytes_b68 F_left_b68 F_line_b68 F_cutOffAtBound_b68 (Sta.ext E68 S_wH) g_b68) hZ (hw _ (List.mem_of_getElem? (i := 6) rfl)) (hw _ (List.mem_of_getElem? (i := 3) rfl)) (by decide) (by decide)) (g := (mkF m 52 #[.val (.int p0), .val (.int p1), .val (.int p2), .val (.int (J0_3_S0 p0 p1 p2 wH wD wU fN fL fU)), .val (.int (J0_15_S0 p0 p1 p2 wH wD wU fN fL fU)), .val (.int (J0_28_S0 p0 p1 p2 wH wD wU fN fL fU)), .val (.int (2 : Int32)), .unset, .unset, .unset, .unset, .unset, .unset] [(.int (J0_3_S0 p0 p1 p2 wH wD wU fN fL fU)), (.int p0), (.ref b68), (.ref b68)])) rfl (by rw [hml]; rfl) (Steps.refl _) (a := b68) (argsL := [(.int p0), (.int (J0_3_S0 p0 p1 p2 wH wD wU fN fL fU))]) (rest := [(.ref b68)]) (lenOf pd__IZ_V rfl) rfl (by show 2 * 0 + _ ≤ _; exact Nat.le_of_eq rfl) (hb hby at_52) (fun _ _ => ⟨rfl, e68, (by decide : 1 + 2 ≤ _), (by decide : 11 + 256 ≤ _)⟩)
        dsimp only [Pt.U, Pt.locs, Pt.cells, Pt.slots] at X72 ll72 ly72 lz72 st72 hQ72
        subst ll72 ly72 lz72
        obtain ⟨ab72, kb72, rfl, N72q, K72c, P72_0, P72_1, P72_2, P72_3, P72_4, P72_5, P72_6, P72_7, P72_8, P72_9, P72_10⟩ := hQ72
        have N72 := Fr.app Nj6 N72q
        have K72 : Keep h0 T72.heap [] := K68.trans K72c (allS (Or.inr sz_b68) all0)
        have pre73 : ∀ t, Steps p.tables e below (T72.setTop (mkF m 59 #[.val (.int p0), .val (.int p1), .val (.int p2), .val (.int (J0_3_S0 p0 p1 p2 wH wD wU fN fL fU)), .val (.int (J0_15_S0 p0 p1 p2 wH wD wU fN fL fU)), .val (.int (J0_28_S0 p0 p1 p2 wH wD wU fN fL fU)), .val (.int (2 : Int32)), .val (.ref b68), .unset, .unset, .unset, .unset, .unset] [(.int (J0_15_S0 p0 p1 p2 wH wD wU fN fL fU))])) t → Steps p.tables e below (s₁.setTop (entryFrame m #[(.int p0), (.int p1), (.int p2)] maxLocals)) t := fun t kt => pre67 t (by
          show Steps p.tables e below (Tj6.setTop (mkF m 46 #[.val (.int p0), .val (.int p1), .val (.int p2), .val (.int (J0_3_S0 p0 p1 p2 wH wD wU fN fL fU)), .val (.int (J0_15_S0 p0 p1 p2 wH wD wU fN fL fU)), .val (.int (J0_28_S0 p0 p1 p2 wH wD wU fN fL fU)), .val (.int (2 : Int32)), .unset, .unset, .unset, .unset, .unset, .unset] [])) _
          refine st68 _ ?_
          show Steps p.tables e below (T68.setTop (mkF m 49 #[.val (.int p0), .val (.int p1), .val (.int p2), .val (.int (J0_3_S0 p0 p1 p2 wH wD wU fN fL fU)), .val (.int (J0_15_S0 p0 p1 p2 wH wD wU fN fL fU)), .val (.int (J0_28_S0 p0 p1 p2 wH wD wU fN fL fU)), .val (.int (2 : Int32)), .unset, .unset, .unset, .unset, .unset, .unset] [(.ref b68)])) _
          refine XS.dup X68.here hx rfl (hb hby at_49) rfl rfl ?_
          show Steps p.tables e below (T68.setTop (mkF m 50 #[.val (.int p0), .val (.int p1), .val (.int p2), .val (.int (J0_3_S0 p0 p1 p2 wH wD wU fN fL fU)), .val (.int (J0_15_S0 p0 p1 p2 wH wD wU fN fL fU)), .val (.int (J0_28_S0 p0 p1 p2 wH wD wU fN fL fU)), .val (.int (2 : Int32)), .unset, .unset, .unset, .unset, .unset, .unset] [(.ref b68), (.ref b68)])) _
          refine XS.iloadN X68.here hx rfl (hb hby at_50) rfl ?_
          show Steps p.tables e below (T68.setTop (mkF m 51 #[.val (.int p0), .val (.int p1), .val (.int p2), .val (.int (J0_3_S0 p0 p1 p2 wH wD wU fN fL fU)), .val (.int (J0_15_S0 p0 p1 p2 wH wD wU fN fL fU)), .val (.int (J0_28_S0 p0 p1 p2 wH wD wU fN fL fU)), .val (.int (2 : Int32)), .unset, .unset, .unset, .unset, .unset, .unset] [(.int p0), (.ref b68), (.ref b68)])) _
          refine XS.iloadN X68.here hx rfl (hb hby at_51) rfl ?_
          show Steps p.tables e below (T68.setTop (mkF m 52 #[.val (.int p0), .val (.int p1), .val (.int p2), .val (.int (J0_3_S0 p0 p1 p2 wH wD wU fN fL fU)), .val (.int (J0_15_S0 p0 p1 p2 wH wD wU fN fL fU)), .val (.int (J0_28_S0 p0 p1 p2 wH wD wU fN fL fU)), .val (.int (2 : Int32)), .unset, .unset, .unset, .unset, .unset, .unset] [(.int (J0_3_S0 p0 p1 p2 wH wD wU fN fL fU)), (.int p0), (.ref b68), (.ref b68)])) _
          refine st72.trans ?_
          show Steps p.tables e below (T72.setTop (mkF m 55 #[.val (.int p0), .val (.int p1), .val (.int p2), .val (.int (J0_3_S0 p0 p1 p2 wH wD wU fN fL fU)), .val (.int (J0_15_S0 p0 p1 p2 wH wD wU fN fL fU)), .val (.int (J0_28_S0 p0 p1 p2 wH wD wU fN fL fU)), .val (.int (2 : Int32)), .unset, .unset, .unset, .unset, .unset, .unset] [(.ref b68)])) _
          refine XS.astore X72.here hx rfl (hb hby at_55) rfl rfl (l' := #[.val (.int p0), .val (.int p1), .val (.int p2), .val (.int (J0_3_S0 p0 p1 p2 wH wD wU fN fL fU)), .val (.int (J0_15_S0 p0 p1 p2 wH wD wU fN fL fU)), .val (.int (J0_28_S0 p0 p1 p2 wH wD wU fN fL fU)), .val (.int (2 : Int32)), .val (.ref b68), .unset, .unset, .unset, .unset, .unset]) rfl ?_
          show Steps p.tables e below (T72.setTop (mkF m 57 #[.val (.int p0), .val (.int p1), .val (.int p2), .val (.int (J0_3_S0 p0 p1 p2 wH wD wU fN fL fU)), .val (.int (J0_15_S0 p0 p1 p2 wH wD wU fN fL fU)), .val (.int (J0_28_S0 p0 p1 p2 wH wD wU fN fL fU)), .val (.int (2 : Int32)), .val (.ref b68), .unset, .unset, .unset, .unset, .unset] [])) _
          refine XS.iload X72.here hx rfl (hb hby at_57) rfl ?_
          exact kt)
        by_cases hc59 : (J0_15_S0 p0 p1 p2 wH wD wU fN fL fU) = (0 : Int32)
        · obtain ⟨T74, X74, e74, st74⟩ := getS2 X72 hx hZ hown (host := "") (Or.inl (hw _ (List.mem_of_getElem? (i := 31) rfl))) Via.refl (rfl : T72.heap = T72.heap) (own_staK (Sta.ext E68 S_fU) K72c (allS (own_exaN A68) all0)) (g := (mkF m 94 #[.val (.int p0), .val (.int p1), .val (.int p2), .val (.int (J0_3_S0 p0 p1 p2 wH wD wU fN fL fU)), .val (.int (J0_15_S0 p0 p1 p2 wH wD wU fN fL fU)), .val (.int (J0_28_S0 p0 p1 p2 wH wD wU fN fL fU)), .val (.int (2 : Int32)), .val (.ref b68), .unset, .unset, .unset, .unset, .unset] [])) rfl (hb hby at_94)
          obtain ⟨cq75, kq75, q75a, q75b, q75c⟩ := isOf hZ e74 P72_0
          obtain ⟨_, _, ⟨T75, L75, k75, n75⟩, -, X75, ⟨Lc75, hQ75, ll75, ly75, lz75⟩, st75⟩ := X74.virtualBack hx (y := (⟨"com/example/admission_for_endpoints/admissionforendpoints/MessageReader", "frame", "(Lcom/example/admission_for_endpoints/admissionforendpoints/MessageReader$Framing;J)V"⟩ : MethodName)) (z := (⟨"com/example/admission_for_endpoints/admissionforendpoints/MessageReader", "frame", "(Lcom/example/admission_for_endpoints/admissionforendpoints/MessageReader$Framing;J)V"⟩ : MethodName)) hown (mvT hZ (hw _ (List.mem_of_getElem? (i := 34) rfl))) (mvT hZ (hw _ (List.mem_of_getElem? (i := 35) rfl))) (notFace_of_selects (args := #[]) (mvT hZ (hw _ (List.mem_of_getElem? (i := 37) rfl)))) (mvT hZ (hw _ (List.mem_of_getElem? (i := 37) rfl))) (mvT hZ (hw _ (List.mem_of_getElem? (i := 36) rfl))) (by decide) (backOf (W := 0) (rm4o3 l Z a0 hw [] b68 fU wH ab72 p0 (0 : Int32) (0 : Int32) (0 : Int32) (0 : Int32) (0 : Int64) kb72 wD wU T72.heap n0 (Nat.le_trans (Nat.le_trans Z0 E68.1) K72c.1) P72_0 P72_1 P72_2 P72_3 P72_4 P72_5 P72_6 P72_7 P72_8 P72_9 (own_staK (Sta.ext E68 S_wD) K72c (allS (own_exaN A68) all0)) (own_staK (Sta.ext E68 S_wU) K72c (allS (own_exaN A68) all0)) (Exa.keep (Exa.ext E68 E_fU) K72c) ((Fld.ext E68 O_fU).keep K72c (ninS ne71 nin0)) g_b68 P72_10 ne71) hZ (hw _ (List.mem_of_getElem? (i := 38) rfl)) (hw _ (List.mem_of_getElem? (i := 3) rfl)) (by decide) (by decide)) q75a q75c (g := (mkF m 104 #[.val (.int p0), .val (.int p1), .val (.int p2), .val (.int (J0_3_S0 p0 p1 p2 wH wD wU fN fL fU)), .val (.int (J0_15_S0 p0 p1 p2 wH wD wU fN fL fU)), .val (.int (J0_28_S0 p0 p1 p2 wH wD wU fN fL fU)), .val (.int (2 : Int32)), .val (.ref b68), .val (.ref fU), .unset, .unset, .unset, .unset] [(.long (0 : Int64)), (.ref fU), (.ref b68)])) rfl (by rw [hml]; rfl) (Steps.refl _) (argsL := [(.ref fU), (.long (0 : Int64))]) (rest := []) (lenOf pd__Lcom_example_admission_for_endpoints_admissionforendpoints_MessageReader_Framing_J_V rfl) rfl (by show 2 * 0 + _ ≤ _; exact Nat.le_of_eq rfl) (hb hby at_104) (fun _ _ => ⟨rfl, e74, (by decide : 3 + 1 ≤ _), (by decide : 267 + 4096 ≤ _)⟩)
          dsimp only [Pt.U, Pt.locs, Pt.cells, Pt.slots] at X75 ll75 ly75 lz75 st75 hQ75
          subst ll75 ly75 lz75
          obtain ⟨rfl, N75q, K75c, P75_0, P75_1, P75_2, P75_3, P75_4, P75_5, P75_6, P75_7⟩ := hQ75
          have N75 := Fr.app N72 N75q
          have K75 : Keep h0 T75.heap [] := K72.trans K75c (allS (Or.inr sz_b68) all0)
          obtain ⟨cq76, kq76, q76a, q76b, q76c⟩ := isOf hZ (rfl : T75.heap = T75.heap) P75_0
          obtain ⟨_, _, ⟨T76, L76, k76, n76⟩, -, X76, ⟨Lc76, hQ76, ll76, ly76, lz76⟩, st76⟩ := X75.virtualBack hx (y := (⟨"com/example/admission_for_endpoints/admissionforendpoints/MessageReader", "ended", "()Z"⟩ : MethodName)) (z := (⟨"com/example/admission_for_endpoints/admissionforendpoints/MessageReader", "ended", "()Z"⟩ : MethodName)) hown (mvT hZ (hw _ (List.mem_of_getElem? (i := 57) rfl))) (mvT hZ (hw _ (List.mem_of_getElem? (i := 58) rfl))) (notFace_of_selects (args := #[]) (mvT hZ (hw _ (List.mem_of_getElem? (i := 60) rfl)))) (mvT hZ (hw _ (List.mem_of_getElem? (i := 60) rfl))) (mvT hZ (hw _ (List.mem_of_getElem? (i := 59) rfl))) (by decide) (backOf (W := 0) (rm7u l Z a0 hw [] b68 wU wD T75.heap n0 (Nat.le_trans (Nat.le_trans (Nat.le_trans Z0 E68.1) K72c.1) K75c.1) P75_1 (own_staK (own_staK (Sta.ext E68 S_wD) K72c (allS (own_exaN A68) all0)) K75c (allS (own_exaN P72_0) all0)) ne_UD) hZ (hw _ (List.mem_of_getElem? (i := 61) rfl)) (hw _ (List.mem_of_getElem? (i := 3) rfl)) (by decide) (by decide)) q76a q76c (g := (mkF m 109 #[.val (.int p0), .val (.int p1), .val (.int p2), .val (.int (J0_3_S0 p0 p1 p2 wH wD wU fN fL fU)), .val (.int (J0_15_S0 p0 p1 p2 wH wD wU fN fL fU)), .val (.int (J0_28_S0 p0 p1 p2 wH wD wU fN fL fU)), .val (.int (2 : Int32)), .val (.ref b68), .val (.ref fU), .unset, .unset, .unset, .unset] [(.ref b68)])) rfl (by rw [hml]; rfl) (Steps.refl _) (argsL := []) (rest := []) (lenOf pd___Z rfl) rfl (by show 2 * 0 + _ ≤ _; exact Nat.le_of_eq rfl) (hb hby at_109) (fun _ _ => ⟨rfl, (rfl : T75.heap = T75.heap), (by decide : 4 + 0 ≤ _), (by decide : 4363 + 0 ≤ _)⟩)
          dsimp only [Pt.U, Pt.locs, Pt.cells, Pt.slots] at X76 ll76 ly76 lz76 st76 hQ76
          subst ll76 ly76 lz76
          obtain ⟨rfl, N76q, e76⟩ := hQ76
          have N76 := Fr.app N75 N76q
          obtain ⟨cq77, kq77, q77a, q77b, q77c⟩ := isOf hZ e76 P75_0
          obtain ⟨_, _, ⟨T77, L77, k77, n77⟩, -, X77, ⟨Lc77, hQ77, ll77, ly77, lz77⟩, st77⟩ := X76.virtualBack hx (y := (⟨"com/example/admission_for_endpoints/admissionforendpoints/MessageReader", "end", "()Z"⟩ : MethodName)) (z := (⟨"com/example/admission_for_endpoints/admissionforendpoints/MessageReader", "end", "()Z"⟩ : MethodName)) hown (mvT hZ (hw _ (List.mem_of_getElem? (i := 64) rfl))) (mvT hZ (hw _ (List.mem_of_getElem? (i := 65) rfl))) (notFace_of_selects (args := #[]) (mvT hZ (hw _ (List.mem_of_getElem? (i := 67) rfl)))) (mvT hZ (hw _ (List.mem_of_getElem? (i := 67) rfl))) (mvT hZ (hw _ (List.mem_of_getElem? (i := 66) rfl))) (by decide) (backOf (W := 0) (rm8u l Z a0 hw [] b68 wU wD (0 : Int32) (0 : Int32) T75.heap n0 (Nat.le_trans (Nat.le_trans (Nat.le_trans Z0 E68.1) K72c.1) K75c.1) P75_0 P75_1 P75_5 P75_6 (own_staK (own_staK (Sta.ext E68 S_wD) K72c (allS (own_exaN A68) all0)) K75c (allS (own_exaN P72_0) all0)) (own_staK (own_staK (Sta.ext E68 S_wU) K72c (allS (own_exaN A68) all0)) K75c (allS (own_exaN P72_0) all0)) g_b68) hZ (hw _ (List.mem_of_getElem? (i := 68) rfl)) (hw _ (List.mem_of_getElem? (i := 3) rfl)) (by decide) (by decide)) q77a q77c (g := (mkF m 129 #[.val (.int p0), .val (.int p1), .val (.int p2), .val (.int (J0_3_S0 p0 p1 p2 wH wD wU fN fL fU)), .val (.int (J0_15_S0 p0 p1 p2 wH wD wU fN fL fU)), .val (.int (J0_28_S0 p0 p1 p2 wH wD wU fN fL fU)), .val (.int (2 : Int32)), .val (.ref b68), .val (.ref fU), .val (.int (0 : Int32)), .val (.int (0 : Int32)), .unset, .unset] [(.ref b68)])) rfl (by rw [hml]; rfl) (Steps.refl _) (argsL := []) (rest := []) (lenOf pd___Z rfl) rfl (by show 2 * 0 + _ ≤ _; exact Nat.le_of_eq rfl) (hb hby at_129) (fun _ _ => ⟨rfl, e76, (by decide : 4 + 0 ≤ _), (by decide : 4363 + 0 ≤ _)⟩)
          dsimp only [Pt.U, Pt.locs, Pt.cells, Pt.slots] at X77 ll77 ly77 lz77 st77 hQ77
          subst ll77 ly77 lz77
          obtain ⟨rfl, N77q, K77c, P77_0, P77_1, P77_2, P77_3⟩ := hQ77
          have N77 := Fr.app N76 N77q
          have K77 : Keep h0 T77.heap [] := K75.trans K77c (allS (Or.inr sz_b68) all0)
          obtain ⟨cq78, kq78, q78a, q78b, q78c⟩ := isOf hZ (rfl : T77.heap = T77.heap) P77_0
          obtain ⟨_, _, ⟨T78, L78, k78, n78⟩, -, X78, ⟨Lc78, hQ78, ll78, ly78, lz78⟩, st78⟩ := X77.virtualBack hx (y := (⟨"com/example/admission_for_endpoints/admissionforendpoints/MessageReader", "ended", "()Z"⟩ : MethodName)) (z := (⟨"com/example/admission_for_endpoints/admissionforendpoints/MessageReader", "ended", "()Z"⟩ : MethodName)) hown (mvT hZ (hw _ (List.mem_of_getElem? (i := 57) rfl))) (mvT hZ (hw _ (List.mem_of_getElem? (i := 58) rfl))) (notFace_of_selects (args := #[]) (mvT hZ (hw _ (List.mem_of_getElem? (i := 60) rfl)))) (mvT hZ (hw _ (List.mem_of_getElem? (i := 60) rfl))) (mvT hZ (hw _ (List.mem_of_getElem? (i := 59) rfl))) (by decide) (backOf (W := 0) (rm7d l Z a0 hw [] b68 wD T77.heap n0 (Nat.le_trans (Nat.le_trans (Nat.le_trans (Nat.le_trans Z0 E68.1) K72c.1) K75c.1) K77c.1) P77_1 (own_staK (own_staK (own_staK (Sta.ext E68 S_wD) K72c (allS (own_exaN A68) all0)) K75c (allS (own_exaN P72_0) all0)) K77c (allS (own_exaN P75_0) all0))) hZ (hw _ (List.mem_of_getElem? (i := 61) rfl)) (hw _ (List.mem_of_getElem? (i := 3) rfl)) (by decide) (by decide)) q78a q78c (g := (mkF m 148 #[.val (.int p0), .val (.int p1), .val (.int p2), .val (.int (J0_3_S0 p0 p1 p2 wH wD wU fN fL fU)), .val (.int (J0_15_S0 p0 p1 p2 wH wD wU fN fL fU)), .val (.int (J0_28_S0 p0 p1 p2 wH wD wU fN fL fU)), .val (.int (2 : Int32)), .val (.ref b68), .val (.ref fU), .val (.int (0 : Int32)), .val (.int (0 : Int32)), .val (.int (1 : Int32)), .unset] [(.ref b68)])) rfl (by rw [hml]; rfl) (Steps.refl _) (argsL := []) (rest := []) (lenOf pd___Z rfl) rfl (by show 2 * 0 + _ ≤ _; exact Nat.le_of_eq rfl) (hb hby at_148) (fun _ _ => ⟨rfl, (rfl : T77.heap = T77.heap), (by decide : 4 + 0 ≤ _), (by decide : 4363 + 0 ≤ _)⟩)
          dsimp only [Pt.U, Pt.locs, Pt.cells, Pt.slots] at X78 ll78 ly78 lz78 st78 hQ78
          subst ll78 ly78 lz78
          obtain ⟨rfl, N78q, e78⟩ := hQ78
          have N78 := Fr.app N77 N78q
          obtain ⟨cq79, kq79, q79a, q79b, q79c⟩ := isOf hZ e78 P77_0
          obtain ⟨_, _, ⟨T79, L79, k79, n79⟩, -, X79, ⟨Lc79, hQ79, ll79, ly79, lz79⟩, st79⟩ := X78.virtualBack hx (y := (⟨"com/example/admission_for_endpoints/admissionforendpoints/MessageReader", "truncated", "()Z"⟩ : MethodName)) (z := (⟨"com/example/admission_for_endpoints/admissionforendpoints/MessageReader", "truncated", "()Z"⟩ : MethodName)) hown (mvT hZ (hw _ (List.mem_of_getElem? (i := 69) rfl))) (mvT hZ (hw _ (List.mem_of_getElem? (i := 70) rfl))) (notFace_of_selects (args := #[]) (mvT hZ (hw _ (List.mem_of_getElem? (i := 72) rfl)))) (mvT hZ (hw _ (List.mem_of_getElem? (i := 72) rfl))) (mvT hZ (hw _ (List.mem_of_getElem? (i := 71) rfl))) (by decide) (backOf (W := 0) (rm9 l Z a0 hw [] b68 T77.heap n0 (Nat.le_trans (Nat.le_trans (Nat.le_trans (Nat.le_trans Z0 E68.1) K72c.1) K75c.1) K77c.1) P77_2) hZ (hw _ (List.mem_of_getElem? (i := 73) rfl)) (hw _ (List.mem_of_getElem? (i := 3) rfl)) (by decide) (by decide)) q79a q79c (g := (mkF m 156 #[.val (.int p0), .val (.int p1), .val (.int p2), .val (.int (J0_3_S0 p0 p1 p2 wH wD wU fN fL fU)), .val (.int (J0_15_S0 p0 p1 p2 wH wD wU fN fL fU)), .val (.int (J0_28_S0 p0 p1 p2 wH wD wU fN fL fU)), .val (.int (2 : Int32)), .val (.ref b68), .val (.ref fU), .val (.int (0 : Int32)), .val (.int (0 : Int32)), .val (.int (1 : Int32)), .unset] [(.ref b68)])) rfl (by rw [hml]; rfl) (Steps.refl _) (argsL := []) (rest := []) (lenOf pd___Z rfl) rfl (by show 2 * 0 + _ ≤ _; exact Nat.le_of_eq rfl) (hb hby at_156) (fun _ _ => ⟨rfl, e78, (by decide : 4 + 0 ≤ _), (by decide : 4363 + 0 ≤ _)⟩)
          dsimp only [Pt.U, Pt.locs, Pt.cells, Pt.slots] at X79 ll79 ly79 lz79 st79 hQ79
          subst ll79 ly79 lz79
          obtain ⟨rfl, N79q, e79⟩ := hQ79
          have N79 := Fr.app N78 N79q
          obtain ⟨cq80, kq80, q80a, q80b, q80c⟩ := isOf hZ e79 P77_0
          obtain ⟨_, _, ⟨T80, L80, k80, n80⟩, -, X80, ⟨Lc80, hQ80, ll80, ly80, lz80⟩, st80⟩ := X79.virtualBack hx (y := (⟨"com/example/admission_for_endpoints/admissionforendpoints/MessageReader", "bodyBytes", "()I"⟩ : MethodName)) (z := (⟨"com/example/admission_for_endpoints/admissionforendpoints/MessageReader", "bodyBytes", "()I"⟩ : MethodName)) hown (mvT hZ (hw _ (List.mem_of_getElem? (i := 76) rfl))) (mvT hZ (hw _ (List.mem_of_getElem? (i := 77) rfl))) (notFace_of_selects (args := #[]) (mvT hZ (hw _ (List.mem_of_getElem? (i := 79) rfl)))) (mvT hZ (hw _ (List.mem_of_getElem? (i := 79) rfl))) (mvT hZ (hw _ (List.mem_of_getElem? (i := 78) rfl))) (by decide) (backOf (W := 0) (rm10 l Z a0 hw [] b68 T77.heap n0 (Nat.le_trans (Nat.le_trans (Nat.le_trans (Nat.le_trans Z0 E68.1) K72c.1) K75c.1) K77c.1) P77_3) hZ (hw _ (List.mem_of_getElem? (i := 80) rfl)) (hw _ (List.mem_of_getElem? (i := 3) rfl)) (by decide) (by decide)) q80a q80c (g := (mkF m 164 #[.val (.int p0), .val (.int p1), .val (.int p2), .val (.int (J0_3_S0 p0 p1 p2 wH wD wU fN fL fU)), .val (.int (J0_15_S0 p0 p1 p2 wH wD wU fN fL fU)), .val (.int (J0_28_S0 p0 p1 p2 wH wD wU fN fL fU)), .val (.int (2 : Int32)), .val (.ref b68), .val (.ref fU), .val (.int (0 : Int32)), .val (.int (0 : Int32)), .val (.int (1 : Int32)), .unset] [(.ref b68)])) rfl (by rw [hml]; rfl) (Steps.refl _) (argsL := []) (rest := []) (lenOf pd___I rfl) rfl (by show 2 * 0 + _ ≤ _; exact Nat.le_of_eq rfl) (hb hby at_164) (fun _ _ => ⟨rfl, e79, (by decide : 4 + 0 ≤ _), (by decide : 4363 + 0 ≤ _)⟩)
          dsimp only [Pt.U, Pt.locs, Pt.cells, Pt.slots] at X80 ll80 ly80 lz80 st80 hQ80
          subst ll80 ly80 lz80
          obtain ⟨rfl, N80q, e80⟩ := hQ80
          have N80 := Fr.app N79 N80q
          have pre81 : ∀ t, Steps p.tables e below (T80.setTop (mkF m 179 #[.val (.int p0), .val (.int p1), .val (.int p2), .val (.int (J0_3_S0 p0 p1 p2 wH wD wU fN fL fU)), .val (.int (J0_15_S0 p0 p1 p2 wH wD wU fN fL fU)), .val (.int (J0_28_S0 p0 p1 p2 wH wD wU fN fL fU)), .val (.int (2 : Int32)), .val (.ref b68), .val (.ref fU), .val (.int (0 : Int32)), .val (.int (0 : Int32)), .val (.int (1 : Int32)), .val (.int (1 : Int32))] [(.int (J0_28_S0 p0 p1 p2 wH wD wU fN fL fU))])) t → Steps p.tables e below (s₁.setTop (entryFrame m #[(.int p0), (.int p1), (.int p2)] maxLocals)) t := fun t kt => pre73 t (by
            show Steps p.tables e below (T72.setTop (mkF m 59 #[.val (.int p0), .val (.int p1), .val (.int p2), .val (.int (J0_3_S0 p0 p1 p2 wH wD wU fN fL fU)), .val (.int (J0_15_S0 p0 p1 p2 wH wD wU fN fL fU)), .val (.int (J0_28_S0 p0 p1 p2 wH wD wU fN fL fU)), .val (.int (2 : Int32)), .val (.ref b68), .unset, .unset, .unset, .unset, .unset] [(.int (J0_15_S0 p0 p1 p2 wH wD wU fN fL fU))])) _
            refine XS.ifYes X72.here hx rfl (pc0 := 59) (pc' := 67) rfl (hb hby at_59) rfl ((if0 _ _).trans (teq hc59).1) (by decide) (by decide) ?_
            show Steps p.tables e below (T72.setTop (mkF m 67 #[.val (.int p0), .val (.int p1), .val (.int p2), .val (.int (J0_3_S0 p0 p1 p2 wH wD wU fN fL fU)), .val (.int (J0_15_S0 p0 p1 p2 wH wD wU fN fL fU)), .val (.int (J0_28_S0 p0 p1 p2 wH wD wU fN fL fU)), .val (.int (2 : Int32)), .val (.ref b68), .unset, .unset, .unset, .unset, .unset] [])) _
            refine XS.iload X72.here hx rfl (hb hby at_67) rfl ?_
            show Steps p.tables e below (T72.setTop (mkF m 69 #[.val (.int p0), .val (.int p1), .val (.int p2), .val (.int (J0_3_S0 p0 p1 p2 wH wD wU fN fL fU)), .val (.int (J0_15_S0 p0 p1 p2 wH wD wU fN fL fU)), .val (.int (J0_28_S0 p0 p1 p2 wH wD wU fN fL fU)), .val (.int (2 : Int32)), .val (.ref b68), .unset, .unset, .unset, .unset, .unset] [(.int (2 : Int32))])) _
            refine XS.ifYes X72.here hx rfl (pc0 := 69) (pc' := 80) rfl (hb hby at_69) rfl ((if0 _ _).trans (feq (by decide : ¬ ((2 : Int32) = (0 : Int32)))).2) (by decide) (by decide) ?_
            show Steps p.tables e below (T72.setTop (mkF m 80 #[.val (.int p0), .val (.int p1), .val (.int p2), .val (.int (J0_3_S0 p0 p1 p2 wH wD wU fN fL fU)), .val (.int (J0_15_S0 p0 p1 p2 wH wD wU fN fL fU)), .val (.int (J0_28_S0 p0 p1 p2 wH wD wU fN fL fU)), .val (.int (2 : Int32)), .val (.ref b68), .unset, .unset, .unset, .unset, .unset] [])) _
            refine XS.iload X72.here hx rfl (hb hby at_80) rfl ?_
            show Steps p.tables e below (T72.setTop (mkF m 82 #[.val (.int p0), .val (.int p1), .val (.int p2), .val (.int (J0_3_S0 p0 p1 p2 wH wD wU fN fL fU)), .val (.int (J0_15_S0 p0 p1 p2 wH wD wU fN fL fU)), .val (.int (J0_28_S0 p0 p1 p2 wH wD wU fN fL fU)), .val (.int (2 : Int32)), .val (.ref b68), .unset, .unset, .unset, .unset, .unset] [(.int (2 : Int32))])) _
            refine XS.iconst X72.here hx rfl (hb hby at_82) ?_
            show Steps p.tables e below (T72.setTop (mkF m 83 #[.val (.int p0), .val (.int p1), .val (.int p2), .val (.int (J0_3_S0 p0 p1 p2 wH wD wU fN fL fU)), .val (.int (J0_15_S0 p0 p1 p2 wH wD wU fN fL fU)), .val (.int (J0_28_S0 p0 p1 p2 wH wD wU fN fL fU)), .val (.int (2 : Int32)), .val (.ref b68), .unset, .unset, .unset, .unset, .unset] [(.int (1 : Int32)), (.int (2 : Int32))])) _
            refine XS.icmpYes X72.here hx rfl (pc0 := 83) (pc' := 94) rfl (hb hby at_83) rfl (feq (by decide : ¬ ((2 : Int32) = (1 : Int32)))).2 (by decide) (by decide) ?_
            show Steps p.tables e below (T72.setTop (mkF m 94 #[.val (.int p0), .val (.int p1), .val (.int p2), .val (.int (J0_3_S0 p0 p1 p2 wH wD wU fN fL fU)), .val (.int (J0_15_S0 p0 p1 p2 wH wD wU fN fL fU)), .val (.int (J0_28_S0 p0 p1 p2 wH wD wU fN fL fU)), .val (.int (2 : Int32)), .val (.ref b68), .unset, .unset, .unset, .unset, .unset] [])) _
            refine st74 _ ?_
            show Steps p.tables e below (T74.setTop (mkF m 97 #[.val (.int p0), .val (.int p1), .val (.int p2), .val (.int (J0_3_S0 p0 p1 p2 wH wD wU fN fL fU)), .val (.int (J0_15_S0 p0 p1 p2 wH wD wU fN fL fU)), .val (.int (J0_28_S0 p0 p1 p2 wH wD wU fN fL fU)), .val (.int (2 : Int32)), .val (.ref b68), .unset, .unset, .unset, .unset, .unset] [(.ref fU)])) _
            refine XS.astore X74.here hx rfl (hb hby at_97) rfl rfl (l' := #[.val (.int p0), .val (.int p1), .val (.int p2), .val (.int (J0_3_S0 p0 p1 p2 wH wD wU fN fL fU)), .val (.int (J0_15_S0 p0 p1 p2 wH wD wU fN fL fU)), .val (.int (J0_28_S0 p0 p1 p2 wH wD wU fN fL fU)), .val (.int (2 : Int32)), .val (.ref b68), .val (.ref fU), .unset, .unset, .unset, .unset]) rfl ?_
            show Steps p.tables e below (T74.setTop (mkF m 99 #[.val (.int p0), .val (.int p1), .val (.int p2), .val (.int (J0_3_S0 p0 p1 p2 wH wD wU fN fL fU)), .val (.int (J0_15_S0 p0 p1 p2 wH wD wU fN fL fU)), .val (.int (J0_28_S0 p0 p1 p2 wH wD wU fN fL fU)), .val (.int (2 : Int32)), .val (.ref b68), .val (.ref fU), .unset, .unset, .unset, .unset] [])) _
            refine XS.aload X74.here hx rfl (hb hby at_99) rfl rfl ?_
            show Steps p.tables e below (T74.setTop (mkF m 101 #[.val (.int p0), .val (.int p1), .val (.int p2), .val (.int (J0_3_S0 p0 p1 p2 wH wD wU fN fL fU)), .val (.int (J0_15_S0 p0 p1 p2 wH wD wU fN fL fU)), .val (.int (J0_28_S0 p0 p1 p2 wH wD wU fN fL fU)), .val (.int (2 : Int32)), .val (.ref b68), .val (.ref fU), .unset, .unset, .unset, .unset] [(.ref b68)])) _
            refine XS.aload X74.here hx rfl (hb hby at_101) rfl rfl ?_
            show Steps p.tables e below (T74.setTop (mkF m 103 #[.val (.int p0), .val (.int p1), .val (.int p2), .val (.int (J0_3_S0 p0 p1 p2 wH wD wU fN fL fU)), .val (.int (J0_15_S0 p0 p1 p2 wH wD wU fN fL fU)), .val (.int (J0_28_S0 p0 p1 p2 wH wD wU fN fL fU)), .val (.int (2 : Int32)), .val (.ref b68), .val (.ref fU), .unset, .unset, .unset, .unset] [(.ref fU), (.ref b68)])) _
            refine XS.lconst X74.here hx rfl (hb hby at_103) ?_
            show Steps p.tables e below (T74.setTop (mkF m 104 #[.val (.int p0), .val (.int p1), .val (.int p2), .val (.int (J0_3_S0 p0 p1 p2 wH wD wU fN fL fU)), .val (.int (J0_15_S0 p0 p1 p2 wH wD wU fN fL fU)), .val (.int (J0_28_S0 p0 p1 p2 wH wD wU fN fL fU)), .val (.int (2 : Int32)), .val (.ref b68), .val (.ref fU), .unset, .unset, .unset, .unset] [(.long (0 : Int64)), (.ref fU), (.ref b68)])) _
            refine st75.trans ?_
            show Steps p.tables e below (T75.setTop (mkF m 107 #[.val (.int p0), .val (.int p1), .val (.int p2), .val (.int (J0_3_S0 p0 p1 p2 wH wD wU fN fL fU)), .val (.int (J0_15_S0 p0 p1 p2 wH wD wU fN fL fU)), .val (.int (J0_28_S0 p0 p1 p2 wH wD wU fN fL fU)), .val (.int (2 : Int32)), .val (.ref b68), .val (.ref fU), .unset, .unset, .unset, .unset] [])) _
            refine XS.aload X75.here hx rfl (hb hby at_107) rfl rfl ?_
            show Steps p.tables e below (T75.setTop (mkF m 109 #[.val (.int p0), .val (.int p1), .val (.int p2), .val (.int (J0_3_S0 p0 p1 p2 wH wD wU fN fL fU)), .val (.int (J0_15_S0 p0 p1 p2 wH wD wU fN fL fU)), .val (.int (J0_28_S0 p0 p1 p2 wH wD wU fN fL fU)), .val (.int (2 : Int32)), .val (.ref b68), .val (.ref fU), .unset, .unset, .unset, .unset] [(.ref b68)])) _
            refine st76.trans ?_
            show Steps p.tables e below (T76.setTop (mkF m 112 #[.val (.int p0), .val (.int p1), .val (.int p2), .val (.int (J0_3_S0 p0 p1 p2 wH wD wU fN fL fU)), .val (.int (J0_15_S0 p0 p1 p2 wH wD wU fN fL fU)), .val (.int (J0_28_S0 p0 p1 p2 wH wD wU fN fL fU)), .val (.int (2 : Int32)), .val (.ref b68), .val (.ref fU), .unset, .unset, .unset, .unset] [(.int (0 : Int32))])) _
            refine XS.istore X76.here hx rfl (hb hby at_112) rfl (l' := #[.val (.int p0), .val (.int p1), .val (.int p2), .val (.int (J0_3_S0 p0 p1 p2 wH wD wU fN fL fU)), .val (.int (J0_15_S0 p0 p1 p2 wH wD wU fN fL fU)), .val (.int (J0_28_S0 p0 p1 p2 wH wD wU fN fL fU)), .val (.int (2 : Int32)), .val (.ref b68), .val (.ref fU), .val (.int (0 : Int32)), .unset, .unset, .unset]) rfl ?_
            show Steps p.tables e below (T76.setTop (mkF m 114 #[.val (.int p0), .val (.int p1), .val (.int p2), .val (.int (J0_3_S0 p0 p1 p2 wH wD wU fN fL fU)), .val (.int (J0_15_S0 p0 p1 p2 wH wD wU fN fL fU)), .val (.int (J0_28_S0 p0 p1 p2 wH wD wU fN fL fU)), .val (.int (2 : Int32)), .val (.ref b68), .val (.ref fU), .val (.int (0 : Int32)), .unset, .unset, .unset] [])) _
            refine XS.iload X76.here hx rfl (hb hby at_114) rfl ?_
            show Steps p.tables e below (T76.setTop (mkF m 116 #[.val (.int p0), .val (.int p1), .val (.int p2), .val (.int (J0_3_S0 p0 p1 p2 wH wD wU fN fL fU)), .val (.int (J0_15_S0 p0 p1 p2 wH wD wU fN fL fU)), .val (.int (J0_28_S0 p0 p1 p2 wH wD wU fN fL fU)), .val (.int (2 : Int32)), .val (.ref b68), .val (.ref fU), .val (.int (0 : Int32)), .unset, .unset, .unset] [(.int (2 : Int32))])) _
            refine XS.iconst X76.here hx rfl (hb hby at_116) ?_
            show Steps p.tables e below (T76.setTop (mkF m 117 #[.val (.int p0), .val (.int p1), .val (.int p2), .val (.int (J0_3_S0 p0 p1 p2 wH wD wU fN fL fU)), .val (.int (J0_15_S0 p0 p1 p2 wH wD wU fN fL fU)), .val (.int (J0_28_S0 p0 p1 p2 wH wD wU fN fL fU)), .val (.int (2 : Int32)), .val (.ref b68), .val (.ref fU), .val (.int (0 : Int32)), .unset, .unset, .unset] [(.int (2 : Int32)), (.int (2 : Int32))])) _
            refine XS.icmpYes X76.here hx rfl (pc0 := 117) (pc' := 124) rfl (hb hby at_117) rfl (teq (by decide : (2 : Int32) = (2 : Int32))).1 (by decide) (by decide) ?_
            show Steps p.tables e below (T76.setTop (mkF m 124 #[.val (.int p0), .val (.int p1), .val (.int p2), .val (.int (J0_3_S0 p0 p1 p2 wH wD wU fN fL fU)), .val (.int (J0_15_S0 p0 p1 p2 wH wD wU fN fL fU)), .val (.int (J0_28_S0 p0 p1 p2 wH wD wU fN fL fU)), .val (.int (2 : Int32)), .val (.ref b68), .val (.ref fU), .val (.int (0 : Int32)), .unset, .unset, .unset] [])) _
            refine XS.iconst X76.here hx rfl (hb hby at_124) ?_
            show Steps p.tables e below (T76.setTop (mkF m 125 #[.val (.int p0), .val (.int p1), .val (.int p2), .val (.int (J0_3_S0 p0 p1 p2 wH wD wU fN fL fU)), .val (.int (J0_15_S0 p0 p1 p2 wH wD wU fN fL fU)), .val (.int (J0_28_S0 p0 p1 p2 wH wD wU fN fL fU)), .val (.int (2 : Int32)), .val (.ref b68), .val (.ref fU), .val (.int (0 : Int32)), .unset, .unset, .unset] [(.int (0 : Int32))])) _
            refine XS.istore X76.here hx rfl (hb hby at_125) rfl (l' := #[.val (.int p0), .val (.int p1), .val (.int p2), .val (.int (J0_3_S0 p0 p1 p2 wH wD wU fN fL fU)), .val (.int (J0_15_S0 p0 p1 p2 wH wD wU fN fL fU)), .val (.int (J0_28_S0 p0 p1 p2 wH wD wU fN fL fU)), .val (.int (2 : Int32)), .val (.ref b68), .val (.ref fU), .val (.int (0 : Int32)), .val (.int (0 : Int32)), .unset, .unset]) rfl ?_
            show Steps p.tables e below (T76.setTop (mkF m 127 #[.val (.int p0), .val (.int p1), .val (.int p2), .val (.int (J0_3_S0 p0 p1 p2 wH wD wU fN fL fU)), .val (.int (J0_15_S0 p0 p1 p2 wH wD wU fN fL fU)), .val (.int (J0_28_S0 p0 p1 p2 wH wD wU fN fL fU)), .val (.int (2 : Int32)), .val (.ref b68), .val (.ref fU), .val (.int (0 : Int32)), .val (.int (0 : Int32)), .unset, .unset] [])) _
            refine XS.aload X76.here hx rfl (hb hby at_127) rfl rfl ?_
            show Steps p.tables e below (T76.setTop (mkF m 129 #[.val (.int p0), .val (.int p1), .val (.int p2), .val (.int (J0_3_S0 p0 p1 p2 wH wD wU fN fL fU)), .val (.int (J0_15_S0 p0 p1 p2 wH wD wU fN fL fU)), .val (.int (J0_28_S0 p0 p1 p2 wH wD wU fN fL fU)), .val (.int (2 : Int32)), .val (.ref b68), .val (.ref fU), .val (.int (0 : Int32)), .val (.int (0 : Int32)), .unset, .unset] [(.ref b68)])) _
            refine st77.trans ?_
            show Steps p.tables e below (T77.setTop (mkF m 132 #[.val (.int p0), .val (.int p1), .val (.int p2), .val (.int (J0_3_S0 p0 p1 p2 wH wD wU fN fL fU)), .val (.int (J0_15_S0 p0 p1 p2 wH wD wU fN fL fU)), .val (.int (J0_28_S0 p0 p1 p2 wH wD wU fN fL fU)), .val (.int (2 : Int32)), .val (.ref b68), .val (.ref fU), .val (.int (0 : Int32)), .val (.int (0 : Int32)), .unset, .unset] [(.int (1 : Int32))])) _
            refine XS.istore X77.here hx rfl (hb hby at_132) rfl (l' := #[.val (.int p0), .val (.int p1), .val (.int p2), .val (.int (J0_3_S0 p0 p1 p2 wH wD wU fN fL fU)), .val (.int (J0_15_S0 p0 p1 p2 wH wD wU fN fL fU)), .val (.int (J0_28_S0 p0 p1 p2 wH wD wU fN fL fU)), .val (.int (2 : Int32)), .val (.ref b68), .val (.ref fU), .val (.int (0 : Int32)), .val (.int (0 : Int32)), .val (.int (1 : Int32)), .unset]) rfl ?_
            show Steps p.tables e below (T77.setTop (mkF m 134 #[.val (.int p0), .val (.int p1), .val (.int p2), .val (.int (J0_3_S0 p0 p1 p2 wH wD wU fN fL fU)), .val (.int (J0_15_S0 p0 p1 p2 wH wD wU fN fL fU)), .val (.int (J0_28_S0 p0 p1 p2 wH wD wU fN fL fU)), .val (.int (2 : Int32)), .val (.ref b68), .val (.ref fU), .val (.int (0 : Int32)), .val (.int (0 : Int32)), .val (.int (1 : Int32)), .unset] [])) _
            refine XS.iload X77.here hx rfl (hb hby at_134) rfl ?_
            show Steps p.tables e below (T77.setTop (mkF m 136 #[.val (.int p0), .val (.int p1), .val (.int p2), .val (.int (J0_3_S0 p0 p1 p2 wH wD wU fN fL fU)), .val (.int (J0_15_S0 p0 p1 p2 wH wD wU fN fL fU)), .val (.int (J0_28_S0 p0 p1 p2 wH wD wU fN fL fU)), .val (.int (2 : Int32)), .val (.ref b68), .val (.ref fU), .val (.int (0 : Int32)), .val (.int (0 : Int32)), .val (.int (1 : Int32)), .unset] [(.int (0 : Int32))])) _
            refine XS.iload X77.here hx rfl (hb hby at_136) rfl ?_
            show Steps p.tables e below (T77.setTop (mkF m 138 #[.val (.int p0), .val (.int p1), .val (.int p2), .val (.int (J0_3_S0 p0 p1 p2 wH wD wU fN fL fU)), .val (.int (J0_15_S0 p0 p1 p2 wH wD wU fN fL fU)), .val (.int (J0_28_S0 p0 p1 p2 wH wD wU fN fL fU)), .val (.int (2 : Int32)), .val (.ref b68), .val (.ref fU), .val (.int (0 : Int32)), .val (.int (0 : Int32)), .val (.int (1 : Int32)), .unset] [(.int (0 : Int32)), (.int (0 : Int32))])) _
            refine XS.icmpNo X77.here hx rfl (hb hby at_138) rfl (teq (by decide : (0 : Int32) = (0 : Int32))).2 ?_
            show Steps p.tables e below (T77.setTop (mkF m 141 #[.val (.int p0), .val (.int p1), .val (.int p2), .val (.int (J0_3_S0 p0 p1 p2 wH wD wU fN fL fU)), .val (.int (J0_15_S0 p0 p1 p2 wH wD wU fN fL fU)), .val (.int (J0_28_S0 p0 p1 p2 wH wD wU fN fL fU)), .val (.int (2 : Int32)), .val (.ref b68), .val (.ref fU), .val (.int (0 : Int32)), .val (.int (0 : Int32)), .val (.int (1 : Int32)), .unset] [])) _
            refine XS.iload X77.here hx rfl (hb hby at_141) rfl ?_
            show Steps p.tables e below (T77.setTop (mkF m 143 #[.val (.int p0), .val (.int p1), .val (.int p2), .val (.int (J0_3_S0 p0 p1 p2 wH wD wU fN fL fU)), .val (.int (J0_15_S0 p0 p1 p2 wH wD wU fN fL fU)), .val (.int (J0_28_S0 p0 p1 p2 wH wD wU fN fL fU)), .val (.int (2 : Int32)), .val (.ref b68), .val (.ref fU), .val (.int (0 : Int32)), .val (.int (0 : Int32)), .val (.int (1 : Int32)), .unset] [(.int (1 : Int32))])) _
            refine XS.ifNo X77.here hx rfl (hb hby at_143) rfl ((if0 _ _).trans (feq (by decide : ¬ ((1 : Int32) = (0 : Int32)))).1) ?_
            show Steps p.tables e below (T77.setTop (mkF m 146 #[.val (.int p0), .val (.int p1), .val (.int p2), .val (.int (J0_3_S0 p0 p1 p2 wH wD wU fN fL fU)), .val (.int (J0_15_S0 p0 p1 p2 wH wD wU fN fL fU)), .val (.int (J0_28_S0 p0 p1 p2 wH wD wU fN fL fU)), .val (.int (2 : Int32)), .val (.ref b68), .val (.ref fU), .val (.int (0 : Int32)), .val (.int (0 : Int32)), .val (.int (1 : Int32)), .unset] [])) _
            refine XS.aload X77.here hx rfl (hb hby at_146) rfl rfl ?_
            show Steps p.tables e below (T77.setTop (mkF m 148 #[.val (.int p0), .val (.int p1), .val (.int p2), .val (.int (J0_3_S0 p0 p1 p2 wH wD wU fN fL fU)), .val (.int (J0_15_S0 p0 p1 p2 wH wD wU fN fL fU)), .val (.int (J0_28_S0 p0 p1 p2 wH wD wU fN fL fU)), .val (.int (2 : Int32)), .val (.ref b68), .val (.ref fU), .val (.int (0 : Int32)), .val (.int (0 : Int32)), .val (.int (1 : Int32)), .unset] [(.ref b68)])) _
            refine st78.trans ?_
            show Steps p.tables e below (T78.setTop (mkF m 151 #[.val (.int p0), .val (.int p1), .val (.int p2), .val (.int (J0_3_S0 p0 p1 p2 wH wD wU fN fL fU)), .val (.int (J0_15_S0 p0 p1 p2 wH wD wU fN fL fU)), .val (.int (J0_28_S0 p0 p1 p2 wH wD wU fN fL fU)), .val (.int (2 : Int32)), .val (.ref b68), .val (.ref fU), .val (.int (0 : Int32)), .val (.int (0 : Int32)), .val (.int (1 : Int32)), .unset] [(.int (1 : Int32))])) _
            refine XS.ifNo X78.here hx rfl (hb hby at_151) rfl ((if0 _ _).trans (feq (by decide : ¬ ((1 : Int32) = (0 : Int32)))).1) ?_
            show Steps p.tables e below (T78.setTop (mkF m 154 #[.val (.int p0), .val (.int p1), .val (.int p2), .val (.int (J0_3_S0 p0 p1 p2 wH wD wU fN fL fU)), .val (.int (J0_15_S0 p0 p1 p2 wH wD wU fN fL fU)), .val (.int (J0_28_S0 p0 p1 p2 wH wD wU fN fL fU)), .val (.int (2 : Int32)), .val (.ref b68), .val (.ref fU), .val (.int (0 : Int32)), .val (.int (0 : Int32)), .val (.int (1 : Int32)), .unset] [])) _
            refine XS.aload X78.here hx rfl (hb hby at_154) rfl rfl ?_
            show Steps p.tables e below (T78.setTop (mkF m 156 #[.val (.int p0), .val (.int p1), .val (.int p2), .val (.int (J0_3_S0 p0 p1 p2 wH wD wU fN fL fU)), .val (.int (J0_15_S0 p0 p1 p2 wH wD wU fN fL fU)), .val (.int (J0_28_S0 p0 p1 p2 wH wD wU fN fL fU)), .val (.int (2 : Int32)), .val (.ref b68), .val (.ref fU), .val (.int (0 : Int32)), .val (.int (0 : Int32)), .val (.int (1 : Int32)), .unset] [(.ref b68)])) _
            refine st79.trans ?_
            show Steps p.tables e below (T79.setTop (mkF m 159 #[.val (.int p0), .val (.int p1), .val (.int p2), .val (.int (J0_3_S0 p0 p1 p2 wH wD wU fN fL fU)), .val (.int (J0_15_S0 p0 p1 p2 wH wD wU fN fL fU)), .val (.int (J0_28_S0 p0 p1 p2 wH wD wU fN fL fU)), .val (.int (2 : Int32)), .val (.ref b68), .val (.ref fU), .val (.int (0 : Int32)), .val (.int (0 : Int32)), .val (.int (1 : Int32)), .unset] [(.int (0 : Int32))])) _
            refine XS.ifNo X79.here hx rfl (hb hby at_159) rfl ((if0 _ _).trans (teq (by decide : (0 : Int32) = (0 : Int32))).2) ?_
            show Steps p.tables e below (T79.setTop (mkF m 162 #[.val (.int p0), .val (.int p1), .val (.int p2), .val (.int (J0_3_S0 p0 p1 p2 wH wD wU fN fL fU)), .val (.int (J0_15_S0 p0 p1 p2 wH wD wU fN fL fU)), .val (.int (J0_28_S0 p0 p1 p2 wH wD wU fN fL fU)), .val (.int (2 : Int32)), .val (.ref b68), .val (.ref fU), .val (.int (0 : Int32)), .val (.int (0 : Int32)), .val (.int (1 : Int32)), .unset] [])) _
            refine XS.aload X79.here hx rfl (hb hby at_162) rfl rfl ?_
            show Steps p.tables e below (T79.setTop (mkF m 164 #[.val (.int p0), .val (.int p1), .val (.int p2), .val (.int (J0_3_S0 p0 p1 p2 wH wD wU fN fL fU)), .val (.int (J0_15_S0 p0 p1 p2 wH wD wU fN fL fU)), .val (.int (J0_28_S0 p0 p1 p2 wH wD wU fN fL fU)), .val (.int (2 : Int32)), .val (.ref b68), .val (.ref fU), .val (.int (0 : Int32)), .val (.int (0 : Int32)), .val (.int (1 : Int32)), .unset] [(.ref b68)])) _
            refine st80.trans ?_
            show Steps p.tables e below (T80.setTop (mkF m 167 #[.val (.int p0), .val (.int p1), .val (.int p2), .val (.int (J0_3_S0 p0 p1 p2 wH wD wU fN fL fU)), .val (.int (J0_15_S0 p0 p1 p2 wH wD wU fN fL fU)), .val (.int (J0_28_S0 p0 p1 p2 wH wD wU fN fL fU)), .val (.int (2 : Int32)), .val (.ref b68), .val (.ref fU), .val (.int (0 : Int32)), .val (.int (0 : Int32)), .val (.int (1 : Int32)), .unset] [(.int (0 : Int32))])) _
            refine XS.ifNo X80.here hx rfl (hb hby at_167) rfl ((if0 _ _).trans (teq (by decide : (0 : Int32) = (0 : Int32))).2) ?_
            show Steps p.tables e below (T80.setTop (mkF m 170 #[.val (.int p0), .val (.int p1), .val (.int p2), .val (.int (J0_3_S0 p0 p1 p2 wH wD wU fN fL fU)), .val (.int (J0_15_S0 p0 p1 p2 wH wD wU fN fL fU)), .val (.int (J0_28_S0 p0 p1 p2 wH wD wU fN fL fU)), .val (.int (2 : Int32)), .val (.ref b68), .val (.ref fU), .val (.int (0 : Int32)), .val (.int (0 : Int32)), .val (.int (1 : Int32)), .unset] [])) _
            refine XS.iconst X80.here hx rfl (hb hby at_170) ?_
            show Steps p.tables e below (T80.setTop (mkF m 171 #[.val (.int p0), .val (.int p1), .val (.int p2), .val (.int (J0_3_S0 p0 p1 p2 wH wD wU fN fL fU)), .val (.int (J0_15_S0 p0 p1 p2 wH wD wU fN fL fU)), .val (.int (J0_28_S0 p0 p1 p2 wH wD wU fN fL fU)), .val (.int (2 : Int32)), .val (.ref b68), .val (.ref fU), .val (.int (0 : Int32)), .val (.int (0 : Int32)), .val (.int (1 : Int32)), .unset] [(.int (1 : Int32))])) _
            refine XS.goto X80.here hx rfl (pc0 := 171) (pc' := 175) rfl (hb hby at_171) (by decide) (by decide) ?_
            show Steps p.tables e below (T80.setTop (mkF m 175 #[.val (.int p0), .val (.int p1), .val (.int p2), .val (.int (J0_3_S0 p0 p1 p2 wH wD wU fN fL fU)), .val (.int (J0_15_S0 p0 p1 p2 wH wD wU fN fL fU)), .val (.int (J0_28_S0 p0 p1 p2 wH wD wU fN fL fU)), .val (.int (2 : Int32)), .val (.ref b68), .val (.ref fU), .val (.int (0 : Int32)), .val (.int (0 : Int32)), .val (.int (1 : Int32)), .unset] [(.int (1 : Int32))])) _
            refine XS.istore X80.here hx rfl (hb hby at_175) rfl (l' := #[.val (.int p0), .val (.int p1), .val (.int p2), .val (.int (J0_3_S0 p0 p1 p2 wH wD wU fN fL fU)), .val (.int (J0_15_S0 p0 p1 p2 wH wD wU fN fL fU)), .val (.int (J0_28_S0 p0 p1 p2 wH wD wU fN fL fU)), .val (.int (2 : Int32)), .val (.ref b68), .val (.ref fU), .val (.int (0 : Int32)), .val (.int (0 : Int32)), .val (.int (1 : Int32)), .val (.int (1 : Int32))]) rfl ?_
            show Steps p.tables e below (T80.setTop (mkF m 177 #[.val (.int p0), .val (.int p1), .val (.int p2), .val (.int (J0_3_S0 p0 p1 p2 wH wD wU fN fL fU)), .val (.int (J0_15_S0 p0 p1 p2 wH wD wU fN fL fU)), .val (.int (J0_28_S0 p0 p1 p2 wH wD wU fN fL fU)), .val (.int (2 : Int32)), .val (.ref b68), .val (.ref fU), .val (.int (0 : Int32)), .val (.int (0 : Int32)), .val (.int (1 : Int32)), .val (.int (1 : Int32))] [])) _
            refine XS.iload X80.here hx rfl (hb hby at_177) rfl ?_
            exact kt)
          by_cases hc179 : (J0_28_S0 p0 p1 p2 wH wD wU fN fL fU) = (0 : Int32)
          · obtain ⟨fs, hr, hrun, hended, hW, hsame⟩ := X80.leave (v := some (.int (1 : Int32))) (fun h => by rw [Bd.returns] at h; cases h)
            refine ⟨_, _, pre81 _ ?_, hrun, hended, _, _, rfl, ?_, ⟨_, rfl⟩, hW, hsame.mono (by decide) (by decide)⟩
            · show Steps p.tables e below (T80.setTop (mkF m 179 #[.val (.int p0), .val (.int p1), .val (.int p2), .val (.int (J0_3_S0 p0 p1 p2 wH wD wU fN fL fU)), .val (.int (J0_15_S0 p0 p1 p2 wH wD wU fN fL fU)), .val (.int (J0_28_S0 p0 p1 p2 wH wD wU fN fL fU)), .val (.int (2 : Int32)), .val (.ref b68), .val (.ref fU), .val (.int (0 : Int32)), .val (.int (0 : Int32)), .val (.int (1 : Int32)), .val (.int (1 : Int32))] [(.int (J0_28_S0 p0 p1 p2 wH wD wU fN fL fU))])) _
              refine XS.ifYes X80.here hx rfl (pc0 := 179) (pc' := 210) rfl (hb hby at_179) rfl ((if0 _ _).trans (teq hc179).1) (by decide) (by decide) ?_
              show Steps p.tables e below (T80.setTop (mkF m 210 #[.val (.int p0), .val (.int p1), .val (.int p2), .val (.int (J0_3_S0 p0 p1 p2 wH wD wU fN fL fU)), .val (.int (J0_15_S0 p0 p1 p2 wH wD wU fN fL fU)), .val (.int (J0_28_S0 p0 p1 p2 wH wD wU fN fL fU)), .val (.int (2 : Int32)), .val (.ref b68), .val (.ref fU), .val (.int (0 : Int32)), .val (.int (0 : Int32)), .val (.int (1 : Int32)), .val (.int (1 : Int32))] [])) _
              refine XS.iload X80.here hx rfl (hb hby at_210) rfl ?_
              show Steps p.tables e below (T80.setTop (mkF m 212 #[.val (.int p0), .val (.int p1), .val (.int p2), .val (.int (J0_3_S0 p0 p1 p2 wH wD wU fN fL fU)), .val (.int (J0_15_S0 p0 p1 p2 wH wD wU fN fL fU)), .val (.int (J0_28_S0 p0 p1 p2 wH wD wU fN fL fU)), .val (.int (2 : Int32)), .val (.ref b68), .val (.ref fU), .val (.int (0 : Int32)), .val (.int (0 : Int32)), .val (.int (1 : Int32)), .val (.int (1 : Int32))] [(.int (1 : Int32))])) _
              exact retN X80 hx (t := .boolean) Bd.returns (by simp) (hb hby at_212) hr
            · show Q0 Z p0 p1 p2 wH wD wU fN fL fU h0 n0 _ T80.heap _
              rw [e80]
              exact ⟨(by unfold F0; simp only [if_neg hi0, if_neg hi1, if_pos hi2, if_pos hc59, if_pos hc179]), N80⟩
          · obtain ⟨cq82, kq82, q82a, q82b, q82c⟩ := isOf hZ e80 P77_0
            obtain ⟨_, _, ⟨T82, L82, k82, n82⟩, -, X82, ⟨Lc82, hQ82, ll82, ly82, lz82⟩, st82⟩ := X80.virtualBack hx (y := (⟨"com/example/admission_for_endpoints/admissionforendpoints/MessageReader", "end", "()Z"⟩ : MethodName)) (z := (⟨"com/example/admission_for_endpoints/admissionforendpoints/MessageReader", "end", "()Z"⟩ : MethodName)) hown (mvT hZ (hw _ (List.mem_of_getElem? (i := 64) rfl))) (mvT hZ (hw _ (List.mem_of_getElem? (i := 65) rfl))) (notFace_of_selects (args := #[]) (mvT hZ (hw _ (List.mem_of_getElem? (i := 67) rfl)))) (mvT hZ (hw _ (List.mem_of_getElem? (i := 67) rfl))) (mvT hZ (hw _ (List.mem_of_getElem? (i := 66) rfl))) (by decide) (backOf (W := 0) (rm8d l Z a0 hw [] b68 wD wU T77.heap n0 (Nat.le_trans (Nat.le_trans (Nat.le_trans (Nat.le_trans Z0 E68.1) K72c.1) K75c.1) K77c.1) P77_1 (own_staK (own_staK (own_staK (Sta.ext E68 S_wD) K72c (allS (own_exaN A68) all0)) K75c (allS (own_exaN P72_0) all0)) K77c (allS (own_exaN P75_0) all0)) (own_staK (own_staK (own_staK (Sta.ext E68 S_wU) K72c (allS (own_exaN A68) all0)) K75c (allS (own_exaN P72_0) all0)) K77c (allS (own_exaN P75_0) all0)) ne_UD) hZ (hw _ (List.mem_of_getElem? (i := 68) rfl)) (hw _ (List.mem_of_getElem? (i := 3) rfl)) (by decide) (by decide)) q82a q82c (g := (mkF m 189 #[.val (.int p0), .val (.int p1), .val (.int p2), .val (.int (J0_3_S0 p0 p1 p2 wH wD wU fN fL fU)), .val (.int (J0_15_S0 p0 p1 p2 wH wD wU fN fL fU)), .val (.int (J0_28_S0 p0 p1 p2 wH wD wU fN fL fU)), .val (.int (2 : Int32)), .val (.ref b68), .val (.ref fU), .val (.int (0 : Int32)), .val (.int (0 : Int32)), .val (.int (1 : Int32)), .val (.int (1 : Int32))] [(.ref b68)])) rfl (by rw [hml]; rfl) (Steps.refl _) (argsL := []) (rest := []) (lenOf pd___Z rfl) rfl (by show 2 * 0 + _ ≤ _; exact Nat.le_of_eq rfl) (hb hby at_189) (fun _ _ => ⟨rfl, e80, (by decide : 4 + 0 ≤ _), (by decide : 4363 + 0 ≤ _)⟩)
            dsimp only [Pt.U, Pt.locs, Pt.cells, Pt.slots] at X82 ll82 ly82 lz82 st82 hQ82
            subst ll82 ly82 lz82
            obtain ⟨rfl, N82q, e82⟩ := hQ82
            have N82 := Fr.app N80 N82q
            obtain ⟨cq83, kq83, q83a, q83b, q83c⟩ := isOf hZ e82 P77_0
            obtain ⟨_, _, ⟨T83, L83, k83, n83⟩, -, X83, ⟨Lc83, hQ83, ll83, ly83, lz83⟩, st83⟩ := X82.virtualBack hx (y := (⟨"com/example/admission_for_endpoints/admissionforendpoints/MessageReader", "ended", "()Z"⟩ : MethodName)) (z := (⟨"com/example/admission_for_endpoints/admissionforendpoints/MessageReader", "ended", "()Z"⟩ : MethodName)) hown (mvT hZ (hw _ (List.mem_of_getElem? (i := 57) rfl))) (mvT hZ (hw _ (List.mem_of_getElem? (i := 58) rfl))) (notFace_of_selects (args := #[]) (mvT hZ (hw _ (List.mem_of_getElem? (i := 60) rfl)))) (mvT hZ (hw _ (List.mem_of_getElem? (i := 60) rfl))) (mvT hZ (hw _ (List.mem_of_getElem? (i := 59) rfl))) (by decide) (backOf (W := 0) (rm7d l Z a0 hw [] b68 wD T77.heap n0 (Nat.le_trans (Nat.le_trans (Nat.le_trans (Nat.le_trans Z0 E68.1) K72c.1) K75c.1) K77c.1) P77_1 (own_staK (own_staK (own_staK (Sta.ext E68 S_wD) K72c (allS (own_exaN A68) all0)) K75c (allS (own_exaN P72_0) all0)) K77c (allS (own_exaN P75_0) all0))) hZ (hw _ (List.mem_of_getElem? (i := 61) rfl)) (hw _ (List.mem_of_getElem? (i := 3) rfl)) (by decide) (by decide)) q83a q83c (g := (mkF m 197 #[.val (.int p0), .val (.int p1), .val (.int p2), .val (.int (J0_3_S0 p0 p1 p2 wH wD wU fN fL fU)), .val (.int (J0_15_S0 p0 p1 p2 wH wD wU fN fL fU)), .val (.int (J0_28_S0 p0 p1 p2 wH wD wU fN fL fU)), .val (.int (2 : Int32)), .val (.ref b68), .val (.ref fU), .val (.int (0 : Int32)), .val (.int (0 : Int32)), .val (.int (1 : Int32)), .val (.int (1 : Int32))] [(.ref b68)])) rfl (by rw [hml]; rfl) (Steps.refl _) (argsL := []) (rest := []) (lenOf pd___Z rfl) rfl (by show 2 * 0 + _ ≤ _; exact Nat.le_of_eq rfl) (hb hby at_197) (fun _ _ => ⟨rfl, e82, (by decide : 4 + 0 ≤ _), (by decide : 4363 + 0 ≤ _)⟩)
            dsimp only [Pt.U, Pt.locs, Pt.cells, Pt.slots] at X83 ll83 ly83 lz83 st83 hQ83
            subst ll83 ly83 lz83
            obtain ⟨rfl, N83q, e83⟩ := hQ83
            have N83 := Fr.app N82 N83q
            obtain ⟨fs, hr, hrun, hended, hW, hsame⟩ := X83.leave (v := some (.int (1 : Int32))) (fun h => by rw [Bd.returns] at h; cases h)
            refine ⟨_, _, pre81 _ ?_, hrun, hended, _, _, rfl, ?_, ⟨_, rfl⟩, hW, hsame.mono (by decide) (by decide)⟩
            · show Steps p.tables e below (T80.setTop (mkF m 179 #[.val (.int p0), .val (.int p1), .val (.int p2), .val (.int (J0_3_S0 p0 p1 p2 wH wD wU fN fL fU)), .val (.int (J0_15_S0 p0 p1 p2 wH wD wU fN fL fU)), .val (.int (J0_28_S0 p0 p1 p2 wH wD wU fN fL fU)), .val (.int (2 : Int32)), .val (.ref b68), .val (.ref fU), .val (.int (0 : Int32)), .val (.int (0 : Int32)), .val (.int (1 : Int32)), .val (.int (1 : Int32))] [(.int (J0_28_S0 p0 p1 p2 wH wD wU fN fL fU))])) _
              refine XS.ifNo X80.here hx rfl (hb hby at_179) rfl ((if0 _ _).trans (feq hc179).1) ?_
              show Steps p.tables e below (T80.setTop (mkF m 182 #[.val (.int p0), .val (.int p1), .val (.int p2), .val (.int (J0_3_S0 p0 p1 p2 wH wD wU fN fL fU)), .val (.int (J0_15_S0 p0 p1 p2 wH wD wU fN fL fU)), .val (.int (J0_28_S0 p0 p1 p2 wH wD wU fN fL fU)), .val (.int (2 : Int32)), .val (.ref b68), .val (.ref fU), .val (.int (0 : Int32)), .val (.int (0 : Int32)), .val (.int (1 : Int32)), .val (.int (1 : Int32))] [])) _
              refine XS.iload X80.here hx rfl (hb hby at_182) rfl ?_
              show Steps p.tables e below (T80.setTop (mkF m 184 #[.val (.int p0), .val (.int p1), .val (.int p2), .val (.int (J0_3_S0 p0 p1 p2 wH wD wU fN fL fU)), .val (.int (J0_15_S0 p0 p1 p2 wH wD wU fN fL fU)), .val (.int (J0_28_S0 p0 p1 p2 wH wD wU fN fL fU)), .val (.int (2 : Int32)), .val (.ref b68), .val (.ref fU), .val (.int (0 : Int32)), .val (.int (0 : Int32)), .val (.int (1 : Int32)), .val (.int (1 : Int32))] [(.int (1 : Int32))])) _
              refine XS.ifNo X80.here hx rfl (hb hby at_184) rfl ((if0 _ _).trans (feq (by decide : ¬ ((1 : Int32) = (0 : Int32)))).1) ?_
              show Steps p.tables e below (T80.setTop (mkF m 187 #[.val (.int p0), .val (.int p1), .val (.int p2), .val (.int (J0_3_S0 p0 p1 p2 wH wD wU fN fL fU)), .val (.int (J0_15_S0 p0 p1 p2 wH wD wU fN fL fU)), .val (.int (J0_28_S0 p0 p1 p2 wH wD wU fN fL fU)), .val (.int (2 : Int32)), .val (.ref b68), .val (.ref fU), .val (.int (0 : Int32)), .val (.int (0 : Int32)), .val (.int (1 : Int32)), .val (.int (1 : Int32))] [])) _
              refine XS.aload X80.here hx rfl (hb hby at_187) rfl rfl ?_
              show Steps p.tables e below (T80.setTop (mkF m 189 #[.val (.int p0), .val (.int p1), .val (.int p2), .val (.int (J0_3_S0 p0 p1 p2 wH wD wU fN fL fU)), .val (.int (J0_15_S0 p0 p1 p2 wH wD wU fN fL fU)), .val (.int (J0_28_S0 p0 p1 p2 wH wD wU fN fL fU)), .val (.int (2 : Int32)), .val (.ref b68), .val (.ref fU), .val (.int (0 : Int32)), .val (.int (0 : Int32)), .val (.int (1 : Int32)), .val (.int (1 : Int32))] [(.ref b68)])) _
              refine st82.trans ?_
              show Steps p.tables e below (T82.setTop (mkF m 192 #[.val (.int p0), .val (.int p1), .val (.int p2), .val (.int (J0_3_S0 p0 p1 p2 wH wD wU fN fL fU)), .val (.int (J0_15_S0 p0 p1 p2 wH wD wU fN fL fU)), .val (.int (J0_28_S0 p0 p1 p2 wH wD wU fN fL fU)), .val (.int (2 : Int32)), .val (.ref b68), .val (.ref fU), .val (.int (0 : Int32)), .val (.int (0 : Int32)), .val (.int (1 : Int32)), .val (.int (1 : Int32))] [(.int (1 : Int32))])) _
              refine XS.ifNo X82.here hx rfl (hb hby at_192) rfl ((if0 _ _).trans (feq (by decide : ¬ ((1 : Int32) = (0 : Int32)))).1) ?_
              show Steps p.tables e below (T82.setTop (mkF m 195 #[.val (.int p0), .val (.int p1), .val (.int p2), .val (.int (J0_3_S0 p0 p1 p2 wH wD wU fN fL fU)), .val (.int (J0_15_S0 p0 p1 p2 wH wD wU fN fL fU)), .val (.int (J0_28_S0 p0 p1 p2 wH wD wU fN fL fU)), .val (.int (2 : Int32)), .val (.ref b68), .val (.ref fU), .val (.int (0 : Int32)), .val (.int (0 : Int32)), .val (.int (1 : Int32)), .val (.int (1 : Int32))] [])) _
              refine XS.aload X82.here hx rfl (hb hby at_195) rfl rfl ?_
              show Steps p.tables e below (T82.setTop (mkF m 197 #[.val (.int p0), .val (.int p1), .val (.int p2), .val (.int (J0_3_S0 p0 p1 p2 wH wD wU fN fL fU)), .val (.int (J0_15_S0 p0 p1 p2 wH wD wU fN fL fU)), .val (.int (J0_28_S0 p0 p1 p2 wH wD wU fN fL fU)), .val (.int (2 : Int32)), .val (.ref b68), .val (.ref fU), .val (.int (0 : Int32)), .val (.int (0 : Int32)), .val (.int (1 : Int32)), .val (.int (1 : Int32))] [(.ref b68)])) _
              refine st83.trans ?_
              show Steps p.tables e below (T83.setTop (mkF m 200 #[.val (.int p0), .val (.int p1), .val (.int p2), .val (.int (J0_3_S0 p0 p1 p2 wH wD wU fN fL fU)), .val (.int (J0_15_S0 p0 p1 p2 wH wD wU fN fL fU)), .val (.int (J0_28_S0 p0 p1 p2 wH wD wU fN fL fU)), .val (.int (2 : Int32)), .val (.ref b68), .val (.ref fU), .val (.int (0 : Int32)), .val (.int (0 : Int32)), .val (.int (1 : Int32)), .val (.int (1 : Int32))] [(.int (1 : Int32))])) _
              refine XS.ifNo X83.here hx rfl (hb hby at_200) rfl ((if0 _ _).trans (feq (by decide : ¬ ((1 : Int32) = (0 : Int32)))).1) ?_
              show Steps p.tables e below (T83.setTop (mkF m 203 #[.val (.int p0), .val (.int p1), .val (.int p2), .val (.int (J0_3_S0 p0 p1 p2 wH wD wU fN fL fU)), .val (.int (J0_15_S0 p0 p1 p2 wH wD wU fN fL fU)), .val (.int (J0_28_S0 p0 p1 p2 wH wD wU fN fL fU)), .val (.int (2 : Int32)), .val (.ref b68), .val (.ref fU), .val (.int (0 : Int32)), .val (.int (0 : Int32)), .val (.int (1 : Int32)), .val (.int (1 : Int32))] [])) _
              refine XS.iconst X83.here hx rfl (hb hby at_203) ?_
              show Steps p.tables e below (T83.setTop (mkF m 204 #[.val (.int p0), .val (.int p1), .val (.int p2), .val (.int (J0_3_S0 p0 p1 p2 wH wD wU fN fL fU)), .val (.int (J0_15_S0 p0 p1 p2 wH wD wU fN fL fU)), .val (.int (J0_28_S0 p0 p1 p2 wH wD wU fN fL fU)), .val (.int (2 : Int32)), .val (.ref b68), .val (.ref fU), .val (.int (0 : Int32)), .val (.int (0 : Int32)), .val (.int (1 : Int32)), .val (.int (1 : Int32))] [(.int (1 : Int32))])) _
              refine XS.goto X83.here hx rfl (pc0 := 204) (pc' := 208) rfl (hb hby at_204) (by decide) (by decide) ?_
              show Steps p.tables e below (T83.setTop (mkF m 208 #[.val (.int p0), .val (.int p1), .val (.int p2), .val (.int (J0_3_S0 p0 p1 p2 wH wD wU fN fL fU)), .val (.int (J0_15_S0 p0 p1 p2 wH wD wU fN fL fU)), .val (.int (J0_28_S0 p0 p1 p2 wH wD wU fN fL fU)), .val (.int (2 : Int32)), .val (.ref b68), .val (.ref fU), .val (.int (0 : Int32)), .val (.int (0 : Int32)), .val (.int (1 : Int32)), .val (.int (1 : Int32))] [(.int (1 : Int32))])) _
              refine XS.istore X83.here hx rfl (hb hby at_208) rfl (l' := #[.val (.int p0), .val (.int p1), .val (.int p2), .val (.int (J0_3_S0 p0 p1 p2 wH wD wU fN fL fU)), .val (.int (J0_15_S0 p0 p1 p2 wH wD wU fN fL fU)), .val (.int (J0_28_S0 p0 p1 p2 wH wD wU fN fL fU)), .val (.int (2 : Int32)), .val (.ref b68), .val (.ref fU), .val (.int (0 : Int32)), .val (.int (0 : Int32)), .val (.int (1 : Int32)), .val (.int (1 : Int32))]) rfl ?_
              show Steps p.tables e below (T83.setTop (mkF m 210 #[.val (.int p0), .val (.int p1), .val (.int p2), .val (.int (J0_3_S0 p0 p1 p2 wH wD wU fN fL fU)), .val (.int (J0_15_S0 p0 p1 p2 wH wD wU fN fL fU)), .val (.int (J0_28_S0 p0 p1 p2 wH wD wU fN fL fU)), .val (.int (2 : Int32)), .val (.ref b68), .val (.ref fU), .val (.int (0 : Int32)), .val (.int (0 : Int32)), .val (.int (1 : Int32)), .val (.int (1 : Int32))] [])) _
              refine XS.iload X83.here hx rfl (hb hby at_210) rfl ?_
              show Steps p.tables e below (T83.setTop (mkF m 212 #[.val (.int p0), .val (.int p1), .val (.int p2), .val (.int (J0_3_S0 p0 p1 p2 wH wD wU fN fL fU)), .val (.int (J0_15_S0 p0 p1 p2 wH wD wU fN fL fU)), .val (.int (J0_28_S0 p0 p1 p2 wH wD wU fN fL fU)), .val (.int (2 : Int32)), .val (.ref b68), .val (.ref fU), .val (.int (0 : Int32)), .val (.int (0 : Int32)), .val (.int (1 : Int32)), .val (.int (1 : Int32))] [(.int (1 : Int32))])) _
              exact retN X83 hx (t := .boolean) Bd.returns (by simp) (hb hby at_212) hr
            · show Q0 Z p0 p1 p2 wH wD wU fN fL fU h0 n0 _ T83.heap _
              rw [e83]
              exact ⟨(by unfold F0; simp only [if_neg hi0, if_neg hi1, if_pos hi2, if_pos hc59, if_neg hc179]), N83⟩
        · obtain ⟨cq84, kq84, q84a, q84b, q84c⟩ := isOf hZ (rfl : T72.heap = T72.heap) P72_0
          obtain ⟨_, _, ⟨T84, L84, k84, n84⟩, -, X84, ⟨Lc84, hQ84, ll84, ly84, lz84⟩, st84⟩ := X72.virtualBack hx (y := (⟨"com/example/admission_for_endpoints/admissionforendpoints/MessageReader", "drop", "()V"⟩ : MethodName)) (z := (⟨"com/example/admission_for_endpoints/admissionforendpoints/MessageReader", "drop", "()V"⟩ : MethodName)) hown (mvT hZ (hw _ (List.mem_of_getElem? (i := 24) rfl))) (mvT hZ (hw _ (List.mem_of_getElem? (i := 25) rfl))) (notFace_of_selects (args := #[]) (mvT hZ (hw _ (List.mem_of_getElem? (i := 27) rfl)))) (mvT hZ (hw _ (List.mem_of_getElem? (i := 27) rfl))) (mvT hZ (hw _ (List.mem_of_getElem? (i := 26) rfl))) (by decide) (backOf (W := 0) (rm3 l Z a0 hw [] b68 wH ab72 p0 (0 : Int32) (0 : Int32) (0 : Int32) (0 : Int32) (0 : Int64) T72.heap n0 (Nat.le_trans (Nat.le_trans Z0 E68.1) K72c.1) P72_0 P72_1 P72_2 P72_3 P72_4 P72_5 P72_6 P72_7 P72_8 g_b68) hZ (hw _ (List.mem_of_getElem? (i := 28) rfl)) (hw _ (List.mem_of_getElem? (i := 3) rfl)) (by decide) (by decide)) q84a q84c (g := (mkF m 64 #[.val (.int p0), .val (.int p1), .val (.int p2), .val (.int (J0_3_S0 p0 p1 p2 wH wD wU fN fL fU)), .val (.int (J0_15_S0 p0 p1 p2 wH wD wU fN fL fU)), .val (.int (J0_28_S0 p0 p1 p2 wH wD wU fN fL fU)), .val (.int (2 : Int32)), .val (.ref b68), .unset, .unset, .unset, .unset, .unset] [(.ref b68)])) rfl (by rw [hml]; rfl) (Steps.refl _) (argsL := []) (rest := []) (lenOf pd___V rfl) rfl (by show 2 * 0 + _ ≤ _; exact Nat.le_of_eq rfl) (hb hby at_64) (fun _ _ => ⟨rfl, (rfl : T72.heap = T72.heap), (by decide : 3 + 0 ≤ _), (by decide : 267 + 0 ≤ _)⟩)
          dsimp only [Pt.U, Pt.locs, Pt.cells, Pt.slots] at X84 ll84 ly84 lz84 st84 hQ84
          subst ll84 ly84 lz84
          obtain ⟨rfl, N84q, K84c, P84_0, P84_1, P84_2, P84_3, P84_4, P84_5, P84_6, P84_7, P84_8⟩ := hQ84
          have N84 := Fr.app N72 N84q
          have K84 : Keep h0 T84.heap [] := K72.trans K84c (allS (Or.inr sz_b68) all0)
          obtain ⟨T85, X85, e85, st85⟩ := getS2 X84 hx hZ hown (host := "") (Or.inl (hw _ (List.mem_of_getElem? (i := 31) rfl))) Via.refl (rfl : T84.heap = T84.heap) (own_staK (own_staK (Sta.ext E68 S_fU) K72c (allS (own_exaN A68) all0)) K84c (allS (own_exaN P72_0) all0)) (g := (mkF m 94 #[.val (.int p0), .val (.int p1), .val (.int p2), .val (.int (J0_3_S0 p0 p1 p2 wH wD wU fN fL fU)), .val (.int (J0_15_S0 p0 p1 p2 wH wD wU fN fL fU)), .val (.int (J0_28_S0 p0 p1 p2 wH wD wU fN fL fU)), .val (.int (2 : Int32)), .val (.ref b68), .unset, .unset, .unset, .unset, .unset] [])) rfl (hb hby at_94)
          obtain ⟨cq86, kq86, q86a, q86b, q86c⟩ := isOf hZ e85 P84_0
          obtain ⟨_, _, ⟨T86, L86, k86, n86⟩, -, X86, ⟨Lc86, hQ86, ll86, ly86, lz86⟩, st86⟩ := X85.virtualBack hx (y := (⟨"com/example/admission_for_endpoints/admissionforendpoints/MessageReader", "frame", "(Lcom/example/admission_for_endpoints/admissionforendpoints/MessageReader$Framing;J)V"⟩ : MethodName)) (z := (⟨"com/example/admission_for_endpoints/admissionforendpoints/MessageReader", "frame", "(Lcom/example/admission_for_endpoints/admissionforendpoints/MessageReader$Framing;J)V"⟩ : MethodName)) hown (mvT hZ (hw _ (List.mem_of_getElem? (i := 34) rfl))) (mvT hZ (hw _ (List.mem_of_getElem? (i := 35) rfl))) (notFace_of_selects (args := #[]) (mvT hZ (hw _ (List.mem_of_getElem? (i := 37) rfl)))) (mvT hZ (hw _ (List.mem_of_getElem? (i := 37) rfl))) (mvT hZ (hw _ (List.mem_of_getElem? (i := 36) rfl))) (by decide) (backOf (W := 0) (rm4o3 l Z a0 hw [] b68 fU wH ab72 p0 (1 : Int32) (0 : Int32) (0 : Int32) (0 : Int32) (0 : Int64) kb72 wD wU T84.heap n0 (Nat.le_trans (Nat.le_trans (Nat.le_trans Z0 E68.1) K72c.1) K84c.1) P84_0 P84_1 P84_2 P84_3 P84_4 P84_5 P84_6 P84_7 P84_8 (P72_9.keep K84c (ninS P72_10 nin0)) (own_staK (own_staK (Sta.ext E68 S_wD) K72c (allS (own_exaN A68) all0)) K84c (allS (own_exaN P72_0) all0)) (own_staK (own_staK (Sta.ext E68 S_wU) K72c (allS (own_exaN A68) all0)) K84c (allS (own_exaN P72_0) all0)) (Exa.keep (Exa.keep (Exa.ext E68 E_fU) K72c) K84c) (((Fld.ext E68 O_fU).keep K72c (ninS ne71 nin0)).keep K84c (ninS ne71 nin0)) g_b68 P72_10 ne71) hZ (hw _ (List.mem_of_getElem? (i := 38) rfl)) (hw _ (List.mem_of_getElem? (i := 3) rfl)) (by decide) (by decide)) q86a q86c (g := (mkF m 104 #[.val (.int p0), .val (.int p1), .val (.int p2), .val (.int (J0_3_S0 p0 p1 p2 wH wD wU fN fL fU)), .val (.int (J0_15_S0 p0 p1 p2 wH wD wU fN fL fU)), .val (.int (J0_28_S0 p0 p1 p2 wH wD wU fN fL fU)), .val (.int (2 : Int32)), .val (.ref b68), .val (.ref fU), .unset, .unset, .unset, .unset] [(.long (0 : Int64)), (.ref fU), (.ref b68)])) rfl (by rw [hml]; rfl) (Steps.refl _) (argsL := [(.ref fU), (.long (0 : Int64))]) (rest := []) (lenOf pd__Lcom_example_admission_for_endpoints_admissionforendpoints_MessageReader_Framing_J_V rfl) rfl (by show 2 * 0 + _ ≤ _; exact Nat.le_of_eq rfl) (hb hby at_104) (fun _ _ => ⟨rfl, e85, (by decide : 3 + 1 ≤ _), (by decide : 267 + 4096 ≤ _)⟩)
          dsimp only [Pt.U, Pt.locs, Pt.cells, Pt.slots] at X86 ll86 ly86 lz86 st86 hQ86
          subst ll86 ly86 lz86
          obtain ⟨rfl, N86q, K86c, P86_0, P86_1, P86_2, P86_3, P86_4, P86_5, P86_6, P86_7⟩ := hQ86
          have N86 := Fr.app N84 N86q
          have K86 : Keep h0 T86.heap [] := K84.trans K86c (allS (Or.inr sz_b68) all0)
          obtain ⟨cq87, kq87, q87a, q87b, q87c⟩ := isOf hZ (rfl : T86.heap = T86.heap) P86_0
          obtain ⟨_, _, ⟨T87, L87, k87, n87⟩, -, X87, ⟨Lc87, hQ87, ll87, ly87, lz87⟩, st87⟩ := X86.virtualBack hx (y := (⟨"com/example/admission_for_endpoints/admissionforendpoints/MessageReader", "ended", "()Z"⟩ : MethodName)) (z := (⟨"com/example/admission_for_endpoints/admissionforendpoints/MessageReader", "ended", "()Z"⟩ : MethodName)) hown (mvT hZ (hw _ (List.mem_of_getElem? (i := 57) rfl))) (mvT hZ (hw _ (List.mem_of_getElem? (i := 58) rfl))) (notFace_of_selects (args := #[]) (mvT hZ (hw _ (List.mem_of_getElem? (i := 60) rfl)))) (mvT hZ (hw _ (List.mem_of_getElem? (i := 60) rfl))) (mvT hZ (hw _ (List.mem_of_getElem? (i := 59) rfl))) (by decide) (backOf (W := 0) (rm7u l Z a0 hw [] b68 wU wD T86.heap n0 (Nat.le_trans (Nat.le_trans (Nat.le_trans (Nat.le_trans Z0 E68.1) K72c.1) K84c.1) K86c.1) P86_1 (own_staK (own_staK (own_staK (Sta.ext E68 S_wD) K72c (allS (own_exaN A68) all0)) K84c (allS (own_exaN P72_0) all0)) K86c (allS (own_exaN P84_0) all0)) ne_UD) hZ (hw _ (List.mem_of_getElem? (i := 61) rfl)) (hw _ (List.mem_of_getElem? (i := 3) rfl)) (by decide) (by decide)) q87a q87c (g := (mkF m 109 #[.val (.int p0), .val (.int p1), .val (.int p2), .val (.int (J0_3_S0 p0 p1 p2 wH wD wU fN fL fU)), .val (.int (J0_15_S0 p0 p1 p2 wH wD wU fN fL fU)), .val (.int (J0_28_S0 p0 p1 p2 wH wD wU fN fL fU)), .val (.int (2 : Int32)), .val (.ref b68), .val (.ref fU), .unset, .unset, .unset, .unset] [(.ref b68)])) rfl (by rw [hml]; rfl) (Steps.refl _) (argsL := []) (rest := []) (lenOf pd___Z rfl) rfl (by show 2 * 0 + _ ≤ _; exact Nat.le_of_eq rfl) (hb hby at_109) (fun _ _ => ⟨rfl, (rfl : T86.heap = T86.heap), (by decide : 4 + 0 ≤ _), (by decide : 4363 + 0 ≤ _)⟩)
          dsimp only [Pt.U, Pt.locs, Pt.cells, Pt.slots] at X87 ll87 ly87 lz87 st87 hQ87
          subst ll87 ly87 lz87
          obtain ⟨rfl, N87q, e87⟩ := hQ87
          have N87 := Fr.app N86 N87q
          obtain ⟨cq88, kq88, q88a, q88b, q88c⟩ := isOf hZ e87 P86_0
          obtain ⟨_, _, ⟨T88, L88, k88, n88⟩, -, X88, ⟨Lc88, hQ88, ll88, ly88, lz88⟩, st88⟩ := X87.virtualBack hx (y := (⟨"com/example/admission_for_endpoints/admissionforendpoints/MessageReader", "end", "()Z"⟩ : MethodName)) (z := (⟨"com/example/admission_for_endpoints/admissionforendpoints/MessageReader", "end", "()Z"⟩ : MethodName)) hown (mvT hZ (hw _ (List.mem_of_getElem? (i := 64) rfl))) (mvT hZ (hw _ (List.mem_of_getElem? (i := 65) rfl))) (notFace_of_selects (args := #[]) (mvT hZ (hw _ (List.mem_of_getElem? (i := 67) rfl)))) (mvT hZ (hw _ (List.mem_of_getElem? (i := 67) rfl))) (mvT hZ (hw _ (List.mem_of_getElem? (i := 66) rfl))) (by decide) (backOf (W := 0) (rm8u l Z a0 hw [] b68 wU wD (0 : Int32) (0 : Int32) T86.heap n0 (Nat.le_trans (Nat.le_trans (Nat.le_trans (Nat.le_trans Z0 E68.1) K72c.1) K84c.1) K86c.1) P86_0 P86_1 P86_5 P86_6 (own_staK (own_staK (own_staK (Sta.ext E68 S_wD) K72c (allS (own_exaN A68) all0)) K84c (allS (own_exaN P72_0) all0)) K86c (allS (own_exaN P84_0) all0)) (own_staK (own_staK (own_staK (Sta.ext E68 S_wU) K72c (allS (own_exaN A68) all0)) K84c (allS (own_exaN P72_0) all0)) K86c (allS (own_exaN P84_0) all0)) g_b68) hZ (hw _ (List.mem_of_getElem? (i := 68) rfl)) (hw _ (List.mem_of_getElem? (i := 3) rfl)) (by decide) (by decide)) q88a q88c (g := (mkF m 129 #[.val (.int p0), .val (.int p1), .val (.int p2), .val (.int (J0_3_S0 p0 p1 p2 wH wD wU fN fL fU)), .val (.int (J0_15_S0 p0 p1 p2 wH wD wU fN fL fU)), .val (.int (J0_28_S0 p0 p1 p2 wH wD wU fN fL fU)), .val (.int (2 : Int32)), .val (.ref b68), .val (.ref fU), .val (.int (0 : Int32)), .val (.int (0 : Int32)), .unset, .unset] [(.ref b68)])) rfl (by rw [hml]; rfl) (Steps.refl _) (argsL := []) (rest := []) (lenOf pd___Z rfl) rfl (by show 2 * 0 + _ ≤ _; exact Nat.le_of_eq rfl) (hb hby at_129) (fun _ _ => ⟨rfl, e87, (by decide : 4 + 0 ≤ _), (by decide : 4363 + 0 ≤ _)⟩)
          dsimp only [Pt.U, Pt.locs, Pt.cells, Pt.slots] at X88 ll88 ly88 lz88 st88 hQ88
          subst ll88 ly88 lz88
          obtain ⟨rfl, N88q, K88c, P88_0, P88_1, P88_2, P88_3⟩ := hQ88
          have N88 := Fr.app N87 N88q
          have K88 : Keep h0 T88.heap [] := K86.trans K88c (allS (Or.inr sz_b68) all0)
          obtain ⟨cq89, kq89, q89a, q89b, q89c⟩ := isOf hZ (rfl : T88.heap = T88.heap) P88_0
          obtain ⟨_, _, ⟨T89, L89, k89, n89⟩, -, X89, ⟨Lc89, hQ89, ll89, ly89, lz89⟩, st89⟩ := X88.virtualBack hx (y := (⟨"com/example/admission_for_endpoints/admissionforendpoints/MessageReader", "ended", "()Z"⟩ : MethodName)) (z := (⟨"com/example/admission_for_endpoints/admissionforendpoints/MessageReader", "ended", "()Z"⟩ : MethodName)) hown (mvT hZ (hw _ (List.mem_of_getElem? (i := 57) rfl))) (mvT hZ (hw _ (List.mem_of_getElem? (i := 58) rfl))) (notFace_of_selects (args := #[]) (mvT hZ (hw _ (List.mem_of_getElem? (i := 60) rfl)))) (mvT hZ (hw _ (List.mem_of_getElem? (i := 60) rfl))) (mvT hZ (hw _ (List.mem_of_getElem? (i := 59) rfl))) (by decide) (backOf (W := 0) (rm7d l Z a0 hw [] b68 wD T88.heap n0 (Nat.le_trans (Nat.le_trans (Nat.le_trans (Nat.le_trans (Nat.le_trans Z0 E68.1) K72c.1) K84c.1) K86c.1) K88c.1) P88_1 (own_staK (own_staK (own_staK (own_staK (Sta.ext E68 S_wD) K72c (allS (own_exaN A68) all0)) K84c (allS (own_exaN P72_0) all0)) K86c (allS (own_exaN P84_0) all0)) K88c (allS (own_exaN P86_0) all0))) hZ (hw _ (List.mem_of_getElem? (i := 61) rfl)) (hw _ (List.mem_of_getElem? (i := 3) rfl)) (by decide) (by decide)) q89a q89c (g := (mkF m 148 #[.val (.int p0), .val (.int p1), .val (.int p2), .val (.int (J0_3_S0 p0 p1 p2 wH wD wU fN fL fU)), .val (.int (J0_15_S0 p0 p1 p2 wH wD wU fN fL fU)), .val (.int (J0_28_S0 p0 p1 p2 wH wD wU fN fL fU)), .val (.int (2 : Int32)), .val (.ref b68), .val (.ref fU), .val (.int (0 : Int32)), .val (.int (0 : Int32)), .val (.int (1 : Int32)), .unset] [(.ref b68)])) rfl (by rw [hml]; rfl) (Steps.refl _) (argsL := []) (rest := []) (lenOf pd___Z rfl) rfl (by show 2 * 0 + _ ≤ _; exact Nat.le_of_eq rfl) (hb hby at_148) (fun _ _ => ⟨rfl, (rfl : T88.heap = T88.heap), (by decide : 4 + 0 ≤ _), (by decide : 4363 + 0 ≤ _)⟩)
          dsimp only [Pt.U, Pt.locs, Pt.cells, Pt.slots] at X89 ll89 ly89 lz89 st89 hQ89
          subst ll89 ly89 lz89
          obtain ⟨rfl, N89q, e89⟩ := hQ89
          have N89 := Fr.app N88 N89q
          obtain ⟨cq90, kq90, q90a, q90b, q90c⟩ := isOf hZ e89 P88_0
          obtain ⟨_, _, ⟨T90, L90, k90, n90⟩, -, X90, ⟨Lc90, hQ90, ll90, ly90, lz90⟩, st90⟩ := X89.virtualBack hx (y := (⟨"com/example/admission_for_endpoints/admissionforendpoints/MessageReader", "truncated", "()Z"⟩ : MethodName)) (z := (⟨"com/example/admission_for_endpoints/admissionforendpoints/MessageReader", "truncated", "()Z"⟩ : MethodName)) hown (mvT hZ (hw _ (List.mem_of_getElem? (i := 69) rfl))) (mvT hZ (hw _ (List.mem_of_getElem? (i := 70) rfl))) (notFace_of_selects (args := #[]) (mvT hZ (hw _ (List.mem_of_getElem? (i := 72) rfl)))) (mvT hZ (hw _ (List.mem_of_getElem? (i := 72) rfl))) (mvT hZ (hw _ (List.mem_of_getElem? (i := 71) rfl))) (by decide) (backOf (W := 0) (rm9 l Z a0 hw [] b68 T88.heap n0 (Nat.le_trans (Nat.le_trans (Nat.le_trans (Nat.le_trans (Nat.le_trans Z0 E68.1) K72c.1) K84c.1) K86c.1) K88c.1) P88_2) hZ (hw _ (List.mem_of_getElem? (i := 73) rfl)) (hw _ (List.mem_of_getElem? (i := 3) rfl)) (by decide) (by decide)) q90a q90c (g := (mkF m 156 #[.val (.int p0), .val (.int p1), .val (.int p2), .val (.int (J0_3_S0 p0 p1 p2 wH wD wU fN fL fU)), .val (.int (J0_15_S0 p0 p1 p2 wH wD wU fN fL fU)), .val (.int (J0_28_S0 p0 p1 p2 wH wD wU fN fL fU)), .val (.int (2 : Int32)), .val (.ref b68), .val (.ref fU), .val (.int (0 : Int32)), .val (.int (0 : Int32)), .val (.int (1 : Int32)), .unset] [(.ref b68)])) rfl (by rw [hml]; rfl) (Steps.refl _) (argsL := []) (rest := []) (lenOf pd___Z rfl) rfl (by show 2 * 0 + _ ≤ _; exact Nat.le_of_eq rfl) (hb hby at_156) (fun _ _ => ⟨rfl, e89, (by decide : 4 + 0 ≤ _), (by decide : 4363 + 0 ≤ _)⟩)
          dsimp only [Pt.U, Pt.locs, Pt.cells, Pt.slots] at X90 ll90 ly90 lz90 st90 hQ90
          subst ll90 ly90 lz90
          obtain ⟨rfl, N90q, e90⟩ := hQ90
          have N90 := Fr.app N89 N90q
          obtain ⟨cq91, kq91, q91a, q91b, q91c⟩ := isOf hZ e90 P88_0
          obtain ⟨_, _, ⟨T91, L91, k91, n91⟩, -, X91, ⟨Lc91, hQ91, ll91, ly91, lz91⟩, st91⟩ := X90.virtualBack hx (y := (⟨"com/example/admission_for_endpoints/admissionforendpoints/MessageReader", "bodyBytes", "()I"⟩ : MethodName)) (z := (⟨"com/example/admission_for_endpoints/admissionforendpoints/MessageReader", "bodyBytes", "()I"⟩ : MethodName)) hown (mvT hZ (hw _ (List.mem_of_getElem? (i := 76) rfl))) (mvT hZ (hw _ (List.mem_of_getElem? (i := 77) rfl))) (notFace_of_selects (args := #[]) (mvT hZ (hw _ (List.mem_of_getElem? (i := 79) rfl)))) (mvT hZ (hw _ (List.mem_of_getElem? (i := 79) rfl))) (mvT hZ (hw _ (List.mem_of_getElem? (i := 78) rfl))) (by decide) (backOf (W := 0) (rm10 l Z a0 hw [] b68 T88.heap n0 (Nat.le_trans (Nat.le_trans (Nat.le_trans (Nat.le_trans (Nat.le_trans Z0 E68.1) K72c.1) K84c.1) K86c.1) K88c.1) P88_3) hZ (hw _ (List.mem_of_getElem? (i := 80) rfl)) (hw _ (List.mem_of_getElem? (i := 3) rfl)) (by decide) (by decide)) q91a q91c (g := (mkF m 164 #[.val (.int p0), .val (.int p1), .val (.int p2), .val (.int (J0_3_S0 p0 p1 p2 wH wD wU fN fL fU)), .val (.int (J0_15_S0 p0 p1 p2 wH wD wU fN fL fU)), .val (.int (J0_28_S0 p0 p1 p2 wH wD wU fN fL fU)), .val (.int (2 : Int32)), .val (.ref b68), .val (.ref fU), .val (.int (0 : Int32)), .val (.int (0 : Int32)), .val (.int (1 : Int32)), .unset] [(.ref b68)])) rfl (by rw [hml]; rfl) (Steps.refl _) (argsL := []) (rest := []) (lenOf pd___I rfl) rfl (by show 2 * 0 + _ ≤ _; exact Nat.le_of_eq rfl) (hb hby at_164) (fun _ _ => ⟨rfl, e90, (by decide : 4 + 0 ≤ _), (by decide : 4363 + 0 ≤ _)⟩)
          dsimp only [Pt.U, Pt.locs, Pt.cells, Pt.slots] at X91 ll91 ly91 lz91 st91 hQ91
          subst ll91 ly91 lz91
          obtain ⟨rfl, N91q, e91⟩ := hQ91
          have N91 := Fr.app N90 N91q
          have pre92 : ∀ t, Steps p.tables e below (T91.setTop (mkF m 179 #[.val (.int p0), .val (.int p1), .val (.int p2), .val (.int (J0_3_S0 p0 p1 p2 wH wD wU fN fL fU)), .val (.int (J0_15_S0 p0 p1 p2 wH wD wU fN fL fU)), .val (.int (J0_28_S0 p0 p1 p2 wH wD wU fN fL fU)), .val (.int (2 : Int32)), .val (.ref b68), .val (.ref fU), .val (.int (0 : Int32)), .val (.int (0 : Int32)), .val (.int (1 : Int32)), .val (.int (1 : Int32))] [(.int (J0_28_S0 p0 p1 p2 wH wD wU fN fL fU))])) t → Steps p.tables e below (s₁.setTop (entryFrame m #[(.int p0), (.int p1), (.int p2)] maxLocals)) t := fun t kt => pre73 t (by
            show Steps p.tables e below (T72.setTop (mkF m 59 #[.val (.int p0), .val (.int p1), .val (.int p2), .val (.int (J0_3_S0 p0 p1 p2 wH wD wU fN fL fU)), .val (.int (J0_15_S0 p0 p1 p2 wH wD wU fN fL fU)), .val (.int (J0_28_S0 p0 p1 p2 wH wD wU fN fL fU)), .val (.int (2 : Int32)), .val (.ref b68), .unset, .unset, .unset, .unset, .unset] [(.int (J0_15_S0 p0 p1 p2 wH wD wU fN fL fU))])) _
            refine XS.ifNo X72.here hx rfl (hb hby at_59) rfl ((if0 _ _).trans (feq hc59).1) ?_
            show Steps p.tables e below (T72.setTop (mkF m 62 #[.val (.int p0), .val (.int p1), .val (.int p2), .val (.int (J0_3_S0 p0 p1 p2 wH wD wU fN fL fU)), .val (.int (J0_15_S0 p0 p1 p2 wH wD wU fN fL fU)), .val (.int (J0_28_S0 p0 p1 p2 wH wD wU fN fL fU)), .val (.int (2 : Int32)), .val (.ref b68), .unset, .unset, .unset, .unset, .unset] [])) _
            refine XS.aload X72.here hx rfl (hb hby at_62) rfl rfl ?_
            show Steps p.tables e below (T72.setTop (mkF m 64 #[.val (.int p0), .val (.int p1), .val (.int p2), .val (.int (J0_3_S0 p0 p1 p2 wH wD wU fN fL fU)), .val (.int (J0_15_S0 p0 p1 p2 wH wD wU fN fL fU)), .val (.int (J0_28_S0 p0 p1 p2 wH wD wU fN fL fU)), .val (.int (2 : Int32)), .val (.ref b68), .unset, .unset, .unset, .unset, .unset] [(.ref b68)])) _
            refine st84.trans ?_
            show Steps p.tables e below (T84.setTop (mkF m 67 #[.val (.int p0), .val (.int p1), .val (.int p2), .val (.int (J0_3_S0 p0 p1 p2 wH wD wU fN fL fU)), .val (.int (J0_15_S0 p0 p1 p2 wH wD wU fN fL fU)), .val (.int (J0_28_S0 p0 p1 p2 wH wD wU fN fL fU)), .val (.int (2 : Int32)), .val (.ref b68), .unset, .unset, .unset, .unset, .unset] [])) _
            refine XS.iload X84.here hx rfl (hb hby at_67) rfl ?_
            show Steps p.tables e below (T84.setTop (mkF m 69 #[.val (.int p0), .val (.int p1), .val (.int p2), .val (.int (J0_3_S0 p0 p1 p2 wH wD wU fN fL fU)), .val (.int (J0_15_S0 p0 p1 p2 wH wD wU fN fL fU)), .val (.int (J0_28_S0 p0 p1 p2 wH wD wU fN fL fU)), .val (.int (2 : Int32)), .val (.ref b68), .unset, .unset, .unset, .unset, .unset] [(.int (2 : Int32))])) _
            refine XS.ifYes X84.here hx rfl (pc0 := 69) (pc' := 80) rfl (hb hby at_69) rfl ((if0 _ _).trans (feq (by decide : ¬ ((2 : Int32) = (0 : Int32)))).2) (by decide) (by decide) ?_
            show Steps p.tables e below (T84.setTop (mkF m 80 #[.val (.int p0), .val (.int p1), .val (.int p2), .val (.int (J0_3_S0 p0 p1 p2 wH wD wU fN fL fU)), .val (.int (J0_15_S0 p0 p1 p2 wH wD wU fN fL fU)), .val (.int (J0_28_S0 p0 p1 p2 wH wD wU fN fL fU)), .val (.int (2 : Int32)), .val (.ref b68), .unset, .unset, .unset, .unset, .unset] [])) _
            refine XS.iload X84.here hx rfl (hb hby at_80) rfl ?_
            show Steps p.tables e below (T84.setTop (mkF m 82 #[.val (.int p0), .val (.int p1), .val (.int p2), .val (.int (J0_3_S0 p0 p1 p2 wH wD wU fN fL fU)), .val (.int (J0_15_S0 p0 p1 p2 wH wD wU fN fL fU)), .val (.int (J0_28_S0 p0 p1 p2 wH wD wU fN fL fU)), .val (.int (2 : Int32)), .val (.ref b68), .unset, .unset, .unset, .unset, .unset] [(.int (2 : Int32))])) _
            refine XS.iconst X84.here hx rfl (hb hby at_82) ?_
            show Steps p.tables e below (T84.setTop (mkF m 83 #[.val (.int p0), .val (.int p1), .val (.int p2), .val (.int (J0_3_S0 p0 p1 p2 wH wD wU fN fL fU)), .val (.int (J0_15_S0 p0 p1 p2 wH wD wU fN fL fU)), .val (.int (J0_28_S0 p0 p1 p2 wH wD wU fN fL fU)), .val (.int (2 : Int32)), .val (.ref b68), .unset, .unset, .unset, .unset, .unset] [(.int (1 : Int32)), (.int (2 : Int32))])) _
            refine XS.icmpYes X84.here hx rfl (pc0 := 83) (pc' := 94) rfl (hb hby at_83) rfl (feq (by decide : ¬ ((2 : Int32) = (1 : Int32)))).2 (by decide) (by decide) ?_
            show Steps p.tables e below (T84.setTop (mkF m 94 #[.val (.int p0), .val (.int p1), .val (.int p2), .val (.int (J0_3_S0 p0 p1 p2 wH wD wU fN fL fU)), .val (.int (J0_15_S0 p0 p1 p2 wH wD wU fN fL fU)), .val (.int (J0_28_S0 p0 p1 p2 wH wD wU fN fL fU)), .val (.int (2 : Int32)), .val (.ref b68), .unset, .unset, .unset, .unset, .unset] [])) _
            refine st85 _ ?_
            show Steps p.tables e below (T85.setTop (mkF m 97 #[.val (.int p0), .val (.int p1), .val (.int p2), .val (.int (J0_3_S0 p0 p1 p2 wH wD wU fN fL fU)), .val (.int (J0_15_S0 p0 p1 p2 wH wD wU fN fL fU)), .val (.int (J0_28_S0 p0 p1 p2 wH wD wU fN fL fU)), .val (.int (2 : Int32)), .val (.ref b68), .unset, .unset, .unset, .unset, .unset] [(.ref fU)])) _
            refine XS.astore X85.here hx rfl (hb hby at_97) rfl rfl (l' := #[.val (.int p0), .val (.int p1), .val (.int p2), .val (.int (J0_3_S0 p0 p1 p2 wH wD wU fN fL fU)), .val (.int (J0_15_S0 p0 p1 p2 wH wD wU fN fL fU)), .val (.int (J0_28_S0 p0 p1 p2 wH wD wU fN fL fU)), .val (.int (2 : Int32)), .val (.ref b68), .val (.ref fU), .unset, .unset, .unset, .unset]) rfl ?_
            show Steps p.tables e below (T85.setTop (mkF m 99 #[.val (.int p0), .val (.int p1), .val (.int p2), .val (.int (J0_3_S0 p0 p1 p2 wH wD wU fN fL fU)), .val (.int (J0_15_S0 p0 p1 p2 wH wD wU fN fL fU)), .val (.int (J0_28_S0 p0 p1 p2 wH wD wU fN fL fU)), .val (.int (2 : Int32)), .val (.ref b68), .val (.ref fU), .unset, .unset, .unset, .unset] [])) _
            refine XS.aload X85.here hx rfl (hb hby at_99) rfl rfl ?_
            show Steps p.tables e below (T85.setTop (mkF m 101 #[.val (.int p0), .val (.int p1), .val (.int p2), .val (.int (J0_3_S0 p0 p1 p2 wH wD wU fN fL fU)), .val (.int (J0_15_S0 p0 p1 p2 wH wD wU fN fL fU)), .val (.int (J0_28_S0 p0 p1 p2 wH wD wU fN fL fU)), .val (.int (2 : Int32)), .val (.ref b68), .val (.ref fU), .unset, .unset, .unset, .unset] [(.ref b68)])) _
            refine XS.aload X85.here hx rfl (hb hby at_101) rfl rfl ?_
            show Steps p.tables e below (T85.setTop (mkF m 103 #[.val (.int p0), .val (.int p1), .val (.int p2), .val (.int (J0_3_S0 p0 p1 p2 wH wD wU fN fL fU)), .val (.int (J0_15_S0 p0 p1 p2 wH wD wU fN fL fU)), .val (.int (J0_28_S0 p0 p1 p2 wH wD wU fN fL fU)), .val (.int (2 : Int32)), .val (.ref b68), .val (.ref fU), .unset, .unset, .unset, .unset] [(.ref fU), (.ref b68)])) _
            refine XS.lconst X85.here hx rfl (hb hby at_103) ?_
            show Steps p.tables e below (T85.setTop (mkF m 104 #[.val (.int p0), .val (.int p1), .val (.int p2), .val (.int (J0_3_S0 p0 p1 p2 wH wD wU fN fL fU)), .val (.int (J0_15_S0 p0 p1 p2 wH wD wU fN fL fU)), .val (.int (J0_28_S0 p0 p1 p2 wH wD wU fN fL fU)), .val (.int (2 : Int32)), .val (.ref b68), .val (.ref fU), .unset, .unset, .unset, .unset] [(.long (0 : Int64)), (.ref fU), (.ref b68)])) _
            refine st86.trans ?_
            show Steps p.tables e below (T86.setTop (mkF m 107 #[.val (.int p0), .val (.int p1), .val (.int p2), .val (.int (J0_3_S0 p0 p1 p2 wH wD wU fN fL fU)), .val (.int (J0_15_S0 p0 p1 p2 wH wD wU fN fL fU)), .val (.int (J0_28_S0 p0 p1 p2 wH wD wU fN fL fU)), .val (.int (2 : Int32)), .val (.ref b68), .val (.ref fU), .unset, .unset, .unset, .unset] [])) _
            refine XS.aload X86.here hx rfl (hb hby at_107) rfl rfl ?_
            show Steps p.tables e below (T86.setTop (mkF m 109 #[.val (.int p0), .val (.int p1), .val (.int p2), .val (.int (J0_3_S0 p0 p1 p2 wH wD wU fN fL fU)), .val (.int (J0_15_S0 p0 p1 p2 wH wD wU fN fL fU)), .val (.int (J0_28_S0 p0 p1 p2 wH wD wU fN fL fU)), .val (.int (2 : Int32)), .val (.ref b68), .val (.ref fU), .unset, .unset, .unset, .unset] [(.ref b68)])) _
            refine st87.trans ?_
            show Steps p.tables e below (T87.setTop (mkF m 112 #[.val (.int p0), .val (.int p1), .val (.int p2), .val (.int (J0_3_S0 p0 p1 p2 wH wD wU fN fL fU)), .val (.int (J0_15_S0 p0 p1 p2 wH wD wU fN fL fU)), .val (.int (J0_28_S0 p0 p1 p2 wH wD wU fN fL fU)), .val (.int (2 : Int32)), .val (.ref b68), .val (.ref fU), .unset, .unset, .unset, .unset] [(.int (0 : Int32))])) _
            refine XS.istore X87.here hx rfl (hb hby at_112) rfl (l' := #[.val (.int p0), .val (.int p1), .val (.int p2), .val (.int (J0_3_S0 p0 p1 p2 wH wD wU fN fL fU)), .val (.int (J0_15_S0 p0 p1 p2 wH wD wU fN fL fU)), .val (.int (J0_28_S0 p0 p1 p2 wH wD wU fN fL fU)), .val (.int (2 : Int32)), .val (.ref b68), .val (.ref fU), .val (.int (0 : Int32)), .unset, .unset, .unset]) rfl ?_
            show Steps p.tables e below (T87.setTop (mkF m 114 #[.val (.int p0), .val (.int p1), .val (.int p2), .val (.int (J0_3_S0 p0 p1 p2 wH wD wU fN fL fU)), .val (.int (J0_15_S0 p0 p1 p2 wH wD wU fN fL fU)), .val (.int (J0_28_S0 p0 p1 p2 wH wD wU fN fL fU)), .val (.int (2 : Int32)), .val (.ref b68), .val (.ref fU), .val (.int (0 : Int32)), .unset, .unset, .unset] [])) _
            refine XS.iload X87.here hx rfl (hb hby at_114) rfl ?_
            show Steps p.tables e below (T87.setTop (mkF m 116 #[.val (.int p0), .val (.int p1), .val (.int p2), .val (.int (J0_3_S0 p0 p1 p2 wH wD wU fN fL fU)), .val (.int (J0_15_S0 p0 p1 p2 wH wD wU fN fL fU)), .val (.int (J0_28_S0 p0 p1 p2 wH wD wU fN fL fU)), .val (.int (2 : Int32)), .val (.ref b68), .val (.ref fU), .val (.int (0 : Int32)), .unset, .unset, .unset] [(.int (2 : Int32))])) _
            refine XS.iconst X87.here hx rfl (hb hby at_116) ?_
            show Steps p.tables e below (T87.setTop (mkF m 117 #[.val (.int p0), .val (.int p1), .val (.int p2), .val (.int (J0_3_S0 p0 p1 p2 wH wD wU fN fL fU)), .val (.int (J0_15_S0 p0 p1 p2 wH wD wU fN fL fU)), .val (.int (J0_28_S0 p0 p1 p2 wH wD wU fN fL fU)), .val (.int (2 : Int32)), .val (.ref b68), .val (.ref fU), .val (.int (0 : Int32)), .unset, .unset, .unset] [(.int (2 : Int32)), (.int (2 : Int32))])) _
            refine XS.icmpYes X87.here hx rfl (pc0 := 117) (pc' := 124) rfl (hb hby at_117) rfl (teq (by decide : (2 : Int32) = (2 : Int32))).1 (by decide) (by decide) ?_
            show Steps p.tables e below (T87.setTop (mkF m 124 #[.val (.int p0), .val (.int p1), .val (.int p2), .val (.int (J0_3_S0 p0 p1 p2 wH wD wU fN fL fU)), .val (.int (J0_15_S0 p0 p1 p2 wH wD wU fN fL fU)), .val (.int (J0_28_S0 p0 p1 p2 wH wD wU fN fL fU)), .val (.int (2 : Int32)), .val (.ref b68), .val (.ref fU), .val (.int (0 : Int32)), .unset, .unset, .unset] [])) _
            refine XS.iconst X87.here hx rfl (hb hby at_124) ?_
            show Steps p.tables e below (T87.setTop (mkF m 125 #[.val (.int p0), .val (.int p1), .val (.int p2), .val (.int (J0_3_S0 p0 p1 p2 wH wD wU fN fL fU)), .val (.int (J0_15_S0 p0 p1 p2 wH wD wU fN fL fU)), .val (.int (J0_28_S0 p0 p1 p2 wH wD wU fN fL fU)), .val (.int (2 : Int32)), .val (.ref b68), .val (.ref fU), .val (.int (0 : Int32)), .unset, .unset, .unset] [(.int (0 : Int32))])) _
            refine XS.istore X87.here hx rfl (hb hby at_125) rfl (l' := #[.val (.int p0), .val (.int p1), .val (.int p2), .val (.int (J0_3_S0 p0 p1 p2 wH wD wU fN fL fU)), .val (.int (J0_15_S0 p0 p1 p2 wH wD wU fN fL fU)), .val (.int (J0_28_S0 p0 p1 p2 wH wD wU fN fL fU)), .val (.int (2 : Int32)), .val (.ref b68), .val (.ref fU), .val (.int (0 : Int32)), .val (.int (0 : Int32)), .unset, .unset]) rfl ?_
            show Steps p.tables e below (T87.setTop (mkF m 127 #[.val (.int p0), .val (.int p1), .val (.int p2), .val (.int (J0_3_S0 p0 p1 p2 wH wD wU fN fL fU)), .val (.int (J0_15_S0 p0 p1 p2 wH wD wU fN fL fU)), .val (.int (J0_28_S0 p0 p1 p2 wH wD wU fN fL fU)), .val (.int (2 : Int32)), .val (.ref b68), .val (.ref fU), .val (.int (0 : Int32)), .val (.int (0 : Int32)), .unset, .unset] [])) _
            refine XS.aload X87.here hx rfl (hb hby at_127) rfl rfl ?_
            show Steps p.tables e below (T87.setTop (mkF m 129 #[.val (.int p0), .val (.int p1), .val (.int p2), .val (.int (J0_3_S0 p0 p1 p2 wH wD wU fN fL fU)), .val (.int (J0_15_S0 p0 p1 p2 wH wD wU fN fL fU)), .val (.int (J0_28_S0 p0 p1 p2 wH wD wU fN fL fU)), .val (.int (2 : Int32)), .val (.ref b68), .val (.ref fU), .val (.int (0 : Int32)), .val (.int (0 : Int32)), .unset, .unset] [(.ref b68)])) _
            refine st88.trans ?_
            show Steps p.tables e below (T88.setTop (mkF m 132 #[.val (.int p0), .val (.int p1), .val (.int p2), .val (.int (J0_3_S0 p0 p1 p2 wH wD wU fN fL fU)), .val (.int (J0_15_S0 p0 p1 p2 wH wD wU fN fL fU)), .val (.int (J0_28_S0 p0 p1 p2 wH wD wU fN fL fU)), .val (.int (2 : Int32)), .val (.ref b68), .val (.ref fU), .val (.int (0 : Int32)), .val (.int (0 : Int32)), .unset, .unset] [(.int (1 : Int32))])) _
            refine XS.istore X88.here hx rfl (hb hby at_132) rfl (l' := #[.val (.int p0), .val (.int p1), .val (.int p2), .val (.int (J0_3_S0 p0 p1 p2 wH wD wU fN fL fU)), .val (.int (J0_15_S0 p0 p1 p2 wH wD wU fN fL fU)), .val (.int (J0_28_S0 p0 p1 p2 wH wD wU fN fL fU)), .val (.int (2 : Int32)), .val (.ref b68), .val (.ref fU), .val (.int (0 : Int32)), .val (.int (0 : Int32)), .val (.int (1 : Int32)), .unset]) rfl ?_
            show Steps p.tables e below (T88.setTop (mkF m 134 #[.val (.int p0), .val (.int p1), .val (.int p2), .val (.int (J0_3_S0 p0 p1 p2 wH wD wU fN fL fU)), .val (.int (J0_15_S0 p0 p1 p2 wH wD wU fN fL fU)), .val (.int (J0_28_S0 p0 p1 p2 wH wD wU fN fL fU)), .val (.int (2 : Int32)), .val (.ref b68), .val (.ref fU), .val (.int (0 : Int32)), .val (.int (0 : Int32)), .val (.int (1 : Int32)), .unset] [])) _
            refine XS.iload X88.here hx rfl (hb hby at_134) rfl ?_
            show Steps p.tables e below (T88.setTop (mkF m 136 #[.val (.int p0), .val (.int p1), .val (.int p2), .val (.int (J0_3_S0 p0 p1 p2 wH wD wU fN fL fU)), .val (.int (J0_15_S0 p0 p1 p2 wH wD wU fN fL fU)), .val (.int (J0_28_S0 p0 p1 p2 wH wD wU fN fL fU)), .val (.int (2 : Int32)), .val (.ref b68), .val (.ref fU), .val (.int (0 : Int32)), .val (.int (0 : Int32)), .val (.int (1 : Int32)), .unset] [(.int (0 : Int32))])) _
            refine XS.iload X88.here hx rfl (hb hby at_136) rfl ?_
            show Steps p.tables e below (T88.setTop (mkF m 138 #[.val (.int p0), .val (.int p1), .val (.int p2), .val (.int (J0_3_S0 p0 p1 p2 wH wD wU fN fL fU)), .val (.int (J0_15_S0 p0 p1 p2 wH wD wU fN fL fU)), .val (.int (J0_28_S0 p0 p1 p2 wH wD wU fN fL fU)), .val (.int (2 : Int32)), .val (.ref b68), .val (.ref fU), .val (.int (0 : Int32)), .val (.int (0 : Int32)), .val (.int (1 : Int32)), .unset] [(.int (0 : Int32)), (.int (0 : Int32))])) _
            refine XS.icmpNo X88.here hx rfl (hb hby at_138) rfl (teq (by decide : (0 : Int32) = (0 : Int32))).2 ?_
            show Steps p.tables e below (T88.setTop (mkF m 141 #[.val (.int p0), .val (.int p1), .val (.int p2), .val (.int (J0_3_S0 p0 p1 p2 wH wD wU fN fL fU)), .val (.int (J0_15_S0 p0 p1 p2 wH wD wU fN fL fU)), .val (.int (J0_28_S0 p0 p1 p2 wH wD wU fN fL fU)), .val (.int (2 : Int32)), .val (.ref b68), .val (.ref fU), .val (.int (0 : Int32)), .val (.int (0 : Int32)), .val (.int (1 : Int32)), .unset] [])) _
            refine XS.iload X88.here hx rfl (hb hby at_141) rfl ?_
            show Steps p.tables e below (T88.setTop (mkF m 143 #[.val (.int p0), .val (.int p1), .val (.int p2), .val (.int (J0_3_S0 p0 p1 p2 wH wD wU fN fL fU)), .val (.int (J0_15_S0 p0 p1 p2 wH wD wU fN fL fU)), .val (.int (J0_28_S0 p0 p1 p2 wH wD wU fN fL fU)), .val (.int (2 : Int32)), .val (.ref b68), .val (.ref fU), .val (.int (0 : Int32)), .val (.int (0 : Int32)), .val (.int (1 : Int32)), .unset] [(.int (1 : Int32))])) _
            refine XS.ifNo X88.here hx rfl (hb hby at_143) rfl ((if0 _ _).trans (feq (by decide : ¬ ((1 : Int32) = (0 : Int32)))).1) ?_
            show Steps p.tables e below (T88.setTop (mkF m 146 #[.val (.int p0), .val (.int p1), .val (.int p2), .val (.int (J0_3_S0 p0 p1 p2 wH wD wU fN fL fU)), .val (.int (J0_15_S0 p0 p1 p2 wH wD wU fN fL fU)), .val (.int (J0_28_S0 p0 p1 p2 wH wD wU fN fL fU)), .val (.int (2 : Int32)), .val (.ref b68), .val (.ref fU), .val (.int (0 : Int32)), .val (.int (0 : Int32)), .val (.int (1 : Int32)), .unset] [])) _
            refine XS.aload X88.here hx rfl (hb hby at_146) rfl rfl ?_
            show Steps p.tables e below (T88.setTop (mkF m 148 #[.val (.int p0), .val (.int p1), .val (.int p2), .val (.int (J0_3_S0 p0 p1 p2 wH wD wU fN fL fU)), .val (.int (J0_15_S0 p0 p1 p2 wH wD wU fN fL fU)), .val (.int (J0_28_S0 p0 p1 p2 wH wD wU fN fL fU)), .val (.int (2 : Int32)), .val (.ref b68), .val (.ref fU), .val (.int (0 : Int32)), .val (.int (0 : Int32)), .val (.int (1 : Int32)), .unset] [(.ref b68)])) _
            refine st89.trans ?_
            show Steps p.tables e below (T89.setTop (mkF m 151 #[.val (.int p0), .val (.int p1), .val (.int p2), .val (.int (J0_3_S0 p0 p1 p2 wH wD wU fN fL fU)), .val (.int (J0_15_S0 p0 p1 p2 wH wD wU fN fL fU)), .val (.int (J0_28_S0 p0 p1 p2 wH wD wU fN fL fU)), .val (.int (2 : Int32)), .val (.ref b68), .val (.ref fU), .val (.int (0 : Int32)), .val (.int (0 : Int32)), .val (.int (1 : Int32)), .unset] [(.int (1 : Int32))])) _
            refine XS.ifNo X89.here hx rfl (hb hby at_151) rfl ((if0 _ _).trans (feq (by decide : ¬ ((1 : Int32) = (0 : Int32)))).1) ?_
            show Steps p.tables e below (T89.setTop (mkF m 154 #[.val (.int p0), .val (.int p1), .val (.int p2), .val (.int (J0_3_S0 p0 p1 p2 wH wD wU fN fL fU)), .val (.int (J0_15_S0 p0 p1 p2 wH wD wU fN fL fU)), .val (.int (J0_28_S0 p0 p1 p2 wH wD wU fN fL fU)), .val (.int (2 : Int32)), .val (.ref b68), .val (.ref fU), .val (.int (0 : Int32)), .val (.int (0 : Int32)), .val (.int (1 : Int32)), .unset] [])) _
            refine XS.aload X89.here hx rfl (hb hby at_154) rfl rfl ?_
            show Steps p.tables e below (T89.setTop (mkF m 156 #[.val (.int p0), .val (.int p1), .val (.int p2), .val (.int (J0_3_S0 p0 p1 p2 wH wD wU fN fL fU)), .val (.int (J0_15_S0 p0 p1 p2 wH wD wU fN fL fU)), .val (.int (J0_28_S0 p0 p1 p2 wH wD wU fN fL fU)), .val (.int (2 : Int32)), .val (.ref b68), .val (.ref fU), .val (.int (0 : Int32)), .val (.int (0 : Int32)), .val (.int (1 : Int32)), .unset] [(.ref b68)])) _
            refine st90.trans ?_
            show Steps p.tables e below (T90.setTop (mkF m 159 #[.val (.int p0), .val (.int p1), .val (.int p2), .val (.int (J0_3_S0 p0 p1 p2 wH wD wU fN fL fU)), .val (.int (J0_15_S0 p0 p1 p2 wH wD wU fN fL fU)), .val (.int (J0_28_S0 p0 p1 p2 wH wD wU fN fL fU)), .val (.int (2 : Int32)), .val (.ref b68), .val (.ref fU), .val (.int (0 : Int32)), .val (.int (0 : Int32)), .val (.int (1 : Int32)), .unset] [(.int (0 : Int32))])) _
            refine XS.ifNo X90.here hx rfl (hb hby at_159) rfl ((if0 _ _).trans (teq (by decide : (0 : Int32) = (0 : Int32))).2) ?_
            show Steps p.tables e below (T90.setTop (mkF m 162 #[.val (.int p0), .val (.int p1), .val (.int p2), .val (.int (J0_3_S0 p0 p1 p2 wH wD wU fN fL fU)), .val (.int (J0_15_S0 p0 p1 p2 wH wD wU fN fL fU)), .val (.int (J0_28_S0 p0 p1 p2 wH wD wU fN fL fU)), .val (.int (2 : Int32)), .val (.ref b68), .val (.ref fU), .val (.int (0 : Int32)), .val (.int (0 : Int32)), .val (.int (1 : Int32)), .unset] [])) _
            refine XS.aload X90.here hx rfl (hb hby at_162) rfl rfl ?_
            show Steps p.tables e below (T90.setTop (mkF m 164 #[.val (.int p0), .val (.int p1), .val (.int p2), .val (.int (J0_3_S0 p0 p1 p2 wH wD wU fN fL fU)), .val (.int (J0_15_S0 p0 p1 p2 wH wD wU fN fL fU)), .val (.int (J0_28_S0 p0 p1 p2 wH wD wU fN fL fU)), .val (.int (2 : Int32)), .val (.ref b68), .val (.ref fU), .val (.int (0 : Int32)), .val (.int (0 : Int32)), .val (.int (1 : Int32)), .unset] [(.ref b68)])) _
            refine st91.trans ?_
            show Steps p.tables e below (T91.setTop (mkF m 167 #[.val (.int p0), .val (.int p1), .val (.int p2), .val (.int (J0_3_S0 p0 p1 p2 wH wD wU fN fL fU)), .val (.int (J0_15_S0 p0 p1 p2 wH wD wU fN fL fU)), .val (.int (J0_28_S0 p0 p1 p2 wH wD wU fN fL fU)), .val (.int (2 : Int32)), .val (.ref b68), .val (.ref fU), .val (.int (0 : Int32)), .val (.int (0 : Int32)), .val (.int (1 : Int32)), .unset] [(.int (0 : Int32))])) _
            refine XS.ifNo X91.here hx rfl (hb hby at_167) rfl ((if0 _ _).trans (teq (by decide : (0 : Int32) = (0 : Int32))).2) ?_
            show Steps p.tables e below (T91.setTop (mkF m 170 #[.val (.int p0), .val (.int p1), .val (.int p2), .val (.int (J0_3_S0 p0 p1 p2 wH wD wU fN fL fU)), .val (.int (J0_15_S0 p0 p1 p2 wH wD wU fN fL fU)), .val (.int (J0_28_S0 p0 p1 p2 wH wD wU fN fL fU)), .val (.int (2 : Int32)), .val (.ref b68), .val (.ref fU), .val (.int (0 : Int32)), .val (.int (0 : Int32)), .val (.int (1 : Int32)), .unset] [])) _
            refine XS.iconst X91.here hx rfl (hb hby at_170) ?_
            show Steps p.tables e below (T91.setTop (mkF m 171 #[.val (.int p0), .val (.int p1), .val (.int p2), .val (.int (J0_3_S0 p0 p1 p2 wH wD wU fN fL fU)), .val (.int (J0_15_S0 p0 p1 p2 wH wD wU fN fL fU)), .val (.int (J0_28_S0 p0 p1 p2 wH wD wU fN fL fU)), .val (.int (2 : Int32)), .val (.ref b68), .val (.ref fU), .val (.int (0 : Int32)), .val (.int (0 : Int32)), .val (.int (1 : Int32)), .unset] [(.int (1 : Int32))])) _
            refine XS.goto X91.here hx rfl (pc0 := 171) (pc' := 175) rfl (hb hby at_171) (by decide) (by decide) ?_
            show Steps p.tables e below (T91.setTop (mkF m 175 #[.val (.int p0), .val (.int p1), .val (.int p2), .val (.int (J0_3_S0 p0 p1 p2 wH wD wU fN fL fU)), .val (.int (J0_15_S0 p0 p1 p2 wH wD wU fN fL fU)), .val (.int (J0_28_S0 p0 p1 p2 wH wD wU fN fL fU)), .val (.int (2 : Int32)), .val (.ref b68), .val (.ref fU), .val (.int (0 : Int32)), .val (.int (0 : Int32)), .val (.int (1 : Int32)), .unset] [(.int (1 : Int32))])) _
            refine XS.istore X91.here hx rfl (hb hby at_175) rfl (l' := #[.val (.int p0), .val (.int p1), .val (.int p2), .val (.int (J0_3_S0 p0 p1 p2 wH wD wU fN fL fU)), .val (.int (J0_15_S0 p0 p1 p2 wH wD wU fN fL fU)), .val (.int (J0_28_S0 p0 p1 p2 wH wD wU fN fL fU)), .val (.int (2 : Int32)), .val (.ref b68), .val (.ref fU), .val (.int (0 : Int32)), .val (.int (0 : Int32)), .val (.int (1 : Int32)), .val (.int (1 : Int32))]) rfl ?_
            show Steps p.tables e below (T91.setTop (mkF m 177 #[.val (.int p0), .val (.int p1), .val (.int p2), .val (.int (J0_3_S0 p0 p1 p2 wH wD wU fN fL fU)), .val (.int (J0_15_S0 p0 p1 p2 wH wD wU fN fL fU)), .val (.int (J0_28_S0 p0 p1 p2 wH wD wU fN fL fU)), .val (.int (2 : Int32)), .val (.ref b68), .val (.ref fU), .val (.int (0 : Int32)), .val (.int (0 : Int32)), .val (.int (1 : Int32)), .val (.int (1 : Int32))] [])) _
            refine XS.iload X91.here hx rfl (hb hby at_177) rfl ?_
            exact kt)
          by_cases hc179 : (J0_28_S0 p0 p1 p2 wH wD wU fN fL fU) = (0 : Int32)
          · obtain ⟨fs, hr, hrun, hended, hW, hsame⟩ := X91.leave (v := some (.int (1 : Int32))) (fun h => by rw [Bd.returns] at h; cases h)
            refine ⟨_, _, pre92 _ ?_, hrun, hended, _, _, rfl, ?_, ⟨_, rfl⟩, hW, hsame.mono (by decide) (by decide)⟩
            · show Steps p.tables e below (T91.setTop (mkF m 179 #[.val (.int p0), .val (.int p1), .val (.int p2), .val (.int (J0_3_S0 p0 p1 p2 wH wD wU fN fL fU)), .val (.int (J0_15_S0 p0 p1 p2 wH wD wU fN fL fU)), .val (.int (J0_28_S0 p0 p1 p2 wH wD wU fN fL fU)), .val (.int (2 : Int32)), .val (.ref b68), .val (.ref fU), .val (.int (0 : Int32)), .val (.int (0 : Int32)), .val (.int (1 : Int32)), .val (.int (1 : Int32))] [(.int (J0_28_S0 p0 p1 p2 wH wD wU fN fL fU))])) _
              refine XS.ifYes X91.here hx rfl (pc0 := 179) (pc' := 210) rfl (hb hby at_179) rfl ((if0 _ _).trans (teq hc179).1) (by decide) (by decide) ?_
              show Steps p.tables e below (T91.setTop (mkF m 210 #[.val (.int p0), .val (.int p1), .val (.int p2), .val (.int (J0_3_S0 p0 p1 p2 wH wD wU fN fL fU)), .val (.int (J0_15_S0 p0 p1 p2 wH wD wU fN fL fU)), .val (.int (J0_28_S0 p0 p1 p2 wH wD wU fN fL fU)), .val (.int (2 : Int32)), .val (.ref b68), .val (.ref fU), .val (.int (0 : Int32)), .val (.int (0 : Int32)), .val (.int (1 : Int32)), .val (.int (1 : Int32))] [])) _
              refine XS.iload X91.here hx rfl (hb hby at_210) rfl ?_
              show Steps p.tables e below (T91.setTop (mkF m 212 #[.val (.int p0), .val (.int p1), .val (.int p2), .val (.int (J0_3_S0 p0 p1 p2 wH wD wU fN fL fU)), .val (.int (J0_15_S0 p0 p1 p2 wH wD wU fN fL fU)), .val (.int (J0_28_S0 p0 p1 p2 wH wD wU fN fL fU)), .val (.int (2 : Int32)), .val (.ref b68), .val (.ref fU), .val (.int (0 : Int32)), .val (.int (0 : Int32)), .val (.int (1 : Int32)), .val (.int (1 : Int32))] [(.int (1 : Int32))])) _
              exact retN X91 hx (t := .boolean) Bd.returns (by simp) (hb hby at_212) hr
            · show Q0 Z p0 p1 p2 wH wD wU fN fL fU h0 n0 _ T91.heap _
              rw [e91]
              exact ⟨(by unfold F0; simp only [if_neg hi0, if_neg hi1, if_pos hi2, if_neg hc59, if_pos hc179]), N91⟩
          · obtain ⟨cq93, kq93, q93a, q93b, q93c⟩ := isOf hZ e91 P88_0
            obtain ⟨_, _, ⟨T93, L93, k93, n93⟩, -, X93, ⟨Lc93, hQ93, ll93, ly93, lz93⟩, st93⟩ := X91.virtualBack hx (y := (⟨"com/example/admission_for_endpoints/admissionforendpoints/MessageReader", "end", "()Z"⟩ : MethodName)) (z := (⟨"com/example/admission_for_endpoints/admissionforendpoints/MessageReader", "end", "()Z"⟩ : MethodName)) hown (mvT hZ (hw _ (List.mem_of_getElem? (i := 64) rfl))) (mvT hZ (hw _ (List.mem_of_getElem? (i := 65) rfl))) (notFace_of_selects (args := #[]) (mvT hZ (hw _ (List.mem_of_getElem? (i := 67) rfl)))) (mvT hZ (hw _ (List.mem_of_getElem? (i := 67) rfl))) (mvT hZ (hw _ (List.mem_of_getElem? (i := 66) rfl))) (by decide) (backOf (W := 0) (rm8d l Z a0 hw [] b68 wD wU T88.heap n0 (Nat.le_trans (Nat.le_trans (Nat.le_trans (Nat.le_trans (Nat.le_trans Z0 E68.1) K72c.1) K84c.1) K86c.1) K88c.1) P88_1 (own_staK (own_staK (own_staK (own_staK (Sta.ext E68 S_wD) K72c (allS (own_exaN A68) all0)) K84c (allS (own_exaN P72_0) all0)) K86c (allS (own_exaN P84_0) all0)) K88c (allS (own_exaN P86_0) all0)) (own_staK (own_staK (own_staK (own_staK (Sta.ext E68 S_wU) K72c (allS (own_exaN A68) all0)) K84c (allS (own_exaN P72_0) all0)) K86c (allS (own_exaN P84_0) all0)) K88c (allS (own_exaN P86_0) all0)) ne_UD) hZ (hw _ (List.mem_of_getElem? (i := 68) rfl)) (hw _ (List.mem_of_getElem? (i := 3) rfl)) (by decide) (by decide)) q93a q93c (g := (mkF m 189 #[.val (.int p0), .val (.int p1), .val (.int p2), .val (.int (J0_3_S0 p0 p1 p2 wH wD wU fN fL fU)), .val (.int (J0_15_S0 p0 p1 p2 wH wD wU fN fL fU)), .val (.int (J0_28_S0 p0 p1 p2 wH wD wU fN fL fU)), .val (.int (2 : Int32)), .val (.ref b68), .val (.ref fU), .val (.int (0 : Int32)), .val (.int (0 : Int32)), .val (.int (1 : Int32)), .val (.int (1 : Int32))] [(.ref b68)])) rfl (by rw [hml]; rfl) (Steps.refl _) (argsL := []) (rest := []) (lenOf pd___Z rfl) rfl (by show 2 * 0 + _ ≤ _; exact Nat.le_of_eq rfl) (hb hby at_189) (fun _ _ => ⟨rfl, e91, (by decide : 4 + 0 ≤ _), (by decide : 4363 + 0 ≤ _)⟩)
            dsimp only [Pt.U, Pt.locs, Pt.cells, Pt.slots] at X93 ll93 ly93 lz93 st93 hQ93
            subst ll93 ly93 lz93
            obtain ⟨rfl, N93q, e93⟩ := hQ93
            have N93 := Fr.app N91 N93q
            obtain ⟨cq94, kq94, q94a, q94b, q94c⟩ := isOf hZ e93 P88_0
            obtain ⟨_, _, ⟨T94, L94, k94, n94⟩, -, X94, ⟨Lc94, hQ94, ll94, ly94, lz94⟩, st94⟩ := X93.virtualBack hx (y := (⟨"com/example/admission_for_endpoints/admissionforendpoints/MessageReader", "ended", "()Z"⟩ : MethodName)) (z := (⟨"com/example/admission_for_endpoints/admissionforendpoints/MessageReader", "ended", "()Z"⟩ : MethodName)) hown (mvT hZ (hw _ (List.mem_of_getElem? (i := 57) rfl))) (mvT hZ (hw _ (List.mem_of_getElem? (i := 58) rfl))) (notFace_of_selects (args := #[]) (mvT hZ (hw _ (List.mem_of_getElem? (i := 60) rfl)))) (mvT hZ (hw _ (List.mem_of_getElem? (i := 60) rfl))) (mvT hZ (hw _ (List.mem_of_getElem? (i := 59) rfl))) (by decide) (backOf (W := 0) (rm7d l Z a0 hw [] b68 wD T88.heap n0 (Nat.le_trans (Nat.le_trans (Nat.le_trans (Nat.le_trans (Nat.le_trans Z0 E68.1) K72c.1) K84c.1) K86c.1) K88c.1) P88_1 (own_staK (own_staK (own_staK (own_staK (Sta.ext E68 S_wD) K72c (allS (own_exaN A68) all0)) K84c (allS (own_exaN P72_0) all0)) K86c (allS (own_exaN P84_0) all0)) K88c (allS (own_exaN P86_0) all0))) hZ (hw _ (List.mem_of_getElem? (i := 61) rfl)) (hw _ (List.mem_of_getElem? (i := 3) rfl)) (by decide) (by decide)) q94a q94c (g := (mkF m 197 #[.val (.int p0), .val (.int p1), .val (.int p2), .val (.int (J0_3_S0 p0 p1 p2 wH wD wU fN fL fU)), .val (.int (J0_15_S0 p0 p1 p2 wH wD wU fN fL fU)), .val (.int (J0_28_S0 p0 p1 p2 wH wD wU fN fL fU)), .val (.int (2 : Int32)), .val (.ref b68), .val (.ref fU), .val (.int (0 : Int32)), .val (.int (0 : Int32)), .val (.int (1 : Int32)), .val (.int (1 : Int32))] [(.ref b68)])) rfl (by rw [hml]; rfl) (Steps.refl _) (argsL := []) (rest := []) (lenOf pd___Z rfl) rfl (by show 2 * 0 + _ ≤ _; exact Nat.le_of_eq rfl) (hb hby at_197) (fun _ _ => ⟨rfl, e93, (by decide : 4 + 0 ≤ _), (by decide : 4363 + 0 ≤ _)⟩)
            dsimp only [Pt.U, Pt.locs, Pt.cells, Pt.slots] at X94 ll94 ly94 lz94 st94 hQ94
            subst ll94 ly94 lz94
            obtain ⟨rfl, N94q, e94⟩ := hQ94
            have N94 := Fr.app N93 N94q
            obtain ⟨fs, hr, hrun, hended, hW, hsame⟩ := X94.leave (v := some (.int (1 : Int32))) (fun h => by rw [Bd.returns] at h; cases h)
            refine ⟨_, _, pre92 _ ?_, hrun, hended, _, _, rfl, ?_, ⟨_, rfl⟩, hW, hsame.mono (by decide) (by decide)⟩
            · show Steps p.tables e below (T91.setTop (mkF m 179 #[.val (.int p0), .val (.int p1), .val (.int p2), .val (.int (J0_3_S0 p0 p1 p2 wH wD wU fN fL fU)), .val (.int (J0_15_S0 p0 p1 p2 wH wD wU fN fL fU)), .val (.int (J0_28_S0 p0 p1 p2 wH wD wU fN fL fU)), .val (.int (2 : Int32)), .val (.ref b68), .val (.ref fU), .val (.int (0 : Int32)), .val (.int (0 : Int32)), .val (.int (1 : Int32)), .val (.int (1 : Int32))] [(.int (J0_28_S0 p0 p1 p2 wH wD wU fN fL fU))])) _
              refine XS.ifNo X91.here hx rfl (hb hby at_179) rfl ((if0 _ _).trans (feq hc179).1) ?_
              show Steps p.tables e below (T91.setTop (mkF m 182 #[.val (.int p0), .val (.int p1), .val (.int p2), .val (.int (J0_3_S0 p0 p1 p2 wH wD wU fN fL fU)), .val (.int (J0_15_S0 p0 p1 p2 wH wD wU fN fL fU)), .val (.int (J0_28_S0 p0 p1 p2 wH wD wU fN fL fU)), .val (.int (2 : Int32)), .val (.ref b68), .val (.ref fU), .val (.int (0 : Int32)), .val (.int (0 : Int32)), .val (.int (1 : Int32)), .val (.int (1 : Int32))] [])) _
              refine XS.iload X91.here hx rfl (hb hby at_182) rfl ?_
              show Steps p.tables e below (T91.setTop (mkF m 184 #[.val (.int p0), .val (.int p1), .val (.int p2), .val (.int (J0_3_S0 p0 p1 p2 wH wD wU fN fL fU)), .val (.int (J0_15_S0 p0 p1 p2 wH wD wU fN fL fU)), .val (.int (J0_28_S0 p0 p1 p2 wH wD wU fN fL fU)), .val (.int (2 : Int32)), .val (.ref b68), .val (.ref fU), .val (.int (0 : Int32)), .val (.int (0 : Int32)), .val (.int (1 : Int32)), .val (.int (1 : Int32))] [(.int (1 : Int32))])) _
              refine XS.ifNo X91.here hx rfl (hb hby at_184) rfl ((if0 _ _).trans (feq (by decide : ¬ ((1 : Int32) = (0 : Int32)))).1) ?_
              show Steps p.tables e below (T91.setTop (mkF m 187 #[.val (.int p0), .val (.int p1), .val (.int p2), .val (.int (J0_3_S0 p0 p1 p2 wH wD wU fN fL fU)), .val (.int (J0_15_S0 p0 p1 p2 wH wD wU fN fL fU)), .val (.int (J0_28_S0 p0 p1 p2 wH wD wU fN fL fU)), .val (.int (2 : Int32)), .val (.ref b68), .val (.ref fU), .val (.int (0 : Int32)), .val (.int (0 : Int32)), .val (.int (1 : Int32)), .val (.int (1 : Int32))] [])) _
              refine XS.aload X91.here hx rfl (hb hby at_187) rfl rfl ?_
              show Steps p.tables e below (T91.setTop (mkF m 189 #[.val (.int p0), .val (.int p1), .val (.int p2), .val (.int (J0_3_S0 p0 p1 p2 wH wD wU fN fL fU)), .val (.int (J0_15_S0 p0 p1 p2 wH wD wU fN fL fU)), .val (.int (J0_28_S0 p0 p1 p2 wH wD wU fN fL fU)), .val (.int (2 : Int32)), .val (.ref b68), .val (.ref fU), .val (.int (0 : Int32)), .val (.int (0 : Int32)), .val (.int (1 : Int32)), .val (.int (1 : Int32))] [(.ref b68)])) _
              refine st93.trans ?_
              show Steps p.tables e below (T93.setTop (mkF m 192 #[.val (.int p0), .val (.int p1), .val (.int p2), .val (.int (J0_3_S0 p0 p1 p2 wH wD wU fN fL fU)), .val (.int (J0_15_S0 p0 p1 p2 wH wD wU fN fL fU)), .val (.int (J0_28_S0 p0 p1 p2 wH wD wU fN fL fU)), .val (.int (2 : Int32)), .val (.ref b68), .val (.ref fU), .val (.int (0 : Int32)), .val (.int (0 : Int32)), .val (.int (1 : Int32)), .val (.int (1 : Int32))] [(.int (1 : Int32))])) _
              refine XS.ifNo X93.here hx rfl (hb hby at_192) rfl ((if0 _ _).trans (feq (by decide : ¬ ((1 : Int32) = (0 : Int32)))).1) ?_
              show Steps p.tables e below (T93.setTop (mkF m 195 #[.val (.int p0), .val (.int p1), .val (.int p2), .val (.int (J0_3_S0 p0 p1 p2 wH wD wU fN fL fU)), .val (.int (J0_15_S0 p0 p1 p2 wH wD wU fN fL fU)), .val (.int (J0_28_S0 p0 p1 p2 wH wD wU fN fL fU)), .val (.int (2 : Int32)), .val (.ref b68), .val (.ref fU), .val (.int (0 : Int32)), .val (.int (0 : Int32)), .val (.int (1 : Int32)), .val (.int (1 : Int32))] [])) _
              refine XS.aload X93.here hx rfl (hb hby at_195) rfl rfl ?_
              show Steps p.tables e below (T93.setTop (mkF m 197 #[.val (.int p0), .val (.int p1), .val (.int p2), .val (.int (J0_3_S0 p0 p1 p2 wH wD wU fN fL fU)), .val (.int (J0_15_S0 p0 p1 p2 wH wD wU fN fL fU)), .val (.int (J0_28_S0 p0 p1 p2 wH wD wU fN fL fU)), .val (.int (2 : Int32)), .val (.ref b68), .val (.ref fU), .val (.int (0 : Int32)), .val (.int (0 : Int32)), .val (.int (1 : Int32)), .val (.int (1 : Int32))] [(.ref b68)])) _
              refine st94.trans ?_
              show Steps p.tables e below (T94.setTop (mkF m 200 #[.val (.int p0), .val (.int p1), .val (.int p2), .val (.int (J0_3_S0 p0 p1 p2 wH wD wU fN fL fU)), .val (.int (J0_15_S0 p0 p1 p2 wH wD wU fN fL fU)), .val (.int (J0_28_S0 p0 p1 p2 wH wD wU fN fL fU)), .val (.int (2 : Int32)), .val (.ref b68), .val (.ref fU), .val (.int (0 : Int32)), .val (.int (0 : Int32)), .val (.int (1 : Int32)), .val (.int (1 : Int32))] [(.int (1 : Int32))])) _
              refine XS.ifNo X94.here hx rfl (hb hby at_200) rfl ((if0 _ _).trans (feq (by decide : ¬ ((1 : Int32) = (0 : Int32)))).1) ?_
              show Steps p.tables e below (T94.setTop (mkF m 203 #[.val (.int p0), .val (.int p1), .val (.int p2), .val (.int (J0_3_S0 p0 p1 p2 wH wD wU fN fL fU)), .val (.int (J0_15_S0 p0 p1 p2 wH wD wU fN fL fU)), .val (.int (J0_28_S0 p0 p1 p2 wH wD wU fN fL fU)), .val (.int (2 : Int32)), .val (.ref b68), .val (.ref fU), .val (.int (0 : Int32)), .val (.int (0 : Int32)), .val (.int (1 : Int32)), .val (.int (1 : Int32))] [])) _
              refine XS.iconst X94.here hx rfl (hb hby at_203) ?_
              show Steps p.tables e below (T94.setTop (mkF m 204 #[.val (.int p0), .val (.int p1), .val (.int p2), .val (.int (J0_3_S0 p0 p1 p2 wH wD wU fN fL fU)), .val (.int (J0_15_S0 p0 p1 p2 wH wD wU fN fL fU)), .val (.int (J0_28_S0 p0 p1 p2 wH wD wU fN fL fU)), .val (.int (2 : Int32)), .val (.ref b68), .val (.ref fU), .val (.int (0 : Int32)), .val (.int (0 : Int32)), .val (.int (1 : Int32)), .val (.int (1 : Int32))] [(.int (1 : Int32))])) _
              refine XS.goto X94.here hx rfl (pc0 := 204) (pc' := 208) rfl (hb hby at_204) (by decide) (by decide) ?_
              show Steps p.tables e below (T94.setTop (mkF m 208 #[.val (.int p0), .val (.int p1), .val (.int p2), .val (.int (J0_3_S0 p0 p1 p2 wH wD wU fN fL fU)), .val (.int (J0_15_S0 p0 p1 p2 wH wD wU fN fL fU)), .val (.int (J0_28_S0 p0 p1 p2 wH wD wU fN fL fU)), .val (.int (2 : Int32)), .val (.ref b68), .val (.ref fU), .val (.int (0 : Int32)), .val (.int (0 : Int32)), .val (.int (1 : Int32)), .val (.int (1 : Int32))] [(.int (1 : Int32))])) _
              refine XS.istore X94.here hx rfl (hb hby at_208) rfl (l' := #[.val (.int p0), .val (.int p1), .val (.int p2), .val (.int (J0_3_S0 p0 p1 p2 wH wD wU fN fL fU)), .val (.int (J0_15_S0 p0 p1 p2 wH wD wU fN fL fU)), .val (.int (J0_28_S0 p0 p1 p2 wH wD wU fN fL fU)), .val (.int (2 : Int32)), .val (.ref b68), .val (.ref fU), .val (.int (0 : Int32)), .val (.int (0 : Int32)), .val (.int (1 : Int32)), .val (.int (1 : Int32))]) rfl ?_
              show Steps p.tables e below (T94.setTop (mkF m 210 #[.val (.int p0), .val (.int p1), .val (.int p2), .val (.int (J0_3_S0 p0 p1 p2 wH wD wU fN fL fU)), .val (.int (J0_15_S0 p0 p1 p2 wH wD wU fN fL fU)), .val (.int (J0_28_S0 p0 p1 p2 wH wD wU fN fL fU)), .val (.int (2 : Int32)), .val (.ref b68), .val (.ref fU), .val (.int (0 : Int32)), .val (.int (0 : Int32)), .val (.int (1 : Int32)), .val (.int (1 : Int32))] [])) _
              refine XS.iload X94.here hx rfl (hb hby at_210) rfl ?_
              show Steps p.tables e below (T94.setTop (mkF m 212 #[.val (.int p0), .val (.int p1), .val (.int p2), .val (.int (J0_3_S0 p0 p1 p2 wH wD wU fN fL fU)), .val (.int (J0_15_S0 p0 p1 p2 wH wD wU fN fL fU)), .val (.int (J0_28_S0 p0 p1 p2 wH wD wU fN fL fU)), .val (.int (2 : Int32)), .val (.ref b68), .val (.ref fU), .val (.int (0 : Int32)), .val (.int (0 : Int32)), .val (.int (1 : Int32)), .val (.int (1 : Int32))] [(.int (1 : Int32))])) _
              exact retN X94 hx (t := .boolean) Bd.returns (by simp) (hb hby at_212) hr
            · show Q0 Z p0 p1 p2 wH wD wU fN fL fU h0 n0 _ T94.heap _
              rw [e94]
              exact ⟨(by unfold F0; simp only [if_neg hi0, if_neg hi1, if_pos hi2, if_neg hc59, if_neg hc179]), N94⟩
      · exact absurd (own_three p2) (by unfold A0_44 at *; simp_all)
theorem own_law (p0 p1 p2 : Int32) (wH wD wU fN fL fU : Addr) : F0 p0 p1 p2 wH wD wU fN fL fU = 1 := by
  unfold F0; repeat' split
  all_goals rfl
set_option maxRecDepth 65536 in
set_option maxHeartbeats 40000000 in
theorem comes_1 {Post : Tables → Env → Array Value → State → Outcome → State → Prop} (hpost : ∀ tb e args s v u, (limb_1_1.after args s (.returned v) u = true ∧ limb_1_2.after args s (.returned v) u = true ∧ True) → FrameEnd s (.returned v) u (Jvm.fieldLocs frame_1_writes args s ++ Jvm.arrayLocs frame_1_arrays args s ++ Jvm.staticLocs frame_1_statics s) 16 8832 → Post tb e args s (.returned v) u) :
    ArmFor flags0 classFile x code maxLocals ret World_1 tables_1 room_1 Calls_1 rest_1 Pre_1 Post := by
  intro l hfl _ _ p e ha hc hk s m args below hf hA hF happ hP
  obtain ⟨hcalls, hrest, hpre⟩ := hP
  obtain ⟨-, -, -, hnamed, -, -, -, hat⟩ := (Spec.applies_iff hf).mp happ
  obtain ⟨hg, hn⟩ := and_e (Cond.before_iff.mp (show (Jvm.Cond.and given_1 narrow_1).before args s = true from hpre))
  obtain ⟨g1, g2⟩ := and_e hg
  obtain ⟨g3, g4⟩ := and_e g2
  obtain ⟨g5, g6⟩ := and_e g4
  obtain ⟨g7, g8⟩ := and_e hn
  obtain ⟨g9, g10⟩ := and_e g8
  obtain ⟨g11, g12⟩ := and_e g10
  obtain ⟨g13, g14⟩ := and_e g12
  obtain ⟨g15, g16⟩ := and_e g14
  obtain ⟨g17, g18⟩ := and_e g16
  obtain ⟨g19, g20⟩ := and_e g18
  obtain ⟨g21, g22⟩ := and_e g20
  obtain ⟨g23, g24⟩ := and_e g22
  obtain ⟨g25, g26⟩ := and_e g24
  obtain ⟨w0, w1, w2, rfl⟩ : ∃ w0 w1 w2 : Value, args = #[w0, w1, w2] := by
    have hs : args.size = 3 := by simpa [Cond.value, given_1] using g1
    obtain ⟨L⟩ := args
    match L, hs with
    | [w0, w1, w2], _ => exact ⟨w0, w1, w2, rfl⟩
  have hw := fun d (hd : d ∈ tables_1) => atoms_spec (ws := Jvm.Cond.code x code maxLocals ret :: tables_1) hat d (List.mem_cons_of_mem _ hd)
  have hfit : Fit s := fun {y c} hc i hi => by
    obtain ⟨ha, rfl⟩ := Array.getElem?_eq_some_iff.mp hc
    have q := List.all_eq_true.mp ((Array.all_eq_true_iff_forall_mem.mp hF) _ (Array.getElem_mem ha)) i (List.mem_range.mpr hi)
    simpa [Array.getElem?_eq_getElem hi] using q
  obtain ⟨i0, ei0⟩ := is_v g3
  obtain rfl : w0 = (.int i0) := Option.some.inj ei0
  obtain ⟨i1, ei1⟩ := is_v g5
  obtain rfl : w1 = (.int i1) := Option.some.inj ei1
  obtain ⟨i2, ei2⟩ := is_v g6
  obtain rfl : w2 = (.int i2) := Option.some.inj ei2
  obtain ⟨a_MessageReader_Stage_HEAD, ev_MessageReader_Stage_HEAD⟩ := exa_v g7
  have S_MessageReader_Stage_HEAD := Sta.start ev_MessageReader_Stage_HEAD (Or.inr ⟨(hw _ (List.mem_of_getElem? (i := 11) rfl)), (hw _ (List.mem_of_getElem? (i := 12) rfl))⟩)
  have E_MessageReader_Stage_HEAD := Exa.start ev_MessageReader_Stage_HEAD g7
  obtain ⟨a_MessageReader_Framing_UNTIL_CLOSE, ev_MessageReader_Framing_UNTIL_CLOSE⟩ := exa_v g9
  have S_MessageReader_Framing_UNTIL_CLOSE := Sta.start ev_MessageReader_Framing_UNTIL_CLOSE (Or.inr ⟨(hw _ (List.mem_of_getElem? (i := 32) rfl)), (hw _ (List.mem_of_getElem? (i := 33) rfl))⟩)
  have E_MessageReader_Framing_UNTIL_CLOSE := Exa.start ev_MessageReader_Framing_UNTIL_CLOSE g9
  obtain ⟨a_MessageReader_Stage_UNTIL_CLOSE, ev_MessageReader_Stage_UNTIL_CLOSE⟩ := exa_v g13
  have S_MessageReader_Stage_UNTIL_CLOSE := Sta.start ev_MessageReader_Stage_UNTIL_CLOSE (Or.inr ⟨(hw _ (List.mem_of_getElem? (i := 11) rfl)), (hw _ (List.mem_of_getElem? (i := 56) rfl))⟩)
  have E_MessageReader_Stage_UNTIL_CLOSE := Exa.start ev_MessageReader_Stage_UNTIL_CLOSE g13
  obtain ⟨a_MessageReader_Stage_DONE, ev_MessageReader_Stage_DONE⟩ := exa_v g15
  have S_MessageReader_Stage_DONE := Sta.start ev_MessageReader_Stage_DONE (Or.inr ⟨(hw _ (List.mem_of_getElem? (i := 11) rfl)), (hw _ (List.mem_of_getElem? (i := 63) rfl))⟩)
  have E_MessageReader_Stage_DONE := Exa.start ev_MessageReader_Stage_DONE g15
  obtain ⟨a_MessageReader_Framing_NONE, ev_MessageReader_Framing_NONE⟩ := exa_v g21
  have S_MessageReader_Framing_NONE := Sta.start ev_MessageReader_Framing_NONE (Or.inr ⟨(hw _ (List.mem_of_getElem? (i := 32) rfl)), (hw _ (List.mem_of_getElem? (i := 84) rfl))⟩)
  have E_MessageReader_Framing_NONE := Exa.start ev_MessageReader_Framing_NONE g21
  obtain ⟨a_MessageReader_Framing_LENGTH, ev_MessageReader_Framing_LENGTH⟩ := exa_v g25
  have S_MessageReader_Framing_LENGTH := Sta.start ev_MessageReader_Framing_LENGTH (Or.inr ⟨(hw _ (List.mem_of_getElem? (i := 32) rfl)), (hw _ (List.mem_of_getElem? (i := 86) rfl))⟩)
  have E_MessageReader_Framing_LENGTH := Exa.start ev_MessageReader_Framing_LENGTH g25
  have O_MessageReader_Framing_UNTIL_CLOSE : Fld s s.heap a_MessageReader_Framing_UNTIL_CLOSE "java/lang/Enum" "ordinal" "I" (.int (3 : Int32)) := by
    obtain ⟨vx, vy, hvx, hvy, hk1, hk2⟩ := cmp_v (Or.inl g11)
    obtain rfl : Value.int (3 : Int32) = vy := Option.some.inj ((Term.int_eval (3 : Int32)).symm.trans hvy)
    obtain ⟨z, rfl⟩ : ∃ z, vx = Value.int z := hk2
    have hz := gotT (Cond.eq_ints hvx (Term.int_eval (3 : Int32))) g11
    subst hz; exact Fld.start ((fld_at ev_MessageReader_Framing_UNTIL_CLOSE).symm.trans hvx)
  have O_MessageReader_Stage_UNTIL_CLOSE : Fld s s.heap a_MessageReader_Stage_UNTIL_CLOSE "java/lang/Enum" "ordinal" "I" (.int (7 : Int32)) := by
    obtain ⟨vx, vy, hvx, hvy, hk1, hk2⟩ := cmp_v (Or.inl g17)
    obtain rfl : Value.int (7 : Int32) = vy := Option.some.inj ((Term.int_eval (7 : Int32)).symm.trans hvy)
    obtain ⟨z, rfl⟩ : ∃ z, vx = Value.int z := hk2
    have hz := gotT (Cond.eq_ints hvx (Term.int_eval (7 : Int32))) g17
    subst hz; exact Fld.start ((fld_at ev_MessageReader_Stage_UNTIL_CLOSE).symm.trans hvx)
  have O_MessageReader_Stage_DONE : Fld s s.heap a_MessageReader_Stage_DONE "java/lang/Enum" "ordinal" "I" (.int (8 : Int32)) := by
    obtain ⟨vx, vy, hvx, hvy, hk1, hk2⟩ := cmp_v (Or.inl g19)
    obtain rfl : Value.int (8 : Int32) = vy := Option.some.inj ((Term.int_eval (8 : Int32)).symm.trans hvy)
    obtain ⟨z, rfl⟩ : ∃ z, vx = Value.int z := hk2
    have hz := gotT (Cond.eq_ints hvx (Term.int_eval (8 : Int32))) g19
    subst hz; exact Fld.start ((fld_at ev_MessageReader_Stage_DONE).symm.trans hvx)
  have O_MessageReader_Framing_NONE : Fld s s.heap a_MessageReader_Framing_NONE "java/lang/Enum" "ordinal" "I" (.int (0 : Int32)) := by
    obtain ⟨vx, vy, hvx, hvy, hk1, hk2⟩ := cmp_v (Or.inl g23)
    obtain rfl : Value.int (0 : Int32) = vy := Option.some.inj ((Term.int_eval (0 : Int32)).symm.trans hvy)
    obtain ⟨z, rfl⟩ : ∃ z, vx = Value.int z := hk2
    have hz := gotT (Cond.eq_ints hvx (Term.int_eval (0 : Int32))) g23
    subst hz; exact Fld.start ((fld_at ev_MessageReader_Framing_NONE).symm.trans hvx)
  have O_MessageReader_Framing_LENGTH : Fld s s.heap a_MessageReader_Framing_LENGTH "java/lang/Enum" "ordinal" "I" (.int (1 : Int32)) := by
    obtain ⟨vx, vy, hvx, hvy, hk1, hk2⟩ := cmp_v (Or.inl g26)
    obtain rfl : Value.int (1 : Int32) = vy := Option.some.inj ((Term.int_eval (1 : Int32)).symm.trans hvy)
    obtain ⟨z, rfl⟩ : ∃ z, vx = Value.int z := hk2
    have hz := gotT (Cond.eq_ints hvx (Term.int_eval (1 : Int32))) g26
    subst hz; exact Fld.start ((fld_at ev_MessageReader_Framing_LENGTH).symm.trans hvx)
  obtain ⟨n, o, h1, h2, h3, _, L, rfl, ⟨rfl, N⟩, hq⟩ := rm0 l s _ hw tables_1 i0 i1 i2 a_MessageReader_Stage_HEAD a_MessageReader_Stage_DONE a_MessageReader_Stage_UNTIL_CLOSE a_MessageReader_Framing_NONE a_MessageReader_Framing_LENGTH a_MessageReader_Framing_UNTIL_CLOSE s.heap s.heap.size (Nat.le_refl _) S_MessageReader_Stage_HEAD S_MessageReader_Stage_DONE S_MessageReader_Stage_UNTIL_CLOSE S_MessageReader_Framing_NONE E_MessageReader_Framing_NONE O_MessageReader_Framing_NONE S_MessageReader_Framing_LENGTH E_MessageReader_Framing_LENGTH O_MessageReader_Framing_LENGTH S_MessageReader_Framing_UNTIL_CLOSE E_MessageReader_Framing_UNTIL_CLOSE O_MessageReader_Framing_UNTIL_CLOSE (Fld.ne O_MessageReader_Stage_UNTIL_CLOSE O_MessageReader_Stage_DONE (own_ni (by decide))) p e ha hc hk s m _ below hf ((Spec.applies_iff_loose hf).mp happ).1 ⟨rfl, State.Warmed39.refl s, rfl⟩ trivial
  refine ⟨n, _, h1, h2, h3, hpost _ _ _ _ _ _ ⟨Cond.after_iff.mpr rfl, Cond.after_iff.mpr (eq_i res_at (Term.int_eval (1)) (congrArg Value.int (own_law i0 i1 i2 a_MessageReader_Stage_HEAD a_MessageReader_Stage_DONE a_MessageReader_Stage_UNTIL_CLOSE a_MessageReader_Framing_NONE a_MessageReader_Framing_LENGTH a_MessageReader_Framing_UNTIL_CLOSE))), trivial⟩ ⟨hq.1, hq.2.1, (hq.2.2.sift fun y hy => Or.inr (N y hy)).mono (by decide) (by decide)⟩⟩
theorem main_1_1 : Claimed_1_1 := comes_1 fun _ _ _ _ _ _ h hF => ⟨h.1, hF⟩
theorem main_1_2 : Claimed_1_2 := comes_1 fun _ _ _ _ _ _ h hF => ⟨h.2.1, hF⟩
end Jvm.Pilot.@@N@@
namespace Jvm.Pilot.@@N@@
open Jvm Jvm.ClassFile Sem Op Lib Jvm.Free Jvm.Stand Jvm.Pilot.@@N@@.Jvm.D
/-! MADE BY PROGRAM (witnessworld.py) out of the Statement's table words and the real class files: 17 classes; the members and pool entries that the words name. The judged class is class 1, her method 1. -/
namespace start1
open Jvm.ClassFile
def u (s : String) : CpInfo := .utf8 (stringToUtf16 s)
/-- a pool by its gaps: so many unusable entries, then the entry; so many at the end -/
def gap : Nat → List CpInfo → List CpInfo
  | 0, r => r
  | n + 1, r => .unusable :: gap n r
def poolList (es : List (Nat × CpInfo)) (last : Nat) : List CpInfo := es.foldr (fun e r => gap e.1 (e.2 :: r)) (gap last [])
def pool (es : List (Nat × CpInfo)) (last : Nat) : Array CpInfo := ⟨poolList es last⟩
def fileOf (pool : Array CpInfo) (this : Nat) (attrs : Array Attribute := #[]) (ms : Array MethodInfo := #[]) (fl : Nat := 33) (sup : Nat := 0) (ifs : Array Nat := #[]) (fds : Array FieldInfo := #[]) : ClassFile where
  minorVersion := 0
  majorVersion := 65
  constantPool := pool
  accessFlags := fl
  thisClass := this
  superClass := sup
  interfaces := ifs
  fields := fds
  methods := ms
  attributes := attrs
def plain (name : String) (sup : Option ClassId) : Class where
  name := name
  kind := .ordinary
  loader := none
  accessFlags := 33
  super := sup
  interfaces := #[]
  cf := none
  fields := #[]
  methods := #[]
  instanceTypes := #[]
  staticTypes := #[]
  resolved := #[]
  callSites := []
  init := .initialized
  statics := none
  mirror := none

def pool0 : Array CpInfo := pool [(5, u "<init>"), (0, u "()V"), (1, .class_ 10), (1, u "java/lang/Object")] 113

def k0c0 : Code := { maxStack := 0, maxLocals := 1, code := object_method_1_code, exceptionTable := #[], attributes := #[] }
def k0m0 : Method := { name := "<init>", desc := "()V", sig := { parameters := [], returnType := none }, accessFlags := 1, code := some k0c0 }
/-- java/lang/Object -/
def k0 : Class := { plain "java/lang/Object" none with
  accessFlags := 33
  interfaces := #[]
  cf := some (fileOf pool0 8 #[] #[{ accessFlags := 1, nameIndex := 5, descriptorIndex := 6, attributes := #[] }] 33 0 #[] #[])
  fields := #[]
  methods := #[k0m0]
  instanceTypes := #[]
  staticTypes := #[]
  resolved := Array.replicate 124 none
  statics := none }

def pool1 : Array CpInfo := pool [(2, .class_ 4), (1, u "java/lang/Object"), (0, u "<init>"), (0, u "()V"), (0, .integer 2147483647), (0, .class_ 9), (0, u "com/example/admission_for_endpoints/admissionforendpoints/MessageReader"), (0, .methodref 8 11), (0, .nameAndType 5 12), (0, u "(IZ)V"), (0, .methodref 8 14), (0, .nameAndType 15 6), (0, u "drop"), (0, .fieldref 17 18), (0, .class_ 19), (0, .nameAndType 20 21), (0, u "com/example/admission_for_endpoints/admissionforendpoints/MessageReader$Framing"), (0, u "NONE"), (0, u "Lcom/example/admission_for_endpoints/admissionforendpoints/MessageReader$Framing;"), (0, .fieldref 17 23), (0, .nameAndType 24 21), (0, u "LENGTH"), (0, .fieldref 17 26), (0, .nameAndType 27 21), (0, u "UNTIL_CLOSE"), (0, .methodref 8 29), (0, .nameAndType 30 31), (0, u "frame"), (0, u "(Lcom/example/admission_for_endpoints/admissionforendpoints/MessageReader$Framing;J)V"), (0, .methodref 8 33), (0, .nameAndType 34 35), (0, u "ended"), (0, u "()Z"), (0, .methodref 8 37), (0, .nameAndType 38 35), (0, u "end"), (0, .methodref 8 40), (0, .nameAndType 41 35), (0, u "truncated"), (0, .methodref 8 43), (0, .nameAndType 44 45), (0, u "bodyBytes"), (0, u "()I"), (0, .class_ 47), (0, u "com/example/admission_for_endpoints/admissionforendpoints/MessageReaderEndPinLaw"), (2, u "law"), (0, u "(III)Z")] 8

def k1m0 : Method := { name := "<init>", desc := "()V", sig := { parameters := [], returnType := none }, accessFlags := 1, code := none }
def k1c1 : Code := { maxStack := 4, maxLocals := 13, code := code, exceptionTable := #[], attributes := #[] }
def k1m1 : Method := { name := "law", desc := "(III)Z", sig := { parameters := [.int, .int, .int], returnType := some .boolean }, accessFlags := 9, code := some k1c1 }
/-- com/example/admission_for_endpoints/admissionforendpoints/MessageReaderEndPinLaw -/
def k1 : Class := { plain "com/example/admission_for_endpoints/admissionforendpoints/MessageReaderEndPinLaw" (some 0) with
  accessFlags := 49
  interfaces := #[]
  cf := some (fileOf pool1 46 #[] #[{ accessFlags := 1, nameIndex := 5, descriptorIndex := 6, attributes := #[] }, { accessFlags := 9, nameIndex := 50, descriptorIndex := 51, attributes := #[] }] 49 2 #[] #[])
  fields := #[]
  methods := #[k1m0, k1m1]
  instanceTypes := #[]
  staticTypes := #[]
  resolved := Array.replicate 60 none
  statics := none }

def pool2 : Array CpInfo := pool [(1, .methodref 2 3), (0, .class_ 4), (0, .nameAndType 5 6), (0, u "java/lang/Object"), (0, u "<init>"), (0, u "()V"), (0, .fieldref 8 9), (0, .class_ 10), (0, .nameAndType 11 12), (0, u "com/example/admission_for_endpoints/admissionforendpoints/MessageReader$Stage"), (0, u "HEAD"), (0, u "Lcom/example/admission_for_endpoints/admissionforendpoints/MessageReader$Stage;"), (0, .fieldref 14 15), (0, .class_ 16), (0, .nameAndType 17 12), (0, u "com/example/admission_for_endpoints/admissionforendpoints/MessageReader"), (0, u "stage"), (0, .fieldref 14 19), (0, .nameAndType 20 21), (0, u "line"), (0, u "[B"), (0, .fieldref 14 23), (0, .nameAndType 24 21), (0, u "body"), (0, .fieldref 14 26), (0, .nameAndType 27 28), (0, u "maxBodyBytes"), (0, u "I"), (0, .fieldref 14 30), (0, .nameAndType 31 32), (0, u "cutOffAtBound"), (0, u "Z"), (5, u "()Z"), (0, .fieldref 8 40), (0, .nameAndType 41 12), (0, u "DONE"), (0, .fieldref 14 43), (0, .nameAndType 44 32), (0, u "truncated"), (1, .nameAndType 47 48), (0, u "ordinal"), (0, u "()I"), (38, .fieldref 8 88), (0, .nameAndType 89 12), (0, u "UNTIL_CLOSE"), (20, .fieldref 14 111), (0, .nameAndType 112 28), (0, u "lineBytes"), (25, .methodref 139 46), (0, .class_ 140), (0, u "com/example/admission_for_endpoints/admissionforendpoints/MessageReader$Framing"), (0, .fieldref 14 142), (0, .nameAndType 143 144), (0, u "left"), (0, u "J"), (0, .methodref 14 146), (0, .nameAndType 147 148), (0, u "makeRoom"), (0, u "(J)V"), (3, .long 4096), (3, u "CHUNK_SIZE"), (0, .fieldref 14 158), (0, .nameAndType 159 32), (0, u "dropping"), (0, .fieldref 14 161), (0, .nameAndType 162 28), (0, u "bodyBytes"), (45, u "LENGTH"), (0, u "Ljava/util/regex/Pattern;"), (54, .class_ 266), (1, u "java/lang/Math"), (0, u "min"), (40, u "carriageReturn"), (2, .methodref 264 312), (0, .nameAndType 267 313), (0, u "(JJ)J"), (5, .methodref 320 321), (0, .class_ 322), (0, .nameAndType 323 324), (0, u "java/util/Arrays"), (0, u "copyOf"), (0, u "([BI)[B"), (45, u "MAX_HEAD_BYTES"), (1, u "MAX_CHUNK_SIZE_LINE"), (1, u "FIRST_BODY_BYTES"), (1, u "(IZ)V"), (5, u "end"), (6, u "frame"), (0, u "(Lcom/example/admission_for_endpoints/admissionforendpoints/MessageReader$Framing;J)V"), (1, u "drop"), (0, u "ended")] 54

def k2c0 : Code := { maxStack := 2, maxLocals := 3, code := prog_8_method_1_code, exceptionTable := #[], attributes := #[] }
def k2m0 : Method := { name := "<init>", desc := "(IZ)V", sig := { parameters := [.int, .boolean], returnType := none }, accessFlags := 0, code := some k2c0 }
def k2c1 : Code := { maxStack := 3, maxLocals := 1, code := prog_8_method_3_code, exceptionTable := #[], attributes := #[] }
def k2m1 : Method := { name := "end", desc := "()Z", sig := { parameters := [], returnType := some .boolean }, accessFlags := 0, code := some k2c1 }
def k2c2 : Code := { maxStack := 5, maxLocals := 4, code := prog_8_method_7_code, exceptionTable := #[], attributes := #[] }
def k2m2 : Method := { name := "frame", desc := "(Lcom/example/admission_for_endpoints/admissionforendpoints/MessageReader$Framing;J)V", sig := { parameters := [(.object "com/example/admission_for_endpoints/admissionforendpoints/MessageReader$Framing"), .long], returnType := none }, accessFlags := 0, code := some k2c2 }
def k2c3 : Code := { maxStack := 2, maxLocals := 1, code := prog_8_method_9_code, exceptionTable := #[], attributes := #[] }
def k2m3 : Method := { name := "drop", desc := "()V", sig := { parameters := [], returnType := none }, accessFlags := 0, code := some k2c3 }
def k2c4 : Code := { maxStack := 2, maxLocals := 1, code := prog_8_method_10_code, exceptionTable := #[], attributes := #[] }
def k2m4 : Method := { name := "ended", desc := "()Z", sig := { parameters := [], returnType := some .boolean }, accessFlags := 0, code := some k2c4 }
def k2c5 : Code := { maxStack := 1, maxLocals := 1, code := prog_8_method_11_code, exceptionTable := #[], attributes := #[] }
def k2m5 : Method := { name := "truncated", desc := "()Z", sig := { parameters := [], returnType := some .boolean }, accessFlags := 0, code := some k2c5 }
def k2c6 : Code := { maxStack := 1, maxLocals := 1, code := prog_8_method_13_code, exceptionTable := #[], attributes := #[] }
def k2m6 : Method := { name := "bodyBytes", desc := "()I", sig := { parameters := [], returnType := some .int }, accessFlags := 0, code := some k2c6 }
def k2c7 : Code := { maxStack := 4, maxLocals := 4, code := prog_8_method_24_code, exceptionTable := #[], attributes := #[] }
def k2m7 : Method := { name := "makeRoom", desc := "(J)V", sig := { parameters := [.long], returnType := none }, accessFlags := 2, code := some k2c7 }
/-- com/example/admission_for_endpoints/admissionforendpoints/MessageReader -/
def k2 : Class := { plain "com/example/admission_for_endpoints/admissionforendpoints/MessageReader" (some 0) with
  accessFlags := 48
  interfaces := #[]
  cf := some (fileOf pool2 14 #[.nestMembers #[8, 139]] #[{ accessFlags := 0, nameIndex := 5, descriptorIndex := 376, attributes := #[] }, { accessFlags := 0, nameIndex := 382, descriptorIndex := 38, attributes := #[] }, { accessFlags := 0, nameIndex := 389, descriptorIndex := 390, attributes := #[] }, { accessFlags := 0, nameIndex := 392, descriptorIndex := 6, attributes := #[] }, { accessFlags := 0, nameIndex := 393, descriptorIndex := 38, attributes := #[] }, { accessFlags := 0, nameIndex := 44, descriptorIndex := 38, attributes := #[] }, { accessFlags := 0, nameIndex := 162, descriptorIndex := 48, attributes := #[] }, { accessFlags := 2, nameIndex := 147, descriptorIndex := 148, attributes := #[] }] 48 2 #[] #[{ accessFlags := 24, nameIndex := 370, descriptorIndex := 28, attributes := #[] }, { accessFlags := 26, nameIndex := 372, descriptorIndex := 28, attributes := #[] }, { accessFlags := 26, nameIndex := 374, descriptorIndex := 28, attributes := #[] }, { accessFlags := 26, nameIndex := 156, descriptorIndex := 209, attributes := #[] }, { accessFlags := 26, nameIndex := 208, descriptorIndex := 209, attributes := #[] }, { accessFlags := 18, nameIndex := 27, descriptorIndex := 28, attributes := #[] }, { accessFlags := 18, nameIndex := 31, descriptorIndex := 32, attributes := #[] }, { accessFlags := 2, nameIndex := 17, descriptorIndex := 12, attributes := #[] }, { accessFlags := 2, nameIndex := 20, descriptorIndex := 21, attributes := #[] }, { accessFlags := 2, nameIndex := 112, descriptorIndex := 28, attributes := #[] }, { accessFlags := 2, nameIndex := 143, descriptorIndex := 144, attributes := #[] }, { accessFlags := 2, nameIndex := 24, descriptorIndex := 21, attributes := #[] }, { accessFlags := 2, nameIndex := 162, descriptorIndex := 28, attributes := #[] }, { accessFlags := 2, nameIndex := 44, descriptorIndex := 32, attributes := #[] }, { accessFlags := 2, nameIndex := 159, descriptorIndex := 32, attributes := #[] }, { accessFlags := 2, nameIndex := 308, descriptorIndex := 32, attributes := #[] }])
  fields := #[{ name := "MAX_HEAD_BYTES", type := .int, accessFlags := 24, slot := 0, constantValue := 0 }, { name := "MAX_CHUNK_SIZE_LINE", type := .int, accessFlags := 26, slot := 1, constantValue := 0 }, { name := "FIRST_BODY_BYTES", type := .int, accessFlags := 26, slot := 2, constantValue := 0 }, { name := "CHUNK_SIZE", type := (.object "java/util/regex/Pattern"), accessFlags := 26, slot := 3, constantValue := 0 }, { name := "LENGTH", type := (.object "java/util/regex/Pattern"), accessFlags := 26, slot := 4, constantValue := 0 }, { name := "maxBodyBytes", type := .int, accessFlags := 18, slot := 0, constantValue := 0 }, { name := "cutOffAtBound", type := .boolean, accessFlags := 18, slot := 1, constantValue := 0 }, { name := "stage", type := (.object "com/example/admission_for_endpoints/admissionforendpoints/MessageReader$Stage"), accessFlags := 2, slot := 2, constantValue := 0 }, { name := "line", type := (.array .byte), accessFlags := 2, slot := 3, constantValue := 0 }, { name := "lineBytes", type := .int, accessFlags := 2, slot := 4, constantValue := 0 }, { name := "left", type := .long, accessFlags := 2, slot := 5, constantValue := 0 }, { name := "body", type := (.array .byte), accessFlags := 2, slot := 6, constantValue := 0 }, { name := "bodyBytes", type := .int, accessFlags := 2, slot := 7, constantValue := 0 }, { name := "truncated", type := .boolean, accessFlags := 2, slot := 8, constantValue := 0 }, { name := "dropping", type := .boolean, accessFlags := 2, slot := 9, constantValue := 0 }, { name := "carriageReturn", type := .boolean, accessFlags := 2, slot := 10, constantValue := 0 }]
  methods := #[k2m0, k2m1, k2m2, k2m3, k2m4, k2m5, k2m6, k2m7]
  instanceTypes := #[.int, .boolean, (.object "com/example/admission_for_endpoints/admissionforendpoints/MessageReader$Stage"), (.array .byte), .int, .long, (.array .byte), .int, .boolean, .boolean, .boolean]
  staticTypes := #[.int, .int, .int, (.object "java/util/regex/Pattern"), (.object "java/util/regex/Pattern")]
  resolved := Array.replicate 448 none
  statics := none }

def pool3 : Array CpInfo := pool [(1, .class_ 2), (0, u "java/lang/constant/Constable"), (0, .class_ 4), (0, u "java/lang/Object")] 6

/-- java/lang/constant/Constable -/
def k3 : Class := { plain "java/lang/constant/Constable" (some 0) with
  accessFlags := 1537
  interfaces := #[]
  cf := some (fileOf pool3 1 #[] #[] 1537 3 #[] #[])
  fields := #[]
  methods := #[]
  instanceTypes := #[]
  staticTypes := #[]
  resolved := Array.replicate 11 none
  statics := none }

def pool4 : Array CpInfo := pool [(1, .class_ 2), (0, u "java/lang/Comparable"), (0, .class_ 4), (0, u "java/lang/Object")] 7

/-- java/lang/Comparable -/
def k4 : Class := { plain "java/lang/Comparable" (some 0) with
  accessFlags := 1537
  interfaces := #[]
  cf := some (fileOf pool4 1 #[] #[] 1537 3 #[] #[])
  fields := #[]
  methods := #[]
  instanceTypes := #[]
  staticTypes := #[]
  resolved := Array.replicate 12 none
  statics := none }

def pool5 : Array CpInfo := pool [(1, .class_ 2), (0, u "java/io/Serializable"), (0, .class_ 4), (0, u "java/lang/Object")] 2

/-- java/io/Serializable -/
def k5 : Class := { plain "java/io/Serializable" (some 0) with
  accessFlags := 1537
  interfaces := #[]
  cf := some (fileOf pool5 1 #[] #[] 1537 3 #[] #[])
  fields := #[]
  methods := #[]
  instanceTypes := #[]
  staticTypes := #[]
  resolved := Array.replicate 7 none
  statics := none }

def pool6 : Array CpInfo := pool [(2, .class_ 4), (1, u "java/lang/Enum"), (0, u "name"), (0, u "Ljava/lang/String;"), (0, .fieldref 2 8), (0, .nameAndType 9 10), (0, u "ordinal"), (0, u "I"), (1, .class_ 14), (1, u "java/lang/Object"), (4, u "hash"), (86, .class_ 108), (1, u "java/lang/Enum$EnumDesc"), (2, .class_ 112), (0, u "java/lang/constant/Constable"), (0, .class_ 114), (0, u "java/lang/Comparable"), (0, .class_ 116), (0, u "java/io/Serializable"), (9, u "()I")] 77

def k6c0 : Code := { maxStack := 1, maxLocals := 1, code := jdk_37_method_2_code, exceptionTable := #[], attributes := #[] }
def k6m0 : Method := { name := "ordinal", desc := "()I", sig := { parameters := [], returnType := some .int }, accessFlags := 17, code := some k6c0 }
/-- java/lang/Enum -/
def k6 : Class := { plain "java/lang/Enum" (some 0) with
  accessFlags := 1057
  interfaces := #[3, 4, 5]
  cf := some (fileOf pool6 2 #[.nestMembers #[106]] #[{ accessFlags := 17, nameIndex := 9, descriptorIndex := 126, attributes := #[] }] 1057 12 #[111, 113, 115] #[{ accessFlags := 18, nameIndex := 5, descriptorIndex := 6, attributes := #[] }, { accessFlags := 18, nameIndex := 9, descriptorIndex := 10, attributes := #[] }, { accessFlags := 2, nameIndex := 19, descriptorIndex := 10, attributes := #[] }])
  fields := #[{ name := "name", type := (.object "java/lang/String"), accessFlags := 18, slot := 0, constantValue := 0 }, { name := "ordinal", type := .int, accessFlags := 18, slot := 1, constantValue := 0 }, { name := "hash", type := .int, accessFlags := 2, slot := 2, constantValue := 0 }]
  methods := #[k6m0]
  instanceTypes := #[(.object "java/lang/String"), .int, .int]
  staticTypes := #[]
  resolved := Array.replicate 204 none
  statics := none }

def pool7 : Array CpInfo := pool [(1, .class_ 2), (0, u "com/example/admission_for_endpoints/admissionforendpoints/MessageReader$Stage"), (2, u "HEAD"), (0, u "Lcom/example/admission_for_endpoints/admissionforendpoints/MessageReader$Stage;"), (2, u "FRAMING"), (2, u "FIXED"), (2, u "CHUNK_SIZE"), (2, u "CHUNK_DATA"), (2, u "CHUNK_END"), (2, u "TRAILERS"), (2, u "UNTIL_CLOSE"), (2, u "DONE"), (2, u "$VALUES"), (0, u "[Lcom/example/admission_for_endpoints/admissionforendpoints/MessageReader$Stage;"), (6, .class_ 43), (1, u "java/lang/Enum"), (32, .class_ 77), (0, u "com/example/admission_for_endpoints/admissionforendpoints/MessageReader")] 2

/-- com/example/admission_for_endpoints/admissionforendpoints/MessageReader$Stage -/
def k7 : Class := { plain "com/example/admission_for_endpoints/admissionforendpoints/MessageReader$Stage" (some 6) with
  accessFlags := 16432
  interfaces := #[]
  cf := some (fileOf pool7 1 #[.nestHost 76] #[] 16432 41 #[] #[{ accessFlags := 16409, nameIndex := 5, descriptorIndex := 6, attributes := #[] }, { accessFlags := 16409, nameIndex := 9, descriptorIndex := 6, attributes := #[] }, { accessFlags := 16409, nameIndex := 12, descriptorIndex := 6, attributes := #[] }, { accessFlags := 16409, nameIndex := 15, descriptorIndex := 6, attributes := #[] }, { accessFlags := 16409, nameIndex := 18, descriptorIndex := 6, attributes := #[] }, { accessFlags := 16409, nameIndex := 21, descriptorIndex := 6, attributes := #[] }, { accessFlags := 16409, nameIndex := 24, descriptorIndex := 6, attributes := #[] }, { accessFlags := 16409, nameIndex := 27, descriptorIndex := 6, attributes := #[] }, { accessFlags := 16409, nameIndex := 30, descriptorIndex := 6, attributes := #[] }, { accessFlags := 4122, nameIndex := 33, descriptorIndex := 34, attributes := #[] }])
  fields := #[{ name := "HEAD", type := (.object "com/example/admission_for_endpoints/admissionforendpoints/MessageReader$Stage"), accessFlags := 16409, slot := 0, constantValue := 0 }, { name := "FRAMING", type := (.object "com/example/admission_for_endpoints/admissionforendpoints/MessageReader$Stage"), accessFlags := 16409, slot := 1, constantValue := 0 }, { name := "FIXED", type := (.object "com/example/admission_for_endpoints/admissionforendpoints/MessageReader$Stage"), accessFlags := 16409, slot := 2, constantValue := 0 }, { name := "CHUNK_SIZE", type := (.object "com/example/admission_for_endpoints/admissionforendpoints/MessageReader$Stage"), accessFlags := 16409, slot := 3, constantValue := 0 }, { name := "CHUNK_DATA", type := (.object "com/example/admission_for_endpoints/admissionforendpoints/MessageReader$Stage"), accessFlags := 16409, slot := 4, constantValue := 0 }, { name := "CHUNK_END", type := (.object "com/example/admission_for_endpoints/admissionforendpoints/MessageReader$Stage"), accessFlags := 16409, slot := 5, constantValue := 0 }, { name := "TRAILERS", type := (.object "com/example/admission_for_endpoints/admissionforendpoints/MessageReader$Stage"), accessFlags := 16409, slot := 6, constantValue := 0 }, { name := "UNTIL_CLOSE", type := (.object "com/example/admission_for_endpoints/admissionforendpoints/MessageReader$Stage"), accessFlags := 16409, slot := 7, constantValue := 0 }, { name := "DONE", type := (.object "com/example/admission_for_endpoints/admissionforendpoints/MessageReader$Stage"), accessFlags := 16409, slot := 8, constantValue := 0 }, { name := "$VALUES", type := (.array (.object "com/example/admission_for_endpoints/admissionforendpoints/MessageReader$Stage")), accessFlags := 4122, slot := 9, constantValue := 0 }]
  methods := #[]
  instanceTypes := #[(.object "java/lang/String"), .int, .int]
  staticTypes := #[(.object "com/example/admission_for_endpoints/admissionforendpoints/MessageReader$Stage"), (.object "com/example/admission_for_endpoints/admissionforendpoints/MessageReader$Stage"), (.object "com/example/admission_for_endpoints/admissionforendpoints/MessageReader$Stage"), (.object "com/example/admission_for_endpoints/admissionforendpoints/MessageReader$Stage"), (.object "com/example/admission_for_endpoints/admissionforendpoints/MessageReader$Stage"), (.object "com/example/admission_for_endpoints/admissionforendpoints/MessageReader$Stage"), (.object "com/example/admission_for_endpoints/admissionforendpoints/MessageReader$Stage"), (.object "com/example/admission_for_endpoints/admissionforendpoints/MessageReader$Stage"), (.object "com/example/admission_for_endpoints/admissionforendpoints/MessageReader$Stage"), (.array (.object "com/example/admission_for_endpoints/admissionforendpoints/MessageReader$Stage"))]
  resolved := Array.replicate 80 none
  statics := some 0 }

def pool8 : Array CpInfo := pool [(1, .class_ 2), (0, u "com/example/admission_for_endpoints/admissionforendpoints/MessageReader$Framing"), (2, u "NONE"), (0, u "Lcom/example/admission_for_endpoints/admissionforendpoints/MessageReader$Framing;"), (2, u "LENGTH"), (2, u "CHUNKED"), (2, u "UNTIL_CLOSE"), (2, u "$VALUES"), (0, u "[Lcom/example/admission_for_endpoints/admissionforendpoints/MessageReader$Framing;"), (6, .class_ 28), (1, u "java/lang/Enum"), (27, .class_ 57), (0, u "com/example/admission_for_endpoints/admissionforendpoints/MessageReader")] 2

/-- com/example/admission_for_endpoints/admissionforendpoints/MessageReader$Framing -/
def k8 : Class := { plain "com/example/admission_for_endpoints/admissionforendpoints/MessageReader$Framing" (some 6) with
  accessFlags := 16432
  interfaces := #[]
  cf := some (fileOf pool8 1 #[.nestHost 56] #[] 16432 26 #[] #[{ accessFlags := 16409, nameIndex := 5, descriptorIndex := 6, attributes := #[] }, { accessFlags := 16409, nameIndex := 9, descriptorIndex := 6, attributes := #[] }, { accessFlags := 16409, nameIndex := 12, descriptorIndex := 6, attributes := #[] }, { accessFlags := 16409, nameIndex := 15, descriptorIndex := 6, attributes := #[] }, { accessFlags := 4122, nameIndex := 18, descriptorIndex := 19, attributes := #[] }])
  fields := #[{ name := "NONE", type := (.object "com/example/admission_for_endpoints/admissionforendpoints/MessageReader$Framing"), accessFlags := 16409, slot := 0, constantValue := 0 }, { name := "LENGTH", type := (.object "com/example/admission_for_endpoints/admissionforendpoints/MessageReader$Framing"), accessFlags := 16409, slot := 1, constantValue := 0 }, { name := "CHUNKED", type := (.object "com/example/admission_for_endpoints/admissionforendpoints/MessageReader$Framing"), accessFlags := 16409, slot := 2, constantValue := 0 }, { name := "UNTIL_CLOSE", type := (.object "com/example/admission_for_endpoints/admissionforendpoints/MessageReader$Framing"), accessFlags := 16409, slot := 3, constantValue := 0 }, { name := "$VALUES", type := (.array (.object "com/example/admission_for_endpoints/admissionforendpoints/MessageReader$Framing")), accessFlags := 4122, slot := 4, constantValue := 0 }]
  methods := #[]
  instanceTypes := #[(.object "java/lang/String"), .int, .int]
  staticTypes := #[(.object "com/example/admission_for_endpoints/admissionforendpoints/MessageReader$Framing"), (.object "com/example/admission_for_endpoints/admissionforendpoints/MessageReader$Framing"), (.object "com/example/admission_for_endpoints/admissionforendpoints/MessageReader$Framing"), (.object "com/example/admission_for_endpoints/admissionforendpoints/MessageReader$Framing"), (.array (.object "com/example/admission_for_endpoints/admissionforendpoints/MessageReader$Framing"))]
  resolved := Array.replicate 60 none
  statics := some 1 }

def pool9 : Array CpInfo := pool [(1, .class_ 2), (0, u "java/lang/Math"), (1, .class_ 6), (1, u "java/lang/Object"), (0, u "<init>"), (0, u "()V"), (89, .class_ 100), (1, u "java/lang/Math$RandomNumberGeneratorHolder"), (20, u "(JJ)J"), (50, u "negativeZeroFloatBits"), (0, u "J"), (2, u "negativeZeroDoubleBits"), (24, u "min"), (43, u "$assertionsDisabled"), (0, u "Z"), (88, u "(II)I"), (2, u "twoToTheDoubleScaleDown"), (0, u "D"), (4, u "twoToTheDoubleScaleUp"), (9, u "E"), (3, u "PI"), (2, u "TAU"), (2, u "DEGREES_TO_RADIANS"), (0, u "RADIANS_TO_DEGREES")] 94

def k9m0 : Method := { name := "<init>", desc := "()V", sig := { parameters := [], returnType := none }, accessFlags := 2, code := none }
def k9c1 : Code := { maxStack := 2, maxLocals := 2, code := jdk_29_method_69_code, exceptionTable := #[], attributes := #[] }
def k9m1 : Method := { name := "min", desc := "(II)I", sig := { parameters := [.int, .int], returnType := some .int }, accessFlags := 9, code := some k9c1 }
def k9c2 : Code := { maxStack := 4, maxLocals := 4, code := jdk_29_method_70_code, exceptionTable := #[], attributes := #[] }
def k9m2 : Method := { name := "min", desc := "(JJ)J", sig := { parameters := [.long, .long], returnType := some .long }, accessFlags := 9, code := some k9c2 }
/-- java/lang/Math -/
def k9 : Class := { plain "java/lang/Math" (some 0) with
  accessFlags := 49
  interfaces := #[]
  cf := some (fileOf pool9 1 #[.nestMembers #[98]] #[{ accessFlags := 2, nameIndex := 7, descriptorIndex := 8, attributes := #[] }, { accessFlags := 9, nameIndex := 201, descriptorIndex := 335, attributes := #[] }, { accessFlags := 9, nameIndex := 201, descriptorIndex := 121, attributes := #[] }] 49 4 #[] #[{ accessFlags := 25, nameIndex := 354, descriptorIndex := 339, attributes := #[] }, { accessFlags := 25, nameIndex := 358, descriptorIndex := 339, attributes := #[] }, { accessFlags := 25, nameIndex := 361, descriptorIndex := 339, attributes := #[] }, { accessFlags := 26, nameIndex := 364, descriptorIndex := 339, attributes := #[] }, { accessFlags := 26, nameIndex := 365, descriptorIndex := 339, attributes := #[] }, { accessFlags := 26, nameIndex := 172, descriptorIndex := 173, attributes := #[] }, { accessFlags := 26, nameIndex := 176, descriptorIndex := 173, attributes := #[] }, { accessFlags := 8, nameIndex := 344, descriptorIndex := 339, attributes := #[] }, { accessFlags := 8, nameIndex := 338, descriptorIndex := 339, attributes := #[] }, { accessFlags := 4120, nameIndex := 245, descriptorIndex := 246, attributes := #[] }])
  fields := #[{ name := "E", type := .double, accessFlags := 25, slot := 0, constantValue := 0 }, { name := "PI", type := .double, accessFlags := 25, slot := 1, constantValue := 0 }, { name := "TAU", type := .double, accessFlags := 25, slot := 2, constantValue := 0 }, { name := "DEGREES_TO_RADIANS", type := .double, accessFlags := 26, slot := 3, constantValue := 0 }, { name := "RADIANS_TO_DEGREES", type := .double, accessFlags := 26, slot := 4, constantValue := 0 }, { name := "negativeZeroFloatBits", type := .long, accessFlags := 26, slot := 5, constantValue := 0 }, { name := "negativeZeroDoubleBits", type := .long, accessFlags := 26, slot := 6, constantValue := 0 }, { name := "twoToTheDoubleScaleUp", type := .double, accessFlags := 8, slot := 7, constantValue := 0 }, { name := "twoToTheDoubleScaleDown", type := .double, accessFlags := 8, slot := 8, constantValue := 0 }, { name := "$assertionsDisabled", type := .boolean, accessFlags := 4120, slot := 9, constantValue := 0 }]
  methods := #[k9m0, k9m1, k9m2]
  instanceTypes := #[]
  staticTypes := #[.double, .double, .double, .double, .double, .long, .long, .double, .double, .boolean]
  resolved := Array.replicate 460 none
  statics := none }

def pool10 : Array CpInfo := pool [(2, .class_ 4), (1, u "java/lang/Object"), (0, u "<init>"), (0, u "()V"), (7, .class_ 16), (1, u "java/util/Arrays"), (57, .class_ 76), (1, u "java/util/Arrays$NaturalOrder"), (36, .class_ 115), (1, u "java/util/Arrays$LegacyMergeSort"), (1, u "Z"), (32, .methodref 151 152), (0, .class_ 153), (0, .nameAndType 154 155), (0, u "java/lang/System"), (0, u "arraycopy"), (0, u "(Ljava/lang/Object;ILjava/lang/Object;II)V"), (146, u "copyOf"), (1, .methodref 305 306), (0, .class_ 307), (0, .nameAndType 308 309), (0, u "java/lang/Math"), (0, u "min"), (0, u "(II)I"), (65, .class_ 376), (0, u "java/util/Arrays$ArrayList"), (68, u "$assertionsDisabled"), (269, u "MIN_ARRAY_SORT_GRAN"), (0, u "I"), (2, u "INSERTIONSORT_THRESHOLD"), (149, u "([BI)[B"), (105, .class_ 976), (0, u "java/util/Arrays$ArrayItr")] 52

def k10m0 : Method := { name := "<init>", desc := "()V", sig := { parameters := [], returnType := none }, accessFlags := 2, code := none }
def k10c1 : Code := { maxStack := 6, maxLocals := 3, code := jdk_65_method_121_code, exceptionTable := #[], attributes := #[] }
def k10m1 : Method := { name := "copyOf", desc := "([BI)[B", sig := { parameters := [(.array .byte), .int], returnType := some (.array .byte) }, accessFlags := 9, code := some k10c1 }
/-- java/util/Arrays -/
def k10 : Class := { plain "java/util/Arrays" (some 0) with
  accessFlags := 49
  interfaces := #[]
  cf := some (fileOf pool10 14 #[.nestMembers #[975, 375, 113, 74]] #[{ accessFlags := 2, nameIndex := 5, descriptorIndex := 6, attributes := #[] }, { accessFlags := 9, nameIndex := 302, descriptorIndex := 869, attributes := #[] }] 49 2 #[] #[{ accessFlags := 26, nameIndex := 715, descriptorIndex := 716, attributes := #[] }, { accessFlags := 26, nameIndex := 719, descriptorIndex := 716, attributes := #[] }, { accessFlags := 4120, nameIndex := 445, descriptorIndex := 117, attributes := #[] }])
  fields := #[{ name := "MIN_ARRAY_SORT_GRAN", type := .int, accessFlags := 26, slot := 0, constantValue := 0 }, { name := "INSERTIONSORT_THRESHOLD", type := .int, accessFlags := 26, slot := 1, constantValue := 0 }, { name := "$assertionsDisabled", type := .boolean, accessFlags := 4120, slot := 2, constantValue := 0 }]
  methods := #[k10m0, k10m1]
  instanceTypes := #[]
  staticTypes := #[.int, .int, .boolean]
  resolved := Array.replicate 1029 none
  statics := none }

def pool11 : Array CpInfo := pool [(2, .class_ 4), (1, u "java/lang/Object"), (0, u "<init>"), (0, u "()V"), (1, .class_ 10), (1, u "java/lang/System"), (0, u "allowSecurityManager"), (0, u "I"), (16, u "cons"), (0, u "Ljava/io/Console;"), (77, .class_ 110), (1, u "java/lang/System$CallersHolder"), (43, u "initialErrStream"), (0, u "Ljava/io/PrintStream;"), (19, u "security"), (0, u "Ljava/lang/SecurityManager;"), (31, .class_ 209), (0, u "java/lang/System$1"), (7, u "props"), (0, u "Ljava/util/Properties;"), (2, u "lineSeparator"), (0, u "Ljava/lang/String;"), (96, .class_ 321), (1, u "java/lang/System$LoggerFinder"), (5, .class_ 328), (0, u "java/lang/System$Logger"), (67, u "err"), (2, u "out"), (91, u "notSupportedJnuEncoding"), (15, u "in"), (17, u "initialIn"), (0, u "Ljava/io/InputStream;"), (35, u "bootLayer"), (0, u "Ljava/lang/ModuleLayer;"), (99, .class_ 664), (0, u "java/lang/System$2"), (9, u "NEVER"), (2, u "MAYBE"), (49, u "arraycopy"), (0, u "(Ljava/lang/Object;ILjava/lang/Object;II)V"), (72, .class_ 802), (0, u "java/lang/System$Logger$Level")] 31

def k11m0 : Method := { name := "<init>", desc := "()V", sig := { parameters := [], returnType := none }, accessFlags := 2, code := none }
def k11m1 : Method := { name := "arraycopy", desc := "(Ljava/lang/Object;ILjava/lang/Object;II)V", sig := { parameters := [(.object "java/lang/Object"), .int, (.object "java/lang/Object"), .int, .int], returnType := none }, accessFlags := 265, code := none }
/-- java/lang/System -/
def k11 : Class := { plain "java/lang/System" (some 0) with
  accessFlags := 49
  interfaces := #[]
  cf := some (fileOf pool11 8 #[.nestMembers #[319, 327, 801, 108, 663, 208]] #[{ accessFlags := 2, nameIndex := 5, descriptorIndex := 6, attributes := #[] }, { accessFlags := 265, nameIndex := 727, descriptorIndex := 728, attributes := #[] }] 49 2 #[] #[{ accessFlags := 25, nameIndex := 507, descriptorIndex := 526, attributes := #[] }, { accessFlags := 25, nameIndex := 399, descriptorIndex := 155, attributes := #[] }, { accessFlags := 25, nameIndex := 396, descriptorIndex := 155, attributes := #[] }, { accessFlags := 10, nameIndex := 525, descriptorIndex := 526, attributes := #[] }, { accessFlags := 26, nameIndex := 674, descriptorIndex := 12, attributes := #[] }, { accessFlags := 26, nameIndex := 677, descriptorIndex := 12, attributes := #[] }, { accessFlags := 10, nameIndex := 11, descriptorIndex := 12, attributes := #[] }, { accessFlags := 74, nameIndex := 175, descriptorIndex := 176, attributes := #[] }, { accessFlags := 10, nameIndex := 491, descriptorIndex := 222, attributes := #[] }, { accessFlags := 74, nameIndex := 29, descriptorIndex := 30, attributes := #[] }, { accessFlags := 74, nameIndex := 154, descriptorIndex := 155, attributes := #[] }, { accessFlags := 10, nameIndex := 217, descriptorIndex := 218, attributes := #[] }, { accessFlags := 10, nameIndex := 221, descriptorIndex := 222, attributes := #[] }, { accessFlags := 8, nameIndex := 562, descriptorIndex := 563, attributes := #[] }])
  fields := #[{ name := "in", type := (.object "java/io/InputStream"), accessFlags := 25, slot := 0, constantValue := 0 }, { name := "out", type := (.object "java/io/PrintStream"), accessFlags := 25, slot := 1, constantValue := 0 }, { name := "err", type := (.object "java/io/PrintStream"), accessFlags := 25, slot := 2, constantValue := 0 }, { name := "initialIn", type := (.object "java/io/InputStream"), accessFlags := 10, slot := 3, constantValue := 0 }, { name := "NEVER", type := .int, accessFlags := 26, slot := 4, constantValue := 0 }, { name := "MAYBE", type := .int, accessFlags := 26, slot := 5, constantValue := 0 }, { name := "allowSecurityManager", type := .int, accessFlags := 10, slot := 6, constantValue := 0 }, { name := "security", type := (.object "java/lang/SecurityManager"), accessFlags := 74, slot := 7, constantValue := 0 }, { name := "notSupportedJnuEncoding", type := (.object "java/lang/String"), accessFlags := 10, slot := 8, constantValue := 0 }, { name := "cons", type := (.object "java/io/Console"), accessFlags := 74, slot := 9, constantValue := 0 }, { name := "initialErrStream", type := (.object "java/io/PrintStream"), accessFlags := 74, slot := 10, constantValue := 0 }, { name := "props", type := (.object "java/util/Properties"), accessFlags := 10, slot := 11, constantValue := 0 }, { name := "lineSeparator", type := (.object "java/lang/String"), accessFlags := 10, slot := 12, constantValue := 0 }, { name := "bootLayer", type := (.object "java/lang/ModuleLayer"), accessFlags := 8, slot := 13, constantValue := 0 }]
  methods := #[k11m0, k11m1]
  instanceTypes := #[]
  staticTypes := #[(.object "java/io/InputStream"), (.object "java/io/PrintStream"), (.object "java/io/PrintStream"), (.object "java/io/InputStream"), .int, .int, .int, (.object "java/lang/SecurityManager"), (.object "java/lang/String"), (.object "java/io/Console"), (.object "java/io/PrintStream"), (.object "java/util/Properties"), (.object "java/lang/String"), (.object "java/lang/ModuleLayer")]
  resolved := Array.replicate 834 none
  statics := none }

def pool12 : Array CpInfo := pool [(1, u "java/lang/Cloneable"), (0, .class_ 1), (0, u "java/lang/Object"), (0, .class_ 3)] 3

/-- java/lang/Cloneable -/
def k12 : Class := { plain "java/lang/Cloneable" (some 0) with
  accessFlags := 1537
  interfaces := #[]
  cf := some (fileOf pool12 2 #[] #[] 1537 4 #[] #[])
  fields := #[]
  methods := #[]
  instanceTypes := #[]
  staticTypes := #[]
  resolved := Array.replicate 8 none
  statics := none }

/-- the primitive byte -/
def k13 : Class := { plain "byte" none with kind := .primitive 'B', accessFlags := 0x411 }
/-- [B -/
def k14 : Class := { plain "[B" (some 0) with kind := .array 13 .byte, interfaces := #[12, 5], accessFlags := 1041 }

/-- the primitive int -/
def k15 : Class := { plain "int" none with kind := .primitive 'I', accessFlags := 0x411 }
/-- [I -/
def k16 : Class := { plain "[I" (some 0) with kind := .array 15 .int, interfaces := #[12, 5], accessFlags := 1041 }

def heap : Heap := #[{ cls := 7, slots := #[.ref 2, .null, .null, .null, .null, .null, .null, .ref 3, .ref 4, .null], vm := .statics 7 },
  { cls := 8, slots := #[.ref 5, .ref 6, .null, .ref 7, .null], vm := .statics 8 },
  { cls := 7, slots := #[.null, .int 0, .int 0], vm := .none },
  { cls := 7, slots := #[.null, .int 7, .int 0], vm := .none },
  { cls := 7, slots := #[.null, .int 8, .int 0], vm := .none },
  { cls := 8, slots := #[.null, .int 0, .int 0], vm := .none },
  { cls := 8, slots := #[.null, .int 1, .int 0], vm := .none },
  { cls := 8, slots := #[.null, .int 3, .int 0], vm := .none }]
def classes : Array Class := #[k0, k1, k2, k3, k4, k5, k6, k7, k8, k9, k10, k11, k12, k13, k14, k15, k16]
def interned : List (Array UInt16 × Addr) := []
def slotsUsed : Nat := 33
def theMethod : MethodId := ⟨1, 1⟩
def args0 : Array Value := #[.int 5, .int 6, .int 3]
def aboutOver (below : List Frame) : State where
  vm := { classes := classes, interned := interned.toArray }
  heap := heap
  slotsUsed := slotsUsed
  threads := #[{ frames := .invoking theMethod args0 :: below }]
def below0 : List Frame := [.native { method := ⟨0, 0⟩, args := #[] }]
def about1 : State := aboutOver below0
def p0 : Program := .bare "" "" ""
def e0 : Env := launch0.env 0 0 0
theorem w_frames : about1.frames = Frame.invoking theMethod args0 :: below0 := rfl
set_option maxRecDepth 65536 in
theorem w_args : argsFit about1.vm theMethod args0 = true := by decide +kernel
set_option maxRecDepth 65536 in
theorem w_heap : heapFits about1 = true := by decide +kernel
set_option maxRecDepth 65536 in
theorem w_runnable : about1.curStatus? = some .runnable := by decide +kernel
set_option maxRecDepth 65536 in
theorem w_alone : about1.alone = true := by decide +kernel
set_option maxRecDepth 65536 in
theorem w_named : about1.methodNamed? x = some theMethod := by decide +kernel
set_option maxRecDepth 65536 in
theorem w_hears : about1.hears theMethod below0 = true := by decide +kernel
set_option maxRecDepth 65536 in
theorem w_ripe : about1.ripe theMethod args0 below0 = true := by decide +kernel
theorem w_running : about1.status = .running := rfl
set_option maxRecDepth 65536 in
theorem w_room : about1.hasRoom e0.platform room_1 = true :=
  launch0.hasRoom_least _ room_1 (by decide +kernel) (by decide +kernel) (by decide +kernel) (by decide +kernel) (by decide +kernel) (by decide +kernel)
theorem allAtoms_all (ts : List Jvm.Cond) (a : Array Jvm.Value) (st : Jvm.State) : (allAtoms ts).before a st = ts.all (fun c => c.before a st) := by
  induction ts with
  | nil => rfl
  | cons c t ih =>
    show (Jvm.Cond.and c (allAtoms t)).before a st = _
    rw [Jvm.Cond.before_and, ih, List.all_cons]
def words1 : List Jvm.Cond := Jvm.Cond.code x code maxLocals ret :: tables_1
/-- a 'code' word, met by the world's own term for the bytes: nothing is compared byte by byte -/
theorem code_word {y : MethodName} {bytes : ByteArray} {mx : Nat} {rt : Option FieldType} {a : Array Value} {s : State} {m : MethodId} {meth : Method} {c : Code} (h1 : s.methodNamed? y = some m) (h2 : s.vm.method? m = some meth) (h3 : meth.code = some c) (h4 : c.code = bytes)
    (h5 : (c.maxLocals == mx && c.exceptionTable.isEmpty && decide (c.maxStack ≤ mostOperands) && decide (meth.sig.returnType = rt) && !meth.locks && decide (parseMethodDescriptor y.desc = some meth.sig)) = true) : (Jvm.Cond.code y bytes mx rt).before a s = true := by
  simp only [Bool.and_eq_true, beq_iff_eq, Bool.not_eq_true', decide_eq_true_eq] at h5
  obtain ⟨⟨⟨⟨⟨g1, g2⟩, g3⟩, g4⟩, g5⟩, g6⟩ := h5
  simp [Cond.before, Cond.holds, Cond.value, h1, h2, h3, h4, g1, g2, g3, g4, g5, g6]
def isCode : Jvm.Cond → Bool
  | .code _ _ _ _ => true
  | _ => false
theorem all_split {L : List Jvm.Cond} {P : Jvm.Cond → Bool} (h1 : L.all (fun c => isCode c || P c) = true) (h2 : ∀ c ∈ L.filter isCode, P c = true) : L.all P = true := by
  refine List.all_eq_true.mpr fun c hc => ?_
  have h := List.all_eq_true.mp h1 c hc
  rcases Bool.eq_false_or_eq_true (isCode c) with hi | hi
  · exact h2 c (List.mem_filter.mpr ⟨hc, hi⟩)
  · simpa [hi] using h
set_option maxRecDepth 65536 in
theorem w_c0 : (Jvm.Cond.code x code maxLocals ret).before args0 about1 = true := code_word (m := ⟨1, 1⟩) (meth := k1m1) (c := k1c1) (by decide +kernel) rfl rfl rfl (by decide +kernel)
set_option maxRecDepth 65536 in
theorem w_c1 : (Jvm.Cond.code ({ cls := "com/example/admission_for_endpoints/admissionforendpoints/MessageReader", name := "<init>", desc := "(IZ)V" } : Jvm.MethodName) prog_8_method_1_code (3 : Nat) (Option.none : Option Jvm.ClassFile.FieldType)).before args0 about1 = true := code_word (m := ⟨2, 0⟩) (meth := k2m0) (c := k2c0) (by decide +kernel) rfl rfl rfl (by decide +kernel)
set_option maxRecDepth 65536 in
theorem w_c2 : (Jvm.Cond.code ({ cls := "java/lang/Object", name := "<init>", desc := "()V" } : Jvm.MethodName) object_method_1_code (1 : Nat) (Option.none : Option Jvm.ClassFile.FieldType)).before args0 about1 = true := code_word (m := ⟨0, 0⟩) (meth := k0m0) (c := k0c0) (by decide +kernel) rfl rfl rfl (by decide +kernel)
set_option maxRecDepth 65536 in
theorem w_c3 : (Jvm.Cond.code ({ cls := "com/example/admission_for_endpoints/admissionforendpoints/MessageReader", name := "drop", desc := "()V" } : Jvm.MethodName) prog_8_method_9_code (1 : Nat) (Option.none : Option Jvm.ClassFile.FieldType)).before args0 about1 = true := code_word (m := ⟨2, 3⟩) (meth := k2m3) (c := k2c3) (by decide +kernel) rfl rfl rfl (by decide +kernel)
set_option maxRecDepth 65536 in
theorem w_c4 : (Jvm.Cond.code ({ cls := "com/example/admission_for_endpoints/admissionforendpoints/MessageReader", name := "frame", desc := "(Lcom/example/admission_for_endpoints/admissionforendpoints/MessageReader$Framing;J)V" } : Jvm.MethodName) prog_8_method_7_code (4 : Nat) (Option.none : Option Jvm.ClassFile.FieldType)).before args0 about1 = true := code_word (m := ⟨2, 2⟩) (meth := k2m2) (c := k2c2) (by decide +kernel) rfl rfl rfl (by decide +kernel)
set_option maxRecDepth 65536 in
theorem w_c5 : (Jvm.Cond.code ({ cls := "java/lang/Enum", name := "ordinal", desc := "()I" } : Jvm.MethodName) jdk_37_method_2_code (1 : Nat) (Option.some Jvm.ClassFile.FieldType.int)).before args0 about1 = true := code_word (m := ⟨6, 0⟩) (meth := k6m0) (c := k6c0) (by decide +kernel) rfl rfl rfl (by decide +kernel)
set_option maxRecDepth 65536 in
theorem w_c6 : (Jvm.Cond.code ({ cls := "com/example/admission_for_endpoints/admissionforendpoints/MessageReader", name := "makeRoom", desc := "(J)V" } : Jvm.MethodName) prog_8_method_24_code (4 : Nat) (Option.none : Option Jvm.ClassFile.FieldType)).before args0 about1 = true := code_word (m := ⟨2, 7⟩) (meth := k2m7) (c := k2c7) (by decide +kernel) rfl rfl rfl (by decide +kernel)
set_option maxRecDepth 65536 in
theorem w_c7 : (Jvm.Cond.code ({ cls := "com/example/admission_for_endpoints/admissionforendpoints/MessageReader", name := "ended", desc := "()Z" } : Jvm.MethodName) prog_8_method_10_code (1 : Nat) (Option.some Jvm.ClassFile.FieldType.boolean)).before args0 about1 = true := code_word (m := ⟨2, 4⟩) (meth := k2m4) (c := k2c4) (by decide +kernel) rfl rfl rfl (by decide +kernel)
set_option maxRecDepth 65536 in
theorem w_c8 : (Jvm.Cond.code ({ cls := "com/example/admission_for_endpoints/admissionforendpoints/MessageReader", name := "end", desc := "()Z" } : Jvm.MethodName) prog_8_method_3_code (1 : Nat) (Option.some Jvm.ClassFile.FieldType.boolean)).before args0 about1 = true := code_word (m := ⟨2, 1⟩) (meth := k2m1) (c := k2c1) (by decide +kernel) rfl rfl rfl (by decide +kernel)
set_option maxRecDepth 65536 in
theorem w_c9 : (Jvm.Cond.code ({ cls := "com/example/admission_for_endpoints/admissionforendpoints/MessageReader", name := "truncated", desc := "()Z" } : Jvm.MethodName) prog_8_method_11_code (1 : Nat) (Option.some Jvm.ClassFile.FieldType.boolean)).before args0 about1 = true := code_word (m := ⟨2, 5⟩) (meth := k2m5) (c := k2c5) (by decide +kernel) rfl rfl rfl (by decide +kernel)
set_option maxRecDepth 65536 in
theorem w_c10 : (Jvm.Cond.code ({ cls := "com/example/admission_for_endpoints/admissionforendpoints/MessageReader", name := "bodyBytes", desc := "()I" } : Jvm.MethodName) prog_8_method_13_code (1 : Nat) (Option.some Jvm.ClassFile.FieldType.int)).before args0 about1 = true := code_word (m := ⟨2, 6⟩) (meth := k2m6) (c := k2c6) (by decide +kernel) rfl rfl rfl (by decide +kernel)
set_option maxRecDepth 65536 in
theorem w_c11 : (Jvm.Cond.code ({ cls := "java/lang/Math", name := "min", desc := "(JJ)J" } : Jvm.MethodName) jdk_29_method_70_code (4 : Nat) (Option.some Jvm.ClassFile.FieldType.long)).before args0 about1 = true := code_word (m := ⟨9, 2⟩) (meth := k9m2) (c := k9c2) (by decide +kernel) rfl rfl rfl (by decide +kernel)
set_option maxRecDepth 65536 in
theorem w_c12 : (Jvm.Cond.code ({ cls := "java/util/Arrays", name := "copyOf", desc := "([BI)[B" } : Jvm.MethodName) jdk_65_method_121_code (3 : Nat) (Option.some (Jvm.ClassFile.FieldType.array Jvm.ClassFile.FieldType.byte))).before args0 about1 = true := code_word (m := ⟨10, 1⟩) (meth := k10m1) (c := k10c1) (by decide +kernel) rfl rfl rfl (by decide +kernel)
set_option maxRecDepth 65536 in
theorem w_c13 : (Jvm.Cond.code ({ cls := "java/lang/Math", name := "min", desc := "(II)I" } : Jvm.MethodName) jdk_29_method_69_code (2 : Nat) (Option.some Jvm.ClassFile.FieldType.int)).before args0 about1 = true := code_word (m := ⟨9, 1⟩) (meth := k9m1) (c := k9c1) (by decide +kernel) rfl rfl rfl (by decide +kernel)
def codes1 : List Jvm.Cond := [Jvm.Cond.code x code maxLocals ret, Jvm.Cond.code ({ cls := "com/example/admission_for_endpoints/admissionforendpoints/MessageReader", name := "<init>", desc := "(IZ)V" } : Jvm.MethodName) prog_8_method_1_code (3 : Nat) (Option.none : Option Jvm.ClassFile.FieldType), Jvm.Cond.code ({ cls := "java/lang/Object", name := "<init>", desc := "()V" } : Jvm.MethodName) object_method_1_code (1 : Nat) (Option.none : Option Jvm.ClassFile.FieldType), Jvm.Cond.code ({ cls := "com/example/admission_for_endpoints/admissionforendpoints/MessageReader", name := "drop", desc := "()V" } : Jvm.MethodName) prog_8_method_9_code (1 : Nat) (Option.none : Option Jvm.ClassFile.FieldType), Jvm.Cond.code ({ cls := "com/example/admission_for_endpoints/admissionforendpoints/MessageReader", name := "frame", desc := "(Lcom/example/admission_for_endpoints/admissionforendpoints/MessageReader$Framing;J)V" } : Jvm.MethodName) prog_8_method_7_code (4 : Nat) (Option.none : Option Jvm.ClassFile.FieldType), Jvm.Cond.code ({ cls := "java/lang/Enum", name := "ordinal", desc := "()I" } : Jvm.MethodName) jdk_37_method_2_code (1 : Nat) (Option.some Jvm.ClassFile.FieldType.int), Jvm.Cond.code ({ cls := "com/example/admission_for_endpoints/admissionforendpoints/MessageReader", name := "makeRoom", desc := "(J)V" } : Jvm.MethodName) prog_8_method_24_code (4 : Nat) (Option.none : Option Jvm.ClassFile.FieldType), Jvm.Cond.code ({ cls := "com/example/admission_for_endpoints/admissionforendpoints/MessageReader", name := "ended", desc := "()Z" } : Jvm.MethodName) prog_8_method_10_code (1 : Nat) (Option.some Jvm.ClassFile.FieldType.boolean), Jvm.Cond.code ({ cls := "com/example/admission_for_endpoints/admissionforendpoints/MessageReader", name := "end", desc := "()Z" } : Jvm.MethodName) prog_8_method_3_code (1 : Nat) (Option.some Jvm.ClassFile.FieldType.boolean), Jvm.Cond.code ({ cls := "com/example/admission_for_endpoints/admissionforendpoints/MessageReader", name := "truncated", desc := "()Z" } : Jvm.MethodName) prog_8_method_11_code (1 : Nat) (Option.some Jvm.ClassFile.FieldType.boolean), Jvm.Cond.code ({ cls := "com/example/admission_for_endpoints/admissionforendpoints/MessageReader", name := "bodyBytes", desc := "()I" } : Jvm.MethodName) prog_8_method_13_code (1 : Nat) (Option.some Jvm.ClassFile.FieldType.int), Jvm.Cond.code ({ cls := "java/lang/Math", name := "min", desc := "(JJ)J" } : Jvm.MethodName) jdk_29_method_70_code (4 : Nat) (Option.some Jvm.ClassFile.FieldType.long), Jvm.Cond.code ({ cls := "java/util/Arrays", name := "copyOf", desc := "([BI)[B" } : Jvm.MethodName) jdk_65_method_121_code (3 : Nat) (Option.some (Jvm.ClassFile.FieldType.array Jvm.ClassFile.FieldType.byte)), Jvm.Cond.code ({ cls := "java/lang/Math", name := "min", desc := "(II)I" } : Jvm.MethodName) jdk_29_method_69_code (2 : Nat) (Option.some Jvm.ClassFile.FieldType.int)]
set_option maxRecDepth 65536 in
theorem codes_eq : words1.filter isCode = codes1 := rfl
theorem w_codes : ∀ c ∈ words1.filter isCode, c.before args0 about1 = true := by
  rw [codes_eq]
  intro c hc
  simp only [codes1, List.mem_cons, List.not_mem_nil, or_false] at hc
  rcases hc with rfl | rfl | rfl | rfl | rfl | rfl | rfl | rfl | rfl | rfl | rfl | rfl | rfl | rfl
  · exact w_c0
  · exact w_c1
  · exact w_c2
  · exact w_c3
  · exact w_c4
  · exact w_c5
  · exact w_c6
  · exact w_c7
  · exact w_c8
  · exact w_c9
  · exact w_c10
  · exact w_c11
  · exact w_c12
  · exact w_c13
set_option maxRecDepth 65536 in
theorem w_t1 : (words1.take 24).all (fun c => isCode c || c.before args0 about1) = true := by decide +kernel
set_option maxRecDepth 65536 in
theorem w_t2 : ((words1.drop 24).take 24).all (fun c => isCode c || c.before args0 about1) = true := by decide +kernel
set_option maxRecDepth 65536 in
theorem w_t3 : (((words1.drop 24).drop 24).take 24).all (fun c => isCode c || c.before args0 about1) = true := by decide +kernel
set_option maxRecDepth 65536 in
theorem w_t4 : ((((words1.drop 24).drop 24).drop 24).take 24).all (fun c => isCode c || c.before args0 about1) = true := by decide +kernel
set_option maxRecDepth 65536 in
theorem w_t5 : ((((words1.drop 24).drop 24).drop 24).drop 24).all (fun c => isCode c || c.before args0 about1) = true := by decide +kernel
theorem w_tables : (allAtoms (Jvm.Cond.code x code maxLocals ret :: tables_1)).before args0 about1 = true := by
  rw [allAtoms_all]
  show words1.all (fun c => c.before args0 about1) = true
  refine all_split ?_ w_codes
  rw [← List.take_append_drop 24 words1, List.all_append, w_t1, ← List.take_append_drop 24 (words1.drop 24), List.all_append, w_t2, ← List.take_append_drop 24 ((words1.drop 24).drop 24), List.all_append, w_t3, ← List.take_append_drop 24 (((words1.drop 24).drop 24).drop 24), List.all_append, w_t4, w_t5]
  rfl
set_option maxRecDepth 65536 in
theorem w_case : (Jvm.Cond.and given_1 narrow_1).before args0 about1 = true := by decide +kernel
theorem w_applies : (headSpec (Jvm.Cond.code x code maxLocals ret :: tables_1) room_1).applies x e0.platform about1 = true :=
  (Spec.applies_iff w_frames).mpr ⟨w_running, w_runnable, w_alone, w_named, w_hears, w_ripe, w_room, w_tables⟩
theorem atStart : AtStart classFile x code maxLocals ret World_1 tables_1 room_1 Calls_1 rest_1 Pre_1 launch0 p0 e0 about1 theMethod args0 below0 :=
  ⟨lists_1, trivial, launch0.admits_env _ _ _, launch0.least_env, fairChoices_fair.cas, fairChoices_fair.clock, w_frames, w_args, w_heap, w_applies, trivial, trivial, w_case⟩
end start1
theorem witness_1 : WitnessClaimed_1 := ⟨start1.p0, start1.e0, start1.about1, start1.theMethod, start1.args0, start1.below0, start1.atStart⟩
end Jvm.Pilot.@@N@@
