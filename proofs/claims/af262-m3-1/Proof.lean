import JvmDerived
import JvmDerived.Pilot.@@N@@Statement
import JvmDerived.Pilot.@@N@@Code
set_option linter.unusedVariables false
set_option linter.unusedSimpArgs false
namespace Jvm.RoadKit
open Sem ClassFile Op Lib Jvm.Stand Jvm.Free Jvm.LawKit
section New
variable {p : Program} {l : Launch} {e : Env} {R : Room} {s : State} {m : MethodId} {args : Array Value} {below : List Frame} {meth : Method} {c : Code} {T : State} {locs : List Loc} {cells slots : Nat}
theorem retI (X : Stand p l e R s m args below meth c T locs cells slots) (hx : p.tables.exec = Jvm.exec) {pc : Nat} {Ls : Array Slot} {z : Int32} {rest : List Value} (hret : meth.sig.returnType = some .int) (hd : decode c.code pc = .ok (.ireturn, 1)) {fs : List Frame}
    (hl : ∀ (f : JFrame) (acts : List Action), f.method = m → f.locked = none → f.entered = [] → (doReturn e (T.setTop f) acts (some (.int z))).1 = T.setFrames fs) : Steps p.tables e below (T.setTop (mkF m pc Ls (.int z :: rest))) (T.setFrames fs) := by
  have hm' : T.vm.method? m = some meth := X.method'
  have hn : narrow .int (.int z) = .int z := rfl
  show Steps p.tables e below (T.setTop { method := m, pc := pc, locals := Ls, stack := _ :: rest, locked := none }) _
  jvm_step X.here [X.here.top, hx, hd, hm', hret, hn]
  first | (intro acts; rw [hl _ acts rfl rfl rfl]) | rw [hl _ _ rfl rfl rfl]
  exact Steps.refl _
end New
end Jvm.RoadKit
namespace Jvm.Pilot.@@N@@
open Jvm Jvm.ClassFile Sem Op Lib Jvm.Free Jvm.Stand Jvm.LawKit Jvm.RoadKit Bundle Jvm.Pilot.@@N@@.Jvm.D
theorem d1_0 : decode prog_84_method_2_code 0 = .ok (.lload_n 0, 1) := by decide +kernel
theorem d1_1 : decode prog_84_method_2_code 1 = .ok (.lload_n 2, 1) := by decide +kernel
theorem d1_2 : decode prog_84_method_2_code 2 = .ok (.lconst 1, 1) := by decide +kernel
theorem d1_3 : decode prog_84_method_2_code 3 = .ok (.ladd, 1) := by decide +kernel
theorem d1_4 : decode prog_84_method_2_code 4 = .ok (.ldc2_w 9, 3) := by decide +kernel
theorem d1_7 : decode prog_84_method_2_code 7 = .ok (.lmul, 1) := by decide +kernel
theorem d1_8 : decode prog_84_method_2_code 8 = .ok (.ladd, 1) := by decide +kernel
theorem d1_9 : decode prog_84_method_2_code 9 = .ok (.lstore 4, 2) := by decide +kernel
theorem d1_11 : decode prog_84_method_2_code 11 = .ok (.lload 4, 2) := by decide +kernel
theorem d1_13 : decode prog_84_method_2_code 13 = .ok (.lload 4, 2) := by decide +kernel
theorem d1_15 : decode prog_84_method_2_code 15 = .ok (.bipush 30, 2) := by decide +kernel
theorem d1_17 : decode prog_84_method_2_code 17 = .ok (.lushr, 1) := by decide +kernel
theorem d1_18 : decode prog_84_method_2_code 18 = .ok (.lxor, 1) := by decide +kernel
theorem d1_19 : decode prog_84_method_2_code 19 = .ok (.ldc2_w 11, 3) := by decide +kernel
theorem d1_22 : decode prog_84_method_2_code 22 = .ok (.lmul, 1) := by decide +kernel
theorem d1_23 : decode prog_84_method_2_code 23 = .ok (.lstore 4, 2) := by decide +kernel
theorem d1_25 : decode prog_84_method_2_code 25 = .ok (.lload 4, 2) := by decide +kernel
theorem d1_27 : decode prog_84_method_2_code 27 = .ok (.lload 4, 2) := by decide +kernel
theorem d1_29 : decode prog_84_method_2_code 29 = .ok (.bipush 27, 2) := by decide +kernel
theorem d1_31 : decode prog_84_method_2_code 31 = .ok (.lushr, 1) := by decide +kernel
theorem d1_32 : decode prog_84_method_2_code 32 = .ok (.lxor, 1) := by decide +kernel
theorem d1_33 : decode prog_84_method_2_code 33 = .ok (.ldc2_w 13, 3) := by decide +kernel
theorem d1_36 : decode prog_84_method_2_code 36 = .ok (.lmul, 1) := by decide +kernel
theorem d1_37 : decode prog_84_method_2_code 37 = .ok (.lstore 4, 2) := by decide +kernel
theorem d1_39 : decode prog_84_method_2_code 39 = .ok (.lload 4, 2) := by decide +kernel
theorem d1_41 : decode prog_84_method_2_code 41 = .ok (.lload 4, 2) := by decide +kernel
theorem d1_43 : decode prog_84_method_2_code 43 = .ok (.bipush 31, 2) := by decide +kernel
theorem d1_45 : decode prog_84_method_2_code 45 = .ok (.lushr, 1) := by decide +kernel
theorem d1_46 : decode prog_84_method_2_code 46 = .ok (.lxor, 1) := by decide +kernel
theorem d1_47 : decode prog_84_method_2_code 47 = .ok (.lreturn, 1) := by decide +kernel
theorem pn_com_example_wandel_wandel_seed_Seeds : plainName "com/example/wandel/wandel/seed/Seeds" = true := by first | (simp [plainName, overriddenIn]; done) | decide +kernel
theorem ef_1 (q0 : Int64) (q1 : Int64)  (m : MethodId) : entryFrame m #[(.long q0), (.long q1)] 6 = mkF m 0 #[.val (.long q0), .second, .val (.long q1), .second, .unset, .unset] [] := by first | (simp [entryFrame, mkF, argsToLocals, Value.category]; done) | rfl
def A1_9 (q0 : Int64) (q1 : Int64) : Int64 := (q0 + ((q1 + (1 : Int64)) * (-7046029254386353131 : Int64)))
def A1_23 (q0 : Int64) (q1 : Int64) : Int64 := (((A1_9 q0 q1) ^^^ (((A1_9 q0 q1).toUInt64 >>> ((30 : Int32) &&& 0x3f).toInt64.toUInt64).toInt64)) * (-4658895280553007687 : Int64))
def A1_37 (q0 : Int64) (q1 : Int64) : Int64 := (((A1_23 q0 q1) ^^^ (((A1_23 q0 q1).toUInt64 >>> ((27 : Int32) &&& 0x3f).toInt64.toUInt64).toInt64)) * (-7723592293110705685 : Int64))
def F1 (q0 : Int64) (q1 : Int64) : Int64 := ((A1_37 q0 q1) ^^^ (((A1_37 q0 q1).toUInt64 >>> ((31 : Int32) &&& 0x3f).toInt64.toUInt64).toInt64))
def Q1 (Z : State) (q0 : Int64) (q1 : Int64)  (h0 : Heap) (n0 : Nat) (v : Option Value) (h : Heap) (L : List Loc) : Prop := v = some (.long (F1 q0 q1)) ∧ Fr n0 L ∧ h = h0
set_option maxRecDepth 65536 in
set_option maxHeartbeats 40000000 in
theorem rm1 (l : Launch) (Z : State) (a0 : Array Value) (hw : ∀ d ∈ tables_1, d.before a0 Z = true) (ws : List Jvm.Cond) (q0 : Int64) (q1 : Int64)  (h0 : Heap) (n0 : Nat) (Z0 : n0 ≤ h0.size) :
    MetFree l (⟨"com/example/wandel/wandel/seed/Seeds", "derived", "(JJ)J"⟩ : MethodName) (head1 (Jvm.Cond.code (⟨"com/example/wandel/wandel/seed/Seeds", "derived", "(JJ)J"⟩ : MethodName) prog_84_method_2_code 6 (some .long) :: ws) ({ frames := 0, cells := 0, slots := 0, locals := 0 } : Room)) (fun a U => a = #[(.long q0), (.long q1)] ∧ Z.Warmed39 U.vm ∧ U.heap = h0) (fun _ _ _ _ _ => True) (fun _ U o U' => ∃ v L, o = .returned v ∧ Q1 Z q0 q1 h0 n0 v U'.heap L ∧ FrameEnd U o U' L ({ frames := 0, cells := 0, slots := 0, locals := 0 } : Room).cells ({ frames := 0, cells := 0, slots := 0, locals := 0 } : Room).slots) := by
  refine MetFree.of_bodySF (plainFor_of_name pn_com_example_wandel_wandel_seed_Seeds) hisR ?_
  intro p e s m args below meth c s₁ Bd hml0 hP hK
  obtain ⟨rfl, hZ, hh⟩ := hP
  have hx := Bd.exec
  have hby := Bd.bytes
  have hml : c.maxLocals = 6 := hml0
  have hown : s.vm.findClass "com/example/wandel/wandel/seed/Seeds" = some m.cls := findClass_of_methodNamed Bd.named
  have hnm := (name_of_methodNamed Bd.named Bd.method).1
  have X0 : Stand p l e ({ frames := 0, cells := 0, slots := 0, locals := 0 } : Room) s m #[(.long q0), (.long q1)] below meth c s₁ [] 0 0 := Stand.of_body Bd
  have e0 : s₁.heap = h0 := by rw [← hh, Bd.state]; rfl
  have N0 := Fr.nil n0
  have pre0 : ∀ t, Steps p.tables e below (s₁.setTop (mkF m 0 #[.val (.long q0), .second, .val (.long q1), .second, .unset, .unset] [])) t → Steps p.tables e below (s₁.setTop (entryFrame m #[(.long q0), (.long q1)] 6)) t := fun t k => castTop (ef_1 q0 q1 m) k
  obtain ⟨fs, hr, hrun, hended, hW, hsame⟩ := X0.leave (v := some (.long ((A1_37 q0 q1) ^^^ (((A1_37 q0 q1).toUInt64 >>> ((31 : Int32) &&& 0x3f).toInt64.toUInt64).toInt64)))) (fun h => by rw [Bd.returns] at h; cases h)
  refine ⟨_, _, pre0 _ ?_, hrun, hended, _, _, rfl, ?_, ⟨_, rfl⟩, hW, hsame.mono (by decide) (by decide)⟩
  · show Steps p.tables e below (s₁.setTop (mkF m 0 #[.val (.long q0), .second, .val (.long q1), .second, .unset, .unset] [])) _
    refine XS.lloadN X0.here hx rfl (hb hby d1_0) rfl ?_
    show Steps p.tables e below (s₁.setTop (mkF m 1 #[.val (.long q0), .second, .val (.long q1), .second, .unset, .unset] [(.long q0)])) _
    refine XS.lloadN X0.here hx rfl (hb hby d1_1) rfl ?_
    show Steps p.tables e below (s₁.setTop (mkF m 2 #[.val (.long q0), .second, .val (.long q1), .second, .unset, .unset] [(.long q1), (.long q0)])) _
    refine XS.lconst X0.here hx rfl (hb hby d1_2) ?_
    show Steps p.tables e below (s₁.setTop (mkF m 3 #[.val (.long q0), .second, .val (.long q1), .second, .unset, .unset] [(.long (1 : Int64)), (.long q1), (.long q0)])) _
    refine XS.ladd X0.here hx rfl (hb hby d1_3) rfl ?_
    show Steps p.tables e below (s₁.setTop (mkF m 4 #[.val (.long q0), .second, .val (.long q1), .second, .unset, .unset] [(.long (q1 + (1 : Int64))), (.long q0)])) _
    refine X0.ldc2Long hx hown (mvT hZ (hw _ (List.mem_of_getElem? (i := 7) rfl))) (g := (mkF m 4 #[.val (.long q0), .second, .val (.long q1), .second, .unset, .unset] [(.long (q1 + (1 : Int64))), (.long q0)])) rfl (hb hby d1_4) _ ?_
    show Steps p.tables e below (s₁.setTop (mkF m 7 #[.val (.long q0), .second, .val (.long q1), .second, .unset, .unset] [(.long (-7046029254386353131 : Int64)), (.long (q1 + (1 : Int64))), (.long q0)])) _
    refine XS.lmul X0.here hx rfl (hb hby d1_7) rfl ?_
    show Steps p.tables e below (s₁.setTop (mkF m 8 #[.val (.long q0), .second, .val (.long q1), .second, .unset, .unset] [(.long ((q1 + (1 : Int64)) * (-7046029254386353131 : Int64))), (.long q0)])) _
    refine XS.ladd X0.here hx rfl (hb hby d1_8) rfl ?_
    show Steps p.tables e below (s₁.setTop (mkF m 9 #[.val (.long q0), .second, .val (.long q1), .second, .unset, .unset] [(.long (q0 + ((q1 + (1 : Int64)) * (-7046029254386353131 : Int64))))])) _
    refine XS.lstore X0.here hx rfl (hb hby d1_9) rfl (l' := #[.val (.long q0), .second, .val (.long q1), .second, .val (.long (q0 + ((q1 + (1 : Int64)) * (-7046029254386353131 : Int64)))), .second]) rfl ?_
    show Steps p.tables e below (s₁.setTop (mkF m 11 #[.val (.long q0), .second, .val (.long q1), .second, .val (.long (A1_9 q0 q1)), .second] [])) _
    refine XS.lload X0.here hx rfl (hb hby d1_11) rfl ?_
    show Steps p.tables e below (s₁.setTop (mkF m 13 #[.val (.long q0), .second, .val (.long q1), .second, .val (.long (A1_9 q0 q1)), .second] [(.long (A1_9 q0 q1))])) _
    refine XS.lload X0.here hx rfl (hb hby d1_13) rfl ?_
    show Steps p.tables e below (s₁.setTop (mkF m 15 #[.val (.long q0), .second, .val (.long q1), .second, .val (.long (A1_9 q0 q1)), .second] [(.long (A1_9 q0 q1)), (.long (A1_9 q0 q1))])) _
    refine XS.bipush X0.here hx rfl (hb hby d1_15) ?_
    show Steps p.tables e below (s₁.setTop (mkF m 17 #[.val (.long q0), .second, .val (.long q1), .second, .val (.long (A1_9 q0 q1)), .second] [(.int (30 : Int32)), (.long (A1_9 q0 q1)), (.long (A1_9 q0 q1))])) _
    refine XS.lushr X0.here hx rfl (hb hby d1_17) rfl ?_
    show Steps p.tables e below (s₁.setTop (mkF m 18 #[.val (.long q0), .second, .val (.long q1), .second, .val (.long (A1_9 q0 q1)), .second] [(.long (((A1_9 q0 q1).toUInt64 >>> ((30 : Int32) &&& 0x3f).toInt64.toUInt64).toInt64)), (.long (A1_9 q0 q1))])) _
    refine XS.lxor X0.here hx rfl (hb hby d1_18) rfl ?_
    show Steps p.tables e below (s₁.setTop (mkF m 19 #[.val (.long q0), .second, .val (.long q1), .second, .val (.long (A1_9 q0 q1)), .second] [(.long ((A1_9 q0 q1) ^^^ (((A1_9 q0 q1).toUInt64 >>> ((30 : Int32) &&& 0x3f).toInt64.toUInt64).toInt64)))])) _
    refine X0.ldc2Long hx hown (mvT hZ (hw _ (List.mem_of_getElem? (i := 8) rfl))) (g := (mkF m 19 #[.val (.long q0), .second, .val (.long q1), .second, .val (.long (A1_9 q0 q1)), .second] [(.long ((A1_9 q0 q1) ^^^ (((A1_9 q0 q1).toUInt64 >>> ((30 : Int32) &&& 0x3f).toInt64.toUInt64).toInt64)))])) rfl (hb hby d1_19) _ ?_
    show Steps p.tables e below (s₁.setTop (mkF m 22 #[.val (.long q0), .second, .val (.long q1), .second, .val (.long (A1_9 q0 q1)), .second] [(.long (-4658895280553007687 : Int64)), (.long ((A1_9 q0 q1) ^^^ (((A1_9 q0 q1).toUInt64 >>> ((30 : Int32) &&& 0x3f).toInt64.toUInt64).toInt64)))])) _
    refine XS.lmul X0.here hx rfl (hb hby d1_22) rfl ?_
    show Steps p.tables e below (s₁.setTop (mkF m 23 #[.val (.long q0), .second, .val (.long q1), .second, .val (.long (A1_9 q0 q1)), .second] [(.long (((A1_9 q0 q1) ^^^ (((A1_9 q0 q1).toUInt64 >>> ((30 : Int32) &&& 0x3f).toInt64.toUInt64).toInt64)) * (-4658895280553007687 : Int64)))])) _
    refine XS.lstore X0.here hx rfl (hb hby d1_23) rfl (l' := #[.val (.long q0), .second, .val (.long q1), .second, .val (.long (((A1_9 q0 q1) ^^^ (((A1_9 q0 q1).toUInt64 >>> ((30 : Int32) &&& 0x3f).toInt64.toUInt64).toInt64)) * (-4658895280553007687 : Int64))), .second]) rfl ?_
    show Steps p.tables e below (s₁.setTop (mkF m 25 #[.val (.long q0), .second, .val (.long q1), .second, .val (.long (A1_23 q0 q1)), .second] [])) _
    refine XS.lload X0.here hx rfl (hb hby d1_25) rfl ?_
    show Steps p.tables e below (s₁.setTop (mkF m 27 #[.val (.long q0), .second, .val (.long q1), .second, .val (.long (A1_23 q0 q1)), .second] [(.long (A1_23 q0 q1))])) _
    refine XS.lload X0.here hx rfl (hb hby d1_27) rfl ?_
    show Steps p.tables e below (s₁.setTop (mkF m 29 #[.val (.long q0), .second, .val (.long q1), .second, .val (.long (A1_23 q0 q1)), .second] [(.long (A1_23 q0 q1)), (.long (A1_23 q0 q1))])) _
    refine XS.bipush X0.here hx rfl (hb hby d1_29) ?_
    show Steps p.tables e below (s₁.setTop (mkF m 31 #[.val (.long q0), .second, .val (.long q1), .second, .val (.long (A1_23 q0 q1)), .second] [(.int (27 : Int32)), (.long (A1_23 q0 q1)), (.long (A1_23 q0 q1))])) _
    refine XS.lushr X0.here hx rfl (hb hby d1_31) rfl ?_
    show Steps p.tables e below (s₁.setTop (mkF m 32 #[.val (.long q0), .second, .val (.long q1), .second, .val (.long (A1_23 q0 q1)), .second] [(.long (((A1_23 q0 q1).toUInt64 >>> ((27 : Int32) &&& 0x3f).toInt64.toUInt64).toInt64)), (.long (A1_23 q0 q1))])) _
    refine XS.lxor X0.here hx rfl (hb hby d1_32) rfl ?_
    show Steps p.tables e below (s₁.setTop (mkF m 33 #[.val (.long q0), .second, .val (.long q1), .second, .val (.long (A1_23 q0 q1)), .second] [(.long ((A1_23 q0 q1) ^^^ (((A1_23 q0 q1).toUInt64 >>> ((27 : Int32) &&& 0x3f).toInt64.toUInt64).toInt64)))])) _
    refine X0.ldc2Long hx hown (mvT hZ (hw _ (List.mem_of_getElem? (i := 9) rfl))) (g := (mkF m 33 #[.val (.long q0), .second, .val (.long q1), .second, .val (.long (A1_23 q0 q1)), .second] [(.long ((A1_23 q0 q1) ^^^ (((A1_23 q0 q1).toUInt64 >>> ((27 : Int32) &&& 0x3f).toInt64.toUInt64).toInt64)))])) rfl (hb hby d1_33) _ ?_
    show Steps p.tables e below (s₁.setTop (mkF m 36 #[.val (.long q0), .second, .val (.long q1), .second, .val (.long (A1_23 q0 q1)), .second] [(.long (-7723592293110705685 : Int64)), (.long ((A1_23 q0 q1) ^^^ (((A1_23 q0 q1).toUInt64 >>> ((27 : Int32) &&& 0x3f).toInt64.toUInt64).toInt64)))])) _
    refine XS.lmul X0.here hx rfl (hb hby d1_36) rfl ?_
    show Steps p.tables e below (s₁.setTop (mkF m 37 #[.val (.long q0), .second, .val (.long q1), .second, .val (.long (A1_23 q0 q1)), .second] [(.long (((A1_23 q0 q1) ^^^ (((A1_23 q0 q1).toUInt64 >>> ((27 : Int32) &&& 0x3f).toInt64.toUInt64).toInt64)) * (-7723592293110705685 : Int64)))])) _
    refine XS.lstore X0.here hx rfl (hb hby d1_37) rfl (l' := #[.val (.long q0), .second, .val (.long q1), .second, .val (.long (((A1_23 q0 q1) ^^^ (((A1_23 q0 q1).toUInt64 >>> ((27 : Int32) &&& 0x3f).toInt64.toUInt64).toInt64)) * (-7723592293110705685 : Int64))), .second]) rfl ?_
    show Steps p.tables e below (s₁.setTop (mkF m 39 #[.val (.long q0), .second, .val (.long q1), .second, .val (.long (A1_37 q0 q1)), .second] [])) _
    refine XS.lload X0.here hx rfl (hb hby d1_39) rfl ?_
    show Steps p.tables e below (s₁.setTop (mkF m 41 #[.val (.long q0), .second, .val (.long q1), .second, .val (.long (A1_37 q0 q1)), .second] [(.long (A1_37 q0 q1))])) _
    refine XS.lload X0.here hx rfl (hb hby d1_41) rfl ?_
    show Steps p.tables e below (s₁.setTop (mkF m 43 #[.val (.long q0), .second, .val (.long q1), .second, .val (.long (A1_37 q0 q1)), .second] [(.long (A1_37 q0 q1)), (.long (A1_37 q0 q1))])) _
    refine XS.bipush X0.here hx rfl (hb hby d1_43) ?_
    show Steps p.tables e below (s₁.setTop (mkF m 45 #[.val (.long q0), .second, .val (.long q1), .second, .val (.long (A1_37 q0 q1)), .second] [(.int (31 : Int32)), (.long (A1_37 q0 q1)), (.long (A1_37 q0 q1))])) _
    refine XS.lushr X0.here hx rfl (hb hby d1_45) rfl ?_
    show Steps p.tables e below (s₁.setTop (mkF m 46 #[.val (.long q0), .second, .val (.long q1), .second, .val (.long (A1_37 q0 q1)), .second] [(.long (((A1_37 q0 q1).toUInt64 >>> ((31 : Int32) &&& 0x3f).toInt64.toUInt64).toInt64)), (.long (A1_37 q0 q1))])) _
    refine XS.lxor X0.here hx rfl (hb hby d1_46) rfl ?_
    show Steps p.tables e below (s₁.setTop (mkF m 47 #[.val (.long q0), .second, .val (.long q1), .second, .val (.long (A1_37 q0 q1)), .second] [(.long ((A1_37 q0 q1) ^^^ (((A1_37 q0 q1).toUInt64 >>> ((31 : Int32) &&& 0x3f).toInt64.toUInt64).toInt64)))])) _
    exact retOut X0 hx (t := .long) Bd.returns rfl (Or.inr (Or.inl ⟨rfl, rfl, _, rfl⟩)) (hb hby d1_47) hr
  · show Q1 Z q0 q1 h0 n0 _ s₁.heap _
    rw [e0]
    exact ⟨rfl, N0, rfl⟩
theorem d2_0 : decode method_2_code 0 = .ok (.lload_n 0, 1) := by decide +kernel
theorem d2_1 : decode method_2_code 1 = .ok (.lstore_n 2, 1) := by decide +kernel
theorem d2_2 : decode method_2_code 2 = .ok (.lload_n 2, 1) := by decide +kernel
theorem d2_3 : decode method_2_code 3 = .ok (.ldc2_w 7, 3) := by decide +kernel
theorem d2_6 : decode method_2_code 6 = .ok (.lload_n 0, 1) := by decide +kernel
theorem d2_7 : decode method_2_code 7 = .ok (.lload_n 2, 1) := by decide +kernel
theorem d2_8 : decode method_2_code 8 = .ok (.lmul, 1) := by decide +kernel
theorem d2_9 : decode method_2_code 9 = .ok (.lsub, 1) := by decide +kernel
theorem d2_10 : decode method_2_code 10 = .ok (.lmul, 1) := by decide +kernel
theorem d2_11 : decode method_2_code 11 = .ok (.lstore_n 2, 1) := by decide +kernel
theorem d2_12 : decode method_2_code 12 = .ok (.lload_n 2, 1) := by decide +kernel
theorem d2_13 : decode method_2_code 13 = .ok (.ldc2_w 7, 3) := by decide +kernel
theorem d2_16 : decode method_2_code 16 = .ok (.lload_n 0, 1) := by decide +kernel
theorem d2_17 : decode method_2_code 17 = .ok (.lload_n 2, 1) := by decide +kernel
theorem d2_18 : decode method_2_code 18 = .ok (.lmul, 1) := by decide +kernel
theorem d2_19 : decode method_2_code 19 = .ok (.lsub, 1) := by decide +kernel
theorem d2_20 : decode method_2_code 20 = .ok (.lmul, 1) := by decide +kernel
theorem d2_21 : decode method_2_code 21 = .ok (.lstore_n 2, 1) := by decide +kernel
theorem d2_22 : decode method_2_code 22 = .ok (.lload_n 2, 1) := by decide +kernel
theorem d2_23 : decode method_2_code 23 = .ok (.ldc2_w 7, 3) := by decide +kernel
theorem d2_26 : decode method_2_code 26 = .ok (.lload_n 0, 1) := by decide +kernel
theorem d2_27 : decode method_2_code 27 = .ok (.lload_n 2, 1) := by decide +kernel
theorem d2_28 : decode method_2_code 28 = .ok (.lmul, 1) := by decide +kernel
theorem d2_29 : decode method_2_code 29 = .ok (.lsub, 1) := by decide +kernel
theorem d2_30 : decode method_2_code 30 = .ok (.lmul, 1) := by decide +kernel
theorem d2_31 : decode method_2_code 31 = .ok (.lstore_n 2, 1) := by decide +kernel
theorem d2_32 : decode method_2_code 32 = .ok (.lload_n 2, 1) := by decide +kernel
theorem d2_33 : decode method_2_code 33 = .ok (.ldc2_w 7, 3) := by decide +kernel
theorem d2_36 : decode method_2_code 36 = .ok (.lload_n 0, 1) := by decide +kernel
theorem d2_37 : decode method_2_code 37 = .ok (.lload_n 2, 1) := by decide +kernel
theorem d2_38 : decode method_2_code 38 = .ok (.lmul, 1) := by decide +kernel
theorem d2_39 : decode method_2_code 39 = .ok (.lsub, 1) := by decide +kernel
theorem d2_40 : decode method_2_code 40 = .ok (.lmul, 1) := by decide +kernel
theorem d2_41 : decode method_2_code 41 = .ok (.lstore_n 2, 1) := by decide +kernel
theorem d2_42 : decode method_2_code 42 = .ok (.lload_n 2, 1) := by decide +kernel
theorem d2_43 : decode method_2_code 43 = .ok (.ldc2_w 7, 3) := by decide +kernel
theorem d2_46 : decode method_2_code 46 = .ok (.lload_n 0, 1) := by decide +kernel
theorem d2_47 : decode method_2_code 47 = .ok (.lload_n 2, 1) := by decide +kernel
theorem d2_48 : decode method_2_code 48 = .ok (.lmul, 1) := by decide +kernel
theorem d2_49 : decode method_2_code 49 = .ok (.lsub, 1) := by decide +kernel
theorem d2_50 : decode method_2_code 50 = .ok (.lmul, 1) := by decide +kernel
theorem d2_51 : decode method_2_code 51 = .ok (.lstore_n 2, 1) := by decide +kernel
theorem d2_52 : decode method_2_code 52 = .ok (.lload_n 2, 1) := by decide +kernel
theorem d2_53 : decode method_2_code 53 = .ok (.lreturn, 1) := by decide +kernel
theorem pn_com_example_wandel_wandel_seed_SeedsDerivedPinLaw : plainName "com/example/wandel/wandel/seed/SeedsDerivedPinLaw" = true := by first | (simp [plainName, overriddenIn]; done) | decide +kernel
theorem ef_2 (q0 : Int64)  (m : MethodId) : entryFrame m #[(.long q0)] 4 = mkF m 0 #[.val (.long q0), .second, .unset, .unset] [] := by first | (simp [entryFrame, mkF, argsToLocals, Value.category]; done) | rfl
def A2_11 (q0 : Int64) : Int64 := (q0 * ((2 : Int64) - (q0 * q0)))
def A2_21 (q0 : Int64) : Int64 := ((A2_11 q0) * ((2 : Int64) - (q0 * (A2_11 q0))))
def A2_31 (q0 : Int64) : Int64 := ((A2_21 q0) * ((2 : Int64) - (q0 * (A2_21 q0))))
def A2_41 (q0 : Int64) : Int64 := ((A2_31 q0) * ((2 : Int64) - (q0 * (A2_31 q0))))
def A2_51 (q0 : Int64) : Int64 := ((A2_41 q0) * ((2 : Int64) - (q0 * (A2_41 q0))))
def F2 (q0 : Int64) : Int64 := (A2_51 q0)
def Q2 (Z : State) (q0 : Int64)  (h0 : Heap) (n0 : Nat) (v : Option Value) (h : Heap) (L : List Loc) : Prop := v = some (.long (F2 q0)) ∧ Fr n0 L ∧ h = h0
set_option maxRecDepth 65536 in
set_option maxHeartbeats 40000000 in
theorem rm2 (l : Launch) (Z : State) (a0 : Array Value) (hw : ∀ d ∈ tables_1, d.before a0 Z = true) (ws : List Jvm.Cond) (q0 : Int64)  (h0 : Heap) (n0 : Nat) (Z0 : n0 ≤ h0.size) :
    MetFree l (⟨"com/example/wandel/wandel/seed/SeedsDerivedPinLaw", "inverseOdd", "(J)J"⟩ : MethodName) (head1 (Jvm.Cond.code (⟨"com/example/wandel/wandel/seed/SeedsDerivedPinLaw", "inverseOdd", "(J)J"⟩ : MethodName) method_2_code 4 (some .long) :: ws) ({ frames := 0, cells := 0, slots := 0, locals := 0 } : Room)) (fun a U => a = #[(.long q0)] ∧ Z.Warmed39 U.vm ∧ U.heap = h0) (fun _ _ _ _ _ => True) (fun _ U o U' => ∃ v L, o = .returned v ∧ Q2 Z q0 h0 n0 v U'.heap L ∧ FrameEnd U o U' L ({ frames := 0, cells := 0, slots := 0, locals := 0 } : Room).cells ({ frames := 0, cells := 0, slots := 0, locals := 0 } : Room).slots) := by
  refine MetFree.of_bodySF (plainFor_of_name pn_com_example_wandel_wandel_seed_SeedsDerivedPinLaw) hisR ?_
  intro p e s m args below meth c s₁ Bd hml0 hP hK
  obtain ⟨rfl, hZ, hh⟩ := hP
  have hx := Bd.exec
  have hby := Bd.bytes
  have hml : c.maxLocals = 4 := hml0
  have hown : s.vm.findClass "com/example/wandel/wandel/seed/SeedsDerivedPinLaw" = some m.cls := findClass_of_methodNamed Bd.named
  have hnm := (name_of_methodNamed Bd.named Bd.method).1
  have X0 : Stand p l e ({ frames := 0, cells := 0, slots := 0, locals := 0 } : Room) s m #[(.long q0)] below meth c s₁ [] 0 0 := Stand.of_body Bd
  have e0 : s₁.heap = h0 := by rw [← hh, Bd.state]; rfl
  have N0 := Fr.nil n0
  have pre0 : ∀ t, Steps p.tables e below (s₁.setTop (mkF m 0 #[.val (.long q0), .second, .unset, .unset] [])) t → Steps p.tables e below (s₁.setTop (entryFrame m #[(.long q0)] 4)) t := fun t k => castTop (ef_2 q0 m) k
  obtain ⟨fs, hr, hrun, hended, hW, hsame⟩ := X0.leave (v := some (.long (A2_51 q0))) (fun h => by rw [Bd.returns] at h; cases h)
  refine ⟨_, _, pre0 _ ?_, hrun, hended, _, _, rfl, ?_, ⟨_, rfl⟩, hW, hsame.mono (by decide) (by decide)⟩
  · show Steps p.tables e below (s₁.setTop (mkF m 0 #[.val (.long q0), .second, .unset, .unset] [])) _
    refine XS.lloadN X0.here hx rfl (hb hby d2_0) rfl ?_
    show Steps p.tables e below (s₁.setTop (mkF m 1 #[.val (.long q0), .second, .unset, .unset] [(.long q0)])) _
    refine XS.lstoreN X0.here hx rfl (hb hby d2_1) rfl (l' := #[.val (.long q0), .second, .val (.long q0), .second]) rfl ?_
    show Steps p.tables e below (s₁.setTop (mkF m 2 #[.val (.long q0), .second, .val (.long q0), .second] [])) _
    refine XS.lloadN X0.here hx rfl (hb hby d2_2) rfl ?_
    show Steps p.tables e below (s₁.setTop (mkF m 3 #[.val (.long q0), .second, .val (.long q0), .second] [(.long q0)])) _
    refine X0.ldc2Long hx hown (mvT hZ (hw _ (List.mem_of_getElem? (i := 14) rfl))) (g := (mkF m 3 #[.val (.long q0), .second, .val (.long q0), .second] [(.long q0)])) rfl (hb hby d2_3) _ ?_
    show Steps p.tables e below (s₁.setTop (mkF m 6 #[.val (.long q0), .second, .val (.long q0), .second] [(.long (2 : Int64)), (.long q0)])) _
    refine XS.lloadN X0.here hx rfl (hb hby d2_6) rfl ?_
    show Steps p.tables e below (s₁.setTop (mkF m 7 #[.val (.long q0), .second, .val (.long q0), .second] [(.long q0), (.long (2 : Int64)), (.long q0)])) _
    refine XS.lloadN X0.here hx rfl (hb hby d2_7) rfl ?_
    show Steps p.tables e below (s₁.setTop (mkF m 8 #[.val (.long q0), .second, .val (.long q0), .second] [(.long q0), (.long q0), (.long (2 : Int64)), (.long q0)])) _
    refine XS.lmul X0.here hx rfl (hb hby d2_8) rfl ?_
    show Steps p.tables e below (s₁.setTop (mkF m 9 #[.val (.long q0), .second, .val (.long q0), .second] [(.long (q0 * q0)), (.long (2 : Int64)), (.long q0)])) _
    refine XS.lsub X0.here hx rfl (hb hby d2_9) rfl ?_
    show Steps p.tables e below (s₁.setTop (mkF m 10 #[.val (.long q0), .second, .val (.long q0), .second] [(.long ((2 : Int64) - (q0 * q0))), (.long q0)])) _
    refine XS.lmul X0.here hx rfl (hb hby d2_10) rfl ?_
    show Steps p.tables e below (s₁.setTop (mkF m 11 #[.val (.long q0), .second, .val (.long q0), .second] [(.long (q0 * ((2 : Int64) - (q0 * q0))))])) _
    refine XS.lstoreN X0.here hx rfl (hb hby d2_11) rfl (l' := #[.val (.long q0), .second, .val (.long (q0 * ((2 : Int64) - (q0 * q0)))), .second]) rfl ?_
    show Steps p.tables e below (s₁.setTop (mkF m 12 #[.val (.long q0), .second, .val (.long (A2_11 q0)), .second] [])) _
    refine XS.lloadN X0.here hx rfl (hb hby d2_12) rfl ?_
    show Steps p.tables e below (s₁.setTop (mkF m 13 #[.val (.long q0), .second, .val (.long (A2_11 q0)), .second] [(.long (A2_11 q0))])) _
    refine X0.ldc2Long hx hown (mvT hZ (hw _ (List.mem_of_getElem? (i := 14) rfl))) (g := (mkF m 13 #[.val (.long q0), .second, .val (.long (A2_11 q0)), .second] [(.long (A2_11 q0))])) rfl (hb hby d2_13) _ ?_
    show Steps p.tables e below (s₁.setTop (mkF m 16 #[.val (.long q0), .second, .val (.long (A2_11 q0)), .second] [(.long (2 : Int64)), (.long (A2_11 q0))])) _
    refine XS.lloadN X0.here hx rfl (hb hby d2_16) rfl ?_
    show Steps p.tables e below (s₁.setTop (mkF m 17 #[.val (.long q0), .second, .val (.long (A2_11 q0)), .second] [(.long q0), (.long (2 : Int64)), (.long (A2_11 q0))])) _
    refine XS.lloadN X0.here hx rfl (hb hby d2_17) rfl ?_
    show Steps p.tables e below (s₁.setTop (mkF m 18 #[.val (.long q0), .second, .val (.long (A2_11 q0)), .second] [(.long (A2_11 q0)), (.long q0), (.long (2 : Int64)), (.long (A2_11 q0))])) _
    refine XS.lmul X0.here hx rfl (hb hby d2_18) rfl ?_
    show Steps p.tables e below (s₁.setTop (mkF m 19 #[.val (.long q0), .second, .val (.long (A2_11 q0)), .second] [(.long (q0 * (A2_11 q0))), (.long (2 : Int64)), (.long (A2_11 q0))])) _
    refine XS.lsub X0.here hx rfl (hb hby d2_19) rfl ?_
    show Steps p.tables e below (s₁.setTop (mkF m 20 #[.val (.long q0), .second, .val (.long (A2_11 q0)), .second] [(.long ((2 : Int64) - (q0 * (A2_11 q0)))), (.long (A2_11 q0))])) _
    refine XS.lmul X0.here hx rfl (hb hby d2_20) rfl ?_
    show Steps p.tables e below (s₁.setTop (mkF m 21 #[.val (.long q0), .second, .val (.long (A2_11 q0)), .second] [(.long ((A2_11 q0) * ((2 : Int64) - (q0 * (A2_11 q0)))))])) _
    refine XS.lstoreN X0.here hx rfl (hb hby d2_21) rfl (l' := #[.val (.long q0), .second, .val (.long ((A2_11 q0) * ((2 : Int64) - (q0 * (A2_11 q0))))), .second]) rfl ?_
    show Steps p.tables e below (s₁.setTop (mkF m 22 #[.val (.long q0), .second, .val (.long (A2_21 q0)), .second] [])) _
    refine XS.lloadN X0.here hx rfl (hb hby d2_22) rfl ?_
    show Steps p.tables e below (s₁.setTop (mkF m 23 #[.val (.long q0), .second, .val (.long (A2_21 q0)), .second] [(.long (A2_21 q0))])) _
    refine X0.ldc2Long hx hown (mvT hZ (hw _ (List.mem_of_getElem? (i := 14) rfl))) (g := (mkF m 23 #[.val (.long q0), .second, .val (.long (A2_21 q0)), .second] [(.long (A2_21 q0))])) rfl (hb hby d2_23) _ ?_
    show Steps p.tables e below (s₁.setTop (mkF m 26 #[.val (.long q0), .second, .val (.long (A2_21 q0)), .second] [(.long (2 : Int64)), (.long (A2_21 q0))])) _
    refine XS.lloadN X0.here hx rfl (hb hby d2_26) rfl ?_
    show Steps p.tables e below (s₁.setTop (mkF m 27 #[.val (.long q0), .second, .val (.long (A2_21 q0)), .second] [(.long q0), (.long (2 : Int64)), (.long (A2_21 q0))])) _
    refine XS.lloadN X0.here hx rfl (hb hby d2_27) rfl ?_
    show Steps p.tables e below (s₁.setTop (mkF m 28 #[.val (.long q0), .second, .val (.long (A2_21 q0)), .second] [(.long (A2_21 q0)), (.long q0), (.long (2 : Int64)), (.long (A2_21 q0))])) _
    refine XS.lmul X0.here hx rfl (hb hby d2_28) rfl ?_
    show Steps p.tables e below (s₁.setTop (mkF m 29 #[.val (.long q0), .second, .val (.long (A2_21 q0)), .second] [(.long (q0 * (A2_21 q0))), (.long (2 : Int64)), (.long (A2_21 q0))])) _
    refine XS.lsub X0.here hx rfl (hb hby d2_29) rfl ?_
    show Steps p.tables e below (s₁.setTop (mkF m 30 #[.val (.long q0), .second, .val (.long (A2_21 q0)), .second] [(.long ((2 : Int64) - (q0 * (A2_21 q0)))), (.long (A2_21 q0))])) _
    refine XS.lmul X0.here hx rfl (hb hby d2_30) rfl ?_
    show Steps p.tables e below (s₁.setTop (mkF m 31 #[.val (.long q0), .second, .val (.long (A2_21 q0)), .second] [(.long ((A2_21 q0) * ((2 : Int64) - (q0 * (A2_21 q0)))))])) _
    refine XS.lstoreN X0.here hx rfl (hb hby d2_31) rfl (l' := #[.val (.long q0), .second, .val (.long ((A2_21 q0) * ((2 : Int64) - (q0 * (A2_21 q0))))), .second]) rfl ?_
    show Steps p.tables e below (s₁.setTop (mkF m 32 #[.val (.long q0), .second, .val (.long (A2_31 q0)), .second] [])) _
    refine XS.lloadN X0.here hx rfl (hb hby d2_32) rfl ?_
    show Steps p.tables e below (s₁.setTop (mkF m 33 #[.val (.long q0), .second, .val (.long (A2_31 q0)), .second] [(.long (A2_31 q0))])) _
    refine X0.ldc2Long hx hown (mvT hZ (hw _ (List.mem_of_getElem? (i := 14) rfl))) (g := (mkF m 33 #[.val (.long q0), .second, .val (.long (A2_31 q0)), .second] [(.long (A2_31 q0))])) rfl (hb hby d2_33) _ ?_
    show Steps p.tables e below (s₁.setTop (mkF m 36 #[.val (.long q0), .second, .val (.long (A2_31 q0)), .second] [(.long (2 : Int64)), (.long (A2_31 q0))])) _
    refine XS.lloadN X0.here hx rfl (hb hby d2_36) rfl ?_
    show Steps p.tables e below (s₁.setTop (mkF m 37 #[.val (.long q0), .second, .val (.long (A2_31 q0)), .second] [(.long q0), (.long (2 : Int64)), (.long (A2_31 q0))])) _
    refine XS.lloadN X0.here hx rfl (hb hby d2_37) rfl ?_
    show Steps p.tables e below (s₁.setTop (mkF m 38 #[.val (.long q0), .second, .val (.long (A2_31 q0)), .second] [(.long (A2_31 q0)), (.long q0), (.long (2 : Int64)), (.long (A2_31 q0))])) _
    refine XS.lmul X0.here hx rfl (hb hby d2_38) rfl ?_
    show Steps p.tables e below (s₁.setTop (mkF m 39 #[.val (.long q0), .second, .val (.long (A2_31 q0)), .second] [(.long (q0 * (A2_31 q0))), (.long (2 : Int64)), (.long (A2_31 q0))])) _
    refine XS.lsub X0.here hx rfl (hb hby d2_39) rfl ?_
    show Steps p.tables e below (s₁.setTop (mkF m 40 #[.val (.long q0), .second, .val (.long (A2_31 q0)), .second] [(.long ((2 : Int64) - (q0 * (A2_31 q0)))), (.long (A2_31 q0))])) _
    refine XS.lmul X0.here hx rfl (hb hby d2_40) rfl ?_
    show Steps p.tables e below (s₁.setTop (mkF m 41 #[.val (.long q0), .second, .val (.long (A2_31 q0)), .second] [(.long ((A2_31 q0) * ((2 : Int64) - (q0 * (A2_31 q0)))))])) _
    refine XS.lstoreN X0.here hx rfl (hb hby d2_41) rfl (l' := #[.val (.long q0), .second, .val (.long ((A2_31 q0) * ((2 : Int64) - (q0 * (A2_31 q0))))), .second]) rfl ?_
    show Steps p.tables e below (s₁.setTop (mkF m 42 #[.val (.long q0), .second, .val (.long (A2_41 q0)), .second] [])) _
    refine XS.lloadN X0.here hx rfl (hb hby d2_42) rfl ?_
    show Steps p.tables e below (s₁.setTop (mkF m 43 #[.val (.long q0), .second, .val (.long (A2_41 q0)), .second] [(.long (A2_41 q0))])) _
    refine X0.ldc2Long hx hown (mvT hZ (hw _ (List.mem_of_getElem? (i := 14) rfl))) (g := (mkF m 43 #[.val (.long q0), .second, .val (.long (A2_41 q0)), .second] [(.long (A2_41 q0))])) rfl (hb hby d2_43) _ ?_
    show Steps p.tables e below (s₁.setTop (mkF m 46 #[.val (.long q0), .second, .val (.long (A2_41 q0)), .second] [(.long (2 : Int64)), (.long (A2_41 q0))])) _
    refine XS.lloadN X0.here hx rfl (hb hby d2_46) rfl ?_
    show Steps p.tables e below (s₁.setTop (mkF m 47 #[.val (.long q0), .second, .val (.long (A2_41 q0)), .second] [(.long q0), (.long (2 : Int64)), (.long (A2_41 q0))])) _
    refine XS.lloadN X0.here hx rfl (hb hby d2_47) rfl ?_
    show Steps p.tables e below (s₁.setTop (mkF m 48 #[.val (.long q0), .second, .val (.long (A2_41 q0)), .second] [(.long (A2_41 q0)), (.long q0), (.long (2 : Int64)), (.long (A2_41 q0))])) _
    refine XS.lmul X0.here hx rfl (hb hby d2_48) rfl ?_
    show Steps p.tables e below (s₁.setTop (mkF m 49 #[.val (.long q0), .second, .val (.long (A2_41 q0)), .second] [(.long (q0 * (A2_41 q0))), (.long (2 : Int64)), (.long (A2_41 q0))])) _
    refine XS.lsub X0.here hx rfl (hb hby d2_49) rfl ?_
    show Steps p.tables e below (s₁.setTop (mkF m 50 #[.val (.long q0), .second, .val (.long (A2_41 q0)), .second] [(.long ((2 : Int64) - (q0 * (A2_41 q0)))), (.long (A2_41 q0))])) _
    refine XS.lmul X0.here hx rfl (hb hby d2_50) rfl ?_
    show Steps p.tables e below (s₁.setTop (mkF m 51 #[.val (.long q0), .second, .val (.long (A2_41 q0)), .second] [(.long ((A2_41 q0) * ((2 : Int64) - (q0 * (A2_41 q0)))))])) _
    refine XS.lstoreN X0.here hx rfl (hb hby d2_51) rfl (l' := #[.val (.long q0), .second, .val (.long ((A2_41 q0) * ((2 : Int64) - (q0 * (A2_41 q0))))), .second]) rfl ?_
    show Steps p.tables e below (s₁.setTop (mkF m 52 #[.val (.long q0), .second, .val (.long (A2_51 q0)), .second] [])) _
    refine XS.lloadN X0.here hx rfl (hb hby d2_52) rfl ?_
    show Steps p.tables e below (s₁.setTop (mkF m 53 #[.val (.long q0), .second, .val (.long (A2_51 q0)), .second] [(.long (A2_51 q0))])) _
    exact retOut X0 hx (t := .long) Bd.returns rfl (Or.inr (Or.inl ⟨rfl, rfl, _, rfl⟩)) (hb hby d2_53) hr
  · show Q2 Z q0 h0 n0 _ s₁.heap _
    rw [e0]
    exact ⟨rfl, N0, rfl⟩
theorem pd__JJ_J : parseMethodDescriptor "(JJ)J" = some ⟨[.long, .long], some .long⟩ := by decide +kernel
theorem pd__J_J : parseMethodDescriptor "(J)J" = some ⟨[.long], some .long⟩ := by decide +kernel
theorem ef_0 (q0 : Int64) (q1 : Int64)  (m : MethodId) : entryFrame m #[(.long q0), (.long q1)] maxLocals = mkF m 0 #[.val (.long q0), .second, .val (.long q1), .second, .unset, .unset, .unset, .unset, .unset, .unset, .unset, .unset, .unset, .unset, .unset, .unset, .unset, .unset, .unset, .unset, .unset, .unset, .unset, .unset, .unset] [] := by first | (simp [entryFrame, mkF, argsToLocals, Value.category, maxLocals]; done) | rfl
def A0_20 (q0 : Int64) (q1 : Int64) : Int64 := (F1 q0 q1)
def A0_36 (q0 : Int64) (q1 : Int64) : Int64 := (((A0_20 q0 q1) ^^^ (((A0_20 q0 q1).toUInt64 >>> ((31 : Int32) &&& 0x3f).toInt64.toUInt64).toInt64)) ^^^ (((A0_20 q0 q1).toUInt64 >>> ((62 : Int32) &&& 0x3f).toInt64.toUInt64).toInt64))
def A0_46 (q0 : Int64) (q1 : Int64) : Int64 := ((A0_36 q0 q1) * (F2 (-7723592293110705685 : Int64)))
def A0_62 (q0 : Int64) (q1 : Int64) : Int64 := (((A0_46 q0 q1) ^^^ (((A0_46 q0 q1).toUInt64 >>> ((27 : Int32) &&& 0x3f).toInt64.toUInt64).toInt64)) ^^^ (((A0_46 q0 q1).toUInt64 >>> ((54 : Int32) &&& 0x3f).toInt64.toUInt64).toInt64))
def A0_72 (q0 : Int64) (q1 : Int64) : Int64 := ((A0_62 q0 q1) * (F2 (-4658895280553007687 : Int64)))
def A0_88 (q0 : Int64) (q1 : Int64) : Int64 := (((A0_72 q0 q1) ^^^ (((A0_72 q0 q1).toUInt64 >>> ((30 : Int32) &&& 0x3f).toInt64.toUInt64).toInt64)) ^^^ (((A0_72 q0 q1).toUInt64 >>> ((60 : Int32) &&& 0x3f).toInt64.toUInt64).toInt64))
def A0_98 (q0 : Int64) (q1 : Int64) : Int64 := (q0 + ((q1 + (1 : Int64)) * (-7046029254386353131 : Int64)))
def F0 (q0 : Int64) (q1 : Int64) : Int32 := (if (lcmpW (A0_88 q0 q1) (A0_98 q0 q1)) = (0 : Int32) then (1 : Int32) else (0 : Int32))
def Q0 (Z : State) (q0 : Int64) (q1 : Int64)  (h0 : Heap) (n0 : Nat) (v : Option Value) (h : Heap) (L : List Loc) : Prop := v = some (.int (F0 q0 q1)) ∧ Fr n0 L
set_option maxRecDepth 65536 in
set_option maxHeartbeats 40000000 in
theorem rm0 (l : Launch) (Z : State) (a0 : Array Value) (hw : ∀ d ∈ tables_1, d.before a0 Z = true) (ws : List Jvm.Cond) (q0 : Int64) (q1 : Int64)  (h0 : Heap) (n0 : Nat) (Z0 : n0 ≤ h0.size) :
    MetFree l x (head1 (Jvm.Cond.code x code maxLocals ret :: ws) room_1) (fun a U => a = #[(.long q0), (.long q1)] ∧ Z.Warmed39 U.vm ∧ U.heap = h0) (fun _ _ _ _ _ => True) (fun _ U o U' => ∃ v L, o = .returned v ∧ Q0 Z q0 q1 h0 n0 v U'.heap L ∧ FrameEnd U o U' L room_1.cells room_1.slots) := by
  refine MetFree.of_bodySF (plainFor_of_name pn_com_example_wandel_wandel_seed_SeedsDerivedPinLaw) hisR ?_
  intro p e s m args below meth c s₁ Bd hml0 hP hK
  obtain ⟨rfl, hZ, hh⟩ := hP
  have hx := Bd.exec
  have hby := Bd.bytes
  have hml : c.maxLocals = 25 := hml0
  have hown : s.vm.findClass "com/example/wandel/wandel/seed/SeedsDerivedPinLaw" = some m.cls := findClass_of_methodNamed Bd.named
  have hnm := (name_of_methodNamed Bd.named Bd.method).1
  have X0 : Stand p l e room_1 s m #[(.long q0), (.long q1)] below meth c s₁ [] 0 0 := Stand.of_body Bd
  have e0 : s₁.heap = h0 := by rw [← hh, Bd.state]; rfl
  have N0 := Fr.nil n0
  have pre0 : ∀ t, Steps p.tables e below (s₁.setTop (mkF m 0 #[.val (.long q0), .second, .val (.long q1), .second, .unset, .unset, .unset, .unset, .unset, .unset, .unset, .unset, .unset, .unset, .unset, .unset, .unset, .unset, .unset, .unset, .unset, .unset, .unset, .unset, .unset] [])) t → Steps p.tables e below (s₁.setTop (entryFrame m #[(.long q0), (.long q1)] maxLocals)) t := fun t k => castTop (ef_0 q0 q1 m) k
  obtain ⟨_, _, ⟨T1, L1, k1, n1⟩, -, X1, ⟨Lc1, hQ1, ll1, ly1, lz1⟩, st1⟩ := Jvm.LawKit.callS X0 hx (y := (⟨"com/example/wandel/wandel/seed/Seeds", "derived", "(JJ)J"⟩ : MethodName)) hown (mvT hZ (hw _ (List.mem_of_getElem? (i := 3) rfl))) (mvT hZ (hw _ (List.mem_of_getElem? (i := 4) rfl))) (mvT hZ (hw _ (List.mem_of_getElem? (i := 5) rfl))) (mvT hZ (hw _ (List.mem_of_getElem? (i := 6) rfl))) (by decide) (backOf (W := 0) (rm1 l Z a0 hw [] q0 q1 h0 n0 Z0 ) hZ (hw _ (List.mem_of_getElem? (i := 6) rfl)) (hw _ (List.mem_of_getElem? (i := 5) rfl)) (by decide) (by decide)) (g := (mkF m 17 #[.val (.long q0), .second, .val (.long q1), .second, .val (.long (-7046029254386353131 : Int64)), .second, .val (.long (-4658895280553007687 : Int64)), .second, .val (.long (-7723592293110705685 : Int64)), .second, .unset, .unset, .unset, .unset, .unset, .unset, .unset, .unset, .unset, .unset, .unset, .unset, .unset, .unset, .unset] [(.long q1), (.long q0)])) rfl (by rw [hml]; rfl) (argsL := [(.long q0), (.long q1)]) (rest := []) (lenOf pd__JJ_J rfl) rfl (by show 2 * 0 + _ ≤ _; exact Nat.le_of_eq rfl) (hb hby at_17) (fun _ _ => ⟨rfl, e0, (by decide : 0 + 0 ≤ _), (by decide : 0 + 0 ≤ _)⟩)
  dsimp only [Pt.U, Pt.locs, Pt.cells, Pt.slots] at X1 ll1 ly1 lz1 st1 hQ1
  subst ll1 ly1 lz1
  obtain ⟨rfl, N1q, e1⟩ := hQ1
  have N1 := Fr.app N0 N1q
  obtain ⟨_, _, ⟨T2, L2, k2, n2⟩, -, X2, ⟨Lc2, hQ2, ll2, ly2, lz2⟩, st2⟩ := Jvm.LawKit.callS X1 hx (y := (⟨"com/example/wandel/wandel/seed/SeedsDerivedPinLaw", "inverseOdd", "(J)J"⟩ : MethodName)) hown (mvT hZ (hw _ (List.mem_of_getElem? (i := 10) rfl))) (mvT hZ (hw _ (List.mem_of_getElem? (i := 11) rfl))) (mvT hZ (hw _ (List.mem_of_getElem? (i := 12) rfl))) (mvT hZ (hw _ (List.mem_of_getElem? (i := 13) rfl))) (by decide) (backOf (W := 2) (rm2 l Z a0 hw [] (-7723592293110705685 : Int64) h0 n0 Z0 ) hZ (hw _ (List.mem_of_getElem? (i := 13) rfl)) (hw _ (List.mem_of_getElem? (i := 12) rfl)) (by decide) (by decide)) (g := (mkF m 42 #[.val (.long q0), .second, .val (.long q1), .second, .val (.long (-7046029254386353131 : Int64)), .second, .val (.long (-4658895280553007687 : Int64)), .second, .val (.long (-7723592293110705685 : Int64)), .second, .val (.long (A0_20 q0 q1)), .second, .val (.long (A0_36 q0 q1)), .second, .unset, .unset, .unset, .unset, .unset, .unset, .unset, .unset, .unset, .unset, .unset] [(.long (-7723592293110705685 : Int64)), (.long (A0_36 q0 q1))])) rfl (by rw [hml]; rfl) (argsL := [(.long (-7723592293110705685 : Int64))]) (rest := [(.long (A0_36 q0 q1))]) (lenOf pd__J_J rfl) rfl (by show 2 * 0 + _ ≤ _; exact Nat.le_of_eq rfl) (hb hby at_42) (fun _ _ => ⟨rfl, e1, (by decide : 0 + 0 ≤ _), (by decide : 0 + 0 ≤ _)⟩)
  dsimp only [Pt.U, Pt.locs, Pt.cells, Pt.slots] at X2 ll2 ly2 lz2 st2 hQ2
  subst ll2 ly2 lz2
  obtain ⟨rfl, N2q, e2⟩ := hQ2
  have N2 := Fr.app N1 N2q
  obtain ⟨_, _, ⟨T3, L3, k3, n3⟩, -, X3, ⟨Lc3, hQ3, ll3, ly3, lz3⟩, st3⟩ := Jvm.LawKit.callS X2 hx (y := (⟨"com/example/wandel/wandel/seed/SeedsDerivedPinLaw", "inverseOdd", "(J)J"⟩ : MethodName)) hown (mvT hZ (hw _ (List.mem_of_getElem? (i := 10) rfl))) (mvT hZ (hw _ (List.mem_of_getElem? (i := 11) rfl))) (mvT hZ (hw _ (List.mem_of_getElem? (i := 12) rfl))) (mvT hZ (hw _ (List.mem_of_getElem? (i := 13) rfl))) (by decide) (backOf (W := 2) (rm2 l Z a0 hw [] (-4658895280553007687 : Int64) h0 n0 Z0 ) hZ (hw _ (List.mem_of_getElem? (i := 13) rfl)) (hw _ (List.mem_of_getElem? (i := 12) rfl)) (by decide) (by decide)) (g := (mkF m 68 #[.val (.long q0), .second, .val (.long q1), .second, .val (.long (-7046029254386353131 : Int64)), .second, .val (.long (-4658895280553007687 : Int64)), .second, .val (.long (-7723592293110705685 : Int64)), .second, .val (.long (A0_20 q0 q1)), .second, .val (.long (A0_36 q0 q1)), .second, .val (.long (A0_46 q0 q1)), .second, .val (.long (A0_62 q0 q1)), .second, .unset, .unset, .unset, .unset, .unset, .unset, .unset] [(.long (-4658895280553007687 : Int64)), (.long (A0_62 q0 q1))])) rfl (by rw [hml]; rfl) (argsL := [(.long (-4658895280553007687 : Int64))]) (rest := [(.long (A0_62 q0 q1))]) (lenOf pd__J_J rfl) rfl (by show 2 * 0 + _ ≤ _; exact Nat.le_of_eq rfl) (hb hby at_68) (fun _ _ => ⟨rfl, e2, (by decide : 0 + 0 ≤ _), (by decide : 0 + 0 ≤ _)⟩)
  dsimp only [Pt.U, Pt.locs, Pt.cells, Pt.slots] at X3 ll3 ly3 lz3 st3 hQ3
  subst ll3 ly3 lz3
  obtain ⟨rfl, N3q, e3⟩ := hQ3
  have N3 := Fr.app N2 N3q
  obtain ⟨_, _, ⟨T4, L4, k4, n4⟩, -, X4, ⟨Lc4, hQ4, ll4, ly4, lz4⟩, st4⟩ := Jvm.LawKit.callS X3 hx (y := (⟨"com/example/wandel/wandel/seed/SeedsDerivedPinLaw", "inverseOdd", "(J)J"⟩ : MethodName)) hown (mvT hZ (hw _ (List.mem_of_getElem? (i := 10) rfl))) (mvT hZ (hw _ (List.mem_of_getElem? (i := 11) rfl))) (mvT hZ (hw _ (List.mem_of_getElem? (i := 12) rfl))) (mvT hZ (hw _ (List.mem_of_getElem? (i := 13) rfl))) (by decide) (backOf (W := 2) (rm2 l Z a0 hw [] (-4658895280553007687 : Int64) h0 n0 Z0 ) hZ (hw _ (List.mem_of_getElem? (i := 13) rfl)) (hw _ (List.mem_of_getElem? (i := 12) rfl)) (by decide) (by decide)) (g := (mkF m 104 #[.val (.long q0), .second, .val (.long q1), .second, .val (.long (-7046029254386353131 : Int64)), .second, .val (.long (-4658895280553007687 : Int64)), .second, .val (.long (-7723592293110705685 : Int64)), .second, .val (.long (A0_20 q0 q1)), .second, .val (.long (A0_36 q0 q1)), .second, .val (.long (A0_46 q0 q1)), .second, .val (.long (A0_62 q0 q1)), .second, .val (.long (A0_72 q0 q1)), .second, .val (.long (A0_88 q0 q1)), .second, .val (.long (A0_98 q0 q1)), .second, .unset] [(.long (-4658895280553007687 : Int64)), (.long (-4658895280553007687 : Int64))])) rfl (by rw [hml]; rfl) (argsL := [(.long (-4658895280553007687 : Int64))]) (rest := [(.long (-4658895280553007687 : Int64))]) (lenOf pd__J_J rfl) rfl (by show 2 * 0 + _ ≤ _; exact Nat.le_of_eq rfl) (hb hby at_104) (fun _ _ => ⟨rfl, e3, (by decide : 0 + 0 ≤ _), (by decide : 0 + 0 ≤ _)⟩)
  dsimp only [Pt.U, Pt.locs, Pt.cells, Pt.slots] at X4 ll4 ly4 lz4 st4 hQ4
  subst ll4 ly4 lz4
  obtain ⟨rfl, N4q, e4⟩ := hQ4
  have N4 := Fr.app N3 N4q
  obtain ⟨_, _, ⟨T5, L5, k5, n5⟩, -, X5, ⟨Lc5, hQ5, ll5, ly5, lz5⟩, st5⟩ := Jvm.LawKit.callS X4 hx (y := (⟨"com/example/wandel/wandel/seed/SeedsDerivedPinLaw", "inverseOdd", "(J)J"⟩ : MethodName)) hown (mvT hZ (hw _ (List.mem_of_getElem? (i := 10) rfl))) (mvT hZ (hw _ (List.mem_of_getElem? (i := 11) rfl))) (mvT hZ (hw _ (List.mem_of_getElem? (i := 12) rfl))) (mvT hZ (hw _ (List.mem_of_getElem? (i := 13) rfl))) (by decide) (backOf (W := 2) (rm2 l Z a0 hw [] (-7723592293110705685 : Int64) h0 n0 Z0 ) hZ (hw _ (List.mem_of_getElem? (i := 13) rfl)) (hw _ (List.mem_of_getElem? (i := 12) rfl)) (by decide) (by decide)) (g := (mkF m 117 #[.val (.long q0), .second, .val (.long q1), .second, .val (.long (-7046029254386353131 : Int64)), .second, .val (.long (-4658895280553007687 : Int64)), .second, .val (.long (-7723592293110705685 : Int64)), .second, .val (.long (A0_20 q0 q1)), .second, .val (.long (A0_36 q0 q1)), .second, .val (.long (A0_46 q0 q1)), .second, .val (.long (A0_62 q0 q1)), .second, .val (.long (A0_72 q0 q1)), .second, .val (.long (A0_88 q0 q1)), .second, .val (.long (A0_98 q0 q1)), .second, .unset] [(.long (-7723592293110705685 : Int64)), (.long (-7723592293110705685 : Int64))])) rfl (by rw [hml]; rfl) (argsL := [(.long (-7723592293110705685 : Int64))]) (rest := [(.long (-7723592293110705685 : Int64))]) (lenOf pd__J_J rfl) rfl (by show 2 * 0 + _ ≤ _; exact Nat.le_of_eq rfl) (hb hby at_117) (fun _ _ => ⟨rfl, e4, (by decide : 0 + 0 ≤ _), (by decide : 0 + 0 ≤ _)⟩)
  dsimp only [Pt.U, Pt.locs, Pt.cells, Pt.slots] at X5 ll5 ly5 lz5 st5 hQ5
  subst ll5 ly5 lz5
  obtain ⟨rfl, N5q, e5⟩ := hQ5
  have N5 := Fr.app N4 N5q
  have pre6 : ∀ t, Steps p.tables e below (T5.setTop (mkF m 143 #[.val (.long q0), .second, .val (.long q1), .second, .val (.long (-7046029254386353131 : Int64)), .second, .val (.long (-4658895280553007687 : Int64)), .second, .val (.long (-7723592293110705685 : Int64)), .second, .val (.long (A0_20 q0 q1)), .second, .val (.long (A0_36 q0 q1)), .second, .val (.long (A0_46 q0 q1)), .second, .val (.long (A0_62 q0 q1)), .second, .val (.long (A0_72 q0 q1)), .second, .val (.long (A0_88 q0 q1)), .second, .val (.long (A0_98 q0 q1)), .second, .val (.int (1 : Int32))] [(.int (lcmpW (A0_88 q0 q1) (A0_98 q0 q1)))])) t → Steps p.tables e below (s₁.setTop (entryFrame m #[(.long q0), (.long q1)] maxLocals)) t := fun t kt => pre0 t (by
    show Steps p.tables e below (s₁.setTop (mkF m 0 #[.val (.long q0), .second, .val (.long q1), .second, .unset, .unset, .unset, .unset, .unset, .unset, .unset, .unset, .unset, .unset, .unset, .unset, .unset, .unset, .unset, .unset, .unset, .unset, .unset, .unset, .unset] [])) _
    refine X0.ldc2Long hx hown (mvT hZ (hw _ (List.mem_of_getElem? (i := 0) rfl))) (g := (mkF m 0 #[.val (.long q0), .second, .val (.long q1), .second, .unset, .unset, .unset, .unset, .unset, .unset, .unset, .unset, .unset, .unset, .unset, .unset, .unset, .unset, .unset, .unset, .unset, .unset, .unset, .unset, .unset] [])) rfl (hb hby at_0) _ ?_
    show Steps p.tables e below (s₁.setTop (mkF m 3 #[.val (.long q0), .second, .val (.long q1), .second, .unset, .unset, .unset, .unset, .unset, .unset, .unset, .unset, .unset, .unset, .unset, .unset, .unset, .unset, .unset, .unset, .unset, .unset, .unset, .unset, .unset] [(.long (-7046029254386353131 : Int64))])) _
    refine XS.lstore X0.here hx rfl (hb hby at_3) rfl (l' := #[.val (.long q0), .second, .val (.long q1), .second, .val (.long (-7046029254386353131 : Int64)), .second, .unset, .unset, .unset, .unset, .unset, .unset, .unset, .unset, .unset, .unset, .unset, .unset, .unset, .unset, .unset, .unset, .unset, .unset, .unset]) rfl ?_
    show Steps p.tables e below (s₁.setTop (mkF m 5 #[.val (.long q0), .second, .val (.long q1), .second, .val (.long (-7046029254386353131 : Int64)), .second, .unset, .unset, .unset, .unset, .unset, .unset, .unset, .unset, .unset, .unset, .unset, .unset, .unset, .unset, .unset, .unset, .unset, .unset, .unset] [])) _
    refine X0.ldc2Long hx hown (mvT hZ (hw _ (List.mem_of_getElem? (i := 1) rfl))) (g := (mkF m 5 #[.val (.long q0), .second, .val (.long q1), .second, .val (.long (-7046029254386353131 : Int64)), .second, .unset, .unset, .unset, .unset, .unset, .unset, .unset, .unset, .unset, .unset, .unset, .unset, .unset, .unset, .unset, .unset, .unset, .unset, .unset] [])) rfl (hb hby at_5) _ ?_
    show Steps p.tables e below (s₁.setTop (mkF m 8 #[.val (.long q0), .second, .val (.long q1), .second, .val (.long (-7046029254386353131 : Int64)), .second, .unset, .unset, .unset, .unset, .unset, .unset, .unset, .unset, .unset, .unset, .unset, .unset, .unset, .unset, .unset, .unset, .unset, .unset, .unset] [(.long (-4658895280553007687 : Int64))])) _
    refine XS.lstore X0.here hx rfl (hb hby at_8) rfl (l' := #[.val (.long q0), .second, .val (.long q1), .second, .val (.long (-7046029254386353131 : Int64)), .second, .val (.long (-4658895280553007687 : Int64)), .second, .unset, .unset, .unset, .unset, .unset, .unset, .unset, .unset, .unset, .unset, .unset, .unset, .unset, .unset, .unset, .unset, .unset]) rfl ?_
    show Steps p.tables e below (s₁.setTop (mkF m 10 #[.val (.long q0), .second, .val (.long q1), .second, .val (.long (-7046029254386353131 : Int64)), .second, .val (.long (-4658895280553007687 : Int64)), .second, .unset, .unset, .unset, .unset, .unset, .unset, .unset, .unset, .unset, .unset, .unset, .unset, .unset, .unset, .unset, .unset, .unset] [])) _
    refine X0.ldc2Long hx hown (mvT hZ (hw _ (List.mem_of_getElem? (i := 2) rfl))) (g := (mkF m 10 #[.val (.long q0), .second, .val (.long q1), .second, .val (.long (-7046029254386353131 : Int64)), .second, .val (.long (-4658895280553007687 : Int64)), .second, .unset, .unset, .unset, .unset, .unset, .unset, .unset, .unset, .unset, .unset, .unset, .unset, .unset, .unset, .unset, .unset, .unset] [])) rfl (hb hby at_10) _ ?_
    show Steps p.tables e below (s₁.setTop (mkF m 13 #[.val (.long q0), .second, .val (.long q1), .second, .val (.long (-7046029254386353131 : Int64)), .second, .val (.long (-4658895280553007687 : Int64)), .second, .unset, .unset, .unset, .unset, .unset, .unset, .unset, .unset, .unset, .unset, .unset, .unset, .unset, .unset, .unset, .unset, .unset] [(.long (-7723592293110705685 : Int64))])) _
    refine XS.lstore X0.here hx rfl (hb hby at_13) rfl (l' := #[.val (.long q0), .second, .val (.long q1), .second, .val (.long (-7046029254386353131 : Int64)), .second, .val (.long (-4658895280553007687 : Int64)), .second, .val (.long (-7723592293110705685 : Int64)), .second, .unset, .unset, .unset, .unset, .unset, .unset, .unset, .unset, .unset, .unset, .unset, .unset, .unset, .unset, .unset]) rfl ?_
    show Steps p.tables e below (s₁.setTop (mkF m 15 #[.val (.long q0), .second, .val (.long q1), .second, .val (.long (-7046029254386353131 : Int64)), .second, .val (.long (-4658895280553007687 : Int64)), .second, .val (.long (-7723592293110705685 : Int64)), .second, .unset, .unset, .unset, .unset, .unset, .unset, .unset, .unset, .unset, .unset, .unset, .unset, .unset, .unset, .unset] [])) _
    refine XS.lloadN X0.here hx rfl (hb hby at_15) rfl ?_
    show Steps p.tables e below (s₁.setTop (mkF m 16 #[.val (.long q0), .second, .val (.long q1), .second, .val (.long (-7046029254386353131 : Int64)), .second, .val (.long (-4658895280553007687 : Int64)), .second, .val (.long (-7723592293110705685 : Int64)), .second, .unset, .unset, .unset, .unset, .unset, .unset, .unset, .unset, .unset, .unset, .unset, .unset, .unset, .unset, .unset] [(.long q0)])) _
    refine XS.lloadN X0.here hx rfl (hb hby at_16) rfl ?_
    show Steps p.tables e below (s₁.setTop (mkF m 17 #[.val (.long q0), .second, .val (.long q1), .second, .val (.long (-7046029254386353131 : Int64)), .second, .val (.long (-4658895280553007687 : Int64)), .second, .val (.long (-7723592293110705685 : Int64)), .second, .unset, .unset, .unset, .unset, .unset, .unset, .unset, .unset, .unset, .unset, .unset, .unset, .unset, .unset, .unset] [(.long q1), (.long q0)])) _
    refine st1 _ ?_
    show Steps p.tables e below (T1.setTop (mkF m 20 #[.val (.long q0), .second, .val (.long q1), .second, .val (.long (-7046029254386353131 : Int64)), .second, .val (.long (-4658895280553007687 : Int64)), .second, .val (.long (-7723592293110705685 : Int64)), .second, .unset, .unset, .unset, .unset, .unset, .unset, .unset, .unset, .unset, .unset, .unset, .unset, .unset, .unset, .unset] [(.long (F1 q0 q1))])) _
    refine XS.lstore X1.here hx rfl (hb hby at_20) rfl (l' := #[.val (.long q0), .second, .val (.long q1), .second, .val (.long (-7046029254386353131 : Int64)), .second, .val (.long (-4658895280553007687 : Int64)), .second, .val (.long (-7723592293110705685 : Int64)), .second, .val (.long (F1 q0 q1)), .second, .unset, .unset, .unset, .unset, .unset, .unset, .unset, .unset, .unset, .unset, .unset, .unset, .unset]) rfl ?_
    show Steps p.tables e below (T1.setTop (mkF m 22 #[.val (.long q0), .second, .val (.long q1), .second, .val (.long (-7046029254386353131 : Int64)), .second, .val (.long (-4658895280553007687 : Int64)), .second, .val (.long (-7723592293110705685 : Int64)), .second, .val (.long (A0_20 q0 q1)), .second, .unset, .unset, .unset, .unset, .unset, .unset, .unset, .unset, .unset, .unset, .unset, .unset, .unset] [])) _
    refine XS.lload X1.here hx rfl (hb hby at_22) rfl ?_
    show Steps p.tables e below (T1.setTop (mkF m 24 #[.val (.long q0), .second, .val (.long q1), .second, .val (.long (-7046029254386353131 : Int64)), .second, .val (.long (-4658895280553007687 : Int64)), .second, .val (.long (-7723592293110705685 : Int64)), .second, .val (.long (A0_20 q0 q1)), .second, .unset, .unset, .unset, .unset, .unset, .unset, .unset, .unset, .unset, .unset, .unset, .unset, .unset] [(.long (A0_20 q0 q1))])) _
    refine XS.lload X1.here hx rfl (hb hby at_24) rfl ?_
    show Steps p.tables e below (T1.setTop (mkF m 26 #[.val (.long q0), .second, .val (.long q1), .second, .val (.long (-7046029254386353131 : Int64)), .second, .val (.long (-4658895280553007687 : Int64)), .second, .val (.long (-7723592293110705685 : Int64)), .second, .val (.long (A0_20 q0 q1)), .second, .unset, .unset, .unset, .unset, .unset, .unset, .unset, .unset, .unset, .unset, .unset, .unset, .unset] [(.long (A0_20 q0 q1)), (.long (A0_20 q0 q1))])) _
    refine XS.bipush X1.here hx rfl (hb hby at_26) ?_
    show Steps p.tables e below (T1.setTop (mkF m 28 #[.val (.long q0), .second, .val (.long q1), .second, .val (.long (-7046029254386353131 : Int64)), .second, .val (.long (-4658895280553007687 : Int64)), .second, .val (.long (-7723592293110705685 : Int64)), .second, .val (.long (A0_20 q0 q1)), .second, .unset, .unset, .unset, .unset, .unset, .unset, .unset, .unset, .unset, .unset, .unset, .unset, .unset] [(.int (31 : Int32)), (.long (A0_20 q0 q1)), (.long (A0_20 q0 q1))])) _
    refine XS.lushr X1.here hx rfl (hb hby at_28) rfl ?_
    show Steps p.tables e below (T1.setTop (mkF m 29 #[.val (.long q0), .second, .val (.long q1), .second, .val (.long (-7046029254386353131 : Int64)), .second, .val (.long (-4658895280553007687 : Int64)), .second, .val (.long (-7723592293110705685 : Int64)), .second, .val (.long (A0_20 q0 q1)), .second, .unset, .unset, .unset, .unset, .unset, .unset, .unset, .unset, .unset, .unset, .unset, .unset, .unset] [(.long (((A0_20 q0 q1).toUInt64 >>> ((31 : Int32) &&& 0x3f).toInt64.toUInt64).toInt64)), (.long (A0_20 q0 q1))])) _
    refine XS.lxor X1.here hx rfl (hb hby at_29) rfl ?_
    show Steps p.tables e below (T1.setTop (mkF m 30 #[.val (.long q0), .second, .val (.long q1), .second, .val (.long (-7046029254386353131 : Int64)), .second, .val (.long (-4658895280553007687 : Int64)), .second, .val (.long (-7723592293110705685 : Int64)), .second, .val (.long (A0_20 q0 q1)), .second, .unset, .unset, .unset, .unset, .unset, .unset, .unset, .unset, .unset, .unset, .unset, .unset, .unset] [(.long ((A0_20 q0 q1) ^^^ (((A0_20 q0 q1).toUInt64 >>> ((31 : Int32) &&& 0x3f).toInt64.toUInt64).toInt64)))])) _
    refine XS.lload X1.here hx rfl (hb hby at_30) rfl ?_
    show Steps p.tables e below (T1.setTop (mkF m 32 #[.val (.long q0), .second, .val (.long q1), .second, .val (.long (-7046029254386353131 : Int64)), .second, .val (.long (-4658895280553007687 : Int64)), .second, .val (.long (-7723592293110705685 : Int64)), .second, .val (.long (A0_20 q0 q1)), .second, .unset, .unset, .unset, .unset, .unset, .unset, .unset, .unset, .unset, .unset, .unset, .unset, .unset] [(.long (A0_20 q0 q1)), (.long ((A0_20 q0 q1) ^^^ (((A0_20 q0 q1).toUInt64 >>> ((31 : Int32) &&& 0x3f).toInt64.toUInt64).toInt64)))])) _
    refine XS.bipush X1.here hx rfl (hb hby at_32) ?_
    show Steps p.tables e below (T1.setTop (mkF m 34 #[.val (.long q0), .second, .val (.long q1), .second, .val (.long (-7046029254386353131 : Int64)), .second, .val (.long (-4658895280553007687 : Int64)), .second, .val (.long (-7723592293110705685 : Int64)), .second, .val (.long (A0_20 q0 q1)), .second, .unset, .unset, .unset, .unset, .unset, .unset, .unset, .unset, .unset, .unset, .unset, .unset, .unset] [(.int (62 : Int32)), (.long (A0_20 q0 q1)), (.long ((A0_20 q0 q1) ^^^ (((A0_20 q0 q1).toUInt64 >>> ((31 : Int32) &&& 0x3f).toInt64.toUInt64).toInt64)))])) _
    refine XS.lushr X1.here hx rfl (hb hby at_34) rfl ?_
    show Steps p.tables e below (T1.setTop (mkF m 35 #[.val (.long q0), .second, .val (.long q1), .second, .val (.long (-7046029254386353131 : Int64)), .second, .val (.long (-4658895280553007687 : Int64)), .second, .val (.long (-7723592293110705685 : Int64)), .second, .val (.long (A0_20 q0 q1)), .second, .unset, .unset, .unset, .unset, .unset, .unset, .unset, .unset, .unset, .unset, .unset, .unset, .unset] [(.long (((A0_20 q0 q1).toUInt64 >>> ((62 : Int32) &&& 0x3f).toInt64.toUInt64).toInt64)), (.long ((A0_20 q0 q1) ^^^ (((A0_20 q0 q1).toUInt64 >>> ((31 : Int32) &&& 0x3f).toInt64.toUInt64).toInt64)))])) _
    refine XS.lxor X1.here hx rfl (hb hby at_35) rfl ?_
    show Steps p.tables e below (T1.setTop (mkF m 36 #[.val (.long q0), .second, .val (.long q1), .second, .val (.long (-7046029254386353131 : Int64)), .second, .val (.long (-4658895280553007687 : Int64)), .second, .val (.long (-7723592293110705685 : Int64)), .second, .val (.long (A0_20 q0 q1)), .second, .unset, .unset, .unset, .unset, .unset, .unset, .unset, .unset, .unset, .unset, .unset, .unset, .unset] [(.long (((A0_20 q0 q1) ^^^ (((A0_20 q0 q1).toUInt64 >>> ((31 : Int32) &&& 0x3f).toInt64.toUInt64).toInt64)) ^^^ (((A0_20 q0 q1).toUInt64 >>> ((62 : Int32) &&& 0x3f).toInt64.toUInt64).toInt64)))])) _
    refine XS.lstore X1.here hx rfl (hb hby at_36) rfl (l' := #[.val (.long q0), .second, .val (.long q1), .second, .val (.long (-7046029254386353131 : Int64)), .second, .val (.long (-4658895280553007687 : Int64)), .second, .val (.long (-7723592293110705685 : Int64)), .second, .val (.long (A0_20 q0 q1)), .second, .val (.long (((A0_20 q0 q1) ^^^ (((A0_20 q0 q1).toUInt64 >>> ((31 : Int32) &&& 0x3f).toInt64.toUInt64).toInt64)) ^^^ (((A0_20 q0 q1).toUInt64 >>> ((62 : Int32) &&& 0x3f).toInt64.toUInt64).toInt64))), .second, .unset, .unset, .unset, .unset, .unset, .unset, .unset, .unset, .unset, .unset, .unset]) rfl ?_
    show Steps p.tables e below (T1.setTop (mkF m 38 #[.val (.long q0), .second, .val (.long q1), .second, .val (.long (-7046029254386353131 : Int64)), .second, .val (.long (-4658895280553007687 : Int64)), .second, .val (.long (-7723592293110705685 : Int64)), .second, .val (.long (A0_20 q0 q1)), .second, .val (.long (A0_36 q0 q1)), .second, .unset, .unset, .unset, .unset, .unset, .unset, .unset, .unset, .unset, .unset, .unset] [])) _
    refine XS.lload X1.here hx rfl (hb hby at_38) rfl ?_
    show Steps p.tables e below (T1.setTop (mkF m 40 #[.val (.long q0), .second, .val (.long q1), .second, .val (.long (-7046029254386353131 : Int64)), .second, .val (.long (-4658895280553007687 : Int64)), .second, .val (.long (-7723592293110705685 : Int64)), .second, .val (.long (A0_20 q0 q1)), .second, .val (.long (A0_36 q0 q1)), .second, .unset, .unset, .unset, .unset, .unset, .unset, .unset, .unset, .unset, .unset, .unset] [(.long (A0_36 q0 q1))])) _
    refine XS.lload X1.here hx rfl (hb hby at_40) rfl ?_
    show Steps p.tables e below (T1.setTop (mkF m 42 #[.val (.long q0), .second, .val (.long q1), .second, .val (.long (-7046029254386353131 : Int64)), .second, .val (.long (-4658895280553007687 : Int64)), .second, .val (.long (-7723592293110705685 : Int64)), .second, .val (.long (A0_20 q0 q1)), .second, .val (.long (A0_36 q0 q1)), .second, .unset, .unset, .unset, .unset, .unset, .unset, .unset, .unset, .unset, .unset, .unset] [(.long (-7723592293110705685 : Int64)), (.long (A0_36 q0 q1))])) _
    refine st2 _ ?_
    show Steps p.tables e below (T2.setTop (mkF m 45 #[.val (.long q0), .second, .val (.long q1), .second, .val (.long (-7046029254386353131 : Int64)), .second, .val (.long (-4658895280553007687 : Int64)), .second, .val (.long (-7723592293110705685 : Int64)), .second, .val (.long (A0_20 q0 q1)), .second, .val (.long (A0_36 q0 q1)), .second, .unset, .unset, .unset, .unset, .unset, .unset, .unset, .unset, .unset, .unset, .unset] [(.long (F2 (-7723592293110705685 : Int64))), (.long (A0_36 q0 q1))])) _
    refine XS.lmul X2.here hx rfl (hb hby at_45) rfl ?_
    show Steps p.tables e below (T2.setTop (mkF m 46 #[.val (.long q0), .second, .val (.long q1), .second, .val (.long (-7046029254386353131 : Int64)), .second, .val (.long (-4658895280553007687 : Int64)), .second, .val (.long (-7723592293110705685 : Int64)), .second, .val (.long (A0_20 q0 q1)), .second, .val (.long (A0_36 q0 q1)), .second, .unset, .unset, .unset, .unset, .unset, .unset, .unset, .unset, .unset, .unset, .unset] [(.long ((A0_36 q0 q1) * (F2 (-7723592293110705685 : Int64))))])) _
    refine XS.lstore X2.here hx rfl (hb hby at_46) rfl (l' := #[.val (.long q0), .second, .val (.long q1), .second, .val (.long (-7046029254386353131 : Int64)), .second, .val (.long (-4658895280553007687 : Int64)), .second, .val (.long (-7723592293110705685 : Int64)), .second, .val (.long (A0_20 q0 q1)), .second, .val (.long (A0_36 q0 q1)), .second, .val (.long ((A0_36 q0 q1) * (F2 (-7723592293110705685 : Int64)))), .second, .unset, .unset, .unset, .unset, .unset, .unset, .unset, .unset, .unset]) rfl ?_
    show Steps p.tables e below (T2.setTop (mkF m 48 #[.val (.long q0), .second, .val (.long q1), .second, .val (.long (-7046029254386353131 : Int64)), .second, .val (.long (-4658895280553007687 : Int64)), .second, .val (.long (-7723592293110705685 : Int64)), .second, .val (.long (A0_20 q0 q1)), .second, .val (.long (A0_36 q0 q1)), .second, .val (.long (A0_46 q0 q1)), .second, .unset, .unset, .unset, .unset, .unset, .unset, .unset, .unset, .unset] [])) _
    refine XS.lload X2.here hx rfl (hb hby at_48) rfl ?_
    show Steps p.tables e below (T2.setTop (mkF m 50 #[.val (.long q0), .second, .val (.long q1), .second, .val (.long (-7046029254386353131 : Int64)), .second, .val (.long (-4658895280553007687 : Int64)), .second, .val (.long (-7723592293110705685 : Int64)), .second, .val (.long (A0_20 q0 q1)), .second, .val (.long (A0_36 q0 q1)), .second, .val (.long (A0_46 q0 q1)), .second, .unset, .unset, .unset, .unset, .unset, .unset, .unset, .unset, .unset] [(.long (A0_46 q0 q1))])) _
    refine XS.lload X2.here hx rfl (hb hby at_50) rfl ?_
    show Steps p.tables e below (T2.setTop (mkF m 52 #[.val (.long q0), .second, .val (.long q1), .second, .val (.long (-7046029254386353131 : Int64)), .second, .val (.long (-4658895280553007687 : Int64)), .second, .val (.long (-7723592293110705685 : Int64)), .second, .val (.long (A0_20 q0 q1)), .second, .val (.long (A0_36 q0 q1)), .second, .val (.long (A0_46 q0 q1)), .second, .unset, .unset, .unset, .unset, .unset, .unset, .unset, .unset, .unset] [(.long (A0_46 q0 q1)), (.long (A0_46 q0 q1))])) _
    refine XS.bipush X2.here hx rfl (hb hby at_52) ?_
    show Steps p.tables e below (T2.setTop (mkF m 54 #[.val (.long q0), .second, .val (.long q1), .second, .val (.long (-7046029254386353131 : Int64)), .second, .val (.long (-4658895280553007687 : Int64)), .second, .val (.long (-7723592293110705685 : Int64)), .second, .val (.long (A0_20 q0 q1)), .second, .val (.long (A0_36 q0 q1)), .second, .val (.long (A0_46 q0 q1)), .second, .unset, .unset, .unset, .unset, .unset, .unset, .unset, .unset, .unset] [(.int (27 : Int32)), (.long (A0_46 q0 q1)), (.long (A0_46 q0 q1))])) _
    refine XS.lushr X2.here hx rfl (hb hby at_54) rfl ?_
    show Steps p.tables e below (T2.setTop (mkF m 55 #[.val (.long q0), .second, .val (.long q1), .second, .val (.long (-7046029254386353131 : Int64)), .second, .val (.long (-4658895280553007687 : Int64)), .second, .val (.long (-7723592293110705685 : Int64)), .second, .val (.long (A0_20 q0 q1)), .second, .val (.long (A0_36 q0 q1)), .second, .val (.long (A0_46 q0 q1)), .second, .unset, .unset, .unset, .unset, .unset, .unset, .unset, .unset, .unset] [(.long (((A0_46 q0 q1).toUInt64 >>> ((27 : Int32) &&& 0x3f).toInt64.toUInt64).toInt64)), (.long (A0_46 q0 q1))])) _
    refine XS.lxor X2.here hx rfl (hb hby at_55) rfl ?_
    show Steps p.tables e below (T2.setTop (mkF m 56 #[.val (.long q0), .second, .val (.long q1), .second, .val (.long (-7046029254386353131 : Int64)), .second, .val (.long (-4658895280553007687 : Int64)), .second, .val (.long (-7723592293110705685 : Int64)), .second, .val (.long (A0_20 q0 q1)), .second, .val (.long (A0_36 q0 q1)), .second, .val (.long (A0_46 q0 q1)), .second, .unset, .unset, .unset, .unset, .unset, .unset, .unset, .unset, .unset] [(.long ((A0_46 q0 q1) ^^^ (((A0_46 q0 q1).toUInt64 >>> ((27 : Int32) &&& 0x3f).toInt64.toUInt64).toInt64)))])) _
    refine XS.lload X2.here hx rfl (hb hby at_56) rfl ?_
    show Steps p.tables e below (T2.setTop (mkF m 58 #[.val (.long q0), .second, .val (.long q1), .second, .val (.long (-7046029254386353131 : Int64)), .second, .val (.long (-4658895280553007687 : Int64)), .second, .val (.long (-7723592293110705685 : Int64)), .second, .val (.long (A0_20 q0 q1)), .second, .val (.long (A0_36 q0 q1)), .second, .val (.long (A0_46 q0 q1)), .second, .unset, .unset, .unset, .unset, .unset, .unset, .unset, .unset, .unset] [(.long (A0_46 q0 q1)), (.long ((A0_46 q0 q1) ^^^ (((A0_46 q0 q1).toUInt64 >>> ((27 : Int32) &&& 0x3f).toInt64.toUInt64).toInt64)))])) _
    refine XS.bipush X2.here hx rfl (hb hby at_58) ?_
    show Steps p.tables e below (T2.setTop (mkF m 60 #[.val (.long q0), .second, .val (.long q1), .second, .val (.long (-7046029254386353131 : Int64)), .second, .val (.long (-4658895280553007687 : Int64)), .second, .val (.long (-7723592293110705685 : Int64)), .second, .val (.long (A0_20 q0 q1)), .second, .val (.long (A0_36 q0 q1)), .second, .val (.long (A0_46 q0 q1)), .second, .unset, .unset, .unset, .unset, .unset, .unset, .unset, .unset, .unset] [(.int (54 : Int32)), (.long (A0_46 q0 q1)), (.long ((A0_46 q0 q1) ^^^ (((A0_46 q0 q1).toUInt64 >>> ((27 : Int32) &&& 0x3f).toInt64.toUInt64).toInt64)))])) _
    refine XS.lushr X2.here hx rfl (hb hby at_60) rfl ?_
    show Steps p.tables e below (T2.setTop (mkF m 61 #[.val (.long q0), .second, .val (.long q1), .second, .val (.long (-7046029254386353131 : Int64)), .second, .val (.long (-4658895280553007687 : Int64)), .second, .val (.long (-7723592293110705685 : Int64)), .second, .val (.long (A0_20 q0 q1)), .second, .val (.long (A0_36 q0 q1)), .second, .val (.long (A0_46 q0 q1)), .second, .unset, .unset, .unset, .unset, .unset, .unset, .unset, .unset, .unset] [(.long (((A0_46 q0 q1).toUInt64 >>> ((54 : Int32) &&& 0x3f).toInt64.toUInt64).toInt64)), (.long ((A0_46 q0 q1) ^^^ (((A0_46 q0 q1).toUInt64 >>> ((27 : Int32) &&& 0x3f).toInt64.toUInt64).toInt64)))])) _
    refine XS.lxor X2.here hx rfl (hb hby at_61) rfl ?_
    show Steps p.tables e below (T2.setTop (mkF m 62 #[.val (.long q0), .second, .val (.long q1), .second, .val (.long (-7046029254386353131 : Int64)), .second, .val (.long (-4658895280553007687 : Int64)), .second, .val (.long (-7723592293110705685 : Int64)), .second, .val (.long (A0_20 q0 q1)), .second, .val (.long (A0_36 q0 q1)), .second, .val (.long (A0_46 q0 q1)), .second, .unset, .unset, .unset, .unset, .unset, .unset, .unset, .unset, .unset] [(.long (((A0_46 q0 q1) ^^^ (((A0_46 q0 q1).toUInt64 >>> ((27 : Int32) &&& 0x3f).toInt64.toUInt64).toInt64)) ^^^ (((A0_46 q0 q1).toUInt64 >>> ((54 : Int32) &&& 0x3f).toInt64.toUInt64).toInt64)))])) _
    refine XS.lstore X2.here hx rfl (hb hby at_62) rfl (l' := #[.val (.long q0), .second, .val (.long q1), .second, .val (.long (-7046029254386353131 : Int64)), .second, .val (.long (-4658895280553007687 : Int64)), .second, .val (.long (-7723592293110705685 : Int64)), .second, .val (.long (A0_20 q0 q1)), .second, .val (.long (A0_36 q0 q1)), .second, .val (.long (A0_46 q0 q1)), .second, .val (.long (((A0_46 q0 q1) ^^^ (((A0_46 q0 q1).toUInt64 >>> ((27 : Int32) &&& 0x3f).toInt64.toUInt64).toInt64)) ^^^ (((A0_46 q0 q1).toUInt64 >>> ((54 : Int32) &&& 0x3f).toInt64.toUInt64).toInt64))), .second, .unset, .unset, .unset, .unset, .unset, .unset, .unset]) rfl ?_
    show Steps p.tables e below (T2.setTop (mkF m 64 #[.val (.long q0), .second, .val (.long q1), .second, .val (.long (-7046029254386353131 : Int64)), .second, .val (.long (-4658895280553007687 : Int64)), .second, .val (.long (-7723592293110705685 : Int64)), .second, .val (.long (A0_20 q0 q1)), .second, .val (.long (A0_36 q0 q1)), .second, .val (.long (A0_46 q0 q1)), .second, .val (.long (A0_62 q0 q1)), .second, .unset, .unset, .unset, .unset, .unset, .unset, .unset] [])) _
    refine XS.lload X2.here hx rfl (hb hby at_64) rfl ?_
    show Steps p.tables e below (T2.setTop (mkF m 66 #[.val (.long q0), .second, .val (.long q1), .second, .val (.long (-7046029254386353131 : Int64)), .second, .val (.long (-4658895280553007687 : Int64)), .second, .val (.long (-7723592293110705685 : Int64)), .second, .val (.long (A0_20 q0 q1)), .second, .val (.long (A0_36 q0 q1)), .second, .val (.long (A0_46 q0 q1)), .second, .val (.long (A0_62 q0 q1)), .second, .unset, .unset, .unset, .unset, .unset, .unset, .unset] [(.long (A0_62 q0 q1))])) _
    refine XS.lload X2.here hx rfl (hb hby at_66) rfl ?_
    show Steps p.tables e below (T2.setTop (mkF m 68 #[.val (.long q0), .second, .val (.long q1), .second, .val (.long (-7046029254386353131 : Int64)), .second, .val (.long (-4658895280553007687 : Int64)), .second, .val (.long (-7723592293110705685 : Int64)), .second, .val (.long (A0_20 q0 q1)), .second, .val (.long (A0_36 q0 q1)), .second, .val (.long (A0_46 q0 q1)), .second, .val (.long (A0_62 q0 q1)), .second, .unset, .unset, .unset, .unset, .unset, .unset, .unset] [(.long (-4658895280553007687 : Int64)), (.long (A0_62 q0 q1))])) _
    refine st3 _ ?_
    show Steps p.tables e below (T3.setTop (mkF m 71 #[.val (.long q0), .second, .val (.long q1), .second, .val (.long (-7046029254386353131 : Int64)), .second, .val (.long (-4658895280553007687 : Int64)), .second, .val (.long (-7723592293110705685 : Int64)), .second, .val (.long (A0_20 q0 q1)), .second, .val (.long (A0_36 q0 q1)), .second, .val (.long (A0_46 q0 q1)), .second, .val (.long (A0_62 q0 q1)), .second, .unset, .unset, .unset, .unset, .unset, .unset, .unset] [(.long (F2 (-4658895280553007687 : Int64))), (.long (A0_62 q0 q1))])) _
    refine XS.lmul X3.here hx rfl (hb hby at_71) rfl ?_
    show Steps p.tables e below (T3.setTop (mkF m 72 #[.val (.long q0), .second, .val (.long q1), .second, .val (.long (-7046029254386353131 : Int64)), .second, .val (.long (-4658895280553007687 : Int64)), .second, .val (.long (-7723592293110705685 : Int64)), .second, .val (.long (A0_20 q0 q1)), .second, .val (.long (A0_36 q0 q1)), .second, .val (.long (A0_46 q0 q1)), .second, .val (.long (A0_62 q0 q1)), .second, .unset, .unset, .unset, .unset, .unset, .unset, .unset] [(.long ((A0_62 q0 q1) * (F2 (-4658895280553007687 : Int64))))])) _
    refine XS.lstore X3.here hx rfl (hb hby at_72) rfl (l' := #[.val (.long q0), .second, .val (.long q1), .second, .val (.long (-7046029254386353131 : Int64)), .second, .val (.long (-4658895280553007687 : Int64)), .second, .val (.long (-7723592293110705685 : Int64)), .second, .val (.long (A0_20 q0 q1)), .second, .val (.long (A0_36 q0 q1)), .second, .val (.long (A0_46 q0 q1)), .second, .val (.long (A0_62 q0 q1)), .second, .val (.long ((A0_62 q0 q1) * (F2 (-4658895280553007687 : Int64)))), .second, .unset, .unset, .unset, .unset, .unset]) rfl ?_
    show Steps p.tables e below (T3.setTop (mkF m 74 #[.val (.long q0), .second, .val (.long q1), .second, .val (.long (-7046029254386353131 : Int64)), .second, .val (.long (-4658895280553007687 : Int64)), .second, .val (.long (-7723592293110705685 : Int64)), .second, .val (.long (A0_20 q0 q1)), .second, .val (.long (A0_36 q0 q1)), .second, .val (.long (A0_46 q0 q1)), .second, .val (.long (A0_62 q0 q1)), .second, .val (.long (A0_72 q0 q1)), .second, .unset, .unset, .unset, .unset, .unset] [])) _
    refine XS.lload X3.here hx rfl (hb hby at_74) rfl ?_
    show Steps p.tables e below (T3.setTop (mkF m 76 #[.val (.long q0), .second, .val (.long q1), .second, .val (.long (-7046029254386353131 : Int64)), .second, .val (.long (-4658895280553007687 : Int64)), .second, .val (.long (-7723592293110705685 : Int64)), .second, .val (.long (A0_20 q0 q1)), .second, .val (.long (A0_36 q0 q1)), .second, .val (.long (A0_46 q0 q1)), .second, .val (.long (A0_62 q0 q1)), .second, .val (.long (A0_72 q0 q1)), .second, .unset, .unset, .unset, .unset, .unset] [(.long (A0_72 q0 q1))])) _
    refine XS.lload X3.here hx rfl (hb hby at_76) rfl ?_
    show Steps p.tables e below (T3.setTop (mkF m 78 #[.val (.long q0), .second, .val (.long q1), .second, .val (.long (-7046029254386353131 : Int64)), .second, .val (.long (-4658895280553007687 : Int64)), .second, .val (.long (-7723592293110705685 : Int64)), .second, .val (.long (A0_20 q0 q1)), .second, .val (.long (A0_36 q0 q1)), .second, .val (.long (A0_46 q0 q1)), .second, .val (.long (A0_62 q0 q1)), .second, .val (.long (A0_72 q0 q1)), .second, .unset, .unset, .unset, .unset, .unset] [(.long (A0_72 q0 q1)), (.long (A0_72 q0 q1))])) _
    refine XS.bipush X3.here hx rfl (hb hby at_78) ?_
    show Steps p.tables e below (T3.setTop (mkF m 80 #[.val (.long q0), .second, .val (.long q1), .second, .val (.long (-7046029254386353131 : Int64)), .second, .val (.long (-4658895280553007687 : Int64)), .second, .val (.long (-7723592293110705685 : Int64)), .second, .val (.long (A0_20 q0 q1)), .second, .val (.long (A0_36 q0 q1)), .second, .val (.long (A0_46 q0 q1)), .second, .val (.long (A0_62 q0 q1)), .second, .val (.long (A0_72 q0 q1)), .second, .unset, .unset, .unset, .unset, .unset] [(.int (30 : Int32)), (.long (A0_72 q0 q1)), (.long (A0_72 q0 q1))])) _
    refine XS.lushr X3.here hx rfl (hb hby at_80) rfl ?_
    show Steps p.tables e below (T3.setTop (mkF m 81 #[.val (.long q0), .second, .val (.long q1), .second, .val (.long (-7046029254386353131 : Int64)), .second, .val (.long (-4658895280553007687 : Int64)), .second, .val (.long (-7723592293110705685 : Int64)), .second, .val (.long (A0_20 q0 q1)), .second, .val (.long (A0_36 q0 q1)), .second, .val (.long (A0_46 q0 q1)), .second, .val (.long (A0_62 q0 q1)), .second, .val (.long (A0_72 q0 q1)), .second, .unset, .unset, .unset, .unset, .unset] [(.long (((A0_72 q0 q1).toUInt64 >>> ((30 : Int32) &&& 0x3f).toInt64.toUInt64).toInt64)), (.long (A0_72 q0 q1))])) _
    refine XS.lxor X3.here hx rfl (hb hby at_81) rfl ?_
    show Steps p.tables e below (T3.setTop (mkF m 82 #[.val (.long q0), .second, .val (.long q1), .second, .val (.long (-7046029254386353131 : Int64)), .second, .val (.long (-4658895280553007687 : Int64)), .second, .val (.long (-7723592293110705685 : Int64)), .second, .val (.long (A0_20 q0 q1)), .second, .val (.long (A0_36 q0 q1)), .second, .val (.long (A0_46 q0 q1)), .second, .val (.long (A0_62 q0 q1)), .second, .val (.long (A0_72 q0 q1)), .second, .unset, .unset, .unset, .unset, .unset] [(.long ((A0_72 q0 q1) ^^^ (((A0_72 q0 q1).toUInt64 >>> ((30 : Int32) &&& 0x3f).toInt64.toUInt64).toInt64)))])) _
    refine XS.lload X3.here hx rfl (hb hby at_82) rfl ?_
    show Steps p.tables e below (T3.setTop (mkF m 84 #[.val (.long q0), .second, .val (.long q1), .second, .val (.long (-7046029254386353131 : Int64)), .second, .val (.long (-4658895280553007687 : Int64)), .second, .val (.long (-7723592293110705685 : Int64)), .second, .val (.long (A0_20 q0 q1)), .second, .val (.long (A0_36 q0 q1)), .second, .val (.long (A0_46 q0 q1)), .second, .val (.long (A0_62 q0 q1)), .second, .val (.long (A0_72 q0 q1)), .second, .unset, .unset, .unset, .unset, .unset] [(.long (A0_72 q0 q1)), (.long ((A0_72 q0 q1) ^^^ (((A0_72 q0 q1).toUInt64 >>> ((30 : Int32) &&& 0x3f).toInt64.toUInt64).toInt64)))])) _
    refine XS.bipush X3.here hx rfl (hb hby at_84) ?_
    show Steps p.tables e below (T3.setTop (mkF m 86 #[.val (.long q0), .second, .val (.long q1), .second, .val (.long (-7046029254386353131 : Int64)), .second, .val (.long (-4658895280553007687 : Int64)), .second, .val (.long (-7723592293110705685 : Int64)), .second, .val (.long (A0_20 q0 q1)), .second, .val (.long (A0_36 q0 q1)), .second, .val (.long (A0_46 q0 q1)), .second, .val (.long (A0_62 q0 q1)), .second, .val (.long (A0_72 q0 q1)), .second, .unset, .unset, .unset, .unset, .unset] [(.int (60 : Int32)), (.long (A0_72 q0 q1)), (.long ((A0_72 q0 q1) ^^^ (((A0_72 q0 q1).toUInt64 >>> ((30 : Int32) &&& 0x3f).toInt64.toUInt64).toInt64)))])) _
    refine XS.lushr X3.here hx rfl (hb hby at_86) rfl ?_
    show Steps p.tables e below (T3.setTop (mkF m 87 #[.val (.long q0), .second, .val (.long q1), .second, .val (.long (-7046029254386353131 : Int64)), .second, .val (.long (-4658895280553007687 : Int64)), .second, .val (.long (-7723592293110705685 : Int64)), .second, .val (.long (A0_20 q0 q1)), .second, .val (.long (A0_36 q0 q1)), .second, .val (.long (A0_46 q0 q1)), .second, .val (.long (A0_62 q0 q1)), .second, .val (.long (A0_72 q0 q1)), .second, .unset, .unset, .unset, .unset, .unset] [(.long (((A0_72 q0 q1).toUInt64 >>> ((60 : Int32) &&& 0x3f).toInt64.toUInt64).toInt64)), (.long ((A0_72 q0 q1) ^^^ (((A0_72 q0 q1).toUInt64 >>> ((30 : Int32) &&& 0x3f).toInt64.toUInt64).toInt64)))])) _
    refine XS.lxor X3.here hx rfl (hb hby at_87) rfl ?_
    show Steps p.tables e below (T3.setTop (mkF m 88 #[.val (.long q0), .second, .val (.long q1), .second, .val (.long (-7046029254386353131 : Int64)), .second, .val (.long (-4658895280553007687 : Int64)), .second, .val (.long (-7723592293110705685 : Int64)), .second, .val (.long (A0_20 q0 q1)), .second, .val (.long (A0_36 q0 q1)), .second, .val (.long (A0_46 q0 q1)), .second, .val (.long (A0_62 q0 q1)), .second, .val (.long (A0_72 q0 q1)), .second, .unset, .unset, .unset, .unset, .unset] [(.long (((A0_72 q0 q1) ^^^ (((A0_72 q0 q1).toUInt64 >>> ((30 : Int32) &&& 0x3f).toInt64.toUInt64).toInt64)) ^^^ (((A0_72 q0 q1).toUInt64 >>> ((60 : Int32) &&& 0x3f).toInt64.toUInt64).toInt64)))])) _
    refine XS.lstore X3.here hx rfl (hb hby at_88) rfl (l' := #[.val (.long q0), .second, .val (.long q1), .second, .val (.long (-7046029254386353131 : Int64)), .second, .val (.long (-4658895280553007687 : Int64)), .second, .val (.long (-7723592293110705685 : Int64)), .second, .val (.long (A0_20 q0 q1)), .second, .val (.long (A0_36 q0 q1)), .second, .val (.long (A0_46 q0 q1)), .second, .val (.long (A0_62 q0 q1)), .second, .val (.long (A0_72 q0 q1)), .second, .val (.long (((A0_72 q0 q1) ^^^ (((A0_72 q0 q1).toUInt64 >>> ((30 : Int32) &&& 0x3f).toInt64.toUInt64).toInt64)) ^^^ (((A0_72 q0 q1).toUInt64 >>> ((60 : Int32) &&& 0x3f).toInt64.toUInt64).toInt64))), .second, .unset, .unset, .unset]) rfl ?_
    show Steps p.tables e below (T3.setTop (mkF m 90 #[.val (.long q0), .second, .val (.long q1), .second, .val (.long (-7046029254386353131 : Int64)), .second, .val (.long (-4658895280553007687 : Int64)), .second, .val (.long (-7723592293110705685 : Int64)), .second, .val (.long (A0_20 q0 q1)), .second, .val (.long (A0_36 q0 q1)), .second, .val (.long (A0_46 q0 q1)), .second, .val (.long (A0_62 q0 q1)), .second, .val (.long (A0_72 q0 q1)), .second, .val (.long (A0_88 q0 q1)), .second, .unset, .unset, .unset] [])) _
    refine XS.lloadN X3.here hx rfl (hb hby at_90) rfl ?_
    show Steps p.tables e below (T3.setTop (mkF m 91 #[.val (.long q0), .second, .val (.long q1), .second, .val (.long (-7046029254386353131 : Int64)), .second, .val (.long (-4658895280553007687 : Int64)), .second, .val (.long (-7723592293110705685 : Int64)), .second, .val (.long (A0_20 q0 q1)), .second, .val (.long (A0_36 q0 q1)), .second, .val (.long (A0_46 q0 q1)), .second, .val (.long (A0_62 q0 q1)), .second, .val (.long (A0_72 q0 q1)), .second, .val (.long (A0_88 q0 q1)), .second, .unset, .unset, .unset] [(.long q0)])) _
    refine XS.lloadN X3.here hx rfl (hb hby at_91) rfl ?_
    show Steps p.tables e below (T3.setTop (mkF m 92 #[.val (.long q0), .second, .val (.long q1), .second, .val (.long (-7046029254386353131 : Int64)), .second, .val (.long (-4658895280553007687 : Int64)), .second, .val (.long (-7723592293110705685 : Int64)), .second, .val (.long (A0_20 q0 q1)), .second, .val (.long (A0_36 q0 q1)), .second, .val (.long (A0_46 q0 q1)), .second, .val (.long (A0_62 q0 q1)), .second, .val (.long (A0_72 q0 q1)), .second, .val (.long (A0_88 q0 q1)), .second, .unset, .unset, .unset] [(.long q1), (.long q0)])) _
    refine XS.lconst X3.here hx rfl (hb hby at_92) ?_
    show Steps p.tables e below (T3.setTop (mkF m 93 #[.val (.long q0), .second, .val (.long q1), .second, .val (.long (-7046029254386353131 : Int64)), .second, .val (.long (-4658895280553007687 : Int64)), .second, .val (.long (-7723592293110705685 : Int64)), .second, .val (.long (A0_20 q0 q1)), .second, .val (.long (A0_36 q0 q1)), .second, .val (.long (A0_46 q0 q1)), .second, .val (.long (A0_62 q0 q1)), .second, .val (.long (A0_72 q0 q1)), .second, .val (.long (A0_88 q0 q1)), .second, .unset, .unset, .unset] [(.long (1 : Int64)), (.long q1), (.long q0)])) _
    refine XS.ladd X3.here hx rfl (hb hby at_93) rfl ?_
    show Steps p.tables e below (T3.setTop (mkF m 94 #[.val (.long q0), .second, .val (.long q1), .second, .val (.long (-7046029254386353131 : Int64)), .second, .val (.long (-4658895280553007687 : Int64)), .second, .val (.long (-7723592293110705685 : Int64)), .second, .val (.long (A0_20 q0 q1)), .second, .val (.long (A0_36 q0 q1)), .second, .val (.long (A0_46 q0 q1)), .second, .val (.long (A0_62 q0 q1)), .second, .val (.long (A0_72 q0 q1)), .second, .val (.long (A0_88 q0 q1)), .second, .unset, .unset, .unset] [(.long (q1 + (1 : Int64))), (.long q0)])) _
    refine XS.lload X3.here hx rfl (hb hby at_94) rfl ?_
    show Steps p.tables e below (T3.setTop (mkF m 96 #[.val (.long q0), .second, .val (.long q1), .second, .val (.long (-7046029254386353131 : Int64)), .second, .val (.long (-4658895280553007687 : Int64)), .second, .val (.long (-7723592293110705685 : Int64)), .second, .val (.long (A0_20 q0 q1)), .second, .val (.long (A0_36 q0 q1)), .second, .val (.long (A0_46 q0 q1)), .second, .val (.long (A0_62 q0 q1)), .second, .val (.long (A0_72 q0 q1)), .second, .val (.long (A0_88 q0 q1)), .second, .unset, .unset, .unset] [(.long (-7046029254386353131 : Int64)), (.long (q1 + (1 : Int64))), (.long q0)])) _
    refine XS.lmul X3.here hx rfl (hb hby at_96) rfl ?_
    show Steps p.tables e below (T3.setTop (mkF m 97 #[.val (.long q0), .second, .val (.long q1), .second, .val (.long (-7046029254386353131 : Int64)), .second, .val (.long (-4658895280553007687 : Int64)), .second, .val (.long (-7723592293110705685 : Int64)), .second, .val (.long (A0_20 q0 q1)), .second, .val (.long (A0_36 q0 q1)), .second, .val (.long (A0_46 q0 q1)), .second, .val (.long (A0_62 q0 q1)), .second, .val (.long (A0_72 q0 q1)), .second, .val (.long (A0_88 q0 q1)), .second, .unset, .unset, .unset] [(.long ((q1 + (1 : Int64)) * (-7046029254386353131 : Int64))), (.long q0)])) _
    refine XS.ladd X3.here hx rfl (hb hby at_97) rfl ?_
    show Steps p.tables e below (T3.setTop (mkF m 98 #[.val (.long q0), .second, .val (.long q1), .second, .val (.long (-7046029254386353131 : Int64)), .second, .val (.long (-4658895280553007687 : Int64)), .second, .val (.long (-7723592293110705685 : Int64)), .second, .val (.long (A0_20 q0 q1)), .second, .val (.long (A0_36 q0 q1)), .second, .val (.long (A0_46 q0 q1)), .second, .val (.long (A0_62 q0 q1)), .second, .val (.long (A0_72 q0 q1)), .second, .val (.long (A0_88 q0 q1)), .second, .unset, .unset, .unset] [(.long (q0 + ((q1 + (1 : Int64)) * (-7046029254386353131 : Int64))))])) _
    refine XS.lstore X3.here hx rfl (hb hby at_98) rfl (l' := #[.val (.long q0), .second, .val (.long q1), .second, .val (.long (-7046029254386353131 : Int64)), .second, .val (.long (-4658895280553007687 : Int64)), .second, .val (.long (-7723592293110705685 : Int64)), .second, .val (.long (A0_20 q0 q1)), .second, .val (.long (A0_36 q0 q1)), .second, .val (.long (A0_46 q0 q1)), .second, .val (.long (A0_62 q0 q1)), .second, .val (.long (A0_72 q0 q1)), .second, .val (.long (A0_88 q0 q1)), .second, .val (.long (q0 + ((q1 + (1 : Int64)) * (-7046029254386353131 : Int64)))), .second, .unset]) rfl ?_
    show Steps p.tables e below (T3.setTop (mkF m 100 #[.val (.long q0), .second, .val (.long q1), .second, .val (.long (-7046029254386353131 : Int64)), .second, .val (.long (-4658895280553007687 : Int64)), .second, .val (.long (-7723592293110705685 : Int64)), .second, .val (.long (A0_20 q0 q1)), .second, .val (.long (A0_36 q0 q1)), .second, .val (.long (A0_46 q0 q1)), .second, .val (.long (A0_62 q0 q1)), .second, .val (.long (A0_72 q0 q1)), .second, .val (.long (A0_88 q0 q1)), .second, .val (.long (A0_98 q0 q1)), .second, .unset] [])) _
    refine XS.lload X3.here hx rfl (hb hby at_100) rfl ?_
    show Steps p.tables e below (T3.setTop (mkF m 102 #[.val (.long q0), .second, .val (.long q1), .second, .val (.long (-7046029254386353131 : Int64)), .second, .val (.long (-4658895280553007687 : Int64)), .second, .val (.long (-7723592293110705685 : Int64)), .second, .val (.long (A0_20 q0 q1)), .second, .val (.long (A0_36 q0 q1)), .second, .val (.long (A0_46 q0 q1)), .second, .val (.long (A0_62 q0 q1)), .second, .val (.long (A0_72 q0 q1)), .second, .val (.long (A0_88 q0 q1)), .second, .val (.long (A0_98 q0 q1)), .second, .unset] [(.long (-4658895280553007687 : Int64))])) _
    refine XS.lload X3.here hx rfl (hb hby at_102) rfl ?_
    show Steps p.tables e below (T3.setTop (mkF m 104 #[.val (.long q0), .second, .val (.long q1), .second, .val (.long (-7046029254386353131 : Int64)), .second, .val (.long (-4658895280553007687 : Int64)), .second, .val (.long (-7723592293110705685 : Int64)), .second, .val (.long (A0_20 q0 q1)), .second, .val (.long (A0_36 q0 q1)), .second, .val (.long (A0_46 q0 q1)), .second, .val (.long (A0_62 q0 q1)), .second, .val (.long (A0_72 q0 q1)), .second, .val (.long (A0_88 q0 q1)), .second, .val (.long (A0_98 q0 q1)), .second, .unset] [(.long (-4658895280553007687 : Int64)), (.long (-4658895280553007687 : Int64))])) _
    refine st4 _ ?_
    show Steps p.tables e below (T4.setTop (mkF m 107 #[.val (.long q0), .second, .val (.long q1), .second, .val (.long (-7046029254386353131 : Int64)), .second, .val (.long (-4658895280553007687 : Int64)), .second, .val (.long (-7723592293110705685 : Int64)), .second, .val (.long (A0_20 q0 q1)), .second, .val (.long (A0_36 q0 q1)), .second, .val (.long (A0_46 q0 q1)), .second, .val (.long (A0_62 q0 q1)), .second, .val (.long (A0_72 q0 q1)), .second, .val (.long (A0_88 q0 q1)), .second, .val (.long (A0_98 q0 q1)), .second, .unset] [(.long (F2 (-4658895280553007687 : Int64))), (.long (-4658895280553007687 : Int64))])) _
    refine XS.lmul X4.here hx rfl (hb hby at_107) rfl ?_
    show Steps p.tables e below (T4.setTop (mkF m 108 #[.val (.long q0), .second, .val (.long q1), .second, .val (.long (-7046029254386353131 : Int64)), .second, .val (.long (-4658895280553007687 : Int64)), .second, .val (.long (-7723592293110705685 : Int64)), .second, .val (.long (A0_20 q0 q1)), .second, .val (.long (A0_36 q0 q1)), .second, .val (.long (A0_46 q0 q1)), .second, .val (.long (A0_62 q0 q1)), .second, .val (.long (A0_72 q0 q1)), .second, .val (.long (A0_88 q0 q1)), .second, .val (.long (A0_98 q0 q1)), .second, .unset] [(.long ((-4658895280553007687 : Int64) * (F2 (-4658895280553007687 : Int64))))])) _
    refine XS.lconst X4.here hx rfl (hb hby at_108) ?_
    show Steps p.tables e below (T4.setTop (mkF m 109 #[.val (.long q0), .second, .val (.long q1), .second, .val (.long (-7046029254386353131 : Int64)), .second, .val (.long (-4658895280553007687 : Int64)), .second, .val (.long (-7723592293110705685 : Int64)), .second, .val (.long (A0_20 q0 q1)), .second, .val (.long (A0_36 q0 q1)), .second, .val (.long (A0_46 q0 q1)), .second, .val (.long (A0_62 q0 q1)), .second, .val (.long (A0_72 q0 q1)), .second, .val (.long (A0_88 q0 q1)), .second, .val (.long (A0_98 q0 q1)), .second, .unset] [(.long (1 : Int64)), (.long ((-4658895280553007687 : Int64) * (F2 (-4658895280553007687 : Int64))))])) _
    refine XS.lcmp X4.here hx rfl (hb hby at_109) rfl ?_
    show Steps p.tables e below (T4.setTop (mkF m 110 #[.val (.long q0), .second, .val (.long q1), .second, .val (.long (-7046029254386353131 : Int64)), .second, .val (.long (-4658895280553007687 : Int64)), .second, .val (.long (-7723592293110705685 : Int64)), .second, .val (.long (A0_20 q0 q1)), .second, .val (.long (A0_36 q0 q1)), .second, .val (.long (A0_46 q0 q1)), .second, .val (.long (A0_62 q0 q1)), .second, .val (.long (A0_72 q0 q1)), .second, .val (.long (A0_88 q0 q1)), .second, .val (.long (A0_98 q0 q1)), .second, .unset] [(.int (lcmpW ((-4658895280553007687 : Int64) * (F2 (-4658895280553007687 : Int64))) (1 : Int64)))])) _
    refine XS.ifNo X4.here hx rfl (hb hby at_110) rfl ((if0 _ _).trans (teq (by decide +kernel : (lcmpW ((-4658895280553007687 : Int64) * (F2 (-4658895280553007687 : Int64))) (1 : Int64)) = (0 : Int32))).2) ?_
    show Steps p.tables e below (T4.setTop (mkF m 113 #[.val (.long q0), .second, .val (.long q1), .second, .val (.long (-7046029254386353131 : Int64)), .second, .val (.long (-4658895280553007687 : Int64)), .second, .val (.long (-7723592293110705685 : Int64)), .second, .val (.long (A0_20 q0 q1)), .second, .val (.long (A0_36 q0 q1)), .second, .val (.long (A0_46 q0 q1)), .second, .val (.long (A0_62 q0 q1)), .second, .val (.long (A0_72 q0 q1)), .second, .val (.long (A0_88 q0 q1)), .second, .val (.long (A0_98 q0 q1)), .second, .unset] [])) _
    refine XS.lload X4.here hx rfl (hb hby at_113) rfl ?_
    show Steps p.tables e below (T4.setTop (mkF m 115 #[.val (.long q0), .second, .val (.long q1), .second, .val (.long (-7046029254386353131 : Int64)), .second, .val (.long (-4658895280553007687 : Int64)), .second, .val (.long (-7723592293110705685 : Int64)), .second, .val (.long (A0_20 q0 q1)), .second, .val (.long (A0_36 q0 q1)), .second, .val (.long (A0_46 q0 q1)), .second, .val (.long (A0_62 q0 q1)), .second, .val (.long (A0_72 q0 q1)), .second, .val (.long (A0_88 q0 q1)), .second, .val (.long (A0_98 q0 q1)), .second, .unset] [(.long (-7723592293110705685 : Int64))])) _
    refine XS.lload X4.here hx rfl (hb hby at_115) rfl ?_
    show Steps p.tables e below (T4.setTop (mkF m 117 #[.val (.long q0), .second, .val (.long q1), .second, .val (.long (-7046029254386353131 : Int64)), .second, .val (.long (-4658895280553007687 : Int64)), .second, .val (.long (-7723592293110705685 : Int64)), .second, .val (.long (A0_20 q0 q1)), .second, .val (.long (A0_36 q0 q1)), .second, .val (.long (A0_46 q0 q1)), .second, .val (.long (A0_62 q0 q1)), .second, .val (.long (A0_72 q0 q1)), .second, .val (.long (A0_88 q0 q1)), .second, .val (.long (A0_98 q0 q1)), .second, .unset] [(.long (-7723592293110705685 : Int64)), (.long (-7723592293110705685 : Int64))])) _
    refine st5 _ ?_
    show Steps p.tables e below (T5.setTop (mkF m 120 #[.val (.long q0), .second, .val (.long q1), .second, .val (.long (-7046029254386353131 : Int64)), .second, .val (.long (-4658895280553007687 : Int64)), .second, .val (.long (-7723592293110705685 : Int64)), .second, .val (.long (A0_20 q0 q1)), .second, .val (.long (A0_36 q0 q1)), .second, .val (.long (A0_46 q0 q1)), .second, .val (.long (A0_62 q0 q1)), .second, .val (.long (A0_72 q0 q1)), .second, .val (.long (A0_88 q0 q1)), .second, .val (.long (A0_98 q0 q1)), .second, .unset] [(.long (F2 (-7723592293110705685 : Int64))), (.long (-7723592293110705685 : Int64))])) _
    refine XS.lmul X5.here hx rfl (hb hby at_120) rfl ?_
    show Steps p.tables e below (T5.setTop (mkF m 121 #[.val (.long q0), .second, .val (.long q1), .second, .val (.long (-7046029254386353131 : Int64)), .second, .val (.long (-4658895280553007687 : Int64)), .second, .val (.long (-7723592293110705685 : Int64)), .second, .val (.long (A0_20 q0 q1)), .second, .val (.long (A0_36 q0 q1)), .second, .val (.long (A0_46 q0 q1)), .second, .val (.long (A0_62 q0 q1)), .second, .val (.long (A0_72 q0 q1)), .second, .val (.long (A0_88 q0 q1)), .second, .val (.long (A0_98 q0 q1)), .second, .unset] [(.long ((-7723592293110705685 : Int64) * (F2 (-7723592293110705685 : Int64))))])) _
    refine XS.lconst X5.here hx rfl (hb hby at_121) ?_
    show Steps p.tables e below (T5.setTop (mkF m 122 #[.val (.long q0), .second, .val (.long q1), .second, .val (.long (-7046029254386353131 : Int64)), .second, .val (.long (-4658895280553007687 : Int64)), .second, .val (.long (-7723592293110705685 : Int64)), .second, .val (.long (A0_20 q0 q1)), .second, .val (.long (A0_36 q0 q1)), .second, .val (.long (A0_46 q0 q1)), .second, .val (.long (A0_62 q0 q1)), .second, .val (.long (A0_72 q0 q1)), .second, .val (.long (A0_88 q0 q1)), .second, .val (.long (A0_98 q0 q1)), .second, .unset] [(.long (1 : Int64)), (.long ((-7723592293110705685 : Int64) * (F2 (-7723592293110705685 : Int64))))])) _
    refine XS.lcmp X5.here hx rfl (hb hby at_122) rfl ?_
    show Steps p.tables e below (T5.setTop (mkF m 123 #[.val (.long q0), .second, .val (.long q1), .second, .val (.long (-7046029254386353131 : Int64)), .second, .val (.long (-4658895280553007687 : Int64)), .second, .val (.long (-7723592293110705685 : Int64)), .second, .val (.long (A0_20 q0 q1)), .second, .val (.long (A0_36 q0 q1)), .second, .val (.long (A0_46 q0 q1)), .second, .val (.long (A0_62 q0 q1)), .second, .val (.long (A0_72 q0 q1)), .second, .val (.long (A0_88 q0 q1)), .second, .val (.long (A0_98 q0 q1)), .second, .unset] [(.int (lcmpW ((-7723592293110705685 : Int64) * (F2 (-7723592293110705685 : Int64))) (1 : Int64)))])) _
    refine XS.ifNo X5.here hx rfl (hb hby at_123) rfl ((if0 _ _).trans (teq (by decide +kernel : (lcmpW ((-7723592293110705685 : Int64) * (F2 (-7723592293110705685 : Int64))) (1 : Int64)) = (0 : Int32))).2) ?_
    show Steps p.tables e below (T5.setTop (mkF m 126 #[.val (.long q0), .second, .val (.long q1), .second, .val (.long (-7046029254386353131 : Int64)), .second, .val (.long (-4658895280553007687 : Int64)), .second, .val (.long (-7723592293110705685 : Int64)), .second, .val (.long (A0_20 q0 q1)), .second, .val (.long (A0_36 q0 q1)), .second, .val (.long (A0_46 q0 q1)), .second, .val (.long (A0_62 q0 q1)), .second, .val (.long (A0_72 q0 q1)), .second, .val (.long (A0_88 q0 q1)), .second, .val (.long (A0_98 q0 q1)), .second, .unset] [])) _
    refine XS.iconst X5.here hx rfl (hb hby at_126) ?_
    show Steps p.tables e below (T5.setTop (mkF m 127 #[.val (.long q0), .second, .val (.long q1), .second, .val (.long (-7046029254386353131 : Int64)), .second, .val (.long (-4658895280553007687 : Int64)), .second, .val (.long (-7723592293110705685 : Int64)), .second, .val (.long (A0_20 q0 q1)), .second, .val (.long (A0_36 q0 q1)), .second, .val (.long (A0_46 q0 q1)), .second, .val (.long (A0_62 q0 q1)), .second, .val (.long (A0_72 q0 q1)), .second, .val (.long (A0_88 q0 q1)), .second, .val (.long (A0_98 q0 q1)), .second, .unset] [(.int (1 : Int32))])) _
    refine XS.goto X5.here hx rfl (pc0 := 127) (pc' := 131) rfl (hb hby at_127) (by decide) (by decide) ?_
    show Steps p.tables e below (T5.setTop (mkF m 131 #[.val (.long q0), .second, .val (.long q1), .second, .val (.long (-7046029254386353131 : Int64)), .second, .val (.long (-4658895280553007687 : Int64)), .second, .val (.long (-7723592293110705685 : Int64)), .second, .val (.long (A0_20 q0 q1)), .second, .val (.long (A0_36 q0 q1)), .second, .val (.long (A0_46 q0 q1)), .second, .val (.long (A0_62 q0 q1)), .second, .val (.long (A0_72 q0 q1)), .second, .val (.long (A0_88 q0 q1)), .second, .val (.long (A0_98 q0 q1)), .second, .unset] [(.int (1 : Int32))])) _
    refine XS.istore X5.here hx rfl (hb hby at_131) rfl (l' := #[.val (.long q0), .second, .val (.long q1), .second, .val (.long (-7046029254386353131 : Int64)), .second, .val (.long (-4658895280553007687 : Int64)), .second, .val (.long (-7723592293110705685 : Int64)), .second, .val (.long (A0_20 q0 q1)), .second, .val (.long (A0_36 q0 q1)), .second, .val (.long (A0_46 q0 q1)), .second, .val (.long (A0_62 q0 q1)), .second, .val (.long (A0_72 q0 q1)), .second, .val (.long (A0_88 q0 q1)), .second, .val (.long (A0_98 q0 q1)), .second, .val (.int (1 : Int32))]) rfl ?_
    show Steps p.tables e below (T5.setTop (mkF m 133 #[.val (.long q0), .second, .val (.long q1), .second, .val (.long (-7046029254386353131 : Int64)), .second, .val (.long (-4658895280553007687 : Int64)), .second, .val (.long (-7723592293110705685 : Int64)), .second, .val (.long (A0_20 q0 q1)), .second, .val (.long (A0_36 q0 q1)), .second, .val (.long (A0_46 q0 q1)), .second, .val (.long (A0_62 q0 q1)), .second, .val (.long (A0_72 q0 q1)), .second, .val (.long (A0_88 q0 q1)), .second, .val (.long (A0_98 q0 q1)), .second, .val (.int (1 : Int32))] [])) _
    refine XS.iload X5.here hx rfl (hb hby at_133) rfl ?_
    show Steps p.tables e below (T5.setTop (mkF m 135 #[.val (.long q0), .second, .val (.long q1), .second, .val (.long (-7046029254386353131 : Int64)), .second, .val (.long (-4658895280553007687 : Int64)), .second, .val (.long (-7723592293110705685 : Int64)), .second, .val (.long (A0_20 q0 q1)), .second, .val (.long (A0_36 q0 q1)), .second, .val (.long (A0_46 q0 q1)), .second, .val (.long (A0_62 q0 q1)), .second, .val (.long (A0_72 q0 q1)), .second, .val (.long (A0_88 q0 q1)), .second, .val (.long (A0_98 q0 q1)), .second, .val (.int (1 : Int32))] [(.int (1 : Int32))])) _
    refine XS.ifNo X5.here hx rfl (hb hby at_135) rfl ((if0 _ _).trans (feq (by decide : ¬ ((1 : Int32) = (0 : Int32)))).1) ?_
    show Steps p.tables e below (T5.setTop (mkF m 138 #[.val (.long q0), .second, .val (.long q1), .second, .val (.long (-7046029254386353131 : Int64)), .second, .val (.long (-4658895280553007687 : Int64)), .second, .val (.long (-7723592293110705685 : Int64)), .second, .val (.long (A0_20 q0 q1)), .second, .val (.long (A0_36 q0 q1)), .second, .val (.long (A0_46 q0 q1)), .second, .val (.long (A0_62 q0 q1)), .second, .val (.long (A0_72 q0 q1)), .second, .val (.long (A0_88 q0 q1)), .second, .val (.long (A0_98 q0 q1)), .second, .val (.int (1 : Int32))] [])) _
    refine XS.lload X5.here hx rfl (hb hby at_138) rfl ?_
    show Steps p.tables e below (T5.setTop (mkF m 140 #[.val (.long q0), .second, .val (.long q1), .second, .val (.long (-7046029254386353131 : Int64)), .second, .val (.long (-4658895280553007687 : Int64)), .second, .val (.long (-7723592293110705685 : Int64)), .second, .val (.long (A0_20 q0 q1)), .second, .val (.long (A0_36 q0 q1)), .second, .val (.long (A0_46 q0 q1)), .second, .val (.long (A0_62 q0 q1)), .second, .val (.long (A0_72 q0 q1)), .second, .val (.long (A0_88 q0 q1)), .second, .val (.long (A0_98 q0 q1)), .second, .val (.int (1 : Int32))] [(.long (A0_88 q0 q1))])) _
    refine XS.lload X5.here hx rfl (hb hby at_140) rfl ?_
    show Steps p.tables e below (T5.setTop (mkF m 142 #[.val (.long q0), .second, .val (.long q1), .second, .val (.long (-7046029254386353131 : Int64)), .second, .val (.long (-4658895280553007687 : Int64)), .second, .val (.long (-7723592293110705685 : Int64)), .second, .val (.long (A0_20 q0 q1)), .second, .val (.long (A0_36 q0 q1)), .second, .val (.long (A0_46 q0 q1)), .second, .val (.long (A0_62 q0 q1)), .second, .val (.long (A0_72 q0 q1)), .second, .val (.long (A0_88 q0 q1)), .second, .val (.long (A0_98 q0 q1)), .second, .val (.int (1 : Int32))] [(.long (A0_98 q0 q1)), (.long (A0_88 q0 q1))])) _
    refine XS.lcmp X5.here hx rfl (hb hby at_142) rfl ?_
    exact kt)
  by_cases hc143 : (lcmpW (A0_88 q0 q1) (A0_98 q0 q1)) = (0 : Int32)
  · obtain ⟨fs, hr, hrun, hended, hW, hsame⟩ := X5.leave (v := some (.int (1 : Int32))) (fun h => by rw [Bd.returns] at h; cases h)
    refine ⟨_, _, pre6 _ ?_, hrun, hended, _, _, rfl, ?_, ⟨_, rfl⟩, hW, hsame.mono (by decide) (by decide)⟩
    · show Steps p.tables e below (T5.setTop (mkF m 143 #[.val (.long q0), .second, .val (.long q1), .second, .val (.long (-7046029254386353131 : Int64)), .second, .val (.long (-4658895280553007687 : Int64)), .second, .val (.long (-7723592293110705685 : Int64)), .second, .val (.long (A0_20 q0 q1)), .second, .val (.long (A0_36 q0 q1)), .second, .val (.long (A0_46 q0 q1)), .second, .val (.long (A0_62 q0 q1)), .second, .val (.long (A0_72 q0 q1)), .second, .val (.long (A0_88 q0 q1)), .second, .val (.long (A0_98 q0 q1)), .second, .val (.int (1 : Int32))] [(.int (lcmpW (A0_88 q0 q1) (A0_98 q0 q1)))])) _
      refine XS.ifNo X5.here hx rfl (hb hby at_143) rfl ((if0 _ _).trans (teq hc143).2) ?_
      show Steps p.tables e below (T5.setTop (mkF m 146 #[.val (.long q0), .second, .val (.long q1), .second, .val (.long (-7046029254386353131 : Int64)), .second, .val (.long (-4658895280553007687 : Int64)), .second, .val (.long (-7723592293110705685 : Int64)), .second, .val (.long (A0_20 q0 q1)), .second, .val (.long (A0_36 q0 q1)), .second, .val (.long (A0_46 q0 q1)), .second, .val (.long (A0_62 q0 q1)), .second, .val (.long (A0_72 q0 q1)), .second, .val (.long (A0_88 q0 q1)), .second, .val (.long (A0_98 q0 q1)), .second, .val (.int (1 : Int32))] [])) _
      refine XS.iconst X5.here hx rfl (hb hby at_146) ?_
      show Steps p.tables e below (T5.setTop (mkF m 147 #[.val (.long q0), .second, .val (.long q1), .second, .val (.long (-7046029254386353131 : Int64)), .second, .val (.long (-4658895280553007687 : Int64)), .second, .val (.long (-7723592293110705685 : Int64)), .second, .val (.long (A0_20 q0 q1)), .second, .val (.long (A0_36 q0 q1)), .second, .val (.long (A0_46 q0 q1)), .second, .val (.long (A0_62 q0 q1)), .second, .val (.long (A0_72 q0 q1)), .second, .val (.long (A0_88 q0 q1)), .second, .val (.long (A0_98 q0 q1)), .second, .val (.int (1 : Int32))] [(.int (1 : Int32))])) _
      refine XS.goto X5.here hx rfl (pc0 := 147) (pc' := 151) rfl (hb hby at_147) (by decide) (by decide) ?_
      show Steps p.tables e below (T5.setTop (mkF m 151 #[.val (.long q0), .second, .val (.long q1), .second, .val (.long (-7046029254386353131 : Int64)), .second, .val (.long (-4658895280553007687 : Int64)), .second, .val (.long (-7723592293110705685 : Int64)), .second, .val (.long (A0_20 q0 q1)), .second, .val (.long (A0_36 q0 q1)), .second, .val (.long (A0_46 q0 q1)), .second, .val (.long (A0_62 q0 q1)), .second, .val (.long (A0_72 q0 q1)), .second, .val (.long (A0_88 q0 q1)), .second, .val (.long (A0_98 q0 q1)), .second, .val (.int (1 : Int32))] [(.int (1 : Int32))])) _
      exact retN X5 hx (t := .boolean) Bd.returns (by simp) (hb hby at_151) hr
    · show Q0 Z q0 q1 h0 n0 _ T5.heap _
      rw [e5]
      exact ⟨(by unfold F0; simp only [if_pos hc143]), N5⟩
  · obtain ⟨fs, hr, hrun, hended, hW, hsame⟩ := X5.leave (v := some (.int (0 : Int32))) (fun h => by rw [Bd.returns] at h; cases h)
    refine ⟨_, _, pre6 _ ?_, hrun, hended, _, _, rfl, ?_, ⟨_, rfl⟩, hW, hsame.mono (by decide) (by decide)⟩
    · show Steps p.tables e below (T5.setTop (mkF m 143 #[.val (.long q0), .second, .val (.long q1), .second, .val (.long (-7046029254386353131 : Int64)), .second, .val (.long (-4658895280553007687 : Int64)), .second, .val (.long (-7723592293110705685 : Int64)), .second, .val (.long (A0_20 q0 q1)), .second, .val (.long (A0_36 q0 q1)), .second, .val (.long (A0_46 q0 q1)), .second, .val (.long (A0_62 q0 q1)), .second, .val (.long (A0_72 q0 q1)), .second, .val (.long (A0_88 q0 q1)), .second, .val (.long (A0_98 q0 q1)), .second, .val (.int (1 : Int32))] [(.int (lcmpW (A0_88 q0 q1) (A0_98 q0 q1)))])) _
      refine XS.ifYes X5.here hx rfl (pc0 := 143) (pc' := 150) rfl (hb hby at_143) rfl ((if0 _ _).trans (feq hc143).2) (by decide) (by decide) ?_
      show Steps p.tables e below (T5.setTop (mkF m 150 #[.val (.long q0), .second, .val (.long q1), .second, .val (.long (-7046029254386353131 : Int64)), .second, .val (.long (-4658895280553007687 : Int64)), .second, .val (.long (-7723592293110705685 : Int64)), .second, .val (.long (A0_20 q0 q1)), .second, .val (.long (A0_36 q0 q1)), .second, .val (.long (A0_46 q0 q1)), .second, .val (.long (A0_62 q0 q1)), .second, .val (.long (A0_72 q0 q1)), .second, .val (.long (A0_88 q0 q1)), .second, .val (.long (A0_98 q0 q1)), .second, .val (.int (1 : Int32))] [])) _
      refine XS.iconst X5.here hx rfl (hb hby at_150) ?_
      show Steps p.tables e below (T5.setTop (mkF m 151 #[.val (.long q0), .second, .val (.long q1), .second, .val (.long (-7046029254386353131 : Int64)), .second, .val (.long (-4658895280553007687 : Int64)), .second, .val (.long (-7723592293110705685 : Int64)), .second, .val (.long (A0_20 q0 q1)), .second, .val (.long (A0_36 q0 q1)), .second, .val (.long (A0_46 q0 q1)), .second, .val (.long (A0_62 q0 q1)), .second, .val (.long (A0_72 q0 q1)), .second, .val (.long (A0_88 q0 q1)), .second, .val (.long (A0_98 q0 q1)), .second, .val (.int (1 : Int32))] [(.int (0 : Int32))])) _
      exact retN X5 hx (t := .boolean) Bd.returns (by simp) (hb hby at_151) hr
    · show Q0 Z q0 q1 h0 n0 _ T5.heap _
      rw [e5]
      exact ⟨(by unfold F0; simp only [if_neg hc143]), N5⟩
/-! THE PLAIN LAW -/
theorem own_inv (y : BitVec 64) (k j : Nat) (hj : j = k + k) (hk : 64 ≤ k + j) : ((y ^^^ (y >>> k)) ^^^ ((y ^^^ (y >>> k)) >>> k)) ^^^ ((y ^^^ (y >>> k)) >>> j) = y := by
  apply BitVec.eq_of_getLsbD_eq
  intro i hi
  subst hj
  simp only [BitVec.getLsbD_xor, BitVec.getLsbD_ushiftRight]
  have e1 : y.getLsbD (k + (k + k + i)) = false := BitVec.getLsbD_of_ge _ _ (by omega)
  have e2 : k + (k + i) = k + k + i := by omega
  rw [e1, e2]
  cases y.getLsbD i <;> cases y.getLsbD (k + i) <;> cases y.getLsbD (k + k + i) <;> rfl
theorem own_31 (y r : Int64) (hr : r = y ^^^ ((y.toUInt64 >>> ((31 : Int32) &&& 0x3f).toInt64.toUInt64).toInt64)) : ((r ^^^ ((r.toUInt64 >>> ((31 : Int32) &&& 0x3f).toInt64.toUInt64).toInt64)) ^^^ ((r.toUInt64 >>> ((62 : Int32) &&& 0x3f).toInt64.toUInt64).toInt64)) = y := by
  subst hr
  apply Int64.toBitVec_inj.mp
  exact own_inv y.toBitVec 31 62 rfl (by decide)
theorem own_27 (y r : Int64) (hr : r = y ^^^ ((y.toUInt64 >>> ((27 : Int32) &&& 0x3f).toInt64.toUInt64).toInt64)) : ((r ^^^ ((r.toUInt64 >>> ((27 : Int32) &&& 0x3f).toInt64.toUInt64).toInt64)) ^^^ ((r.toUInt64 >>> ((54 : Int32) &&& 0x3f).toInt64.toUInt64).toInt64)) = y := by
  subst hr
  apply Int64.toBitVec_inj.mp
  exact own_inv y.toBitVec 27 54 rfl (by decide)
theorem own_30 (y r : Int64) (hr : r = y ^^^ ((y.toUInt64 >>> ((30 : Int32) &&& 0x3f).toInt64.toUInt64).toInt64)) : ((r ^^^ ((r.toUInt64 >>> ((30 : Int32) &&& 0x3f).toInt64.toUInt64).toInt64)) ^^^ ((r.toUInt64 >>> ((60 : Int32) &&& 0x3f).toInt64.toUInt64).toInt64)) = y := by
  subst hr
  apply Int64.toBitVec_inj.mp
  exact own_inv y.toBitVec 30 60 rfl (by decide)
theorem own_c2 : (-7723592293110705685 : Int64) * (F2 (-7723592293110705685 : Int64)) = 1 := by decide +kernel
theorem own_c1 : (-4658895280553007687 : Int64) * (F2 (-4658895280553007687 : Int64)) = 1 := by decide +kernel
theorem own_law (q0 q1 : Int64) : F0 q0 q1 = 1 := by
  have h1 : A0_36 q0 q1 = A1_37 q0 q1 := own_31 (A1_37 q0 q1) (A0_20 q0 q1) rfl
  have h2 : A0_46 q0 q1 = (A1_23 q0 q1) ^^^ (((A1_23 q0 q1).toUInt64 >>> ((27 : Int32) &&& 0x3f).toInt64.toUInt64).toInt64) := by
    unfold A0_46; rw [h1]; unfold A1_37; rw [Int64.mul_assoc, own_c2, Int64.mul_one]
  have h3 : A0_62 q0 q1 = A1_23 q0 q1 := own_27 (A1_23 q0 q1) (A0_46 q0 q1) h2
  have h4 : A0_72 q0 q1 = (A1_9 q0 q1) ^^^ (((A1_9 q0 q1).toUInt64 >>> ((30 : Int32) &&& 0x3f).toInt64.toUInt64).toInt64) := by
    unfold A0_72; rw [h3]; unfold A1_23; rw [Int64.mul_assoc, own_c1, Int64.mul_one]
  have h5 : A0_88 q0 q1 = A1_9 q0 q1 := own_30 (A1_9 q0 q1) (A0_72 q0 q1) h4
  unfold F0
  refine if_pos ?_
  rw [lw_eq, h5]; rfl
set_option maxRecDepth 65536 in
set_option maxHeartbeats 40000000 in
theorem comes_1 {Post : Tables → Env → Array Value → State → Outcome → State → Prop} (hpost : ∀ tb e args s v u, (limb_1_1.after args s (.returned v) u = true ∧ limb_1_2.after args s (.returned v) u = true ∧ True) → FrameEnd s (.returned v) u (Jvm.fieldLocs frame_1_writes args s ++ Jvm.arrayLocs frame_1_arrays args s ++ Jvm.staticLocs frame_1_statics s) 0 0 → Post tb e args s (.returned v) u) :
    ArmFor flags0 classFile x code maxLocals ret World_1 tables_1 room_1 Calls_1 rest_1 Pre_1 Post := by
  intro l hfl _ _ p e ha hc hk s m args below hf hA hF happ hP
  obtain ⟨hcalls, hrest, hpre⟩ := hP
  obtain ⟨-, -, -, hnamed, -, -, -, hat⟩ := (Spec.applies_iff hf).mp happ
  obtain ⟨hg, hn⟩ := and_e (Cond.before_iff.mp (show (Jvm.Cond.and given_1 narrow_1).before args s = true from hpre))
  obtain ⟨g1, g2⟩ := and_e hg
  obtain ⟨g3, g4⟩ := and_e g2
  obtain ⟨w0, w1, rfl⟩ : ∃ w0 w1 : Value, args = #[w0, w1] := by
    have hs : args.size = 2 := by simpa [Cond.value, given_1] using g1
    obtain ⟨L⟩ := args
    match L, hs with
    | [w0, w1], _ => exact ⟨w0, w1, rfl⟩
  have hw := fun d (hd : d ∈ tables_1) => atoms_spec (ws := Jvm.Cond.code x code maxLocals ret :: tables_1) hat d (List.mem_cons_of_mem _ hd)
  have hfit : Fit s := fun {y c} hc i hi => by
    obtain ⟨ha, rfl⟩ := Array.getElem?_eq_some_iff.mp hc
    have q := List.all_eq_true.mp ((Array.all_eq_true_iff_forall_mem.mp hF) _ (Array.getElem_mem ha)) i (List.mem_range.mpr hi)
    simpa [Array.getElem?_eq_getElem hi] using q
  obtain ⟨i0, ei0⟩ := isL_v g3
  obtain rfl : w0 = (.long i0) := Option.some.inj ei0
  obtain ⟨i1, ei1⟩ := isL_v g4
  obtain rfl : w1 = (.long i1) := Option.some.inj ei1
  obtain ⟨n, o, h1, h2, h3, _, L, rfl, ⟨rfl, N⟩, hq⟩ := rm0 l s _ hw tables_1 i0 i1  s.heap s.heap.size (Nat.le_refl _)  p e ha hc hk s m _ below hf ((Spec.applies_iff_loose hf).mp happ).1 ⟨rfl, State.Warmed39.refl s, rfl⟩ trivial
  refine ⟨n, _, h1, h2, h3, hpost _ _ _ _ _ _ ⟨Cond.after_iff.mpr rfl, Cond.after_iff.mpr (eq_i res_at (Term.int_eval (1)) (congrArg Value.int (own_law i0 i1))), trivial⟩ ⟨hq.1, hq.2.1, (hq.2.2.sift fun y hy => Or.inr (N y hy)).mono (by decide) (by decide)⟩⟩
theorem main_1_1 : Claimed_1_1 := comes_1 fun _ _ _ _ _ _ h hF => ⟨h.1, hF⟩
theorem main_1_2 : Claimed_1_2 := comes_1 fun _ _ _ _ _ _ h hF => ⟨h.2.1, hF⟩
end Jvm.Pilot.@@N@@
namespace Jvm.Pilot.@@N@@
open Jvm Jvm.ClassFile Sem Op Lib Jvm.Free Jvm.Stand Jvm.Pilot.@@N@@.Jvm.D
/-! MADE BY PROGRAM (witnessworld.py) out of the Statement's table words and the real class files: 9 classes; the members and pool entries that the words name. The judged class is class 1, her method 2. -/
namespace start1
open Jvm.ClassFile
def u (s : String) : CpInfo := .utf8 (stringToUtf16 s)
/-- a pool by its gaps: so many unusable entries, then the entry; so many at the end -/
def gap : Nat → List CpInfo → List CpInfo
  | 0, r => r
  | n + 1, r => .unusable :: gap n r
def poolList (es : List (Nat × CpInfo)) (last : Nat) : List CpInfo := es.foldr (fun e r => gap e.1 (e.2 :: r)) (gap last [])
def pool (es : List (Nat × CpInfo)) (last : Nat) : Array CpInfo := ⟨poolList es last⟩
def fileOf (pool : Array CpInfo) (this : Nat) (attrs : Array Attribute := #[]) (ms : Array MethodInfo := #[]) (fl : Nat := 33) (sup : Nat := 0) (ifs : Array Nat := #[]) (fds : Array FieldInfo := #[]) : ClassFile where
  minorVersion := 0
  majorVersion := 65
  constantPool := pool
  accessFlags := fl
  thisClass := this
  superClass := sup
  interfaces := ifs
  fields := fds
  methods := ms
  attributes := attrs
def plain (name : String) (sup : Option ClassId) : Class where
  name := name
  kind := .ordinary
  loader := none
  accessFlags := 33
  super := sup
  interfaces := #[]
  cf := none
  fields := #[]
  methods := #[]
  instanceTypes := #[]
  staticTypes := #[]
  resolved := #[]
  callSites := []
  init := .initialized
  statics := none
  mirror := none

def pool0 : Array CpInfo := pool [(5, u "<init>"), (0, u "()V"), (1, .class_ 10), (1, u "java/lang/Object")] 113

def k0m0 : Method := { name := "<init>", desc := "()V", sig := { parameters := [], returnType := none }, accessFlags := 1, code := none }
/-- java/lang/Object -/
def k0 : Class := { plain "java/lang/Object" none with
  accessFlags := 33
  interfaces := #[]
  cf := some (fileOf pool0 8 #[] #[{ accessFlags := 1, nameIndex := 5, descriptorIndex := 6, attributes := #[] }] 33 0 #[] #[])
  fields := #[]
  methods := #[k0m0]
  instanceTypes := #[]
  staticTypes := #[]
  resolved := Array.replicate 124 none
  statics := none }

def pool1 : Array CpInfo := pool [(2, .class_ 4), (1, u "java/lang/Object"), (0, u "<init>"), (0, u "()V"), (0, .long 2), (1, .long 11400714819323198485), (1, .long 13787848793156543929), (1, .long 10723151780598845931), (1, .methodref 16 17), (0, .class_ 18), (0, .nameAndType 19 20), (0, u "com/example/wandel/wandel/seed/Seeds"), (0, u "derived"), (0, u "(JJ)J"), (0, .methodref 22 23), (0, .class_ 24), (0, .nameAndType 25 26), (0, u "com/example/wandel/wandel/seed/SeedsDerivedPinLaw"), (0, u "inverseOdd"), (0, u "(J)J"), (2, u "law"), (0, u "(JJ)Z")] 3

def k1m0 : Method := { name := "<init>", desc := "()V", sig := { parameters := [], returnType := none }, accessFlags := 2, code := none }
def k1c1 : Code := { maxStack := 8, maxLocals := 4, code := method_2_code, exceptionTable := #[], attributes := #[] }
def k1m1 : Method := { name := "inverseOdd", desc := "(J)J", sig := { parameters := [.long], returnType := some .long }, accessFlags := 10, code := some k1c1 }
def k1c2 : Code := { maxStack := 6, maxLocals := 25, code := code, exceptionTable := #[], attributes := #[] }
def k1m2 : Method := { name := "law", desc := "(JJ)Z", sig := { parameters := [.long, .long], returnType := some .boolean }, accessFlags := 9, code := some k1c2 }
/-- com/example/wandel/wandel/seed/SeedsDerivedPinLaw -/
def k1 : Class := { plain "com/example/wandel/wandel/seed/SeedsDerivedPinLaw" (some 0) with
  accessFlags := 49
  interfaces := #[]
  cf := some (fileOf pool1 22 #[] #[{ accessFlags := 2, nameIndex := 5, descriptorIndex := 6, attributes := #[] }, { accessFlags := 10, nameIndex := 25, descriptorIndex := 26, attributes := #[] }, { accessFlags := 9, nameIndex := 29, descriptorIndex := 30, attributes := #[] }] 49 2 #[] #[])
  fields := #[]
  methods := #[k1m0, k1m1, k1m2]
  instanceTypes := #[]
  staticTypes := #[]
  resolved := Array.replicate 34 none
  statics := none }

def pool2 : Array CpInfo := pool [(2, .class_ 4), (1, u "java/lang/Object"), (0, u "<init>"), (0, u "()V"), (0, .class_ 8), (0, u "com/example/wandel/wandel/seed/Seeds"), (0, .long 11400714819323198485), (1, .long 13787848793156543929), (1, .long 10723151780598845931), (1, u "GAMMA"), (0, u "J"), (3, u "derived"), (0, u "(JJ)J")] 2

def k2m0 : Method := { name := "<init>", desc := "()V", sig := { parameters := [], returnType := none }, accessFlags := 2, code := none }
def k2c1 : Code := { maxStack := 6, maxLocals := 6, code := prog_84_method_2_code, exceptionTable := #[], attributes := #[] }
def k2m1 : Method := { name := "derived", desc := "(JJ)J", sig := { parameters := [.long, .long], returnType := some .long }, accessFlags := 9, code := some k2c1 }
/-- com/example/wandel/wandel/seed/Seeds -/
def k2 : Class := { plain "com/example/wandel/wandel/seed/Seeds" (some 0) with
  accessFlags := 33
  interfaces := #[]
  cf := some (fileOf pool2 7 #[] #[{ accessFlags := 2, nameIndex := 5, descriptorIndex := 6, attributes := #[] }, { accessFlags := 9, nameIndex := 20, descriptorIndex := 21, attributes := #[] }] 33 2 #[] #[{ accessFlags := 26, nameIndex := 15, descriptorIndex := 16, attributes := #[] }])
  fields := #[{ name := "GAMMA", type := .long, accessFlags := 26, slot := 0, constantValue := 0 }]
  methods := #[k2m0, k2m1]
  instanceTypes := #[]
  staticTypes := #[.long]
  resolved := Array.replicate 24 none
  statics := none }

def pool3 : Array CpInfo := pool [(1, u "java/lang/Cloneable"), (0, .class_ 1), (0, u "java/lang/Object"), (0, .class_ 3)] 3

/-- java/lang/Cloneable -/
def k3 : Class := { plain "java/lang/Cloneable" (some 0) with
  accessFlags := 1537
  interfaces := #[]
  cf := some (fileOf pool3 2 #[] #[] 1537 4 #[] #[])
  fields := #[]
  methods := #[]
  instanceTypes := #[]
  staticTypes := #[]
  resolved := Array.replicate 8 none
  statics := none }

def pool4 : Array CpInfo := pool [(1, u "java/io/Serializable"), (0, .class_ 1), (0, u "java/lang/Object"), (0, .class_ 3)] 3

/-- java/io/Serializable -/
def k4 : Class := { plain "java/io/Serializable" (some 0) with
  accessFlags := 1537
  interfaces := #[]
  cf := some (fileOf pool4 2 #[] #[] 1537 4 #[] #[])
  fields := #[]
  methods := #[]
  instanceTypes := #[]
  staticTypes := #[]
  resolved := Array.replicate 8 none
  statics := none }

/-- the primitive byte -/
def k5 : Class := { plain "byte" none with kind := .primitive 'B', accessFlags := 0x411 }
/-- [B -/
def k6 : Class := { plain "[B" (some 0) with kind := .array 5 .byte, interfaces := #[3, 4], accessFlags := 1041 }

/-- the primitive int -/
def k7 : Class := { plain "int" none with kind := .primitive 'I', accessFlags := 0x411 }
/-- [I -/
def k8 : Class := { plain "[I" (some 0) with kind := .array 7 .int, interfaces := #[3, 4], accessFlags := 1041 }

def heap : Heap := #[]
def classes : Array Class := #[k0, k1, k2, k3, k4, k5, k6, k7, k8]
def interned : List (Array UInt16 × Addr) := []
def slotsUsed : Nat := 0
def theMethod : MethodId := ⟨1, 2⟩
def args0 : Array Value := #[.long 5, .long 6]
def aboutOver (below : List Frame) : State where
  vm := { classes := classes, interned := interned.toArray }
  heap := heap
  slotsUsed := slotsUsed
  threads := #[{ frames := .invoking theMethod args0 :: below }]
def below0 : List Frame := [.native { method := ⟨0, 0⟩, args := #[] }]
def about1 : State := aboutOver below0
def p0 : Program := .bare "" "" ""
def e0 : Env := launch0.env 0 0 0
theorem w_frames : about1.frames = Frame.invoking theMethod args0 :: below0 := rfl
set_option maxRecDepth 65536 in
theorem w_args : argsFit about1.vm theMethod args0 = true := by decide +kernel
set_option maxRecDepth 65536 in
theorem w_heap : heapFits about1 = true := by decide +kernel
set_option maxRecDepth 65536 in
theorem w_runnable : about1.curStatus? = some .runnable := by decide +kernel
set_option maxRecDepth 65536 in
theorem w_alone : about1.alone = true := by decide +kernel
set_option maxRecDepth 65536 in
theorem w_named : about1.methodNamed? x = some theMethod := by decide +kernel
set_option maxRecDepth 65536 in
theorem w_hears : about1.hears theMethod below0 = true := by decide +kernel
set_option maxRecDepth 65536 in
theorem w_ripe : about1.ripe theMethod args0 below0 = true := by decide +kernel
theorem w_running : about1.status = .running := rfl
set_option maxRecDepth 65536 in
theorem w_room : about1.hasRoom e0.platform room_1 = true :=
  launch0.hasRoom_least _ room_1 (by decide +kernel) (by decide +kernel) (by decide +kernel) (by decide +kernel) (by decide +kernel) (by decide +kernel)
theorem allAtoms_all (ts : List Jvm.Cond) (a : Array Jvm.Value) (st : Jvm.State) : (allAtoms ts).before a st = ts.all (fun c => c.before a st) := by
  induction ts with
  | nil => rfl
  | cons c t ih =>
    show (Jvm.Cond.and c (allAtoms t)).before a st = _
    rw [Jvm.Cond.before_and, ih, List.all_cons]
def words1 : List Jvm.Cond := Jvm.Cond.code x code maxLocals ret :: tables_1
/-- a 'code' word, met by the world's own term for the bytes: nothing is compared byte by byte -/
theorem code_word {y : MethodName} {bytes : ByteArray} {mx : Nat} {rt : Option FieldType} {a : Array Value} {s : State} {m : MethodId} {meth : Method} {c : Code} (h1 : s.methodNamed? y = some m) (h2 : s.vm.method? m = some meth) (h3 : meth.code = some c) (h4 : c.code = bytes)
    (h5 : (c.maxLocals == mx && c.exceptionTable.isEmpty && decide (c.maxStack ≤ mostOperands) && decide (meth.sig.returnType = rt) && !meth.locks && decide (parseMethodDescriptor y.desc = some meth.sig)) = true) : (Jvm.Cond.code y bytes mx rt).before a s = true := by
  simp only [Bool.and_eq_true, beq_iff_eq, Bool.not_eq_true', decide_eq_true_eq] at h5
  obtain ⟨⟨⟨⟨⟨g1, g2⟩, g3⟩, g4⟩, g5⟩, g6⟩ := h5
  simp [Cond.before, Cond.holds, Cond.value, h1, h2, h3, h4, g1, g2, g3, g4, g5, g6]
def isCode : Jvm.Cond → Bool
  | .code _ _ _ _ => true
  | _ => false
theorem all_split {L : List Jvm.Cond} {P : Jvm.Cond → Bool} (h1 : L.all (fun c => isCode c || P c) = true) (h2 : ∀ c ∈ L.filter isCode, P c = true) : L.all P = true := by
  refine List.all_eq_true.mpr fun c hc => ?_
  have h := List.all_eq_true.mp h1 c hc
  rcases Bool.eq_false_or_eq_true (isCode c) with hi | hi
  · exact h2 c (List.mem_filter.mpr ⟨hc, hi⟩)
  · simpa [hi] using h
set_option maxRecDepth 65536 in
theorem w_c0 : (Jvm.Cond.code x code maxLocals ret).before args0 about1 = true := code_word (m := ⟨1, 2⟩) (meth := k1m2) (c := k1c2) (by decide +kernel) rfl rfl rfl (by decide +kernel)
set_option maxRecDepth 65536 in
theorem w_c1 : (Jvm.Cond.code ({ cls := "com/example/wandel/wandel/seed/Seeds", name := "derived", desc := "(JJ)J" } : Jvm.MethodName) prog_84_method_2_code (6 : Nat) (Option.some Jvm.ClassFile.FieldType.long)).before args0 about1 = true := code_word (m := ⟨2, 1⟩) (meth := k2m1) (c := k2c1) (by decide +kernel) rfl rfl rfl (by decide +kernel)
set_option maxRecDepth 65536 in
theorem w_c2 : (Jvm.Cond.code ({ cls := "com/example/wandel/wandel/seed/SeedsDerivedPinLaw", name := "inverseOdd", desc := "(J)J" } : Jvm.MethodName) method_2_code (4 : Nat) (Option.some Jvm.ClassFile.FieldType.long)).before args0 about1 = true := code_word (m := ⟨1, 1⟩) (meth := k1m1) (c := k1c1) (by decide +kernel) rfl rfl rfl (by decide +kernel)
def codes1 : List Jvm.Cond := [Jvm.Cond.code x code maxLocals ret, Jvm.Cond.code ({ cls := "com/example/wandel/wandel/seed/Seeds", name := "derived", desc := "(JJ)J" } : Jvm.MethodName) prog_84_method_2_code (6 : Nat) (Option.some Jvm.ClassFile.FieldType.long), Jvm.Cond.code ({ cls := "com/example/wandel/wandel/seed/SeedsDerivedPinLaw", name := "inverseOdd", desc := "(J)J" } : Jvm.MethodName) method_2_code (4 : Nat) (Option.some Jvm.ClassFile.FieldType.long)]
set_option maxRecDepth 65536 in
theorem codes_eq : words1.filter isCode = codes1 := rfl
theorem w_codes : ∀ c ∈ words1.filter isCode, c.before args0 about1 = true := by
  rw [codes_eq]
  intro c hc
  simp only [codes1, List.mem_cons, List.not_mem_nil, or_false] at hc
  rcases hc with rfl | rfl | rfl
  · exact w_c0
  · exact w_c1
  · exact w_c2
set_option maxRecDepth 65536 in
theorem w_t1 : words1.all (fun c => isCode c || c.before args0 about1) = true := by decide +kernel
theorem w_tables : (allAtoms (Jvm.Cond.code x code maxLocals ret :: tables_1)).before args0 about1 = true := by
  rw [allAtoms_all]
  show words1.all (fun c => c.before args0 about1) = true
  refine all_split ?_ w_codes
  rw [w_t1]
set_option maxRecDepth 65536 in
theorem w_case : (Jvm.Cond.and given_1 narrow_1).before args0 about1 = true := by decide +kernel
theorem w_applies : (headSpec (Jvm.Cond.code x code maxLocals ret :: tables_1) room_1).applies x e0.platform about1 = true :=
  (Spec.applies_iff w_frames).mpr ⟨w_running, w_runnable, w_alone, w_named, w_hears, w_ripe, w_room, w_tables⟩
theorem atStart : AtStart classFile x code maxLocals ret World_1 tables_1 room_1 Calls_1 rest_1 Pre_1 launch0 p0 e0 about1 theMethod args0 below0 :=
  ⟨lists_1, trivial, launch0.admits_env _ _ _, launch0.least_env, fairChoices_fair.cas, fairChoices_fair.clock, w_frames, w_args, w_heap, w_applies, trivial, trivial, w_case⟩
end start1
theorem witness_1 : WitnessClaimed_1 := ⟨start1.p0, start1.e0, start1.about1, start1.theMethod, start1.args0, start1.below0, start1.atStart⟩
end Jvm.Pilot.@@N@@
