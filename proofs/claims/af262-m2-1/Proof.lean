import JvmDerived
import JvmDerived.Pilot.@@N@@Statement
import JvmDerived.Pilot.@@N@@Code
set_option linter.unusedVariables false
set_option linter.unusedSimpArgs false
namespace Jvm.RoadKit
open Sem ClassFile Op Lib Jvm.Stand Jvm.Free Jvm.LawKit
section New
variable {p : Program} {l : Launch} {e : Env} {R : Room} {s : State} {m : MethodId} {args : Array Value} {below : List Frame} {meth : Method} {c : Code} {T : State} {locs : List Loc} {cells slots : Nat}
theorem retI (X : Stand p l e R s m args below meth c T locs cells slots) (hx : p.tables.exec = Jvm.exec) {pc : Nat} {Ls : Array Slot} {z : Int32} {rest : List Value} (hret : meth.sig.returnType = some .int) (hd : decode c.code pc = .ok (.ireturn, 1)) {fs : List Frame}
    (hl : ∀ (f : JFrame) (acts : List Action), f.method = m → f.locked = none → f.entered = [] → (doReturn e (T.setTop f) acts (some (.int z))).1 = T.setFrames fs) : Steps p.tables e below (T.setTop (mkF m pc Ls (.int z :: rest))) (T.setFrames fs) := by
  have hm' : T.vm.method? m = some meth := X.method'
  have hn : narrow .int (.int z) = .int z := rfl
  show Steps p.tables e below (T.setTop { method := m, pc := pc, locals := Ls, stack := _ :: rest, locked := none }) _
  jvm_step X.here [X.here.top, hx, hd, hm', hret, hn]
  first | (intro acts; rw [hl _ acts rfl rfl rfl]) | rw [hl _ _ rfl rfl rfl]
  exact Steps.refl _
end New
end Jvm.RoadKit
namespace Jvm.Pilot.@@N@@
open Jvm Jvm.ClassFile Sem Op Lib Jvm.Free Jvm.Stand Jvm.LawKit Jvm.RoadKit Bundle Jvm.Pilot.@@N@@.Jvm.D
theorem own_staK {Z : State} {h h' : Heap} {ws : List Addr} {C n d : String} {v : Value} (F : Sta Z h C n d v) (K : Keep h h' ws) (q : ∀ x ∈ ws, ∀ c : Cell, h[x]? = some c → c.vm.isStatics = false) : Sta Z h' C n d v := by
  obtain ⟨cf, i, k, f, st, cell, h1, h2, h3, h4, h5, h6, h7⟩ := F
  exact ⟨cf, i, k, f, st, cell, h1, h2, h3, h4, K.2.1 st cell h5 (fun z => by have := q st z cell h5; rw [h6] at this; cases this), h6, h7⟩
theorem own_exaN {Z : State} {h : Heap} {a : Addr} {C : String} (E : Exa Z h a C) : ∀ c : Cell, h[a]? = some c → c.vm.isStatics = false := fun c hc => by
  obtain ⟨c', k, h1, -, -, h4, -⟩ := E
  cases h1.symm.trans hc; exact h4
section OwnFloat
open Jvm.Free.Fl
theorem own_dload {tb : Tables} [Ours tb] {e : Env} {below : List Frame} {T target : State} {m : MethodId} {c : Code} {g : JFrame} (h : At T m c below) (hx : tb.exec = Jvm.exec) (hg : g.method = m) {k : Nat} {v : UInt64} (hd : decode c.code g.pc = .ok (.dload k, 2)) (hl : g.locals[k]? = some (.val (.double v)))
    (hr : Steps tb e below (T.setTop { g with pc := g.pc + 2, stack := .double v :: g.stack }) target) : Steps tb e below (T.setTop g) target := by
  subst hg
  jvm_step h [h.top, hx, hd, hl]
  exact hr
theorem own_dstore {tb : Tables} [Ours tb] {e : Env} {below : List Frame} {T target : State} {m : MethodId} {c : Code} {g : JFrame} (h : At T m c below) (hx : tb.exec = Jvm.exec) (hg : g.method = m) {k : Nat} {x : UInt64} {rest : List Value} {l' : Array Slot} (hd : decode c.code g.pc = .ok (.dstore k, 2)) (hs : g.stack = .double x :: rest) (hl : storeLocals g.locals k (.double x) = some l')
    (hr : Steps tb e below (T.setTop { g with pc := g.pc + 2, stack := rest, locals := l' }) target) : Steps tb e below (T.setTop g) target := by
  subst hg
  jvm_step h [h.top, hx, hd, hs, hl]
  exact hr
theorem own_dconst0 {tb : Tables} [Ours tb] {e : Env} {below : List Frame} {T target : State} {m : MethodId} {c : Code} {g : JFrame} (h : At T m c below) (hx : tb.exec = Jvm.exec) (hg : g.method = m) (hd : decode c.code g.pc = .ok (.dconst 0, 1))
    (hr : Steps tb e below (T.setTop { g with pc := g.pc + 1, stack := .double FP.dconst0 :: g.stack }) target) : Steps tb e below (T.setTop g) target := by
  subst hg
  jvm_step h [h.top, hx, hd]
  exact hr
theorem own_l2d {tb : Tables} [Ours tb] {e : Env} {below : List Frame} {T target : State} {m : MethodId} {c : Code} {g : JFrame} (h : At T m c below) (hx : tb.exec = Jvm.exec) (hg : g.method = m) {x : Int64} {rest : List Value} (hd : decode c.code g.pc = .ok (.l2d, 1)) (hs : g.stack = .long x :: rest)
    (hr : Steps tb e below (T.setTop { g with pc := g.pc + 1, stack := .double (FP.l2d x) :: rest }) target) : Steps tb e below (T.setTop g) target := by
  subst hg
  jvm_step h [h.top, hx, hd, hs]
  exact hr
theorem own_i2d {tb : Tables} [Ours tb] {e : Env} {below : List Frame} {T target : State} {m : MethodId} {c : Code} {g : JFrame} (h : At T m c below) (hx : tb.exec = Jvm.exec) (hg : g.method = m) {x : Int32} {rest : List Value} (hd : decode c.code g.pc = .ok (.i2d, 1)) (hs : g.stack = .int x :: rest)
    (hr : Steps tb e below (T.setTop { g with pc := g.pc + 1, stack := .double (FP.i2d x) :: rest }) target) : Steps tb e below (T.setTop g) target := by
  subst hg
  jvm_step h [h.top, hx, hd, hs]
  exact hr
theorem own_ddiv {tb : Tables} [Ours tb] {e : Env} {below : List Frame} {T target : State} {m : MethodId} {c : Code} {pc : Nat} {Ls : Array Slot} (h : At T m c below) (hx : tb.exec = Jvm.exec) {x y : UInt64} {rest : List Value} (hd : decode c.code pc = .ok (.ddiv, 1)) (hn : NoNaN64 (FP.ddiv x y))
    (hr : Steps tb e below (T.setTop (mkF m (pc + 1) Ls (.double (FP.ddiv x y) :: rest))) target) : Steps tb e below (T.setTop (mkF m pc Ls (.double y :: .double x :: rest))) target := by
  show Steps tb e below (T.setTop { method := m, pc := pc, locals := Ls, stack := .double y :: .double x :: rest, locked := none }) _
  jvm_step h [h.top, hx, hd, Op.ddiv.at_number h.top hn]
  exact hr
theorem own_dadd {tb : Tables} [Ours tb] {e : Env} {below : List Frame} {T target : State} {m : MethodId} {c : Code} {pc : Nat} {Ls : Array Slot} (h : At T m c below) (hx : tb.exec = Jvm.exec) {x y : UInt64} {rest : List Value} (hd : decode c.code pc = .ok (.dadd, 1)) (hn : NoNaN64 (FP.dadd x y))
    (hr : Steps tb e below (T.setTop (mkF m (pc + 1) Ls (.double (FP.dadd x y) :: rest))) target) : Steps tb e below (T.setTop (mkF m pc Ls (.double y :: .double x :: rest))) target := by
  show Steps tb e below (T.setTop { method := m, pc := pc, locals := Ls, stack := .double y :: .double x :: rest, locked := none }) _
  jvm_step h [h.top, hx, hd, Op.dadd.at_number h.top hn]
  exact hr
theorem own_dcmpl {tb : Tables} [Ours tb] {e : Env} {below : List Frame} {T target : State} {m : MethodId} {c : Code} {g : JFrame} (h : At T m c below) (hx : tb.exec = Jvm.exec) (hg : g.method = m) {x y : UInt64} {rest : List Value} (hd : decode c.code g.pc = .ok (.dcmp .l, 1)) (hs : g.stack = .double y :: .double x :: rest)
    (hr : Steps tb e below (T.setTop { g with pc := g.pc + 1, stack := .int (cmpValue (FP.dcmp x y) .l) :: rest }) target) : Steps tb e below (T.setTop g) target := by
  subst hg
  jvm_step h [h.top, hx, hd, hs]
  exact hr
theorem own_dcmp0 {x : UInt64} (h : NoNaN64 x) : cmpValue (FP.dcmp x x) .l = 0 := by
  have q : FP.dcmp x x = some .eq := Jvm.FP.Core.dcmp_self (val64_no.mp h)
  rw [q]; rfl
theorem own_stD {p : Program} {l : Launch} {e : Env} {R : Room} {s : State} {m : MethodId} {args : Array Value} {below : List Frame} {meth : Method} {c : Code} {T : State} {locs : List Loc} {cells slots : Nat} {Z : State} {h : Heap}
    (X : Stand p l e R s m args below meth c T locs cells slots) (hx : p.tables.exec = Jvm.exec) (hZ : Z.Warmed39 s.vm) (eT : T.heap = h) {a : Addr} {cl : Cell} (A : Arr Z h a cl .double) {j : Int32} {x : UInt64} (hj : ¬ (j < 0 ∨ cl.slots.size ≤ j.toNatClampNeg)) {g : JFrame} (hg : g.method = m) {rest : List Value} (hs : g.stack = .double x :: .int j :: .ref a :: rest) (hd : decode c.code g.pc = .ok (.dastore, 1)) :
    ∃ T' h', Stand p l e R s m args below meth c T' (locs ++ [⟨a, j.toNatClampNeg⟩]) cells slots ∧ T'.heap = h' ∧ Wr h h' a j.toNatClampNeg (.double x) ∧ ∀ target, Steps p.tables e below (T'.setTop { g with pc := g.pc + 1, stack := rest }) target → Steps p.tables e below (T.setTop g) target := by
  obtain ⟨X', st⟩ := X.dastore hx (by rw [eT]; exact A.1) (State.isArrayOf_alike hZ.alike A.2.1) A.2.2 hj hg hs hd
  exact ⟨_, _, X', rfl, ⟨cl, A.1, A.plain, Nat.lt_of_not_le fun q => hj (Or.inr q), by rw [← eT]; rfl⟩, st⟩
end OwnFloat
theorem own_geo0 {g : UInt64} (x : Int32) (h : Jvm.Free.Fl.NoNaN64 g) : Jvm.Free.Fl.NoNaN64 (FP.dadd g (FP.i2d x)) := Jvm.Free.Fl.dadd_out h (Jvm.Free.Fl.i2d_fin x)
theorem own_geo {g : UInt64} (x : Int32) (h : Jvm.Free.Fl.NoNaN64 g) : Jvm.Free.Fl.NoNaN64 (FP.ddiv (FP.dadd g (FP.i2d x)) (4611686018427387904 : UInt64)) :=
  Jvm.Free.Fl.ddiv_out (own_geo0 x h) (by unfold Jvm.Free.Fl.Fin64; decide) (by unfold Jvm.Free.Fl.Nz64; decide)
def Inv1 (kk : Int) (v0 c0 : Int32) (g0 : UInt64) (t0 t1 : Int64) : Prop := (0 ≤ v0.toInt ∧ v0.toInt ≤ kk) ∧ (0 ≤ c0.toInt ∧ c0.toInt ≤ kk) ∧ t0.toInt = v0.toInt ∧ t1.toInt = c0.toInt ∧ Jvm.Free.Fl.NoNaN64 g0
theorem own_same1 {kk : Int} {v0 c0 : Int32} {g0 : UInt64} {t0 t1 : Int64} (h : Inv1 kk v0 c0 g0 t0 t1) : Inv1 (kk + 1) v0 c0 g0 t0 t1 := by
  obtain ⟨hv0, hc0, ht0, ht1, hg0⟩ := h
  refine ⟨?_, ?_, ht0, ht1, hg0⟩ <;> omega
theorem own_up1_0_0 {kk : Int} {v0 c0 : Int32} {g0 : UInt64} {t0 t1 : Int64} {x : Int32} (hk : kk ≤ 100) (hx : x = 0) (h : Inv1 kk v0 c0 g0 t0 t1) : Inv1 (kk + 1) (v0 + (1 : Int32)) (c0 + x) (FP.ddiv (FP.dadd g0 (FP.i2d x)) (4611686018427387904 : UInt64)) (t0 + (1 : Int64)) t1 := by
  obtain ⟨hv0, hc0, ht0, ht1, hg0⟩ := h
  subst hx
  have e1 := c_iadd v0 1
  have e2 := c_iadd c0 0
  have e3 := c_ladd t0 1
  have e4 := c_ladd t1 1
  have r1 := rng32 (v0 + 1)
  have r2 := rng32 (c0 + 0)
  have r3 := rng64 (t0 + 1)
  have r4 := rng64 (t1 + 1)
  have o1 : (1 : Int32).toInt = 1 := by decide
  have o0 : (0 : Int32).toInt = 0 := by decide
  have o2 : (1 : Int64).toInt = 1 := by decide
  have hn := own_geo (0 : Int32) hg0
  refine ⟨?_, ?_, ?_, ?_, ?_⟩
  all_goals first | exact hn | assumption | omega
theorem own_up1_0_1 {kk : Int} {v0 c0 : Int32} {g0 : UInt64} {t0 t1 : Int64} {x : Int32} (hk : kk ≤ 100) (hx : x = 1) (h : Inv1 kk v0 c0 g0 t0 t1) : Inv1 (kk + 1) (v0 + (1 : Int32)) (c0 + x) (FP.ddiv (FP.dadd g0 (FP.i2d x)) (4611686018427387904 : UInt64)) (t0 + (1 : Int64)) (t1 + (1 : Int64)) := by
  obtain ⟨hv0, hc0, ht0, ht1, hg0⟩ := h
  subst hx
  have e1 := c_iadd v0 1
  have e2 := c_iadd c0 1
  have e3 := c_ladd t0 1
  have e4 := c_ladd t1 1
  have r1 := rng32 (v0 + 1)
  have r2 := rng32 (c0 + 1)
  have r3 := rng64 (t0 + 1)
  have r4 := rng64 (t1 + 1)
  have o1 : (1 : Int32).toInt = 1 := by decide
  have o0 : (0 : Int32).toInt = 0 := by decide
  have o2 : (1 : Int64).toInt = 1 := by decide
  have hn := own_geo (1 : Int32) hg0
  refine ⟨?_, ?_, ?_, ?_, ?_⟩
  all_goals first | exact hn | assumption | omega
def Inv2 (kk : Int) (v0 v1 c0 c1 : Int32) (g0 g1 : UInt64) (t0 t1 : Int64) : Prop := (0 ≤ v0.toInt ∧ v0.toInt ≤ kk) ∧ (0 ≤ v1.toInt ∧ v1.toInt ≤ kk) ∧ (0 ≤ c0.toInt ∧ c0.toInt ≤ kk) ∧ (0 ≤ c1.toInt ∧ c1.toInt ≤ kk) ∧ t0.toInt = v0.toInt + v1.toInt ∧ t1.toInt = c0.toInt + c1.toInt ∧ Jvm.Free.Fl.NoNaN64 g0 ∧ Jvm.Free.Fl.NoNaN64 g1
theorem own_same2 {kk : Int} {v0 v1 c0 c1 : Int32} {g0 g1 : UInt64} {t0 t1 : Int64} (h : Inv2 kk v0 v1 c0 c1 g0 g1 t0 t1) : Inv2 (kk + 1) v0 v1 c0 c1 g0 g1 t0 t1 := by
  obtain ⟨hv0, hv1, hc0, hc1, ht0, ht1, hg0, hg1⟩ := h
  refine ⟨?_, ?_, ?_, ?_, ht0, ht1, hg0, hg1⟩ <;> omega
theorem own_up2_0_0 {kk : Int} {v0 v1 c0 c1 : Int32} {g0 g1 : UInt64} {t0 t1 : Int64} {x : Int32} (hk : kk ≤ 100) (hx : x = 0) (h : Inv2 kk v0 v1 c0 c1 g0 g1 t0 t1) : Inv2 (kk + 1) (v0 + (1 : Int32)) v1 (c0 + x) c1 (FP.ddiv (FP.dadd g0 (FP.i2d x)) (4611686018427387904 : UInt64)) g1 (t0 + (1 : Int64)) t1 := by
  obtain ⟨hv0, hv1, hc0, hc1, ht0, ht1, hg0, hg1⟩ := h
  subst hx
  have e1 := c_iadd v0 1
  have e2 := c_iadd c0 0
  have e3 := c_ladd t0 1
  have e4 := c_ladd t1 1
  have r1 := rng32 (v0 + 1)
  have r2 := rng32 (c0 + 0)
  have r3 := rng64 (t0 + 1)
  have r4 := rng64 (t1 + 1)
  have o1 : (1 : Int32).toInt = 1 := by decide
  have o0 : (0 : Int32).toInt = 0 := by decide
  have o2 : (1 : Int64).toInt = 1 := by decide
  have hn := own_geo (0 : Int32) hg0
  refine ⟨?_, ?_, ?_, ?_, ?_, ?_, ?_, ?_⟩
  all_goals first | exact hn | assumption | omega
theorem own_up2_0_1 {kk : Int} {v0 v1 c0 c1 : Int32} {g0 g1 : UInt64} {t0 t1 : Int64} {x : Int32} (hk : kk ≤ 100) (hx : x = 1) (h : Inv2 kk v0 v1 c0 c1 g0 g1 t0 t1) : Inv2 (kk + 1) (v0 + (1 : Int32)) v1 (c0 + x) c1 (FP.ddiv (FP.dadd g0 (FP.i2d x)) (4611686018427387904 : UInt64)) g1 (t0 + (1 : Int64)) (t1 + (1 : Int64)) := by
  obtain ⟨hv0, hv1, hc0, hc1, ht0, ht1, hg0, hg1⟩ := h
  subst hx
  have e1 := c_iadd v0 1
  have e2 := c_iadd c0 1
  have e3 := c_ladd t0 1
  have e4 := c_ladd t1 1
  have r1 := rng32 (v0 + 1)
  have r2 := rng32 (c0 + 1)
  have r3 := rng64 (t0 + 1)
  have r4 := rng64 (t1 + 1)
  have o1 : (1 : Int32).toInt = 1 := by decide
  have o0 : (0 : Int32).toInt = 0 := by decide
  have o2 : (1 : Int64).toInt = 1 := by decide
  have hn := own_geo (1 : Int32) hg0
  refine ⟨?_, ?_, ?_, ?_, ?_, ?_, ?_, ?_⟩
  all_goals first | exact hn | assumption | omega
theorem own_up2_1_0 {kk : Int} {v0 v1 c0 c1 : Int32} {g0 g1 : UInt64} {t0 t1 : Int64} {x : Int32} (hk : kk ≤ 100) (hx : x = 0) (h : Inv2 kk v0 v1 c0 c1 g0 g1 t0 t1) : Inv2 (kk + 1) v0 (v1 + (1 : Int32)) c0 (c1 + x) g0 (FP.ddiv (FP.dadd g1 (FP.i2d x)) (4611686018427387904 : UInt64)) (t0 + (1 : Int64)) t1 := by
  obtain ⟨hv0, hv1, hc0, hc1, ht0, ht1, hg0, hg1⟩ := h
  subst hx
  have e1 := c_iadd v1 1
  have e2 := c_iadd c1 0
  have e3 := c_ladd t0 1
  have e4 := c_ladd t1 1
  have r1 := rng32 (v1 + 1)
  have r2 := rng32 (c1 + 0)
  have r3 := rng64 (t0 + 1)
  have r4 := rng64 (t1 + 1)
  have o1 : (1 : Int32).toInt = 1 := by decide
  have o0 : (0 : Int32).toInt = 0 := by decide
  have o2 : (1 : Int64).toInt = 1 := by decide
  have hn := own_geo (0 : Int32) hg1
  refine ⟨?_, ?_, ?_, ?_, ?_, ?_, ?_, ?_⟩
  all_goals first | exact hn | assumption | omega
theorem own_up2_1_1 {kk : Int} {v0 v1 c0 c1 : Int32} {g0 g1 : UInt64} {t0 t1 : Int64} {x : Int32} (hk : kk ≤ 100) (hx : x = 1) (h : Inv2 kk v0 v1 c0 c1 g0 g1 t0 t1) : Inv2 (kk + 1) v0 (v1 + (1 : Int32)) c0 (c1 + x) g0 (FP.ddiv (FP.dadd g1 (FP.i2d x)) (4611686018427387904 : UInt64)) (t0 + (1 : Int64)) (t1 + (1 : Int64)) := by
  obtain ⟨hv0, hv1, hc0, hc1, ht0, ht1, hg0, hg1⟩ := h
  subst hx
  have e1 := c_iadd v1 1
  have e2 := c_iadd c1 1
  have e3 := c_ladd t0 1
  have e4 := c_ladd t1 1
  have r1 := rng32 (v1 + 1)
  have r2 := rng32 (c1 + 1)
  have r3 := rng64 (t0 + 1)
  have r4 := rng64 (t1 + 1)
  have o1 : (1 : Int32).toInt = 1 := by decide
  have o0 : (0 : Int32).toInt = 0 := by decide
  have o2 : (1 : Int64).toInt = 1 := by decide
  have hn := own_geo (1 : Int32) hg1
  refine ⟨?_, ?_, ?_, ?_, ?_, ?_, ?_, ?_⟩
  all_goals first | exact hn | assumption | omega
def Inv3 (kk : Int) (v0 v1 v2 c0 c1 c2 : Int32) (g0 g1 g2 : UInt64) (t0 t1 : Int64) : Prop := (0 ≤ v0.toInt ∧ v0.toInt ≤ kk) ∧ (0 ≤ v1.toInt ∧ v1.toInt ≤ kk) ∧ (0 ≤ v2.toInt ∧ v2.toInt ≤ kk) ∧ (0 ≤ c0.toInt ∧ c0.toInt ≤ kk) ∧ (0 ≤ c1.toInt ∧ c1.toInt ≤ kk) ∧ (0 ≤ c2.toInt ∧ c2.toInt ≤ kk) ∧ t0.toInt = v0.toInt + v1.toInt + v2.toInt ∧ t1.toInt = c0.toInt + c1.toInt + c2.toInt ∧ Jvm.Free.Fl.NoNaN64 g0 ∧ Jvm.Free.Fl.NoNaN64 g1 ∧ Jvm.Free.Fl.NoNaN64 g2
theorem own_same3 {kk : Int} {v0 v1 v2 c0 c1 c2 : Int32} {g0 g1 g2 : UInt64} {t0 t1 : Int64} (h : Inv3 kk v0 v1 v2 c0 c1 c2 g0 g1 g2 t0 t1) : Inv3 (kk + 1) v0 v1 v2 c0 c1 c2 g0 g1 g2 t0 t1 := by
  obtain ⟨hv0, hv1, hv2, hc0, hc1, hc2, ht0, ht1, hg0, hg1, hg2⟩ := h
  refine ⟨?_, ?_, ?_, ?_, ?_, ?_, ht0, ht1, hg0, hg1, hg2⟩ <;> omega
theorem own_up3_0_0 {kk : Int} {v0 v1 v2 c0 c1 c2 : Int32} {g0 g1 g2 : UInt64} {t0 t1 : Int64} {x : Int32} (hk : kk ≤ 100) (hx : x = 0) (h : Inv3 kk v0 v1 v2 c0 c1 c2 g0 g1 g2 t0 t1) : Inv3 (kk + 1) (v0 + (1 : Int32)) v1 v2 (c0 + x) c1 c2 (FP.ddiv (FP.dadd g0 (FP.i2d x)) (4611686018427387904 : UInt64)) g1 g2 (t0 + (1 : Int64)) t1 := by
  obtain ⟨hv0, hv1, hv2, hc0, hc1, hc2, ht0, ht1, hg0, hg1, hg2⟩ := h
  subst hx
  have e1 := c_iadd v0 1
  have e2 := c_iadd c0 0
  have e3 := c_ladd t0 1
  have e4 := c_ladd t1 1
  have r1 := rng32 (v0 + 1)
  have r2 := rng32 (c0 + 0)
  have r3 := rng64 (t0 + 1)
  have r4 := rng64 (t1 + 1)
  have o1 : (1 : Int32).toInt = 1 := by decide
  have o0 : (0 : Int32).toInt = 0 := by decide
  have o2 : (1 : Int64).toInt = 1 := by decide
  have hn := own_geo (0 : Int32) hg0
  refine ⟨?_, ?_, ?_, ?_, ?_, ?_, ?_, ?_, ?_, ?_, ?_⟩
  all_goals first | exact hn | assumption | omega
theorem own_up3_0_1 {kk : Int} {v0 v1 v2 c0 c1 c2 : Int32} {g0 g1 g2 : UInt64} {t0 t1 : Int64} {x : Int32} (hk : kk ≤ 100) (hx : x = 1) (h : Inv3 kk v0 v1 v2 c0 c1 c2 g0 g1 g2 t0 t1) : Inv3 (kk + 1) (v0 + (1 : Int32)) v1 v2 (c0 + x) c1 c2 (FP.ddiv (FP.dadd g0 (FP.i2d x)) (4611686018427387904 : UInt64)) g1 g2 (t0 + (1 : Int64)) (t1 + (1 : Int64)) := by
  obtain ⟨hv0, hv1, hv2, hc0, hc1, hc2, ht0, ht1, hg0, hg1, hg2⟩ := h
  subst hx
  have e1 := c_iadd v0 1
  have e2 := c_iadd c0 1
  have e3 := c_ladd t0 1
  have e4 := c_ladd t1 1
  have r1 := rng32 (v0 + 1)
  have r2 := rng32 (c0 + 1)
  have r3 := rng64 (t0 + 1)
  have r4 := rng64 (t1 + 1)
  have o1 : (1 : Int32).toInt = 1 := by decide
  have o0 : (0 : Int32).toInt = 0 := by decide
  have o2 : (1 : Int64).toInt = 1 := by decide
  have hn := own_geo (1 : Int32) hg0
  refine ⟨?_, ?_, ?_, ?_, ?_, ?_, ?_, ?_, ?_, ?_, ?_⟩
  all_goals first | exact hn | assumption | omega
theorem own_up3_1_0 {kk : Int} {v0 v1 v2 c0 c1 c2 : Int32} {g0 g1 g2 : UInt64} {t0 t1 : Int64} {x : Int32} (hk : kk ≤ 100) (hx : x = 0) (h : Inv3 kk v0 v1 v2 c0 c1 c2 g0 g1 g2 t0 t1) : Inv3 (kk + 1) v0 (v1 + (1 : Int32)) v2 c0 (c1 + x) c2 g0 (FP.ddiv (FP.dadd g1 (FP.i2d x)) (4611686018427387904 : UInt64)) g2 (t0 + (1 : Int64)) t1 := by
  obtain ⟨hv0, hv1, hv2, hc0, hc1, hc2, ht0, ht1, hg0, hg1, hg2⟩ := h
  subst hx
  have e1 := c_iadd v1 1
  have e2 := c_iadd c1 0
  have e3 := c_ladd t0 1
  have e4 := c_ladd t1 1
  have r1 := rng32 (v1 + 1)
  have r2 := rng32 (c1 + 0)
  have r3 := rng64 (t0 + 1)
  have r4 := rng64 (t1 + 1)
  have o1 : (1 : Int32).toInt = 1 := by decide
  have o0 : (0 : Int32).toInt = 0 := by decide
  have o2 : (1 : Int64).toInt = 1 := by decide
  have hn := own_geo (0 : Int32) hg1
  refine ⟨?_, ?_, ?_, ?_, ?_, ?_, ?_, ?_, ?_, ?_, ?_⟩
  all_goals first | exact hn | assumption | omega
theorem own_up3_1_1 {kk : Int} {v0 v1 v2 c0 c1 c2 : Int32} {g0 g1 g2 : UInt64} {t0 t1 : Int64} {x : Int32} (hk : kk ≤ 100) (hx : x = 1) (h : Inv3 kk v0 v1 v2 c0 c1 c2 g0 g1 g2 t0 t1) : Inv3 (kk + 1) v0 (v1 + (1 : Int32)) v2 c0 (c1 + x) c2 g0 (FP.ddiv (FP.dadd g1 (FP.i2d x)) (4611686018427387904 : UInt64)) g2 (t0 + (1 : Int64)) (t1 + (1 : Int64)) := by
  obtain ⟨hv0, hv1, hv2, hc0, hc1, hc2, ht0, ht1, hg0, hg1, hg2⟩ := h
  subst hx
  have e1 := c_iadd v1 1
  have e2 := c_iadd c1 1
  have e3 := c_ladd t0 1
  have e4 := c_ladd t1 1
  have r1 := rng32 (v1 + 1)
  have r2 := rng32 (c1 + 1)
  have r3 := rng64 (t0 + 1)
  have r4 := rng64 (t1 + 1)
  have o1 : (1 : Int32).toInt = 1 := by decide
  have o0 : (0 : Int32).toInt = 0 := by decide
  have o2 : (1 : Int64).toInt = 1 := by decide
  have hn := own_geo (1 : Int32) hg1
  refine ⟨?_, ?_, ?_, ?_, ?_, ?_, ?_, ?_, ?_, ?_, ?_⟩
  all_goals first | exact hn | assumption | omega
theorem own_up3_2_0 {kk : Int} {v0 v1 v2 c0 c1 c2 : Int32} {g0 g1 g2 : UInt64} {t0 t1 : Int64} {x : Int32} (hk : kk ≤ 100) (hx : x = 0) (h : Inv3 kk v0 v1 v2 c0 c1 c2 g0 g1 g2 t0 t1) : Inv3 (kk + 1) v0 v1 (v2 + (1 : Int32)) c0 c1 (c2 + x) g0 g1 (FP.ddiv (FP.dadd g2 (FP.i2d x)) (4611686018427387904 : UInt64)) (t0 + (1 : Int64)) t1 := by
  obtain ⟨hv0, hv1, hv2, hc0, hc1, hc2, ht0, ht1, hg0, hg1, hg2⟩ := h
  subst hx
  have e1 := c_iadd v2 1
  have e2 := c_iadd c2 0
  have e3 := c_ladd t0 1
  have e4 := c_ladd t1 1
  have r1 := rng32 (v2 + 1)
  have r2 := rng32 (c2 + 0)
  have r3 := rng64 (t0 + 1)
  have r4 := rng64 (t1 + 1)
  have o1 : (1 : Int32).toInt = 1 := by decide
  have o0 : (0 : Int32).toInt = 0 := by decide
  have o2 : (1 : Int64).toInt = 1 := by decide
  have hn := own_geo (0 : Int32) hg2
  refine ⟨?_, ?_, ?_, ?_, ?_, ?_, ?_, ?_, ?_, ?_, ?_⟩
  all_goals first | exact hn | assumption | omega
theorem own_up3_2_1 {kk : Int} {v0 v1 v2 c0 c1 c2 : Int32} {g0 g1 g2 : UInt64} {t0 t1 : Int64} {x : Int32} (hk : kk ≤ 100) (hx : x = 1) (h : Inv3 kk v0 v1 v2 c0 c1 c2 g0 g1 g2 t0 t1) : Inv3 (kk + 1) v0 v1 (v2 + (1 : Int32)) c0 c1 (c2 + x) g0 g1 (FP.ddiv (FP.dadd g2 (FP.i2d x)) (4611686018427387904 : UInt64)) (t0 + (1 : Int64)) (t1 + (1 : Int64)) := by
  obtain ⟨hv0, hv1, hv2, hc0, hc1, hc2, ht0, ht1, hg0, hg1, hg2⟩ := h
  subst hx
  have e1 := c_iadd v2 1
  have e2 := c_iadd c2 1
  have e3 := c_ladd t0 1
  have e4 := c_ladd t1 1
  have r1 := rng32 (v2 + 1)
  have r2 := rng32 (c2 + 1)
  have r3 := rng64 (t0 + 1)
  have r4 := rng64 (t1 + 1)
  have o1 : (1 : Int32).toInt = 1 := by decide
  have o0 : (0 : Int32).toInt = 0 := by decide
  have o2 : (1 : Int64).toInt = 1 := by decide
  have hn := own_geo (1 : Int32) hg2
  refine ⟨?_, ?_, ?_, ?_, ?_, ?_, ?_, ?_, ?_, ?_, ?_⟩
  all_goals first | exact hn | assumption | omega
theorem d1_0 : decode prog_61_method_1_code 0 = .ok (.aload_n 0, 1) := by decide +kernel
theorem d1_1 : decode prog_61_method_1_code 1 = .ok (.invokespecial 7, 3) := by decide +kernel
theorem d1_4 : decode prog_61_method_1_code 4 = .ok (.aload_n 0, 1) := by decide +kernel
theorem d1_5 : decode prog_61_method_1_code 5 = .ok (.iload_n 1, 1) := by decide +kernel
theorem d1_6 : decode prog_61_method_1_code 6 = .ok (.newarray .int, 2) := by decide +kernel
theorem d1_8 : decode prog_61_method_1_code 8 = .ok (.putfield 13, 3) := by decide +kernel
theorem d1_11 : decode prog_61_method_1_code 11 = .ok (.aload_n 0, 1) := by decide +kernel
theorem d1_12 : decode prog_61_method_1_code 12 = .ok (.iload_n 1, 1) := by decide +kernel
theorem d1_13 : decode prog_61_method_1_code 13 = .ok (.newarray .int, 2) := by decide +kernel
theorem d1_15 : decode prog_61_method_1_code 15 = .ok (.putfield 19, 3) := by decide +kernel
theorem d1_18 : decode prog_61_method_1_code 18 = .ok (.aload_n 0, 1) := by decide +kernel
theorem d1_19 : decode prog_61_method_1_code 19 = .ok (.iload_n 1, 1) := by decide +kernel
theorem d1_20 : decode prog_61_method_1_code 20 = .ok (.newarray .boolean, 2) := by decide +kernel
theorem d1_22 : decode prog_61_method_1_code 22 = .ok (.putfield 22, 3) := by decide +kernel
theorem d1_25 : decode prog_61_method_1_code 25 = .ok (.aload_n 0, 1) := by decide +kernel
theorem d1_26 : decode prog_61_method_1_code 26 = .ok (.iload_n 1, 1) := by decide +kernel
theorem d1_27 : decode prog_61_method_1_code 27 = .ok (.newarray .long, 2) := by decide +kernel
theorem d1_29 : decode prog_61_method_1_code 29 = .ok (.putfield 26, 3) := by decide +kernel
theorem d1_32 : decode prog_61_method_1_code 32 = .ok (.aload_n 0, 1) := by decide +kernel
theorem d1_33 : decode prog_61_method_1_code 33 = .ok (.iload_n 1, 1) := by decide +kernel
theorem d1_34 : decode prog_61_method_1_code 34 = .ok (.newarray .double, 2) := by decide +kernel
theorem d1_36 : decode prog_61_method_1_code 36 = .ok (.putfield 30, 3) := by decide +kernel
theorem d1_39 : decode prog_61_method_1_code 39 = .ok (.return_, 1) := by decide +kernel
theorem pn_com_example_wandel_wandel_replay_Observations : plainName "com/example/wandel/wandel/replay/Observations" = true := by first | (simp [plainName, overriddenIn]; done) | decide +kernel
theorem ef_1n0 (r0 : Addr)  (m : MethodId) : entryFrame m #[(.ref r0), (.int (0 : Int32))] 2 = mkF m 0 #[.val (.ref r0), .val (.int (0 : Int32))] [] := by first | (simp [entryFrame, mkF, argsToLocals, Value.category]; done) | rfl
def Q1n0 (Z : State) (r0 : Addr)  (h0 : Heap) (n0 : Nat) (v : Option Value) (h : Heap) (L : List Loc) : Prop := ∃ (ca : Addr) (ch : Addr) (lc : Addr) (ar : Addr) (ge : Addr) (kca : ClassId) (kch : ClassId) (klc : ClassId) (kar : ClassId) (kge : ClassId), v = none ∧ Fr n0 L ∧ Keep h0 h [r0] ∧ Exa Z h r0 "com/example/wandel/wandel/replay/Observations" ∧ Fld Z h r0 "com/example/wandel/wandel/replay/Observations" "count" "[I" (.ref ca) ∧ Fld Z h r0 "com/example/wandel/wandel/replay/Observations" "changes" "[I" (.ref ch) ∧ Fld Z h r0 "com/example/wandel/wandel/replay/Observations" "lastChanged" "[Z" (.ref lc) ∧ Fld Z h r0 "com/example/wandel/wandel/replay/Observations" "arithmetic" "[J" (.ref ar) ∧ Fld Z h r0 "com/example/wandel/wandel/replay/Observations" "geometric" "[D" (.ref ge) ∧ Arv Z h ca kca .int (0 : Int32) [] (.int (0 : Int32)) ∧ Arv Z h ch kch .int (0 : Int32) [] (.int (0 : Int32)) ∧ Arv Z h lc klc .boolean (0 : Int32) [] (.int (0 : Int32)) ∧ Arv Z h ar kar .long (0 : Int32) [] (.long (0 : Int64)) ∧ Arv Z h ge kge .double (0 : Int32) [] (.double (0 : UInt64)) ∧ r0 ≠ ca ∧ r0 ≠ ch ∧ r0 ≠ lc ∧ r0 ≠ ar ∧ r0 ≠ ge ∧ ca ≠ ch ∧ ca ≠ lc ∧ ca ≠ ar ∧ ca ≠ ge ∧ ch ≠ lc ∧ ch ≠ ar ∧ ch ≠ ge ∧ lc ≠ ar ∧ lc ≠ ge ∧ ar ≠ ge ∧ h0.size ≤ ca ∧ h0.size ≤ ch ∧ h0.size ≤ lc ∧ h0.size ≤ ar ∧ h0.size ≤ ge
set_option maxRecDepth 65536 in
set_option maxHeartbeats 40000000 in
theorem rm1n0 (l : Launch) (Z : State) (a0 : Array Value) (hw : ∀ d ∈ tables_1, d.before a0 Z = true) (ws : List Jvm.Cond) (r0 : Addr)  (h0 : Heap) (n0 : Nat) (Z0 : n0 ≤ h0.size) (E_r : Exa Z h0 r0 "com/example/wandel/wandel/replay/Observations") (F_count : Fld Z h0 r0 "com/example/wandel/wandel/replay/Observations" "count" "[I" .null) (F_changes : Fld Z h0 r0 "com/example/wandel/wandel/replay/Observations" "changes" "[I" .null) (F_lastChanged : Fld Z h0 r0 "com/example/wandel/wandel/replay/Observations" "lastChanged" "[Z" .null) (F_arithmetic : Fld Z h0 r0 "com/example/wandel/wandel/replay/Observations" "arithmetic" "[J" .null) (F_geometric : Fld Z h0 r0 "com/example/wandel/wandel/replay/Observations" "geometric" "[D" .null) (g_r0 : n0 ≤ r0) :
    MetFree l (⟨"com/example/wandel/wandel/replay/Observations", "<init>", "(I)V"⟩ : MethodName) (head1 (Jvm.Cond.code (⟨"com/example/wandel/wandel/replay/Observations", "<init>", "(I)V"⟩ : MethodName) prog_61_method_1_code 2 none :: ws) ({ frames := 1, cells := 5, slots := 0, locals := 12 } : Room)) (fun a U => a = #[(.ref r0), (.int (0 : Int32))] ∧ Z.Warmed39 U.vm ∧ U.heap = h0) (fun _ _ _ _ _ => True) (fun _ U o U' => ∃ v L, o = .returned v ∧ Q1n0 Z r0 h0 n0 v U'.heap L ∧ FrameEnd U o U' L ({ frames := 1, cells := 5, slots := 0, locals := 12 } : Room).cells ({ frames := 1, cells := 5, slots := 0, locals := 12 } : Room).slots) := by
  refine MetFree.of_bodySF (plainFor_of_name pn_com_example_wandel_wandel_replay_Observations) hisR ?_
  intro p e s m args below meth c s₁ Bd hml0 hP hK
  obtain ⟨rfl, hZ, hh⟩ := hP
  have hx := Bd.exec
  have hby := Bd.bytes
  have hml : c.maxLocals = 2 := hml0
  have hown : s.vm.findClass "com/example/wandel/wandel/replay/Observations" = some m.cls := findClass_of_methodNamed Bd.named
  have hnm := (name_of_methodNamed Bd.named Bd.method).1
  have X0 : Stand p l e ({ frames := 1, cells := 5, slots := 0, locals := 12 } : Room) s m #[(.ref r0), (.int (0 : Int32))] below meth c s₁ [] 0 0 := Stand.of_body Bd
  have e0 : s₁.heap = h0 := by rw [← hh, Bd.state]; rfl
  have N0 := Fr.nil n0
  have pre0 : ∀ t, Steps p.tables e below (s₁.setTop (mkF m 0 #[.val (.ref r0), .val (.int (0 : Int32))] [])) t → Steps p.tables e below (s₁.setTop (entryFrame m #[(.ref r0), (.int (0 : Int32))] 2)) t := fun t k => castTop (ef_1n0 r0 m) k
  obtain ⟨T1, X1, e1, st1⟩ := initO X0 hx hZ hown (hw _ (List.mem_of_getElem? (i := 6) rfl)) (hw _ (List.mem_of_getElem? (i := 7) rfl)) (hw _ (List.mem_of_getElem? (i := 8) rfl)) e0 (g := (mkF m 1 #[.val (.ref r0), .val (.int (0 : Int32))] [(.ref r0)])) rfl (by rw [hml]; rfl) rfl (hb hby d1_1) (by decide) (W := 0) (by show 2 * 0 + _ ≤ _; exact Nat.le_of_eq rfl) (by decide)
  obtain ⟨T2, h2, k2, X2, e2, E2, A2, st2⟩ := newP X1 hx hZ (hw _ (List.mem_of_getElem? (i := 9) rfl)) e1 (g := (mkF m 6 #[.val (.ref r0), .val (.int (0 : Int32))] [(.int (0 : Int32)), (.ref r0)])) rfl (hb hby d1_6) rfl (by decide) (cap := 0) (by decide) (by decide) (by decide) (by decide)
  obtain ⟨b2, g2⟩ : ∃ z, z = h0.size := ⟨_, rfl⟩
  rw [← g2] at A2 st2
  have ne3 : r0 ≠ b2 := Nat.ne_of_lt (Nat.lt_of_lt_of_le E_r.lt (Nat.le_of_eq g2.symm))
  have g_b2 : n0 ≤ b2 := Nat.le_trans Z0 (Nat.le_of_eq g2.symm)
  have sz_b2 : h0.size ≤ b2 := Nat.le_trans (Keep.refl h0 [r0]).1 (Nat.le_of_eq g2.symm)
  have V_b2 : Arv Z h2 b2 k2 .int (0 : Int32) [] (.int (0 : Int32)) := Arv.new A2 (by decide)
  have K2 : Keep h0 h2 [r0] := (Keep.refl h0 [r0]).ext E2
  obtain ⟨T4, h4, X4, e4, W4, st4⟩ := putF X2 hx hZ hown (host := "") (Or.inl (hw _ (List.mem_of_getElem? (i := 10) rfl))) Via.refl e2 (Fld.ext E2 F_count) (Exa.ext E2 E_r) (Or.inr ⟨(hw _ (List.mem_of_getElem? (i := 11) rfl)), rfl, hnm⟩) (hw _ (List.mem_of_getElem? (i := 1) rfl)) (ty := (.array .int)) (by decide) rfl rfl (g := (mkF m 8 #[.val (.ref r0), .val (.int (0 : Int32))] [(.ref b2), (.ref r0)])) rfl rfl (hb hby d1_8)
  have Fw4 : Fld Z h4 r0 "com/example/wandel/wandel/replay/Observations" "count" "[I" (.ref b2) := Fld.same W4 (Fld.ext E2 F_count)
  have K4 : Keep h0 h4 [r0] := K2.wr W4 (Or.inl (List.mem_of_getElem? (i := 0) rfl))
  have N4 := Fr.snoc X4 N0 g_r0
  obtain ⟨T5, h5, k5, X5, e5, E5, A5, st5⟩ := newP X4 hx hZ (hw _ (List.mem_of_getElem? (i := 9) rfl)) e4 (g := (mkF m 13 #[.val (.ref r0), .val (.int (0 : Int32))] [(.int (0 : Int32)), (.ref r0)])) rfl (hb hby d1_13) rfl (by decide) (cap := 0) (by decide) (by decide) (by decide) (by decide)
  obtain ⟨b5, g5⟩ : ∃ z, z = h4.size := ⟨_, rfl⟩
  rw [← g5] at A5 st5
  have ne6 : r0 ≠ b5 := Nat.ne_of_lt (Nat.lt_of_lt_of_le (Exa.wr W4 (Exa.ext E2 E_r)).lt (Nat.le_of_eq g5.symm))
  have ne7 : b2 ≠ b5 := Nat.ne_of_lt (Nat.lt_of_lt_of_le (V_b2.other W4 (Ne.symm ne3)).lt (Nat.le_of_eq g5.symm))
  have g_b5 : n0 ≤ b5 := Nat.le_trans (Nat.le_trans (Nat.le_trans Z0 E2.1) (Keep.of_wr W4).1) (Nat.le_of_eq g5.symm)
  have sz_b5 : h0.size ≤ b5 := Nat.le_trans K4.1 (Nat.le_of_eq g5.symm)
  have V_b5 : Arv Z h5 b5 k5 .int (0 : Int32) [] (.int (0 : Int32)) := Arv.new A5 (by decide)
  have K5 : Keep h0 h5 [r0] := K4.ext E5
  obtain ⟨T8, h8, X8, e8, W8, st8⟩ := putF X5 hx hZ hown (host := "") (Or.inl (hw _ (List.mem_of_getElem? (i := 12) rfl))) Via.refl e5 (Fld.ext E5 (Fld.other W4 (Fld.ext E2 F_changes) (Or.inr (slot_ne (Or.inr (hw _ (List.mem_of_getElem? (i := 13) rfl))) (Or.inr (hw _ (List.mem_of_getElem? (i := 11) rfl))) (by decide) (t := (.array .int)) (t' := (.array .int)) (by decide) (by decide))))) (Exa.ext E5 (Exa.wr W4 (Exa.ext E2 E_r))) (Or.inr ⟨(hw _ (List.mem_of_getElem? (i := 13) rfl)), rfl, hnm⟩) (hw _ (List.mem_of_getElem? (i := 1) rfl)) (ty := (.array .int)) (by decide) rfl rfl (g := (mkF m 15 #[.val (.ref r0), .val (.int (0 : Int32))] [(.ref b5), (.ref r0)])) rfl rfl (hb hby d1_15)
  have Fw8 : Fld Z h8 r0 "com/example/wandel/wandel/replay/Observations" "changes" "[I" (.ref b5) := Fld.same W8 (Fld.ext E5 (Fld.other W4 (Fld.ext E2 F_changes) (Or.inr (slot_ne (Or.inr (hw _ (List.mem_of_getElem? (i := 13) rfl))) (Or.inr (hw _ (List.mem_of_getElem? (i := 11) rfl))) (by decide) (t := (.array .int)) (t' := (.array .int)) (by decide) (by decide)))))
  have K8 : Keep h0 h8 [r0] := K5.wr W8 (Or.inl (List.mem_of_getElem? (i := 0) rfl))
  have N8 := Fr.snoc X8 N4 g_r0
  obtain ⟨T9, h9, k9, X9, e9, E9, A9, st9⟩ := newP X8 hx hZ (hw _ (List.mem_of_getElem? (i := 14) rfl)) e8 (g := (mkF m 20 #[.val (.ref r0), .val (.int (0 : Int32))] [(.int (0 : Int32)), (.ref r0)])) rfl (hb hby d1_20) rfl (by decide) (cap := 0) (by decide) (by decide) (by decide) (by decide)
  obtain ⟨b9, g9⟩ : ∃ z, z = h8.size := ⟨_, rfl⟩
  rw [← g9] at A9 st9
  have ne10 : r0 ≠ b9 := Nat.ne_of_lt (Nat.lt_of_lt_of_le (Exa.wr W8 (Exa.ext E5 (Exa.wr W4 (Exa.ext E2 E_r)))).lt (Nat.le_of_eq g9.symm))
  have ne11 : b2 ≠ b9 := Nat.ne_of_lt (Nat.lt_of_lt_of_le (((V_b2.other W4 (Ne.symm ne3)).ext E5).other W8 (Ne.symm ne3)).lt (Nat.le_of_eq g9.symm))
  have ne12 : b5 ≠ b9 := Nat.ne_of_lt (Nat.lt_of_lt_of_le (V_b5.other W8 (Ne.symm ne6)).lt (Nat.le_of_eq g9.symm))
  have g_b9 : n0 ≤ b9 := Nat.le_trans (Nat.le_trans (Nat.le_trans (Nat.le_trans (Nat.le_trans Z0 E2.1) (Keep.of_wr W4).1) E5.1) (Keep.of_wr W8).1) (Nat.le_of_eq g9.symm)
  have sz_b9 : h0.size ≤ b9 := Nat.le_trans K8.1 (Nat.le_of_eq g9.symm)
  have V_b9 : Arv Z h9 b9 k9 .boolean (0 : Int32) [] (.int (0 : Int32)) := Arv.new A9 (by decide)
  have K9 : Keep h0 h9 [r0] := K8.ext E9
  obtain ⟨T13, h13, X13, e13, W13, st13⟩ := putF X9 hx hZ hown (host := "") (Or.inl (hw _ (List.mem_of_getElem? (i := 15) rfl))) Via.refl e9 (Fld.ext E9 (Fld.other W8 (Fld.ext E5 (Fld.other W4 (Fld.ext E2 F_lastChanged) (Or.inr (slot_ne (Or.inr (hw _ (List.mem_of_getElem? (i := 16) rfl))) (Or.inr (hw _ (List.mem_of_getElem? (i := 11) rfl))) (by decide) (t := (.array .boolean)) (t' := (.array .int)) (by decide) (by decide))))) (Or.inr (slot_ne (Or.inr (hw _ (List.mem_of_getElem? (i := 16) rfl))) (Or.inr (hw _ (List.mem_of_getElem? (i := 13) rfl))) (by decide) (t := (.array .boolean)) (t' := (.array .int)) (by decide) (by decide))))) (Exa.ext E9 (Exa.wr W8 (Exa.ext E5 (Exa.wr W4 (Exa.ext E2 E_r))))) (Or.inr ⟨(hw _ (List.mem_of_getElem? (i := 16) rfl)), rfl, hnm⟩) (hw _ (List.mem_of_getElem? (i := 1) rfl)) (ty := (.array .boolean)) (by decide) rfl rfl (g := (mkF m 22 #[.val (.ref r0), .val (.int (0 : Int32))] [(.ref b9), (.ref r0)])) rfl rfl (hb hby d1_22)
  have Fw13 : Fld Z h13 r0 "com/example/wandel/wandel/replay/Observations" "lastChanged" "[Z" (.ref b9) := Fld.same W13 (Fld.ext E9 (Fld.other W8 (Fld.ext E5 (Fld.other W4 (Fld.ext E2 F_lastChanged) (Or.inr (slot_ne (Or.inr (hw _ (List.mem_of_getElem? (i := 16) rfl))) (Or.inr (hw _ (List.mem_of_getElem? (i := 11) rfl))) (by decide) (t := (.array .boolean)) (t' := (.array .int)) (by decide) (by decide))))) (Or.inr (slot_ne (Or.inr (hw _ (List.mem_of_getElem? (i := 16) rfl))) (Or.inr (hw _ (List.mem_of_getElem? (i := 13) rfl))) (by decide) (t := (.array .boolean)) (t' := (.array .int)) (by decide) (by decide)))))
  have K13 : Keep h0 h13 [r0] := K9.wr W13 (Or.inl (List.mem_of_getElem? (i := 0) rfl))
  have N13 := Fr.snoc X13 N8 g_r0
  obtain ⟨T14, h14, k14, X14, e14, E14, A14, st14⟩ := newP X13 hx hZ (hw _ (List.mem_of_getElem? (i := 17) rfl)) e13 (g := (mkF m 27 #[.val (.ref r0), .val (.int (0 : Int32))] [(.int (0 : Int32)), (.ref r0)])) rfl (hb hby d1_27) rfl (by decide) (cap := 0) (by decide) (by decide) (by decide) (by decide)
  obtain ⟨b14, g14⟩ : ∃ z, z = h13.size := ⟨_, rfl⟩
  rw [← g14] at A14 st14
  have ne15 : r0 ≠ b14 := Nat.ne_of_lt (Nat.lt_of_lt_of_le (Exa.wr W13 (Exa.ext E9 (Exa.wr W8 (Exa.ext E5 (Exa.wr W4 (Exa.ext E2 E_r)))))).lt (Nat.le_of_eq g14.symm))
  have ne16 : b2 ≠ b14 := Nat.ne_of_lt (Nat.lt_of_lt_of_le (((((V_b2.other W4 (Ne.symm ne3)).ext E5).other W8 (Ne.symm ne3)).ext E9).other W13 (Ne.symm ne3)).lt (Nat.le_of_eq g14.symm))
  have ne17 : b5 ≠ b14 := Nat.ne_of_lt (Nat.lt_of_lt_of_le (((V_b5.other W8 (Ne.symm ne6)).ext E9).other W13 (Ne.symm ne6)).lt (Nat.le_of_eq g14.symm))
  have ne18 : b9 ≠ b14 := Nat.ne_of_lt (Nat.lt_of_lt_of_le (V_b9.other W13 (Ne.symm ne10)).lt (Nat.le_of_eq g14.symm))
  have g_b14 : n0 ≤ b14 := Nat.le_trans (Nat.le_trans (Nat.le_trans (Nat.le_trans (Nat.le_trans (Nat.le_trans (Nat.le_trans Z0 E2.1) (Keep.of_wr W4).1) E5.1) (Keep.of_wr W8).1) E9.1) (Keep.of_wr W13).1) (Nat.le_of_eq g14.symm)
  have sz_b14 : h0.size ≤ b14 := Nat.le_trans K13.1 (Nat.le_of_eq g14.symm)
  have V_b14 : Arv Z h14 b14 k14 .long (0 : Int32) [] (.long (0 : Int64)) := Arv.new A14 (by decide)
  have K14 : Keep h0 h14 [r0] := K13.ext E14
  obtain ⟨T19, h19, X19, e19, W19, st19⟩ := putF X14 hx hZ hown (host := "") (Or.inl (hw _ (List.mem_of_getElem? (i := 18) rfl))) Via.refl e14 (Fld.ext E14 (Fld.other W13 (Fld.ext E9 (Fld.other W8 (Fld.ext E5 (Fld.other W4 (Fld.ext E2 F_arithmetic) (Or.inr (slot_ne (Or.inr (hw _ (List.mem_of_getElem? (i := 19) rfl))) (Or.inr (hw _ (List.mem_of_getElem? (i := 11) rfl))) (by decide) (t := (.array .long)) (t' := (.array .int)) (by decide) (by decide))))) (Or.inr (slot_ne (Or.inr (hw _ (List.mem_of_getElem? (i := 19) rfl))) (Or.inr (hw _ (List.mem_of_getElem? (i := 13) rfl))) (by decide) (t := (.array .long)) (t' := (.array .int)) (by decide) (by decide))))) (Or.inr (slot_ne (Or.inr (hw _ (List.mem_of_getElem? (i := 19) rfl))) (Or.inr (hw _ (List.mem_of_getElem? (i := 16) rfl))) (by decide) (t := (.array .long)) (t' := (.array .boolean)) (by decide) (by decide))))) (Exa.ext E14 (Exa.wr W13 (Exa.ext E9 (Exa.wr W8 (Exa.ext E5 (Exa.wr W4 (Exa.ext E2 E_r))))))) (Or.inr ⟨(hw _ (List.mem_of_getElem? (i := 19) rfl)), rfl, hnm⟩) (hw _ (List.mem_of_getElem? (i := 1) rfl)) (ty := (.array .long)) (by decide) rfl rfl (g := (mkF m 29 #[.val (.ref r0), .val (.int (0 : Int32))] [(.ref b14), (.ref r0)])) rfl rfl (hb hby d1_29)
  have Fw19 : Fld Z h19 r0 "com/example/wandel/wandel/replay/Observations" "arithmetic" "[J" (.ref b14) := Fld.same W19 (Fld.ext E14 (Fld.other W13 (Fld.ext E9 (Fld.other W8 (Fld.ext E5 (Fld.other W4 (Fld.ext E2 F_arithmetic) (Or.inr (slot_ne (Or.inr (hw _ (List.mem_of_getElem? (i := 19) rfl))) (Or.inr (hw _ (List.mem_of_getElem? (i := 11) rfl))) (by decide) (t := (.array .long)) (t' := (.array .int)) (by decide) (by decide))))) (Or.inr (slot_ne (Or.inr (hw _ (List.mem_of_getElem? (i := 19) rfl))) (Or.inr (hw _ (List.mem_of_getElem? (i := 13) rfl))) (by decide) (t := (.array .long)) (t' := (.array .int)) (by decide) (by decide))))) (Or.inr (slot_ne (Or.inr (hw _ (List.mem_of_getElem? (i := 19) rfl))) (Or.inr (hw _ (List.mem_of_getElem? (i := 16) rfl))) (by decide) (t := (.array .long)) (t' := (.array .boolean)) (by decide) (by decide)))))
  have K19 : Keep h0 h19 [r0] := K14.wr W19 (Or.inl (List.mem_of_getElem? (i := 0) rfl))
  have N19 := Fr.snoc X19 N13 g_r0
  obtain ⟨T20, h20, k20, X20, e20, E20, A20, st20⟩ := newP X19 hx hZ (hw _ (List.mem_of_getElem? (i := 20) rfl)) e19 (g := (mkF m 34 #[.val (.ref r0), .val (.int (0 : Int32))] [(.int (0 : Int32)), (.ref r0)])) rfl (hb hby d1_34) rfl (by decide) (cap := 0) (by decide) (by decide) (by decide) (by decide)
  obtain ⟨b20, g20⟩ : ∃ z, z = h19.size := ⟨_, rfl⟩
  rw [← g20] at A20 st20
  have ne21 : r0 ≠ b20 := Nat.ne_of_lt (Nat.lt_of_lt_of_le (Exa.wr W19 (Exa.ext E14 (Exa.wr W13 (Exa.ext E9 (Exa.wr W8 (Exa.ext E5 (Exa.wr W4 (Exa.ext E2 E_r)))))))).lt (Nat.le_of_eq g20.symm))
  have ne22 : b2 ≠ b20 := Nat.ne_of_lt (Nat.lt_of_lt_of_le (((((((V_b2.other W4 (Ne.symm ne3)).ext E5).other W8 (Ne.symm ne3)).ext E9).other W13 (Ne.symm ne3)).ext E14).other W19 (Ne.symm ne3)).lt (Nat.le_of_eq g20.symm))
  have ne23 : b5 ≠ b20 := Nat.ne_of_lt (Nat.lt_of_lt_of_le (((((V_b5.other W8 (Ne.symm ne6)).ext E9).other W13 (Ne.symm ne6)).ext E14).other W19 (Ne.symm ne6)).lt (Nat.le_of_eq g20.symm))
  have ne24 : b9 ≠ b20 := Nat.ne_of_lt (Nat.lt_of_lt_of_le (((V_b9.other W13 (Ne.symm ne10)).ext E14).other W19 (Ne.symm ne10)).lt (Nat.le_of_eq g20.symm))
  have ne25 : b14 ≠ b20 := Nat.ne_of_lt (Nat.lt_of_lt_of_le (V_b14.other W19 (Ne.symm ne15)).lt (Nat.le_of_eq g20.symm))
  have g_b20 : n0 ≤ b20 := Nat.le_trans (Nat.le_trans (Nat.le_trans (Nat.le_trans (Nat.le_trans (Nat.le_trans (Nat.le_trans (Nat.le_trans (Nat.le_trans Z0 E2.1) (Keep.of_wr W4).1) E5.1) (Keep.of_wr W8).1) E9.1) (Keep.of_wr W13).1) E14.1) (Keep.of_wr W19).1) (Nat.le_of_eq g20.symm)
  have sz_b20 : h0.size ≤ b20 := Nat.le_trans K19.1 (Nat.le_of_eq g20.symm)
  have V_b20 : Arv Z h20 b20 k20 .double (0 : Int32) [] (.double (0 : UInt64)) := Arv.new A20 (by decide)
  have K20 : Keep h0 h20 [r0] := K19.ext E20
  obtain ⟨T26, h26, X26, e26, W26, st26⟩ := putF X20 hx hZ hown (host := "") (Or.inl (hw _ (List.mem_of_getElem? (i := 21) rfl))) Via.refl e20 (Fld.ext E20 (Fld.other W19 (Fld.ext E14 (Fld.other W13 (Fld.ext E9 (Fld.other W8 (Fld.ext E5 (Fld.other W4 (Fld.ext E2 F_geometric) (Or.inr (slot_ne (Or.inr (hw _ (List.mem_of_getElem? (i := 22) rfl))) (Or.inr (hw _ (List.mem_of_getElem? (i := 11) rfl))) (by decide) (t := (.array .double)) (t' := (.array .int)) (by decide) (by decide))))) (Or.inr (slot_ne (Or.inr (hw _ (List.mem_of_getElem? (i := 22) rfl))) (Or.inr (hw _ (List.mem_of_getElem? (i := 13) rfl))) (by decide) (t := (.array .double)) (t' := (.array .int)) (by decide) (by decide))))) (Or.inr (slot_ne (Or.inr (hw _ (List.mem_of_getElem? (i := 22) rfl))) (Or.inr (hw _ (List.mem_of_getElem? (i := 16) rfl))) (by decide) (t := (.array .double)) (t' := (.array .boolean)) (by decide) (by decide))))) (Or.inr (slot_ne (Or.inr (hw _ (List.mem_of_getElem? (i := 22) rfl))) (Or.inr (hw _ (List.mem_of_getElem? (i := 19) rfl))) (by decide) (t := (.array .double)) (t' := (.array .long)) (by decide) (by decide))))) (Exa.ext E20 (Exa.wr W19 (Exa.ext E14 (Exa.wr W13 (Exa.ext E9 (Exa.wr W8 (Exa.ext E5 (Exa.wr W4 (Exa.ext E2 E_r))))))))) (Or.inr ⟨(hw _ (List.mem_of_getElem? (i := 22) rfl)), rfl, hnm⟩) (hw _ (List.mem_of_getElem? (i := 1) rfl)) (ty := (.array .double)) (by decide) rfl rfl (g := (mkF m 36 #[.val (.ref r0), .val (.int (0 : Int32))] [(.ref b20), (.ref r0)])) rfl rfl (hb hby d1_36)
  have Fw26 : Fld Z h26 r0 "com/example/wandel/wandel/replay/Observations" "geometric" "[D" (.ref b20) := Fld.same W26 (Fld.ext E20 (Fld.other W19 (Fld.ext E14 (Fld.other W13 (Fld.ext E9 (Fld.other W8 (Fld.ext E5 (Fld.other W4 (Fld.ext E2 F_geometric) (Or.inr (slot_ne (Or.inr (hw _ (List.mem_of_getElem? (i := 22) rfl))) (Or.inr (hw _ (List.mem_of_getElem? (i := 11) rfl))) (by decide) (t := (.array .double)) (t' := (.array .int)) (by decide) (by decide))))) (Or.inr (slot_ne (Or.inr (hw _ (List.mem_of_getElem? (i := 22) rfl))) (Or.inr (hw _ (List.mem_of_getElem? (i := 13) rfl))) (by decide) (t := (.array .double)) (t' := (.array .int)) (by decide) (by decide))))) (Or.inr (slot_ne (Or.inr (hw _ (List.mem_of_getElem? (i := 22) rfl))) (Or.inr (hw _ (List.mem_of_getElem? (i := 16) rfl))) (by decide) (t := (.array .double)) (t' := (.array .boolean)) (by decide) (by decide))))) (Or.inr (slot_ne (Or.inr (hw _ (List.mem_of_getElem? (i := 22) rfl))) (Or.inr (hw _ (List.mem_of_getElem? (i := 19) rfl))) (by decide) (t := (.array .double)) (t' := (.array .long)) (by decide) (by decide)))))
  have K26 : Keep h0 h26 [r0] := K20.wr W26 (Or.inl (List.mem_of_getElem? (i := 0) rfl))
  have N26 := Fr.snoc X26 N19 g_r0
  obtain ⟨fs, hr, hrun, hended, hW, hsame⟩ := X26.leave (v := none) (fun _ => rfl)
  refine ⟨_, _, pre0 _ ?_, hrun, hended, _, _, rfl, ?_, ⟨_, rfl⟩, hW, hsame.mono (by decide) (by decide)⟩
  · show Steps p.tables e below (s₁.setTop (mkF m 0 #[.val (.ref r0), .val (.int (0 : Int32))] [])) _
    refine XS.aloadN X0.here hx rfl (hb hby d1_0) rfl rfl ?_
    refine st1 _ ?_
    refine XS.aloadN X1.here hx rfl (hb hby d1_4) rfl rfl ?_
    refine XS.iloadN X1.here hx rfl (hb hby d1_5) rfl ?_
    refine st2 _ ?_
    refine st4 _ ?_
    refine XS.aloadN X4.here hx rfl (hb hby d1_11) rfl rfl ?_
    refine XS.iloadN X4.here hx rfl (hb hby d1_12) rfl ?_
    show Steps p.tables e below (T4.setTop (mkF m 13 #[.val (.ref r0), .val (.int (0 : Int32))] [(.int (0 : Int32)), (.ref r0)])) _
    refine st5 _ ?_
    refine st8 _ ?_
    refine XS.aloadN X8.here hx rfl (hb hby d1_18) rfl rfl ?_
    refine XS.iloadN X8.here hx rfl (hb hby d1_19) rfl ?_
    refine st9 _ ?_
    refine st13 _ ?_
    refine XS.aloadN X13.here hx rfl (hb hby d1_25) rfl rfl ?_
    refine XS.iloadN X13.here hx rfl (hb hby d1_26) rfl ?_
    show Steps p.tables e below (T13.setTop (mkF m 27 #[.val (.ref r0), .val (.int (0 : Int32))] [(.int (0 : Int32)), (.ref r0)])) _
    refine st14 _ ?_
    refine st19 _ ?_
    refine XS.aloadN X19.here hx rfl (hb hby d1_32) rfl rfl ?_
    refine XS.iloadN X19.here hx rfl (hb hby d1_33) rfl ?_
    refine st20 _ ?_
    refine st26 _ ?_
    show Steps p.tables e below (T26.setTop (mkF m 39 #[.val (.ref r0), .val (.int (0 : Int32))] [])) _
    exact X26.returnOut hx Bd.returns (hb hby d1_39) hr
  · show Q1n0 Z r0 h0 n0 _ T26.heap _
    rw [e26]
    exact ⟨b2, b5, b9, b14, b20, k2, k5, k9, k14, k20, rfl, N26, K26, (Exa.wr W26 (Exa.ext E20 (Exa.wr W19 (Exa.ext E14 (Exa.wr W13 (Exa.ext E9 (Exa.wr W8 (Exa.ext E5 (Exa.wr W4 (Exa.ext E2 E_r)))))))))), (Fld.other W26 (Fld.ext E20 (Fld.other W19 (Fld.ext E14 (Fld.other W13 (Fld.ext E9 (Fld.other W8 (Fld.ext E5 Fw4) (Or.inr (slot_ne (Or.inr (hw _ (List.mem_of_getElem? (i := 11) rfl))) (Or.inr (hw _ (List.mem_of_getElem? (i := 13) rfl))) (by decide) (t := (.array .int)) (t' := (.array .int)) (by decide) (by decide))))) (Or.inr (slot_ne (Or.inr (hw _ (List.mem_of_getElem? (i := 11) rfl))) (Or.inr (hw _ (List.mem_of_getElem? (i := 16) rfl))) (by decide) (t := (.array .int)) (t' := (.array .boolean)) (by decide) (by decide))))) (Or.inr (slot_ne (Or.inr (hw _ (List.mem_of_getElem? (i := 11) rfl))) (Or.inr (hw _ (List.mem_of_getElem? (i := 19) rfl))) (by decide) (t := (.array .int)) (t' := (.array .long)) (by decide) (by decide))))) (Or.inr (slot_ne (Or.inr (hw _ (List.mem_of_getElem? (i := 11) rfl))) (Or.inr (hw _ (List.mem_of_getElem? (i := 22) rfl))) (by decide) (t := (.array .int)) (t' := (.array .double)) (by decide) (by decide)))), (Fld.other W26 (Fld.ext E20 (Fld.other W19 (Fld.ext E14 (Fld.other W13 (Fld.ext E9 Fw8) (Or.inr (slot_ne (Or.inr (hw _ (List.mem_of_getElem? (i := 13) rfl))) (Or.inr (hw _ (List.mem_of_getElem? (i := 16) rfl))) (by decide) (t := (.array .int)) (t' := (.array .boolean)) (by decide) (by decide))))) (Or.inr (slot_ne (Or.inr (hw _ (List.mem_of_getElem? (i := 13) rfl))) (Or.inr (hw _ (List.mem_of_getElem? (i := 19) rfl))) (by decide) (t := (.array .int)) (t' := (.array .long)) (by decide) (by decide))))) (Or.inr (slot_ne (Or.inr (hw _ (List.mem_of_getElem? (i := 13) rfl))) (Or.inr (hw _ (List.mem_of_getElem? (i := 22) rfl))) (by decide) (t := (.array .int)) (t' := (.array .double)) (by decide) (by decide)))), (Fld.other W26 (Fld.ext E20 (Fld.other W19 (Fld.ext E14 Fw13) (Or.inr (slot_ne (Or.inr (hw _ (List.mem_of_getElem? (i := 16) rfl))) (Or.inr (hw _ (List.mem_of_getElem? (i := 19) rfl))) (by decide) (t := (.array .boolean)) (t' := (.array .long)) (by decide) (by decide))))) (Or.inr (slot_ne (Or.inr (hw _ (List.mem_of_getElem? (i := 16) rfl))) (Or.inr (hw _ (List.mem_of_getElem? (i := 22) rfl))) (by decide) (t := (.array .boolean)) (t' := (.array .double)) (by decide) (by decide)))), (Fld.other W26 (Fld.ext E20 Fw19) (Or.inr (slot_ne (Or.inr (hw _ (List.mem_of_getElem? (i := 19) rfl))) (Or.inr (hw _ (List.mem_of_getElem? (i := 22) rfl))) (by decide) (t := (.array .long)) (t' := (.array .double)) (by decide) (by decide)))), Fw26, (((((((((V_b2.other W4 (Ne.symm ne3)).ext E5).other W8 (Ne.symm ne3)).ext E9).other W13 (Ne.symm ne3)).ext E14).other W19 (Ne.symm ne3)).ext E20).other W26 (Ne.symm ne3)), (((((((V_b5.other W8 (Ne.symm ne6)).ext E9).other W13 (Ne.symm ne6)).ext E14).other W19 (Ne.symm ne6)).ext E20).other W26 (Ne.symm ne6)), (((((V_b9.other W13 (Ne.symm ne10)).ext E14).other W19 (Ne.symm ne10)).ext E20).other W26 (Ne.symm ne10)), (((V_b14.other W19 (Ne.symm ne15)).ext E20).other W26 (Ne.symm ne15)), (V_b20.other W26 (Ne.symm ne21)), ne3, ne6, ne10, ne15, ne21, ne7, ne11, ne16, ne22, ne12, ne17, ne23, ne18, ne24, ne25, sz_b2, sz_b5, sz_b9, sz_b14, sz_b20⟩
theorem ef_1n1 (r0 : Addr)  (m : MethodId) : entryFrame m #[(.ref r0), (.int (1 : Int32))] 2 = mkF m 0 #[.val (.ref r0), .val (.int (1 : Int32))] [] := by first | (simp [entryFrame, mkF, argsToLocals, Value.category]; done) | rfl
def Q1n1 (Z : State) (r0 : Addr)  (h0 : Heap) (n0 : Nat) (v : Option Value) (h : Heap) (L : List Loc) : Prop := ∃ (ca : Addr) (ch : Addr) (lc : Addr) (ar : Addr) (ge : Addr) (kca : ClassId) (kch : ClassId) (klc : ClassId) (kar : ClassId) (kge : ClassId), v = none ∧ Fr n0 L ∧ Keep h0 h [r0] ∧ Exa Z h r0 "com/example/wandel/wandel/replay/Observations" ∧ Fld Z h r0 "com/example/wandel/wandel/replay/Observations" "count" "[I" (.ref ca) ∧ Fld Z h r0 "com/example/wandel/wandel/replay/Observations" "changes" "[I" (.ref ch) ∧ Fld Z h r0 "com/example/wandel/wandel/replay/Observations" "lastChanged" "[Z" (.ref lc) ∧ Fld Z h r0 "com/example/wandel/wandel/replay/Observations" "arithmetic" "[J" (.ref ar) ∧ Fld Z h r0 "com/example/wandel/wandel/replay/Observations" "geometric" "[D" (.ref ge) ∧ Arv Z h ca kca .int (1 : Int32) [(.int (0 : Int32))] (.int (0 : Int32)) ∧ Arv Z h ch kch .int (1 : Int32) [(.int (0 : Int32))] (.int (0 : Int32)) ∧ Arv Z h lc klc .boolean (1 : Int32) [(.int (0 : Int32))] (.int (0 : Int32)) ∧ Arv Z h ar kar .long (1 : Int32) [(.long (0 : Int64))] (.long (0 : Int64)) ∧ Arv Z h ge kge .double (1 : Int32) [(.double (0 : UInt64))] (.double (0 : UInt64)) ∧ r0 ≠ ca ∧ r0 ≠ ch ∧ r0 ≠ lc ∧ r0 ≠ ar ∧ r0 ≠ ge ∧ ca ≠ ch ∧ ca ≠ lc ∧ ca ≠ ar ∧ ca ≠ ge ∧ ch ≠ lc ∧ ch ≠ ar ∧ ch ≠ ge ∧ lc ≠ ar ∧ lc ≠ ge ∧ ar ≠ ge ∧ h0.size ≤ ca ∧ h0.size ≤ ch ∧ h0.size ≤ lc ∧ h0.size ≤ ar ∧ h0.size ≤ ge
set_option maxRecDepth 65536 in
set_option maxHeartbeats 40000000 in
theorem rm1n1 (l : Launch) (Z : State) (a0 : Array Value) (hw : ∀ d ∈ tables_1, d.before a0 Z = true) (ws : List Jvm.Cond) (r0 : Addr)  (h0 : Heap) (n0 : Nat) (Z0 : n0 ≤ h0.size) (E_r : Exa Z h0 r0 "com/example/wandel/wandel/replay/Observations") (F_count : Fld Z h0 r0 "com/example/wandel/wandel/replay/Observations" "count" "[I" .null) (F_changes : Fld Z h0 r0 "com/example/wandel/wandel/replay/Observations" "changes" "[I" .null) (F_lastChanged : Fld Z h0 r0 "com/example/wandel/wandel/replay/Observations" "lastChanged" "[Z" .null) (F_arithmetic : Fld Z h0 r0 "com/example/wandel/wandel/replay/Observations" "arithmetic" "[J" .null) (F_geometric : Fld Z h0 r0 "com/example/wandel/wandel/replay/Observations" "geometric" "[D" .null) (g_r0 : n0 ≤ r0) :
    MetFree l (⟨"com/example/wandel/wandel/replay/Observations", "<init>", "(I)V"⟩ : MethodName) (head1 (Jvm.Cond.code (⟨"com/example/wandel/wandel/replay/Observations", "<init>", "(I)V"⟩ : MethodName) prog_61_method_1_code 2 none :: ws) ({ frames := 1, cells := 5, slots := 5, locals := 12 } : Room)) (fun a U => a = #[(.ref r0), (.int (1 : Int32))] ∧ Z.Warmed39 U.vm ∧ U.heap = h0) (fun _ _ _ _ _ => True) (fun _ U o U' => ∃ v L, o = .returned v ∧ Q1n1 Z r0 h0 n0 v U'.heap L ∧ FrameEnd U o U' L ({ frames := 1, cells := 5, slots := 5, locals := 12 } : Room).cells ({ frames := 1, cells := 5, slots := 5, locals := 12 } : Room).slots) := by
  refine MetFree.of_bodySF (plainFor_of_name pn_com_example_wandel_wandel_replay_Observations) hisR ?_
  intro p e s m args below meth c s₁ Bd hml0 hP hK
  obtain ⟨rfl, hZ, hh⟩ := hP
  have hx := Bd.exec
  have hby := Bd.bytes
  have hml : c.maxLocals = 2 := hml0
  have hown : s.vm.findClass "com/example/wandel/wandel/replay/Observations" = some m.cls := findClass_of_methodNamed Bd.named
  have hnm := (name_of_methodNamed Bd.named Bd.method).1
  have X0 : Stand p l e ({ frames := 1, cells := 5, slots := 5, locals := 12 } : Room) s m #[(.ref r0), (.int (1 : Int32))] below meth c s₁ [] 0 0 := Stand.of_body Bd
  have e0 : s₁.heap = h0 := by rw [← hh, Bd.state]; rfl
  have N0 := Fr.nil n0
  have pre0 : ∀ t, Steps p.tables e below (s₁.setTop (mkF m 0 #[.val (.ref r0), .val (.int (1 : Int32))] [])) t → Steps p.tables e below (s₁.setTop (entryFrame m #[(.ref r0), (.int (1 : Int32))] 2)) t := fun t k => castTop (ef_1n1 r0 m) k
  obtain ⟨T1, X1, e1, st1⟩ := initO X0 hx hZ hown (hw _ (List.mem_of_getElem? (i := 6) rfl)) (hw _ (List.mem_of_getElem? (i := 7) rfl)) (hw _ (List.mem_of_getElem? (i := 8) rfl)) e0 (g := (mkF m 1 #[.val (.ref r0), .val (.int (1 : Int32))] [(.ref r0)])) rfl (by rw [hml]; rfl) rfl (hb hby d1_1) (by decide) (W := 0) (by show 2 * 0 + _ ≤ _; exact Nat.le_of_eq rfl) (by decide)
  obtain ⟨T2, h2, k2, X2, e2, E2, A2, st2⟩ := newP X1 hx hZ (hw _ (List.mem_of_getElem? (i := 9) rfl)) e1 (g := (mkF m 6 #[.val (.ref r0), .val (.int (1 : Int32))] [(.int (1 : Int32)), (.ref r0)])) rfl (hb hby d1_6) rfl (by decide) (cap := 1) (by decide) (by decide) (by decide) (by decide)
  obtain ⟨b2, g2⟩ : ∃ z, z = h0.size := ⟨_, rfl⟩
  rw [← g2] at A2 st2
  have ne3 : r0 ≠ b2 := Nat.ne_of_lt (Nat.lt_of_lt_of_le E_r.lt (Nat.le_of_eq g2.symm))
  have g_b2 : n0 ≤ b2 := Nat.le_trans Z0 (Nat.le_of_eq g2.symm)
  have sz_b2 : h0.size ≤ b2 := Nat.le_trans (Keep.refl h0 [r0]).1 (Nat.le_of_eq g2.symm)
  have V_b2 : Arv Z h2 b2 k2 .int (1 : Int32) [(.int (0 : Int32))] (.int (0 : Int32)) := (Arv.new A2 (by decide)).pad (pad_rep [] (.int (0 : Int32)) 1)
  have K2 : Keep h0 h2 [r0] := (Keep.refl h0 [r0]).ext E2
  obtain ⟨T4, h4, X4, e4, W4, st4⟩ := putF X2 hx hZ hown (host := "") (Or.inl (hw _ (List.mem_of_getElem? (i := 10) rfl))) Via.refl e2 (Fld.ext E2 F_count) (Exa.ext E2 E_r) (Or.inr ⟨(hw _ (List.mem_of_getElem? (i := 11) rfl)), rfl, hnm⟩) (hw _ (List.mem_of_getElem? (i := 1) rfl)) (ty := (.array .int)) (by decide) rfl rfl (g := (mkF m 8 #[.val (.ref r0), .val (.int (1 : Int32))] [(.ref b2), (.ref r0)])) rfl rfl (hb hby d1_8)
  have Fw4 : Fld Z h4 r0 "com/example/wandel/wandel/replay/Observations" "count" "[I" (.ref b2) := Fld.same W4 (Fld.ext E2 F_count)
  have K4 : Keep h0 h4 [r0] := K2.wr W4 (Or.inl (List.mem_of_getElem? (i := 0) rfl))
  have N4 := Fr.snoc X4 N0 g_r0
  obtain ⟨T5, h5, k5, X5, e5, E5, A5, st5⟩ := newP X4 hx hZ (hw _ (List.mem_of_getElem? (i := 9) rfl)) e4 (g := (mkF m 13 #[.val (.ref r0), .val (.int (1 : Int32))] [(.int (1 : Int32)), (.ref r0)])) rfl (hb hby d1_13) rfl (by decide) (cap := 1) (by decide) (by decide) (by decide) (by decide)
  obtain ⟨b5, g5⟩ : ∃ z, z = h4.size := ⟨_, rfl⟩
  rw [← g5] at A5 st5
  have ne6 : r0 ≠ b5 := Nat.ne_of_lt (Nat.lt_of_lt_of_le (Exa.wr W4 (Exa.ext E2 E_r)).lt (Nat.le_of_eq g5.symm))
  have ne7 : b2 ≠ b5 := Nat.ne_of_lt (Nat.lt_of_lt_of_le (V_b2.other W4 (Ne.symm ne3)).lt (Nat.le_of_eq g5.symm))
  have g_b5 : n0 ≤ b5 := Nat.le_trans (Nat.le_trans (Nat.le_trans Z0 E2.1) (Keep.of_wr W4).1) (Nat.le_of_eq g5.symm)
  have sz_b5 : h0.size ≤ b5 := Nat.le_trans K4.1 (Nat.le_of_eq g5.symm)
  have V_b5 : Arv Z h5 b5 k5 .int (1 : Int32) [(.int (0 : Int32))] (.int (0 : Int32)) := (Arv.new A5 (by decide)).pad (pad_rep [] (.int (0 : Int32)) 1)
  have K5 : Keep h0 h5 [r0] := K4.ext E5
  obtain ⟨T8, h8, X8, e8, W8, st8⟩ := putF X5 hx hZ hown (host := "") (Or.inl (hw _ (List.mem_of_getElem? (i := 12) rfl))) Via.refl e5 (Fld.ext E5 (Fld.other W4 (Fld.ext E2 F_changes) (Or.inr (slot_ne (Or.inr (hw _ (List.mem_of_getElem? (i := 13) rfl))) (Or.inr (hw _ (List.mem_of_getElem? (i := 11) rfl))) (by decide) (t := (.array .int)) (t' := (.array .int)) (by decide) (by decide))))) (Exa.ext E5 (Exa.wr W4 (Exa.ext E2 E_r))) (Or.inr ⟨(hw _ (List.mem_of_getElem? (i := 13) rfl)), rfl, hnm⟩) (hw _ (List.mem_of_getElem? (i := 1) rfl)) (ty := (.array .int)) (by decide) rfl rfl (g := (mkF m 15 #[.val (.ref r0), .val (.int (1 : Int32))] [(.ref b5), (.ref r0)])) rfl rfl (hb hby d1_15)
  have Fw8 : Fld Z h8 r0 "com/example/wandel/wandel/replay/Observations" "changes" "[I" (.ref b5) := Fld.same W8 (Fld.ext E5 (Fld.other W4 (Fld.ext E2 F_changes) (Or.inr (slot_ne (Or.inr (hw _ (List.mem_of_getElem? (i := 13) rfl))) (Or.inr (hw _ (List.mem_of_getElem? (i := 11) rfl))) (by decide) (t := (.array .int)) (t' := (.array .int)) (by decide) (by decide)))))
  have K8 : Keep h0 h8 [r0] := K5.wr W8 (Or.inl (List.mem_of_getElem? (i := 0) rfl))
  have N8 := Fr.snoc X8 N4 g_r0
  obtain ⟨T9, h9, k9, X9, e9, E9, A9, st9⟩ := newP X8 hx hZ (hw _ (List.mem_of_getElem? (i := 14) rfl)) e8 (g := (mkF m 20 #[.val (.ref r0), .val (.int (1 : Int32))] [(.int (1 : Int32)), (.ref r0)])) rfl (hb hby d1_20) rfl (by decide) (cap := 1) (by decide) (by decide) (by decide) (by decide)
  obtain ⟨b9, g9⟩ : ∃ z, z = h8.size := ⟨_, rfl⟩
  rw [← g9] at A9 st9
  have ne10 : r0 ≠ b9 := Nat.ne_of_lt (Nat.lt_of_lt_of_le (Exa.wr W8 (Exa.ext E5 (Exa.wr W4 (Exa.ext E2 E_r)))).lt (Nat.le_of_eq g9.symm))
  have ne11 : b2 ≠ b9 := Nat.ne_of_lt (Nat.lt_of_lt_of_le (((V_b2.other W4 (Ne.symm ne3)).ext E5).other W8 (Ne.symm ne3)).lt (Nat.le_of_eq g9.symm))
  have ne12 : b5 ≠ b9 := Nat.ne_of_lt (Nat.lt_of_lt_of_le (V_b5.other W8 (Ne.symm ne6)).lt (Nat.le_of_eq g9.symm))
  have g_b9 : n0 ≤ b9 := Nat.le_trans (Nat.le_trans (Nat.le_trans (Nat.le_trans (Nat.le_trans Z0 E2.1) (Keep.of_wr W4).1) E5.1) (Keep.of_wr W8).1) (Nat.le_of_eq g9.symm)
  have sz_b9 : h0.size ≤ b9 := Nat.le_trans K8.1 (Nat.le_of_eq g9.symm)
  have V_b9 : Arv Z h9 b9 k9 .boolean (1 : Int32) [(.int (0 : Int32))] (.int (0 : Int32)) := (Arv.new A9 (by decide)).pad (pad_rep [] (.int (0 : Int32)) 1)
  have K9 : Keep h0 h9 [r0] := K8.ext E9
  obtain ⟨T13, h13, X13, e13, W13, st13⟩ := putF X9 hx hZ hown (host := "") (Or.inl (hw _ (List.mem_of_getElem? (i := 15) rfl))) Via.refl e9 (Fld.ext E9 (Fld.other W8 (Fld.ext E5 (Fld.other W4 (Fld.ext E2 F_lastChanged) (Or.inr (slot_ne (Or.inr (hw _ (List.mem_of_getElem? (i := 16) rfl))) (Or.inr (hw _ (List.mem_of_getElem? (i := 11) rfl))) (by decide) (t := (.array .boolean)) (t' := (.array .int)) (by decide) (by decide))))) (Or.inr (slot_ne (Or.inr (hw _ (List.mem_of_getElem? (i := 16) rfl))) (Or.inr (hw _ (List.mem_of_getElem? (i := 13) rfl))) (by decide) (t := (.array .boolean)) (t' := (.array .int)) (by decide) (by decide))))) (Exa.ext E9 (Exa.wr W8 (Exa.ext E5 (Exa.wr W4 (Exa.ext E2 E_r))))) (Or.inr ⟨(hw _ (List.mem_of_getElem? (i := 16) rfl)), rfl, hnm⟩) (hw _ (List.mem_of_getElem? (i := 1) rfl)) (ty := (.array .boolean)) (by decide) rfl rfl (g := (mkF m 22 #[.val (.ref r0), .val (.int (1 : Int32))] [(.ref b9), (.ref r0)])) rfl rfl (hb hby d1_22)
  have Fw13 : Fld Z h13 r0 "com/example/wandel/wandel/replay/Observations" "lastChanged" "[Z" (.ref b9) := Fld.same W13 (Fld.ext E9 (Fld.other W8 (Fld.ext E5 (Fld.other W4 (Fld.ext E2 F_lastChanged) (Or.inr (slot_ne (Or.inr (hw _ (List.mem_of_getElem? (i := 16) rfl))) (Or.inr (hw _ (List.mem_of_getElem? (i := 11) rfl))) (by decide) (t := (.array .boolean)) (t' := (.array .int)) (by decide) (by decide))))) (Or.inr (slot_ne (Or.inr (hw _ (List.mem_of_getElem? (i := 16) rfl))) (Or.inr (hw _ (List.mem_of_getElem? (i := 13) rfl))) (by decide) (t := (.array .boolean)) (t' := (.array .int)) (by decide) (by decide)))))
  have K13 : Keep h0 h13 [r0] := K9.wr W13 (Or.inl (List.mem_of_getElem? (i := 0) rfl))
  have N13 := Fr.snoc X13 N8 g_r0
  obtain ⟨T14, h14, k14, X14, e14, E14, A14, st14⟩ := newP X13 hx hZ (hw _ (List.mem_of_getElem? (i := 17) rfl)) e13 (g := (mkF m 27 #[.val (.ref r0), .val (.int (1 : Int32))] [(.int (1 : Int32)), (.ref r0)])) rfl (hb hby d1_27) rfl (by decide) (cap := 1) (by decide) (by decide) (by decide) (by decide)
  obtain ⟨b14, g14⟩ : ∃ z, z = h13.size := ⟨_, rfl⟩
  rw [← g14] at A14 st14
  have ne15 : r0 ≠ b14 := Nat.ne_of_lt (Nat.lt_of_lt_of_le (Exa.wr W13 (Exa.ext E9 (Exa.wr W8 (Exa.ext E5 (Exa.wr W4 (Exa.ext E2 E_r)))))).lt (Nat.le_of_eq g14.symm))
  have ne16 : b2 ≠ b14 := Nat.ne_of_lt (Nat.lt_of_lt_of_le (((((V_b2.other W4 (Ne.symm ne3)).ext E5).other W8 (Ne.symm ne3)).ext E9).other W13 (Ne.symm ne3)).lt (Nat.le_of_eq g14.symm))
  have ne17 : b5 ≠ b14 := Nat.ne_of_lt (Nat.lt_of_lt_of_le (((V_b5.other W8 (Ne.symm ne6)).ext E9).other W13 (Ne.symm ne6)).lt (Nat.le_of_eq g14.symm))
  have ne18 : b9 ≠ b14 := Nat.ne_of_lt (Nat.lt_of_lt_of_le (V_b9.other W13 (Ne.symm ne10)).lt (Nat.le_of_eq g14.symm))
  have g_b14 : n0 ≤ b14 := Nat.le_trans (Nat.le_trans (Nat.le_trans (Nat.le_trans (Nat.le_trans (Nat.le_trans (Nat.le_trans Z0 E2.1) (Keep.of_wr W4).1) E5.1) (Keep.of_wr W8).1) E9.1) (Keep.of_wr W13).1) (Nat.le_of_eq g14.symm)
  have sz_b14 : h0.size ≤ b14 := Nat.le_trans K13.1 (Nat.le_of_eq g14.symm)
  have V_b14 : Arv Z h14 b14 k14 .long (1 : Int32) [(.long (0 : Int64))] (.long (0 : Int64)) := (Arv.new A14 (by decide)).pad (pad_rep [] (.long (0 : Int64)) 1)
  have K14 : Keep h0 h14 [r0] := K13.ext E14
  obtain ⟨T19, h19, X19, e19, W19, st19⟩ := putF X14 hx hZ hown (host := "") (Or.inl (hw _ (List.mem_of_getElem? (i := 18) rfl))) Via.refl e14 (Fld.ext E14 (Fld.other W13 (Fld.ext E9 (Fld.other W8 (Fld.ext E5 (Fld.other W4 (Fld.ext E2 F_arithmetic) (Or.inr (slot_ne (Or.inr (hw _ (List.mem_of_getElem? (i := 19) rfl))) (Or.inr (hw _ (List.mem_of_getElem? (i := 11) rfl))) (by decide) (t := (.array .long)) (t' := (.array .int)) (by decide) (by decide))))) (Or.inr (slot_ne (Or.inr (hw _ (List.mem_of_getElem? (i := 19) rfl))) (Or.inr (hw _ (List.mem_of_getElem? (i := 13) rfl))) (by decide) (t := (.array .long)) (t' := (.array .int)) (by decide) (by decide))))) (Or.inr (slot_ne (Or.inr (hw _ (List.mem_of_getElem? (i := 19) rfl))) (Or.inr (hw _ (List.mem_of_getElem? (i := 16) rfl))) (by decide) (t := (.array .long)) (t' := (.array .boolean)) (by decide) (by decide))))) (Exa.ext E14 (Exa.wr W13 (Exa.ext E9 (Exa.wr W8 (Exa.ext E5 (Exa.wr W4 (Exa.ext E2 E_r))))))) (Or.inr ⟨(hw _ (List.mem_of_getElem? (i := 19) rfl)), rfl, hnm⟩) (hw _ (List.mem_of_getElem? (i := 1) rfl)) (ty := (.array .long)) (by decide) rfl rfl (g := (mkF m 29 #[.val (.ref r0), .val (.int (1 : Int32))] [(.ref b14), (.ref r0)])) rfl rfl (hb hby d1_29)
  have Fw19 : Fld Z h19 r0 "com/example/wandel/wandel/replay/Observations" "arithmetic" "[J" (.ref b14) := Fld.same W19 (Fld.ext E14 (Fld.other W13 (Fld.ext E9 (Fld.other W8 (Fld.ext E5 (Fld.other W4 (Fld.ext E2 F_arithmetic) (Or.inr (slot_ne (Or.inr (hw _ (List.mem_of_getElem? (i := 19) rfl))) (Or.inr (hw _ (List.mem_of_getElem? (i := 11) rfl))) (by decide) (t := (.array .long)) (t' := (.array .int)) (by decide) (by decide))))) (Or.inr (slot_ne (Or.inr (hw _ (List.mem_of_getElem? (i := 19) rfl))) (Or.inr (hw _ (List.mem_of_getElem? (i := 13) rfl))) (by decide) (t := (.array .long)) (t' := (.array .int)) (by decide) (by decide))))) (Or.inr (slot_ne (Or.inr (hw _ (List.mem_of_getElem? (i := 19) rfl))) (Or.inr (hw _ (List.mem_of_getElem? (i := 16) rfl))) (by decide) (t := (.array .long)) (t' := (.array .boolean)) (by decide) (by decide)))))
  have K19 : Keep h0 h19 [r0] := K14.wr W19 (Or.inl (List.mem_of_getElem? (i := 0) rfl))
  have N19 := Fr.snoc X19 N13 g_r0
  obtain ⟨T20, h20, k20, X20, e20, E20, A20, st20⟩ := newP X19 hx hZ (hw _ (List.mem_of_getElem? (i := 20) rfl)) e19 (g := (mkF m 34 #[.val (.ref r0), .val (.int (1 : Int32))] [(.int (1 : Int32)), (.ref r0)])) rfl (hb hby d1_34) rfl (by decide) (cap := 1) (by decide) (by decide) (by decide) (by decide)
  obtain ⟨b20, g20⟩ : ∃ z, z = h19.size := ⟨_, rfl⟩
  rw [← g20] at A20 st20
  have ne21 : r0 ≠ b20 := Nat.ne_of_lt (Nat.lt_of_lt_of_le (Exa.wr W19 (Exa.ext E14 (Exa.wr W13 (Exa.ext E9 (Exa.wr W8 (Exa.ext E5 (Exa.wr W4 (Exa.ext E2 E_r)))))))).lt (Nat.le_of_eq g20.symm))
  have ne22 : b2 ≠ b20 := Nat.ne_of_lt (Nat.lt_of_lt_of_le (((((((V_b2.other W4 (Ne.symm ne3)).ext E5).other W8 (Ne.symm ne3)).ext E9).other W13 (Ne.symm ne3)).ext E14).other W19 (Ne.symm ne3)).lt (Nat.le_of_eq g20.symm))
  have ne23 : b5 ≠ b20 := Nat.ne_of_lt (Nat.lt_of_lt_of_le (((((V_b5.other W8 (Ne.symm ne6)).ext E9).other W13 (Ne.symm ne6)).ext E14).other W19 (Ne.symm ne6)).lt (Nat.le_of_eq g20.symm))
  have ne24 : b9 ≠ b20 := Nat.ne_of_lt (Nat.lt_of_lt_of_le (((V_b9.other W13 (Ne.symm ne10)).ext E14).other W19 (Ne.symm ne10)).lt (Nat.le_of_eq g20.symm))
  have ne25 : b14 ≠ b20 := Nat.ne_of_lt (Nat.lt_of_lt_of_le (V_b14.other W19 (Ne.symm ne15)).lt (Nat.le_of_eq g20.symm))
  have g_b20 : n0 ≤ b20 := Nat.le_trans (Nat.le_trans (Nat.le_trans (Nat.le_trans (Nat.le_trans (Nat.le_trans (Nat.le_trans (Nat.le_trans (Nat.le_trans Z0 E2.1) (Keep.of_wr W4).1) E5.1) (Keep.of_wr W8).1) E9.1) (Keep.of_wr W13).1) E14.1) (Keep.of_wr W19).1) (Nat.le_of_eq g20.symm)
  have sz_b20 : h0.size ≤ b20 := Nat.le_trans K19.1 (Nat.le_of_eq g20.symm)
  have V_b20 : Arv Z h20 b20 k20 .double (1 : Int32) [(.double (0 : UInt64))] (.double (0 : UInt64)) := (Arv.new A20 (by decide)).pad (pad_rep [] (.double (0 : UInt64)) 1)
  have K20 : Keep h0 h20 [r0] := K19.ext E20
  obtain ⟨T26, h26, X26, e26, W26, st26⟩ := putF X20 hx hZ hown (host := "") (Or.inl (hw _ (List.mem_of_getElem? (i := 21) rfl))) Via.refl e20 (Fld.ext E20 (Fld.other W19 (Fld.ext E14 (Fld.other W13 (Fld.ext E9 (Fld.other W8 (Fld.ext E5 (Fld.other W4 (Fld.ext E2 F_geometric) (Or.inr (slot_ne (Or.inr (hw _ (List.mem_of_getElem? (i := 22) rfl))) (Or.inr (hw _ (List.mem_of_getElem? (i := 11) rfl))) (by decide) (t := (.array .double)) (t' := (.array .int)) (by decide) (by decide))))) (Or.inr (slot_ne (Or.inr (hw _ (List.mem_of_getElem? (i := 22) rfl))) (Or.inr (hw _ (List.mem_of_getElem? (i := 13) rfl))) (by decide) (t := (.array .double)) (t' := (.array .int)) (by decide) (by decide))))) (Or.inr (slot_ne (Or.inr (hw _ (List.mem_of_getElem? (i := 22) rfl))) (Or.inr (hw _ (List.mem_of_getElem? (i := 16) rfl))) (by decide) (t := (.array .double)) (t' := (.array .boolean)) (by decide) (by decide))))) (Or.inr (slot_ne (Or.inr (hw _ (List.mem_of_getElem? (i := 22) rfl))) (Or.inr (hw _ (List.mem_of_getElem? (i := 19) rfl))) (by decide) (t := (.array .double)) (t' := (.array .long)) (by decide) (by decide))))) (Exa.ext E20 (Exa.wr W19 (Exa.ext E14 (Exa.wr W13 (Exa.ext E9 (Exa.wr W8 (Exa.ext E5 (Exa.wr W4 (Exa.ext E2 E_r))))))))) (Or.inr ⟨(hw _ (List.mem_of_getElem? (i := 22) rfl)), rfl, hnm⟩) (hw _ (List.mem_of_getElem? (i := 1) rfl)) (ty := (.array .double)) (by decide) rfl rfl (g := (mkF m 36 #[.val (.ref r0), .val (.int (1 : Int32))] [(.ref b20), (.ref r0)])) rfl rfl (hb hby d1_36)
  have Fw26 : Fld Z h26 r0 "com/example/wandel/wandel/replay/Observations" "geometric" "[D" (.ref b20) := Fld.same W26 (Fld.ext E20 (Fld.other W19 (Fld.ext E14 (Fld.other W13 (Fld.ext E9 (Fld.other W8 (Fld.ext E5 (Fld.other W4 (Fld.ext E2 F_geometric) (Or.inr (slot_ne (Or.inr (hw _ (List.mem_of_getElem? (i := 22) rfl))) (Or.inr (hw _ (List.mem_of_getElem? (i := 11) rfl))) (by decide) (t := (.array .double)) (t' := (.array .int)) (by decide) (by decide))))) (Or.inr (slot_ne (Or.inr (hw _ (List.mem_of_getElem? (i := 22) rfl))) (Or.inr (hw _ (List.mem_of_getElem? (i := 13) rfl))) (by decide) (t := (.array .double)) (t' := (.array .int)) (by decide) (by decide))))) (Or.inr (slot_ne (Or.inr (hw _ (List.mem_of_getElem? (i := 22) rfl))) (Or.inr (hw _ (List.mem_of_getElem? (i := 16) rfl))) (by decide) (t := (.array .double)) (t' := (.array .boolean)) (by decide) (by decide))))) (Or.inr (slot_ne (Or.inr (hw _ (List.mem_of_getElem? (i := 22) rfl))) (Or.inr (hw _ (List.mem_of_getElem? (i := 19) rfl))) (by decide) (t := (.array .double)) (t' := (.array .long)) (by decide) (by decide)))))
  have K26 : Keep h0 h26 [r0] := K20.wr W26 (Or.inl (List.mem_of_getElem? (i := 0) rfl))
  have N26 := Fr.snoc X26 N19 g_r0
  obtain ⟨fs, hr, hrun, hended, hW, hsame⟩ := X26.leave (v := none) (fun _ => rfl)
  refine ⟨_, _, pre0 _ ?_, hrun, hended, _, _, rfl, ?_, ⟨_, rfl⟩, hW, hsame.mono (by decide) (by decide)⟩
  · show Steps p.tables e below (s₁.setTop (mkF m 0 #[.val (.ref r0), .val (.int (1 : Int32))] [])) _
    refine XS.aloadN X0.here hx rfl (hb hby d1_0) rfl rfl ?_
    refine st1 _ ?_
    refine XS.aloadN X1.here hx rfl (hb hby d1_4) rfl rfl ?_
    refine XS.iloadN X1.here hx rfl (hb hby d1_5) rfl ?_
    refine st2 _ ?_
    refine st4 _ ?_
    refine XS.aloadN X4.here hx rfl (hb hby d1_11) rfl rfl ?_
    refine XS.iloadN X4.here hx rfl (hb hby d1_12) rfl ?_
    show Steps p.tables e below (T4.setTop (mkF m 13 #[.val (.ref r0), .val (.int (1 : Int32))] [(.int (1 : Int32)), (.ref r0)])) _
    refine st5 _ ?_
    refine st8 _ ?_
    refine XS.aloadN X8.here hx rfl (hb hby d1_18) rfl rfl ?_
    refine XS.iloadN X8.here hx rfl (hb hby d1_19) rfl ?_
    refine st9 _ ?_
    refine st13 _ ?_
    refine XS.aloadN X13.here hx rfl (hb hby d1_25) rfl rfl ?_
    refine XS.iloadN X13.here hx rfl (hb hby d1_26) rfl ?_
    show Steps p.tables e below (T13.setTop (mkF m 27 #[.val (.ref r0), .val (.int (1 : Int32))] [(.int (1 : Int32)), (.ref r0)])) _
    refine st14 _ ?_
    refine st19 _ ?_
    refine XS.aloadN X19.here hx rfl (hb hby d1_32) rfl rfl ?_
    refine XS.iloadN X19.here hx rfl (hb hby d1_33) rfl ?_
    refine st20 _ ?_
    refine st26 _ ?_
    show Steps p.tables e below (T26.setTop (mkF m 39 #[.val (.ref r0), .val (.int (1 : Int32))] [])) _
    exact X26.returnOut hx Bd.returns (hb hby d1_39) hr
  · show Q1n1 Z r0 h0 n0 _ T26.heap _
    rw [e26]
    exact ⟨b2, b5, b9, b14, b20, k2, k5, k9, k14, k20, rfl, N26, K26, (Exa.wr W26 (Exa.ext E20 (Exa.wr W19 (Exa.ext E14 (Exa.wr W13 (Exa.ext E9 (Exa.wr W8 (Exa.ext E5 (Exa.wr W4 (Exa.ext E2 E_r)))))))))), (Fld.other W26 (Fld.ext E20 (Fld.other W19 (Fld.ext E14 (Fld.other W13 (Fld.ext E9 (Fld.other W8 (Fld.ext E5 Fw4) (Or.inr (slot_ne (Or.inr (hw _ (List.mem_of_getElem? (i := 11) rfl))) (Or.inr (hw _ (List.mem_of_getElem? (i := 13) rfl))) (by decide) (t := (.array .int)) (t' := (.array .int)) (by decide) (by decide))))) (Or.inr (slot_ne (Or.inr (hw _ (List.mem_of_getElem? (i := 11) rfl))) (Or.inr (hw _ (List.mem_of_getElem? (i := 16) rfl))) (by decide) (t := (.array .int)) (t' := (.array .boolean)) (by decide) (by decide))))) (Or.inr (slot_ne (Or.inr (hw _ (List.mem_of_getElem? (i := 11) rfl))) (Or.inr (hw _ (List.mem_of_getElem? (i := 19) rfl))) (by decide) (t := (.array .int)) (t' := (.array .long)) (by decide) (by decide))))) (Or.inr (slot_ne (Or.inr (hw _ (List.mem_of_getElem? (i := 11) rfl))) (Or.inr (hw _ (List.mem_of_getElem? (i := 22) rfl))) (by decide) (t := (.array .int)) (t' := (.array .double)) (by decide) (by decide)))), (Fld.other W26 (Fld.ext E20 (Fld.other W19 (Fld.ext E14 (Fld.other W13 (Fld.ext E9 Fw8) (Or.inr (slot_ne (Or.inr (hw _ (List.mem_of_getElem? (i := 13) rfl))) (Or.inr (hw _ (List.mem_of_getElem? (i := 16) rfl))) (by decide) (t := (.array .int)) (t' := (.array .boolean)) (by decide) (by decide))))) (Or.inr (slot_ne (Or.inr (hw _ (List.mem_of_getElem? (i := 13) rfl))) (Or.inr (hw _ (List.mem_of_getElem? (i := 19) rfl))) (by decide) (t := (.array .int)) (t' := (.array .long)) (by decide) (by decide))))) (Or.inr (slot_ne (Or.inr (hw _ (List.mem_of_getElem? (i := 13) rfl))) (Or.inr (hw _ (List.mem_of_getElem? (i := 22) rfl))) (by decide) (t := (.array .int)) (t' := (.array .double)) (by decide) (by decide)))), (Fld.other W26 (Fld.ext E20 (Fld.other W19 (Fld.ext E14 Fw13) (Or.inr (slot_ne (Or.inr (hw _ (List.mem_of_getElem? (i := 16) rfl))) (Or.inr (hw _ (List.mem_of_getElem? (i := 19) rfl))) (by decide) (t := (.array .boolean)) (t' := (.array .long)) (by decide) (by decide))))) (Or.inr (slot_ne (Or.inr (hw _ (List.mem_of_getElem? (i := 16) rfl))) (Or.inr (hw _ (List.mem_of_getElem? (i := 22) rfl))) (by decide) (t := (.array .boolean)) (t' := (.array .double)) (by decide) (by decide)))), (Fld.other W26 (Fld.ext E20 Fw19) (Or.inr (slot_ne (Or.inr (hw _ (List.mem_of_getElem? (i := 19) rfl))) (Or.inr (hw _ (List.mem_of_getElem? (i := 22) rfl))) (by decide) (t := (.array .long)) (t' := (.array .double)) (by decide) (by decide)))), Fw26, (((((((((V_b2.other W4 (Ne.symm ne3)).ext E5).other W8 (Ne.symm ne3)).ext E9).other W13 (Ne.symm ne3)).ext E14).other W19 (Ne.symm ne3)).ext E20).other W26 (Ne.symm ne3)), (((((((V_b5.other W8 (Ne.symm ne6)).ext E9).other W13 (Ne.symm ne6)).ext E14).other W19 (Ne.symm ne6)).ext E20).other W26 (Ne.symm ne6)), (((((V_b9.other W13 (Ne.symm ne10)).ext E14).other W19 (Ne.symm ne10)).ext E20).other W26 (Ne.symm ne10)), (((V_b14.other W19 (Ne.symm ne15)).ext E20).other W26 (Ne.symm ne15)), (V_b20.other W26 (Ne.symm ne21)), ne3, ne6, ne10, ne15, ne21, ne7, ne11, ne16, ne22, ne12, ne17, ne23, ne18, ne24, ne25, sz_b2, sz_b5, sz_b9, sz_b14, sz_b20⟩
theorem ef_1n2 (r0 : Addr)  (m : MethodId) : entryFrame m #[(.ref r0), (.int (2 : Int32))] 2 = mkF m 0 #[.val (.ref r0), .val (.int (2 : Int32))] [] := by first | (simp [entryFrame, mkF, argsToLocals, Value.category]; done) | rfl
def Q1n2 (Z : State) (r0 : Addr)  (h0 : Heap) (n0 : Nat) (v : Option Value) (h : Heap) (L : List Loc) : Prop := ∃ (ca : Addr) (ch : Addr) (lc : Addr) (ar : Addr) (ge : Addr) (kca : ClassId) (kch : ClassId) (klc : ClassId) (kar : ClassId) (kge : ClassId), v = none ∧ Fr n0 L ∧ Keep h0 h [r0] ∧ Exa Z h r0 "com/example/wandel/wandel/replay/Observations" ∧ Fld Z h r0 "com/example/wandel/wandel/replay/Observations" "count" "[I" (.ref ca) ∧ Fld Z h r0 "com/example/wandel/wandel/replay/Observations" "changes" "[I" (.ref ch) ∧ Fld Z h r0 "com/example/wandel/wandel/replay/Observations" "lastChanged" "[Z" (.ref lc) ∧ Fld Z h r0 "com/example/wandel/wandel/replay/Observations" "arithmetic" "[J" (.ref ar) ∧ Fld Z h r0 "com/example/wandel/wandel/replay/Observations" "geometric" "[D" (.ref ge) ∧ Arv Z h ca kca .int (2 : Int32) [(.int (0 : Int32)), (.int (0 : Int32))] (.int (0 : Int32)) ∧ Arv Z h ch kch .int (2 : Int32) [(.int (0 : Int32)), (.int (0 : Int32))] (.int (0 : Int32)) ∧ Arv Z h lc klc .boolean (2 : Int32) [(.int (0 : Int32)), (.int (0 : Int32))] (.int (0 : Int32)) ∧ Arv Z h ar kar .long (2 : Int32) [(.long (0 : Int64)), (.long (0 : Int64))] (.long (0 : Int64)) ∧ Arv Z h ge kge .double (2 : Int32) [(.double (0 : UInt64)), (.double (0 : UInt64))] (.double (0 : UInt64)) ∧ r0 ≠ ca ∧ r0 ≠ ch ∧ r0 ≠ lc ∧ r0 ≠ ar ∧ r0 ≠ ge ∧ ca ≠ ch ∧ ca ≠ lc ∧ ca ≠ ar ∧ ca ≠ ge ∧ ch ≠ lc ∧ ch ≠ ar ∧ ch ≠ ge ∧ lc ≠ ar ∧ lc ≠ ge ∧ ar ≠ ge ∧ h0.size ≤ ca ∧ h0.size ≤ ch ∧ h0.size ≤ lc ∧ h0.size ≤ ar ∧ h0.size ≤ ge
set_option maxRecDepth 65536 in
set_option maxHeartbeats 40000000 in
theorem rm1n2 (l : Launch) (Z : State) (a0 : Array Value) (hw : ∀ d ∈ tables_1, d.before a0 Z = true) (ws : List Jvm.Cond) (r0 : Addr)  (h0 : Heap) (n0 : Nat) (Z0 : n0 ≤ h0.size) (E_r : Exa Z h0 r0 "com/example/wandel/wandel/replay/Observations") (F_count : Fld Z h0 r0 "com/example/wandel/wandel/replay/Observations" "count" "[I" .null) (F_changes : Fld Z h0 r0 "com/example/wandel/wandel/replay/Observations" "changes" "[I" .null) (F_lastChanged : Fld Z h0 r0 "com/example/wandel/wandel/replay/Observations" "lastChanged" "[Z" .null) (F_arithmetic : Fld Z h0 r0 "com/example/wandel/wandel/replay/Observations" "arithmetic" "[J" .null) (F_geometric : Fld Z h0 r0 "com/example/wandel/wandel/replay/Observations" "geometric" "[D" .null) (g_r0 : n0 ≤ r0) :
    MetFree l (⟨"com/example/wandel/wandel/replay/Observations", "<init>", "(I)V"⟩ : MethodName) (head1 (Jvm.Cond.code (⟨"com/example/wandel/wandel/replay/Observations", "<init>", "(I)V"⟩ : MethodName) prog_61_method_1_code 2 none :: ws) ({ frames := 1, cells := 5, slots := 10, locals := 12 } : Room)) (fun a U => a = #[(.ref r0), (.int (2 : Int32))] ∧ Z.Warmed39 U.vm ∧ U.heap = h0) (fun _ _ _ _ _ => True) (fun _ U o U' => ∃ v L, o = .returned v ∧ Q1n2 Z r0 h0 n0 v U'.heap L ∧ FrameEnd U o U' L ({ frames := 1, cells := 5, slots := 10, locals := 12 } : Room).cells ({ frames := 1, cells := 5, slots := 10, locals := 12 } : Room).slots) := by
  refine MetFree.of_bodySF (plainFor_of_name pn_com_example_wandel_wandel_replay_Observations) hisR ?_
  intro p e s m args below meth c s₁ Bd hml0 hP hK
  obtain ⟨rfl, hZ, hh⟩ := hP
  have hx := Bd.exec
  have hby := Bd.bytes
  have hml : c.maxLocals = 2 := hml0
  have hown : s.vm.findClass "com/example/wandel/wandel/replay/Observations" = some m.cls := findClass_of_methodNamed Bd.named
  have hnm := (name_of_methodNamed Bd.named Bd.method).1
  have X0 : Stand p l e ({ frames := 1, cells := 5, slots := 10, locals := 12 } : Room) s m #[(.ref r0), (.int (2 : Int32))] below meth c s₁ [] 0 0 := Stand.of_body Bd
  have e0 : s₁.heap = h0 := by rw [← hh, Bd.state]; rfl
  have N0 := Fr.nil n0
  have pre0 : ∀ t, Steps p.tables e below (s₁.setTop (mkF m 0 #[.val (.ref r0), .val (.int (2 : Int32))] [])) t → Steps p.tables e below (s₁.setTop (entryFrame m #[(.ref r0), (.int (2 : Int32))] 2)) t := fun t k => castTop (ef_1n2 r0 m) k
  obtain ⟨T1, X1, e1, st1⟩ := initO X0 hx hZ hown (hw _ (List.mem_of_getElem? (i := 6) rfl)) (hw _ (List.mem_of_getElem? (i := 7) rfl)) (hw _ (List.mem_of_getElem? (i := 8) rfl)) e0 (g := (mkF m 1 #[.val (.ref r0), .val (.int (2 : Int32))] [(.ref r0)])) rfl (by rw [hml]; rfl) rfl (hb hby d1_1) (by decide) (W := 0) (by show 2 * 0 + _ ≤ _; exact Nat.le_of_eq rfl) (by decide)
  obtain ⟨T2, h2, k2, X2, e2, E2, A2, st2⟩ := newP X1 hx hZ (hw _ (List.mem_of_getElem? (i := 9) rfl)) e1 (g := (mkF m 6 #[.val (.ref r0), .val (.int (2 : Int32))] [(.int (2 : Int32)), (.ref r0)])) rfl (hb hby d1_6) rfl (by decide) (cap := 2) (by decide) (by decide) (by decide) (by decide)
  obtain ⟨b2, g2⟩ : ∃ z, z = h0.size := ⟨_, rfl⟩
  rw [← g2] at A2 st2
  have ne3 : r0 ≠ b2 := Nat.ne_of_lt (Nat.lt_of_lt_of_le E_r.lt (Nat.le_of_eq g2.symm))
  have g_b2 : n0 ≤ b2 := Nat.le_trans Z0 (Nat.le_of_eq g2.symm)
  have sz_b2 : h0.size ≤ b2 := Nat.le_trans (Keep.refl h0 [r0]).1 (Nat.le_of_eq g2.symm)
  have V_b2 : Arv Z h2 b2 k2 .int (2 : Int32) [(.int (0 : Int32)), (.int (0 : Int32))] (.int (0 : Int32)) := (Arv.new A2 (by decide)).pad (pad_rep [] (.int (0 : Int32)) 2)
  have K2 : Keep h0 h2 [r0] := (Keep.refl h0 [r0]).ext E2
  obtain ⟨T4, h4, X4, e4, W4, st4⟩ := putF X2 hx hZ hown (host := "") (Or.inl (hw _ (List.mem_of_getElem? (i := 10) rfl))) Via.refl e2 (Fld.ext E2 F_count) (Exa.ext E2 E_r) (Or.inr ⟨(hw _ (List.mem_of_getElem? (i := 11) rfl)), rfl, hnm⟩) (hw _ (List.mem_of_getElem? (i := 1) rfl)) (ty := (.array .int)) (by decide) rfl rfl (g := (mkF m 8 #[.val (.ref r0), .val (.int (2 : Int32))] [(.ref b2), (.ref r0)])) rfl rfl (hb hby d1_8)
  have Fw4 : Fld Z h4 r0 "com/example/wandel/wandel/replay/Observations" "count" "[I" (.ref b2) := Fld.same W4 (Fld.ext E2 F_count)
  have K4 : Keep h0 h4 [r0] := K2.wr W4 (Or.inl (List.mem_of_getElem? (i := 0) rfl))
  have N4 := Fr.snoc X4 N0 g_r0
  obtain ⟨T5, h5, k5, X5, e5, E5, A5, st5⟩ := newP X4 hx hZ (hw _ (List.mem_of_getElem? (i := 9) rfl)) e4 (g := (mkF m 13 #[.val (.ref r0), .val (.int (2 : Int32))] [(.int (2 : Int32)), (.ref r0)])) rfl (hb hby d1_13) rfl (by decide) (cap := 2) (by decide) (by decide) (by decide) (by decide)
  obtain ⟨b5, g5⟩ : ∃ z, z = h4.size := ⟨_, rfl⟩
  rw [← g5] at A5 st5
  have ne6 : r0 ≠ b5 := Nat.ne_of_lt (Nat.lt_of_lt_of_le (Exa.wr W4 (Exa.ext E2 E_r)).lt (Nat.le_of_eq g5.symm))
  have ne7 : b2 ≠ b5 := Nat.ne_of_lt (Nat.lt_of_lt_of_le (V_b2.other W4 (Ne.symm ne3)).lt (Nat.le_of_eq g5.symm))
  have g_b5 : n0 ≤ b5 := Nat.le_trans (Nat.le_trans (Nat.le_trans Z0 E2.1) (Keep.of_wr W4).1) (Nat.le_of_eq g5.symm)
  have sz_b5 : h0.size ≤ b5 := Nat.le_trans K4.1 (Nat.le_of_eq g5.symm)
  have V_b5 : Arv Z h5 b5 k5 .int (2 : Int32) [(.int (0 : Int32)), (.int (0 : Int32))] (.int (0 : Int32)) := (Arv.new A5 (by decide)).pad (pad_rep [] (.int (0 : Int32)) 2)
  have K5 : Keep h0 h5 [r0] := K4.ext E5
  obtain ⟨T8, h8, X8, e8, W8, st8⟩ := putF X5 hx hZ hown (host := "") (Or.inl (hw _ (List.mem_of_getElem? (i := 12) rfl))) Via.refl e5 (Fld.ext E5 (Fld.other W4 (Fld.ext E2 F_changes) (Or.inr (slot_ne (Or.inr (hw _ (List.mem_of_getElem? (i := 13) rfl))) (Or.inr (hw _ (List.mem_of_getElem? (i := 11) rfl))) (by decide) (t := (.array .int)) (t' := (.array .int)) (by decide) (by decide))))) (Exa.ext E5 (Exa.wr W4 (Exa.ext E2 E_r))) (Or.inr ⟨(hw _ (List.mem_of_getElem? (i := 13) rfl)), rfl, hnm⟩) (hw _ (List.mem_of_getElem? (i := 1) rfl)) (ty := (.array .int)) (by decide) rfl rfl (g := (mkF m 15 #[.val (.ref r0), .val (.int (2 : Int32))] [(.ref b5), (.ref r0)])) rfl rfl (hb hby d1_15)
  have Fw8 : Fld Z h8 r0 "com/example/wandel/wandel/replay/Observations" "changes" "[I" (.ref b5) := Fld.same W8 (Fld.ext E5 (Fld.other W4 (Fld.ext E2 F_changes) (Or.inr (slot_ne (Or.inr (hw _ (List.mem_of_getElem? (i := 13) rfl))) (Or.inr (hw _ (List.mem_of_getElem? (i := 11) rfl))) (by decide) (t := (.array .int)) (t' := (.array .int)) (by decide) (by decide)))))
  have K8 : Keep h0 h8 [r0] := K5.wr W8 (Or.inl (List.mem_of_getElem? (i := 0) rfl))
  have N8 := Fr.snoc X8 N4 g_r0
  obtain ⟨T9, h9, k9, X9, e9, E9, A9, st9⟩ := newP X8 hx hZ (hw _ (List.mem_of_getElem? (i := 14) rfl)) e8 (g := (mkF m 20 #[.val (.ref r0), .val (.int (2 : Int32))] [(.int (2 : Int32)), (.ref r0)])) rfl (hb hby d1_20) rfl (by decide) (cap := 2) (by decide) (by decide) (by decide) (by decide)
  obtain ⟨b9, g9⟩ : ∃ z, z = h8.size := ⟨_, rfl⟩
  rw [← g9] at A9 st9
  have ne10 : r0 ≠ b9 := Nat.ne_of_lt (Nat.lt_of_lt_of_le (Exa.wr W8 (Exa.ext E5 (Exa.wr W4 (Exa.ext E2 E_r)))).lt (Nat.le_of_eq g9.symm))
  have ne11 : b2 ≠ b9 := Nat.ne_of_lt (Nat.lt_of_lt_of_le (((V_b2.other W4 (Ne.symm ne3)).ext E5).other W8 (Ne.symm ne3)).lt (Nat.le_of_eq g9.symm))
  have ne12 : b5 ≠ b9 := Nat.ne_of_lt (Nat.lt_of_lt_of_le (V_b5.other W8 (Ne.symm ne6)).lt (Nat.le_of_eq g9.symm))
  have g_b9 : n0 ≤ b9 := Nat.le_trans (Nat.le_trans (Nat.le_trans (Nat.le_trans (Nat.le_trans Z0 E2.1) (Keep.of_wr W4).1) E5.1) (Keep.of_wr W8).1) (Nat.le_of_eq g9.symm)
  have sz_b9 : h0.size ≤ b9 := Nat.le_trans K8.1 (Nat.le_of_eq g9.symm)
  have V_b9 : Arv Z h9 b9 k9 .boolean (2 : Int32) [(.int (0 : Int32)), (.int (0 : Int32))] (.int (0 : Int32)) := (Arv.new A9 (by decide)).pad (pad_rep [] (.int (0 : Int32)) 2)
  have K9 : Keep h0 h9 [r0] := K8.ext E9
  obtain ⟨T13, h13, X13, e13, W13, st13⟩ := putF X9 hx hZ hown (host := "") (Or.inl (hw _ (List.mem_of_getElem? (i := 15) rfl))) Via.refl e9 (Fld.ext E9 (Fld.other W8 (Fld.ext E5 (Fld.other W4 (Fld.ext E2 F_lastChanged) (Or.inr (slot_ne (Or.inr (hw _ (List.mem_of_getElem? (i := 16) rfl))) (Or.inr (hw _ (List.mem_of_getElem? (i := 11) rfl))) (by decide) (t := (.array .boolean)) (t' := (.array .int)) (by decide) (by decide))))) (Or.inr (slot_ne (Or.inr (hw _ (List.mem_of_getElem? (i := 16) rfl))) (Or.inr (hw _ (List.mem_of_getElem? (i := 13) rfl))) (by decide) (t := (.array .boolean)) (t' := (.array .int)) (by decide) (by decide))))) (Exa.ext E9 (Exa.wr W8 (Exa.ext E5 (Exa.wr W4 (Exa.ext E2 E_r))))) (Or.inr ⟨(hw _ (List.mem_of_getElem? (i := 16) rfl)), rfl, hnm⟩) (hw _ (List.mem_of_getElem? (i := 1) rfl)) (ty := (.array .boolean)) (by decide) rfl rfl (g := (mkF m 22 #[.val (.ref r0), .val (.int (2 : Int32))] [(.ref b9), (.ref r0)])) rfl rfl (hb hby d1_22)
  have Fw13 : Fld Z h13 r0 "com/example/wandel/wandel/replay/Observations" "lastChanged" "[Z" (.ref b9) := Fld.same W13 (Fld.ext E9 (Fld.other W8 (Fld.ext E5 (Fld.other W4 (Fld.ext E2 F_lastChanged) (Or.inr (slot_ne (Or.inr (hw _ (List.mem_of_getElem? (i := 16) rfl))) (Or.inr (hw _ (List.mem_of_getElem? (i := 11) rfl))) (by decide) (t := (.array .boolean)) (t' := (.array .int)) (by decide) (by decide))))) (Or.inr (slot_ne (Or.inr (hw _ (List.mem_of_getElem? (i := 16) rfl))) (Or.inr (hw _ (List.mem_of_getElem? (i := 13) rfl))) (by decide) (t := (.array .boolean)) (t' := (.array .int)) (by decide) (by decide)))))
  have K13 : Keep h0 h13 [r0] := K9.wr W13 (Or.inl (List.mem_of_getElem? (i := 0) rfl))
  have N13 := Fr.snoc X13 N8 g_r0
  obtain ⟨T14, h14, k14, X14, e14, E14, A14, st14⟩ := newP X13 hx hZ (hw _ (List.mem_of_getElem? (i := 17) rfl)) e13 (g := (mkF m 27 #[.val (.ref r0), .val (.int (2 : Int32))] [(.int (2 : Int32)), (.ref r0)])) rfl (hb hby d1_27) rfl (by decide) (cap := 2) (by decide) (by decide) (by decide) (by decide)
  obtain ⟨b14, g14⟩ : ∃ z, z = h13.size := ⟨_, rfl⟩
  rw [← g14] at A14 st14
  have ne15 : r0 ≠ b14 := Nat.ne_of_lt (Nat.lt_of_lt_of_le (Exa.wr W13 (Exa.ext E9 (Exa.wr W8 (Exa.ext E5 (Exa.wr W4 (Exa.ext E2 E_r)))))).lt (Nat.le_of_eq g14.symm))
  have ne16 : b2 ≠ b14 := Nat.ne_of_lt (Nat.lt_of_lt_of_le (((((V_b2.other W4 (Ne.symm ne3)).ext E5).other W8 (Ne.symm ne3)).ext E9).other W13 (Ne.symm ne3)).lt (Nat.le_of_eq g14.symm))
  have ne17 : b5 ≠ b14 := Nat.ne_of_lt (Nat.lt_of_lt_of_le (((V_b5.other W8 (Ne.symm ne6)).ext E9).other W13 (Ne.symm ne6)).lt (Nat.le_of_eq g14.symm))
  have ne18 : b9 ≠ b14 := Nat.ne_of_lt (Nat.lt_of_lt_of_le (V_b9.other W13 (Ne.symm ne10)).lt (Nat.le_of_eq g14.symm))
  have g_b14 : n0 ≤ b14 := Nat.le_trans (Nat.le_trans (Nat.le_trans (Nat.le_trans (Nat.le_trans (Nat.le_trans (Nat.le_trans Z0 E2.1) (Keep.of_wr W4).1) E5.1) (Keep.of_wr W8).1) E9.1) (Keep.of_wr W13).1) (Nat.le_of_eq g14.symm)
  have sz_b14 : h0.size ≤ b14 := Nat.le_trans K13.1 (Nat.le_of_eq g14.symm)
  have V_b14 : Arv Z h14 b14 k14 .long (2 : Int32) [(.long (0 : Int64)), (.long (0 : Int64))] (.long (0 : Int64)) := (Arv.new A14 (by decide)).pad (pad_rep [] (.long (0 : Int64)) 2)
  have K14 : Keep h0 h14 [r0] := K13.ext E14
  obtain ⟨T19, h19, X19, e19, W19, st19⟩ := putF X14 hx hZ hown (host := "") (Or.inl (hw _ (List.mem_of_getElem? (i := 18) rfl))) Via.refl e14 (Fld.ext E14 (Fld.other W13 (Fld.ext E9 (Fld.other W8 (Fld.ext E5 (Fld.other W4 (Fld.ext E2 F_arithmetic) (Or.inr (slot_ne (Or.inr (hw _ (List.mem_of_getElem? (i := 19) rfl))) (Or.inr (hw _ (List.mem_of_getElem? (i := 11) rfl))) (by decide) (t := (.array .long)) (t' := (.array .int)) (by decide) (by decide))))) (Or.inr (slot_ne (Or.inr (hw _ (List.mem_of_getElem? (i := 19) rfl))) (Or.inr (hw _ (List.mem_of_getElem? (i := 13) rfl))) (by decide) (t := (.array .long)) (t' := (.array .int)) (by decide) (by decide))))) (Or.inr (slot_ne (Or.inr (hw _ (List.mem_of_getElem? (i := 19) rfl))) (Or.inr (hw _ (List.mem_of_getElem? (i := 16) rfl))) (by decide) (t := (.array .long)) (t' := (.array .boolean)) (by decide) (by decide))))) (Exa.ext E14 (Exa.wr W13 (Exa.ext E9 (Exa.wr W8 (Exa.ext E5 (Exa.wr W4 (Exa.ext E2 E_r))))))) (Or.inr ⟨(hw _ (List.mem_of_getElem? (i := 19) rfl)), rfl, hnm⟩) (hw _ (List.mem_of_getElem? (i := 1) rfl)) (ty := (.array .long)) (by decide) rfl rfl (g := (mkF m 29 #[.val (.ref r0), .val (.int (2 : Int32))] [(.ref b14), (.ref r0)])) rfl rfl (hb hby d1_29)
  have Fw19 : Fld Z h19 r0 "com/example/wandel/wandel/replay/Observations" "arithmetic" "[J" (.ref b14) := Fld.same W19 (Fld.ext E14 (Fld.other W13 (Fld.ext E9 (Fld.other W8 (Fld.ext E5 (Fld.other W4 (Fld.ext E2 F_arithmetic) (Or.inr (slot_ne (Or.inr (hw _ (List.mem_of_getElem? (i := 19) rfl))) (Or.inr (hw _ (List.mem_of_getElem? (i := 11) rfl))) (by decide) (t := (.array .long)) (t' := (.array .int)) (by decide) (by decide))))) (Or.inr (slot_ne (Or.inr (hw _ (List.mem_of_getElem? (i := 19) rfl))) (Or.inr (hw _ (List.mem_of_getElem? (i := 13) rfl))) (by decide) (t := (.array .long)) (t' := (.array .int)) (by decide) (by decide))))) (Or.inr (slot_ne (Or.inr (hw _ (List.mem_of_getElem? (i := 19) rfl))) (Or.inr (hw _ (List.mem_of_getElem? (i := 16) rfl))) (by decide) (t := (.array .long)) (t' := (.array .boolean)) (by decide) (by decide)))))
  have K19 : Keep h0 h19 [r0] := K14.wr W19 (Or.inl (List.mem_of_getElem? (i := 0) rfl))
  have N19 := Fr.snoc X19 N13 g_r0
  obtain ⟨T20, h20, k20, X20, e20, E20, A20, st20⟩ := newP X19 hx hZ (hw _ (List.mem_of_getElem? (i := 20) rfl)) e19 (g := (mkF m 34 #[.val (.ref r0), .val (.int (2 : Int32))] [(.int (2 : Int32)), (.ref r0)])) rfl (hb hby d1_34) rfl (by decide) (cap := 2) (by decide) (by decide) (by decide) (by decide)
  obtain ⟨b20, g20⟩ : ∃ z, z = h19.size := ⟨_, rfl⟩
  rw [← g20] at A20 st20
  have ne21 : r0 ≠ b20 := Nat.ne_of_lt (Nat.lt_of_lt_of_le (Exa.wr W19 (Exa.ext E14 (Exa.wr W13 (Exa.ext E9 (Exa.wr W8 (Exa.ext E5 (Exa.wr W4 (Exa.ext E2 E_r)))))))).lt (Nat.le_of_eq g20.symm))
  have ne22 : b2 ≠ b20 := Nat.ne_of_lt (Nat.lt_of_lt_of_le (((((((V_b2.other W4 (Ne.symm ne3)).ext E5).other W8 (Ne.symm ne3)).ext E9).other W13 (Ne.symm ne3)).ext E14).other W19 (Ne.symm ne3)).lt (Nat.le_of_eq g20.symm))
  have ne23 : b5 ≠ b20 := Nat.ne_of_lt (Nat.lt_of_lt_of_le (((((V_b5.other W8 (Ne.symm ne6)).ext E9).other W13 (Ne.symm ne6)).ext E14).other W19 (Ne.symm ne6)).lt (Nat.le_of_eq g20.symm))
  have ne24 : b9 ≠ b20 := Nat.ne_of_lt (Nat.lt_of_lt_of_le (((V_b9.other W13 (Ne.symm ne10)).ext E14).other W19 (Ne.symm ne10)).lt (Nat.le_of_eq g20.symm))
  have ne25 : b14 ≠ b20 := Nat.ne_of_lt (Nat.lt_of_lt_of_le (V_b14.other W19 (Ne.symm ne15)).lt (Nat.le_of_eq g20.symm))
  have g_b20 : n0 ≤ b20 := Nat.le_trans (Nat.le_trans (Nat.le_trans (Nat.le_trans (Nat.le_trans (Nat.le_trans (Nat.le_trans (Nat.le_trans (Nat.le_trans Z0 E2.1) (Keep.of_wr W4).1) E5.1) (Keep.of_wr W8).1) E9.1) (Keep.of_wr W13).1) E14.1) (Keep.of_wr W19).1) (Nat.le_of_eq g20.symm)
  have sz_b20 : h0.size ≤ b20 := Nat.le_trans K19.1 (Nat.le_of_eq g20.symm)
  have V_b20 : Arv Z h20 b20 k20 .double (2 : Int32) [(.double (0 : UInt64)), (.double (0 : UInt64))] (.double (0 : UInt64)) := (Arv.new A20 (by decide)).pad (pad_rep [] (.double (0 : UInt64)) 2)
  have K20 : Keep h0 h20 [r0] := K19.ext E20
  obtain ⟨T26, h26, X26, e26, W26, st26⟩ := putF X20 hx hZ hown (host := "") (Or.inl (hw _ (List.mem_of_getElem? (i := 21) rfl))) Via.refl e20 (Fld.ext E20 (Fld.other W19 (Fld.ext E14 (Fld.other W13 (Fld.ext E9 (Fld.other W8 (Fld.ext E5 (Fld.other W4 (Fld.ext E2 F_geometric) (Or.inr (slot_ne (Or.inr (hw _ (List.mem_of_getElem? (i := 22) rfl))) (Or.inr (hw _ (List.mem_of_getElem? (i := 11) rfl))) (by decide) (t := (.array .double)) (t' := (.array .int)) (by decide) (by decide))))) (Or.inr (slot_ne (Or.inr (hw _ (List.mem_of_getElem? (i := 22) rfl))) (Or.inr (hw _ (List.mem_of_getElem? (i := 13) rfl))) (by decide) (t := (.array .double)) (t' := (.array .int)) (by decide) (by decide))))) (Or.inr (slot_ne (Or.inr (hw _ (List.mem_of_getElem? (i := 22) rfl))) (Or.inr (hw _ (List.mem_of_getElem? (i := 16) rfl))) (by decide) (t := (.array .double)) (t' := (.array .boolean)) (by decide) (by decide))))) (Or.inr (slot_ne (Or.inr (hw _ (List.mem_of_getElem? (i := 22) rfl))) (Or.inr (hw _ (List.mem_of_getElem? (i := 19) rfl))) (by decide) (t := (.array .double)) (t' := (.array .long)) (by decide) (by decide))))) (Exa.ext E20 (Exa.wr W19 (Exa.ext E14 (Exa.wr W13 (Exa.ext E9 (Exa.wr W8 (Exa.ext E5 (Exa.wr W4 (Exa.ext E2 E_r))))))))) (Or.inr ⟨(hw _ (List.mem_of_getElem? (i := 22) rfl)), rfl, hnm⟩) (hw _ (List.mem_of_getElem? (i := 1) rfl)) (ty := (.array .double)) (by decide) rfl rfl (g := (mkF m 36 #[.val (.ref r0), .val (.int (2 : Int32))] [(.ref b20), (.ref r0)])) rfl rfl (hb hby d1_36)
  have Fw26 : Fld Z h26 r0 "com/example/wandel/wandel/replay/Observations" "geometric" "[D" (.ref b20) := Fld.same W26 (Fld.ext E20 (Fld.other W19 (Fld.ext E14 (Fld.other W13 (Fld.ext E9 (Fld.other W8 (Fld.ext E5 (Fld.other W4 (Fld.ext E2 F_geometric) (Or.inr (slot_ne (Or.inr (hw _ (List.mem_of_getElem? (i := 22) rfl))) (Or.inr (hw _ (List.mem_of_getElem? (i := 11) rfl))) (by decide) (t := (.array .double)) (t' := (.array .int)) (by decide) (by decide))))) (Or.inr (slot_ne (Or.inr (hw _ (List.mem_of_getElem? (i := 22) rfl))) (Or.inr (hw _ (List.mem_of_getElem? (i := 13) rfl))) (by decide) (t := (.array .double)) (t' := (.array .int)) (by decide) (by decide))))) (Or.inr (slot_ne (Or.inr (hw _ (List.mem_of_getElem? (i := 22) rfl))) (Or.inr (hw _ (List.mem_of_getElem? (i := 16) rfl))) (by decide) (t := (.array .double)) (t' := (.array .boolean)) (by decide) (by decide))))) (Or.inr (slot_ne (Or.inr (hw _ (List.mem_of_getElem? (i := 22) rfl))) (Or.inr (hw _ (List.mem_of_getElem? (i := 19) rfl))) (by decide) (t := (.array .double)) (t' := (.array .long)) (by decide) (by decide)))))
  have K26 : Keep h0 h26 [r0] := K20.wr W26 (Or.inl (List.mem_of_getElem? (i := 0) rfl))
  have N26 := Fr.snoc X26 N19 g_r0
  obtain ⟨fs, hr, hrun, hended, hW, hsame⟩ := X26.leave (v := none) (fun _ => rfl)
  refine ⟨_, _, pre0 _ ?_, hrun, hended, _, _, rfl, ?_, ⟨_, rfl⟩, hW, hsame.mono (by decide) (by decide)⟩
  · show Steps p.tables e below (s₁.setTop (mkF m 0 #[.val (.ref r0), .val (.int (2 : Int32))] [])) _
    refine XS.aloadN X0.here hx rfl (hb hby d1_0) rfl rfl ?_
    refine st1 _ ?_
    refine XS.aloadN X1.here hx rfl (hb hby d1_4) rfl rfl ?_
    refine XS.iloadN X1.here hx rfl (hb hby d1_5) rfl ?_
    refine st2 _ ?_
    refine st4 _ ?_
    refine XS.aloadN X4.here hx rfl (hb hby d1_11) rfl rfl ?_
    refine XS.iloadN X4.here hx rfl (hb hby d1_12) rfl ?_
    show Steps p.tables e below (T4.setTop (mkF m 13 #[.val (.ref r0), .val (.int (2 : Int32))] [(.int (2 : Int32)), (.ref r0)])) _
    refine st5 _ ?_
    refine st8 _ ?_
    refine XS.aloadN X8.here hx rfl (hb hby d1_18) rfl rfl ?_
    refine XS.iloadN X8.here hx rfl (hb hby d1_19) rfl ?_
    refine st9 _ ?_
    refine st13 _ ?_
    refine XS.aloadN X13.here hx rfl (hb hby d1_25) rfl rfl ?_
    refine XS.iloadN X13.here hx rfl (hb hby d1_26) rfl ?_
    show Steps p.tables e below (T13.setTop (mkF m 27 #[.val (.ref r0), .val (.int (2 : Int32))] [(.int (2 : Int32)), (.ref r0)])) _
    refine st14 _ ?_
    refine st19 _ ?_
    refine XS.aloadN X19.here hx rfl (hb hby d1_32) rfl rfl ?_
    refine XS.iloadN X19.here hx rfl (hb hby d1_33) rfl ?_
    refine st20 _ ?_
    refine st26 _ ?_
    show Steps p.tables e below (T26.setTop (mkF m 39 #[.val (.ref r0), .val (.int (2 : Int32))] [])) _
    exact X26.returnOut hx Bd.returns (hb hby d1_39) hr
  · show Q1n2 Z r0 h0 n0 _ T26.heap _
    rw [e26]
    exact ⟨b2, b5, b9, b14, b20, k2, k5, k9, k14, k20, rfl, N26, K26, (Exa.wr W26 (Exa.ext E20 (Exa.wr W19 (Exa.ext E14 (Exa.wr W13 (Exa.ext E9 (Exa.wr W8 (Exa.ext E5 (Exa.wr W4 (Exa.ext E2 E_r)))))))))), (Fld.other W26 (Fld.ext E20 (Fld.other W19 (Fld.ext E14 (Fld.other W13 (Fld.ext E9 (Fld.other W8 (Fld.ext E5 Fw4) (Or.inr (slot_ne (Or.inr (hw _ (List.mem_of_getElem? (i := 11) rfl))) (Or.inr (hw _ (List.mem_of_getElem? (i := 13) rfl))) (by decide) (t := (.array .int)) (t' := (.array .int)) (by decide) (by decide))))) (Or.inr (slot_ne (Or.inr (hw _ (List.mem_of_getElem? (i := 11) rfl))) (Or.inr (hw _ (List.mem_of_getElem? (i := 16) rfl))) (by decide) (t := (.array .int)) (t' := (.array .boolean)) (by decide) (by decide))))) (Or.inr (slot_ne (Or.inr (hw _ (List.mem_of_getElem? (i := 11) rfl))) (Or.inr (hw _ (List.mem_of_getElem? (i := 19) rfl))) (by decide) (t := (.array .int)) (t' := (.array .long)) (by decide) (by decide))))) (Or.inr (slot_ne (Or.inr (hw _ (List.mem_of_getElem? (i := 11) rfl))) (Or.inr (hw _ (List.mem_of_getElem? (i := 22) rfl))) (by decide) (t := (.array .int)) (t' := (.array .double)) (by decide) (by decide)))), (Fld.other W26 (Fld.ext E20 (Fld.other W19 (Fld.ext E14 (Fld.other W13 (Fld.ext E9 Fw8) (Or.inr (slot_ne (Or.inr (hw _ (List.mem_of_getElem? (i := 13) rfl))) (Or.inr (hw _ (List.mem_of_getElem? (i := 16) rfl))) (by decide) (t := (.array .int)) (t' := (.array .boolean)) (by decide) (by decide))))) (Or.inr (slot_ne (Or.inr (hw _ (List.mem_of_getElem? (i := 13) rfl))) (Or.inr (hw _ (List.mem_of_getElem? (i := 19) rfl))) (by decide) (t := (.array .int)) (t' := (.array .long)) (by decide) (by decide))))) (Or.inr (slot_ne (Or.inr (hw _ (List.mem_of_getElem? (i := 13) rfl))) (Or.inr (hw _ (List.mem_of_getElem? (i := 22) rfl))) (by decide) (t := (.array .int)) (t' := (.array .double)) (by decide) (by decide)))), (Fld.other W26 (Fld.ext E20 (Fld.other W19 (Fld.ext E14 Fw13) (Or.inr (slot_ne (Or.inr (hw _ (List.mem_of_getElem? (i := 16) rfl))) (Or.inr (hw _ (List.mem_of_getElem? (i := 19) rfl))) (by decide) (t := (.array .boolean)) (t' := (.array .long)) (by decide) (by decide))))) (Or.inr (slot_ne (Or.inr (hw _ (List.mem_of_getElem? (i := 16) rfl))) (Or.inr (hw _ (List.mem_of_getElem? (i := 22) rfl))) (by decide) (t := (.array .boolean)) (t' := (.array .double)) (by decide) (by decide)))), (Fld.other W26 (Fld.ext E20 Fw19) (Or.inr (slot_ne (Or.inr (hw _ (List.mem_of_getElem? (i := 19) rfl))) (Or.inr (hw _ (List.mem_of_getElem? (i := 22) rfl))) (by decide) (t := (.array .long)) (t' := (.array .double)) (by decide) (by decide)))), Fw26, (((((((((V_b2.other W4 (Ne.symm ne3)).ext E5).other W8 (Ne.symm ne3)).ext E9).other W13 (Ne.symm ne3)).ext E14).other W19 (Ne.symm ne3)).ext E20).other W26 (Ne.symm ne3)), (((((((V_b5.other W8 (Ne.symm ne6)).ext E9).other W13 (Ne.symm ne6)).ext E14).other W19 (Ne.symm ne6)).ext E20).other W26 (Ne.symm ne6)), (((((V_b9.other W13 (Ne.symm ne10)).ext E14).other W19 (Ne.symm ne10)).ext E20).other W26 (Ne.symm ne10)), (((V_b14.other W19 (Ne.symm ne15)).ext E20).other W26 (Ne.symm ne15)), (V_b20.other W26 (Ne.symm ne21)), ne3, ne6, ne10, ne15, ne21, ne7, ne11, ne16, ne22, ne12, ne17, ne23, ne18, ne24, ne25, sz_b2, sz_b5, sz_b9, sz_b14, sz_b20⟩
theorem ef_1n3 (r0 : Addr)  (m : MethodId) : entryFrame m #[(.ref r0), (.int (3 : Int32))] 2 = mkF m 0 #[.val (.ref r0), .val (.int (3 : Int32))] [] := by first | (simp [entryFrame, mkF, argsToLocals, Value.category]; done) | rfl
def Q1n3 (Z : State) (r0 : Addr)  (h0 : Heap) (n0 : Nat) (v : Option Value) (h : Heap) (L : List Loc) : Prop := ∃ (ca : Addr) (ch : Addr) (lc : Addr) (ar : Addr) (ge : Addr) (kca : ClassId) (kch : ClassId) (klc : ClassId) (kar : ClassId) (kge : ClassId), v = none ∧ Fr n0 L ∧ Keep h0 h [r0] ∧ Exa Z h r0 "com/example/wandel/wandel/replay/Observations" ∧ Fld Z h r0 "com/example/wandel/wandel/replay/Observations" "count" "[I" (.ref ca) ∧ Fld Z h r0 "com/example/wandel/wandel/replay/Observations" "changes" "[I" (.ref ch) ∧ Fld Z h r0 "com/example/wandel/wandel/replay/Observations" "lastChanged" "[Z" (.ref lc) ∧ Fld Z h r0 "com/example/wandel/wandel/replay/Observations" "arithmetic" "[J" (.ref ar) ∧ Fld Z h r0 "com/example/wandel/wandel/replay/Observations" "geometric" "[D" (.ref ge) ∧ Arv Z h ca kca .int (3 : Int32) [(.int (0 : Int32)), (.int (0 : Int32)), (.int (0 : Int32))] (.int (0 : Int32)) ∧ Arv Z h ch kch .int (3 : Int32) [(.int (0 : Int32)), (.int (0 : Int32)), (.int (0 : Int32))] (.int (0 : Int32)) ∧ Arv Z h lc klc .boolean (3 : Int32) [(.int (0 : Int32)), (.int (0 : Int32)), (.int (0 : Int32))] (.int (0 : Int32)) ∧ Arv Z h ar kar .long (3 : Int32) [(.long (0 : Int64)), (.long (0 : Int64)), (.long (0 : Int64))] (.long (0 : Int64)) ∧ Arv Z h ge kge .double (3 : Int32) [(.double (0 : UInt64)), (.double (0 : UInt64)), (.double (0 : UInt64))] (.double (0 : UInt64)) ∧ r0 ≠ ca ∧ r0 ≠ ch ∧ r0 ≠ lc ∧ r0 ≠ ar ∧ r0 ≠ ge ∧ ca ≠ ch ∧ ca ≠ lc ∧ ca ≠ ar ∧ ca ≠ ge ∧ ch ≠ lc ∧ ch ≠ ar ∧ ch ≠ ge ∧ lc ≠ ar ∧ lc ≠ ge ∧ ar ≠ ge ∧ h0.size ≤ ca ∧ h0.size ≤ ch ∧ h0.size ≤ lc ∧ h0.size ≤ ar ∧ h0.size ≤ ge
set_option maxRecDepth 65536 in
set_option maxHeartbeats 40000000 in
theorem rm1n3 (l : Launch) (Z : State) (a0 : Array Value) (hw : ∀ d ∈ tables_1, d.before a0 Z = true) (ws : List Jvm.Cond) (r0 : Addr)  (h0 : Heap) (n0 : Nat) (Z0 : n0 ≤ h0.size) (E_r : Exa Z h0 r0 "com/example/wandel/wandel/replay/Observations") (F_count : Fld Z h0 r0 "com/example/wandel/wandel/replay/Observations" "count" "[I" .null) (F_changes : Fld Z h0 r0 "com/example/wandel/wandel/replay/Observations" "changes" "[I" .null) (F_lastChanged : Fld Z h0 r0 "com/example/wandel/wandel/replay/Observations" "lastChanged" "[Z" .null) (F_arithmetic : Fld Z h0 r0 "com/example/wandel/wandel/replay/Observations" "arithmetic" "[J" .null) (F_geometric : Fld Z h0 r0 "com/example/wandel/wandel/replay/Observations" "geometric" "[D" .null) (g_r0 : n0 ≤ r0) :
    MetFree l (⟨"com/example/wandel/wandel/replay/Observations", "<init>", "(I)V"⟩ : MethodName) (head1 (Jvm.Cond.code (⟨"com/example/wandel/wandel/replay/Observations", "<init>", "(I)V"⟩ : MethodName) prog_61_method_1_code 2 none :: ws) ({ frames := 1, cells := 5, slots := 15, locals := 12 } : Room)) (fun a U => a = #[(.ref r0), (.int (3 : Int32))] ∧ Z.Warmed39 U.vm ∧ U.heap = h0) (fun _ _ _ _ _ => True) (fun _ U o U' => ∃ v L, o = .returned v ∧ Q1n3 Z r0 h0 n0 v U'.heap L ∧ FrameEnd U o U' L ({ frames := 1, cells := 5, slots := 15, locals := 12 } : Room).cells ({ frames := 1, cells := 5, slots := 15, locals := 12 } : Room).slots) := by
  refine MetFree.of_bodySF (plainFor_of_name pn_com_example_wandel_wandel_replay_Observations) hisR ?_
  intro p e s m args below meth c s₁ Bd hml0 hP hK
  obtain ⟨rfl, hZ, hh⟩ := hP
  have hx := Bd.exec
  have hby := Bd.bytes
  have hml : c.maxLocals = 2 := hml0
  have hown : s.vm.findClass "com/example/wandel/wandel/replay/Observations" = some m.cls := findClass_of_methodNamed Bd.named
  have hnm := (name_of_methodNamed Bd.named Bd.method).1
  have X0 : Stand p l e ({ frames := 1, cells := 5, slots := 15, locals := 12 } : Room) s m #[(.ref r0), (.int (3 : Int32))] below meth c s₁ [] 0 0 := Stand.of_body Bd
  have e0 : s₁.heap = h0 := by rw [← hh, Bd.state]; rfl
  have N0 := Fr.nil n0
  have pre0 : ∀ t, Steps p.tables e below (s₁.setTop (mkF m 0 #[.val (.ref r0), .val (.int (3 : Int32))] [])) t → Steps p.tables e below (s₁.setTop (entryFrame m #[(.ref r0), (.int (3 : Int32))] 2)) t := fun t k => castTop (ef_1n3 r0 m) k
  obtain ⟨T1, X1, e1, st1⟩ := initO X0 hx hZ hown (hw _ (List.mem_of_getElem? (i := 6) rfl)) (hw _ (List.mem_of_getElem? (i := 7) rfl)) (hw _ (List.mem_of_getElem? (i := 8) rfl)) e0 (g := (mkF m 1 #[.val (.ref r0), .val (.int (3 : Int32))] [(.ref r0)])) rfl (by rw [hml]; rfl) rfl (hb hby d1_1) (by decide) (W := 0) (by show 2 * 0 + _ ≤ _; exact Nat.le_of_eq rfl) (by decide)
  obtain ⟨T2, h2, k2, X2, e2, E2, A2, st2⟩ := newP X1 hx hZ (hw _ (List.mem_of_getElem? (i := 9) rfl)) e1 (g := (mkF m 6 #[.val (.ref r0), .val (.int (3 : Int32))] [(.int (3 : Int32)), (.ref r0)])) rfl (hb hby d1_6) rfl (by decide) (cap := 3) (by decide) (by decide) (by decide) (by decide)
  obtain ⟨b2, g2⟩ : ∃ z, z = h0.size := ⟨_, rfl⟩
  rw [← g2] at A2 st2
  have ne3 : r0 ≠ b2 := Nat.ne_of_lt (Nat.lt_of_lt_of_le E_r.lt (Nat.le_of_eq g2.symm))
  have g_b2 : n0 ≤ b2 := Nat.le_trans Z0 (Nat.le_of_eq g2.symm)
  have sz_b2 : h0.size ≤ b2 := Nat.le_trans (Keep.refl h0 [r0]).1 (Nat.le_of_eq g2.symm)
  have V_b2 : Arv Z h2 b2 k2 .int (3 : Int32) [(.int (0 : Int32)), (.int (0 : Int32)), (.int (0 : Int32))] (.int (0 : Int32)) := (Arv.new A2 (by decide)).pad (pad_rep [] (.int (0 : Int32)) 3)
  have K2 : Keep h0 h2 [r0] := (Keep.refl h0 [r0]).ext E2
  obtain ⟨T4, h4, X4, e4, W4, st4⟩ := putF X2 hx hZ hown (host := "") (Or.inl (hw _ (List.mem_of_getElem? (i := 10) rfl))) Via.refl e2 (Fld.ext E2 F_count) (Exa.ext E2 E_r) (Or.inr ⟨(hw _ (List.mem_of_getElem? (i := 11) rfl)), rfl, hnm⟩) (hw _ (List.mem_of_getElem? (i := 1) rfl)) (ty := (.array .int)) (by decide) rfl rfl (g := (mkF m 8 #[.val (.ref r0), .val (.int (3 : Int32))] [(.ref b2), (.ref r0)])) rfl rfl (hb hby d1_8)
  have Fw4 : Fld Z h4 r0 "com/example/wandel/wandel/replay/Observations" "count" "[I" (.ref b2) := Fld.same W4 (Fld.ext E2 F_count)
  have K4 : Keep h0 h4 [r0] := K2.wr W4 (Or.inl (List.mem_of_getElem? (i := 0) rfl))
  have N4 := Fr.snoc X4 N0 g_r0
  obtain ⟨T5, h5, k5, X5, e5, E5, A5, st5⟩ := newP X4 hx hZ (hw _ (List.mem_of_getElem? (i := 9) rfl)) e4 (g := (mkF m 13 #[.val (.ref r0), .val (.int (3 : Int32))] [(.int (3 : Int32)), (.ref r0)])) rfl (hb hby d1_13) rfl (by decide) (cap := 3) (by decide) (by decide) (by decide) (by decide)
  obtain ⟨b5, g5⟩ : ∃ z, z = h4.size := ⟨_, rfl⟩
  rw [← g5] at A5 st5
  have ne6 : r0 ≠ b5 := Nat.ne_of_lt (Nat.lt_of_lt_of_le (Exa.wr W4 (Exa.ext E2 E_r)).lt (Nat.le_of_eq g5.symm))
  have ne7 : b2 ≠ b5 := Nat.ne_of_lt (Nat.lt_of_lt_of_le (V_b2.other W4 (Ne.symm ne3)).lt (Nat.le_of_eq g5.symm))
  have g_b5 : n0 ≤ b5 := Nat.le_trans (Nat.le_trans (Nat.le_trans Z0 E2.1) (Keep.of_wr W4).1) (Nat.le_of_eq g5.symm)
  have sz_b5 : h0.size ≤ b5 := Nat.le_trans K4.1 (Nat.le_of_eq g5.symm)
  have V_b5 : Arv Z h5 b5 k5 .int (3 : Int32) [(.int (0 : Int32)), (.int (0 : Int32)), (.int (0 : Int32))] (.int (0 : Int32)) := (Arv.new A5 (by decide)).pad (pad_rep [] (.int (0 : Int32)) 3)
  have K5 : Keep h0 h5 [r0] := K4.ext E5
  obtain ⟨T8, h8, X8, e8, W8, st8⟩ := putF X5 hx hZ hown (host := "") (Or.inl (hw _ (List.mem_of_getElem? (i := 12) rfl))) Via.refl e5 (Fld.ext E5 (Fld.other W4 (Fld.ext E2 F_changes) (Or.inr (slot_ne (Or.inr (hw _ (List.mem_of_getElem? (i := 13) rfl))) (Or.inr (hw _ (List.mem_of_getElem? (i := 11) rfl))) (by decide) (t := (.array .int)) (t' := (.array .int)) (by decide) (by decide))))) (Exa.ext E5 (Exa.wr W4 (Exa.ext E2 E_r))) (Or.inr ⟨(hw _ (List.mem_of_getElem? (i := 13) rfl)), rfl, hnm⟩) (hw _ (List.mem_of_getElem? (i := 1) rfl)) (ty := (.array .int)) (by decide) rfl rfl (g := (mkF m 15 #[.val (.ref r0), .val (.int (3 : Int32))] [(.ref b5), (.ref r0)])) rfl rfl (hb hby d1_15)
  have Fw8 : Fld Z h8 r0 "com/example/wandel/wandel/replay/Observations" "changes" "[I" (.ref b5) := Fld.same W8 (Fld.ext E5 (Fld.other W4 (Fld.ext E2 F_changes) (Or.inr (slot_ne (Or.inr (hw _ (List.mem_of_getElem? (i := 13) rfl))) (Or.inr (hw _ (List.mem_of_getElem? (i := 11) rfl))) (by decide) (t := (.array .int)) (t' := (.array .int)) (by decide) (by decide)))))
  have K8 : Keep h0 h8 [r0] := K5.wr W8 (Or.inl (List.mem_of_getElem? (i := 0) rfl))
  have N8 := Fr.snoc X8 N4 g_r0
  obtain ⟨T9, h9, k9, X9, e9, E9, A9, st9⟩ := newP X8 hx hZ (hw _ (List.mem_of_getElem? (i := 14) rfl)) e8 (g := (mkF m 20 #[.val (.ref r0), .val (.int (3 : Int32))] [(.int (3 : Int32)), (.ref r0)])) rfl (hb hby d1_20) rfl (by decide) (cap := 3) (by decide) (by decide) (by decide) (by decide)
  obtain ⟨b9, g9⟩ : ∃ z, z = h8.size := ⟨_, rfl⟩
  rw [← g9] at A9 st9
  have ne10 : r0 ≠ b9 := Nat.ne_of_lt (Nat.lt_of_lt_of_le (Exa.wr W8 (Exa.ext E5 (Exa.wr W4 (Exa.ext E2 E_r)))).lt (Nat.le_of_eq g9.symm))
  have ne11 : b2 ≠ b9 := Nat.ne_of_lt (Nat.lt_of_lt_of_le (((V_b2.other W4 (Ne.symm ne3)).ext E5).other W8 (Ne.symm ne3)).lt (Nat.le_of_eq g9.symm))
  have ne12 : b5 ≠ b9 := Nat.ne_of_lt (Nat.lt_of_lt_of_le (V_b5.other W8 (Ne.symm ne6)).lt (Nat.le_of_eq g9.symm))
  have g_b9 : n0 ≤ b9 := Nat.le_trans (Nat.le_trans (Nat.le_trans (Nat.le_trans (Nat.le_trans Z0 E2.1) (Keep.of_wr W4).1) E5.1) (Keep.of_wr W8).1) (Nat.le_of_eq g9.symm)
  have sz_b9 : h0.size ≤ b9 := Nat.le_trans K8.1 (Nat.le_of_eq g9.symm)
  have V_b9 : Arv Z h9 b9 k9 .boolean (3 : Int32) [(.int (0 : Int32)), (.int (0 : Int32)), (.int (0 : Int32))] (.int (0 : Int32)) := (Arv.new A9 (by decide)).pad (pad_rep [] (.int (0 : Int32)) 3)
  have K9 : Keep h0 h9 [r0] := K8.ext E9
  obtain ⟨T13, h13, X13, e13, W13, st13⟩ := putF X9 hx hZ hown (host := "") (Or.inl (hw _ (List.mem_of_getElem? (i := 15) rfl))) Via.refl e9 (Fld.ext E9 (Fld.other W8 (Fld.ext E5 (Fld.other W4 (Fld.ext E2 F_lastChanged) (Or.inr (slot_ne (Or.inr (hw _ (List.mem_of_getElem? (i := 16) rfl))) (Or.inr (hw _ (List.mem_of_getElem? (i := 11) rfl))) (by decide) (t := (.array .boolean)) (t' := (.array .int)) (by decide) (by decide))))) (Or.inr (slot_ne (Or.inr (hw _ (List.mem_of_getElem? (i := 16) rfl))) (Or.inr (hw _ (List.mem_of_getElem? (i := 13) rfl))) (by decide) (t := (.array .boolean)) (t' := (.array .int)) (by decide) (by decide))))) (Exa.ext E9 (Exa.wr W8 (Exa.ext E5 (Exa.wr W4 (Exa.ext E2 E_r))))) (Or.inr ⟨(hw _ (List.mem_of_getElem? (i := 16) rfl)), rfl, hnm⟩) (hw _ (List.mem_of_getElem? (i := 1) rfl)) (ty := (.array .boolean)) (by decide) rfl rfl (g := (mkF m 22 #[.val (.ref r0), .val (.int (3 : Int32))] [(.ref b9), (.ref r0)])) rfl rfl (hb hby d1_22)
  have Fw13 : Fld Z h13 r0 "com/example/wandel/wandel/replay/Observations" "lastChanged" "[Z" (.ref b9) := Fld.same W13 (Fld.ext E9 (Fld.other W8 (Fld.ext E5 (Fld.other W4 (Fld.ext E2 F_lastChanged) (Or.inr (slot_ne (Or.inr (hw _ (List.mem_of_getElem? (i := 16) rfl))) (Or.inr (hw _ (List.mem_of_getElem? (i := 11) rfl))) (by decide) (t := (.array .boolean)) (t' := (.array .int)) (by decide) (by decide))))) (Or.inr (slot_ne (Or.inr (hw _ (List.mem_of_getElem? (i := 16) rfl))) (Or.inr (hw _ (List.mem_of_getElem? (i := 13) rfl))) (by decide) (t := (.array .boolean)) (t' := (.array .int)) (by decide) (by decide)))))
  have K13 : Keep h0 h13 [r0] := K9.wr W13 (Or.inl (List.mem_of_getElem? (i := 0) rfl))
  have N13 := Fr.snoc X13 N8 g_r0
  obtain ⟨T14, h14, k14, X14, e14, E14, A14, st14⟩ := newP X13 hx hZ (hw _ (List.mem_of_getElem? (i := 17) rfl)) e13 (g := (mkF m 27 #[.val (.ref r0), .val (.int (3 : Int32))] [(.int (3 : Int32)), (.ref r0)])) rfl (hb hby d1_27) rfl (by decide) (cap := 3) (by decide) (by decide) (by decide) (by decide)
  obtain ⟨b14, g14⟩ : ∃ z, z = h13.size := ⟨_, rfl⟩
  rw [← g14] at A14 st14
  have ne15 : r0 ≠ b14 := Nat.ne_of_lt (Nat.lt_of_lt_of_le (Exa.wr W13 (Exa.ext E9 (Exa.wr W8 (Exa.ext E5 (Exa.wr W4 (Exa.ext E2 E_r)))))).lt (Nat.le_of_eq g14.symm))
  have ne16 : b2 ≠ b14 := Nat.ne_of_lt (Nat.lt_of_lt_of_le (((((V_b2.other W4 (Ne.symm ne3)).ext E5).other W8 (Ne.symm ne3)).ext E9).other W13 (Ne.symm ne3)).lt (Nat.le_of_eq g14.symm))
  have ne17 : b5 ≠ b14 := Nat.ne_of_lt (Nat.lt_of_lt_of_le (((V_b5.other W8 (Ne.symm ne6)).ext E9).other W13 (Ne.symm ne6)).lt (Nat.le_of_eq g14.symm))
  have ne18 : b9 ≠ b14 := Nat.ne_of_lt (Nat.lt_of_lt_of_le (V_b9.other W13 (Ne.symm ne10)).lt (Nat.le_of_eq g14.symm))
  have g_b14 : n0 ≤ b14 := Nat.le_trans (Nat.le_trans (Nat.le_trans (Nat.le_trans (Nat.le_trans (Nat.le_trans (Nat.le_trans Z0 E2.1) (Keep.of_wr W4).1) E5.1) (Keep.of_wr W8).1) E9.1) (Keep.of_wr W13).1) (Nat.le_of_eq g14.symm)
  have sz_b14 : h0.size ≤ b14 := Nat.le_trans K13.1 (Nat.le_of_eq g14.symm)
  have V_b14 : Arv Z h14 b14 k14 .long (3 : Int32) [(.long (0 : Int64)), (.long (0 : Int64)), (.long (0 : Int64))] (.long (0 : Int64)) := (Arv.new A14 (by decide)).pad (pad_rep [] (.long (0 : Int64)) 3)
  have K14 : Keep h0 h14 [r0] := K13.ext E14
  obtain ⟨T19, h19, X19, e19, W19, st19⟩ := putF X14 hx hZ hown (host := "") (Or.inl (hw _ (List.mem_of_getElem? (i := 18) rfl))) Via.refl e14 (Fld.ext E14 (Fld.other W13 (Fld.ext E9 (Fld.other W8 (Fld.ext E5 (Fld.other W4 (Fld.ext E2 F_arithmetic) (Or.inr (slot_ne (Or.inr (hw _ (List.mem_of_getElem? (i := 19) rfl))) (Or.inr (hw _ (List.mem_of_getElem? (i := 11) rfl))) (by decide) (t := (.array .long)) (t' := (.array .int)) (by decide) (by decide))))) (Or.inr (slot_ne (Or.inr (hw _ (List.mem_of_getElem? (i := 19) rfl))) (Or.inr (hw _ (List.mem_of_getElem? (i := 13) rfl))) (by decide) (t := (.array .long)) (t' := (.array .int)) (by decide) (by decide))))) (Or.inr (slot_ne (Or.inr (hw _ (List.mem_of_getElem? (i := 19) rfl))) (Or.inr (hw _ (List.mem_of_getElem? (i := 16) rfl))) (by decide) (t := (.array .long)) (t' := (.array .boolean)) (by decide) (by decide))))) (Exa.ext E14 (Exa.wr W13 (Exa.ext E9 (Exa.wr W8 (Exa.ext E5 (Exa.wr W4 (Exa.ext E2 E_r))))))) (Or.inr ⟨(hw _ (List.mem_of_getElem? (i := 19) rfl)), rfl, hnm⟩) (hw _ (List.mem_of_getElem? (i := 1) rfl)) (ty := (.array .long)) (by decide) rfl rfl (g := (mkF m 29 #[.val (.ref r0), .val (.int (3 : Int32))] [(.ref b14), (.ref r0)])) rfl rfl (hb hby d1_29)
  have Fw19 : Fld Z h19 r0 "com/example/wandel/wandel/replay/Observations" "arithmetic" "[J" (.ref b14) := Fld.same W19 (Fld.ext E14 (Fld.other W13 (Fld.ext E9 (Fld.other W8 (Fld.ext E5 (Fld.other W4 (Fld.ext E2 F_arithmetic) (Or.inr (slot_ne (Or.inr (hw _ (List.mem_of_getElem? (i := 19) rfl))) (Or.inr (hw _ (List.mem_of_getElem? (i := 11) rfl))) (by decide) (t := (.array .long)) (t' := (.array .int)) (by decide) (by decide))))) (Or.inr (slot_ne (Or.inr (hw _ (List.mem_of_getElem? (i := 19) rfl))) (Or.inr (hw _ (List.mem_of_getElem? (i := 13) rfl))) (by decide) (t := (.array .long)) (t' := (.array .int)) (by decide) (by decide))))) (Or.inr (slot_ne (Or.inr (hw _ (List.mem_of_getElem? (i := 19) rfl))) (Or.inr (hw _ (List.mem_of_getElem? (i := 16) rfl))) (by decide) (t := (.array .long)) (t' := (.array .boolean)) (by decide) (by decide)))))
  have K19 : Keep h0 h19 [r0] := K14.wr W19 (Or.inl (List.mem_of_getElem? (i := 0) rfl))
  have N19 := Fr.snoc X19 N13 g_r0
  obtain ⟨T20, h20, k20, X20, e20, E20, A20, st20⟩ := newP X19 hx hZ (hw _ (List.mem_of_getElem? (i := 20) rfl)) e19 (g := (mkF m 34 #[.val (.ref r0), .val (.int (3 : Int32))] [(.int (3 : Int32)), (.ref r0)])) rfl (hb hby d1_34) rfl (by decide) (cap := 3) (by decide) (by decide) (by decide) (by decide)
  obtain ⟨b20, g20⟩ : ∃ z, z = h19.size := ⟨_, rfl⟩
  rw [← g20] at A20 st20
  have ne21 : r0 ≠ b20 := Nat.ne_of_lt (Nat.lt_of_lt_of_le (Exa.wr W19 (Exa.ext E14 (Exa.wr W13 (Exa.ext E9 (Exa.wr W8 (Exa.ext E5 (Exa.wr W4 (Exa.ext E2 E_r)))))))).lt (Nat.le_of_eq g20.symm))
  have ne22 : b2 ≠ b20 := Nat.ne_of_lt (Nat.lt_of_lt_of_le (((((((V_b2.other W4 (Ne.symm ne3)).ext E5).other W8 (Ne.symm ne3)).ext E9).other W13 (Ne.symm ne3)).ext E14).other W19 (Ne.symm ne3)).lt (Nat.le_of_eq g20.symm))
  have ne23 : b5 ≠ b20 := Nat.ne_of_lt (Nat.lt_of_lt_of_le (((((V_b5.other W8 (Ne.symm ne6)).ext E9).other W13 (Ne.symm ne6)).ext E14).other W19 (Ne.symm ne6)).lt (Nat.le_of_eq g20.symm))
  have ne24 : b9 ≠ b20 := Nat.ne_of_lt (Nat.lt_of_lt_of_le (((V_b9.other W13 (Ne.symm ne10)).ext E14).other W19 (Ne.symm ne10)).lt (Nat.le_of_eq g20.symm))
  have ne25 : b14 ≠ b20 := Nat.ne_of_lt (Nat.lt_of_lt_of_le (V_b14.other W19 (Ne.symm ne15)).lt (Nat.le_of_eq g20.symm))
  have g_b20 : n0 ≤ b20 := Nat.le_trans (Nat.le_trans (Nat.le_trans (Nat.le_trans (Nat.le_trans (Nat.le_trans (Nat.le_trans (Nat.le_trans (Nat.le_trans Z0 E2.1) (Keep.of_wr W4).1) E5.1) (Keep.of_wr W8).1) E9.1) (Keep.of_wr W13).1) E14.1) (Keep.of_wr W19).1) (Nat.le_of_eq g20.symm)
  have sz_b20 : h0.size ≤ b20 := Nat.le_trans K19.1 (Nat.le_of_eq g20.symm)
  have V_b20 : Arv Z h20 b20 k20 .double (3 : Int32) [(.double (0 : UInt64)), (.double (0 : UInt64)), (.double (0 : UInt64))] (.double (0 : UInt64)) := (Arv.new A20 (by decide)).pad (pad_rep [] (.double (0 : UInt64)) 3)
  have K20 : Keep h0 h20 [r0] := K19.ext E20
  obtain ⟨T26, h26, X26, e26, W26, st26⟩ := putF X20 hx hZ hown (host := "") (Or.inl (hw _ (List.mem_of_getElem? (i := 21) rfl))) Via.refl e20 (Fld.ext E20 (Fld.other W19 (Fld.ext E14 (Fld.other W13 (Fld.ext E9 (Fld.other W8 (Fld.ext E5 (Fld.other W4 (Fld.ext E2 F_geometric) (Or.inr (slot_ne (Or.inr (hw _ (List.mem_of_getElem? (i := 22) rfl))) (Or.inr (hw _ (List.mem_of_getElem? (i := 11) rfl))) (by decide) (t := (.array .double)) (t' := (.array .int)) (by decide) (by decide))))) (Or.inr (slot_ne (Or.inr (hw _ (List.mem_of_getElem? (i := 22) rfl))) (Or.inr (hw _ (List.mem_of_getElem? (i := 13) rfl))) (by decide) (t := (.array .double)) (t' := (.array .int)) (by decide) (by decide))))) (Or.inr (slot_ne (Or.inr (hw _ (List.mem_of_getElem? (i := 22) rfl))) (Or.inr (hw _ (List.mem_of_getElem? (i := 16) rfl))) (by decide) (t := (.array .double)) (t' := (.array .boolean)) (by decide) (by decide))))) (Or.inr (slot_ne (Or.inr (hw _ (List.mem_of_getElem? (i := 22) rfl))) (Or.inr (hw _ (List.mem_of_getElem? (i := 19) rfl))) (by decide) (t := (.array .double)) (t' := (.array .long)) (by decide) (by decide))))) (Exa.ext E20 (Exa.wr W19 (Exa.ext E14 (Exa.wr W13 (Exa.ext E9 (Exa.wr W8 (Exa.ext E5 (Exa.wr W4 (Exa.ext E2 E_r))))))))) (Or.inr ⟨(hw _ (List.mem_of_getElem? (i := 22) rfl)), rfl, hnm⟩) (hw _ (List.mem_of_getElem? (i := 1) rfl)) (ty := (.array .double)) (by decide) rfl rfl (g := (mkF m 36 #[.val (.ref r0), .val (.int (3 : Int32))] [(.ref b20), (.ref r0)])) rfl rfl (hb hby d1_36)
  have Fw26 : Fld Z h26 r0 "com/example/wandel/wandel/replay/Observations" "geometric" "[D" (.ref b20) := Fld.same W26 (Fld.ext E20 (Fld.other W19 (Fld.ext E14 (Fld.other W13 (Fld.ext E9 (Fld.other W8 (Fld.ext E5 (Fld.other W4 (Fld.ext E2 F_geometric) (Or.inr (slot_ne (Or.inr (hw _ (List.mem_of_getElem? (i := 22) rfl))) (Or.inr (hw _ (List.mem_of_getElem? (i := 11) rfl))) (by decide) (t := (.array .double)) (t' := (.array .int)) (by decide) (by decide))))) (Or.inr (slot_ne (Or.inr (hw _ (List.mem_of_getElem? (i := 22) rfl))) (Or.inr (hw _ (List.mem_of_getElem? (i := 13) rfl))) (by decide) (t := (.array .double)) (t' := (.array .int)) (by decide) (by decide))))) (Or.inr (slot_ne (Or.inr (hw _ (List.mem_of_getElem? (i := 22) rfl))) (Or.inr (hw _ (List.mem_of_getElem? (i := 16) rfl))) (by decide) (t := (.array .double)) (t' := (.array .boolean)) (by decide) (by decide))))) (Or.inr (slot_ne (Or.inr (hw _ (List.mem_of_getElem? (i := 22) rfl))) (Or.inr (hw _ (List.mem_of_getElem? (i := 19) rfl))) (by decide) (t := (.array .double)) (t' := (.array .long)) (by decide) (by decide)))))
  have K26 : Keep h0 h26 [r0] := K20.wr W26 (Or.inl (List.mem_of_getElem? (i := 0) rfl))
  have N26 := Fr.snoc X26 N19 g_r0
  obtain ⟨fs, hr, hrun, hended, hW, hsame⟩ := X26.leave (v := none) (fun _ => rfl)
  refine ⟨_, _, pre0 _ ?_, hrun, hended, _, _, rfl, ?_, ⟨_, rfl⟩, hW, hsame.mono (by decide) (by decide)⟩
  · show Steps p.tables e below (s₁.setTop (mkF m 0 #[.val (.ref r0), .val (.int (3 : Int32))] [])) _
    refine XS.aloadN X0.here hx rfl (hb hby d1_0) rfl rfl ?_
    refine st1 _ ?_
    refine XS.aloadN X1.here hx rfl (hb hby d1_4) rfl rfl ?_
    refine XS.iloadN X1.here hx rfl (hb hby d1_5) rfl ?_
    refine st2 _ ?_
    refine st4 _ ?_
    refine XS.aloadN X4.here hx rfl (hb hby d1_11) rfl rfl ?_
    refine XS.iloadN X4.here hx rfl (hb hby d1_12) rfl ?_
    show Steps p.tables e below (T4.setTop (mkF m 13 #[.val (.ref r0), .val (.int (3 : Int32))] [(.int (3 : Int32)), (.ref r0)])) _
    refine st5 _ ?_
    refine st8 _ ?_
    refine XS.aloadN X8.here hx rfl (hb hby d1_18) rfl rfl ?_
    refine XS.iloadN X8.here hx rfl (hb hby d1_19) rfl ?_
    refine st9 _ ?_
    refine st13 _ ?_
    refine XS.aloadN X13.here hx rfl (hb hby d1_25) rfl rfl ?_
    refine XS.iloadN X13.here hx rfl (hb hby d1_26) rfl ?_
    show Steps p.tables e below (T13.setTop (mkF m 27 #[.val (.ref r0), .val (.int (3 : Int32))] [(.int (3 : Int32)), (.ref r0)])) _
    refine st14 _ ?_
    refine st19 _ ?_
    refine XS.aloadN X19.here hx rfl (hb hby d1_32) rfl rfl ?_
    refine XS.iloadN X19.here hx rfl (hb hby d1_33) rfl ?_
    refine st20 _ ?_
    refine st26 _ ?_
    show Steps p.tables e below (T26.setTop (mkF m 39 #[.val (.ref r0), .val (.int (3 : Int32))] [])) _
    exact X26.returnOut hx Bd.returns (hb hby d1_39) hr
  · show Q1n3 Z r0 h0 n0 _ T26.heap _
    rw [e26]
    exact ⟨b2, b5, b9, b14, b20, k2, k5, k9, k14, k20, rfl, N26, K26, (Exa.wr W26 (Exa.ext E20 (Exa.wr W19 (Exa.ext E14 (Exa.wr W13 (Exa.ext E9 (Exa.wr W8 (Exa.ext E5 (Exa.wr W4 (Exa.ext E2 E_r)))))))))), (Fld.other W26 (Fld.ext E20 (Fld.other W19 (Fld.ext E14 (Fld.other W13 (Fld.ext E9 (Fld.other W8 (Fld.ext E5 Fw4) (Or.inr (slot_ne (Or.inr (hw _ (List.mem_of_getElem? (i := 11) rfl))) (Or.inr (hw _ (List.mem_of_getElem? (i := 13) rfl))) (by decide) (t := (.array .int)) (t' := (.array .int)) (by decide) (by decide))))) (Or.inr (slot_ne (Or.inr (hw _ (List.mem_of_getElem? (i := 11) rfl))) (Or.inr (hw _ (List.mem_of_getElem? (i := 16) rfl))) (by decide) (t := (.array .int)) (t' := (.array .boolean)) (by decide) (by decide))))) (Or.inr (slot_ne (Or.inr (hw _ (List.mem_of_getElem? (i := 11) rfl))) (Or.inr (hw _ (List.mem_of_getElem? (i := 19) rfl))) (by decide) (t := (.array .int)) (t' := (.array .long)) (by decide) (by decide))))) (Or.inr (slot_ne (Or.inr (hw _ (List.mem_of_getElem? (i := 11) rfl))) (Or.inr (hw _ (List.mem_of_getElem? (i := 22) rfl))) (by decide) (t := (.array .int)) (t' := (.array .double)) (by decide) (by decide)))), (Fld.other W26 (Fld.ext E20 (Fld.other W19 (Fld.ext E14 (Fld.other W13 (Fld.ext E9 Fw8) (Or.inr (slot_ne (Or.inr (hw _ (List.mem_of_getElem? (i := 13) rfl))) (Or.inr (hw _ (List.mem_of_getElem? (i := 16) rfl))) (by decide) (t := (.array .int)) (t' := (.array .boolean)) (by decide) (by decide))))) (Or.inr (slot_ne (Or.inr (hw _ (List.mem_of_getElem? (i := 13) rfl))) (Or.inr (hw _ (List.mem_of_getElem? (i := 19) rfl))) (by decide) (t := (.array .int)) (t' := (.array .long)) (by decide) (by decide))))) (Or.inr (slot_ne (Or.inr (hw _ (List.mem_of_getElem? (i := 13) rfl))) (Or.inr (hw _ (List.mem_of_getElem? (i := 22) rfl))) (by decide) (t := (.array .int)) (t' := (.array .double)) (by decide) (by decide)))), (Fld.other W26 (Fld.ext E20 (Fld.other W19 (Fld.ext E14 Fw13) (Or.inr (slot_ne (Or.inr (hw _ (List.mem_of_getElem? (i := 16) rfl))) (Or.inr (hw _ (List.mem_of_getElem? (i := 19) rfl))) (by decide) (t := (.array .boolean)) (t' := (.array .long)) (by decide) (by decide))))) (Or.inr (slot_ne (Or.inr (hw _ (List.mem_of_getElem? (i := 16) rfl))) (Or.inr (hw _ (List.mem_of_getElem? (i := 22) rfl))) (by decide) (t := (.array .boolean)) (t' := (.array .double)) (by decide) (by decide)))), (Fld.other W26 (Fld.ext E20 Fw19) (Or.inr (slot_ne (Or.inr (hw _ (List.mem_of_getElem? (i := 19) rfl))) (Or.inr (hw _ (List.mem_of_getElem? (i := 22) rfl))) (by decide) (t := (.array .long)) (t' := (.array .double)) (by decide) (by decide)))), Fw26, (((((((((V_b2.other W4 (Ne.symm ne3)).ext E5).other W8 (Ne.symm ne3)).ext E9).other W13 (Ne.symm ne3)).ext E14).other W19 (Ne.symm ne3)).ext E20).other W26 (Ne.symm ne3)), (((((((V_b5.other W8 (Ne.symm ne6)).ext E9).other W13 (Ne.symm ne6)).ext E14).other W19 (Ne.symm ne6)).ext E20).other W26 (Ne.symm ne6)), (((((V_b9.other W13 (Ne.symm ne10)).ext E14).other W19 (Ne.symm ne10)).ext E20).other W26 (Ne.symm ne10)), (((V_b14.other W19 (Ne.symm ne15)).ext E20).other W26 (Ne.symm ne15)), (V_b20.other W26 (Ne.symm ne21)), ne3, ne6, ne10, ne15, ne21, ne7, ne11, ne16, ne22, ne12, ne17, ne23, ne18, ne24, ne25, sz_b2, sz_b5, sz_b9, sz_b14, sz_b20⟩
def J5n1j0_1_S0 (p2 : Int32) : Int32 := (if p2 = (0 : Int32) then (0 : Int32) else (1 : Int32))
theorem d5_0 : decode prog_61_method_2_code 0 = .ok (.iload_n 2, 1) := by decide +kernel
theorem d5_1 : decode prog_61_method_2_code 1 = .ok (.ifCond .eq 7, 3) := by decide +kernel
theorem d5_4 : decode prog_61_method_2_code 4 = .ok (.iconst 1, 1) := by decide +kernel
theorem d5_5 : decode prog_61_method_2_code 5 = .ok (.goto 4, 3) := by decide +kernel
theorem d5_8 : decode prog_61_method_2_code 8 = .ok (.iconst 0, 1) := by decide +kernel
theorem d5_9 : decode prog_61_method_2_code 9 = .ok (.istore_n 3, 1) := by decide +kernel
theorem d5_10 : decode prog_61_method_2_code 10 = .ok (.aload_n 0, 1) := by decide +kernel
theorem d5_11 : decode prog_61_method_2_code 11 = .ok (.getfield 13, 3) := by decide +kernel
theorem d5_14 : decode prog_61_method_2_code 14 = .ok (.iload_n 1, 1) := by decide +kernel
theorem d5_15 : decode prog_61_method_2_code 15 = .ok (.dup2, 1) := by decide +kernel
theorem d5_16 : decode prog_61_method_2_code 16 = .ok (.iaload, 1) := by decide +kernel
theorem d5_17 : decode prog_61_method_2_code 17 = .ok (.iconst 1, 1) := by decide +kernel
theorem d5_18 : decode prog_61_method_2_code 18 = .ok (.iadd, 1) := by decide +kernel
theorem d5_19 : decode prog_61_method_2_code 19 = .ok (.iastore, 1) := by decide +kernel
theorem d5_20 : decode prog_61_method_2_code 20 = .ok (.aload_n 0, 1) := by decide +kernel
theorem d5_21 : decode prog_61_method_2_code 21 = .ok (.getfield 19, 3) := by decide +kernel
theorem d5_24 : decode prog_61_method_2_code 24 = .ok (.iload_n 1, 1) := by decide +kernel
theorem d5_25 : decode prog_61_method_2_code 25 = .ok (.dup2, 1) := by decide +kernel
theorem d5_26 : decode prog_61_method_2_code 26 = .ok (.iaload, 1) := by decide +kernel
theorem d5_27 : decode prog_61_method_2_code 27 = .ok (.iload_n 3, 1) := by decide +kernel
theorem d5_28 : decode prog_61_method_2_code 28 = .ok (.iadd, 1) := by decide +kernel
theorem d5_29 : decode prog_61_method_2_code 29 = .ok (.iastore, 1) := by decide +kernel
theorem d5_30 : decode prog_61_method_2_code 30 = .ok (.aload_n 0, 1) := by decide +kernel
theorem d5_31 : decode prog_61_method_2_code 31 = .ok (.getfield 22, 3) := by decide +kernel
theorem d5_34 : decode prog_61_method_2_code 34 = .ok (.iload_n 1, 1) := by decide +kernel
theorem d5_35 : decode prog_61_method_2_code 35 = .ok (.iload_n 2, 1) := by decide +kernel
theorem d5_36 : decode prog_61_method_2_code 36 = .ok (.bastore, 1) := by decide +kernel
theorem d5_37 : decode prog_61_method_2_code 37 = .ok (.aload_n 0, 1) := by decide +kernel
theorem d5_38 : decode prog_61_method_2_code 38 = .ok (.getfield 26, 3) := by decide +kernel
theorem d5_41 : decode prog_61_method_2_code 41 = .ok (.iload_n 1, 1) := by decide +kernel
theorem d5_42 : decode prog_61_method_2_code 42 = .ok (.dup2, 1) := by decide +kernel
theorem d5_43 : decode prog_61_method_2_code 43 = .ok (.laload, 1) := by decide +kernel
theorem d5_44 : decode prog_61_method_2_code 44 = .ok (.iload_n 3, 1) := by decide +kernel
theorem d5_45 : decode prog_61_method_2_code 45 = .ok (.i2l, 1) := by decide +kernel
theorem d5_46 : decode prog_61_method_2_code 46 = .ok (.aload_n 0, 1) := by decide +kernel
theorem d5_47 : decode prog_61_method_2_code 47 = .ok (.getfield 13, 3) := by decide +kernel
theorem d5_50 : decode prog_61_method_2_code 50 = .ok (.iload_n 1, 1) := by decide +kernel
theorem d5_51 : decode prog_61_method_2_code 51 = .ok (.iaload, 1) := by decide +kernel
theorem d5_52 : decode prog_61_method_2_code 52 = .ok (.i2l, 1) := by decide +kernel
theorem d5_53 : decode prog_61_method_2_code 53 = .ok (.lmul, 1) := by decide +kernel
theorem d5_54 : decode prog_61_method_2_code 54 = .ok (.ladd, 1) := by decide +kernel
theorem d5_55 : decode prog_61_method_2_code 55 = .ok (.lastore, 1) := by decide +kernel
theorem d5_56 : decode prog_61_method_2_code 56 = .ok (.aload_n 0, 1) := by decide +kernel
theorem d5_57 : decode prog_61_method_2_code 57 = .ok (.getfield 30, 3) := by decide +kernel
theorem d5_60 : decode prog_61_method_2_code 60 = .ok (.iload_n 1, 1) := by decide +kernel
theorem d5_61 : decode prog_61_method_2_code 61 = .ok (.aload_n 0, 1) := by decide +kernel
theorem d5_62 : decode prog_61_method_2_code 62 = .ok (.getfield 30, 3) := by decide +kernel
theorem d5_65 : decode prog_61_method_2_code 65 = .ok (.iload_n 1, 1) := by decide +kernel
theorem d5_66 : decode prog_61_method_2_code 66 = .ok (.daload, 1) := by decide +kernel
theorem d5_67 : decode prog_61_method_2_code 67 = .ok (.iload_n 3, 1) := by decide +kernel
theorem d5_68 : decode prog_61_method_2_code 68 = .ok (.i2d, 1) := by decide +kernel
theorem d5_69 : decode prog_61_method_2_code 69 = .ok (.dadd, 1) := by decide +kernel
theorem d5_70 : decode prog_61_method_2_code 70 = .ok (.ldc2_w 34, 3) := by decide +kernel
theorem d5_73 : decode prog_61_method_2_code 73 = .ok (.ddiv, 1) := by decide +kernel
theorem d5_74 : decode prog_61_method_2_code 74 = .ok (.dastore, 1) := by decide +kernel
theorem d5_75 : decode prog_61_method_2_code 75 = .ok (.return_, 1) := by decide +kernel
theorem ef_5n1j0 (r0 : Addr) (p2 : Int32) (ca ch lc ar ge : Addr) (kca kch klc kar kge : ClassId) (v0 : Int32) (c0 : Int32) (l0 : Int32) (m0 : Int64) (g0 : UInt64) (m : MethodId) : entryFrame m #[(.ref r0), (.int (0 : Int32)), (.int p2)] 4 = mkF m 0 #[.val (.ref r0), .val (.int (0 : Int32)), .val (.int p2), .unset] [] := by first | (simp [entryFrame, mkF, argsToLocals, Value.category]; done) | rfl
def Q5n1j0 (Z : State) (r0 : Addr) (p2 : Int32) (ca ch lc ar ge : Addr) (kca kch klc kar kge : ClassId) (v0 : Int32) (c0 : Int32) (l0 : Int32) (m0 : Int64) (g0 : UInt64) (h0 : Heap) (n0 : Nat) (v : Option Value) (h : Heap) (L : List Loc) : Prop := v = none ∧ Fr n0 L ∧ Keep h0 h [ca, ch, lc, ar, ge] ∧ Arv Z h ca kca .int (1 : Int32) [(.int (v0 + (1 : Int32)))] (.int (0 : Int32)) ∧ Arv Z h ch kch .int (1 : Int32) [(.int (c0 + (J5n1j0_1_S0 p2)))] (.int (0 : Int32)) ∧ Arv Z h lc klc .boolean (1 : Int32) [(.int (nar .boolean p2))] (.int (0 : Int32)) ∧ Arv Z h ar kar .long (1 : Int32) [(.long (m0 + (((J5n1j0_1_S0 p2).toInt64) * ((v0 + (1 : Int32)).toInt64))))] (.long (0 : Int64)) ∧ Arv Z h ge kge .double (1 : Int32) [(.double (FP.ddiv (FP.dadd g0 (FP.i2d (J5n1j0_1_S0 p2))) (4611686018427387904 : UInt64)))] (.double (0 : UInt64))
set_option maxRecDepth 65536 in
set_option maxHeartbeats 40000000 in
theorem rm5n1j0 (l : Launch) (Z : State) (a0 : Array Value) (hw : ∀ d ∈ tables_1, d.before a0 Z = true) (ws : List Jvm.Cond) (r0 : Addr) (p2 : Int32) (ca ch lc ar ge : Addr) (kca kch klc kar kge : ClassId) (v0 : Int32) (c0 : Int32) (l0 : Int32) (m0 : Int64) (g0 : UInt64) (h0 : Heap) (n0 : Nat) (Z0 : n0 ≤ h0.size) (F_count : Fld Z h0 r0 "com/example/wandel/wandel/replay/Observations" "count" "[I" (.ref ca)) (F_changes : Fld Z h0 r0 "com/example/wandel/wandel/replay/Observations" "changes" "[I" (.ref ch)) (F_lastChanged : Fld Z h0 r0 "com/example/wandel/wandel/replay/Observations" "lastChanged" "[Z" (.ref lc)) (F_arithmetic : Fld Z h0 r0 "com/example/wandel/wandel/replay/Observations" "arithmetic" "[J" (.ref ar)) (F_geometric : Fld Z h0 r0 "com/example/wandel/wandel/replay/Observations" "geometric" "[D" (.ref ge)) (V_ca : Arv Z h0 ca kca .int (1 : Int32) [(.int v0)] (.int (0 : Int32))) (V_ch : Arv Z h0 ch kch .int (1 : Int32) [(.int c0)] (.int (0 : Int32))) (V_lc : Arv Z h0 lc klc .boolean (1 : Int32) [(.int l0)] (.int (0 : Int32))) (V_ar : Arv Z h0 ar kar .long (1 : Int32) [(.long m0)] (.long (0 : Int64))) (V_ge : Arv Z h0 ge kge .double (1 : Int32) [(.double g0)] (.double (0 : UInt64))) (ne_r0_ca : r0 ≠ ca) (ne_r0_ch : r0 ≠ ch) (ne_r0_lc : r0 ≠ lc) (ne_r0_ar : r0 ≠ ar) (ne_r0_ge : r0 ≠ ge) (ne_ca_ch : ca ≠ ch) (ne_ca_lc : ca ≠ lc) (ne_ca_ar : ca ≠ ar) (ne_ca_ge : ca ≠ ge) (ne_ch_lc : ch ≠ lc) (ne_ch_ar : ch ≠ ar) (ne_ch_ge : ch ≠ ge) (ne_lc_ar : lc ≠ ar) (ne_lc_ge : lc ≠ ge) (ne_ar_ge : ar ≠ ge) (g_ca : n0 ≤ ca) (g_ch : n0 ≤ ch) (g_lc : n0 ≤ lc) (g_ar : n0 ≤ ar) (g_ge : n0 ≤ ge) (hg : Jvm.Free.Fl.NoNaN64 g0) :
    MetFree l (⟨"com/example/wandel/wandel/replay/Observations", "record", "(IZ)V"⟩ : MethodName) (head1 (Jvm.Cond.code (⟨"com/example/wandel/wandel/replay/Observations", "record", "(IZ)V"⟩ : MethodName) prog_61_method_2_code 4 none :: ws) ({ frames := 0, cells := 0, slots := 0, locals := 0 } : Room)) (fun a U => a = #[(.ref r0), (.int (0 : Int32)), (.int p2)] ∧ Z.Warmed39 U.vm ∧ U.heap = h0) (fun _ _ _ _ _ => True) (fun _ U o U' => ∃ v L, o = .returned v ∧ Q5n1j0 Z r0 p2 ca ch lc ar ge kca kch klc kar kge v0 c0 l0 m0 g0 h0 n0 v U'.heap L ∧ FrameEnd U o U' L ({ frames := 0, cells := 0, slots := 0, locals := 0 } : Room).cells ({ frames := 0, cells := 0, slots := 0, locals := 0 } : Room).slots) := by
  refine MetFree.of_bodySF (plainFor_of_name pn_com_example_wandel_wandel_replay_Observations) hisR ?_
  intro p e s m args below meth c s₁ Bd hml0 hP hK
  obtain ⟨rfl, hZ, hh⟩ := hP
  have hx := Bd.exec
  have hby := Bd.bytes
  have hml : c.maxLocals = 4 := hml0
  have hown : s.vm.findClass "com/example/wandel/wandel/replay/Observations" = some m.cls := findClass_of_methodNamed Bd.named
  have hnm := (name_of_methodNamed Bd.named Bd.method).1
  have X0 : Stand p l e ({ frames := 0, cells := 0, slots := 0, locals := 0 } : Room) s m #[(.ref r0), (.int (0 : Int32)), (.int p2)] below meth c s₁ [] 0 0 := Stand.of_body Bd
  have e0 : s₁.heap = h0 := by rw [← hh, Bd.state]; rfl
  have N0 := Fr.nil n0
  have pre0 : ∀ t, Steps p.tables e below (s₁.setTop (mkF m 0 #[.val (.ref r0), .val (.int (0 : Int32)), .val (.int p2), .unset] [])) t → Steps p.tables e below (s₁.setTop (entryFrame m #[(.ref r0), (.int (0 : Int32)), (.int p2)] 4)) t := fun t k => castTop (ef_5n1j0 r0 p2 ca ch lc ar ge kca kch klc kar kge v0 c0 l0 m0 g0 m) k
  have pre1 : ∀ t, Steps p.tables e below (s₁.setTop (mkF m 1 #[.val (.ref r0), .val (.int (0 : Int32)), .val (.int p2), .unset] [(.int p2)])) t → Steps p.tables e below (s₁.setTop (entryFrame m #[(.ref r0), (.int (0 : Int32)), (.int p2)] 4)) t := fun t kt => pre0 t (by
    show Steps p.tables e below (s₁.setTop (mkF m 0 #[.val (.ref r0), .val (.int (0 : Int32)), .val (.int p2), .unset] [])) _
    refine XS.iloadN X0.here hx rfl (hb hby d5_0) rfl ?_
    exact kt)
  obtain ⟨Tj2, lj2, Xj2, Nj2, ej2, pre2⟩ : ∃ (T' : State) (locs' : List Loc), Stand p l e ({ frames := 0, cells := 0, slots := 0, locals := 0 } : Room) s m #[(.ref r0), (.int (0 : Int32)), (.int p2)] below meth c T' locs' 0 0 ∧ Fr n0 locs' ∧ T'.heap = h0 ∧ ∀ t, Steps p.tables e below (T'.setTop (mkF m 9 #[.val (.ref r0), .val (.int (0 : Int32)), .val (.int p2), .unset] [(.int (J5n1j0_1_S0 p2))])) t → Steps p.tables e below (s₁.setTop (entryFrame m #[(.ref r0), (.int (0 : Int32)), (.int p2)] 4)) t := by
    by_cases hc1 : p2 = (0 : Int32)
    · refine ⟨s₁, _, X0, N0, e0, fun t kt => pre1 t ?_⟩
      show Steps p.tables e below (s₁.setTop (mkF m 1 #[.val (.ref r0), .val (.int (0 : Int32)), .val (.int p2), .unset] [(.int p2)])) _
      refine XS.ifYes X0.here hx rfl (pc0 := 1) (pc' := 8) rfl (hb hby d5_1) rfl ((if0 _ _).trans (teq hc1).1) (by decide) (by decide) ?_
      refine XS.iconst X0.here hx rfl (hb hby d5_8) ?_
      show Steps p.tables e below (s₁.setTop (mkF m 9 #[.val (.ref r0), .val (.int (0 : Int32)), .val (.int p2), .unset] [(.int (0 : Int32))])) _
      have qjS0 : (J5n1j0_1_S0 p2) = (0 : Int32) := by unfold J5n1j0_1_S0; simp only [if_true, if_false, if_pos hc1]
      rw [qjS0] at kt
      exact kt
    · refine ⟨s₁, _, X0, N0, e0, fun t kt => pre1 t ?_⟩
      show Steps p.tables e below (s₁.setTop (mkF m 1 #[.val (.ref r0), .val (.int (0 : Int32)), .val (.int p2), .unset] [(.int p2)])) _
      refine XS.ifNo X0.here hx rfl (hb hby d5_1) rfl ((if0 _ _).trans (feq hc1).1) ?_
      refine XS.iconst X0.here hx rfl (hb hby d5_4) ?_
      refine XS.goto X0.here hx rfl (pc0 := 5) (pc' := 9) rfl (hb hby d5_5) (by decide) (by decide) ?_
      show Steps p.tables e below (s₁.setTop (mkF m 9 #[.val (.ref r0), .val (.int (0 : Int32)), .val (.int p2), .unset] [(.int (1 : Int32))])) _
      have qjS0 : (J5n1j0_1_S0 p2) = (1 : Int32) := by unfold J5n1j0_1_S0; simp only [if_true, if_false, if_neg hc1]
      rw [qjS0] at kt
      exact kt
  obtain ⟨T3, X3, e3, st3⟩ := getF Xj2 hx hZ hown (host := "") (Or.inl (hw _ (List.mem_of_getElem? (i := 10) rfl))) Via.refl ej2 F_count (g := (mkF m 11 #[.val (.ref r0), .val (.int (0 : Int32)), .val (.int p2), .val (.int (J5n1j0_1_S0 p2))] [(.ref r0)])) rfl rfl (hb hby d5_11)
  obtain ⟨cl4, Ar4, qa4, S4, Nl4, H4, G4⟩ := id V_ca
  have hin4 : ¬ ((0 : Int32) < 0 ∨ cl4.slots.size ≤ ((0 : Int32)).toNatClampNeg) := inb_of S4 ⟨by decide, by decide⟩
  have hat4 : cl4.slots[((0 : Int32)).toNatClampNeg]? = some (.int v0) := Has.at H4 hin4 rfl
  obtain ⟨cl5, Ar5, qa5, S5, Nl5, H5, G5⟩ := id V_ca
  have hin5 : ¬ ((0 : Int32) < 0 ∨ cl5.slots.size ≤ ((0 : Int32)).toNatClampNeg) := inb_of S5 ⟨by decide, by decide⟩
  obtain ⟨T5, h5, X5, e5, W5, st5⟩ := stI X3 hx hZ e3 Ar5 (j := (0 : Int32)) hin5 (g := (mkF m 19 #[.val (.ref r0), .val (.int (0 : Int32)), .val (.int p2), .val (.int (J5n1j0_1_S0 p2))] [(.int (v0 + (1 : Int32))), (.int (0 : Int32)), (.ref ca)])) rfl rfl (hb hby d5_19)
  have V5 : Arv Z h5 ca kca .int (1 : Int32) [(.int (v0 + (1 : Int32)))] (.int (0 : Int32)) := Arv.set Ar5 qa5 S5 Nl5 H5 G5 rfl W5 0 rfl (Nat.le_of_ble_eq_true rfl)
  have K5 : Keep h0 h5 [ca, ch, lc, ar, ge] := (Keep.refl h0 [ca, ch, lc, ar, ge]).wr W5 (Or.inl (List.mem_of_getElem? (i := 0) rfl))
  have N5 := Fr.snoc X5 Nj2 g_ca
  obtain ⟨T6, X6, e6, st6⟩ := getF X5 hx hZ hown (host := "") (Or.inl (hw _ (List.mem_of_getElem? (i := 12) rfl))) Via.refl e5 (Fld.other W5 F_changes (Or.inl ne_r0_ca)) (g := (mkF m 21 #[.val (.ref r0), .val (.int (0 : Int32)), .val (.int p2), .val (.int (J5n1j0_1_S0 p2))] [(.ref r0)])) rfl rfl (hb hby d5_21)
  obtain ⟨cl7, Ar7, qa7, S7, Nl7, H7, G7⟩ := id (V_ch.other W5 (Ne.symm ne_ca_ch))
  have hin7 : ¬ ((0 : Int32) < 0 ∨ cl7.slots.size ≤ ((0 : Int32)).toNatClampNeg) := inb_of S7 ⟨by decide, by decide⟩
  have hat7 : cl7.slots[((0 : Int32)).toNatClampNeg]? = some (.int c0) := Has.at H7 hin7 rfl
  obtain ⟨cl8, Ar8, qa8, S8, Nl8, H8, G8⟩ := id (V_ch.other W5 (Ne.symm ne_ca_ch))
  have hin8 : ¬ ((0 : Int32) < 0 ∨ cl8.slots.size ≤ ((0 : Int32)).toNatClampNeg) := inb_of S8 ⟨by decide, by decide⟩
  obtain ⟨T8, h8, X8, e8, W8, st8⟩ := stI X6 hx hZ e6 Ar8 (j := (0 : Int32)) hin8 (g := (mkF m 29 #[.val (.ref r0), .val (.int (0 : Int32)), .val (.int p2), .val (.int (J5n1j0_1_S0 p2))] [(.int (c0 + (J5n1j0_1_S0 p2))), (.int (0 : Int32)), (.ref ch)])) rfl rfl (hb hby d5_29)
  have V8 : Arv Z h8 ch kch .int (1 : Int32) [(.int (c0 + (J5n1j0_1_S0 p2)))] (.int (0 : Int32)) := Arv.set Ar8 qa8 S8 Nl8 H8 G8 rfl W8 0 rfl (Nat.le_of_ble_eq_true rfl)
  have K8 : Keep h0 h8 [ca, ch, lc, ar, ge] := K5.wr W8 (Or.inl (List.mem_of_getElem? (i := 1) rfl))
  have N8 := Fr.snoc X8 N5 g_ch
  obtain ⟨T9, X9, e9, st9⟩ := getF X8 hx hZ hown (host := "") (Or.inl (hw _ (List.mem_of_getElem? (i := 15) rfl))) Via.refl e8 (Fld.other W8 (Fld.other W5 F_lastChanged (Or.inl ne_r0_ca)) (Or.inl ne_r0_ch)) (g := (mkF m 31 #[.val (.ref r0), .val (.int (0 : Int32)), .val (.int p2), .val (.int (J5n1j0_1_S0 p2))] [(.ref r0)])) rfl rfl (hb hby d5_31)
  obtain ⟨cl10, Ar10, qa10, S10, Nl10, H10, G10⟩ := id ((V_lc.other W5 (Ne.symm ne_ca_lc)).other W8 (Ne.symm ne_ch_lc))
  have hin10 : ¬ ((0 : Int32) < 0 ∨ cl10.slots.size ≤ ((0 : Int32)).toNatClampNeg) := inb_of S10 ⟨by decide, by decide⟩
  obtain ⟨T10, h10, X10, e10, W10, st10⟩ := stZ X9 hx hZ e9 Ar10 (j := (0 : Int32)) hin10 (g := (mkF m 36 #[.val (.ref r0), .val (.int (0 : Int32)), .val (.int p2), .val (.int (J5n1j0_1_S0 p2))] [(.int p2), (.int (0 : Int32)), (.ref lc)])) rfl rfl (hb hby d5_36)
  have V10 : Arv Z h10 lc klc .boolean (1 : Int32) [(.int (nar .boolean p2))] (.int (0 : Int32)) := Arv.set Ar10 qa10 S10 Nl10 H10 G10 (fits_nar_bool _) W10 0 rfl (Nat.le_of_ble_eq_true rfl)
  have K10 : Keep h0 h10 [ca, ch, lc, ar, ge] := K8.wr W10 (Or.inl (List.mem_of_getElem? (i := 2) rfl))
  have N10 := Fr.snoc X10 N8 g_lc
  obtain ⟨T11, X11, e11, st11⟩ := getF X10 hx hZ hown (host := "") (Or.inl (hw _ (List.mem_of_getElem? (i := 18) rfl))) Via.refl e10 (Fld.other W10 (Fld.other W8 (Fld.other W5 F_arithmetic (Or.inl ne_r0_ca)) (Or.inl ne_r0_ch)) (Or.inl ne_r0_lc)) (g := (mkF m 38 #[.val (.ref r0), .val (.int (0 : Int32)), .val (.int p2), .val (.int (J5n1j0_1_S0 p2))] [(.ref r0)])) rfl rfl (hb hby d5_38)
  obtain ⟨cl12, Ar12, qa12, S12, Nl12, H12, G12⟩ := id (((V_ar.other W5 (Ne.symm ne_ca_ar)).other W8 (Ne.symm ne_ch_ar)).other W10 (Ne.symm ne_lc_ar))
  have hin12 : ¬ ((0 : Int32) < 0 ∨ cl12.slots.size ≤ ((0 : Int32)).toNatClampNeg) := inb_of S12 ⟨by decide, by decide⟩
  have hat12 : cl12.slots[((0 : Int32)).toNatClampNeg]? = some (.long m0) := Has.at H12 hin12 rfl
  obtain ⟨T13, X13, e13, st13⟩ := getF X11 hx hZ hown (host := "") (Or.inl (hw _ (List.mem_of_getElem? (i := 10) rfl))) Via.refl e11 (Fld.other W10 (Fld.other W8 (Fld.other W5 F_count (Or.inl ne_r0_ca)) (Or.inl ne_r0_ch)) (Or.inl ne_r0_lc)) (g := (mkF m 47 #[.val (.ref r0), .val (.int (0 : Int32)), .val (.int p2), .val (.int (J5n1j0_1_S0 p2))] [(.ref r0), (.long ((J5n1j0_1_S0 p2).toInt64)), (.long m0), (.int (0 : Int32)), (.ref ar)])) rfl rfl (hb hby d5_47)
  obtain ⟨cl14, Ar14, qa14, S14, Nl14, H14, G14⟩ := id ((V5.other W8 ne_ca_ch).other W10 ne_ca_lc)
  have hin14 : ¬ ((0 : Int32) < 0 ∨ cl14.slots.size ≤ ((0 : Int32)).toNatClampNeg) := inb_of S14 ⟨by decide, by decide⟩
  have hat14 : cl14.slots[((0 : Int32)).toNatClampNeg]? = some (.int (v0 + (1 : Int32))) := Has.at H14 hin14 rfl
  obtain ⟨cl15, Ar15, qa15, S15, Nl15, H15, G15⟩ := id (((V_ar.other W5 (Ne.symm ne_ca_ar)).other W8 (Ne.symm ne_ch_ar)).other W10 (Ne.symm ne_lc_ar))
  have hin15 : ¬ ((0 : Int32) < 0 ∨ cl15.slots.size ≤ ((0 : Int32)).toNatClampNeg) := inb_of S15 ⟨by decide, by decide⟩
  obtain ⟨T15, h15, X15, e15, W15, st15⟩ := stJ X13 hx hZ e13 Ar15 (j := (0 : Int32)) hin15 (g := (mkF m 55 #[.val (.ref r0), .val (.int (0 : Int32)), .val (.int p2), .val (.int (J5n1j0_1_S0 p2))] [(.long (m0 + (((J5n1j0_1_S0 p2).toInt64) * ((v0 + (1 : Int32)).toInt64)))), (.int (0 : Int32)), (.ref ar)])) rfl rfl (hb hby d5_55)
  have V15 : Arv Z h15 ar kar .long (1 : Int32) [(.long (m0 + (((J5n1j0_1_S0 p2).toInt64) * ((v0 + (1 : Int32)).toInt64))))] (.long (0 : Int64)) := Arv.set Ar15 qa15 S15 Nl15 H15 G15 rfl W15 0 rfl (Nat.le_of_ble_eq_true rfl)
  have K15 : Keep h0 h15 [ca, ch, lc, ar, ge] := K10.wr W15 (Or.inl (List.mem_of_getElem? (i := 3) rfl))
  have N15 := Fr.snoc X15 N10 g_ar
  obtain ⟨T16, X16, e16, st16⟩ := getF X15 hx hZ hown (host := "") (Or.inl (hw _ (List.mem_of_getElem? (i := 21) rfl))) Via.refl e15 (Fld.other W15 (Fld.other W10 (Fld.other W8 (Fld.other W5 F_geometric (Or.inl ne_r0_ca)) (Or.inl ne_r0_ch)) (Or.inl ne_r0_lc)) (Or.inl ne_r0_ar)) (g := (mkF m 57 #[.val (.ref r0), .val (.int (0 : Int32)), .val (.int p2), .val (.int (J5n1j0_1_S0 p2))] [(.ref r0)])) rfl rfl (hb hby d5_57)
  obtain ⟨T17, X17, e17, st17⟩ := getF X16 hx hZ hown (host := "") (Or.inl (hw _ (List.mem_of_getElem? (i := 21) rfl))) Via.refl e16 (Fld.other W15 (Fld.other W10 (Fld.other W8 (Fld.other W5 F_geometric (Or.inl ne_r0_ca)) (Or.inl ne_r0_ch)) (Or.inl ne_r0_lc)) (Or.inl ne_r0_ar)) (g := (mkF m 62 #[.val (.ref r0), .val (.int (0 : Int32)), .val (.int p2), .val (.int (J5n1j0_1_S0 p2))] [(.ref r0), (.int (0 : Int32)), (.ref ge)])) rfl rfl (hb hby d5_62)
  obtain ⟨cl18, Ar18, qa18, S18, Nl18, H18, G18⟩ := id ((((V_ge.other W5 (Ne.symm ne_ca_ge)).other W8 (Ne.symm ne_ch_ge)).other W10 (Ne.symm ne_lc_ge)).other W15 (Ne.symm ne_ar_ge))
  have hin18 : ¬ ((0 : Int32) < 0 ∨ cl18.slots.size ≤ ((0 : Int32)).toNatClampNeg) := inb_of S18 ⟨by decide, by decide⟩
  have hat18 : cl18.slots[((0 : Int32)).toNatClampNeg]? = some (.double g0) := Has.at H18 hin18 rfl
  obtain ⟨cl19, Ar19, qa19, S19, Nl19, H19, G19⟩ := id ((((V_ge.other W5 (Ne.symm ne_ca_ge)).other W8 (Ne.symm ne_ch_ge)).other W10 (Ne.symm ne_lc_ge)).other W15 (Ne.symm ne_ar_ge))
  have hin19 : ¬ ((0 : Int32) < 0 ∨ cl19.slots.size ≤ ((0 : Int32)).toNatClampNeg) := inb_of S19 ⟨by decide, by decide⟩
  obtain ⟨T19, h19, X19, e19, W19, st19⟩ := own_stD X17 hx hZ e17 Ar19 (j := (0 : Int32)) hin19 (g := (mkF m 74 #[.val (.ref r0), .val (.int (0 : Int32)), .val (.int p2), .val (.int (J5n1j0_1_S0 p2))] [(.double (FP.ddiv (FP.dadd g0 (FP.i2d (J5n1j0_1_S0 p2))) (4611686018427387904 : UInt64))), (.int (0 : Int32)), (.ref ge)])) rfl rfl (hb hby d5_74)
  have V19 : Arv Z h19 ge kge .double (1 : Int32) [(.double (FP.ddiv (FP.dadd g0 (FP.i2d (J5n1j0_1_S0 p2))) (4611686018427387904 : UInt64)))] (.double (0 : UInt64)) := Arv.set Ar19 qa19 S19 Nl19 H19 G19 rfl W19 0 rfl (Nat.le_of_ble_eq_true rfl)
  have K19 : Keep h0 h19 [ca, ch, lc, ar, ge] := K15.wr W19 (Or.inl (List.mem_of_getElem? (i := 4) rfl))
  have N19 := Fr.snoc X19 N15 g_ge
  obtain ⟨fs, hr, hrun, hended, hW, hsame⟩ := X19.leave (v := none) (fun _ => rfl)
  refine ⟨_, _, pre2 _ ?_, hrun, hended, _, _, rfl, ?_, ⟨_, rfl⟩, hW, hsame.mono (by decide) (by decide)⟩
  · show Steps p.tables e below (Tj2.setTop (mkF m 9 #[.val (.ref r0), .val (.int (0 : Int32)), .val (.int p2), .unset] [(.int (J5n1j0_1_S0 p2))])) _
    refine XS.istoreN Xj2.here hx rfl (hb hby d5_9) rfl (l' := #[.val (.ref r0), .val (.int (0 : Int32)), .val (.int p2), .val (.int (J5n1j0_1_S0 p2))]) rfl ?_
    refine XS.aloadN Xj2.here hx rfl (hb hby d5_10) rfl rfl ?_
    refine st3 _ ?_
    refine XS.iloadN X3.here hx rfl (hb hby d5_14) rfl ?_
    refine Jvm.Free.XT.dup2 X3.here hx rfl (hb hby d5_15) rfl rfl rfl ?_
    refine X3.iaload hx (j := (0 : Int32)) (v := (.int v0)) (by rw [e3]; exact Ar4.1) (State.isArrayOf_alike hZ.alike Ar4.2.1) Ar4.2.2 hin4 hat4 (g := (mkF m 16 #[.val (.ref r0), .val (.int (0 : Int32)), .val (.int p2), .val (.int (J5n1j0_1_S0 p2))] [(.int (0 : Int32)), (.ref ca), (.int (0 : Int32)), (.ref ca)])) rfl rfl (hb hby d5_16) _ ?_
    refine XS.iconst X3.here hx rfl (hb hby d5_17) ?_
    refine XS.iadd X3.here hx rfl (hb hby d5_18) rfl ?_
    show Steps p.tables e below (T3.setTop (mkF m 19 #[.val (.ref r0), .val (.int (0 : Int32)), .val (.int p2), .val (.int (J5n1j0_1_S0 p2))] [(.int (v0 + (1 : Int32))), (.int (0 : Int32)), (.ref ca)])) _
    refine st5 _ ?_
    refine XS.aloadN X5.here hx rfl (hb hby d5_20) rfl rfl ?_
    refine st6 _ ?_
    refine XS.iloadN X6.here hx rfl (hb hby d5_24) rfl ?_
    refine Jvm.Free.XT.dup2 X6.here hx rfl (hb hby d5_25) rfl rfl rfl ?_
    refine X6.iaload hx (j := (0 : Int32)) (v := (.int c0)) (by rw [e6]; exact Ar7.1) (State.isArrayOf_alike hZ.alike Ar7.2.1) Ar7.2.2 hin7 hat7 (g := (mkF m 26 #[.val (.ref r0), .val (.int (0 : Int32)), .val (.int p2), .val (.int (J5n1j0_1_S0 p2))] [(.int (0 : Int32)), (.ref ch), (.int (0 : Int32)), (.ref ch)])) rfl rfl (hb hby d5_26) _ ?_
    refine XS.iloadN X6.here hx rfl (hb hby d5_27) rfl ?_
    refine XS.iadd X6.here hx rfl (hb hby d5_28) rfl ?_
    show Steps p.tables e below (T6.setTop (mkF m 29 #[.val (.ref r0), .val (.int (0 : Int32)), .val (.int p2), .val (.int (J5n1j0_1_S0 p2))] [(.int (c0 + (J5n1j0_1_S0 p2))), (.int (0 : Int32)), (.ref ch)])) _
    refine st8 _ ?_
    refine XS.aloadN X8.here hx rfl (hb hby d5_30) rfl rfl ?_
    refine st9 _ ?_
    refine XS.iloadN X9.here hx rfl (hb hby d5_34) rfl ?_
    refine XS.iloadN X9.here hx rfl (hb hby d5_35) rfl ?_
    refine st10 _ ?_
    refine XS.aloadN X10.here hx rfl (hb hby d5_37) rfl rfl ?_
    refine st11 _ ?_
    show Steps p.tables e below (T11.setTop (mkF m 41 #[.val (.ref r0), .val (.int (0 : Int32)), .val (.int p2), .val (.int (J5n1j0_1_S0 p2))] [(.ref ar)])) _
    refine XS.iloadN X11.here hx rfl (hb hby d5_41) rfl ?_
    refine Jvm.Free.XT.dup2 X11.here hx rfl (hb hby d5_42) rfl rfl rfl ?_
    refine X11.laload hx (j := (0 : Int32)) (v := (.long m0)) (by rw [e11]; exact Ar12.1) (State.isArrayOf_alike hZ.alike Ar12.2.1) Ar12.2.2 hin12 hat12 (g := (mkF m 43 #[.val (.ref r0), .val (.int (0 : Int32)), .val (.int p2), .val (.int (J5n1j0_1_S0 p2))] [(.int (0 : Int32)), (.ref ar), (.int (0 : Int32)), (.ref ar)])) rfl rfl (hb hby d5_43) _ ?_
    refine XS.iloadN X11.here hx rfl (hb hby d5_44) rfl ?_
    refine XS.i2l X11.here hx rfl (hb hby d5_45) rfl ?_
    refine XS.aloadN X11.here hx rfl (hb hby d5_46) rfl rfl ?_
    refine st13 _ ?_
    refine XS.iloadN X13.here hx rfl (hb hby d5_50) rfl ?_
    show Steps p.tables e below (T13.setTop (mkF m 51 #[.val (.ref r0), .val (.int (0 : Int32)), .val (.int p2), .val (.int (J5n1j0_1_S0 p2))] [(.int (0 : Int32)), (.ref ca), (.long ((J5n1j0_1_S0 p2).toInt64)), (.long m0), (.int (0 : Int32)), (.ref ar)])) _
    refine X13.iaload hx (j := (0 : Int32)) (v := (.int (v0 + (1 : Int32)))) (by rw [e13]; exact Ar14.1) (State.isArrayOf_alike hZ.alike Ar14.2.1) Ar14.2.2 hin14 hat14 (g := (mkF m 51 #[.val (.ref r0), .val (.int (0 : Int32)), .val (.int p2), .val (.int (J5n1j0_1_S0 p2))] [(.int (0 : Int32)), (.ref ca), (.long ((J5n1j0_1_S0 p2).toInt64)), (.long m0), (.int (0 : Int32)), (.ref ar)])) rfl rfl (hb hby d5_51) _ ?_
    refine XS.i2l X13.here hx rfl (hb hby d5_52) rfl ?_
    refine XS.lmul X13.here hx rfl (hb hby d5_53) rfl ?_
    refine XS.ladd X13.here hx rfl (hb hby d5_54) rfl ?_
    refine st15 _ ?_
    refine XS.aloadN X15.here hx rfl (hb hby d5_56) rfl rfl ?_
    refine st16 _ ?_
    refine XS.iloadN X16.here hx rfl (hb hby d5_60) rfl ?_
    show Steps p.tables e below (T16.setTop (mkF m 61 #[.val (.ref r0), .val (.int (0 : Int32)), .val (.int p2), .val (.int (J5n1j0_1_S0 p2))] [(.int (0 : Int32)), (.ref ge)])) _
    refine XS.aloadN X16.here hx rfl (hb hby d5_61) rfl rfl ?_
    refine st17 _ ?_
    refine XS.iloadN X17.here hx rfl (hb hby d5_65) rfl ?_
    refine X17.daload hx (j := (0 : Int32)) (v := (.double g0)) (by rw [e17]; exact Ar18.1) (State.isArrayOf_alike hZ.alike Ar18.2.1) Ar18.2.2 hin18 hat18 (g := (mkF m 66 #[.val (.ref r0), .val (.int (0 : Int32)), .val (.int p2), .val (.int (J5n1j0_1_S0 p2))] [(.int (0 : Int32)), (.ref ge), (.int (0 : Int32)), (.ref ge)])) rfl rfl (hb hby d5_66) _ ?_
    refine XS.iloadN X17.here hx rfl (hb hby d5_67) rfl ?_
    refine own_i2d X17.here hx rfl (hb hby d5_68) rfl ?_
    show Steps p.tables e below (T17.setTop (mkF m 69 #[.val (.ref r0), .val (.int (0 : Int32)), .val (.int p2), .val (.int (J5n1j0_1_S0 p2))] [(.double (FP.i2d (J5n1j0_1_S0 p2))), (.double g0), (.int (0 : Int32)), (.ref ge)])) _
    refine own_dadd X17.here hx (hb hby d5_69) (own_geo0 _ hg) ?_
    refine X17.ldc2DoubleC hx hown (mvT hZ (hw _ (List.mem_of_getElem? (i := 37) rfl))) (g := (mkF m 70 #[.val (.ref r0), .val (.int (0 : Int32)), .val (.int p2), .val (.int (J5n1j0_1_S0 p2))] [(.double (FP.dadd g0 (FP.i2d (J5n1j0_1_S0 p2)))), (.int (0 : Int32)), (.ref ge)])) rfl (hb hby d5_70) _ ?_
    show Steps p.tables e below (T17.setTop (mkF m 73 #[.val (.ref r0), .val (.int (0 : Int32)), .val (.int p2), .val (.int (J5n1j0_1_S0 p2))] [(.double (4611686018427387904 : UInt64)), (.double (FP.dadd g0 (FP.i2d (J5n1j0_1_S0 p2)))), (.int (0 : Int32)), (.ref ge)])) _
    refine own_ddiv X17.here hx (hb hby d5_73) (own_geo _ hg) ?_
    refine st19 _ ?_
    show Steps p.tables e below (T19.setTop (mkF m 75 #[.val (.ref r0), .val (.int (0 : Int32)), .val (.int p2), .val (.int (J5n1j0_1_S0 p2))] [])) _
    exact X19.returnOut hx Bd.returns (hb hby d5_75) hr
  · show Q5n1j0 Z r0 p2 ca ch lc ar ge kca kch klc kar kge v0 c0 l0 m0 g0 h0 n0 _ T19.heap _
    rw [e19]
    exact ⟨rfl, N19, K19, ((((V5.other W8 ne_ca_ch).other W10 ne_ca_lc).other W15 ne_ca_ar).other W19 ne_ca_ge), (((V8.other W10 ne_ch_lc).other W15 ne_ch_ar).other W19 ne_ch_ge), ((V10.other W15 ne_lc_ar).other W19 ne_lc_ge), (V15.other W19 ne_ar_ge), V19⟩
theorem own_gg1_0 {kk : Int} {v0 c0 : Int32} {g0 : UInt64} {t0 t1 : Int64} (h : Inv1 kk v0 c0 g0 t0 t1) : Jvm.Free.Fl.NoNaN64 g0 := by
  obtain ⟨-, -, -, -, hg0⟩ := h
  exact hg0
def J5n2j0_1_S0 (p2 : Int32) : Int32 := (if p2 = (0 : Int32) then (0 : Int32) else (1 : Int32))
theorem ef_5n2j0 (r0 : Addr) (p2 : Int32) (ca ch lc ar ge : Addr) (kca kch klc kar kge : ClassId) (v0 v1 : Int32) (c0 c1 : Int32) (l0 l1 : Int32) (m0 m1 : Int64) (g0 g1 : UInt64) (m : MethodId) : entryFrame m #[(.ref r0), (.int (0 : Int32)), (.int p2)] 4 = mkF m 0 #[.val (.ref r0), .val (.int (0 : Int32)), .val (.int p2), .unset] [] := by first | (simp [entryFrame, mkF, argsToLocals, Value.category]; done) | rfl
def Q5n2j0 (Z : State) (r0 : Addr) (p2 : Int32) (ca ch lc ar ge : Addr) (kca kch klc kar kge : ClassId) (v0 v1 : Int32) (c0 c1 : Int32) (l0 l1 : Int32) (m0 m1 : Int64) (g0 g1 : UInt64) (h0 : Heap) (n0 : Nat) (v : Option Value) (h : Heap) (L : List Loc) : Prop := v = none ∧ Fr n0 L ∧ Keep h0 h [ca, ch, lc, ar, ge] ∧ Arv Z h ca kca .int (2 : Int32) [(.int (v0 + (1 : Int32))), (.int v1)] (.int (0 : Int32)) ∧ Arv Z h ch kch .int (2 : Int32) [(.int (c0 + (J5n2j0_1_S0 p2))), (.int c1)] (.int (0 : Int32)) ∧ Arv Z h lc klc .boolean (2 : Int32) [(.int (nar .boolean p2)), (.int l1)] (.int (0 : Int32)) ∧ Arv Z h ar kar .long (2 : Int32) [(.long (m0 + (((J5n2j0_1_S0 p2).toInt64) * ((v0 + (1 : Int32)).toInt64)))), (.long m1)] (.long (0 : Int64)) ∧ Arv Z h ge kge .double (2 : Int32) [(.double (FP.ddiv (FP.dadd g0 (FP.i2d (J5n2j0_1_S0 p2))) (4611686018427387904 : UInt64))), (.double g1)] (.double (0 : UInt64))
set_option maxRecDepth 65536 in
set_option maxHeartbeats 40000000 in
theorem rm5n2j0 (l : Launch) (Z : State) (a0 : Array Value) (hw : ∀ d ∈ tables_1, d.before a0 Z = true) (ws : List Jvm.Cond) (r0 : Addr) (p2 : Int32) (ca ch lc ar ge : Addr) (kca kch klc kar kge : ClassId) (v0 v1 : Int32) (c0 c1 : Int32) (l0 l1 : Int32) (m0 m1 : Int64) (g0 g1 : UInt64) (h0 : Heap) (n0 : Nat) (Z0 : n0 ≤ h0.size) (F_count : Fld Z h0 r0 "com/example/wandel/wandel/replay/Observations" "count" "[I" (.ref ca)) (F_changes : Fld Z h0 r0 "com/example/wandel/wandel/replay/Observations" "changes" "[I" (.ref ch)) (F_lastChanged : Fld Z h0 r0 "com/example/wandel/wandel/replay/Observations" "lastChanged" "[Z" (.ref lc)) (F_arithmetic : Fld Z h0 r0 "com/example/wandel/wandel/replay/Observations" "arithmetic" "[J" (.ref ar)) (F_geometric : Fld Z h0 r0 "com/example/wandel/wandel/replay/Observations" "geometric" "[D" (.ref ge)) (V_ca : Arv Z h0 ca kca .int (2 : Int32) [(.int v0), (.int v1)] (.int (0 : Int32))) (V_ch : Arv Z h0 ch kch .int (2 : Int32) [(.int c0), (.int c1)] (.int (0 : Int32))) (V_lc : Arv Z h0 lc klc .boolean (2 : Int32) [(.int l0), (.int l1)] (.int (0 : Int32))) (V_ar : Arv Z h0 ar kar .long (2 : Int32) [(.long m0), (.long m1)] (.long (0 : Int64))) (V_ge : Arv Z h0 ge kge .double (2 : Int32) [(.double g0), (.double g1)] (.double (0 : UInt64))) (ne_r0_ca : r0 ≠ ca) (ne_r0_ch : r0 ≠ ch) (ne_r0_lc : r0 ≠ lc) (ne_r0_ar : r0 ≠ ar) (ne_r0_ge : r0 ≠ ge) (ne_ca_ch : ca ≠ ch) (ne_ca_lc : ca ≠ lc) (ne_ca_ar : ca ≠ ar) (ne_ca_ge : ca ≠ ge) (ne_ch_lc : ch ≠ lc) (ne_ch_ar : ch ≠ ar) (ne_ch_ge : ch ≠ ge) (ne_lc_ar : lc ≠ ar) (ne_lc_ge : lc ≠ ge) (ne_ar_ge : ar ≠ ge) (g_ca : n0 ≤ ca) (g_ch : n0 ≤ ch) (g_lc : n0 ≤ lc) (g_ar : n0 ≤ ar) (g_ge : n0 ≤ ge) (hg : Jvm.Free.Fl.NoNaN64 g0) :
    MetFree l (⟨"com/example/wandel/wandel/replay/Observations", "record", "(IZ)V"⟩ : MethodName) (head1 (Jvm.Cond.code (⟨"com/example/wandel/wandel/replay/Observations", "record", "(IZ)V"⟩ : MethodName) prog_61_method_2_code 4 none :: ws) ({ frames := 0, cells := 0, slots := 0, locals := 0 } : Room)) (fun a U => a = #[(.ref r0), (.int (0 : Int32)), (.int p2)] ∧ Z.Warmed39 U.vm ∧ U.heap = h0) (fun _ _ _ _ _ => True) (fun _ U o U' => ∃ v L, o = .returned v ∧ Q5n2j0 Z r0 p2 ca ch lc ar ge kca kch klc kar kge v0 v1 c0 c1 l0 l1 m0 m1 g0 g1 h0 n0 v U'.heap L ∧ FrameEnd U o U' L ({ frames := 0, cells := 0, slots := 0, locals := 0 } : Room).cells ({ frames := 0, cells := 0, slots := 0, locals := 0 } : Room).slots) := by
  refine MetFree.of_bodySF (plainFor_of_name pn_com_example_wandel_wandel_replay_Observations) hisR ?_
  intro p e s m args below meth c s₁ Bd hml0 hP hK
  obtain ⟨rfl, hZ, hh⟩ := hP
  have hx := Bd.exec
  have hby := Bd.bytes
  have hml : c.maxLocals = 4 := hml0
  have hown : s.vm.findClass "com/example/wandel/wandel/replay/Observations" = some m.cls := findClass_of_methodNamed Bd.named
  have hnm := (name_of_methodNamed Bd.named Bd.method).1
  have X0 : Stand p l e ({ frames := 0, cells := 0, slots := 0, locals := 0 } : Room) s m #[(.ref r0), (.int (0 : Int32)), (.int p2)] below meth c s₁ [] 0 0 := Stand.of_body Bd
  have e0 : s₁.heap = h0 := by rw [← hh, Bd.state]; rfl
  have N0 := Fr.nil n0
  have pre0 : ∀ t, Steps p.tables e below (s₁.setTop (mkF m 0 #[.val (.ref r0), .val (.int (0 : Int32)), .val (.int p2), .unset] [])) t → Steps p.tables e below (s₁.setTop (entryFrame m #[(.ref r0), (.int (0 : Int32)), (.int p2)] 4)) t := fun t k => castTop (ef_5n2j0 r0 p2 ca ch lc ar ge kca kch klc kar kge v0 v1 c0 c1 l0 l1 m0 m1 g0 g1 m) k
  have pre1 : ∀ t, Steps p.tables e below (s₁.setTop (mkF m 1 #[.val (.ref r0), .val (.int (0 : Int32)), .val (.int p2), .unset] [(.int p2)])) t → Steps p.tables e below (s₁.setTop (entryFrame m #[(.ref r0), (.int (0 : Int32)), (.int p2)] 4)) t := fun t kt => pre0 t (by
    show Steps p.tables e below (s₁.setTop (mkF m 0 #[.val (.ref r0), .val (.int (0 : Int32)), .val (.int p2), .unset] [])) _
    refine XS.iloadN X0.here hx rfl (hb hby d5_0) rfl ?_
    exact kt)
  obtain ⟨Tj2, lj2, Xj2, Nj2, ej2, pre2⟩ : ∃ (T' : State) (locs' : List Loc), Stand p l e ({ frames := 0, cells := 0, slots := 0, locals := 0 } : Room) s m #[(.ref r0), (.int (0 : Int32)), (.int p2)] below meth c T' locs' 0 0 ∧ Fr n0 locs' ∧ T'.heap = h0 ∧ ∀ t, Steps p.tables e below (T'.setTop (mkF m 9 #[.val (.ref r0), .val (.int (0 : Int32)), .val (.int p2), .unset] [(.int (J5n2j0_1_S0 p2))])) t → Steps p.tables e below (s₁.setTop (entryFrame m #[(.ref r0), (.int (0 : Int32)), (.int p2)] 4)) t := by
    by_cases hc1 : p2 = (0 : Int32)
    · refine ⟨s₁, _, X0, N0, e0, fun t kt => pre1 t ?_⟩
      show Steps p.tables e below (s₁.setTop (mkF m 1 #[.val (.ref r0), .val (.int (0 : Int32)), .val (.int p2), .unset] [(.int p2)])) _
      refine XS.ifYes X0.here hx rfl (pc0 := 1) (pc' := 8) rfl (hb hby d5_1) rfl ((if0 _ _).trans (teq hc1).1) (by decide) (by decide) ?_
      refine XS.iconst X0.here hx rfl (hb hby d5_8) ?_
      show Steps p.tables e below (s₁.setTop (mkF m 9 #[.val (.ref r0), .val (.int (0 : Int32)), .val (.int p2), .unset] [(.int (0 : Int32))])) _
      have qjS0 : (J5n2j0_1_S0 p2) = (0 : Int32) := by unfold J5n2j0_1_S0; simp only [if_true, if_false, if_pos hc1]
      rw [qjS0] at kt
      exact kt
    · refine ⟨s₁, _, X0, N0, e0, fun t kt => pre1 t ?_⟩
      show Steps p.tables e below (s₁.setTop (mkF m 1 #[.val (.ref r0), .val (.int (0 : Int32)), .val (.int p2), .unset] [(.int p2)])) _
      refine XS.ifNo X0.here hx rfl (hb hby d5_1) rfl ((if0 _ _).trans (feq hc1).1) ?_
      refine XS.iconst X0.here hx rfl (hb hby d5_4) ?_
      refine XS.goto X0.here hx rfl (pc0 := 5) (pc' := 9) rfl (hb hby d5_5) (by decide) (by decide) ?_
      show Steps p.tables e below (s₁.setTop (mkF m 9 #[.val (.ref r0), .val (.int (0 : Int32)), .val (.int p2), .unset] [(.int (1 : Int32))])) _
      have qjS0 : (J5n2j0_1_S0 p2) = (1 : Int32) := by unfold J5n2j0_1_S0; simp only [if_true, if_false, if_neg hc1]
      rw [qjS0] at kt
      exact kt
  obtain ⟨T3, X3, e3, st3⟩ := getF Xj2 hx hZ hown (host := "") (Or.inl (hw _ (List.mem_of_getElem? (i := 10) rfl))) Via.refl ej2 F_count (g := (mkF m 11 #[.val (.ref r0), .val (.int (0 : Int32)), .val (.int p2), .val (.int (J5n2j0_1_S0 p2))] [(.ref r0)])) rfl rfl (hb hby d5_11)
  obtain ⟨cl4, Ar4, qa4, S4, Nl4, H4, G4⟩ := id V_ca
  have hin4 : ¬ ((0 : Int32) < 0 ∨ cl4.slots.size ≤ ((0 : Int32)).toNatClampNeg) := inb_of S4 ⟨by decide, by decide⟩
  have hat4 : cl4.slots[((0 : Int32)).toNatClampNeg]? = some (.int v0) := Has.at H4 hin4 rfl
  obtain ⟨cl5, Ar5, qa5, S5, Nl5, H5, G5⟩ := id V_ca
  have hin5 : ¬ ((0 : Int32) < 0 ∨ cl5.slots.size ≤ ((0 : Int32)).toNatClampNeg) := inb_of S5 ⟨by decide, by decide⟩
  obtain ⟨T5, h5, X5, e5, W5, st5⟩ := stI X3 hx hZ e3 Ar5 (j := (0 : Int32)) hin5 (g := (mkF m 19 #[.val (.ref r0), .val (.int (0 : Int32)), .val (.int p2), .val (.int (J5n2j0_1_S0 p2))] [(.int (v0 + (1 : Int32))), (.int (0 : Int32)), (.ref ca)])) rfl rfl (hb hby d5_19)
  have V5 : Arv Z h5 ca kca .int (2 : Int32) [(.int (v0 + (1 : Int32))), (.int v1)] (.int (0 : Int32)) := Arv.set Ar5 qa5 S5 Nl5 H5 G5 rfl W5 0 rfl (Nat.le_of_ble_eq_true rfl)
  have K5 : Keep h0 h5 [ca, ch, lc, ar, ge] := (Keep.refl h0 [ca, ch, lc, ar, ge]).wr W5 (Or.inl (List.mem_of_getElem? (i := 0) rfl))
  have N5 := Fr.snoc X5 Nj2 g_ca
  obtain ⟨T6, X6, e6, st6⟩ := getF X5 hx hZ hown (host := "") (Or.inl (hw _ (List.mem_of_getElem? (i := 12) rfl))) Via.refl e5 (Fld.other W5 F_changes (Or.inl ne_r0_ca)) (g := (mkF m 21 #[.val (.ref r0), .val (.int (0 : Int32)), .val (.int p2), .val (.int (J5n2j0_1_S0 p2))] [(.ref r0)])) rfl rfl (hb hby d5_21)
  obtain ⟨cl7, Ar7, qa7, S7, Nl7, H7, G7⟩ := id (V_ch.other W5 (Ne.symm ne_ca_ch))
  have hin7 : ¬ ((0 : Int32) < 0 ∨ cl7.slots.size ≤ ((0 : Int32)).toNatClampNeg) := inb_of S7 ⟨by decide, by decide⟩
  have hat7 : cl7.slots[((0 : Int32)).toNatClampNeg]? = some (.int c0) := Has.at H7 hin7 rfl
  obtain ⟨cl8, Ar8, qa8, S8, Nl8, H8, G8⟩ := id (V_ch.other W5 (Ne.symm ne_ca_ch))
  have hin8 : ¬ ((0 : Int32) < 0 ∨ cl8.slots.size ≤ ((0 : Int32)).toNatClampNeg) := inb_of S8 ⟨by decide, by decide⟩
  obtain ⟨T8, h8, X8, e8, W8, st8⟩ := stI X6 hx hZ e6 Ar8 (j := (0 : Int32)) hin8 (g := (mkF m 29 #[.val (.ref r0), .val (.int (0 : Int32)), .val (.int p2), .val (.int (J5n2j0_1_S0 p2))] [(.int (c0 + (J5n2j0_1_S0 p2))), (.int (0 : Int32)), (.ref ch)])) rfl rfl (hb hby d5_29)
  have V8 : Arv Z h8 ch kch .int (2 : Int32) [(.int (c0 + (J5n2j0_1_S0 p2))), (.int c1)] (.int (0 : Int32)) := Arv.set Ar8 qa8 S8 Nl8 H8 G8 rfl W8 0 rfl (Nat.le_of_ble_eq_true rfl)
  have K8 : Keep h0 h8 [ca, ch, lc, ar, ge] := K5.wr W8 (Or.inl (List.mem_of_getElem? (i := 1) rfl))
  have N8 := Fr.snoc X8 N5 g_ch
  obtain ⟨T9, X9, e9, st9⟩ := getF X8 hx hZ hown (host := "") (Or.inl (hw _ (List.mem_of_getElem? (i := 15) rfl))) Via.refl e8 (Fld.other W8 (Fld.other W5 F_lastChanged (Or.inl ne_r0_ca)) (Or.inl ne_r0_ch)) (g := (mkF m 31 #[.val (.ref r0), .val (.int (0 : Int32)), .val (.int p2), .val (.int (J5n2j0_1_S0 p2))] [(.ref r0)])) rfl rfl (hb hby d5_31)
  obtain ⟨cl10, Ar10, qa10, S10, Nl10, H10, G10⟩ := id ((V_lc.other W5 (Ne.symm ne_ca_lc)).other W8 (Ne.symm ne_ch_lc))
  have hin10 : ¬ ((0 : Int32) < 0 ∨ cl10.slots.size ≤ ((0 : Int32)).toNatClampNeg) := inb_of S10 ⟨by decide, by decide⟩
  obtain ⟨T10, h10, X10, e10, W10, st10⟩ := stZ X9 hx hZ e9 Ar10 (j := (0 : Int32)) hin10 (g := (mkF m 36 #[.val (.ref r0), .val (.int (0 : Int32)), .val (.int p2), .val (.int (J5n2j0_1_S0 p2))] [(.int p2), (.int (0 : Int32)), (.ref lc)])) rfl rfl (hb hby d5_36)
  have V10 : Arv Z h10 lc klc .boolean (2 : Int32) [(.int (nar .boolean p2)), (.int l1)] (.int (0 : Int32)) := Arv.set Ar10 qa10 S10 Nl10 H10 G10 (fits_nar_bool _) W10 0 rfl (Nat.le_of_ble_eq_true rfl)
  have K10 : Keep h0 h10 [ca, ch, lc, ar, ge] := K8.wr W10 (Or.inl (List.mem_of_getElem? (i := 2) rfl))
  have N10 := Fr.snoc X10 N8 g_lc
  obtain ⟨T11, X11, e11, st11⟩ := getF X10 hx hZ hown (host := "") (Or.inl (hw _ (List.mem_of_getElem? (i := 18) rfl))) Via.refl e10 (Fld.other W10 (Fld.other W8 (Fld.other W5 F_arithmetic (Or.inl ne_r0_ca)) (Or.inl ne_r0_ch)) (Or.inl ne_r0_lc)) (g := (mkF m 38 #[.val (.ref r0), .val (.int (0 : Int32)), .val (.int p2), .val (.int (J5n2j0_1_S0 p2))] [(.ref r0)])) rfl rfl (hb hby d5_38)
  obtain ⟨cl12, Ar12, qa12, S12, Nl12, H12, G12⟩ := id (((V_ar.other W5 (Ne.symm ne_ca_ar)).other W8 (Ne.symm ne_ch_ar)).other W10 (Ne.symm ne_lc_ar))
  have hin12 : ¬ ((0 : Int32) < 0 ∨ cl12.slots.size ≤ ((0 : Int32)).toNatClampNeg) := inb_of S12 ⟨by decide, by decide⟩
  have hat12 : cl12.slots[((0 : Int32)).toNatClampNeg]? = some (.long m0) := Has.at H12 hin12 rfl
  obtain ⟨T13, X13, e13, st13⟩ := getF X11 hx hZ hown (host := "") (Or.inl (hw _ (List.mem_of_getElem? (i := 10) rfl))) Via.refl e11 (Fld.other W10 (Fld.other W8 (Fld.other W5 F_count (Or.inl ne_r0_ca)) (Or.inl ne_r0_ch)) (Or.inl ne_r0_lc)) (g := (mkF m 47 #[.val (.ref r0), .val (.int (0 : Int32)), .val (.int p2), .val (.int (J5n2j0_1_S0 p2))] [(.ref r0), (.long ((J5n2j0_1_S0 p2).toInt64)), (.long m0), (.int (0 : Int32)), (.ref ar)])) rfl rfl (hb hby d5_47)
  obtain ⟨cl14, Ar14, qa14, S14, Nl14, H14, G14⟩ := id ((V5.other W8 ne_ca_ch).other W10 ne_ca_lc)
  have hin14 : ¬ ((0 : Int32) < 0 ∨ cl14.slots.size ≤ ((0 : Int32)).toNatClampNeg) := inb_of S14 ⟨by decide, by decide⟩
  have hat14 : cl14.slots[((0 : Int32)).toNatClampNeg]? = some (.int (v0 + (1 : Int32))) := Has.at H14 hin14 rfl
  obtain ⟨cl15, Ar15, qa15, S15, Nl15, H15, G15⟩ := id (((V_ar.other W5 (Ne.symm ne_ca_ar)).other W8 (Ne.symm ne_ch_ar)).other W10 (Ne.symm ne_lc_ar))
  have hin15 : ¬ ((0 : Int32) < 0 ∨ cl15.slots.size ≤ ((0 : Int32)).toNatClampNeg) := inb_of S15 ⟨by decide, by decide⟩
  obtain ⟨T15, h15, X15, e15, W15, st15⟩ := stJ X13 hx hZ e13 Ar15 (j := (0 : Int32)) hin15 (g := (mkF m 55 #[.val (.ref r0), .val (.int (0 : Int32)), .val (.int p2), .val (.int (J5n2j0_1_S0 p2))] [(.long (m0 + (((J5n2j0_1_S0 p2).toInt64) * ((v0 + (1 : Int32)).toInt64)))), (.int (0 : Int32)), (.ref ar)])) rfl rfl (hb hby d5_55)
  have V15 : Arv Z h15 ar kar .long (2 : Int32) [(.long (m0 + (((J5n2j0_1_S0 p2).toInt64) * ((v0 + (1 : Int32)).toInt64)))), (.long m1)] (.long (0 : Int64)) := Arv.set Ar15 qa15 S15 Nl15 H15 G15 rfl W15 0 rfl (Nat.le_of_ble_eq_true rfl)
  have K15 : Keep h0 h15 [ca, ch, lc, ar, ge] := K10.wr W15 (Or.inl (List.mem_of_getElem? (i := 3) rfl))
  have N15 := Fr.snoc X15 N10 g_ar
  obtain ⟨T16, X16, e16, st16⟩ := getF X15 hx hZ hown (host := "") (Or.inl (hw _ (List.mem_of_getElem? (i := 21) rfl))) Via.refl e15 (Fld.other W15 (Fld.other W10 (Fld.other W8 (Fld.other W5 F_geometric (Or.inl ne_r0_ca)) (Or.inl ne_r0_ch)) (Or.inl ne_r0_lc)) (Or.inl ne_r0_ar)) (g := (mkF m 57 #[.val (.ref r0), .val (.int (0 : Int32)), .val (.int p2), .val (.int (J5n2j0_1_S0 p2))] [(.ref r0)])) rfl rfl (hb hby d5_57)
  obtain ⟨T17, X17, e17, st17⟩ := getF X16 hx hZ hown (host := "") (Or.inl (hw _ (List.mem_of_getElem? (i := 21) rfl))) Via.refl e16 (Fld.other W15 (Fld.other W10 (Fld.other W8 (Fld.other W5 F_geometric (Or.inl ne_r0_ca)) (Or.inl ne_r0_ch)) (Or.inl ne_r0_lc)) (Or.inl ne_r0_ar)) (g := (mkF m 62 #[.val (.ref r0), .val (.int (0 : Int32)), .val (.int p2), .val (.int (J5n2j0_1_S0 p2))] [(.ref r0), (.int (0 : Int32)), (.ref ge)])) rfl rfl (hb hby d5_62)
  obtain ⟨cl18, Ar18, qa18, S18, Nl18, H18, G18⟩ := id ((((V_ge.other W5 (Ne.symm ne_ca_ge)).other W8 (Ne.symm ne_ch_ge)).other W10 (Ne.symm ne_lc_ge)).other W15 (Ne.symm ne_ar_ge))
  have hin18 : ¬ ((0 : Int32) < 0 ∨ cl18.slots.size ≤ ((0 : Int32)).toNatClampNeg) := inb_of S18 ⟨by decide, by decide⟩
  have hat18 : cl18.slots[((0 : Int32)).toNatClampNeg]? = some (.double g0) := Has.at H18 hin18 rfl
  obtain ⟨cl19, Ar19, qa19, S19, Nl19, H19, G19⟩ := id ((((V_ge.other W5 (Ne.symm ne_ca_ge)).other W8 (Ne.symm ne_ch_ge)).other W10 (Ne.symm ne_lc_ge)).other W15 (Ne.symm ne_ar_ge))
  have hin19 : ¬ ((0 : Int32) < 0 ∨ cl19.slots.size ≤ ((0 : Int32)).toNatClampNeg) := inb_of S19 ⟨by decide, by decide⟩
  obtain ⟨T19, h19, X19, e19, W19, st19⟩ := own_stD X17 hx hZ e17 Ar19 (j := (0 : Int32)) hin19 (g := (mkF m 74 #[.val (.ref r0), .val (.int (0 : Int32)), .val (.int p2), .val (.int (J5n2j0_1_S0 p2))] [(.double (FP.ddiv (FP.dadd g0 (FP.i2d (J5n2j0_1_S0 p2))) (4611686018427387904 : UInt64))), (.int (0 : Int32)), (.ref ge)])) rfl rfl (hb hby d5_74)
  have V19 : Arv Z h19 ge kge .double (2 : Int32) [(.double (FP.ddiv (FP.dadd g0 (FP.i2d (J5n2j0_1_S0 p2))) (4611686018427387904 : UInt64))), (.double g1)] (.double (0 : UInt64)) := Arv.set Ar19 qa19 S19 Nl19 H19 G19 rfl W19 0 rfl (Nat.le_of_ble_eq_true rfl)
  have K19 : Keep h0 h19 [ca, ch, lc, ar, ge] := K15.wr W19 (Or.inl (List.mem_of_getElem? (i := 4) rfl))
  have N19 := Fr.snoc X19 N15 g_ge
  obtain ⟨fs, hr, hrun, hended, hW, hsame⟩ := X19.leave (v := none) (fun _ => rfl)
  refine ⟨_, _, pre2 _ ?_, hrun, hended, _, _, rfl, ?_, ⟨_, rfl⟩, hW, hsame.mono (by decide) (by decide)⟩
  · show Steps p.tables e below (Tj2.setTop (mkF m 9 #[.val (.ref r0), .val (.int (0 : Int32)), .val (.int p2), .unset] [(.int (J5n2j0_1_S0 p2))])) _
    refine XS.istoreN Xj2.here hx rfl (hb hby d5_9) rfl (l' := #[.val (.ref r0), .val (.int (0 : Int32)), .val (.int p2), .val (.int (J5n2j0_1_S0 p2))]) rfl ?_
    refine XS.aloadN Xj2.here hx rfl (hb hby d5_10) rfl rfl ?_
    refine st3 _ ?_
    refine XS.iloadN X3.here hx rfl (hb hby d5_14) rfl ?_
    refine Jvm.Free.XT.dup2 X3.here hx rfl (hb hby d5_15) rfl rfl rfl ?_
    refine X3.iaload hx (j := (0 : Int32)) (v := (.int v0)) (by rw [e3]; exact Ar4.1) (State.isArrayOf_alike hZ.alike Ar4.2.1) Ar4.2.2 hin4 hat4 (g := (mkF m 16 #[.val (.ref r0), .val (.int (0 : Int32)), .val (.int p2), .val (.int (J5n2j0_1_S0 p2))] [(.int (0 : Int32)), (.ref ca), (.int (0 : Int32)), (.ref ca)])) rfl rfl (hb hby d5_16) _ ?_
    refine XS.iconst X3.here hx rfl (hb hby d5_17) ?_
    refine XS.iadd X3.here hx rfl (hb hby d5_18) rfl ?_
    show Steps p.tables e below (T3.setTop (mkF m 19 #[.val (.ref r0), .val (.int (0 : Int32)), .val (.int p2), .val (.int (J5n2j0_1_S0 p2))] [(.int (v0 + (1 : Int32))), (.int (0 : Int32)), (.ref ca)])) _
    refine st5 _ ?_
    refine XS.aloadN X5.here hx rfl (hb hby d5_20) rfl rfl ?_
    refine st6 _ ?_
    refine XS.iloadN X6.here hx rfl (hb hby d5_24) rfl ?_
    refine Jvm.Free.XT.dup2 X6.here hx rfl (hb hby d5_25) rfl rfl rfl ?_
    refine X6.iaload hx (j := (0 : Int32)) (v := (.int c0)) (by rw [e6]; exact Ar7.1) (State.isArrayOf_alike hZ.alike Ar7.2.1) Ar7.2.2 hin7 hat7 (g := (mkF m 26 #[.val (.ref r0), .val (.int (0 : Int32)), .val (.int p2), .val (.int (J5n2j0_1_S0 p2))] [(.int (0 : Int32)), (.ref ch), (.int (0 : Int32)), (.ref ch)])) rfl rfl (hb hby d5_26) _ ?_
    refine XS.iloadN X6.here hx rfl (hb hby d5_27) rfl ?_
    refine XS.iadd X6.here hx rfl (hb hby d5_28) rfl ?_
    show Steps p.tables e below (T6.setTop (mkF m 29 #[.val (.ref r0), .val (.int (0 : Int32)), .val (.int p2), .val (.int (J5n2j0_1_S0 p2))] [(.int (c0 + (J5n2j0_1_S0 p2))), (.int (0 : Int32)), (.ref ch)])) _
    refine st8 _ ?_
    refine XS.aloadN X8.here hx rfl (hb hby d5_30) rfl rfl ?_
    refine st9 _ ?_
    refine XS.iloadN X9.here hx rfl (hb hby d5_34) rfl ?_
    refine XS.iloadN X9.here hx rfl (hb hby d5_35) rfl ?_
    refine st10 _ ?_
    refine XS.aloadN X10.here hx rfl (hb hby d5_37) rfl rfl ?_
    refine st11 _ ?_
    show Steps p.tables e below (T11.setTop (mkF m 41 #[.val (.ref r0), .val (.int (0 : Int32)), .val (.int p2), .val (.int (J5n2j0_1_S0 p2))] [(.ref ar)])) _
    refine XS.iloadN X11.here hx rfl (hb hby d5_41) rfl ?_
    refine Jvm.Free.XT.dup2 X11.here hx rfl (hb hby d5_42) rfl rfl rfl ?_
    refine X11.laload hx (j := (0 : Int32)) (v := (.long m0)) (by rw [e11]; exact Ar12.1) (State.isArrayOf_alike hZ.alike Ar12.2.1) Ar12.2.2 hin12 hat12 (g := (mkF m 43 #[.val (.ref r0), .val (.int (0 : Int32)), .val (.int p2), .val (.int (J5n2j0_1_S0 p2))] [(.int (0 : Int32)), (.ref ar), (.int (0 : Int32)), (.ref ar)])) rfl rfl (hb hby d5_43) _ ?_
    refine XS.iloadN X11.here hx rfl (hb hby d5_44) rfl ?_
    refine XS.i2l X11.here hx rfl (hb hby d5_45) rfl ?_
    refine XS.aloadN X11.here hx rfl (hb hby d5_46) rfl rfl ?_
    refine st13 _ ?_
    refine XS.iloadN X13.here hx rfl (hb hby d5_50) rfl ?_
    show Steps p.tables e below (T13.setTop (mkF m 51 #[.val (.ref r0), .val (.int (0 : Int32)), .val (.int p2), .val (.int (J5n2j0_1_S0 p2))] [(.int (0 : Int32)), (.ref ca), (.long ((J5n2j0_1_S0 p2).toInt64)), (.long m0), (.int (0 : Int32)), (.ref ar)])) _
    refine X13.iaload hx (j := (0 : Int32)) (v := (.int (v0 + (1 : Int32)))) (by rw [e13]; exact Ar14.1) (State.isArrayOf_alike hZ.alike Ar14.2.1) Ar14.2.2 hin14 hat14 (g := (mkF m 51 #[.val (.ref r0), .val (.int (0 : Int32)), .val (.int p2), .val (.int (J5n2j0_1_S0 p2))] [(.int (0 : Int32)), (.ref ca), (.long ((J5n2j0_1_S0 p2).toInt64)), (.long m0), (.int (0 : Int32)), (.ref ar)])) rfl rfl (hb hby d5_51) _ ?_
    refine XS.i2l X13.here hx rfl (hb hby d5_52) rfl ?_
    refine XS.lmul X13.here hx rfl (hb hby d5_53) rfl ?_
    refine XS.ladd X13.here hx rfl (hb hby d5_54) rfl ?_
    refine st15 _ ?_
    refine XS.aloadN X15.here hx rfl (hb hby d5_56) rfl rfl ?_
    refine st16 _ ?_
    refine XS.iloadN X16.here hx rfl (hb hby d5_60) rfl ?_
    show Steps p.tables e below (T16.setTop (mkF m 61 #[.val (.ref r0), .val (.int (0 : Int32)), .val (.int p2), .val (.int (J5n2j0_1_S0 p2))] [(.int (0 : Int32)), (.ref ge)])) _
    refine XS.aloadN X16.here hx rfl (hb hby d5_61) rfl rfl ?_
    refine st17 _ ?_
    refine XS.iloadN X17.here hx rfl (hb hby d5_65) rfl ?_
    refine X17.daload hx (j := (0 : Int32)) (v := (.double g0)) (by rw [e17]; exact Ar18.1) (State.isArrayOf_alike hZ.alike Ar18.2.1) Ar18.2.2 hin18 hat18 (g := (mkF m 66 #[.val (.ref r0), .val (.int (0 : Int32)), .val (.int p2), .val (.int (J5n2j0_1_S0 p2))] [(.int (0 : Int32)), (.ref ge), (.int (0 : Int32)), (.ref ge)])) rfl rfl (hb hby d5_66) _ ?_
    refine XS.iloadN X17.here hx rfl (hb hby d5_67) rfl ?_
    refine own_i2d X17.here hx rfl (hb hby d5_68) rfl ?_
    show Steps p.tables e below (T17.setTop (mkF m 69 #[.val (.ref r0), .val (.int (0 : Int32)), .val (.int p2), .val (.int (J5n2j0_1_S0 p2))] [(.double (FP.i2d (J5n2j0_1_S0 p2))), (.double g0), (.int (0 : Int32)), (.ref ge)])) _
    refine own_dadd X17.here hx (hb hby d5_69) (own_geo0 _ hg) ?_
    refine X17.ldc2DoubleC hx hown (mvT hZ (hw _ (List.mem_of_getElem? (i := 37) rfl))) (g := (mkF m 70 #[.val (.ref r0), .val (.int (0 : Int32)), .val (.int p2), .val (.int (J5n2j0_1_S0 p2))] [(.double (FP.dadd g0 (FP.i2d (J5n2j0_1_S0 p2)))), (.int (0 : Int32)), (.ref ge)])) rfl (hb hby d5_70) _ ?_
    show Steps p.tables e below (T17.setTop (mkF m 73 #[.val (.ref r0), .val (.int (0 : Int32)), .val (.int p2), .val (.int (J5n2j0_1_S0 p2))] [(.double (4611686018427387904 : UInt64)), (.double (FP.dadd g0 (FP.i2d (J5n2j0_1_S0 p2)))), (.int (0 : Int32)), (.ref ge)])) _
    refine own_ddiv X17.here hx (hb hby d5_73) (own_geo _ hg) ?_
    refine st19 _ ?_
    show Steps p.tables e below (T19.setTop (mkF m 75 #[.val (.ref r0), .val (.int (0 : Int32)), .val (.int p2), .val (.int (J5n2j0_1_S0 p2))] [])) _
    exact X19.returnOut hx Bd.returns (hb hby d5_75) hr
  · show Q5n2j0 Z r0 p2 ca ch lc ar ge kca kch klc kar kge v0 v1 c0 c1 l0 l1 m0 m1 g0 g1 h0 n0 _ T19.heap _
    rw [e19]
    exact ⟨rfl, N19, K19, ((((V5.other W8 ne_ca_ch).other W10 ne_ca_lc).other W15 ne_ca_ar).other W19 ne_ca_ge), (((V8.other W10 ne_ch_lc).other W15 ne_ch_ar).other W19 ne_ch_ge), ((V10.other W15 ne_lc_ar).other W19 ne_lc_ge), (V15.other W19 ne_ar_ge), V19⟩
def J5n2j1_1_S0 (p2 : Int32) : Int32 := (if p2 = (0 : Int32) then (0 : Int32) else (1 : Int32))
theorem ef_5n2j1 (r0 : Addr) (p2 : Int32) (ca ch lc ar ge : Addr) (kca kch klc kar kge : ClassId) (v0 v1 : Int32) (c0 c1 : Int32) (l0 l1 : Int32) (m0 m1 : Int64) (g0 g1 : UInt64) (m : MethodId) : entryFrame m #[(.ref r0), (.int (1 : Int32)), (.int p2)] 4 = mkF m 0 #[.val (.ref r0), .val (.int (1 : Int32)), .val (.int p2), .unset] [] := by first | (simp [entryFrame, mkF, argsToLocals, Value.category]; done) | rfl
def Q5n2j1 (Z : State) (r0 : Addr) (p2 : Int32) (ca ch lc ar ge : Addr) (kca kch klc kar kge : ClassId) (v0 v1 : Int32) (c0 c1 : Int32) (l0 l1 : Int32) (m0 m1 : Int64) (g0 g1 : UInt64) (h0 : Heap) (n0 : Nat) (v : Option Value) (h : Heap) (L : List Loc) : Prop := v = none ∧ Fr n0 L ∧ Keep h0 h [ca, ch, lc, ar, ge] ∧ Arv Z h ca kca .int (2 : Int32) [(.int v0), (.int (v1 + (1 : Int32)))] (.int (0 : Int32)) ∧ Arv Z h ch kch .int (2 : Int32) [(.int c0), (.int (c1 + (J5n2j1_1_S0 p2)))] (.int (0 : Int32)) ∧ Arv Z h lc klc .boolean (2 : Int32) [(.int l0), (.int (nar .boolean p2))] (.int (0 : Int32)) ∧ Arv Z h ar kar .long (2 : Int32) [(.long m0), (.long (m1 + (((J5n2j1_1_S0 p2).toInt64) * ((v1 + (1 : Int32)).toInt64))))] (.long (0 : Int64)) ∧ Arv Z h ge kge .double (2 : Int32) [(.double g0), (.double (FP.ddiv (FP.dadd g1 (FP.i2d (J5n2j1_1_S0 p2))) (4611686018427387904 : UInt64)))] (.double (0 : UInt64))
set_option maxRecDepth 65536 in
set_option maxHeartbeats 40000000 in
theorem rm5n2j1 (l : Launch) (Z : State) (a0 : Array Value) (hw : ∀ d ∈ tables_1, d.before a0 Z = true) (ws : List Jvm.Cond) (r0 : Addr) (p2 : Int32) (ca ch lc ar ge : Addr) (kca kch klc kar kge : ClassId) (v0 v1 : Int32) (c0 c1 : Int32) (l0 l1 : Int32) (m0 m1 : Int64) (g0 g1 : UInt64) (h0 : Heap) (n0 : Nat) (Z0 : n0 ≤ h0.size) (F_count : Fld Z h0 r0 "com/example/wandel/wandel/replay/Observations" "count" "[I" (.ref ca)) (F_changes : Fld Z h0 r0 "com/example/wandel/wandel/replay/Observations" "changes" "[I" (.ref ch)) (F_lastChanged : Fld Z h0 r0 "com/example/wandel/wandel/replay/Observations" "lastChanged" "[Z" (.ref lc)) (F_arithmetic : Fld Z h0 r0 "com/example/wandel/wandel/replay/Observations" "arithmetic" "[J" (.ref ar)) (F_geometric : Fld Z h0 r0 "com/example/wandel/wandel/replay/Observations" "geometric" "[D" (.ref ge)) (V_ca : Arv Z h0 ca kca .int (2 : Int32) [(.int v0), (.int v1)] (.int (0 : Int32))) (V_ch : Arv Z h0 ch kch .int (2 : Int32) [(.int c0), (.int c1)] (.int (0 : Int32))) (V_lc : Arv Z h0 lc klc .boolean (2 : Int32) [(.int l0), (.int l1)] (.int (0 : Int32))) (V_ar : Arv Z h0 ar kar .long (2 : Int32) [(.long m0), (.long m1)] (.long (0 : Int64))) (V_ge : Arv Z h0 ge kge .double (2 : Int32) [(.double g0), (.double g1)] (.double (0 : UInt64))) (ne_r0_ca : r0 ≠ ca) (ne_r0_ch : r0 ≠ ch) (ne_r0_lc : r0 ≠ lc) (ne_r0_ar : r0 ≠ ar) (ne_r0_ge : r0 ≠ ge) (ne_ca_ch : ca ≠ ch) (ne_ca_lc : ca ≠ lc) (ne_ca_ar : ca ≠ ar) (ne_ca_ge : ca ≠ ge) (ne_ch_lc : ch ≠ lc) (ne_ch_ar : ch ≠ ar) (ne_ch_ge : ch ≠ ge) (ne_lc_ar : lc ≠ ar) (ne_lc_ge : lc ≠ ge) (ne_ar_ge : ar ≠ ge) (g_ca : n0 ≤ ca) (g_ch : n0 ≤ ch) (g_lc : n0 ≤ lc) (g_ar : n0 ≤ ar) (g_ge : n0 ≤ ge) (hg : Jvm.Free.Fl.NoNaN64 g1) :
    MetFree l (⟨"com/example/wandel/wandel/replay/Observations", "record", "(IZ)V"⟩ : MethodName) (head1 (Jvm.Cond.code (⟨"com/example/wandel/wandel/replay/Observations", "record", "(IZ)V"⟩ : MethodName) prog_61_method_2_code 4 none :: ws) ({ frames := 0, cells := 0, slots := 0, locals := 0 } : Room)) (fun a U => a = #[(.ref r0), (.int (1 : Int32)), (.int p2)] ∧ Z.Warmed39 U.vm ∧ U.heap = h0) (fun _ _ _ _ _ => True) (fun _ U o U' => ∃ v L, o = .returned v ∧ Q5n2j1 Z r0 p2 ca ch lc ar ge kca kch klc kar kge v0 v1 c0 c1 l0 l1 m0 m1 g0 g1 h0 n0 v U'.heap L ∧ FrameEnd U o U' L ({ frames := 0, cells := 0, slots := 0, locals := 0 } : Room).cells ({ frames := 0, cells := 0, slots := 0, locals := 0 } : Room).slots) := by
  refine MetFree.of_bodySF (plainFor_of_name pn_com_example_wandel_wandel_replay_Observations) hisR ?_
  intro p e s m args below meth c s₁ Bd hml0 hP hK
  obtain ⟨rfl, hZ, hh⟩ := hP
  have hx := Bd.exec
  have hby := Bd.bytes
  have hml : c.maxLocals = 4 := hml0
  have hown : s.vm.findClass "com/example/wandel/wandel/replay/Observations" = some m.cls := findClass_of_methodNamed Bd.named
  have hnm := (name_of_methodNamed Bd.named Bd.method).1
  have X0 : Stand p l e ({ frames := 0, cells := 0, slots := 0, locals := 0 } : Room) s m #[(.ref r0), (.int (1 : Int32)), (.int p2)] below meth c s₁ [] 0 0 := Stand.of_body Bd
  have e0 : s₁.heap = h0 := by rw [← hh, Bd.state]; rfl
  have N0 := Fr.nil n0
  have pre0 : ∀ t, Steps p.tables e below (s₁.setTop (mkF m 0 #[.val (.ref r0), .val (.int (1 : Int32)), .val (.int p2), .unset] [])) t → Steps p.tables e below (s₁.setTop (entryFrame m #[(.ref r0), (.int (1 : Int32)), (.int p2)] 4)) t := fun t k => castTop (ef_5n2j1 r0 p2 ca ch lc ar ge kca kch klc kar kge v0 v1 c0 c1 l0 l1 m0 m1 g0 g1 m) k
  have pre1 : ∀ t, Steps p.tables e below (s₁.setTop (mkF m 1 #[.val (.ref r0), .val (.int (1 : Int32)), .val (.int p2), .unset] [(.int p2)])) t → Steps p.tables e below (s₁.setTop (entryFrame m #[(.ref r0), (.int (1 : Int32)), (.int p2)] 4)) t := fun t kt => pre0 t (by
    show Steps p.tables e below (s₁.setTop (mkF m 0 #[.val (.ref r0), .val (.int (1 : Int32)), .val (.int p2), .unset] [])) _
    refine XS.iloadN X0.here hx rfl (hb hby d5_0) rfl ?_
    exact kt)
  obtain ⟨Tj2, lj2, Xj2, Nj2, ej2, pre2⟩ : ∃ (T' : State) (locs' : List Loc), Stand p l e ({ frames := 0, cells := 0, slots := 0, locals := 0 } : Room) s m #[(.ref r0), (.int (1 : Int32)), (.int p2)] below meth c T' locs' 0 0 ∧ Fr n0 locs' ∧ T'.heap = h0 ∧ ∀ t, Steps p.tables e below (T'.setTop (mkF m 9 #[.val (.ref r0), .val (.int (1 : Int32)), .val (.int p2), .unset] [(.int (J5n2j1_1_S0 p2))])) t → Steps p.tables e below (s₁.setTop (entryFrame m #[(.ref r0), (.int (1 : Int32)), (.int p2)] 4)) t := by
    by_cases hc1 : p2 = (0 : Int32)
    · refine ⟨s₁, _, X0, N0, e0, fun t kt => pre1 t ?_⟩
      show Steps p.tables e below (s₁.setTop (mkF m 1 #[.val (.ref r0), .val (.int (1 : Int32)), .val (.int p2), .unset] [(.int p2)])) _
      refine XS.ifYes X0.here hx rfl (pc0 := 1) (pc' := 8) rfl (hb hby d5_1) rfl ((if0 _ _).trans (teq hc1).1) (by decide) (by decide) ?_
      refine XS.iconst X0.here hx rfl (hb hby d5_8) ?_
      show Steps p.tables e below (s₁.setTop (mkF m 9 #[.val (.ref r0), .val (.int (1 : Int32)), .val (.int p2), .unset] [(.int (0 : Int32))])) _
      have qjS0 : (J5n2j1_1_S0 p2) = (0 : Int32) := by unfold J5n2j1_1_S0; simp only [if_true, if_false, if_pos hc1]
      rw [qjS0] at kt
      exact kt
    · refine ⟨s₁, _, X0, N0, e0, fun t kt => pre1 t ?_⟩
      show Steps p.tables e below (s₁.setTop (mkF m 1 #[.val (.ref r0), .val (.int (1 : Int32)), .val (.int p2), .unset] [(.int p2)])) _
      refine XS.ifNo X0.here hx rfl (hb hby d5_1) rfl ((if0 _ _).trans (feq hc1).1) ?_
      refine XS.iconst X0.here hx rfl (hb hby d5_4) ?_
      refine XS.goto X0.here hx rfl (pc0 := 5) (pc' := 9) rfl (hb hby d5_5) (by decide) (by decide) ?_
      show Steps p.tables e below (s₁.setTop (mkF m 9 #[.val (.ref r0), .val (.int (1 : Int32)), .val (.int p2), .unset] [(.int (1 : Int32))])) _
      have qjS0 : (J5n2j1_1_S0 p2) = (1 : Int32) := by unfold J5n2j1_1_S0; simp only [if_true, if_false, if_neg hc1]
      rw [qjS0] at kt
      exact kt
  obtain ⟨T3, X3, e3, st3⟩ := getF Xj2 hx hZ hown (host := "") (Or.inl (hw _ (List.mem_of_getElem? (i := 10) rfl))) Via.refl ej2 F_count (g := (mkF m 11 #[.val (.ref r0), .val (.int (1 : Int32)), .val (.int p2), .val (.int (J5n2j1_1_S0 p2))] [(.ref r0)])) rfl rfl (hb hby d5_11)
  obtain ⟨cl4, Ar4, qa4, S4, Nl4, H4, G4⟩ := id V_ca
  have hin4 : ¬ ((1 : Int32) < 0 ∨ cl4.slots.size ≤ ((1 : Int32)).toNatClampNeg) := inb_of S4 ⟨by decide, by decide⟩
  have hat4 : cl4.slots[((1 : Int32)).toNatClampNeg]? = some (.int v1) := Has.at H4 hin4 rfl
  obtain ⟨cl5, Ar5, qa5, S5, Nl5, H5, G5⟩ := id V_ca
  have hin5 : ¬ ((1 : Int32) < 0 ∨ cl5.slots.size ≤ ((1 : Int32)).toNatClampNeg) := inb_of S5 ⟨by decide, by decide⟩
  obtain ⟨T5, h5, X5, e5, W5, st5⟩ := stI X3 hx hZ e3 Ar5 (j := (1 : Int32)) hin5 (g := (mkF m 19 #[.val (.ref r0), .val (.int (1 : Int32)), .val (.int p2), .val (.int (J5n2j1_1_S0 p2))] [(.int (v1 + (1 : Int32))), (.int (1 : Int32)), (.ref ca)])) rfl rfl (hb hby d5_19)
  have V5 : Arv Z h5 ca kca .int (2 : Int32) [(.int v0), (.int (v1 + (1 : Int32)))] (.int (0 : Int32)) := Arv.set Ar5 qa5 S5 Nl5 H5 G5 rfl W5 1 rfl (Nat.le_of_ble_eq_true rfl)
  have K5 : Keep h0 h5 [ca, ch, lc, ar, ge] := (Keep.refl h0 [ca, ch, lc, ar, ge]).wr W5 (Or.inl (List.mem_of_getElem? (i := 0) rfl))
  have N5 := Fr.snoc X5 Nj2 g_ca
  obtain ⟨T6, X6, e6, st6⟩ := getF X5 hx hZ hown (host := "") (Or.inl (hw _ (List.mem_of_getElem? (i := 12) rfl))) Via.refl e5 (Fld.other W5 F_changes (Or.inl ne_r0_ca)) (g := (mkF m 21 #[.val (.ref r0), .val (.int (1 : Int32)), .val (.int p2), .val (.int (J5n2j1_1_S0 p2))] [(.ref r0)])) rfl rfl (hb hby d5_21)
  obtain ⟨cl7, Ar7, qa7, S7, Nl7, H7, G7⟩ := id (V_ch.other W5 (Ne.symm ne_ca_ch))
  have hin7 : ¬ ((1 : Int32) < 0 ∨ cl7.slots.size ≤ ((1 : Int32)).toNatClampNeg) := inb_of S7 ⟨by decide, by decide⟩
  have hat7 : cl7.slots[((1 : Int32)).toNatClampNeg]? = some (.int c1) := Has.at H7 hin7 rfl
  obtain ⟨cl8, Ar8, qa8, S8, Nl8, H8, G8⟩ := id (V_ch.other W5 (Ne.symm ne_ca_ch))
  have hin8 : ¬ ((1 : Int32) < 0 ∨ cl8.slots.size ≤ ((1 : Int32)).toNatClampNeg) := inb_of S8 ⟨by decide, by decide⟩
  obtain ⟨T8, h8, X8, e8, W8, st8⟩ := stI X6 hx hZ e6 Ar8 (j := (1 : Int32)) hin8 (g := (mkF m 29 #[.val (.ref r0), .val (.int (1 : Int32)), .val (.int p2), .val (.int (J5n2j1_1_S0 p2))] [(.int (c1 + (J5n2j1_1_S0 p2))), (.int (1 : Int32)), (.ref ch)])) rfl rfl (hb hby d5_29)
  have V8 : Arv Z h8 ch kch .int (2 : Int32) [(.int c0), (.int (c1 + (J5n2j1_1_S0 p2)))] (.int (0 : Int32)) := Arv.set Ar8 qa8 S8 Nl8 H8 G8 rfl W8 1 rfl (Nat.le_of_ble_eq_true rfl)
  have K8 : Keep h0 h8 [ca, ch, lc, ar, ge] := K5.wr W8 (Or.inl (List.mem_of_getElem? (i := 1) rfl))
  have N8 := Fr.snoc X8 N5 g_ch
  obtain ⟨T9, X9, e9, st9⟩ := getF X8 hx hZ hown (host := "") (Or.inl (hw _ (List.mem_of_getElem? (i := 15) rfl))) Via.refl e8 (Fld.other W8 (Fld.other W5 F_lastChanged (Or.inl ne_r0_ca)) (Or.inl ne_r0_ch)) (g := (mkF m 31 #[.val (.ref r0), .val (.int (1 : Int32)), .val (.int p2), .val (.int (J5n2j1_1_S0 p2))] [(.ref r0)])) rfl rfl (hb hby d5_31)
  obtain ⟨cl10, Ar10, qa10, S10, Nl10, H10, G10⟩ := id ((V_lc.other W5 (Ne.symm ne_ca_lc)).other W8 (Ne.symm ne_ch_lc))
  have hin10 : ¬ ((1 : Int32) < 0 ∨ cl10.slots.size ≤ ((1 : Int32)).toNatClampNeg) := inb_of S10 ⟨by decide, by decide⟩
  obtain ⟨T10, h10, X10, e10, W10, st10⟩ := stZ X9 hx hZ e9 Ar10 (j := (1 : Int32)) hin10 (g := (mkF m 36 #[.val (.ref r0), .val (.int (1 : Int32)), .val (.int p2), .val (.int (J5n2j1_1_S0 p2))] [(.int p2), (.int (1 : Int32)), (.ref lc)])) rfl rfl (hb hby d5_36)
  have V10 : Arv Z h10 lc klc .boolean (2 : Int32) [(.int l0), (.int (nar .boolean p2))] (.int (0 : Int32)) := Arv.set Ar10 qa10 S10 Nl10 H10 G10 (fits_nar_bool _) W10 1 rfl (Nat.le_of_ble_eq_true rfl)
  have K10 : Keep h0 h10 [ca, ch, lc, ar, ge] := K8.wr W10 (Or.inl (List.mem_of_getElem? (i := 2) rfl))
  have N10 := Fr.snoc X10 N8 g_lc
  obtain ⟨T11, X11, e11, st11⟩ := getF X10 hx hZ hown (host := "") (Or.inl (hw _ (List.mem_of_getElem? (i := 18) rfl))) Via.refl e10 (Fld.other W10 (Fld.other W8 (Fld.other W5 F_arithmetic (Or.inl ne_r0_ca)) (Or.inl ne_r0_ch)) (Or.inl ne_r0_lc)) (g := (mkF m 38 #[.val (.ref r0), .val (.int (1 : Int32)), .val (.int p2), .val (.int (J5n2j1_1_S0 p2))] [(.ref r0)])) rfl rfl (hb hby d5_38)
  obtain ⟨cl12, Ar12, qa12, S12, Nl12, H12, G12⟩ := id (((V_ar.other W5 (Ne.symm ne_ca_ar)).other W8 (Ne.symm ne_ch_ar)).other W10 (Ne.symm ne_lc_ar))
  have hin12 : ¬ ((1 : Int32) < 0 ∨ cl12.slots.size ≤ ((1 : Int32)).toNatClampNeg) := inb_of S12 ⟨by decide, by decide⟩
  have hat12 : cl12.slots[((1 : Int32)).toNatClampNeg]? = some (.long m1) := Has.at H12 hin12 rfl
  obtain ⟨T13, X13, e13, st13⟩ := getF X11 hx hZ hown (host := "") (Or.inl (hw _ (List.mem_of_getElem? (i := 10) rfl))) Via.refl e11 (Fld.other W10 (Fld.other W8 (Fld.other W5 F_count (Or.inl ne_r0_ca)) (Or.inl ne_r0_ch)) (Or.inl ne_r0_lc)) (g := (mkF m 47 #[.val (.ref r0), .val (.int (1 : Int32)), .val (.int p2), .val (.int (J5n2j1_1_S0 p2))] [(.ref r0), (.long ((J5n2j1_1_S0 p2).toInt64)), (.long m1), (.int (1 : Int32)), (.ref ar)])) rfl rfl (hb hby d5_47)
  obtain ⟨cl14, Ar14, qa14, S14, Nl14, H14, G14⟩ := id ((V5.other W8 ne_ca_ch).other W10 ne_ca_lc)
  have hin14 : ¬ ((1 : Int32) < 0 ∨ cl14.slots.size ≤ ((1 : Int32)).toNatClampNeg) := inb_of S14 ⟨by decide, by decide⟩
  have hat14 : cl14.slots[((1 : Int32)).toNatClampNeg]? = some (.int (v1 + (1 : Int32))) := Has.at H14 hin14 rfl
  obtain ⟨cl15, Ar15, qa15, S15, Nl15, H15, G15⟩ := id (((V_ar.other W5 (Ne.symm ne_ca_ar)).other W8 (Ne.symm ne_ch_ar)).other W10 (Ne.symm ne_lc_ar))
  have hin15 : ¬ ((1 : Int32) < 0 ∨ cl15.slots.size ≤ ((1 : Int32)).toNatClampNeg) := inb_of S15 ⟨by decide, by decide⟩
  obtain ⟨T15, h15, X15, e15, W15, st15⟩ := stJ X13 hx hZ e13 Ar15 (j := (1 : Int32)) hin15 (g := (mkF m 55 #[.val (.ref r0), .val (.int (1 : Int32)), .val (.int p2), .val (.int (J5n2j1_1_S0 p2))] [(.long (m1 + (((J5n2j1_1_S0 p2).toInt64) * ((v1 + (1 : Int32)).toInt64)))), (.int (1 : Int32)), (.ref ar)])) rfl rfl (hb hby d5_55)
  have V15 : Arv Z h15 ar kar .long (2 : Int32) [(.long m0), (.long (m1 + (((J5n2j1_1_S0 p2).toInt64) * ((v1 + (1 : Int32)).toInt64))))] (.long (0 : Int64)) := Arv.set Ar15 qa15 S15 Nl15 H15 G15 rfl W15 1 rfl (Nat.le_of_ble_eq_true rfl)
  have K15 : Keep h0 h15 [ca, ch, lc, ar, ge] := K10.wr W15 (Or.inl (List.mem_of_getElem? (i := 3) rfl))
  have N15 := Fr.snoc X15 N10 g_ar
  obtain ⟨T16, X16, e16, st16⟩ := getF X15 hx hZ hown (host := "") (Or.inl (hw _ (List.mem_of_getElem? (i := 21) rfl))) Via.refl e15 (Fld.other W15 (Fld.other W10 (Fld.other W8 (Fld.other W5 F_geometric (Or.inl ne_r0_ca)) (Or.inl ne_r0_ch)) (Or.inl ne_r0_lc)) (Or.inl ne_r0_ar)) (g := (mkF m 57 #[.val (.ref r0), .val (.int (1 : Int32)), .val (.int p2), .val (.int (J5n2j1_1_S0 p2))] [(.ref r0)])) rfl rfl (hb hby d5_57)
  obtain ⟨T17, X17, e17, st17⟩ := getF X16 hx hZ hown (host := "") (Or.inl (hw _ (List.mem_of_getElem? (i := 21) rfl))) Via.refl e16 (Fld.other W15 (Fld.other W10 (Fld.other W8 (Fld.other W5 F_geometric (Or.inl ne_r0_ca)) (Or.inl ne_r0_ch)) (Or.inl ne_r0_lc)) (Or.inl ne_r0_ar)) (g := (mkF m 62 #[.val (.ref r0), .val (.int (1 : Int32)), .val (.int p2), .val (.int (J5n2j1_1_S0 p2))] [(.ref r0), (.int (1 : Int32)), (.ref ge)])) rfl rfl (hb hby d5_62)
  obtain ⟨cl18, Ar18, qa18, S18, Nl18, H18, G18⟩ := id ((((V_ge.other W5 (Ne.symm ne_ca_ge)).other W8 (Ne.symm ne_ch_ge)).other W10 (Ne.symm ne_lc_ge)).other W15 (Ne.symm ne_ar_ge))
  have hin18 : ¬ ((1 : Int32) < 0 ∨ cl18.slots.size ≤ ((1 : Int32)).toNatClampNeg) := inb_of S18 ⟨by decide, by decide⟩
  have hat18 : cl18.slots[((1 : Int32)).toNatClampNeg]? = some (.double g1) := Has.at H18 hin18 rfl
  obtain ⟨cl19, Ar19, qa19, S19, Nl19, H19, G19⟩ := id ((((V_ge.other W5 (Ne.symm ne_ca_ge)).other W8 (Ne.symm ne_ch_ge)).other W10 (Ne.symm ne_lc_ge)).other W15 (Ne.symm ne_ar_ge))
  have hin19 : ¬ ((1 : Int32) < 0 ∨ cl19.slots.size ≤ ((1 : Int32)).toNatClampNeg) := inb_of S19 ⟨by decide, by decide⟩
  obtain ⟨T19, h19, X19, e19, W19, st19⟩ := own_stD X17 hx hZ e17 Ar19 (j := (1 : Int32)) hin19 (g := (mkF m 74 #[.val (.ref r0), .val (.int (1 : Int32)), .val (.int p2), .val (.int (J5n2j1_1_S0 p2))] [(.double (FP.ddiv (FP.dadd g1 (FP.i2d (J5n2j1_1_S0 p2))) (4611686018427387904 : UInt64))), (.int (1 : Int32)), (.ref ge)])) rfl rfl (hb hby d5_74)
  have V19 : Arv Z h19 ge kge .double (2 : Int32) [(.double g0), (.double (FP.ddiv (FP.dadd g1 (FP.i2d (J5n2j1_1_S0 p2))) (4611686018427387904 : UInt64)))] (.double (0 : UInt64)) := Arv.set Ar19 qa19 S19 Nl19 H19 G19 rfl W19 1 rfl (Nat.le_of_ble_eq_true rfl)
  have K19 : Keep h0 h19 [ca, ch, lc, ar, ge] := K15.wr W19 (Or.inl (List.mem_of_getElem? (i := 4) rfl))
  have N19 := Fr.snoc X19 N15 g_ge
  obtain ⟨fs, hr, hrun, hended, hW, hsame⟩ := X19.leave (v := none) (fun _ => rfl)
  refine ⟨_, _, pre2 _ ?_, hrun, hended, _, _, rfl, ?_, ⟨_, rfl⟩, hW, hsame.mono (by decide) (by decide)⟩
  · show Steps p.tables e below (Tj2.setTop (mkF m 9 #[.val (.ref r0), .val (.int (1 : Int32)), .val (.int p2), .unset] [(.int (J5n2j1_1_S0 p2))])) _
    refine XS.istoreN Xj2.here hx rfl (hb hby d5_9) rfl (l' := #[.val (.ref r0), .val (.int (1 : Int32)), .val (.int p2), .val (.int (J5n2j1_1_S0 p2))]) rfl ?_
    refine XS.aloadN Xj2.here hx rfl (hb hby d5_10) rfl rfl ?_
    refine st3 _ ?_
    refine XS.iloadN X3.here hx rfl (hb hby d5_14) rfl ?_
    refine Jvm.Free.XT.dup2 X3.here hx rfl (hb hby d5_15) rfl rfl rfl ?_
    refine X3.iaload hx (j := (1 : Int32)) (v := (.int v1)) (by rw [e3]; exact Ar4.1) (State.isArrayOf_alike hZ.alike Ar4.2.1) Ar4.2.2 hin4 hat4 (g := (mkF m 16 #[.val (.ref r0), .val (.int (1 : Int32)), .val (.int p2), .val (.int (J5n2j1_1_S0 p2))] [(.int (1 : Int32)), (.ref ca), (.int (1 : Int32)), (.ref ca)])) rfl rfl (hb hby d5_16) _ ?_
    refine XS.iconst X3.here hx rfl (hb hby d5_17) ?_
    refine XS.iadd X3.here hx rfl (hb hby d5_18) rfl ?_
    show Steps p.tables e below (T3.setTop (mkF m 19 #[.val (.ref r0), .val (.int (1 : Int32)), .val (.int p2), .val (.int (J5n2j1_1_S0 p2))] [(.int (v1 + (1 : Int32))), (.int (1 : Int32)), (.ref ca)])) _
    refine st5 _ ?_
    refine XS.aloadN X5.here hx rfl (hb hby d5_20) rfl rfl ?_
    refine st6 _ ?_
    refine XS.iloadN X6.here hx rfl (hb hby d5_24) rfl ?_
    refine Jvm.Free.XT.dup2 X6.here hx rfl (hb hby d5_25) rfl rfl rfl ?_
    refine X6.iaload hx (j := (1 : Int32)) (v := (.int c1)) (by rw [e6]; exact Ar7.1) (State.isArrayOf_alike hZ.alike Ar7.2.1) Ar7.2.2 hin7 hat7 (g := (mkF m 26 #[.val (.ref r0), .val (.int (1 : Int32)), .val (.int p2), .val (.int (J5n2j1_1_S0 p2))] [(.int (1 : Int32)), (.ref ch), (.int (1 : Int32)), (.ref ch)])) rfl rfl (hb hby d5_26) _ ?_
    refine XS.iloadN X6.here hx rfl (hb hby d5_27) rfl ?_
    refine XS.iadd X6.here hx rfl (hb hby d5_28) rfl ?_
    show Steps p.tables e below (T6.setTop (mkF m 29 #[.val (.ref r0), .val (.int (1 : Int32)), .val (.int p2), .val (.int (J5n2j1_1_S0 p2))] [(.int (c1 + (J5n2j1_1_S0 p2))), (.int (1 : Int32)), (.ref ch)])) _
    refine st8 _ ?_
    refine XS.aloadN X8.here hx rfl (hb hby d5_30) rfl rfl ?_
    refine st9 _ ?_
    refine XS.iloadN X9.here hx rfl (hb hby d5_34) rfl ?_
    refine XS.iloadN X9.here hx rfl (hb hby d5_35) rfl ?_
    refine st10 _ ?_
    refine XS.aloadN X10.here hx rfl (hb hby d5_37) rfl rfl ?_
    refine st11 _ ?_
    show Steps p.tables e below (T11.setTop (mkF m 41 #[.val (.ref r0), .val (.int (1 : Int32)), .val (.int p2), .val (.int (J5n2j1_1_S0 p2))] [(.ref ar)])) _
    refine XS.iloadN X11.here hx rfl (hb hby d5_41) rfl ?_
    refine Jvm.Free.XT.dup2 X11.here hx rfl (hb hby d5_42) rfl rfl rfl ?_
    refine X11.laload hx (j := (1 : Int32)) (v := (.long m1)) (by rw [e11]; exact Ar12.1) (State.isArrayOf_alike hZ.alike Ar12.2.1) Ar12.2.2 hin12 hat12 (g := (mkF m 43 #[.val (.ref r0), .val (.int (1 : Int32)), .val (.int p2), .val (.int (J5n2j1_1_S0 p2))] [(.int (1 : Int32)), (.ref ar), (.int (1 : Int32)), (.ref ar)])) rfl rfl (hb hby d5_43) _ ?_
    refine XS.iloadN X11.here hx rfl (hb hby d5_44) rfl ?_
    refine XS.i2l X11.here hx rfl (hb hby d5_45) rfl ?_
    refine XS.aloadN X11.here hx rfl (hb hby d5_46) rfl rfl ?_
    refine st13 _ ?_
    refine XS.iloadN X13.here hx rfl (hb hby d5_50) rfl ?_
    show Steps p.tables e below (T13.setTop (mkF m 51 #[.val (.ref r0), .val (.int (1 : Int32)), .val (.int p2), .val (.int (J5n2j1_1_S0 p2))] [(.int (1 : Int32)), (.ref ca), (.long ((J5n2j1_1_S0 p2).toInt64)), (.long m1), (.int (1 : Int32)), (.ref ar)])) _
    refine X13.iaload hx (j := (1 : Int32)) (v := (.int (v1 + (1 : Int32)))) (by rw [e13]; exact Ar14.1) (State.isArrayOf_alike hZ.alike Ar14.2.1) Ar14.2.2 hin14 hat14 (g := (mkF m 51 #[.val (.ref r0), .val (.int (1 : Int32)), .val (.int p2), .val (.int (J5n2j1_1_S0 p2))] [(.int (1 : Int32)), (.ref ca), (.long ((J5n2j1_1_S0 p2).toInt64)), (.long m1), (.int (1 : Int32)), (.ref ar)])) rfl rfl (hb hby d5_51) _ ?_
    refine XS.i2l X13.here hx rfl (hb hby d5_52) rfl ?_
    refine XS.lmul X13.here hx rfl (hb hby d5_53) rfl ?_
    refine XS.ladd X13.here hx rfl (hb hby d5_54) rfl ?_
    refine st15 _ ?_
    refine XS.aloadN X15.here hx rfl (hb hby d5_56) rfl rfl ?_
    refine st16 _ ?_
    refine XS.iloadN X16.here hx rfl (hb hby d5_60) rfl ?_
    show Steps p.tables e below (T16.setTop (mkF m 61 #[.val (.ref r0), .val (.int (1 : Int32)), .val (.int p2), .val (.int (J5n2j1_1_S0 p2))] [(.int (1 : Int32)), (.ref ge)])) _
    refine XS.aloadN X16.here hx rfl (hb hby d5_61) rfl rfl ?_
    refine st17 _ ?_
    refine XS.iloadN X17.here hx rfl (hb hby d5_65) rfl ?_
    refine X17.daload hx (j := (1 : Int32)) (v := (.double g1)) (by rw [e17]; exact Ar18.1) (State.isArrayOf_alike hZ.alike Ar18.2.1) Ar18.2.2 hin18 hat18 (g := (mkF m 66 #[.val (.ref r0), .val (.int (1 : Int32)), .val (.int p2), .val (.int (J5n2j1_1_S0 p2))] [(.int (1 : Int32)), (.ref ge), (.int (1 : Int32)), (.ref ge)])) rfl rfl (hb hby d5_66) _ ?_
    refine XS.iloadN X17.here hx rfl (hb hby d5_67) rfl ?_
    refine own_i2d X17.here hx rfl (hb hby d5_68) rfl ?_
    show Steps p.tables e below (T17.setTop (mkF m 69 #[.val (.ref r0), .val (.int (1 : Int32)), .val (.int p2), .val (.int (J5n2j1_1_S0 p2))] [(.double (FP.i2d (J5n2j1_1_S0 p2))), (.double g1), (.int (1 : Int32)), (.ref ge)])) _
    refine own_dadd X17.here hx (hb hby d5_69) (own_geo0 _ hg) ?_
    refine X17.ldc2DoubleC hx hown (mvT hZ (hw _ (List.mem_of_getElem? (i := 37) rfl))) (g := (mkF m 70 #[.val (.ref r0), .val (.int (1 : Int32)), .val (.int p2), .val (.int (J5n2j1_1_S0 p2))] [(.double (FP.dadd g1 (FP.i2d (J5n2j1_1_S0 p2)))), (.int (1 : Int32)), (.ref ge)])) rfl (hb hby d5_70) _ ?_
    show Steps p.tables e below (T17.setTop (mkF m 73 #[.val (.ref r0), .val (.int (1 : Int32)), .val (.int p2), .val (.int (J5n2j1_1_S0 p2))] [(.double (4611686018427387904 : UInt64)), (.double (FP.dadd g1 (FP.i2d (J5n2j1_1_S0 p2)))), (.int (1 : Int32)), (.ref ge)])) _
    refine own_ddiv X17.here hx (hb hby d5_73) (own_geo _ hg) ?_
    refine st19 _ ?_
    show Steps p.tables e below (T19.setTop (mkF m 75 #[.val (.ref r0), .val (.int (1 : Int32)), .val (.int p2), .val (.int (J5n2j1_1_S0 p2))] [])) _
    exact X19.returnOut hx Bd.returns (hb hby d5_75) hr
  · show Q5n2j1 Z r0 p2 ca ch lc ar ge kca kch klc kar kge v0 v1 c0 c1 l0 l1 m0 m1 g0 g1 h0 n0 _ T19.heap _
    rw [e19]
    exact ⟨rfl, N19, K19, ((((V5.other W8 ne_ca_ch).other W10 ne_ca_lc).other W15 ne_ca_ar).other W19 ne_ca_ge), (((V8.other W10 ne_ch_lc).other W15 ne_ch_ar).other W19 ne_ch_ge), ((V10.other W15 ne_lc_ar).other W19 ne_lc_ge), (V15.other W19 ne_ar_ge), V19⟩
theorem own_gg2_0 {kk : Int} {v0 v1 c0 c1 : Int32} {g0 g1 : UInt64} {t0 t1 : Int64} (h : Inv2 kk v0 v1 c0 c1 g0 g1 t0 t1) : Jvm.Free.Fl.NoNaN64 g0 := by
  obtain ⟨-, -, -, -, -, -, hg0, hg1⟩ := h
  exact hg0
theorem own_gg2_1 {kk : Int} {v0 v1 c0 c1 : Int32} {g0 g1 : UInt64} {t0 t1 : Int64} (h : Inv2 kk v0 v1 c0 c1 g0 g1 t0 t1) : Jvm.Free.Fl.NoNaN64 g1 := by
  obtain ⟨-, -, -, -, -, -, hg0, hg1⟩ := h
  exact hg1
def J5n3j0_1_S0 (p2 : Int32) : Int32 := (if p2 = (0 : Int32) then (0 : Int32) else (1 : Int32))
theorem ef_5n3j0 (r0 : Addr) (p2 : Int32) (ca ch lc ar ge : Addr) (kca kch klc kar kge : ClassId) (v0 v1 v2 : Int32) (c0 c1 c2 : Int32) (l0 l1 l2 : Int32) (m0 m1 m2 : Int64) (g0 g1 g2 : UInt64) (m : MethodId) : entryFrame m #[(.ref r0), (.int (0 : Int32)), (.int p2)] 4 = mkF m 0 #[.val (.ref r0), .val (.int (0 : Int32)), .val (.int p2), .unset] [] := by first | (simp [entryFrame, mkF, argsToLocals, Value.category]; done) | rfl
def Q5n3j0 (Z : State) (r0 : Addr) (p2 : Int32) (ca ch lc ar ge : Addr) (kca kch klc kar kge : ClassId) (v0 v1 v2 : Int32) (c0 c1 c2 : Int32) (l0 l1 l2 : Int32) (m0 m1 m2 : Int64) (g0 g1 g2 : UInt64) (h0 : Heap) (n0 : Nat) (v : Option Value) (h : Heap) (L : List Loc) : Prop := v = none ∧ Fr n0 L ∧ Keep h0 h [ca, ch, lc, ar, ge] ∧ Arv Z h ca kca .int (3 : Int32) [(.int (v0 + (1 : Int32))), (.int v1), (.int v2)] (.int (0 : Int32)) ∧ Arv Z h ch kch .int (3 : Int32) [(.int (c0 + (J5n3j0_1_S0 p2))), (.int c1), (.int c2)] (.int (0 : Int32)) ∧ Arv Z h lc klc .boolean (3 : Int32) [(.int (nar .boolean p2)), (.int l1), (.int l2)] (.int (0 : Int32)) ∧ Arv Z h ar kar .long (3 : Int32) [(.long (m0 + (((J5n3j0_1_S0 p2).toInt64) * ((v0 + (1 : Int32)).toInt64)))), (.long m1), (.long m2)] (.long (0 : Int64)) ∧ Arv Z h ge kge .double (3 : Int32) [(.double (FP.ddiv (FP.dadd g0 (FP.i2d (J5n3j0_1_S0 p2))) (4611686018427387904 : UInt64))), (.double g1), (.double g2)] (.double (0 : UInt64))
set_option maxRecDepth 65536 in
set_option maxHeartbeats 40000000 in
theorem rm5n3j0 (l : Launch) (Z : State) (a0 : Array Value) (hw : ∀ d ∈ tables_1, d.before a0 Z = true) (ws : List Jvm.Cond) (r0 : Addr) (p2 : Int32) (ca ch lc ar ge : Addr) (kca kch klc kar kge : ClassId) (v0 v1 v2 : Int32) (c0 c1 c2 : Int32) (l0 l1 l2 : Int32) (m0 m1 m2 : Int64) (g0 g1 g2 : UInt64) (h0 : Heap) (n0 : Nat) (Z0 : n0 ≤ h0.size) (F_count : Fld Z h0 r0 "com/example/wandel/wandel/replay/Observations" "count" "[I" (.ref ca)) (F_changes : Fld Z h0 r0 "com/example/wandel/wandel/replay/Observations" "changes" "[I" (.ref ch)) (F_lastChanged : Fld Z h0 r0 "com/example/wandel/wandel/replay/Observations" "lastChanged" "[Z" (.ref lc)) (F_arithmetic : Fld Z h0 r0 "com/example/wandel/wandel/replay/Observations" "arithmetic" "[J" (.ref ar)) (F_geometric : Fld Z h0 r0 "com/example/wandel/wandel/replay/Observations" "geometric" "[D" (.ref ge)) (V_ca : Arv Z h0 ca kca .int (3 : Int32) [(.int v0), (.int v1), (.int v2)] (.int (0 : Int32))) (V_ch : Arv Z h0 ch kch .int (3 : Int32) [(.int c0), (.int c1), (.int c2)] (.int (0 : Int32))) (V_lc : Arv Z h0 lc klc .boolean (3 : Int32) [(.int l0), (.int l1), (.int l2)] (.int (0 : Int32))) (V_ar : Arv Z h0 ar kar .long (3 : Int32) [(.long m0), (.long m1), (.long m2)] (.long (0 : Int64))) (V_ge : Arv Z h0 ge kge .double (3 : Int32) [(.double g0), (.double g1), (.double g2)] (.double (0 : UInt64))) (ne_r0_ca : r0 ≠ ca) (ne_r0_ch : r0 ≠ ch) (ne_r0_lc : r0 ≠ lc) (ne_r0_ar : r0 ≠ ar) (ne_r0_ge : r0 ≠ ge) (ne_ca_ch : ca ≠ ch) (ne_ca_lc : ca ≠ lc) (ne_ca_ar : ca ≠ ar) (ne_ca_ge : ca ≠ ge) (ne_ch_lc : ch ≠ lc) (ne_ch_ar : ch ≠ ar) (ne_ch_ge : ch ≠ ge) (ne_lc_ar : lc ≠ ar) (ne_lc_ge : lc ≠ ge) (ne_ar_ge : ar ≠ ge) (g_ca : n0 ≤ ca) (g_ch : n0 ≤ ch) (g_lc : n0 ≤ lc) (g_ar : n0 ≤ ar) (g_ge : n0 ≤ ge) (hg : Jvm.Free.Fl.NoNaN64 g0) :
    MetFree l (⟨"com/example/wandel/wandel/replay/Observations", "record", "(IZ)V"⟩ : MethodName) (head1 (Jvm.Cond.code (⟨"com/example/wandel/wandel/replay/Observations", "record", "(IZ)V"⟩ : MethodName) prog_61_method_2_code 4 none :: ws) ({ frames := 0, cells := 0, slots := 0, locals := 0 } : Room)) (fun a U => a = #[(.ref r0), (.int (0 : Int32)), (.int p2)] ∧ Z.Warmed39 U.vm ∧ U.heap = h0) (fun _ _ _ _ _ => True) (fun _ U o U' => ∃ v L, o = .returned v ∧ Q5n3j0 Z r0 p2 ca ch lc ar ge kca kch klc kar kge v0 v1 v2 c0 c1 c2 l0 l1 l2 m0 m1 m2 g0 g1 g2 h0 n0 v U'.heap L ∧ FrameEnd U o U' L ({ frames := 0, cells := 0, slots := 0, locals := 0 } : Room).cells ({ frames := 0, cells := 0, slots := 0, locals := 0 } : Room).slots) := by
  refine MetFree.of_bodySF (plainFor_of_name pn_com_example_wandel_wandel_replay_Observations) hisR ?_
  intro p e s m args below meth c s₁ Bd hml0 hP hK
  obtain ⟨rfl, hZ, hh⟩ := hP
  have hx := Bd.exec
  have hby := Bd.bytes
  have hml : c.maxLocals = 4 := hml0
  have hown : s.vm.findClass "com/example/wandel/wandel/replay/Observations" = some m.cls := findClass_of_methodNamed Bd.named
  have hnm := (name_of_methodNamed Bd.named Bd.method).1
  have X0 : Stand p l e ({ frames := 0, cells := 0, slots := 0, locals := 0 } : Room) s m #[(.ref r0), (.int (0 : Int32)), (.int p2)] below meth c s₁ [] 0 0 := Stand.of_body Bd
  have e0 : s₁.heap = h0 := by rw [← hh, Bd.state]; rfl
  have N0 := Fr.nil n0
  have pre0 : ∀ t, Steps p.tables e below (s₁.setTop (mkF m 0 #[.val (.ref r0), .val (.int (0 : Int32)), .val (.int p2), .unset] [])) t → Steps p.tables e below (s₁.setTop (entryFrame m #[(.ref r0), (.int (0 : Int32)), (.int p2)] 4)) t := fun t k => castTop (ef_5n3j0 r0 p2 ca ch lc ar ge kca kch klc kar kge v0 v1 v2 c0 c1 c2 l0 l1 l2 m0 m1 m2 g0 g1 g2 m) k
  have pre1 : ∀ t, Steps p.tables e below (s₁.setTop (mkF m 1 #[.val (.ref r0), .val (.int (0 : Int32)), .val (.int p2), .unset] [(.int p2)])) t → Steps p.tables e below (s₁.setTop (entryFrame m #[(.ref r0), (.int (0 : Int32)), (.int p2)] 4)) t := fun t kt => pre0 t (by
    show Steps p.tables e below (s₁.setTop (mkF m 0 #[.val (.ref r0), .val (.int (0 : Int32)), .val (.int p2), .unset] [])) _
    refine XS.iloadN X0.here hx rfl (hb hby d5_0) rfl ?_
    exact kt)
  obtain ⟨Tj2, lj2, Xj2, Nj2, ej2, pre2⟩ : ∃ (T' : State) (locs' : List Loc), Stand p l e ({ frames := 0, cells := 0, slots := 0, locals := 0 } : Room) s m #[(.ref r0), (.int (0 : Int32)), (.int p2)] below meth c T' locs' 0 0 ∧ Fr n0 locs' ∧ T'.heap = h0 ∧ ∀ t, Steps p.tables e below (T'.setTop (mkF m 9 #[.val (.ref r0), .val (.int (0 : Int32)), .val (.int p2), .unset] [(.int (J5n3j0_1_S0 p2))])) t → Steps p.tables e below (s₁.setTop (entryFrame m #[(.ref r0), (.int (0 : Int32)), (.int p2)] 4)) t := by
    by_cases hc1 : p2 = (0 : Int32)
    · refine ⟨s₁, _, X0, N0, e0, fun t kt => pre1 t ?_⟩
      show Steps p.tables e below (s₁.setTop (mkF m 1 #[.val (.ref r0), .val (.int (0 : Int32)), .val (.int p2), .unset] [(.int p2)])) _
      refine XS.ifYes X0.here hx rfl (pc0 := 1) (pc' := 8) rfl (hb hby d5_1) rfl ((if0 _ _).trans (teq hc1).1) (by decide) (by decide) ?_
      refine XS.iconst X0.here hx rfl (hb hby d5_8) ?_
      show Steps p.tables e below (s₁.setTop (mkF m 9 #[.val (.ref r0), .val (.int (0 : Int32)), .val (.int p2), .unset] [(.int (0 : Int32))])) _
      have qjS0 : (J5n3j0_1_S0 p2) = (0 : Int32) := by unfold J5n3j0_1_S0; simp only [if_true, if_false, if_pos hc1]
      rw [qjS0] at kt
      exact kt
    · refine ⟨s₁, _, X0, N0, e0, fun t kt => pre1 t ?_⟩
      show Steps p.tables e below (s₁.setTop (mkF m 1 #[.val (.ref r0), .val (.int (0 : Int32)), .val (.int p2), .unset] [(.int p2)])) _
      refine XS.ifNo X0.here hx rfl (hb hby d5_1) rfl ((if0 _ _).trans (feq hc1).1) ?_
      refine XS.iconst X0.here hx rfl (hb hby d5_4) ?_
      refine XS.goto X0.here hx rfl (pc0 := 5) (pc' := 9) rfl (hb hby d5_5) (by decide) (by decide) ?_
      show Steps p.tables e below (s₁.setTop (mkF m 9 #[.val (.ref r0), .val (.int (0 : Int32)), .val (.int p2), .unset] [(.int (1 : Int32))])) _
      have qjS0 : (J5n3j0_1_S0 p2) = (1 : Int32) := by unfold J5n3j0_1_S0; simp only [if_true, if_false, if_neg hc1]
      rw [qjS0] at kt
      exact kt
  obtain ⟨T3, X3, e3, st3⟩ := getF Xj2 hx hZ hown (host := "") (Or.inl (hw _ (List.mem_of_getElem? (i := 10) rfl))) Via.refl ej2 F_count (g := (mkF m 11 #[.val (.ref r0), .val (.int (0 : Int32)), .val (.int p2), .val (.int (J5n3j0_1_S0 p2))] [(.ref r0)])) rfl rfl (hb hby d5_11)
  obtain ⟨cl4, Ar4, qa4, S4, Nl4, H4, G4⟩ := id V_ca
  have hin4 : ¬ ((0 : Int32) < 0 ∨ cl4.slots.size ≤ ((0 : Int32)).toNatClampNeg) := inb_of S4 ⟨by decide, by decide⟩
  have hat4 : cl4.slots[((0 : Int32)).toNatClampNeg]? = some (.int v0) := Has.at H4 hin4 rfl
  obtain ⟨cl5, Ar5, qa5, S5, Nl5, H5, G5⟩ := id V_ca
  have hin5 : ¬ ((0 : Int32) < 0 ∨ cl5.slots.size ≤ ((0 : Int32)).toNatClampNeg) := inb_of S5 ⟨by decide, by decide⟩
  obtain ⟨T5, h5, X5, e5, W5, st5⟩ := stI X3 hx hZ e3 Ar5 (j := (0 : Int32)) hin5 (g := (mkF m 19 #[.val (.ref r0), .val (.int (0 : Int32)), .val (.int p2), .val (.int (J5n3j0_1_S0 p2))] [(.int (v0 + (1 : Int32))), (.int (0 : Int32)), (.ref ca)])) rfl rfl (hb hby d5_19)
  have V5 : Arv Z h5 ca kca .int (3 : Int32) [(.int (v0 + (1 : Int32))), (.int v1), (.int v2)] (.int (0 : Int32)) := Arv.set Ar5 qa5 S5 Nl5 H5 G5 rfl W5 0 rfl (Nat.le_of_ble_eq_true rfl)
  have K5 : Keep h0 h5 [ca, ch, lc, ar, ge] := (Keep.refl h0 [ca, ch, lc, ar, ge]).wr W5 (Or.inl (List.mem_of_getElem? (i := 0) rfl))
  have N5 := Fr.snoc X5 Nj2 g_ca
  obtain ⟨T6, X6, e6, st6⟩ := getF X5 hx hZ hown (host := "") (Or.inl (hw _ (List.mem_of_getElem? (i := 12) rfl))) Via.refl e5 (Fld.other W5 F_changes (Or.inl ne_r0_ca)) (g := (mkF m 21 #[.val (.ref r0), .val (.int (0 : Int32)), .val (.int p2), .val (.int (J5n3j0_1_S0 p2))] [(.ref r0)])) rfl rfl (hb hby d5_21)
  obtain ⟨cl7, Ar7, qa7, S7, Nl7, H7, G7⟩ := id (V_ch.other W5 (Ne.symm ne_ca_ch))
  have hin7 : ¬ ((0 : Int32) < 0 ∨ cl7.slots.size ≤ ((0 : Int32)).toNatClampNeg) := inb_of S7 ⟨by decide, by decide⟩
  have hat7 : cl7.slots[((0 : Int32)).toNatClampNeg]? = some (.int c0) := Has.at H7 hin7 rfl
  obtain ⟨cl8, Ar8, qa8, S8, Nl8, H8, G8⟩ := id (V_ch.other W5 (Ne.symm ne_ca_ch))
  have hin8 : ¬ ((0 : Int32) < 0 ∨ cl8.slots.size ≤ ((0 : Int32)).toNatClampNeg) := inb_of S8 ⟨by decide, by decide⟩
  obtain ⟨T8, h8, X8, e8, W8, st8⟩ := stI X6 hx hZ e6 Ar8 (j := (0 : Int32)) hin8 (g := (mkF m 29 #[.val (.ref r0), .val (.int (0 : Int32)), .val (.int p2), .val (.int (J5n3j0_1_S0 p2))] [(.int (c0 + (J5n3j0_1_S0 p2))), (.int (0 : Int32)), (.ref ch)])) rfl rfl (hb hby d5_29)
  have V8 : Arv Z h8 ch kch .int (3 : Int32) [(.int (c0 + (J5n3j0_1_S0 p2))), (.int c1), (.int c2)] (.int (0 : Int32)) := Arv.set Ar8 qa8 S8 Nl8 H8 G8 rfl W8 0 rfl (Nat.le_of_ble_eq_true rfl)
  have K8 : Keep h0 h8 [ca, ch, lc, ar, ge] := K5.wr W8 (Or.inl (List.mem_of_getElem? (i := 1) rfl))
  have N8 := Fr.snoc X8 N5 g_ch
  obtain ⟨T9, X9, e9, st9⟩ := getF X8 hx hZ hown (host := "") (Or.inl (hw _ (List.mem_of_getElem? (i := 15) rfl))) Via.refl e8 (Fld.other W8 (Fld.other W5 F_lastChanged (Or.inl ne_r0_ca)) (Or.inl ne_r0_ch)) (g := (mkF m 31 #[.val (.ref r0), .val (.int (0 : Int32)), .val (.int p2), .val (.int (J5n3j0_1_S0 p2))] [(.ref r0)])) rfl rfl (hb hby d5_31)
  obtain ⟨cl10, Ar10, qa10, S10, Nl10, H10, G10⟩ := id ((V_lc.other W5 (Ne.symm ne_ca_lc)).other W8 (Ne.symm ne_ch_lc))
  have hin10 : ¬ ((0 : Int32) < 0 ∨ cl10.slots.size ≤ ((0 : Int32)).toNatClampNeg) := inb_of S10 ⟨by decide, by decide⟩
  obtain ⟨T10, h10, X10, e10, W10, st10⟩ := stZ X9 hx hZ e9 Ar10 (j := (0 : Int32)) hin10 (g := (mkF m 36 #[.val (.ref r0), .val (.int (0 : Int32)), .val (.int p2), .val (.int (J5n3j0_1_S0 p2))] [(.int p2), (.int (0 : Int32)), (.ref lc)])) rfl rfl (hb hby d5_36)
  have V10 : Arv Z h10 lc klc .boolean (3 : Int32) [(.int (nar .boolean p2)), (.int l1), (.int l2)] (.int (0 : Int32)) := Arv.set Ar10 qa10 S10 Nl10 H10 G10 (fits_nar_bool _) W10 0 rfl (Nat.le_of_ble_eq_true rfl)
  have K10 : Keep h0 h10 [ca, ch, lc, ar, ge] := K8.wr W10 (Or.inl (List.mem_of_getElem? (i := 2) rfl))
  have N10 := Fr.snoc X10 N8 g_lc
  obtain ⟨T11, X11, e11, st11⟩ := getF X10 hx hZ hown (host := "") (Or.inl (hw _ (List.mem_of_getElem? (i := 18) rfl))) Via.refl e10 (Fld.other W10 (Fld.other W8 (Fld.other W5 F_arithmetic (Or.inl ne_r0_ca)) (Or.inl ne_r0_ch)) (Or.inl ne_r0_lc)) (g := (mkF m 38 #[.val (.ref r0), .val (.int (0 : Int32)), .val (.int p2), .val (.int (J5n3j0_1_S0 p2))] [(.ref r0)])) rfl rfl (hb hby d5_38)
  obtain ⟨cl12, Ar12, qa12, S12, Nl12, H12, G12⟩ := id (((V_ar.other W5 (Ne.symm ne_ca_ar)).other W8 (Ne.symm ne_ch_ar)).other W10 (Ne.symm ne_lc_ar))
  have hin12 : ¬ ((0 : Int32) < 0 ∨ cl12.slots.size ≤ ((0 : Int32)).toNatClampNeg) := inb_of S12 ⟨by decide, by decide⟩
  have hat12 : cl12.slots[((0 : Int32)).toNatClampNeg]? = some (.long m0) := Has.at H12 hin12 rfl
  obtain ⟨T13, X13, e13, st13⟩ := getF X11 hx hZ hown (host := "") (Or.inl (hw _ (List.mem_of_getElem? (i := 10) rfl))) Via.refl e11 (Fld.other W10 (Fld.other W8 (Fld.other W5 F_count (Or.inl ne_r0_ca)) (Or.inl ne_r0_ch)) (Or.inl ne_r0_lc)) (g := (mkF m 47 #[.val (.ref r0), .val (.int (0 : Int32)), .val (.int p2), .val (.int (J5n3j0_1_S0 p2))] [(.ref r0), (.long ((J5n3j0_1_S0 p2).toInt64)), (.long m0), (.int (0 : Int32)), (.ref ar)])) rfl rfl (hb hby d5_47)
  obtain ⟨cl14, Ar14, qa14, S14, Nl14, H14, G14⟩ := id ((V5.other W8 ne_ca_ch).other W10 ne_ca_lc)
  have hin14 : ¬ ((0 : Int32) < 0 ∨ cl14.slots.size ≤ ((0 : Int32)).toNatClampNeg) := inb_of S14 ⟨by decide, by decide⟩
  have hat14 : cl14.slots[((0 : Int32)).toNatClampNeg]? = some (.int (v0 + (1 : Int32))) := Has.at H14 hin14 rfl
  obtain ⟨cl15, Ar15, qa15, S15, Nl15, H15, G15⟩ := id (((V_ar.other W5 (Ne.symm ne_ca_ar)).other W8 (Ne.symm ne_ch_ar)).other W10 (Ne.symm ne_lc_ar))
  have hin15 : ¬ ((0 : Int32) < 0 ∨ cl15.slots.size ≤ ((0 : Int32)).toNatClampNeg) := inb_of S15 ⟨by decide, by decide⟩
  obtain ⟨T15, h15, X15, e15, W15, st15⟩ := stJ X13 hx hZ e13 Ar15 (j := (0 : Int32)) hin15 (g := (mkF m 55 #[.val (.ref r0), .val (.int (0 : Int32)), .val (.int p2), .val (.int (J5n3j0_1_S0 p2))] [(.long (m0 + (((J5n3j0_1_S0 p2).toInt64) * ((v0 + (1 : Int32)).toInt64)))), (.int (0 : Int32)), (.ref ar)])) rfl rfl (hb hby d5_55)
  have V15 : Arv Z h15 ar kar .long (3 : Int32) [(.long (m0 + (((J5n3j0_1_S0 p2).toInt64) * ((v0 + (1 : Int32)).toInt64)))), (.long m1), (.long m2)] (.long (0 : Int64)) := Arv.set Ar15 qa15 S15 Nl15 H15 G15 rfl W15 0 rfl (Nat.le_of_ble_eq_true rfl)
  have K15 : Keep h0 h15 [ca, ch, lc, ar, ge] := K10.wr W15 (Or.inl (List.mem_of_getElem? (i := 3) rfl))
  have N15 := Fr.snoc X15 N10 g_ar
  obtain ⟨T16, X16, e16, st16⟩ := getF X15 hx hZ hown (host := "") (Or.inl (hw _ (List.mem_of_getElem? (i := 21) rfl))) Via.refl e15 (Fld.other W15 (Fld.other W10 (Fld.other W8 (Fld.other W5 F_geometric (Or.inl ne_r0_ca)) (Or.inl ne_r0_ch)) (Or.inl ne_r0_lc)) (Or.inl ne_r0_ar)) (g := (mkF m 57 #[.val (.ref r0), .val (.int (0 : Int32)), .val (.int p2), .val (.int (J5n3j0_1_S0 p2))] [(.ref r0)])) rfl rfl (hb hby d5_57)
  obtain ⟨T17, X17, e17, st17⟩ := getF X16 hx hZ hown (host := "") (Or.inl (hw _ (List.mem_of_getElem? (i := 21) rfl))) Via.refl e16 (Fld.other W15 (Fld.other W10 (Fld.other W8 (Fld.other W5 F_geometric (Or.inl ne_r0_ca)) (Or.inl ne_r0_ch)) (Or.inl ne_r0_lc)) (Or.inl ne_r0_ar)) (g := (mkF m 62 #[.val (.ref r0), .val (.int (0 : Int32)), .val (.int p2), .val (.int (J5n3j0_1_S0 p2))] [(.ref r0), (.int (0 : Int32)), (.ref ge)])) rfl rfl (hb hby d5_62)
  obtain ⟨cl18, Ar18, qa18, S18, Nl18, H18, G18⟩ := id ((((V_ge.other W5 (Ne.symm ne_ca_ge)).other W8 (Ne.symm ne_ch_ge)).other W10 (Ne.symm ne_lc_ge)).other W15 (Ne.symm ne_ar_ge))
  have hin18 : ¬ ((0 : Int32) < 0 ∨ cl18.slots.size ≤ ((0 : Int32)).toNatClampNeg) := inb_of S18 ⟨by decide, by decide⟩
  have hat18 : cl18.slots[((0 : Int32)).toNatClampNeg]? = some (.double g0) := Has.at H18 hin18 rfl
  obtain ⟨cl19, Ar19, qa19, S19, Nl19, H19, G19⟩ := id ((((V_ge.other W5 (Ne.symm ne_ca_ge)).other W8 (Ne.symm ne_ch_ge)).other W10 (Ne.symm ne_lc_ge)).other W15 (Ne.symm ne_ar_ge))
  have hin19 : ¬ ((0 : Int32) < 0 ∨ cl19.slots.size ≤ ((0 : Int32)).toNatClampNeg) := inb_of S19 ⟨by decide, by decide⟩
  obtain ⟨T19, h19, X19, e19, W19, st19⟩ := own_stD X17 hx hZ e17 Ar19 (j := (0 : Int32)) hin19 (g := (mkF m 74 #[.val (.ref r0), .val (.int (0 : Int32)), .val (.int p2), .val (.int (J5n3j0_1_S0 p2))] [(.double (FP.ddiv (FP.dadd g0 (FP.i2d (J5n3j0_1_S0 p2))) (4611686018427387904 : UInt64))), (.int (0 : Int32)), (.ref ge)])) rfl rfl (hb hby d5_74)
  have V19 : Arv Z h19 ge kge .double (3 : Int32) [(.double (FP.ddiv (FP.dadd g0 (FP.i2d (J5n3j0_1_S0 p2))) (4611686018427387904 : UInt64))), (.double g1), (.double g2)] (.double (0 : UInt64)) := Arv.set Ar19 qa19 S19 Nl19 H19 G19 rfl W19 0 rfl (Nat.le_of_ble_eq_true rfl)
  have K19 : Keep h0 h19 [ca, ch, lc, ar, ge] := K15.wr W19 (Or.inl (List.mem_of_getElem? (i := 4) rfl))
  have N19 := Fr.snoc X19 N15 g_ge
  obtain ⟨fs, hr, hrun, hended, hW, hsame⟩ := X19.leave (v := none) (fun _ => rfl)
  refine ⟨_, _, pre2 _ ?_, hrun, hended, _, _, rfl, ?_, ⟨_, rfl⟩, hW, hsame.mono (by decide) (by decide)⟩
  · show Steps p.tables e below (Tj2.setTop (mkF m 9 #[.val (.ref r0), .val (.int (0 : Int32)), .val (.int p2), .unset] [(.int (J5n3j0_1_S0 p2))])) _
    refine XS.istoreN Xj2.here hx rfl (hb hby d5_9) rfl (l' := #[.val (.ref r0), .val (.int (0 : Int32)), .val (.int p2), .val (.int (J5n3j0_1_S0 p2))]) rfl ?_
    refine XS.aloadN Xj2.here hx rfl (hb hby d5_10) rfl rfl ?_
    refine st3 _ ?_
    refine XS.iloadN X3.here hx rfl (hb hby d5_14) rfl ?_
    refine Jvm.Free.XT.dup2 X3.here hx rfl (hb hby d5_15) rfl rfl rfl ?_
    refine X3.iaload hx (j := (0 : Int32)) (v := (.int v0)) (by rw [e3]; exact Ar4.1) (State.isArrayOf_alike hZ.alike Ar4.2.1) Ar4.2.2 hin4 hat4 (g := (mkF m 16 #[.val (.ref r0), .val (.int (0 : Int32)), .val (.int p2), .val (.int (J5n3j0_1_S0 p2))] [(.int (0 : Int32)), (.ref ca), (.int (0 : Int32)), (.ref ca)])) rfl rfl (hb hby d5_16) _ ?_
    refine XS.iconst X3.here hx rfl (hb hby d5_17) ?_
    refine XS.iadd X3.here hx rfl (hb hby d5_18) rfl ?_
    show Steps p.tables e below (T3.setTop (mkF m 19 #[.val (.ref r0), .val (.int (0 : Int32)), .val (.int p2), .val (.int (J5n3j0_1_S0 p2))] [(.int (v0 + (1 : Int32))), (.int (0 : Int32)), (.ref ca)])) _
    refine st5 _ ?_
    refine XS.aloadN X5.here hx rfl (hb hby d5_20) rfl rfl ?_
    refine st6 _ ?_
    refine XS.iloadN X6.here hx rfl (hb hby d5_24) rfl ?_
    refine Jvm.Free.XT.dup2 X6.here hx rfl (hb hby d5_25) rfl rfl rfl ?_
    refine X6.iaload hx (j := (0 : Int32)) (v := (.int c0)) (by rw [e6]; exact Ar7.1) (State.isArrayOf_alike hZ.alike Ar7.2.1) Ar7.2.2 hin7 hat7 (g := (mkF m 26 #[.val (.ref r0), .val (.int (0 : Int32)), .val (.int p2), .val (.int (J5n3j0_1_S0 p2))] [(.int (0 : Int32)), (.ref ch), (.int (0 : Int32)), (.ref ch)])) rfl rfl (hb hby d5_26) _ ?_
    refine XS.iloadN X6.here hx rfl (hb hby d5_27) rfl ?_
    refine XS.iadd X6.here hx rfl (hb hby d5_28) rfl ?_
    show Steps p.tables e below (T6.setTop (mkF m 29 #[.val (.ref r0), .val (.int (0 : Int32)), .val (.int p2), .val (.int (J5n3j0_1_S0 p2))] [(.int (c0 + (J5n3j0_1_S0 p2))), (.int (0 : Int32)), (.ref ch)])) _
    refine st8 _ ?_
    refine XS.aloadN X8.here hx rfl (hb hby d5_30) rfl rfl ?_
    refine st9 _ ?_
    refine XS.iloadN X9.here hx rfl (hb hby d5_34) rfl ?_
    refine XS.iloadN X9.here hx rfl (hb hby d5_35) rfl ?_
    refine st10 _ ?_
    refine XS.aloadN X10.here hx rfl (hb hby d5_37) rfl rfl ?_
    refine st11 _ ?_
    show Steps p.tables e below (T11.setTop (mkF m 41 #[.val (.ref r0), .val (.int (0 : Int32)), .val (.int p2), .val (.int (J5n3j0_1_S0 p2))] [(.ref ar)])) _
    refine XS.iloadN X11.here hx rfl (hb hby d5_41) rfl ?_
    refine Jvm.Free.XT.dup2 X11.here hx rfl (hb hby d5_42) rfl rfl rfl ?_
    refine X11.laload hx (j := (0 : Int32)) (v := (.long m0)) (by rw [e11]; exact Ar12.1) (State.isArrayOf_alike hZ.alike Ar12.2.1) Ar12.2.2 hin12 hat12 (g := (mkF m 43 #[.val (.ref r0), .val (.int (0 : Int32)), .val (.int p2), .val (.int (J5n3j0_1_S0 p2))] [(.int (0 : Int32)), (.ref ar), (.int (0 : Int32)), (.ref ar)])) rfl rfl (hb hby d5_43) _ ?_
    refine XS.iloadN X11.here hx rfl (hb hby d5_44) rfl ?_
    refine XS.i2l X11.here hx rfl (hb hby d5_45) rfl ?_
    refine XS.aloadN X11.here hx rfl (hb hby d5_46) rfl rfl ?_
    refine st13 _ ?_
    refine XS.iloadN X13.here hx rfl (hb hby d5_50) rfl ?_
    show Steps p.tables e below (T13.setTop (mkF m 51 #[.val (.ref r0), .val (.int (0 : Int32)), .val (.int p2), .val (.int (J5n3j0_1_S0 p2))] [(.int (0 : Int32)), (.ref ca), (.long ((J5n3j0_1_S0 p2).toInt64)), (.long m0), (.int (0 : Int32)), (.ref ar)])) _
    refine X13.iaload hx (j := (0 : Int32)) (v := (.int (v0 + (1 : Int32)))) (by rw [e13]; exact Ar14.1) (State.isArrayOf_alike hZ.alike Ar14.2.1) Ar14.2.2 hin14 hat14 (g := (mkF m 51 #[.val (.ref r0), .val (.int (0 : Int32)), .val (.int p2), .val (.int (J5n3j0_1_S0 p2))] [(.int (0 : Int32)), (.ref ca), (.long ((J5n3j0_1_S0 p2).toInt64)), (.long m0), (.int (0 : Int32)), (.ref ar)])) rfl rfl (hb hby d5_51) _ ?_
    refine XS.i2l X13.here hx rfl (hb hby d5_52) rfl ?_
    refine XS.lmul X13.here hx rfl (hb hby d5_53) rfl ?_
    refine XS.ladd X13.here hx rfl (hb hby d5_54) rfl ?_
    refine st15 _ ?_
    refine XS.aloadN X15.here hx rfl (hb hby d5_56) rfl rfl ?_
    refine st16 _ ?_
    refine XS.iloadN X16.here hx rfl (hb hby d5_60) rfl ?_
    show Steps p.tables e below (T16.setTop (mkF m 61 #[.val (.ref r0), .val (.int (0 : Int32)), .val (.int p2), .val (.int (J5n3j0_1_S0 p2))] [(.int (0 : Int32)), (.ref ge)])) _
    refine XS.aloadN X16.here hx rfl (hb hby d5_61) rfl rfl ?_
    refine st17 _ ?_
    refine XS.iloadN X17.here hx rfl (hb hby d5_65) rfl ?_
    refine X17.daload hx (j := (0 : Int32)) (v := (.double g0)) (by rw [e17]; exact Ar18.1) (State.isArrayOf_alike hZ.alike Ar18.2.1) Ar18.2.2 hin18 hat18 (g := (mkF m 66 #[.val (.ref r0), .val (.int (0 : Int32)), .val (.int p2), .val (.int (J5n3j0_1_S0 p2))] [(.int (0 : Int32)), (.ref ge), (.int (0 : Int32)), (.ref ge)])) rfl rfl (hb hby d5_66) _ ?_
    refine XS.iloadN X17.here hx rfl (hb hby d5_67) rfl ?_
    refine own_i2d X17.here hx rfl (hb hby d5_68) rfl ?_
    show Steps p.tables e below (T17.setTop (mkF m 69 #[.val (.ref r0), .val (.int (0 : Int32)), .val (.int p2), .val (.int (J5n3j0_1_S0 p2))] [(.double (FP.i2d (J5n3j0_1_S0 p2))), (.double g0), (.int (0 : Int32)), (.ref ge)])) _
    refine own_dadd X17.here hx (hb hby d5_69) (own_geo0 _ hg) ?_
    refine X17.ldc2DoubleC hx hown (mvT hZ (hw _ (List.mem_of_getElem? (i := 37) rfl))) (g := (mkF m 70 #[.val (.ref r0), .val (.int (0 : Int32)), .val (.int p2), .val (.int (J5n3j0_1_S0 p2))] [(.double (FP.dadd g0 (FP.i2d (J5n3j0_1_S0 p2)))), (.int (0 : Int32)), (.ref ge)])) rfl (hb hby d5_70) _ ?_
    show Steps p.tables e below (T17.setTop (mkF m 73 #[.val (.ref r0), .val (.int (0 : Int32)), .val (.int p2), .val (.int (J5n3j0_1_S0 p2))] [(.double (4611686018427387904 : UInt64)), (.double (FP.dadd g0 (FP.i2d (J5n3j0_1_S0 p2)))), (.int (0 : Int32)), (.ref ge)])) _
    refine own_ddiv X17.here hx (hb hby d5_73) (own_geo _ hg) ?_
    refine st19 _ ?_
    show Steps p.tables e below (T19.setTop (mkF m 75 #[.val (.ref r0), .val (.int (0 : Int32)), .val (.int p2), .val (.int (J5n3j0_1_S0 p2))] [])) _
    exact X19.returnOut hx Bd.returns (hb hby d5_75) hr
  · show Q5n3j0 Z r0 p2 ca ch lc ar ge kca kch klc kar kge v0 v1 v2 c0 c1 c2 l0 l1 l2 m0 m1 m2 g0 g1 g2 h0 n0 _ T19.heap _
    rw [e19]
    exact ⟨rfl, N19, K19, ((((V5.other W8 ne_ca_ch).other W10 ne_ca_lc).other W15 ne_ca_ar).other W19 ne_ca_ge), (((V8.other W10 ne_ch_lc).other W15 ne_ch_ar).other W19 ne_ch_ge), ((V10.other W15 ne_lc_ar).other W19 ne_lc_ge), (V15.other W19 ne_ar_ge), V19⟩
def J5n3j1_1_S0 (p2 : Int32) : Int32 := (if p2 = (0 : Int32) then (0 : Int32) else (1 : Int32))
theorem ef_5n3j1 (r0 : Addr) (p2 : Int32) (ca ch lc ar ge : Addr) (kca kch klc kar kge : ClassId) (v0 v1 v2 : Int32) (c0 c1 c2 : Int32) (l0 l1 l2 : Int32) (m0 m1 m2 : Int64) (g0 g1 g2 : UInt64) (m : MethodId) : entryFrame m #[(.ref r0), (.int (1 : Int32)), (.int p2)] 4 = mkF m 0 #[.val (.ref r0), .val (.int (1 : Int32)), .val (.int p2), .unset] [] := by first | (simp [entryFrame, mkF, argsToLocals, Value.category]; done) | rfl
def Q5n3j1 (Z : State) (r0 : Addr) (p2 : Int32) (ca ch lc ar ge : Addr) (kca kch klc kar kge : ClassId) (v0 v1 v2 : Int32) (c0 c1 c2 : Int32) (l0 l1 l2 : Int32) (m0 m1 m2 : Int64) (g0 g1 g2 : UInt64) (h0 : Heap) (n0 : Nat) (v : Option Value) (h : Heap) (L : List Loc) : Prop := v = none ∧ Fr n0 L ∧ Keep h0 h [ca, ch, lc, ar, ge] ∧ Arv Z h ca kca .int (3 : Int32) [(.int v0), (.int (v1 + (1 : Int32))), (.int v2)] (.int (0 : Int32)) ∧ Arv Z h ch kch .int (3 : Int32) [(.int c0), (.int (c1 + (J5n3j1_1_S0 p2))), (.int c2)] (.int (0 : Int32)) ∧ Arv Z h lc klc .boolean (3 : Int32) [(.int l0), (.int (nar .boolean p2)), (.int l2)] (.int (0 : Int32)) ∧ Arv Z h ar kar .long (3 : Int32) [(.long m0), (.long (m1 + (((J5n3j1_1_S0 p2).toInt64) * ((v1 + (1 : Int32)).toInt64)))), (.long m2)] (.long (0 : Int64)) ∧ Arv Z h ge kge .double (3 : Int32) [(.double g0), (.double (FP.ddiv (FP.dadd g1 (FP.i2d (J5n3j1_1_S0 p2))) (4611686018427387904 : UInt64))), (.double g2)] (.double (0 : UInt64))
set_option maxRecDepth 65536 in
set_option maxHeartbeats 40000000 in
theorem rm5n3j1 (l : Launch) (Z : State) (a0 : Array Value) (hw : ∀ d ∈ tables_1, d.before a0 Z = true) (ws : List Jvm.Cond) (r0 : Addr) (p2 : Int32) (ca ch lc ar ge : Addr) (kca kch klc kar kge : ClassId) (v0 v1 v2 : Int32) (c0 c1 c2 : Int32) (l0 l1 l2 : Int32) (m0 m1 m2 : Int64) (g0 g1 g2 : UInt64) (h0 : Heap) (n0 : Nat) (Z0 : n0 ≤ h0.size) (F_count : Fld Z h0 r0 "com/example/wandel/wandel/replay/Observations" "count" "[I" (.ref ca)) (F_changes : Fld Z h0 r0 "com/example/wandel/wandel/replay/Observations" "changes" "[I" (.ref ch)) (F_lastChanged : Fld Z h0 r0 "com/example/wandel/wandel/replay/Observations" "lastChanged" "[Z" (.ref lc)) (F_arithmetic : Fld Z h0 r0 "com/example/wandel/wandel/replay/Observations" "arithmetic" "[J" (.ref ar)) (F_geometric : Fld Z h0 r0 "com/example/wandel/wandel/replay/Observations" "geometric" "[D" (.ref ge)) (V_ca : Arv Z h0 ca kca .int (3 : Int32) [(.int v0), (.int v1), (.int v2)] (.int (0 : Int32))) (V_ch : Arv Z h0 ch kch .int (3 : Int32) [(.int c0), (.int c1), (.int c2)] (.int (0 : Int32))) (V_lc : Arv Z h0 lc klc .boolean (3 : Int32) [(.int l0), (.int l1), (.int l2)] (.int (0 : Int32))) (V_ar : Arv Z h0 ar kar .long (3 : Int32) [(.long m0), (.long m1), (.long m2)] (.long (0 : Int64))) (V_ge : Arv Z h0 ge kge .double (3 : Int32) [(.double g0), (.double g1), (.double g2)] (.double (0 : UInt64))) (ne_r0_ca : r0 ≠ ca) (ne_r0_ch : r0 ≠ ch) (ne_r0_lc : r0 ≠ lc) (ne_r0_ar : r0 ≠ ar) (ne_r0_ge : r0 ≠ ge) (ne_ca_ch : ca ≠ ch) (ne_ca_lc : ca ≠ lc) (ne_ca_ar : ca ≠ ar) (ne_ca_ge : ca ≠ ge) (ne_ch_lc : ch ≠ lc) (ne_ch_ar : ch ≠ ar) (ne_ch_ge : ch ≠ ge) (ne_lc_ar : lc ≠ ar) (ne_lc_ge : lc ≠ ge) (ne_ar_ge : ar ≠ ge) (g_ca : n0 ≤ ca) (g_ch : n0 ≤ ch) (g_lc : n0 ≤ lc) (g_ar : n0 ≤ ar) (g_ge : n0 ≤ ge) (hg : Jvm.Free.Fl.NoNaN64 g1) :
    MetFree l (⟨"com/example/wandel/wandel/replay/Observations", "record", "(IZ)V"⟩ : MethodName) (head1 (Jvm.Cond.code (⟨"com/example/wandel/wandel/replay/Observations", "record", "(IZ)V"⟩ : MethodName) prog_61_method_2_code 4 none :: ws) ({ frames := 0, cells := 0, slots := 0, locals := 0 } : Room)) (fun a U => a = #[(.ref r0), (.int (1 : Int32)), (.int p2)] ∧ Z.Warmed39 U.vm ∧ U.heap = h0) (fun _ _ _ _ _ => True) (fun _ U o U' => ∃ v L, o = .returned v ∧ Q5n3j1 Z r0 p2 ca ch lc ar ge kca kch klc kar kge v0 v1 v2 c0 c1 c2 l0 l1 l2 m0 m1 m2 g0 g1 g2 h0 n0 v U'.heap L ∧ FrameEnd U o U' L ({ frames := 0, cells := 0, slots := 0, locals := 0 } : Room).cells ({ frames := 0, cells := 0, slots := 0, locals := 0 } : Room).slots) := by
  refine MetFree.of_bodySF (plainFor_of_name pn_com_example_wandel_wandel_replay_Observations) hisR ?_
  intro p e s m args below meth c s₁ Bd hml0 hP hK
  obtain ⟨rfl, hZ, hh⟩ := hP
  have hx := Bd.exec
  have hby := Bd.bytes
  have hml : c.maxLocals = 4 := hml0
  have hown : s.vm.findClass "com/example/wandel/wandel/replay/Observations" = some m.cls := findClass_of_methodNamed Bd.named
  have hnm := (name_of_methodNamed Bd.named Bd.method).1
  have X0 : Stand p l e ({ frames := 0, cells := 0, slots := 0, locals := 0 } : Room) s m #[(.ref r0), (.int (1 : Int32)), (.int p2)] below meth c s₁ [] 0 0 := Stand.of_body Bd
  have e0 : s₁.heap = h0 := by rw [← hh, Bd.state]; rfl
  have N0 := Fr.nil n0
  have pre0 : ∀ t, Steps p.tables e below (s₁.setTop (mkF m 0 #[.val (.ref r0), .val (.int (1 : Int32)), .val (.int p2), .unset] [])) t → Steps p.tables e below (s₁.setTop (entryFrame m #[(.ref r0), (.int (1 : Int32)), (.int p2)] 4)) t := fun t k => castTop (ef_5n3j1 r0 p2 ca ch lc ar ge kca kch klc kar kge v0 v1 v2 c0 c1 c2 l0 l1 l2 m0 m1 m2 g0 g1 g2 m) k
  have pre1 : ∀ t, Steps p.tables e below (s₁.setTop (mkF m 1 #[.val (.ref r0), .val (.int (1 : Int32)), .val (.int p2), .unset] [(.int p2)])) t → Steps p.tables e below (s₁.setTop (entryFrame m #[(.ref r0), (.int (1 : Int32)), (.int p2)] 4)) t := fun t kt => pre0 t (by
    show Steps p.tables e below (s₁.setTop (mkF m 0 #[.val (.ref r0), .val (.int (1 : Int32)), .val (.int p2), .unset] [])) _
    refine XS.iloadN X0.here hx rfl (hb hby d5_0) rfl ?_
    exact kt)
  obtain ⟨Tj2, lj2, Xj2, Nj2, ej2, pre2⟩ : ∃ (T' : State) (locs' : List Loc), Stand p l e ({ frames := 0, cells := 0, slots := 0, locals := 0 } : Room) s m #[(.ref r0), (.int (1 : Int32)), (.int p2)] below meth c T' locs' 0 0 ∧ Fr n0 locs' ∧ T'.heap = h0 ∧ ∀ t, Steps p.tables e below (T'.setTop (mkF m 9 #[.val (.ref r0), .val (.int (1 : Int32)), .val (.int p2), .unset] [(.int (J5n3j1_1_S0 p2))])) t → Steps p.tables e below (s₁.setTop (entryFrame m #[(.ref r0), (.int (1 : Int32)), (.int p2)] 4)) t := by
    by_cases hc1 : p2 = (0 : Int32)
    · refine ⟨s₁, _, X0, N0, e0, fun t kt => pre1 t ?_⟩
      show Steps p.tables e below (s₁.setTop (mkF m 1 #[.val (.ref r0), .val (.int (1 : Int32)), .val (.int p2), .unset] [(.int p2)])) _
      refine XS.ifYes X0.here hx rfl (pc0 := 1) (pc' := 8) rfl (hb hby d5_1) rfl ((if0 _ _).trans (teq hc1).1) (by decide) (by decide) ?_
      refine XS.iconst X0.here hx rfl (hb hby d5_8) ?_
      show Steps p.tables e below (s₁.setTop (mkF m 9 #[.val (.ref r0), .val (.int (1 : Int32)), .val (.int p2), .unset] [(.int (0 : Int32))])) _
      have qjS0 : (J5n3j1_1_S0 p2) = (0 : Int32) := by unfold J5n3j1_1_S0; simp only [if_true, if_false, if_pos hc1]
      rw [qjS0] at kt
      exact kt
    · refine ⟨s₁, _, X0, N0, e0, fun t kt => pre1 t ?_⟩
      show Steps p.tables e below (s₁.setTop (mkF m 1 #[.val (.ref r0), .val (.int (1 : Int32)), .val (.int p2), .unset] [(.int p2)])) _
      refine XS.ifNo X0.here hx rfl (hb hby d5_1) rfl ((if0 _ _).trans (feq hc1).1) ?_
      refine XS.iconst X0.here hx rfl (hb hby d5_4) ?_
      refine XS.goto X0.here hx rfl (pc0 := 5) (pc' := 9) rfl (hb hby d5_5) (by decide) (by decide) ?_
      show Steps p.tables e below (s₁.setTop (mkF m 9 #[.val (.ref r0), .val (.int (1 : Int32)), .val (.int p2), .unset] [(.int (1 : Int32))])) _
      have qjS0 : (J5n3j1_1_S0 p2) = (1 : Int32) := by unfold J5n3j1_1_S0; simp only [if_true, if_false, if_neg hc1]
      rw [qjS0] at kt
      exact kt
  obtain ⟨T3, X3, e3, st3⟩ := getF Xj2 hx hZ hown (host := "") (Or.inl (hw _ (List.mem_of_getElem? (i := 10) rfl))) Via.refl ej2 F_count (g := (mkF m 11 #[.val (.ref r0), .val (.int (1 : Int32)), .val (.int p2), .val (.int (J5n3j1_1_S0 p2))] [(.ref r0)])) rfl rfl (hb hby d5_11)
  obtain ⟨cl4, Ar4, qa4, S4, Nl4, H4, G4⟩ := id V_ca
  have hin4 : ¬ ((1 : Int32) < 0 ∨ cl4.slots.size ≤ ((1 : Int32)).toNatClampNeg) := inb_of S4 ⟨by decide, by decide⟩
  have hat4 : cl4.slots[((1 : Int32)).toNatClampNeg]? = some (.int v1) := Has.at H4 hin4 rfl
  obtain ⟨cl5, Ar5, qa5, S5, Nl5, H5, G5⟩ := id V_ca
  have hin5 : ¬ ((1 : Int32) < 0 ∨ cl5.slots.size ≤ ((1 : Int32)).toNatClampNeg) := inb_of S5 ⟨by decide, by decide⟩
  obtain ⟨T5, h5, X5, e5, W5, st5⟩ := stI X3 hx hZ e3 Ar5 (j := (1 : Int32)) hin5 (g := (mkF m 19 #[.val (.ref r0), .val (.int (1 : Int32)), .val (.int p2), .val (.int (J5n3j1_1_S0 p2))] [(.int (v1 + (1 : Int32))), (.int (1 : Int32)), (.ref ca)])) rfl rfl (hb hby d5_19)
  have V5 : Arv Z h5 ca kca .int (3 : Int32) [(.int v0), (.int (v1 + (1 : Int32))), (.int v2)] (.int (0 : Int32)) := Arv.set Ar5 qa5 S5 Nl5 H5 G5 rfl W5 1 rfl (Nat.le_of_ble_eq_true rfl)
  have K5 : Keep h0 h5 [ca, ch, lc, ar, ge] := (Keep.refl h0 [ca, ch, lc, ar, ge]).wr W5 (Or.inl (List.mem_of_getElem? (i := 0) rfl))
  have N5 := Fr.snoc X5 Nj2 g_ca
  obtain ⟨T6, X6, e6, st6⟩ := getF X5 hx hZ hown (host := "") (Or.inl (hw _ (List.mem_of_getElem? (i := 12) rfl))) Via.refl e5 (Fld.other W5 F_changes (Or.inl ne_r0_ca)) (g := (mkF m 21 #[.val (.ref r0), .val (.int (1 : Int32)), .val (.int p2), .val (.int (J5n3j1_1_S0 p2))] [(.ref r0)])) rfl rfl (hb hby d5_21)
  obtain ⟨cl7, Ar7, qa7, S7, Nl7, H7, G7⟩ := id (V_ch.other W5 (Ne.symm ne_ca_ch))
  have hin7 : ¬ ((1 : Int32) < 0 ∨ cl7.slots.size ≤ ((1 : Int32)).toNatClampNeg) := inb_of S7 ⟨by decide, by decide⟩
  have hat7 : cl7.slots[((1 : Int32)).toNatClampNeg]? = some (.int c1) := Has.at H7 hin7 rfl
  obtain ⟨cl8, Ar8, qa8, S8, Nl8, H8, G8⟩ := id (V_ch.other W5 (Ne.symm ne_ca_ch))
  have hin8 : ¬ ((1 : Int32) < 0 ∨ cl8.slots.size ≤ ((1 : Int32)).toNatClampNeg) := inb_of S8 ⟨by decide, by decide⟩
  obtain ⟨T8, h8, X8, e8, W8, st8⟩ := stI X6 hx hZ e6 Ar8 (j := (1 : Int32)) hin8 (g := (mkF m 29 #[.val (.ref r0), .val (.int (1 : Int32)), .val (.int p2), .val (.int (J5n3j1_1_S0 p2))] [(.int (c1 + (J5n3j1_1_S0 p2))), (.int (1 : Int32)), (.ref ch)])) rfl rfl (hb hby d5_29)
  have V8 : Arv Z h8 ch kch .int (3 : Int32) [(.int c0), (.int (c1 + (J5n3j1_1_S0 p2))), (.int c2)] (.int (0 : Int32)) := Arv.set Ar8 qa8 S8 Nl8 H8 G8 rfl W8 1 rfl (Nat.le_of_ble_eq_true rfl)
  have K8 : Keep h0 h8 [ca, ch, lc, ar, ge] := K5.wr W8 (Or.inl (List.mem_of_getElem? (i := 1) rfl))
  have N8 := Fr.snoc X8 N5 g_ch
  obtain ⟨T9, X9, e9, st9⟩ := getF X8 hx hZ hown (host := "") (Or.inl (hw _ (List.mem_of_getElem? (i := 15) rfl))) Via.refl e8 (Fld.other W8 (Fld.other W5 F_lastChanged (Or.inl ne_r0_ca)) (Or.inl ne_r0_ch)) (g := (mkF m 31 #[.val (.ref r0), .val (.int (1 : Int32)), .val (.int p2), .val (.int (J5n3j1_1_S0 p2))] [(.ref r0)])) rfl rfl (hb hby d5_31)
  obtain ⟨cl10, Ar10, qa10, S10, Nl10, H10, G10⟩ := id ((V_lc.other W5 (Ne.symm ne_ca_lc)).other W8 (Ne.symm ne_ch_lc))
  have hin10 : ¬ ((1 : Int32) < 0 ∨ cl10.slots.size ≤ ((1 : Int32)).toNatClampNeg) := inb_of S10 ⟨by decide, by decide⟩
  obtain ⟨T10, h10, X10, e10, W10, st10⟩ := stZ X9 hx hZ e9 Ar10 (j := (1 : Int32)) hin10 (g := (mkF m 36 #[.val (.ref r0), .val (.int (1 : Int32)), .val (.int p2), .val (.int (J5n3j1_1_S0 p2))] [(.int p2), (.int (1 : Int32)), (.ref lc)])) rfl rfl (hb hby d5_36)
  have V10 : Arv Z h10 lc klc .boolean (3 : Int32) [(.int l0), (.int (nar .boolean p2)), (.int l2)] (.int (0 : Int32)) := Arv.set Ar10 qa10 S10 Nl10 H10 G10 (fits_nar_bool _) W10 1 rfl (Nat.le_of_ble_eq_true rfl)
  have K10 : Keep h0 h10 [ca, ch, lc, ar, ge] := K8.wr W10 (Or.inl (List.mem_of_getElem? (i := 2) rfl))
  have N10 := Fr.snoc X10 N8 g_lc
  obtain ⟨T11, X11, e11, st11⟩ := getF X10 hx hZ hown (host := "") (Or.inl (hw _ (List.mem_of_getElem? (i := 18) rfl))) Via.refl e10 (Fld.other W10 (Fld.other W8 (Fld.other W5 F_arithmetic (Or.inl ne_r0_ca)) (Or.inl ne_r0_ch)) (Or.inl ne_r0_lc)) (g := (mkF m 38 #[.val (.ref r0), .val (.int (1 : Int32)), .val (.int p2), .val (.int (J5n3j1_1_S0 p2))] [(.ref r0)])) rfl rfl (hb hby d5_38)
  obtain ⟨cl12, Ar12, qa12, S12, Nl12, H12, G12⟩ := id (((V_ar.other W5 (Ne.symm ne_ca_ar)).other W8 (Ne.symm ne_ch_ar)).other W10 (Ne.symm ne_lc_ar))
  have hin12 : ¬ ((1 : Int32) < 0 ∨ cl12.slots.size ≤ ((1 : Int32)).toNatClampNeg) := inb_of S12 ⟨by decide, by decide⟩
  have hat12 : cl12.slots[((1 : Int32)).toNatClampNeg]? = some (.long m1) := Has.at H12 hin12 rfl
  obtain ⟨T13, X13, e13, st13⟩ := getF X11 hx hZ hown (host := "") (Or.inl (hw _ (List.mem_of_getElem? (i := 10) rfl))) Via.refl e11 (Fld.other W10 (Fld.other W8 (Fld.other W5 F_count (Or.inl ne_r0_ca)) (Or.inl ne_r0_ch)) (Or.inl ne_r0_lc)) (g := (mkF m 47 #[.val (.ref r0), .val (.int (1 : Int32)), .val (.int p2), .val (.int (J5n3j1_1_S0 p2))] [(.ref r0), (.long ((J5n3j1_1_S0 p2).toInt64)), (.long m1), (.int (1 : Int32)), (.ref ar)])) rfl rfl (hb hby d5_47)
  obtain ⟨cl14, Ar14, qa14, S14, Nl14, H14, G14⟩ := id ((V5.other W8 ne_ca_ch).other W10 ne_ca_lc)
  have hin14 : ¬ ((1 : Int32) < 0 ∨ cl14.slots.size ≤ ((1 : Int32)).toNatClampNeg) := inb_of S14 ⟨by decide, by decide⟩
  have hat14 : cl14.slots[((1 : Int32)).toNatClampNeg]? = some (.int (v1 + (1 : Int32))) := Has.at H14 hin14 rfl
  obtain ⟨cl15, Ar15, qa15, S15, Nl15, H15, G15⟩ := id (((V_ar.other W5 (Ne.symm ne_ca_ar)).other W8 (Ne.symm ne_ch_ar)).other W10 (Ne.symm ne_lc_ar))
  have hin15 : ¬ ((1 : Int32) < 0 ∨ cl15.slots.size ≤ ((1 : Int32)).toNatClampNeg) := inb_of S15 ⟨by decide, by decide⟩
  obtain ⟨T15, h15, X15, e15, W15, st15⟩ := stJ X13 hx hZ e13 Ar15 (j := (1 : Int32)) hin15 (g := (mkF m 55 #[.val (.ref r0), .val (.int (1 : Int32)), .val (.int p2), .val (.int (J5n3j1_1_S0 p2))] [(.long (m1 + (((J5n3j1_1_S0 p2).toInt64) * ((v1 + (1 : Int32)).toInt64)))), (.int (1 : Int32)), (.ref ar)])) rfl rfl (hb hby d5_55)
  have V15 : Arv Z h15 ar kar .long (3 : Int32) [(.long m0), (.long (m1 + (((J5n3j1_1_S0 p2).toInt64) * ((v1 + (1 : Int32)).toInt64)))), (.long m2)] (.long (0 : Int64)) := Arv.set Ar15 qa15 S15 Nl15 H15 G15 rfl W15 1 rfl (Nat.le_of_ble_eq_true rfl)
  have K15 : Keep h0 h15 [ca, ch, lc, ar, ge] := K10.wr W15 (Or.inl (List.mem_of_getElem? (i := 3) rfl))
  have N15 := Fr.snoc X15 N10 g_ar
  obtain ⟨T16, X16, e16, st16⟩ := getF X15 hx hZ hown (host := "") (Or.inl (hw _ (List.mem_of_getElem? (i := 21) rfl))) Via.refl e15 (Fld.other W15 (Fld.other W10 (Fld.other W8 (Fld.other W5 F_geometric (Or.inl ne_r0_ca)) (Or.inl ne_r0_ch)) (Or.inl ne_r0_lc)) (Or.inl ne_r0_ar)) (g := (mkF m 57 #[.val (.ref r0), .val (.int (1 : Int32)), .val (.int p2), .val (.int (J5n3j1_1_S0 p2))] [(.ref r0)])) rfl rfl (hb hby d5_57)
  obtain ⟨T17, X17, e17, st17⟩ := getF X16 hx hZ hown (host := "") (Or.inl (hw _ (List.mem_of_getElem? (i := 21) rfl))) Via.refl e16 (Fld.other W15 (Fld.other W10 (Fld.other W8 (Fld.other W5 F_geometric (Or.inl ne_r0_ca)) (Or.inl ne_r0_ch)) (Or.inl ne_r0_lc)) (Or.inl ne_r0_ar)) (g := (mkF m 62 #[.val (.ref r0), .val (.int (1 : Int32)), .val (.int p2), .val (.int (J5n3j1_1_S0 p2))] [(.ref r0), (.int (1 : Int32)), (.ref ge)])) rfl rfl (hb hby d5_62)
  obtain ⟨cl18, Ar18, qa18, S18, Nl18, H18, G18⟩ := id ((((V_ge.other W5 (Ne.symm ne_ca_ge)).other W8 (Ne.symm ne_ch_ge)).other W10 (Ne.symm ne_lc_ge)).other W15 (Ne.symm ne_ar_ge))
  have hin18 : ¬ ((1 : Int32) < 0 ∨ cl18.slots.size ≤ ((1 : Int32)).toNatClampNeg) := inb_of S18 ⟨by decide, by decide⟩
  have hat18 : cl18.slots[((1 : Int32)).toNatClampNeg]? = some (.double g1) := Has.at H18 hin18 rfl
  obtain ⟨cl19, Ar19, qa19, S19, Nl19, H19, G19⟩ := id ((((V_ge.other W5 (Ne.symm ne_ca_ge)).other W8 (Ne.symm ne_ch_ge)).other W10 (Ne.symm ne_lc_ge)).other W15 (Ne.symm ne_ar_ge))
  have hin19 : ¬ ((1 : Int32) < 0 ∨ cl19.slots.size ≤ ((1 : Int32)).toNatClampNeg) := inb_of S19 ⟨by decide, by decide⟩
  obtain ⟨T19, h19, X19, e19, W19, st19⟩ := own_stD X17 hx hZ e17 Ar19 (j := (1 : Int32)) hin19 (g := (mkF m 74 #[.val (.ref r0), .val (.int (1 : Int32)), .val (.int p2), .val (.int (J5n3j1_1_S0 p2))] [(.double (FP.ddiv (FP.dadd g1 (FP.i2d (J5n3j1_1_S0 p2))) (4611686018427387904 : UInt64))), (.int (1 : Int32)), (.ref ge)])) rfl rfl (hb hby d5_74)
  have V19 : Arv Z h19 ge kge .double (3 : Int32) [(.double g0), (.double (FP.ddiv (FP.dadd g1 (FP.i2d (J5n3j1_1_S0 p2))) (4611686018427387904 : UInt64))), (.double g2)] (.double (0 : UInt64)) := Arv.set Ar19 qa19 S19 Nl19 H19 G19 rfl W19 1 rfl (Nat.le_of_ble_eq_true rfl)
  have K19 : Keep h0 h19 [ca, ch, lc, ar, ge] := K15.wr W19 (Or.inl (List.mem_of_getElem? (i := 4) rfl))
  have N19 := Fr.snoc X19 N15 g_ge
  obtain ⟨fs, hr, hrun, hended, hW, hsame⟩ := X19.leave (v := none) (fun _ => rfl)
  refine ⟨_, _, pre2 _ ?_, hrun, hended, _, _, rfl, ?_, ⟨_, rfl⟩, hW, hsame.mono (by decide) (by decide)⟩
  · show Steps p.tables e below (Tj2.setTop (mkF m 9 #[.val (.ref r0), .val (.int (1 : Int32)), .val (.int p2), .unset] [(.int (J5n3j1_1_S0 p2))])) _
    refine XS.istoreN Xj2.here hx rfl (hb hby d5_9) rfl (l' := #[.val (.ref r0), .val (.int (1 : Int32)), .val (.int p2), .val (.int (J5n3j1_1_S0 p2))]) rfl ?_
    refine XS.aloadN Xj2.here hx rfl (hb hby d5_10) rfl rfl ?_
    refine st3 _ ?_
    refine XS.iloadN X3.here hx rfl (hb hby d5_14) rfl ?_
    refine Jvm.Free.XT.dup2 X3.here hx rfl (hb hby d5_15) rfl rfl rfl ?_
    refine X3.iaload hx (j := (1 : Int32)) (v := (.int v1)) (by rw [e3]; exact Ar4.1) (State.isArrayOf_alike hZ.alike Ar4.2.1) Ar4.2.2 hin4 hat4 (g := (mkF m 16 #[.val (.ref r0), .val (.int (1 : Int32)), .val (.int p2), .val (.int (J5n3j1_1_S0 p2))] [(.int (1 : Int32)), (.ref ca), (.int (1 : Int32)), (.ref ca)])) rfl rfl (hb hby d5_16) _ ?_
    refine XS.iconst X3.here hx rfl (hb hby d5_17) ?_
    refine XS.iadd X3.here hx rfl (hb hby d5_18) rfl ?_
    show Steps p.tables e below (T3.setTop (mkF m 19 #[.val (.ref r0), .val (.int (1 : Int32)), .val (.int p2), .val (.int (J5n3j1_1_S0 p2))] [(.int (v1 + (1 : Int32))), (.int (1 : Int32)), (.ref ca)])) _
    refine st5 _ ?_
    refine XS.aloadN X5.here hx rfl (hb hby d5_20) rfl rfl ?_
    refine st6 _ ?_
    refine XS.iloadN X6.here hx rfl (hb hby d5_24) rfl ?_
    refine Jvm.Free.XT.dup2 X6.here hx rfl (hb hby d5_25) rfl rfl rfl ?_
    refine X6.iaload hx (j := (1 : Int32)) (v := (.int c1)) (by rw [e6]; exact Ar7.1) (State.isArrayOf_alike hZ.alike Ar7.2.1) Ar7.2.2 hin7 hat7 (g := (mkF m 26 #[.val (.ref r0), .val (.int (1 : Int32)), .val (.int p2), .val (.int (J5n3j1_1_S0 p2))] [(.int (1 : Int32)), (.ref ch), (.int (1 : Int32)), (.ref ch)])) rfl rfl (hb hby d5_26) _ ?_
    refine XS.iloadN X6.here hx rfl (hb hby d5_27) rfl ?_
    refine XS.iadd X6.here hx rfl (hb hby d5_28) rfl ?_
    show Steps p.tables e below (T6.setTop (mkF m 29 #[.val (.ref r0), .val (.int (1 : Int32)), .val (.int p2), .val (.int (J5n3j1_1_S0 p2))] [(.int (c1 + (J5n3j1_1_S0 p2))), (.int (1 : Int32)), (.ref ch)])) _
    refine st8 _ ?_
    refine XS.aloadN X8.here hx rfl (hb hby d5_30) rfl rfl ?_
    refine st9 _ ?_
    refine XS.iloadN X9.here hx rfl (hb hby d5_34) rfl ?_
    refine XS.iloadN X9.here hx rfl (hb hby d5_35) rfl ?_
    refine st10 _ ?_
    refine XS.aloadN X10.here hx rfl (hb hby d5_37) rfl rfl ?_
    refine st11 _ ?_
    show Steps p.tables e below (T11.setTop (mkF m 41 #[.val (.ref r0), .val (.int (1 : Int32)), .val (.int p2), .val (.int (J5n3j1_1_S0 p2))] [(.ref ar)])) _
    refine XS.iloadN X11.here hx rfl (hb hby d5_41) rfl ?_
    refine Jvm.Free.XT.dup2 X11.here hx rfl (hb hby d5_42) rfl rfl rfl ?_
    refine X11.laload hx (j := (1 : Int32)) (v := (.long m1)) (by rw [e11]; exact Ar12.1) (State.isArrayOf_alike hZ.alike Ar12.2.1) Ar12.2.2 hin12 hat12 (g := (mkF m 43 #[.val (.ref r0), .val (.int (1 : Int32)), .val (.int p2), .val (.int (J5n3j1_1_S0 p2))] [(.int (1 : Int32)), (.ref ar), (.int (1 : Int32)), (.ref ar)])) rfl rfl (hb hby d5_43) _ ?_
    refine XS.iloadN X11.here hx rfl (hb hby d5_44) rfl ?_
    refine XS.i2l X11.here hx rfl (hb hby d5_45) rfl ?_
    refine XS.aloadN X11.here hx rfl (hb hby d5_46) rfl rfl ?_
    refine st13 _ ?_
    refine XS.iloadN X13.here hx rfl (hb hby d5_50) rfl ?_
    show Steps p.tables e below (T13.setTop (mkF m 51 #[.val (.ref r0), .val (.int (1 : Int32)), .val (.int p2), .val (.int (J5n3j1_1_S0 p2))] [(.int (1 : Int32)), (.ref ca), (.long ((J5n3j1_1_S0 p2).toInt64)), (.long m1), (.int (1 : Int32)), (.ref ar)])) _
    refine X13.iaload hx (j := (1 : Int32)) (v := (.int (v1 + (1 : Int32)))) (by rw [e13]; exact Ar14.1) (State.isArrayOf_alike hZ.alike Ar14.2.1) Ar14.2.2 hin14 hat14 (g := (mkF m 51 #[.val (.ref r0), .val (.int (1 : Int32)), .val (.int p2), .val (.int (J5n3j1_1_S0 p2))] [(.int (1 : Int32)), (.ref ca), (.long ((J5n3j1_1_S0 p2).toInt64)), (.long m1), (.int (1 : Int32)), (.ref ar)])) rfl rfl (hb hby d5_51) _ ?_
    refine XS.i2l X13.here hx rfl (hb hby d5_52) rfl ?_
    refine XS.lmul X13.here hx rfl (hb hby d5_53) rfl ?_
    refine XS.ladd X13.here hx rfl (hb hby d5_54) rfl ?_
    refine st15 _ ?_
    refine XS.aloadN X15.here hx rfl (hb hby d5_56) rfl rfl ?_
    refine st16 _ ?_
    refine XS.iloadN X16.here hx rfl (hb hby d5_60) rfl ?_
    show Steps p.tables e below (T16.setTop (mkF m 61 #[.val (.ref r0), .val (.int (1 : Int32)), .val (.int p2), .val (.int (J5n3j1_1_S0 p2))] [(.int (1 : Int32)), (.ref ge)])) _
    refine XS.aloadN X16.here hx rfl (hb hby d5_61) rfl rfl ?_
    refine st17 _ ?_
    refine XS.iloadN X17.here hx rfl (hb hby d5_65) rfl ?_
    refine X17.daload hx (j := (1 : Int32)) (v := (.double g1)) (by rw [e17]; exact Ar18.1) (State.isArrayOf_alike hZ.alike Ar18.2.1) Ar18.2.2 hin18 hat18 (g := (mkF m 66 #[.val (.ref r0), .val (.int (1 : Int32)), .val (.int p2), .val (.int (J5n3j1_1_S0 p2))] [(.int (1 : Int32)), (.ref ge), (.int (1 : Int32)), (.ref ge)])) rfl rfl (hb hby d5_66) _ ?_
    refine XS.iloadN X17.here hx rfl (hb hby d5_67) rfl ?_
    refine own_i2d X17.here hx rfl (hb hby d5_68) rfl ?_
    show Steps p.tables e below (T17.setTop (mkF m 69 #[.val (.ref r0), .val (.int (1 : Int32)), .val (.int p2), .val (.int (J5n3j1_1_S0 p2))] [(.double (FP.i2d (J5n3j1_1_S0 p2))), (.double g1), (.int (1 : Int32)), (.ref ge)])) _
    refine own_dadd X17.here hx (hb hby d5_69) (own_geo0 _ hg) ?_
    refine X17.ldc2DoubleC hx hown (mvT hZ (hw _ (List.mem_of_getElem? (i := 37) rfl))) (g := (mkF m 70 #[.val (.ref r0), .val (.int (1 : Int32)), .val (.int p2), .val (.int (J5n3j1_1_S0 p2))] [(.double (FP.dadd g1 (FP.i2d (J5n3j1_1_S0 p2)))), (.int (1 : Int32)), (.ref ge)])) rfl (hb hby d5_70) _ ?_
    show Steps p.tables e below (T17.setTop (mkF m 73 #[.val (.ref r0), .val (.int (1 : Int32)), .val (.int p2), .val (.int (J5n3j1_1_S0 p2))] [(.double (4611686018427387904 : UInt64)), (.double (FP.dadd g1 (FP.i2d (J5n3j1_1_S0 p2)))), (.int (1 : Int32)), (.ref ge)])) _
    refine own_ddiv X17.here hx (hb hby d5_73) (own_geo _ hg) ?_
    refine st19 _ ?_
    show Steps p.tables e below (T19.setTop (mkF m 75 #[.val (.ref r0), .val (.int (1 : Int32)), .val (.int p2), .val (.int (J5n3j1_1_S0 p2))] [])) _
    exact X19.returnOut hx Bd.returns (hb hby d5_75) hr
  · show Q5n3j1 Z r0 p2 ca ch lc ar ge kca kch klc kar kge v0 v1 v2 c0 c1 c2 l0 l1 l2 m0 m1 m2 g0 g1 g2 h0 n0 _ T19.heap _
    rw [e19]
    exact ⟨rfl, N19, K19, ((((V5.other W8 ne_ca_ch).other W10 ne_ca_lc).other W15 ne_ca_ar).other W19 ne_ca_ge), (((V8.other W10 ne_ch_lc).other W15 ne_ch_ar).other W19 ne_ch_ge), ((V10.other W15 ne_lc_ar).other W19 ne_lc_ge), (V15.other W19 ne_ar_ge), V19⟩
def J5n3j2_1_S0 (p2 : Int32) : Int32 := (if p2 = (0 : Int32) then (0 : Int32) else (1 : Int32))
theorem ef_5n3j2 (r0 : Addr) (p2 : Int32) (ca ch lc ar ge : Addr) (kca kch klc kar kge : ClassId) (v0 v1 v2 : Int32) (c0 c1 c2 : Int32) (l0 l1 l2 : Int32) (m0 m1 m2 : Int64) (g0 g1 g2 : UInt64) (m : MethodId) : entryFrame m #[(.ref r0), (.int (2 : Int32)), (.int p2)] 4 = mkF m 0 #[.val (.ref r0), .val (.int (2 : Int32)), .val (.int p2), .unset] [] := by first | (simp [entryFrame, mkF, argsToLocals, Value.category]; done) | rfl
def Q5n3j2 (Z : State) (r0 : Addr) (p2 : Int32) (ca ch lc ar ge : Addr) (kca kch klc kar kge : ClassId) (v0 v1 v2 : Int32) (c0 c1 c2 : Int32) (l0 l1 l2 : Int32) (m0 m1 m2 : Int64) (g0 g1 g2 : UInt64) (h0 : Heap) (n0 : Nat) (v : Option Value) (h : Heap) (L : List Loc) : Prop := v = none ∧ Fr n0 L ∧ Keep h0 h [ca, ch, lc, ar, ge] ∧ Arv Z h ca kca .int (3 : Int32) [(.int v0), (.int v1), (.int (v2 + (1 : Int32)))] (.int (0 : Int32)) ∧ Arv Z h ch kch .int (3 : Int32) [(.int c0), (.int c1), (.int (c2 + (J5n3j2_1_S0 p2)))] (.int (0 : Int32)) ∧ Arv Z h lc klc .boolean (3 : Int32) [(.int l0), (.int l1), (.int (nar .boolean p2))] (.int (0 : Int32)) ∧ Arv Z h ar kar .long (3 : Int32) [(.long m0), (.long m1), (.long (m2 + (((J5n3j2_1_S0 p2).toInt64) * ((v2 + (1 : Int32)).toInt64))))] (.long (0 : Int64)) ∧ Arv Z h ge kge .double (3 : Int32) [(.double g0), (.double g1), (.double (FP.ddiv (FP.dadd g2 (FP.i2d (J5n3j2_1_S0 p2))) (4611686018427387904 : UInt64)))] (.double (0 : UInt64))
set_option maxRecDepth 65536 in
set_option maxHeartbeats 40000000 in
theorem rm5n3j2 (l : Launch) (Z : State) (a0 : Array Value) (hw : ∀ d ∈ tables_1, d.before a0 Z = true) (ws : List Jvm.Cond) (r0 : Addr) (p2 : Int32) (ca ch lc ar ge : Addr) (kca kch klc kar kge : ClassId) (v0 v1 v2 : Int32) (c0 c1 c2 : Int32) (l0 l1 l2 : Int32) (m0 m1 m2 : Int64) (g0 g1 g2 : UInt64) (h0 : Heap) (n0 : Nat) (Z0 : n0 ≤ h0.size) (F_count : Fld Z h0 r0 "com/example/wandel/wandel/replay/Observations" "count" "[I" (.ref ca)) (F_changes : Fld Z h0 r0 "com/example/wandel/wandel/replay/Observations" "changes" "[I" (.ref ch)) (F_lastChanged : Fld Z h0 r0 "com/example/wandel/wandel/replay/Observations" "lastChanged" "[Z" (.ref lc)) (F_arithmetic : Fld Z h0 r0 "com/example/wandel/wandel/replay/Observations" "arithmetic" "[J" (.ref ar)) (F_geometric : Fld Z h0 r0 "com/example/wandel/wandel/replay/Observations" "geometric" "[D" (.ref ge)) (V_ca : Arv Z h0 ca kca .int (3 : Int32) [(.int v0), (.int v1), (.int v2)] (.int (0 : Int32))) (V_ch : Arv Z h0 ch kch .int (3 : Int32) [(.int c0), (.int c1), (.int c2)] (.int (0 : Int32))) (V_lc : Arv Z h0 lc klc .boolean (3 : Int32) [(.int l0), (.int l1), (.int l2)] (.int (0 : Int32))) (V_ar : Arv Z h0 ar kar .long (3 : Int32) [(.long m0), (.long m1), (.long m2)] (.long (0 : Int64))) (V_ge : Arv Z h0 ge kge .double (3 : Int32) [(.double g0), (.double g1), (.double g2)] (.double (0 : UInt64))) (ne_r0_ca : r0 ≠ ca) (ne_r0_ch : r0 ≠ ch) (ne_r0_lc : r0 ≠ lc) (ne_r0_ar : r0 ≠ ar) (ne_r0_ge : r0 ≠ ge) (ne_ca_ch : ca ≠ ch) (ne_ca_lc : ca ≠ lc) (ne_ca_ar : ca ≠ ar) (ne_ca_ge : ca ≠ ge) (ne_ch_lc : ch ≠ lc) (ne_ch_ar : ch ≠ ar) (ne_ch_ge : ch ≠ ge) (ne_lc_ar : lc ≠ ar) (ne_lc_ge : lc ≠ ge) (ne_ar_ge : ar ≠ ge) (g_ca : n0 ≤ ca) (g_ch : n0 ≤ ch) (g_lc : n0 ≤ lc) (g_ar : n0 ≤ ar) (g_ge : n0 ≤ ge) (hg : Jvm.Free.Fl.NoNaN64 g2) :
    MetFree l (⟨"com/example/wandel/wandel/replay/Observations", "record", "(IZ)V"⟩ : MethodName) (head1 (Jvm.Cond.code (⟨"com/example/wandel/wandel/replay/Observations", "record", "(IZ)V"⟩ : MethodName) prog_61_method_2_code 4 none :: ws) ({ frames := 0, cells := 0, slots := 0, locals := 0 } : Room)) (fun a U => a = #[(.ref r0), (.int (2 : Int32)), (.int p2)] ∧ Z.Warmed39 U.vm ∧ U.heap = h0) (fun _ _ _ _ _ => True) (fun _ U o U' => ∃ v L, o = .returned v ∧ Q5n3j2 Z r0 p2 ca ch lc ar ge kca kch klc kar kge v0 v1 v2 c0 c1 c2 l0 l1 l2 m0 m1 m2 g0 g1 g2 h0 n0 v U'.heap L ∧ FrameEnd U o U' L ({ frames := 0, cells := 0, slots := 0, locals := 0 } : Room).cells ({ frames := 0, cells := 0, slots := 0, locals := 0 } : Room).slots) := by
  refine MetFree.of_bodySF (plainFor_of_name pn_com_example_wandel_wandel_replay_Observations) hisR ?_
  intro p e s m args below meth c s₁ Bd hml0 hP hK
  obtain ⟨rfl, hZ, hh⟩ := hP
  have hx := Bd.exec
  have hby := Bd.bytes
  have hml : c.maxLocals = 4 := hml0
  have hown : s.vm.findClass "com/example/wandel/wandel/replay/Observations" = some m.cls := findClass_of_methodNamed Bd.named
  have hnm := (name_of_methodNamed Bd.named Bd.method).1
  have X0 : Stand p l e ({ frames := 0, cells := 0, slots := 0, locals := 0 } : Room) s m #[(.ref r0), (.int (2 : Int32)), (.int p2)] below meth c s₁ [] 0 0 := Stand.of_body Bd
  have e0 : s₁.heap = h0 := by rw [← hh, Bd.state]; rfl
  have N0 := Fr.nil n0
  have pre0 : ∀ t, Steps p.tables e below (s₁.setTop (mkF m 0 #[.val (.ref r0), .val (.int (2 : Int32)), .val (.int p2), .unset] [])) t → Steps p.tables e below (s₁.setTop (entryFrame m #[(.ref r0), (.int (2 : Int32)), (.int p2)] 4)) t := fun t k => castTop (ef_5n3j2 r0 p2 ca ch lc ar ge kca kch klc kar kge v0 v1 v2 c0 c1 c2 l0 l1 l2 m0 m1 m2 g0 g1 g2 m) k
  have pre1 : ∀ t, Steps p.tables e below (s₁.setTop (mkF m 1 #[.val (.ref r0), .val (.int (2 : Int32)), .val (.int p2), .unset] [(.int p2)])) t → Steps p.tables e below (s₁.setTop (entryFrame m #[(.ref r0), (.int (2 : Int32)), (.int p2)] 4)) t := fun t kt => pre0 t (by
    show Steps p.tables e below (s₁.setTop (mkF m 0 #[.val (.ref r0), .val (.int (2 : Int32)), .val (.int p2), .unset] [])) _
    refine XS.iloadN X0.here hx rfl (hb hby d5_0) rfl ?_
    exact kt)
  obtain ⟨Tj2, lj2, Xj2, Nj2, ej2, pre2⟩ : ∃ (T' : State) (locs' : List Loc), Stand p l e ({ frames := 0, cells := 0, slots := 0, locals := 0 } : Room) s m #[(.ref r0), (.int (2 : Int32)), (.int p2)] below meth c T' locs' 0 0 ∧ Fr n0 locs' ∧ T'.heap = h0 ∧ ∀ t, Steps p.tables e below (T'.setTop (mkF m 9 #[.val (.ref r0), .val (.int (2 : Int32)), .val (.int p2), .unset] [(.int (J5n3j2_1_S0 p2))])) t → Steps p.tables e below (s₁.setTop (entryFrame m #[(.ref r0), (.int (2 : Int32)), (.int p2)] 4)) t := by
    by_cases hc1 : p2 = (0 : Int32)
    · refine ⟨s₁, _, X0, N0, e0, fun t kt => pre1 t ?_⟩
      show Steps p.tables e below (s₁.setTop (mkF m 1 #[.val (.ref r0), .val (.int (2 : Int32)), .val (.int p2), .unset] [(.int p2)])) _
      refine XS.ifYes X0.here hx rfl (pc0 := 1) (pc' := 8) rfl (hb hby d5_1) rfl ((if0 _ _).trans (teq hc1).1) (by decide) (by decide) ?_
      refine XS.iconst X0.here hx rfl (hb hby d5_8) ?_
      show Steps p.tables e below (s₁.setTop (mkF m 9 #[.val (.ref r0), .val (.int (2 : Int32)), .val (.int p2), .unset] [(.int (0 : Int32))])) _
      have qjS0 : (J5n3j2_1_S0 p2) = (0 : Int32) := by unfold J5n3j2_1_S0; simp only [if_true, if_false, if_pos hc1]
      rw [qjS0] at kt
      exact kt
    · refine ⟨s₁, _, X0, N0, e0, fun t kt => pre1 t ?_⟩
      show Steps p.tables e below (s₁.setTop (mkF m 1 #[.val (.ref r0), .val (.int (2 : Int32)), .val (.int p2), .unset] [(.int p2)])) _
      refine XS.ifNo X0.here hx rfl (hb hby d5_1) rfl ((if0 _ _).trans (feq hc1).1) ?_
      refine XS.iconst X0.here hx rfl (hb hby d5_4) ?_
      refine XS.goto X0.here hx rfl (pc0 := 5) (pc' := 9) rfl (hb hby d5_5) (by decide) (by decide) ?_
      show Steps p.tables e below (s₁.setTop (mkF m 9 #[.val (.ref r0), .val (.int (2 : Int32)), .val (.int p2), .unset] [(.int (1 : Int32))])) _
      have qjS0 : (J5n3j2_1_S0 p2) = (1 : Int32) := by unfold J5n3j2_1_S0; simp only [if_true, if_false, if_neg hc1]
      rw [qjS0] at kt
      exact kt
  obtain ⟨T3, X3, e3, st3⟩ := getF Xj2 hx hZ hown (host := "") (Or.inl (hw _ (List.mem_of_getElem? (i := 10) rfl))) Via.refl ej2 F_count (g := (mkF m 11 #[.val (.ref r0), .val (.int (2 : Int32)), .val (.int p2), .val (.int (J5n3j2_1_S0 p2))] [(.ref r0)])) rfl rfl (hb hby d5_11)
  obtain ⟨cl4, Ar4, qa4, S4, Nl4, H4, G4⟩ := id V_ca
  have hin4 : ¬ ((2 : Int32) < 0 ∨ cl4.slots.size ≤ ((2 : Int32)).toNatClampNeg) := inb_of S4 ⟨by decide, by decide⟩
  have hat4 : cl4.slots[((2 : Int32)).toNatClampNeg]? = some (.int v2) := Has.at H4 hin4 rfl
  obtain ⟨cl5, Ar5, qa5, S5, Nl5, H5, G5⟩ := id V_ca
  have hin5 : ¬ ((2 : Int32) < 0 ∨ cl5.slots.size ≤ ((2 : Int32)).toNatClampNeg) := inb_of S5 ⟨by decide, by decide⟩
  obtain ⟨T5, h5, X5, e5, W5, st5⟩ := stI X3 hx hZ e3 Ar5 (j := (2 : Int32)) hin5 (g := (mkF m 19 #[.val (.ref r0), .val (.int (2 : Int32)), .val (.int p2), .val (.int (J5n3j2_1_S0 p2))] [(.int (v2 + (1 : Int32))), (.int (2 : Int32)), (.ref ca)])) rfl rfl (hb hby d5_19)
  have V5 : Arv Z h5 ca kca .int (3 : Int32) [(.int v0), (.int v1), (.int (v2 + (1 : Int32)))] (.int (0 : Int32)) := Arv.set Ar5 qa5 S5 Nl5 H5 G5 rfl W5 2 rfl (Nat.le_of_ble_eq_true rfl)
  have K5 : Keep h0 h5 [ca, ch, lc, ar, ge] := (Keep.refl h0 [ca, ch, lc, ar, ge]).wr W5 (Or.inl (List.mem_of_getElem? (i := 0) rfl))
  have N5 := Fr.snoc X5 Nj2 g_ca
  obtain ⟨T6, X6, e6, st6⟩ := getF X5 hx hZ hown (host := "") (Or.inl (hw _ (List.mem_of_getElem? (i := 12) rfl))) Via.refl e5 (Fld.other W5 F_changes (Or.inl ne_r0_ca)) (g := (mkF m 21 #[.val (.ref r0), .val (.int (2 : Int32)), .val (.int p2), .val (.int (J5n3j2_1_S0 p2))] [(.ref r0)])) rfl rfl (hb hby d5_21)
  obtain ⟨cl7, Ar7, qa7, S7, Nl7, H7, G7⟩ := id (V_ch.other W5 (Ne.symm ne_ca_ch))
  have hin7 : ¬ ((2 : Int32) < 0 ∨ cl7.slots.size ≤ ((2 : Int32)).toNatClampNeg) := inb_of S7 ⟨by decide, by decide⟩
  have hat7 : cl7.slots[((2 : Int32)).toNatClampNeg]? = some (.int c2) := Has.at H7 hin7 rfl
  obtain ⟨cl8, Ar8, qa8, S8, Nl8, H8, G8⟩ := id (V_ch.other W5 (Ne.symm ne_ca_ch))
  have hin8 : ¬ ((2 : Int32) < 0 ∨ cl8.slots.size ≤ ((2 : Int32)).toNatClampNeg) := inb_of S8 ⟨by decide, by decide⟩
  obtain ⟨T8, h8, X8, e8, W8, st8⟩ := stI X6 hx hZ e6 Ar8 (j := (2 : Int32)) hin8 (g := (mkF m 29 #[.val (.ref r0), .val (.int (2 : Int32)), .val (.int p2), .val (.int (J5n3j2_1_S0 p2))] [(.int (c2 + (J5n3j2_1_S0 p2))), (.int (2 : Int32)), (.ref ch)])) rfl rfl (hb hby d5_29)
  have V8 : Arv Z h8 ch kch .int (3 : Int32) [(.int c0), (.int c1), (.int (c2 + (J5n3j2_1_S0 p2)))] (.int (0 : Int32)) := Arv.set Ar8 qa8 S8 Nl8 H8 G8 rfl W8 2 rfl (Nat.le_of_ble_eq_true rfl)
  have K8 : Keep h0 h8 [ca, ch, lc, ar, ge] := K5.wr W8 (Or.inl (List.mem_of_getElem? (i := 1) rfl))
  have N8 := Fr.snoc X8 N5 g_ch
  obtain ⟨T9, X9, e9, st9⟩ := getF X8 hx hZ hown (host := "") (Or.inl (hw _ (List.mem_of_getElem? (i := 15) rfl))) Via.refl e8 (Fld.other W8 (Fld.other W5 F_lastChanged (Or.inl ne_r0_ca)) (Or.inl ne_r0_ch)) (g := (mkF m 31 #[.val (.ref r0), .val (.int (2 : Int32)), .val (.int p2), .val (.int (J5n3j2_1_S0 p2))] [(.ref r0)])) rfl rfl (hb hby d5_31)
  obtain ⟨cl10, Ar10, qa10, S10, Nl10, H10, G10⟩ := id ((V_lc.other W5 (Ne.symm ne_ca_lc)).other W8 (Ne.symm ne_ch_lc))
  have hin10 : ¬ ((2 : Int32) < 0 ∨ cl10.slots.size ≤ ((2 : Int32)).toNatClampNeg) := inb_of S10 ⟨by decide, by decide⟩
  obtain ⟨T10, h10, X10, e10, W10, st10⟩ := stZ X9 hx hZ e9 Ar10 (j := (2 : Int32)) hin10 (g := (mkF m 36 #[.val (.ref r0), .val (.int (2 : Int32)), .val (.int p2), .val (.int (J5n3j2_1_S0 p2))] [(.int p2), (.int (2 : Int32)), (.ref lc)])) rfl rfl (hb hby d5_36)
  have V10 : Arv Z h10 lc klc .boolean (3 : Int32) [(.int l0), (.int l1), (.int (nar .boolean p2))] (.int (0 : Int32)) := Arv.set Ar10 qa10 S10 Nl10 H10 G10 (fits_nar_bool _) W10 2 rfl (Nat.le_of_ble_eq_true rfl)
  have K10 : Keep h0 h10 [ca, ch, lc, ar, ge] := K8.wr W10 (Or.inl (List.mem_of_getElem? (i := 2) rfl))
  have N10 := Fr.snoc X10 N8 g_lc
  obtain ⟨T11, X11, e11, st11⟩ := getF X10 hx hZ hown (host := "") (Or.inl (hw _ (List.mem_of_getElem? (i := 18) rfl))) Via.refl e10 (Fld.other W10 (Fld.other W8 (Fld.other W5 F_arithmetic (Or.inl ne_r0_ca)) (Or.inl ne_r0_ch)) (Or.inl ne_r0_lc)) (g := (mkF m 38 #[.val (.ref r0), .val (.int (2 : Int32)), .val (.int p2), .val (.int (J5n3j2_1_S0 p2))] [(.ref r0)])) rfl rfl (hb hby d5_38)
  obtain ⟨cl12, Ar12, qa12, S12, Nl12, H12, G12⟩ := id (((V_ar.other W5 (Ne.symm ne_ca_ar)).other W8 (Ne.symm ne_ch_ar)).other W10 (Ne.symm ne_lc_ar))
  have hin12 : ¬ ((2 : Int32) < 0 ∨ cl12.slots.size ≤ ((2 : Int32)).toNatClampNeg) := inb_of S12 ⟨by decide, by decide⟩
  have hat12 : cl12.slots[((2 : Int32)).toNatClampNeg]? = some (.long m2) := Has.at H12 hin12 rfl
  obtain ⟨T13, X13, e13, st13⟩ := getF X11 hx hZ hown (host := "") (Or.inl (hw _ (List.mem_of_getElem? (i := 10) rfl))) Via.refl e11 (Fld.other W10 (Fld.other W8 (Fld.other W5 F_count (Or.inl ne_r0_ca)) (Or.inl ne_r0_ch)) (Or.inl ne_r0_lc)) (g := (mkF m 47 #[.val (.ref r0), .val (.int (2 : Int32)), .val (.int p2), .val (.int (J5n3j2_1_S0 p2))] [(.ref r0), (.long ((J5n3j2_1_S0 p2).toInt64)), (.long m2), (.int (2 : Int32)), (.ref ar)])) rfl rfl (hb hby d5_47)
  obtain ⟨cl14, Ar14, qa14, S14, Nl14, H14, G14⟩ := id ((V5.other W8 ne_ca_ch).other W10 ne_ca_lc)
  have hin14 : ¬ ((2 : Int32) < 0 ∨ cl14.slots.size ≤ ((2 : Int32)).toNatClampNeg) := inb_of S14 ⟨by decide, by decide⟩
  have hat14 : cl14.slots[((2 : Int32)).toNatClampNeg]? = some (.int (v2 + (1 : Int32))) := Has.at H14 hin14 rfl
  obtain ⟨cl15, Ar15, qa15, S15, Nl15, H15, G15⟩ := id (((V_ar.other W5 (Ne.symm ne_ca_ar)).other W8 (Ne.symm ne_ch_ar)).other W10 (Ne.symm ne_lc_ar))
  have hin15 : ¬ ((2 : Int32) < 0 ∨ cl15.slots.size ≤ ((2 : Int32)).toNatClampNeg) := inb_of S15 ⟨by decide, by decide⟩
  obtain ⟨T15, h15, X15, e15, W15, st15⟩ := stJ X13 hx hZ e13 Ar15 (j := (2 : Int32)) hin15 (g := (mkF m 55 #[.val (.ref r0), .val (.int (2 : Int32)), .val (.int p2), .val (.int (J5n3j2_1_S0 p2))] [(.long (m2 + (((J5n3j2_1_S0 p2).toInt64) * ((v2 + (1 : Int32)).toInt64)))), (.int (2 : Int32)), (.ref ar)])) rfl rfl (hb hby d5_55)
  have V15 : Arv Z h15 ar kar .long (3 : Int32) [(.long m0), (.long m1), (.long (m2 + (((J5n3j2_1_S0 p2).toInt64) * ((v2 + (1 : Int32)).toInt64))))] (.long (0 : Int64)) := Arv.set Ar15 qa15 S15 Nl15 H15 G15 rfl W15 2 rfl (Nat.le_of_ble_eq_true rfl)
  have K15 : Keep h0 h15 [ca, ch, lc, ar, ge] := K10.wr W15 (Or.inl (List.mem_of_getElem? (i := 3) rfl))
  have N15 := Fr.snoc X15 N10 g_ar
  obtain ⟨T16, X16, e16, st16⟩ := getF X15 hx hZ hown (host := "") (Or.inl (hw _ (List.mem_of_getElem? (i := 21) rfl))) Via.refl e15 (Fld.other W15 (Fld.other W10 (Fld.other W8 (Fld.other W5 F_geometric (Or.inl ne_r0_ca)) (Or.inl ne_r0_ch)) (Or.inl ne_r0_lc)) (Or.inl ne_r0_ar)) (g := (mkF m 57 #[.val (.ref r0), .val (.int (2 : Int32)), .val (.int p2), .val (.int (J5n3j2_1_S0 p2))] [(.ref r0)])) rfl rfl (hb hby d5_57)
  obtain ⟨T17, X17, e17, st17⟩ := getF X16 hx hZ hown (host := "") (Or.inl (hw _ (List.mem_of_getElem? (i := 21) rfl))) Via.refl e16 (Fld.other W15 (Fld.other W10 (Fld.other W8 (Fld.other W5 F_geometric (Or.inl ne_r0_ca)) (Or.inl ne_r0_ch)) (Or.inl ne_r0_lc)) (Or.inl ne_r0_ar)) (g := (mkF m 62 #[.val (.ref r0), .val (.int (2 : Int32)), .val (.int p2), .val (.int (J5n3j2_1_S0 p2))] [(.ref r0), (.int (2 : Int32)), (.ref ge)])) rfl rfl (hb hby d5_62)
  obtain ⟨cl18, Ar18, qa18, S18, Nl18, H18, G18⟩ := id ((((V_ge.other W5 (Ne.symm ne_ca_ge)).other W8 (Ne.symm ne_ch_ge)).other W10 (Ne.symm ne_lc_ge)).other W15 (Ne.symm ne_ar_ge))
  have hin18 : ¬ ((2 : Int32) < 0 ∨ cl18.slots.size ≤ ((2 : Int32)).toNatClampNeg) := inb_of S18 ⟨by decide, by decide⟩
  have hat18 : cl18.slots[((2 : Int32)).toNatClampNeg]? = some (.double g2) := Has.at H18 hin18 rfl
  obtain ⟨cl19, Ar19, qa19, S19, Nl19, H19, G19⟩ := id ((((V_ge.other W5 (Ne.symm ne_ca_ge)).other W8 (Ne.symm ne_ch_ge)).other W10 (Ne.symm ne_lc_ge)).other W15 (Ne.symm ne_ar_ge))
  have hin19 : ¬ ((2 : Int32) < 0 ∨ cl19.slots.size ≤ ((2 : Int32)).toNatClampNeg) := inb_of S19 ⟨by decide, by decide⟩
  obtain ⟨T19, h19, X19, e19, W19, st19⟩ := own_stD X17 hx hZ e17 Ar19 (j := (2 : Int32)) hin19 (g := (mkF m 74 #[.val (.ref r0), .val (.int (2 : Int32)), .val (.int p2), .val (.int (J5n3j2_1_S0 p2))] [(.double (FP.ddiv (FP.dadd g2 (FP.i2d (J5n3j2_1_S0 p2))) (4611686018427387904 : UInt64))), (.int (2 : Int32)), (.ref ge)])) rfl rfl (hb hby d5_74)
  have V19 : Arv Z h19 ge kge .double (3 : Int32) [(.double g0), (.double g1), (.double (FP.ddiv (FP.dadd g2 (FP.i2d (J5n3j2_1_S0 p2))) (4611686018427387904 : UInt64)))] (.double (0 : UInt64)) := Arv.set Ar19 qa19 S19 Nl19 H19 G19 rfl W19 2 rfl (Nat.le_of_ble_eq_true rfl)
  have K19 : Keep h0 h19 [ca, ch, lc, ar, ge] := K15.wr W19 (Or.inl (List.mem_of_getElem? (i := 4) rfl))
  have N19 := Fr.snoc X19 N15 g_ge
  obtain ⟨fs, hr, hrun, hended, hW, hsame⟩ := X19.leave (v := none) (fun _ => rfl)
  refine ⟨_, _, pre2 _ ?_, hrun, hended, _, _, rfl, ?_, ⟨_, rfl⟩, hW, hsame.mono (by decide) (by decide)⟩
  · show Steps p.tables e below (Tj2.setTop (mkF m 9 #[.val (.ref r0), .val (.int (2 : Int32)), .val (.int p2), .unset] [(.int (J5n3j2_1_S0 p2))])) _
    refine XS.istoreN Xj2.here hx rfl (hb hby d5_9) rfl (l' := #[.val (.ref r0), .val (.int (2 : Int32)), .val (.int p2), .val (.int (J5n3j2_1_S0 p2))]) rfl ?_
    refine XS.aloadN Xj2.here hx rfl (hb hby d5_10) rfl rfl ?_
    refine st3 _ ?_
    refine XS.iloadN X3.here hx rfl (hb hby d5_14) rfl ?_
    refine Jvm.Free.XT.dup2 X3.here hx rfl (hb hby d5_15) rfl rfl rfl ?_
    refine X3.iaload hx (j := (2 : Int32)) (v := (.int v2)) (by rw [e3]; exact Ar4.1) (State.isArrayOf_alike hZ.alike Ar4.2.1) Ar4.2.2 hin4 hat4 (g := (mkF m 16 #[.val (.ref r0), .val (.int (2 : Int32)), .val (.int p2), .val (.int (J5n3j2_1_S0 p2))] [(.int (2 : Int32)), (.ref ca), (.int (2 : Int32)), (.ref ca)])) rfl rfl (hb hby d5_16) _ ?_
    refine XS.iconst X3.here hx rfl (hb hby d5_17) ?_
    refine XS.iadd X3.here hx rfl (hb hby d5_18) rfl ?_
    show Steps p.tables e below (T3.setTop (mkF m 19 #[.val (.ref r0), .val (.int (2 : Int32)), .val (.int p2), .val (.int (J5n3j2_1_S0 p2))] [(.int (v2 + (1 : Int32))), (.int (2 : Int32)), (.ref ca)])) _
    refine st5 _ ?_
    refine XS.aloadN X5.here hx rfl (hb hby d5_20) rfl rfl ?_
    refine st6 _ ?_
    refine XS.iloadN X6.here hx rfl (hb hby d5_24) rfl ?_
    refine Jvm.Free.XT.dup2 X6.here hx rfl (hb hby d5_25) rfl rfl rfl ?_
    refine X6.iaload hx (j := (2 : Int32)) (v := (.int c2)) (by rw [e6]; exact Ar7.1) (State.isArrayOf_alike hZ.alike Ar7.2.1) Ar7.2.2 hin7 hat7 (g := (mkF m 26 #[.val (.ref r0), .val (.int (2 : Int32)), .val (.int p2), .val (.int (J5n3j2_1_S0 p2))] [(.int (2 : Int32)), (.ref ch), (.int (2 : Int32)), (.ref ch)])) rfl rfl (hb hby d5_26) _ ?_
    refine XS.iloadN X6.here hx rfl (hb hby d5_27) rfl ?_
    refine XS.iadd X6.here hx rfl (hb hby d5_28) rfl ?_
    show Steps p.tables e below (T6.setTop (mkF m 29 #[.val (.ref r0), .val (.int (2 : Int32)), .val (.int p2), .val (.int (J5n3j2_1_S0 p2))] [(.int (c2 + (J5n3j2_1_S0 p2))), (.int (2 : Int32)), (.ref ch)])) _
    refine st8 _ ?_
    refine XS.aloadN X8.here hx rfl (hb hby d5_30) rfl rfl ?_
    refine st9 _ ?_
    refine XS.iloadN X9.here hx rfl (hb hby d5_34) rfl ?_
    refine XS.iloadN X9.here hx rfl (hb hby d5_35) rfl ?_
    refine st10 _ ?_
    refine XS.aloadN X10.here hx rfl (hb hby d5_37) rfl rfl ?_
    refine st11 _ ?_
    show Steps p.tables e below (T11.setTop (mkF m 41 #[.val (.ref r0), .val (.int (2 : Int32)), .val (.int p2), .val (.int (J5n3j2_1_S0 p2))] [(.ref ar)])) _
    refine XS.iloadN X11.here hx rfl (hb hby d5_41) rfl ?_
    refine Jvm.Free.XT.dup2 X11.here hx rfl (hb hby d5_42) rfl rfl rfl ?_
    refine X11.laload hx (j := (2 : Int32)) (v := (.long m2)) (by rw [e11]; exact Ar12.1) (State.isArrayOf_alike hZ.alike Ar12.2.1) Ar12.2.2 hin12 hat12 (g := (mkF m 43 #[.val (.ref r0), .val (.int (2 : Int32)), .val (.int p2), .val (.int (J5n3j2_1_S0 p2))] [(.int (2 : Int32)), (.ref ar), (.int (2 : Int32)), (.ref ar)])) rfl rfl (hb hby d5_43) _ ?_
    refine XS.iloadN X11.here hx rfl (hb hby d5_44) rfl ?_
    refine XS.i2l X11.here hx rfl (hb hby d5_45) rfl ?_
    refine XS.aloadN X11.here hx rfl (hb hby d5_46) rfl rfl ?_
    refine st13 _ ?_
    refine XS.iloadN X13.here hx rfl (hb hby d5_50) rfl ?_
    show Steps p.tables e below (T13.setTop (mkF m 51 #[.val (.ref r0), .val (.int (2 : Int32)), .val (.int p2), .val (.int (J5n3j2_1_S0 p2))] [(.int (2 : Int32)), (.ref ca), (.long ((J5n3j2_1_S0 p2).toInt64)), (.long m2), (.int (2 : Int32)), (.ref ar)])) _
    refine X13.iaload hx (j := (2 : Int32)) (v := (.int (v2 + (1 : Int32)))) (by rw [e13]; exact Ar14.1) (State.isArrayOf_alike hZ.alike Ar14.2.1) Ar14.2.2 hin14 hat14 (g := (mkF m 51 #[.val (.ref r0), .val (.int (2 : Int32)), .val (.int p2), .val (.int (J5n3j2_1_S0 p2))] [(.int (2 : Int32)), (.ref ca), (.long ((J5n3j2_1_S0 p2).toInt64)), (.long m2), (.int (2 : Int32)), (.ref ar)])) rfl rfl (hb hby d5_51) _ ?_
    refine XS.i2l X13.here hx rfl (hb hby d5_52) rfl ?_
    refine XS.lmul X13.here hx rfl (hb hby d5_53) rfl ?_
    refine XS.ladd X13.here hx rfl (hb hby d5_54) rfl ?_
    refine st15 _ ?_
    refine XS.aloadN X15.here hx rfl (hb hby d5_56) rfl rfl ?_
    refine st16 _ ?_
    refine XS.iloadN X16.here hx rfl (hb hby d5_60) rfl ?_
    show Steps p.tables e below (T16.setTop (mkF m 61 #[.val (.ref r0), .val (.int (2 : Int32)), .val (.int p2), .val (.int (J5n3j2_1_S0 p2))] [(.int (2 : Int32)), (.ref ge)])) _
    refine XS.aloadN X16.here hx rfl (hb hby d5_61) rfl rfl ?_
    refine st17 _ ?_
    refine XS.iloadN X17.here hx rfl (hb hby d5_65) rfl ?_
    refine X17.daload hx (j := (2 : Int32)) (v := (.double g2)) (by rw [e17]; exact Ar18.1) (State.isArrayOf_alike hZ.alike Ar18.2.1) Ar18.2.2 hin18 hat18 (g := (mkF m 66 #[.val (.ref r0), .val (.int (2 : Int32)), .val (.int p2), .val (.int (J5n3j2_1_S0 p2))] [(.int (2 : Int32)), (.ref ge), (.int (2 : Int32)), (.ref ge)])) rfl rfl (hb hby d5_66) _ ?_
    refine XS.iloadN X17.here hx rfl (hb hby d5_67) rfl ?_
    refine own_i2d X17.here hx rfl (hb hby d5_68) rfl ?_
    show Steps p.tables e below (T17.setTop (mkF m 69 #[.val (.ref r0), .val (.int (2 : Int32)), .val (.int p2), .val (.int (J5n3j2_1_S0 p2))] [(.double (FP.i2d (J5n3j2_1_S0 p2))), (.double g2), (.int (2 : Int32)), (.ref ge)])) _
    refine own_dadd X17.here hx (hb hby d5_69) (own_geo0 _ hg) ?_
    refine X17.ldc2DoubleC hx hown (mvT hZ (hw _ (List.mem_of_getElem? (i := 37) rfl))) (g := (mkF m 70 #[.val (.ref r0), .val (.int (2 : Int32)), .val (.int p2), .val (.int (J5n3j2_1_S0 p2))] [(.double (FP.dadd g2 (FP.i2d (J5n3j2_1_S0 p2)))), (.int (2 : Int32)), (.ref ge)])) rfl (hb hby d5_70) _ ?_
    show Steps p.tables e below (T17.setTop (mkF m 73 #[.val (.ref r0), .val (.int (2 : Int32)), .val (.int p2), .val (.int (J5n3j2_1_S0 p2))] [(.double (4611686018427387904 : UInt64)), (.double (FP.dadd g2 (FP.i2d (J5n3j2_1_S0 p2)))), (.int (2 : Int32)), (.ref ge)])) _
    refine own_ddiv X17.here hx (hb hby d5_73) (own_geo _ hg) ?_
    refine st19 _ ?_
    show Steps p.tables e below (T19.setTop (mkF m 75 #[.val (.ref r0), .val (.int (2 : Int32)), .val (.int p2), .val (.int (J5n3j2_1_S0 p2))] [])) _
    exact X19.returnOut hx Bd.returns (hb hby d5_75) hr
  · show Q5n3j2 Z r0 p2 ca ch lc ar ge kca kch klc kar kge v0 v1 v2 c0 c1 c2 l0 l1 l2 m0 m1 m2 g0 g1 g2 h0 n0 _ T19.heap _
    rw [e19]
    exact ⟨rfl, N19, K19, ((((V5.other W8 ne_ca_ch).other W10 ne_ca_lc).other W15 ne_ca_ar).other W19 ne_ca_ge), (((V8.other W10 ne_ch_lc).other W15 ne_ch_ar).other W19 ne_ch_ge), ((V10.other W15 ne_lc_ar).other W19 ne_lc_ge), (V15.other W19 ne_ar_ge), V19⟩
theorem own_gg3_0 {kk : Int} {v0 v1 v2 c0 c1 c2 : Int32} {g0 g1 g2 : UInt64} {t0 t1 : Int64} (h : Inv3 kk v0 v1 v2 c0 c1 c2 g0 g1 g2 t0 t1) : Jvm.Free.Fl.NoNaN64 g0 := by
  obtain ⟨-, -, -, -, -, -, -, -, hg0, hg1, hg2⟩ := h
  exact hg0
theorem own_gg3_1 {kk : Int} {v0 v1 v2 c0 c1 c2 : Int32} {g0 g1 g2 : UInt64} {t0 t1 : Int64} (h : Inv3 kk v0 v1 v2 c0 c1 c2 g0 g1 g2 t0 t1) : Jvm.Free.Fl.NoNaN64 g1 := by
  obtain ⟨-, -, -, -, -, -, -, -, hg0, hg1, hg2⟩ := h
  exact hg1
theorem own_gg3_2 {kk : Int} {v0 v1 v2 c0 c1 c2 : Int32} {g0 g1 g2 : UInt64} {t0 t1 : Int64} (h : Inv3 kk v0 v1 v2 c0 c1 c2 g0 g1 g2 t0 t1) : Jvm.Free.Fl.NoNaN64 g2 := by
  obtain ⟨-, -, -, -, -, -, -, -, hg0, hg1, hg2⟩ := h
  exact hg2
theorem own_pg1 (q : Int32) : (q &&& (3 : Int32)) % (1 : Int32) = 0 := by
  have m := c_mask q 3 2 (by decide) (by decide)
  have r := (c_irem (q &&& (3 : Int32)) 1 1 (by decide)).1 (by omega)
  simp only [← Int32.toInt_inj]
  show _ = (0 : Int)
  omega
def A3n1_27 (p3 p5 : Int32) : Int32 := (((p3 >>> (((2 : Int32) * p5) &&& 31)) &&& (3 : Int32)) % (1 : Int32))
theorem d3_0 : decode method_3_code 0 = .ok (.iload_n 1, 1) := by decide +kernel
theorem d3_1 : decode method_3_code 1 = .ok (.ifCond .ne 4, 3) := by decide +kernel
theorem d3_5 : decode method_3_code 5 = .ok (.iload_n 2, 1) := by decide +kernel
theorem d3_6 : decode method_3_code 6 = .ok (.iconst 2, 1) := by decide +kernel
theorem d3_7 : decode method_3_code 7 = .ok (.iload 5, 2) := by decide +kernel
theorem d3_9 : decode method_3_code 9 = .ok (.iadd, 1) := by decide +kernel
theorem d3_10 : decode method_3_code 10 = .ok (.ishr, 1) := by decide +kernel
theorem d3_11 : decode method_3_code 11 = .ok (.iconst 1, 1) := by decide +kernel
theorem d3_12 : decode method_3_code 12 = .ok (.iand, 1) := by decide +kernel
theorem d3_13 : decode method_3_code 13 = .ok (.ifCond .ne 4, 3) := by decide +kernel
theorem d3_16 : decode method_3_code 16 = .ok (.return_, 1) := by decide +kernel
theorem d3_17 : decode method_3_code 17 = .ok (.iload_n 3, 1) := by decide +kernel
theorem d3_18 : decode method_3_code 18 = .ok (.iconst 2, 1) := by decide +kernel
theorem d3_19 : decode method_3_code 19 = .ok (.iload 5, 2) := by decide +kernel
theorem d3_21 : decode method_3_code 21 = .ok (.imul, 1) := by decide +kernel
theorem d3_22 : decode method_3_code 22 = .ok (.ishr, 1) := by decide +kernel
theorem d3_23 : decode method_3_code 23 = .ok (.iconst 3, 1) := by decide +kernel
theorem d3_24 : decode method_3_code 24 = .ok (.iand, 1) := by decide +kernel
theorem d3_25 : decode method_3_code 25 = .ok (.iload_n 1, 1) := by decide +kernel
theorem d3_26 : decode method_3_code 26 = .ok (.irem, 1) := by decide +kernel
theorem d3_27 : decode method_3_code 27 = .ok (.istore 7, 2) := by decide +kernel
theorem d3_29 : decode method_3_code 29 = .ok (.iload 4, 2) := by decide +kernel
theorem d3_31 : decode method_3_code 31 = .ok (.iload 5, 2) := by decide +kernel
theorem d3_33 : decode method_3_code 33 = .ok (.ishr, 1) := by decide +kernel
theorem d3_34 : decode method_3_code 34 = .ok (.iconst 1, 1) := by decide +kernel
theorem d3_35 : decode method_3_code 35 = .ok (.iand, 1) := by decide +kernel
theorem d3_36 : decode method_3_code 36 = .ok (.ifCond .eq 7, 3) := by decide +kernel
theorem d3_39 : decode method_3_code 39 = .ok (.iconst 1, 1) := by decide +kernel
theorem d3_40 : decode method_3_code 40 = .ok (.goto 4, 3) := by decide +kernel
theorem d3_43 : decode method_3_code 43 = .ok (.iconst 0, 1) := by decide +kernel
theorem d3_44 : decode method_3_code 44 = .ok (.istore 8, 2) := by decide +kernel
theorem d3_46 : decode method_3_code 46 = .ok (.aload_n 0, 1) := by decide +kernel
theorem d3_47 : decode method_3_code 47 = .ok (.iload 7, 2) := by decide +kernel
theorem d3_49 : decode method_3_code 49 = .ok (.iload 8, 2) := by decide +kernel
theorem d3_51 : decode method_3_code 51 = .ok (.invokevirtual 22, 3) := by decide +kernel
theorem d3_54 : decode method_3_code 54 = .ok (.aload 6, 2) := by decide +kernel
theorem d3_56 : decode method_3_code 56 = .ok (.iconst 0, 1) := by decide +kernel
theorem d3_57 : decode method_3_code 57 = .ok (.dup2, 1) := by decide +kernel
theorem d3_58 : decode method_3_code 58 = .ok (.laload, 1) := by decide +kernel
theorem d3_59 : decode method_3_code 59 = .ok (.lconst 1, 1) := by decide +kernel
theorem d3_60 : decode method_3_code 60 = .ok (.ladd, 1) := by decide +kernel
theorem d3_61 : decode method_3_code 61 = .ok (.lastore, 1) := by decide +kernel
theorem d3_62 : decode method_3_code 62 = .ok (.iload 8, 2) := by decide +kernel
theorem d3_64 : decode method_3_code 64 = .ok (.ifCond .eq 11, 3) := by decide +kernel
theorem d3_67 : decode method_3_code 67 = .ok (.aload 6, 2) := by decide +kernel
theorem d3_69 : decode method_3_code 69 = .ok (.iconst 1, 1) := by decide +kernel
theorem d3_70 : decode method_3_code 70 = .ok (.dup2, 1) := by decide +kernel
theorem d3_71 : decode method_3_code 71 = .ok (.laload, 1) := by decide +kernel
theorem d3_72 : decode method_3_code 72 = .ok (.lconst 1, 1) := by decide +kernel
theorem d3_73 : decode method_3_code 73 = .ok (.ladd, 1) := by decide +kernel
theorem d3_74 : decode method_3_code 74 = .ok (.lastore, 1) := by decide +kernel
theorem d3_75 : decode method_3_code 75 = .ok (.return_, 1) := by decide +kernel
theorem pn_com_example_wandel_wandel_replay_ObservationsChangeSharePinLaw : plainName "com/example/wandel/wandel/replay/ObservationsChangeSharePinLaw" = true := by first | (simp [plainName, overriddenIn]; done) | decide +kernel
theorem pd__IZ_V : parseMethodDescriptor "(IZ)V" = some ⟨[.int, .boolean], none⟩ := by decide +kernel
theorem ef_3n1 (r0 : Addr) (p2 : Int32) (p3 : Int32) (p4 : Int32) (p5 : Int32) (r6 : Addr) (ca ch lc ar ge : Addr) (kca kch klc kar kge : ClassId) (kt : ClassId) (v0 : Int32) (c0 : Int32) (l0 : Int32) (m0 : Int64) (g0 : UInt64) (t0 t1 : Int64) (kk : Int) (m : MethodId) : entryFrame m #[(.ref r0), (.int (1 : Int32)), (.int p2), (.int p3), (.int p4), (.int p5), (.ref r6)] 9 = mkF m 0 #[.val (.ref r0), .val (.int (1 : Int32)), .val (.int p2), .val (.int p3), .val (.int p4), .val (.int p5), .val (.ref r6), .unset, .unset] [] := by first | (simp [entryFrame, mkF, argsToLocals, Value.category]; done) | rfl
def Q3n1 (Z : State) (r0 : Addr) (p2 : Int32) (p3 : Int32) (p4 : Int32) (p5 : Int32) (r6 : Addr) (ca ch lc ar ge : Addr) (kca kch klc kar kge : ClassId) (kt : ClassId) (v0 : Int32) (c0 : Int32) (l0 : Int32) (m0 : Int64) (g0 : UInt64) (t0 t1 : Int64) (kk : Int) (h0 : Heap) (n0 : Nat) (v : Option Value) (h : Heap) (L : List Loc) : Prop := ∃ (v0' : Int32) (c0' : Int32) (l0' : Int32) (m0' : Int64) (g0' : UInt64) (t0' : Int64) (t1' : Int64), v = none ∧ Fr n0 L ∧ Keep h0 h [ca, ch, lc, ar, ge, r6] ∧ Arv Z h ca kca .int (1 : Int32) [(.int v0')] (.int (0 : Int32)) ∧ Arv Z h ch kch .int (1 : Int32) [(.int c0')] (.int (0 : Int32)) ∧ Arv Z h lc klc .boolean (1 : Int32) [(.int l0')] (.int (0 : Int32)) ∧ Arv Z h ar kar .long (1 : Int32) [(.long m0')] (.long (0 : Int64)) ∧ Arv Z h ge kge .double (1 : Int32) [(.double g0')] (.double (0 : UInt64)) ∧ Arv Z h r6 kt .long (2 : Int32) [(.long t0'), (.long t1')] (.long (0 : Int64)) ∧ Inv1 (kk + 1) v0' c0' g0' t0' t1'
set_option maxRecDepth 65536 in
set_option maxHeartbeats 40000000 in
theorem rm3n1 (l : Launch) (Z : State) (a0 : Array Value) (hw : ∀ d ∈ tables_1, d.before a0 Z = true) (ws : List Jvm.Cond) (r0 : Addr) (p2 : Int32) (p3 : Int32) (p4 : Int32) (p5 : Int32) (r6 : Addr) (ca ch lc ar ge : Addr) (kca kch klc kar kge : ClassId) (kt : ClassId) (v0 : Int32) (c0 : Int32) (l0 : Int32) (m0 : Int64) (g0 : UInt64) (t0 t1 : Int64) (kk : Int) (h0 : Heap) (n0 : Nat) (Z0 : n0 ≤ h0.size) (E_r : Exa Z h0 r0 "com/example/wandel/wandel/replay/Observations") (F_count : Fld Z h0 r0 "com/example/wandel/wandel/replay/Observations" "count" "[I" (.ref ca)) (F_changes : Fld Z h0 r0 "com/example/wandel/wandel/replay/Observations" "changes" "[I" (.ref ch)) (F_lastChanged : Fld Z h0 r0 "com/example/wandel/wandel/replay/Observations" "lastChanged" "[Z" (.ref lc)) (F_arithmetic : Fld Z h0 r0 "com/example/wandel/wandel/replay/Observations" "arithmetic" "[J" (.ref ar)) (F_geometric : Fld Z h0 r0 "com/example/wandel/wandel/replay/Observations" "geometric" "[D" (.ref ge)) (V_ca : Arv Z h0 ca kca .int (1 : Int32) [(.int v0)] (.int (0 : Int32))) (V_ch : Arv Z h0 ch kch .int (1 : Int32) [(.int c0)] (.int (0 : Int32))) (V_lc : Arv Z h0 lc klc .boolean (1 : Int32) [(.int l0)] (.int (0 : Int32))) (V_ar : Arv Z h0 ar kar .long (1 : Int32) [(.long m0)] (.long (0 : Int64))) (V_ge : Arv Z h0 ge kge .double (1 : Int32) [(.double g0)] (.double (0 : UInt64))) (V_t : Arv Z h0 r6 kt .long (2 : Int32) [(.long t0), (.long t1)] (.long (0 : Int64))) (ne_r0_ca : r0 ≠ ca) (ne_r0_ch : r0 ≠ ch) (ne_r0_lc : r0 ≠ lc) (ne_r0_ar : r0 ≠ ar) (ne_r0_ge : r0 ≠ ge) (ne_ca_ch : ca ≠ ch) (ne_ca_lc : ca ≠ lc) (ne_ca_ar : ca ≠ ar) (ne_ca_ge : ca ≠ ge) (ne_ch_lc : ch ≠ lc) (ne_ch_ar : ch ≠ ar) (ne_ch_ge : ch ≠ ge) (ne_lc_ar : lc ≠ ar) (ne_lc_ge : lc ≠ ge) (ne_ar_ge : ar ≠ ge) (ne_r0_r6 : r0 ≠ r6) (ne_ca_r6 : ca ≠ r6) (ne_ch_r6 : ch ≠ r6) (ne_lc_r6 : lc ≠ r6) (ne_ar_r6 : ar ≠ r6) (ne_ge_r6 : ge ≠ r6) (g_ca : n0 ≤ ca) (g_ch : n0 ≤ ch) (g_lc : n0 ≤ lc) (g_ar : n0 ≤ ar) (g_ge : n0 ≤ ge) (g_r6 : n0 ≤ r6) (hI : Inv1 kk v0 c0 g0 t0 t1) (hk : kk ≤ 100) :
    MetFree l (⟨"com/example/wandel/wandel/replay/ObservationsChangeSharePinLaw", "step", "(Lcom/example/wandel/wandel/replay/Observations;IIIII[J)V"⟩ : MethodName) (head1 (Jvm.Cond.code (⟨"com/example/wandel/wandel/replay/ObservationsChangeSharePinLaw", "step", "(Lcom/example/wandel/wandel/replay/Observations;IIIII[J)V"⟩ : MethodName) method_3_code 9 none :: ws) ({ frames := 1, cells := 0, slots := 0, locals := 15 } : Room)) (fun a U => a = #[(.ref r0), (.int (1 : Int32)), (.int p2), (.int p3), (.int p4), (.int p5), (.ref r6)] ∧ Z.Warmed39 U.vm ∧ U.heap = h0) (fun _ _ _ _ _ => True) (fun _ U o U' => ∃ v L, o = .returned v ∧ Q3n1 Z r0 p2 p3 p4 p5 r6 ca ch lc ar ge kca kch klc kar kge kt v0 c0 l0 m0 g0 t0 t1 kk h0 n0 v U'.heap L ∧ FrameEnd U o U' L ({ frames := 1, cells := 0, slots := 0, locals := 15 } : Room).cells ({ frames := 1, cells := 0, slots := 0, locals := 15 } : Room).slots) := by
  refine MetFree.of_bodySF (plainFor_of_name pn_com_example_wandel_wandel_replay_ObservationsChangeSharePinLaw) hisR ?_
  intro p e s m args below meth c s₁ Bd hml0 hP hK
  obtain ⟨rfl, hZ, hh⟩ := hP
  have hx := Bd.exec
  have hby := Bd.bytes
  have hml : c.maxLocals = 9 := hml0
  have hown : s.vm.findClass "com/example/wandel/wandel/replay/ObservationsChangeSharePinLaw" = some m.cls := findClass_of_methodNamed Bd.named
  have hnm := (name_of_methodNamed Bd.named Bd.method).1
  have X0 : Stand p l e ({ frames := 1, cells := 0, slots := 0, locals := 15 } : Room) s m #[(.ref r0), (.int (1 : Int32)), (.int p2), (.int p3), (.int p4), (.int p5), (.ref r6)] below meth c s₁ [] 0 0 := Stand.of_body Bd
  have e0 : s₁.heap = h0 := by rw [← hh, Bd.state]; rfl
  have N0 := Fr.nil n0
  have pre0 : ∀ t, Steps p.tables e below (s₁.setTop (mkF m 0 #[.val (.ref r0), .val (.int (1 : Int32)), .val (.int p2), .val (.int p3), .val (.int p4), .val (.int p5), .val (.ref r6), .unset, .unset] [])) t → Steps p.tables e below (s₁.setTop (entryFrame m #[(.ref r0), (.int (1 : Int32)), (.int p2), (.int p3), (.int p4), (.int p5), (.ref r6)] 9)) t := fun t k => castTop (ef_3n1 r0 p2 p3 p4 p5 r6 ca ch lc ar ge kca kch klc kar kge kt v0 c0 l0 m0 g0 t0 t1 kk m) k
  have pre1 : ∀ t, Steps p.tables e below (s₁.setTop (mkF m 13 #[.val (.ref r0), .val (.int (1 : Int32)), .val (.int p2), .val (.int p3), .val (.int p4), .val (.int p5), .val (.ref r6), .unset, .unset] [(.int ((p2 >>> (((2 : Int32) + p5) &&& 31)) &&& (1 : Int32)))])) t → Steps p.tables e below (s₁.setTop (entryFrame m #[(.ref r0), (.int (1 : Int32)), (.int p2), (.int p3), (.int p4), (.int p5), (.ref r6)] 9)) t := fun t kt => pre0 t (by
    show Steps p.tables e below (s₁.setTop (mkF m 0 #[.val (.ref r0), .val (.int (1 : Int32)), .val (.int p2), .val (.int p3), .val (.int p4), .val (.int p5), .val (.ref r6), .unset, .unset] [])) _
    refine XS.iloadN X0.here hx rfl (hb hby d3_0) rfl ?_
    refine XS.ifYes X0.here hx rfl (pc0 := 1) (pc' := 5) rfl (hb hby d3_1) rfl ((if0 _ _).trans (feq (by decide : ¬ ((1 : Int32) = (0 : Int32)))).2) (by decide) (by decide) ?_
    refine XS.iloadN X0.here hx rfl (hb hby d3_5) rfl ?_
    refine XS.iconst X0.here hx rfl (hb hby d3_6) ?_
    refine XS.iload X0.here hx rfl (hb hby d3_7) rfl ?_
    refine XS.iadd X0.here hx rfl (hb hby d3_9) rfl ?_
    refine XS.ishr X0.here hx rfl (hb hby d3_10) rfl ?_
    refine XS.iconst X0.here hx rfl (hb hby d3_11) ?_
    show Steps p.tables e below (s₁.setTop (mkF m 12 #[.val (.ref r0), .val (.int (1 : Int32)), .val (.int p2), .val (.int p3), .val (.int p4), .val (.int p5), .val (.ref r6), .unset, .unset] [(.int (1 : Int32)), (.int (p2 >>> (((2 : Int32) + p5) &&& 31)))])) _
    refine XS.iand X0.here hx rfl (hb hby d3_12) rfl ?_
    exact kt)
  by_cases hc13 : ((p2 >>> (((2 : Int32) + p5) &&& 31)) &&& (1 : Int32)) = (0 : Int32)
  · obtain ⟨fs, hr, hrun, hended, hW, hsame⟩ := X0.leave (v := none) (fun _ => rfl)
    refine ⟨_, _, pre1 _ ?_, hrun, hended, _, _, rfl, ?_, ⟨_, rfl⟩, hW, hsame.mono (by decide) (by decide)⟩
    · show Steps p.tables e below (s₁.setTop (mkF m 13 #[.val (.ref r0), .val (.int (1 : Int32)), .val (.int p2), .val (.int p3), .val (.int p4), .val (.int p5), .val (.ref r6), .unset, .unset] [(.int ((p2 >>> (((2 : Int32) + p5) &&& 31)) &&& (1 : Int32)))])) _
      refine XS.ifNo X0.here hx rfl (hb hby d3_13) rfl ((if0 _ _).trans (teq hc13).2) ?_
      show Steps p.tables e below (s₁.setTop (mkF m 16 #[.val (.ref r0), .val (.int (1 : Int32)), .val (.int p2), .val (.int p3), .val (.int p4), .val (.int p5), .val (.ref r6), .unset, .unset] [])) _
      exact X0.returnOut hx Bd.returns (hb hby d3_16) hr
    · show Q3n1 Z r0 p2 p3 p4 p5 r6 ca ch lc ar ge kca kch klc kar kge kt v0 c0 l0 m0 g0 t0 t1 kk h0 n0 _ s₁.heap _
      rw [e0]
      exact ⟨v0, c0, l0, m0, g0, t0, t1, rfl, N0, (Keep.refl h0 [ca, ch, lc, ar, ge, r6]), V_ca, V_ch, V_lc, V_ar, V_ge, V_t, (own_same1 hI)⟩
  · have pre2 : ∀ t, Steps p.tables e below (s₁.setTop (mkF m 29 #[.val (.ref r0), .val (.int (1 : Int32)), .val (.int p2), .val (.int p3), .val (.int p4), .val (.int p5), .val (.ref r6), .val (.int (A3n1_27 p3 p5)), .unset] [])) t → Steps p.tables e below (s₁.setTop (entryFrame m #[(.ref r0), (.int (1 : Int32)), (.int p2), (.int p3), (.int p4), (.int p5), (.ref r6)] 9)) t := fun t kt => pre1 t (by
      show Steps p.tables e below (s₁.setTop (mkF m 13 #[.val (.ref r0), .val (.int (1 : Int32)), .val (.int p2), .val (.int p3), .val (.int p4), .val (.int p5), .val (.ref r6), .unset, .unset] [(.int ((p2 >>> (((2 : Int32) + p5) &&& 31)) &&& (1 : Int32)))])) _
      refine XS.ifYes X0.here hx rfl (pc0 := 13) (pc' := 17) rfl (hb hby d3_13) rfl ((if0 _ _).trans (feq hc13).2) (by decide) (by decide) ?_
      refine XS.iloadN X0.here hx rfl (hb hby d3_17) rfl ?_
      refine XS.iconst X0.here hx rfl (hb hby d3_18) ?_
      refine XS.iload X0.here hx rfl (hb hby d3_19) rfl ?_
      refine XS.imul X0.here hx rfl (hb hby d3_21) rfl ?_
      refine XS.ishr X0.here hx rfl (hb hby d3_22) rfl ?_
      refine XS.iconst X0.here hx rfl (hb hby d3_23) ?_
      refine XS.iand X0.here hx rfl (hb hby d3_24) rfl ?_
      show Steps p.tables e below (s₁.setTop (mkF m 25 #[.val (.ref r0), .val (.int (1 : Int32)), .val (.int p2), .val (.int p3), .val (.int p4), .val (.int p5), .val (.ref r6), .unset, .unset] [(.int ((p3 >>> (((2 : Int32) * p5) &&& 31)) &&& (3 : Int32)))])) _
      refine XS.iloadN X0.here hx rfl (hb hby d3_25) rfl ?_
      refine iremM X0 hx rfl (hb hby d3_26) rfl (by decide) ?_
      refine XS.istore X0.here hx rfl (hb hby d3_27) rfl (l' := #[.val (.ref r0), .val (.int (1 : Int32)), .val (.int p2), .val (.int p3), .val (.int p4), .val (.int p5), .val (.ref r6), .val (.int (((p3 >>> (((2 : Int32) * p5) &&& 31)) &&& (3 : Int32)) % (1 : Int32))), .unset]) rfl ?_
      exact kt)
    by_cases hp0 : (A3n1_27 p3 p5) = (0 : Int32)
    · have qr3 : (A3n1_27 p3 p5) = (0 : Int32) := hp0
      have pre4 : ∀ t, Steps p.tables e below (s₁.setTop (mkF m 29 #[.val (.ref r0), .val (.int (1 : Int32)), .val (.int p2), .val (.int p3), .val (.int p4), .val (.int p5), .val (.ref r6), .val (.int (0 : Int32)), .unset] [])) t → Steps p.tables e below (s₁.setTop (entryFrame m #[(.ref r0), (.int (1 : Int32)), (.int p2), (.int p3), (.int p4), (.int p5), (.ref r6)] 9)) t := fun t kt => pre2 t (by rw [qr3]; exact kt)
      have pre5 : ∀ t, Steps p.tables e below (s₁.setTop (mkF m 36 #[.val (.ref r0), .val (.int (1 : Int32)), .val (.int p2), .val (.int p3), .val (.int p4), .val (.int p5), .val (.ref r6), .val (.int (0 : Int32)), .unset] [(.int ((p4 >>> (p5 &&& 31)) &&& (1 : Int32)))])) t → Steps p.tables e below (s₁.setTop (entryFrame m #[(.ref r0), (.int (1 : Int32)), (.int p2), (.int p3), (.int p4), (.int p5), (.ref r6)] 9)) t := fun t kt => pre4 t (by
        show Steps p.tables e below (s₁.setTop (mkF m 29 #[.val (.ref r0), .val (.int (1 : Int32)), .val (.int p2), .val (.int p3), .val (.int p4), .val (.int p5), .val (.ref r6), .val (.int (0 : Int32)), .unset] [])) _
        refine XS.iload X0.here hx rfl (hb hby d3_29) rfl ?_
        refine XS.iload X0.here hx rfl (hb hby d3_31) rfl ?_
        refine XS.ishr X0.here hx rfl (hb hby d3_33) rfl ?_
        refine XS.iconst X0.here hx rfl (hb hby d3_34) ?_
        refine XS.iand X0.here hx rfl (hb hby d3_35) rfl ?_
        exact kt)
      by_cases hc36 : ((p4 >>> (p5 &&& 31)) &&& (1 : Int32)) = (0 : Int32)
      · obtain ⟨cq6, kq6, q6a, q6b, q6c⟩ := isOf hZ e0 E_r
        obtain ⟨_, _, ⟨T6, L6, k6, n6⟩, -, X6, ⟨Lc6, hQ6, ll6, ly6, lz6⟩, st6⟩ := X0.virtualBack hx (y := (⟨"com/example/wandel/wandel/replay/Observations", "record", "(IZ)V"⟩ : MethodName)) (z := (⟨"com/example/wandel/wandel/replay/Observations", "record", "(IZ)V"⟩ : MethodName)) hown (mvT hZ (hw _ (List.mem_of_getElem? (i := 32) rfl))) (mvT hZ (hw _ (List.mem_of_getElem? (i := 33) rfl))) (notFace_of_selects (args := #[]) (mvT hZ (hw _ (List.mem_of_getElem? (i := 35) rfl)))) (mvT hZ (hw _ (List.mem_of_getElem? (i := 35) rfl))) (mvT hZ (hw _ (List.mem_of_getElem? (i := 34) rfl))) (by decide) (backOf (W := 0) (rm5n1j0 l Z a0 hw [] r0 (0 : Int32) ca ch lc ar ge kca kch klc kar kge v0 c0 l0 m0 g0 h0 n0 Z0 F_count F_changes F_lastChanged F_arithmetic F_geometric V_ca V_ch V_lc V_ar V_ge ne_r0_ca ne_r0_ch ne_r0_lc ne_r0_ar ne_r0_ge ne_ca_ch ne_ca_lc ne_ca_ar ne_ca_ge ne_ch_lc ne_ch_ar ne_ch_ge ne_lc_ar ne_lc_ge ne_ar_ge g_ca g_ch g_lc g_ar g_ge (own_gg1_0 hI)) hZ (hw _ (List.mem_of_getElem? (i := 36) rfl)) (hw _ (List.mem_of_getElem? (i := 2) rfl)) (by decide) (by decide)) q6a q6c (g := (mkF m 51 #[.val (.ref r0), .val (.int (1 : Int32)), .val (.int p2), .val (.int p3), .val (.int p4), .val (.int p5), .val (.ref r6), .val (.int (0 : Int32)), .val (.int (0 : Int32))] [(.int (0 : Int32)), (.int (0 : Int32)), (.ref r0)])) rfl (by rw [hml]; rfl) (Steps.refl _) (argsL := [(.int (0 : Int32)), (.int (0 : Int32))]) (rest := []) (lenOf pd__IZ_V rfl) rfl (by show 2 * 0 + _ ≤ _; exact Nat.le_of_eq rfl) (hb hby d3_51) (fun _ _ => ⟨rfl, e0, (by decide : 0 + 0 ≤ _), (by decide : 0 + 0 ≤ _)⟩)
        dsimp only [Pt.U, Pt.locs, Pt.cells, Pt.slots] at X6 ll6 ly6 lz6 st6 hQ6
        subst ll6 ly6 lz6
        obtain ⟨rfl, N6q, K6c, P6_0, P6_1, P6_2, P6_3, P6_4⟩ := hQ6
        have N6 := Fr.app N0 N6q
        have K6 : Keep h0 T6.heap [ca, ch, lc, ar, ge, r6] := (Keep.refl h0 [ca, ch, lc, ar, ge, r6]).trans K6c (allS (Or.inl (List.mem_of_getElem? (i := 0) rfl)) (allS (Or.inl (List.mem_of_getElem? (i := 1) rfl)) (allS (Or.inl (List.mem_of_getElem? (i := 2) rfl)) (allS (Or.inl (List.mem_of_getElem? (i := 3) rfl)) (allS (Or.inl (List.mem_of_getElem? (i := 4) rfl)) all0)))))
        obtain ⟨cl7, Ar7, qa7, S7, Nl7, H7, G7⟩ := id (V_t.keep K6c (ninS (Ne.symm ne_ca_r6) (ninS (Ne.symm ne_ch_r6) (ninS (Ne.symm ne_lc_r6) (ninS (Ne.symm ne_ar_r6) (ninS (Ne.symm ne_ge_r6) nin0))))))
        have hin7 : ¬ ((0 : Int32) < 0 ∨ cl7.slots.size ≤ ((0 : Int32)).toNatClampNeg) := inb_of S7 ⟨by decide, by decide⟩
        have hat7 : cl7.slots[((0 : Int32)).toNatClampNeg]? = some (.long t0) := Has.at H7 hin7 rfl
        obtain ⟨cl8, Ar8, qa8, S8, Nl8, H8, G8⟩ := id (V_t.keep K6c (ninS (Ne.symm ne_ca_r6) (ninS (Ne.symm ne_ch_r6) (ninS (Ne.symm ne_lc_r6) (ninS (Ne.symm ne_ar_r6) (ninS (Ne.symm ne_ge_r6) nin0))))))
        have hin8 : ¬ ((0 : Int32) < 0 ∨ cl8.slots.size ≤ ((0 : Int32)).toNatClampNeg) := inb_of S8 ⟨by decide, by decide⟩
        obtain ⟨T8, h8, X8, e8, W8, st8⟩ := stJ X6 hx hZ (rfl : T6.heap = T6.heap) Ar8 (j := (0 : Int32)) hin8 (g := (mkF m 61 #[.val (.ref r0), .val (.int (1 : Int32)), .val (.int p2), .val (.int p3), .val (.int p4), .val (.int p5), .val (.ref r6), .val (.int (0 : Int32)), .val (.int (0 : Int32))] [(.long (t0 + (1 : Int64))), (.int (0 : Int32)), (.ref r6)])) rfl rfl (hb hby d3_61)
        have V8 : Arv Z h8 r6 kt .long (2 : Int32) [(.long (t0 + (1 : Int64))), (.long t1)] (.long (0 : Int64)) := Arv.set Ar8 qa8 S8 Nl8 H8 G8 rfl W8 0 rfl (Nat.le_of_ble_eq_true rfl)
        have K8 : Keep h0 h8 [ca, ch, lc, ar, ge, r6] := K6.wr W8 (Or.inl (List.mem_of_getElem? (i := 5) rfl))
        have N8 := Fr.snoc X8 N6 g_r6
        obtain ⟨fs, hr, hrun, hended, hW, hsame⟩ := X8.leave (v := none) (fun _ => rfl)
        refine ⟨_, _, pre5 _ ?_, hrun, hended, _, _, rfl, ?_, ⟨_, rfl⟩, hW, hsame.mono (by decide) (by decide)⟩
        · show Steps p.tables e below (s₁.setTop (mkF m 36 #[.val (.ref r0), .val (.int (1 : Int32)), .val (.int p2), .val (.int p3), .val (.int p4), .val (.int p5), .val (.ref r6), .val (.int (0 : Int32)), .unset] [(.int ((p4 >>> (p5 &&& 31)) &&& (1 : Int32)))])) _
          refine XS.ifYes X0.here hx rfl (pc0 := 36) (pc' := 43) rfl (hb hby d3_36) rfl ((if0 _ _).trans (teq hc36).1) (by decide) (by decide) ?_
          refine XS.iconst X0.here hx rfl (hb hby d3_43) ?_
          refine XS.istore X0.here hx rfl (hb hby d3_44) rfl (l' := #[.val (.ref r0), .val (.int (1 : Int32)), .val (.int p2), .val (.int p3), .val (.int p4), .val (.int p5), .val (.ref r6), .val (.int (0 : Int32)), .val (.int (0 : Int32))]) rfl ?_
          refine XS.aloadN X0.here hx rfl (hb hby d3_46) rfl rfl ?_
          refine XS.iload X0.here hx rfl (hb hby d3_47) rfl ?_
          refine XS.iload X0.here hx rfl (hb hby d3_49) rfl ?_
          refine st6.trans ?_
          refine XS.aload X6.here hx rfl (hb hby d3_54) rfl rfl ?_
          show Steps p.tables e below (T6.setTop (mkF m 56 #[.val (.ref r0), .val (.int (1 : Int32)), .val (.int p2), .val (.int p3), .val (.int p4), .val (.int p5), .val (.ref r6), .val (.int (0 : Int32)), .val (.int (0 : Int32))] [(.ref r6)])) _
          refine XS.iconst X6.here hx rfl (hb hby d3_56) ?_
          refine Jvm.Free.XT.dup2 X6.here hx rfl (hb hby d3_57) rfl rfl rfl ?_
          refine X6.laload hx (j := (0 : Int32)) (v := (.long t0)) (by rw [(rfl : T6.heap = T6.heap)]; exact Ar7.1) (State.isArrayOf_alike hZ.alike Ar7.2.1) Ar7.2.2 hin7 hat7 (g := (mkF m 58 #[.val (.ref r0), .val (.int (1 : Int32)), .val (.int p2), .val (.int p3), .val (.int p4), .val (.int p5), .val (.ref r6), .val (.int (0 : Int32)), .val (.int (0 : Int32))] [(.int (0 : Int32)), (.ref r6), (.int (0 : Int32)), (.ref r6)])) rfl rfl (hb hby d3_58) _ ?_
          refine XS.lconst X6.here hx rfl (hb hby d3_59) ?_
          refine XS.ladd X6.here hx rfl (hb hby d3_60) rfl ?_
          refine st8 _ ?_
          refine XS.iload X8.here hx rfl (hb hby d3_62) rfl ?_
          refine XS.ifYes X8.here hx rfl (pc0 := 64) (pc' := 75) rfl (hb hby d3_64) rfl ((if0 _ _).trans (teq (by decide : (0 : Int32) = (0 : Int32))).1) (by decide) (by decide) ?_
          show Steps p.tables e below (T8.setTop (mkF m 75 #[.val (.ref r0), .val (.int (1 : Int32)), .val (.int p2), .val (.int p3), .val (.int p4), .val (.int p5), .val (.ref r6), .val (.int (0 : Int32)), .val (.int (0 : Int32))] [])) _
          exact X8.returnOut hx Bd.returns (hb hby d3_75) hr
        · show Q3n1 Z r0 p2 p3 p4 p5 r6 ca ch lc ar ge kca kch klc kar kge kt v0 c0 l0 m0 g0 t0 t1 kk h0 n0 _ T8.heap _
          rw [e8]
          exact ⟨(v0 + (1 : Int32)), (c0 + (J5n1j0_1_S0 (0 : Int32))), (nar .boolean (0 : Int32)), (m0 + (((J5n1j0_1_S0 (0 : Int32)).toInt64) * ((v0 + (1 : Int32)).toInt64))), (FP.ddiv (FP.dadd g0 (FP.i2d (J5n1j0_1_S0 (0 : Int32)))) (4611686018427387904 : UInt64)), (t0 + (1 : Int64)), t1, rfl, N8, K8, (P6_0.other W8 ne_ca_r6), (P6_1.other W8 ne_ch_r6), (P6_2.other W8 ne_lc_r6), (P6_3.other W8 ne_ar_r6), (P6_4.other W8 ne_ge_r6), V8, (own_up1_0_0 hk (by decide) hI)⟩
      · obtain ⟨cq9, kq9, q9a, q9b, q9c⟩ := isOf hZ e0 E_r
        obtain ⟨_, _, ⟨T9, L9, k9, n9⟩, -, X9, ⟨Lc9, hQ9, ll9, ly9, lz9⟩, st9⟩ := X0.virtualBack hx (y := (⟨"com/example/wandel/wandel/replay/Observations", "record", "(IZ)V"⟩ : MethodName)) (z := (⟨"com/example/wandel/wandel/replay/Observations", "record", "(IZ)V"⟩ : MethodName)) hown (mvT hZ (hw _ (List.mem_of_getElem? (i := 32) rfl))) (mvT hZ (hw _ (List.mem_of_getElem? (i := 33) rfl))) (notFace_of_selects (args := #[]) (mvT hZ (hw _ (List.mem_of_getElem? (i := 35) rfl)))) (mvT hZ (hw _ (List.mem_of_getElem? (i := 35) rfl))) (mvT hZ (hw _ (List.mem_of_getElem? (i := 34) rfl))) (by decide) (backOf (W := 0) (rm5n1j0 l Z a0 hw [] r0 (1 : Int32) ca ch lc ar ge kca kch klc kar kge v0 c0 l0 m0 g0 h0 n0 Z0 F_count F_changes F_lastChanged F_arithmetic F_geometric V_ca V_ch V_lc V_ar V_ge ne_r0_ca ne_r0_ch ne_r0_lc ne_r0_ar ne_r0_ge ne_ca_ch ne_ca_lc ne_ca_ar ne_ca_ge ne_ch_lc ne_ch_ar ne_ch_ge ne_lc_ar ne_lc_ge ne_ar_ge g_ca g_ch g_lc g_ar g_ge (own_gg1_0 hI)) hZ (hw _ (List.mem_of_getElem? (i := 36) rfl)) (hw _ (List.mem_of_getElem? (i := 2) rfl)) (by decide) (by decide)) q9a q9c (g := (mkF m 51 #[.val (.ref r0), .val (.int (1 : Int32)), .val (.int p2), .val (.int p3), .val (.int p4), .val (.int p5), .val (.ref r6), .val (.int (0 : Int32)), .val (.int (1 : Int32))] [(.int (1 : Int32)), (.int (0 : Int32)), (.ref r0)])) rfl (by rw [hml]; rfl) (Steps.refl _) (argsL := [(.int (0 : Int32)), (.int (1 : Int32))]) (rest := []) (lenOf pd__IZ_V rfl) rfl (by show 2 * 0 + _ ≤ _; exact Nat.le_of_eq rfl) (hb hby d3_51) (fun _ _ => ⟨rfl, e0, (by decide : 0 + 0 ≤ _), (by decide : 0 + 0 ≤ _)⟩)
        dsimp only [Pt.U, Pt.locs, Pt.cells, Pt.slots] at X9 ll9 ly9 lz9 st9 hQ9
        subst ll9 ly9 lz9
        obtain ⟨rfl, N9q, K9c, P9_0, P9_1, P9_2, P9_3, P9_4⟩ := hQ9
        have N9 := Fr.app N0 N9q
        have K9 : Keep h0 T9.heap [ca, ch, lc, ar, ge, r6] := (Keep.refl h0 [ca, ch, lc, ar, ge, r6]).trans K9c (allS (Or.inl (List.mem_of_getElem? (i := 0) rfl)) (allS (Or.inl (List.mem_of_getElem? (i := 1) rfl)) (allS (Or.inl (List.mem_of_getElem? (i := 2) rfl)) (allS (Or.inl (List.mem_of_getElem? (i := 3) rfl)) (allS (Or.inl (List.mem_of_getElem? (i := 4) rfl)) all0)))))
        obtain ⟨cl10, Ar10, qa10, S10, Nl10, H10, G10⟩ := id (V_t.keep K9c (ninS (Ne.symm ne_ca_r6) (ninS (Ne.symm ne_ch_r6) (ninS (Ne.symm ne_lc_r6) (ninS (Ne.symm ne_ar_r6) (ninS (Ne.symm ne_ge_r6) nin0))))))
        have hin10 : ¬ ((0 : Int32) < 0 ∨ cl10.slots.size ≤ ((0 : Int32)).toNatClampNeg) := inb_of S10 ⟨by decide, by decide⟩
        have hat10 : cl10.slots[((0 : Int32)).toNatClampNeg]? = some (.long t0) := Has.at H10 hin10 rfl
        obtain ⟨cl11, Ar11, qa11, S11, Nl11, H11, G11⟩ := id (V_t.keep K9c (ninS (Ne.symm ne_ca_r6) (ninS (Ne.symm ne_ch_r6) (ninS (Ne.symm ne_lc_r6) (ninS (Ne.symm ne_ar_r6) (ninS (Ne.symm ne_ge_r6) nin0))))))
        have hin11 : ¬ ((0 : Int32) < 0 ∨ cl11.slots.size ≤ ((0 : Int32)).toNatClampNeg) := inb_of S11 ⟨by decide, by decide⟩
        obtain ⟨T11, h11, X11, e11, W11, st11⟩ := stJ X9 hx hZ (rfl : T9.heap = T9.heap) Ar11 (j := (0 : Int32)) hin11 (g := (mkF m 61 #[.val (.ref r0), .val (.int (1 : Int32)), .val (.int p2), .val (.int p3), .val (.int p4), .val (.int p5), .val (.ref r6), .val (.int (0 : Int32)), .val (.int (1 : Int32))] [(.long (t0 + (1 : Int64))), (.int (0 : Int32)), (.ref r6)])) rfl rfl (hb hby d3_61)
        have V11 : Arv Z h11 r6 kt .long (2 : Int32) [(.long (t0 + (1 : Int64))), (.long t1)] (.long (0 : Int64)) := Arv.set Ar11 qa11 S11 Nl11 H11 G11 rfl W11 0 rfl (Nat.le_of_ble_eq_true rfl)
        have K11 : Keep h0 h11 [ca, ch, lc, ar, ge, r6] := K9.wr W11 (Or.inl (List.mem_of_getElem? (i := 5) rfl))
        have N11 := Fr.snoc X11 N9 g_r6
        obtain ⟨cl12, Ar12, qa12, S12, Nl12, H12, G12⟩ := id V11
        have hin12 : ¬ ((1 : Int32) < 0 ∨ cl12.slots.size ≤ ((1 : Int32)).toNatClampNeg) := inb_of S12 ⟨by decide, by decide⟩
        have hat12 : cl12.slots[((1 : Int32)).toNatClampNeg]? = some (.long t1) := Has.at H12 hin12 rfl
        obtain ⟨cl13, Ar13, qa13, S13, Nl13, H13, G13⟩ := id V11
        have hin13 : ¬ ((1 : Int32) < 0 ∨ cl13.slots.size ≤ ((1 : Int32)).toNatClampNeg) := inb_of S13 ⟨by decide, by decide⟩
        obtain ⟨T13, h13, X13, e13, W13, st13⟩ := stJ X11 hx hZ e11 Ar13 (j := (1 : Int32)) hin13 (g := (mkF m 74 #[.val (.ref r0), .val (.int (1 : Int32)), .val (.int p2), .val (.int p3), .val (.int p4), .val (.int p5), .val (.ref r6), .val (.int (0 : Int32)), .val (.int (1 : Int32))] [(.long (t1 + (1 : Int64))), (.int (1 : Int32)), (.ref r6)])) rfl rfl (hb hby d3_74)
        have V13 : Arv Z h13 r6 kt .long (2 : Int32) [(.long (t0 + (1 : Int64))), (.long (t1 + (1 : Int64)))] (.long (0 : Int64)) := Arv.set Ar13 qa13 S13 Nl13 H13 G13 rfl W13 1 rfl (Nat.le_of_ble_eq_true rfl)
        have K13 : Keep h0 h13 [ca, ch, lc, ar, ge, r6] := K11.wr W13 (Or.inl (List.mem_of_getElem? (i := 5) rfl))
        have N13 := Fr.snoc X13 N11 g_r6
        obtain ⟨fs, hr, hrun, hended, hW, hsame⟩ := X13.leave (v := none) (fun _ => rfl)
        refine ⟨_, _, pre5 _ ?_, hrun, hended, _, _, rfl, ?_, ⟨_, rfl⟩, hW, hsame.mono (by decide) (by decide)⟩
        · show Steps p.tables e below (s₁.setTop (mkF m 36 #[.val (.ref r0), .val (.int (1 : Int32)), .val (.int p2), .val (.int p3), .val (.int p4), .val (.int p5), .val (.ref r6), .val (.int (0 : Int32)), .unset] [(.int ((p4 >>> (p5 &&& 31)) &&& (1 : Int32)))])) _
          refine XS.ifNo X0.here hx rfl (hb hby d3_36) rfl ((if0 _ _).trans (feq hc36).1) ?_
          refine XS.iconst X0.here hx rfl (hb hby d3_39) ?_
          refine XS.goto X0.here hx rfl (pc0 := 40) (pc' := 44) rfl (hb hby d3_40) (by decide) (by decide) ?_
          refine XS.istore X0.here hx rfl (hb hby d3_44) rfl (l' := #[.val (.ref r0), .val (.int (1 : Int32)), .val (.int p2), .val (.int p3), .val (.int p4), .val (.int p5), .val (.ref r6), .val (.int (0 : Int32)), .val (.int (1 : Int32))]) rfl ?_
          refine XS.aloadN X0.here hx rfl (hb hby d3_46) rfl rfl ?_
          refine XS.iload X0.here hx rfl (hb hby d3_47) rfl ?_
          refine XS.iload X0.here hx rfl (hb hby d3_49) rfl ?_
          refine st9.trans ?_
          show Steps p.tables e below (T9.setTop (mkF m 54 #[.val (.ref r0), .val (.int (1 : Int32)), .val (.int p2), .val (.int p3), .val (.int p4), .val (.int p5), .val (.ref r6), .val (.int (0 : Int32)), .val (.int (1 : Int32))] [])) _
          refine XS.aload X9.here hx rfl (hb hby d3_54) rfl rfl ?_
          refine XS.iconst X9.here hx rfl (hb hby d3_56) ?_
          refine Jvm.Free.XT.dup2 X9.here hx rfl (hb hby d3_57) rfl rfl rfl ?_
          refine X9.laload hx (j := (0 : Int32)) (v := (.long t0)) (by rw [(rfl : T9.heap = T9.heap)]; exact Ar10.1) (State.isArrayOf_alike hZ.alike Ar10.2.1) Ar10.2.2 hin10 hat10 (g := (mkF m 58 #[.val (.ref r0), .val (.int (1 : Int32)), .val (.int p2), .val (.int p3), .val (.int p4), .val (.int p5), .val (.ref r6), .val (.int (0 : Int32)), .val (.int (1 : Int32))] [(.int (0 : Int32)), (.ref r6), (.int (0 : Int32)), (.ref r6)])) rfl rfl (hb hby d3_58) _ ?_
          refine XS.lconst X9.here hx rfl (hb hby d3_59) ?_
          refine XS.ladd X9.here hx rfl (hb hby d3_60) rfl ?_
          refine st11 _ ?_
          refine XS.iload X11.here hx rfl (hb hby d3_62) rfl ?_
          show Steps p.tables e below (T11.setTop (mkF m 64 #[.val (.ref r0), .val (.int (1 : Int32)), .val (.int p2), .val (.int p3), .val (.int p4), .val (.int p5), .val (.ref r6), .val (.int (0 : Int32)), .val (.int (1 : Int32))] [(.int (1 : Int32))])) _
          refine XS.ifNo X11.here hx rfl (hb hby d3_64) rfl ((if0 _ _).trans (feq (by decide : ¬ ((1 : Int32) = (0 : Int32)))).1) ?_
          refine XS.aload X11.here hx rfl (hb hby d3_67) rfl rfl ?_
          refine XS.iconst X11.here hx rfl (hb hby d3_69) ?_
          refine Jvm.Free.XT.dup2 X11.here hx rfl (hb hby d3_70) rfl rfl rfl ?_
          refine X11.laload hx (j := (1 : Int32)) (v := (.long t1)) (by rw [e11]; exact Ar12.1) (State.isArrayOf_alike hZ.alike Ar12.2.1) Ar12.2.2 hin12 hat12 (g := (mkF m 71 #[.val (.ref r0), .val (.int (1 : Int32)), .val (.int p2), .val (.int p3), .val (.int p4), .val (.int p5), .val (.ref r6), .val (.int (0 : Int32)), .val (.int (1 : Int32))] [(.int (1 : Int32)), (.ref r6), (.int (1 : Int32)), (.ref r6)])) rfl rfl (hb hby d3_71) _ ?_
          refine XS.lconst X11.here hx rfl (hb hby d3_72) ?_
          refine XS.ladd X11.here hx rfl (hb hby d3_73) rfl ?_
          refine st13 _ ?_
          show Steps p.tables e below (T13.setTop (mkF m 75 #[.val (.ref r0), .val (.int (1 : Int32)), .val (.int p2), .val (.int p3), .val (.int p4), .val (.int p5), .val (.ref r6), .val (.int (0 : Int32)), .val (.int (1 : Int32))] [])) _
          exact X13.returnOut hx Bd.returns (hb hby d3_75) hr
        · show Q3n1 Z r0 p2 p3 p4 p5 r6 ca ch lc ar ge kca kch klc kar kge kt v0 c0 l0 m0 g0 t0 t1 kk h0 n0 _ T13.heap _
          rw [e13]
          exact ⟨(v0 + (1 : Int32)), (c0 + (J5n1j0_1_S0 (1 : Int32))), (nar .boolean (1 : Int32)), (m0 + (((J5n1j0_1_S0 (1 : Int32)).toInt64) * ((v0 + (1 : Int32)).toInt64))), (FP.ddiv (FP.dadd g0 (FP.i2d (J5n1j0_1_S0 (1 : Int32)))) (4611686018427387904 : UInt64)), (t0 + (1 : Int64)), (t1 + (1 : Int64)), rfl, N13, K13, ((P9_0.other W11 ne_ca_r6).other W13 ne_ca_r6), ((P9_1.other W11 ne_ch_r6).other W13 ne_ch_r6), ((P9_2.other W11 ne_lc_r6).other W13 ne_lc_r6), ((P9_3.other W11 ne_ar_r6).other W13 ne_ar_r6), ((P9_4.other W11 ne_ge_r6).other W13 ne_ge_r6), V13, (own_up1_0_1 hk (by decide) hI)⟩
    · exact absurd (own_pg1 (p3 >>> (((2 : Int32) * p5) &&& 31))) (by unfold A3n1_27 at *; simp_all)
theorem own_pg2 (q : Int32) : (q &&& (3 : Int32)) % (2 : Int32) = 0 ∨ (q &&& (3 : Int32)) % (2 : Int32) = 1 := by
  have m := c_mask q 3 2 (by decide) (by decide)
  have r := (c_irem (q &&& (3 : Int32)) 2 2 (by decide)).1 (by omega)
  simp only [← Int32.toInt_inj]
  show _ = (0 : Int) ∨ _ = (1 : Int)
  omega
def A3n2_27 (p3 p5 : Int32) : Int32 := (((p3 >>> (((2 : Int32) * p5) &&& 31)) &&& (3 : Int32)) % (2 : Int32))
theorem ef_3n2 (r0 : Addr) (p2 : Int32) (p3 : Int32) (p4 : Int32) (p5 : Int32) (r6 : Addr) (ca ch lc ar ge : Addr) (kca kch klc kar kge : ClassId) (kt : ClassId) (v0 v1 : Int32) (c0 c1 : Int32) (l0 l1 : Int32) (m0 m1 : Int64) (g0 g1 : UInt64) (t0 t1 : Int64) (kk : Int) (m : MethodId) : entryFrame m #[(.ref r0), (.int (2 : Int32)), (.int p2), (.int p3), (.int p4), (.int p5), (.ref r6)] 9 = mkF m 0 #[.val (.ref r0), .val (.int (2 : Int32)), .val (.int p2), .val (.int p3), .val (.int p4), .val (.int p5), .val (.ref r6), .unset, .unset] [] := by first | (simp [entryFrame, mkF, argsToLocals, Value.category]; done) | rfl
def Q3n2 (Z : State) (r0 : Addr) (p2 : Int32) (p3 : Int32) (p4 : Int32) (p5 : Int32) (r6 : Addr) (ca ch lc ar ge : Addr) (kca kch klc kar kge : ClassId) (kt : ClassId) (v0 v1 : Int32) (c0 c1 : Int32) (l0 l1 : Int32) (m0 m1 : Int64) (g0 g1 : UInt64) (t0 t1 : Int64) (kk : Int) (h0 : Heap) (n0 : Nat) (v : Option Value) (h : Heap) (L : List Loc) : Prop := ∃ (v0' : Int32) (v1' : Int32) (c0' : Int32) (c1' : Int32) (l0' : Int32) (l1' : Int32) (m0' : Int64) (m1' : Int64) (g0' : UInt64) (g1' : UInt64) (t0' : Int64) (t1' : Int64), v = none ∧ Fr n0 L ∧ Keep h0 h [ca, ch, lc, ar, ge, r6] ∧ Arv Z h ca kca .int (2 : Int32) [(.int v0'), (.int v1')] (.int (0 : Int32)) ∧ Arv Z h ch kch .int (2 : Int32) [(.int c0'), (.int c1')] (.int (0 : Int32)) ∧ Arv Z h lc klc .boolean (2 : Int32) [(.int l0'), (.int l1')] (.int (0 : Int32)) ∧ Arv Z h ar kar .long (2 : Int32) [(.long m0'), (.long m1')] (.long (0 : Int64)) ∧ Arv Z h ge kge .double (2 : Int32) [(.double g0'), (.double g1')] (.double (0 : UInt64)) ∧ Arv Z h r6 kt .long (2 : Int32) [(.long t0'), (.long t1')] (.long (0 : Int64)) ∧ Inv2 (kk + 1) v0' v1' c0' c1' g0' g1' t0' t1'
set_option maxRecDepth 65536 in
set_option maxHeartbeats 40000000 in
theorem rm3n2 (l : Launch) (Z : State) (a0 : Array Value) (hw : ∀ d ∈ tables_1, d.before a0 Z = true) (ws : List Jvm.Cond) (r0 : Addr) (p2 : Int32) (p3 : Int32) (p4 : Int32) (p5 : Int32) (r6 : Addr) (ca ch lc ar ge : Addr) (kca kch klc kar kge : ClassId) (kt : ClassId) (v0 v1 : Int32) (c0 c1 : Int32) (l0 l1 : Int32) (m0 m1 : Int64) (g0 g1 : UInt64) (t0 t1 : Int64) (kk : Int) (h0 : Heap) (n0 : Nat) (Z0 : n0 ≤ h0.size) (E_r : Exa Z h0 r0 "com/example/wandel/wandel/replay/Observations") (F_count : Fld Z h0 r0 "com/example/wandel/wandel/replay/Observations" "count" "[I" (.ref ca)) (F_changes : Fld Z h0 r0 "com/example/wandel/wandel/replay/Observations" "changes" "[I" (.ref ch)) (F_lastChanged : Fld Z h0 r0 "com/example/wandel/wandel/replay/Observations" "lastChanged" "[Z" (.ref lc)) (F_arithmetic : Fld Z h0 r0 "com/example/wandel/wandel/replay/Observations" "arithmetic" "[J" (.ref ar)) (F_geometric : Fld Z h0 r0 "com/example/wandel/wandel/replay/Observations" "geometric" "[D" (.ref ge)) (V_ca : Arv Z h0 ca kca .int (2 : Int32) [(.int v0), (.int v1)] (.int (0 : Int32))) (V_ch : Arv Z h0 ch kch .int (2 : Int32) [(.int c0), (.int c1)] (.int (0 : Int32))) (V_lc : Arv Z h0 lc klc .boolean (2 : Int32) [(.int l0), (.int l1)] (.int (0 : Int32))) (V_ar : Arv Z h0 ar kar .long (2 : Int32) [(.long m0), (.long m1)] (.long (0 : Int64))) (V_ge : Arv Z h0 ge kge .double (2 : Int32) [(.double g0), (.double g1)] (.double (0 : UInt64))) (V_t : Arv Z h0 r6 kt .long (2 : Int32) [(.long t0), (.long t1)] (.long (0 : Int64))) (ne_r0_ca : r0 ≠ ca) (ne_r0_ch : r0 ≠ ch) (ne_r0_lc : r0 ≠ lc) (ne_r0_ar : r0 ≠ ar) (ne_r0_ge : r0 ≠ ge) (ne_ca_ch : ca ≠ ch) (ne_ca_lc : ca ≠ lc) (ne_ca_ar : ca ≠ ar) (ne_ca_ge : ca ≠ ge) (ne_ch_lc : ch ≠ lc) (ne_ch_ar : ch ≠ ar) (ne_ch_ge : ch ≠ ge) (ne_lc_ar : lc ≠ ar) (ne_lc_ge : lc ≠ ge) (ne_ar_ge : ar ≠ ge) (ne_r0_r6 : r0 ≠ r6) (ne_ca_r6 : ca ≠ r6) (ne_ch_r6 : ch ≠ r6) (ne_lc_r6 : lc ≠ r6) (ne_ar_r6 : ar ≠ r6) (ne_ge_r6 : ge ≠ r6) (g_ca : n0 ≤ ca) (g_ch : n0 ≤ ch) (g_lc : n0 ≤ lc) (g_ar : n0 ≤ ar) (g_ge : n0 ≤ ge) (g_r6 : n0 ≤ r6) (hI : Inv2 kk v0 v1 c0 c1 g0 g1 t0 t1) (hk : kk ≤ 100) :
    MetFree l (⟨"com/example/wandel/wandel/replay/ObservationsChangeSharePinLaw", "step", "(Lcom/example/wandel/wandel/replay/Observations;IIIII[J)V"⟩ : MethodName) (head1 (Jvm.Cond.code (⟨"com/example/wandel/wandel/replay/ObservationsChangeSharePinLaw", "step", "(Lcom/example/wandel/wandel/replay/Observations;IIIII[J)V"⟩ : MethodName) method_3_code 9 none :: ws) ({ frames := 1, cells := 0, slots := 0, locals := 15 } : Room)) (fun a U => a = #[(.ref r0), (.int (2 : Int32)), (.int p2), (.int p3), (.int p4), (.int p5), (.ref r6)] ∧ Z.Warmed39 U.vm ∧ U.heap = h0) (fun _ _ _ _ _ => True) (fun _ U o U' => ∃ v L, o = .returned v ∧ Q3n2 Z r0 p2 p3 p4 p5 r6 ca ch lc ar ge kca kch klc kar kge kt v0 v1 c0 c1 l0 l1 m0 m1 g0 g1 t0 t1 kk h0 n0 v U'.heap L ∧ FrameEnd U o U' L ({ frames := 1, cells := 0, slots := 0, locals := 15 } : Room).cells ({ frames := 1, cells := 0, slots := 0, locals := 15 } : Room).slots) := by
  refine MetFree.of_bodySF (plainFor_of_name pn_com_example_wandel_wandel_replay_ObservationsChangeSharePinLaw) hisR ?_
  intro p e s m args below meth c s₁ Bd hml0 hP hK
  obtain ⟨rfl, hZ, hh⟩ := hP
  have hx := Bd.exec
  have hby := Bd.bytes
  have hml : c.maxLocals = 9 := hml0
  have hown : s.vm.findClass "com/example/wandel/wandel/replay/ObservationsChangeSharePinLaw" = some m.cls := findClass_of_methodNamed Bd.named
  have hnm := (name_of_methodNamed Bd.named Bd.method).1
  have X0 : Stand p l e ({ frames := 1, cells := 0, slots := 0, locals := 15 } : Room) s m #[(.ref r0), (.int (2 : Int32)), (.int p2), (.int p3), (.int p4), (.int p5), (.ref r6)] below meth c s₁ [] 0 0 := Stand.of_body Bd
  have e0 : s₁.heap = h0 := by rw [← hh, Bd.state]; rfl
  have N0 := Fr.nil n0
  have pre0 : ∀ t, Steps p.tables e below (s₁.setTop (mkF m 0 #[.val (.ref r0), .val (.int (2 : Int32)), .val (.int p2), .val (.int p3), .val (.int p4), .val (.int p5), .val (.ref r6), .unset, .unset] [])) t → Steps p.tables e below (s₁.setTop (entryFrame m #[(.ref r0), (.int (2 : Int32)), (.int p2), (.int p3), (.int p4), (.int p5), (.ref r6)] 9)) t := fun t k => castTop (ef_3n2 r0 p2 p3 p4 p5 r6 ca ch lc ar ge kca kch klc kar kge kt v0 v1 c0 c1 l0 l1 m0 m1 g0 g1 t0 t1 kk m) k
  have pre1 : ∀ t, Steps p.tables e below (s₁.setTop (mkF m 13 #[.val (.ref r0), .val (.int (2 : Int32)), .val (.int p2), .val (.int p3), .val (.int p4), .val (.int p5), .val (.ref r6), .unset, .unset] [(.int ((p2 >>> (((2 : Int32) + p5) &&& 31)) &&& (1 : Int32)))])) t → Steps p.tables e below (s₁.setTop (entryFrame m #[(.ref r0), (.int (2 : Int32)), (.int p2), (.int p3), (.int p4), (.int p5), (.ref r6)] 9)) t := fun t kt => pre0 t (by
    show Steps p.tables e below (s₁.setTop (mkF m 0 #[.val (.ref r0), .val (.int (2 : Int32)), .val (.int p2), .val (.int p3), .val (.int p4), .val (.int p5), .val (.ref r6), .unset, .unset] [])) _
    refine XS.iloadN X0.here hx rfl (hb hby d3_0) rfl ?_
    refine XS.ifYes X0.here hx rfl (pc0 := 1) (pc' := 5) rfl (hb hby d3_1) rfl ((if0 _ _).trans (feq (by decide : ¬ ((2 : Int32) = (0 : Int32)))).2) (by decide) (by decide) ?_
    refine XS.iloadN X0.here hx rfl (hb hby d3_5) rfl ?_
    refine XS.iconst X0.here hx rfl (hb hby d3_6) ?_
    refine XS.iload X0.here hx rfl (hb hby d3_7) rfl ?_
    refine XS.iadd X0.here hx rfl (hb hby d3_9) rfl ?_
    refine XS.ishr X0.here hx rfl (hb hby d3_10) rfl ?_
    refine XS.iconst X0.here hx rfl (hb hby d3_11) ?_
    show Steps p.tables e below (s₁.setTop (mkF m 12 #[.val (.ref r0), .val (.int (2 : Int32)), .val (.int p2), .val (.int p3), .val (.int p4), .val (.int p5), .val (.ref r6), .unset, .unset] [(.int (1 : Int32)), (.int (p2 >>> (((2 : Int32) + p5) &&& 31)))])) _
    refine XS.iand X0.here hx rfl (hb hby d3_12) rfl ?_
    exact kt)
  by_cases hc13 : ((p2 >>> (((2 : Int32) + p5) &&& 31)) &&& (1 : Int32)) = (0 : Int32)
  · obtain ⟨fs, hr, hrun, hended, hW, hsame⟩ := X0.leave (v := none) (fun _ => rfl)
    refine ⟨_, _, pre1 _ ?_, hrun, hended, _, _, rfl, ?_, ⟨_, rfl⟩, hW, hsame.mono (by decide) (by decide)⟩
    · show Steps p.tables e below (s₁.setTop (mkF m 13 #[.val (.ref r0), .val (.int (2 : Int32)), .val (.int p2), .val (.int p3), .val (.int p4), .val (.int p5), .val (.ref r6), .unset, .unset] [(.int ((p2 >>> (((2 : Int32) + p5) &&& 31)) &&& (1 : Int32)))])) _
      refine XS.ifNo X0.here hx rfl (hb hby d3_13) rfl ((if0 _ _).trans (teq hc13).2) ?_
      show Steps p.tables e below (s₁.setTop (mkF m 16 #[.val (.ref r0), .val (.int (2 : Int32)), .val (.int p2), .val (.int p3), .val (.int p4), .val (.int p5), .val (.ref r6), .unset, .unset] [])) _
      exact X0.returnOut hx Bd.returns (hb hby d3_16) hr
    · show Q3n2 Z r0 p2 p3 p4 p5 r6 ca ch lc ar ge kca kch klc kar kge kt v0 v1 c0 c1 l0 l1 m0 m1 g0 g1 t0 t1 kk h0 n0 _ s₁.heap _
      rw [e0]
      exact ⟨v0, v1, c0, c1, l0, l1, m0, m1, g0, g1, t0, t1, rfl, N0, (Keep.refl h0 [ca, ch, lc, ar, ge, r6]), V_ca, V_ch, V_lc, V_ar, V_ge, V_t, (own_same2 hI)⟩
  · have pre2 : ∀ t, Steps p.tables e below (s₁.setTop (mkF m 29 #[.val (.ref r0), .val (.int (2 : Int32)), .val (.int p2), .val (.int p3), .val (.int p4), .val (.int p5), .val (.ref r6), .val (.int (A3n2_27 p3 p5)), .unset] [])) t → Steps p.tables e below (s₁.setTop (entryFrame m #[(.ref r0), (.int (2 : Int32)), (.int p2), (.int p3), (.int p4), (.int p5), (.ref r6)] 9)) t := fun t kt => pre1 t (by
      show Steps p.tables e below (s₁.setTop (mkF m 13 #[.val (.ref r0), .val (.int (2 : Int32)), .val (.int p2), .val (.int p3), .val (.int p4), .val (.int p5), .val (.ref r6), .unset, .unset] [(.int ((p2 >>> (((2 : Int32) + p5) &&& 31)) &&& (1 : Int32)))])) _
      refine XS.ifYes X0.here hx rfl (pc0 := 13) (pc' := 17) rfl (hb hby d3_13) rfl ((if0 _ _).trans (feq hc13).2) (by decide) (by decide) ?_
      refine XS.iloadN X0.here hx rfl (hb hby d3_17) rfl ?_
      refine XS.iconst X0.here hx rfl (hb hby d3_18) ?_
      refine XS.iload X0.here hx rfl (hb hby d3_19) rfl ?_
      refine XS.imul X0.here hx rfl (hb hby d3_21) rfl ?_
      refine XS.ishr X0.here hx rfl (hb hby d3_22) rfl ?_
      refine XS.iconst X0.here hx rfl (hb hby d3_23) ?_
      refine XS.iand X0.here hx rfl (hb hby d3_24) rfl ?_
      show Steps p.tables e below (s₁.setTop (mkF m 25 #[.val (.ref r0), .val (.int (2 : Int32)), .val (.int p2), .val (.int p3), .val (.int p4), .val (.int p5), .val (.ref r6), .unset, .unset] [(.int ((p3 >>> (((2 : Int32) * p5) &&& 31)) &&& (3 : Int32)))])) _
      refine XS.iloadN X0.here hx rfl (hb hby d3_25) rfl ?_
      refine iremM X0 hx rfl (hb hby d3_26) rfl (by decide) ?_
      refine XS.istore X0.here hx rfl (hb hby d3_27) rfl (l' := #[.val (.ref r0), .val (.int (2 : Int32)), .val (.int p2), .val (.int p3), .val (.int p4), .val (.int p5), .val (.ref r6), .val (.int (((p3 >>> (((2 : Int32) * p5) &&& 31)) &&& (3 : Int32)) % (2 : Int32))), .unset]) rfl ?_
      exact kt)
    by_cases hp0 : (A3n2_27 p3 p5) = (0 : Int32)
    · have qr3 : (A3n2_27 p3 p5) = (0 : Int32) := hp0
      have pre4 : ∀ t, Steps p.tables e below (s₁.setTop (mkF m 29 #[.val (.ref r0), .val (.int (2 : Int32)), .val (.int p2), .val (.int p3), .val (.int p4), .val (.int p5), .val (.ref r6), .val (.int (0 : Int32)), .unset] [])) t → Steps p.tables e below (s₁.setTop (entryFrame m #[(.ref r0), (.int (2 : Int32)), (.int p2), (.int p3), (.int p4), (.int p5), (.ref r6)] 9)) t := fun t kt => pre2 t (by rw [qr3]; exact kt)
      have pre5 : ∀ t, Steps p.tables e below (s₁.setTop (mkF m 36 #[.val (.ref r0), .val (.int (2 : Int32)), .val (.int p2), .val (.int p3), .val (.int p4), .val (.int p5), .val (.ref r6), .val (.int (0 : Int32)), .unset] [(.int ((p4 >>> (p5 &&& 31)) &&& (1 : Int32)))])) t → Steps p.tables e below (s₁.setTop (entryFrame m #[(.ref r0), (.int (2 : Int32)), (.int p2), (.int p3), (.int p4), (.int p5), (.ref r6)] 9)) t := fun t kt => pre4 t (by
        show Steps p.tables e below (s₁.setTop (mkF m 29 #[.val (.ref r0), .val (.int (2 : Int32)), .val (.int p2), .val (.int p3), .val (.int p4), .val (.int p5), .val (.ref r6), .val (.int (0 : Int32)), .unset] [])) _
        refine XS.iload X0.here hx rfl (hb hby d3_29) rfl ?_
        refine XS.iload X0.here hx rfl (hb hby d3_31) rfl ?_
        refine XS.ishr X0.here hx rfl (hb hby d3_33) rfl ?_
        refine XS.iconst X0.here hx rfl (hb hby d3_34) ?_
        refine XS.iand X0.here hx rfl (hb hby d3_35) rfl ?_
        exact kt)
      by_cases hc36 : ((p4 >>> (p5 &&& 31)) &&& (1 : Int32)) = (0 : Int32)
      · obtain ⟨cq6, kq6, q6a, q6b, q6c⟩ := isOf hZ e0 E_r
        obtain ⟨_, _, ⟨T6, L6, k6, n6⟩, -, X6, ⟨Lc6, hQ6, ll6, ly6, lz6⟩, st6⟩ := X0.virtualBack hx (y := (⟨"com/example/wandel/wandel/replay/Observations", "record", "(IZ)V"⟩ : MethodName)) (z := (⟨"com/example/wandel/wandel/replay/Observations", "record", "(IZ)V"⟩ : MethodName)) hown (mvT hZ (hw _ (List.mem_of_getElem? (i := 32) rfl))) (mvT hZ (hw _ (List.mem_of_getElem? (i := 33) rfl))) (notFace_of_selects (args := #[]) (mvT hZ (hw _ (List.mem_of_getElem? (i := 35) rfl)))) (mvT hZ (hw _ (List.mem_of_getElem? (i := 35) rfl))) (mvT hZ (hw _ (List.mem_of_getElem? (i := 34) rfl))) (by decide) (backOf (W := 0) (rm5n2j0 l Z a0 hw [] r0 (0 : Int32) ca ch lc ar ge kca kch klc kar kge v0 v1 c0 c1 l0 l1 m0 m1 g0 g1 h0 n0 Z0 F_count F_changes F_lastChanged F_arithmetic F_geometric V_ca V_ch V_lc V_ar V_ge ne_r0_ca ne_r0_ch ne_r0_lc ne_r0_ar ne_r0_ge ne_ca_ch ne_ca_lc ne_ca_ar ne_ca_ge ne_ch_lc ne_ch_ar ne_ch_ge ne_lc_ar ne_lc_ge ne_ar_ge g_ca g_ch g_lc g_ar g_ge (own_gg2_0 hI)) hZ (hw _ (List.mem_of_getElem? (i := 36) rfl)) (hw _ (List.mem_of_getElem? (i := 2) rfl)) (by decide) (by decide)) q6a q6c (g := (mkF m 51 #[.val (.ref r0), .val (.int (2 : Int32)), .val (.int p2), .val (.int p3), .val (.int p4), .val (.int p5), .val (.ref r6), .val (.int (0 : Int32)), .val (.int (0 : Int32))] [(.int (0 : Int32)), (.int (0 : Int32)), (.ref r0)])) rfl (by rw [hml]; rfl) (Steps.refl _) (argsL := [(.int (0 : Int32)), (.int (0 : Int32))]) (rest := []) (lenOf pd__IZ_V rfl) rfl (by show 2 * 0 + _ ≤ _; exact Nat.le_of_eq rfl) (hb hby d3_51) (fun _ _ => ⟨rfl, e0, (by decide : 0 + 0 ≤ _), (by decide : 0 + 0 ≤ _)⟩)
        dsimp only [Pt.U, Pt.locs, Pt.cells, Pt.slots] at X6 ll6 ly6 lz6 st6 hQ6
        subst ll6 ly6 lz6
        obtain ⟨rfl, N6q, K6c, P6_0, P6_1, P6_2, P6_3, P6_4⟩ := hQ6
        have N6 := Fr.app N0 N6q
        have K6 : Keep h0 T6.heap [ca, ch, lc, ar, ge, r6] := (Keep.refl h0 [ca, ch, lc, ar, ge, r6]).trans K6c (allS (Or.inl (List.mem_of_getElem? (i := 0) rfl)) (allS (Or.inl (List.mem_of_getElem? (i := 1) rfl)) (allS (Or.inl (List.mem_of_getElem? (i := 2) rfl)) (allS (Or.inl (List.mem_of_getElem? (i := 3) rfl)) (allS (Or.inl (List.mem_of_getElem? (i := 4) rfl)) all0)))))
        obtain ⟨cl7, Ar7, qa7, S7, Nl7, H7, G7⟩ := id (V_t.keep K6c (ninS (Ne.symm ne_ca_r6) (ninS (Ne.symm ne_ch_r6) (ninS (Ne.symm ne_lc_r6) (ninS (Ne.symm ne_ar_r6) (ninS (Ne.symm ne_ge_r6) nin0))))))
        have hin7 : ¬ ((0 : Int32) < 0 ∨ cl7.slots.size ≤ ((0 : Int32)).toNatClampNeg) := inb_of S7 ⟨by decide, by decide⟩
        have hat7 : cl7.slots[((0 : Int32)).toNatClampNeg]? = some (.long t0) := Has.at H7 hin7 rfl
        obtain ⟨cl8, Ar8, qa8, S8, Nl8, H8, G8⟩ := id (V_t.keep K6c (ninS (Ne.symm ne_ca_r6) (ninS (Ne.symm ne_ch_r6) (ninS (Ne.symm ne_lc_r6) (ninS (Ne.symm ne_ar_r6) (ninS (Ne.symm ne_ge_r6) nin0))))))
        have hin8 : ¬ ((0 : Int32) < 0 ∨ cl8.slots.size ≤ ((0 : Int32)).toNatClampNeg) := inb_of S8 ⟨by decide, by decide⟩
        obtain ⟨T8, h8, X8, e8, W8, st8⟩ := stJ X6 hx hZ (rfl : T6.heap = T6.heap) Ar8 (j := (0 : Int32)) hin8 (g := (mkF m 61 #[.val (.ref r0), .val (.int (2 : Int32)), .val (.int p2), .val (.int p3), .val (.int p4), .val (.int p5), .val (.ref r6), .val (.int (0 : Int32)), .val (.int (0 : Int32))] [(.long (t0 + (1 : Int64))), (.int (0 : Int32)), (.ref r6)])) rfl rfl (hb hby d3_61)
        have V8 : Arv Z h8 r6 kt .long (2 : Int32) [(.long (t0 + (1 : Int64))), (.long t1)] (.long (0 : Int64)) := Arv.set Ar8 qa8 S8 Nl8 H8 G8 rfl W8 0 rfl (Nat.le_of_ble_eq_true rfl)
        have K8 : Keep h0 h8 [ca, ch, lc, ar, ge, r6] := K6.wr W8 (Or.inl (List.mem_of_getElem? (i := 5) rfl))
        have N8 := Fr.snoc X8 N6 g_r6
        obtain ⟨fs, hr, hrun, hended, hW, hsame⟩ := X8.leave (v := none) (fun _ => rfl)
        refine ⟨_, _, pre5 _ ?_, hrun, hended, _, _, rfl, ?_, ⟨_, rfl⟩, hW, hsame.mono (by decide) (by decide)⟩
        · show Steps p.tables e below (s₁.setTop (mkF m 36 #[.val (.ref r0), .val (.int (2 : Int32)), .val (.int p2), .val (.int p3), .val (.int p4), .val (.int p5), .val (.ref r6), .val (.int (0 : Int32)), .unset] [(.int ((p4 >>> (p5 &&& 31)) &&& (1 : Int32)))])) _
          refine XS.ifYes X0.here hx rfl (pc0 := 36) (pc' := 43) rfl (hb hby d3_36) rfl ((if0 _ _).trans (teq hc36).1) (by decide) (by decide) ?_
          refine XS.iconst X0.here hx rfl (hb hby d3_43) ?_
          refine XS.istore X0.here hx rfl (hb hby d3_44) rfl (l' := #[.val (.ref r0), .val (.int (2 : Int32)), .val (.int p2), .val (.int p3), .val (.int p4), .val (.int p5), .val (.ref r6), .val (.int (0 : Int32)), .val (.int (0 : Int32))]) rfl ?_
          refine XS.aloadN X0.here hx rfl (hb hby d3_46) rfl rfl ?_
          refine XS.iload X0.here hx rfl (hb hby d3_47) rfl ?_
          refine XS.iload X0.here hx rfl (hb hby d3_49) rfl ?_
          refine st6.trans ?_
          refine XS.aload X6.here hx rfl (hb hby d3_54) rfl rfl ?_
          show Steps p.tables e below (T6.setTop (mkF m 56 #[.val (.ref r0), .val (.int (2 : Int32)), .val (.int p2), .val (.int p3), .val (.int p4), .val (.int p5), .val (.ref r6), .val (.int (0 : Int32)), .val (.int (0 : Int32))] [(.ref r6)])) _
          refine XS.iconst X6.here hx rfl (hb hby d3_56) ?_
          refine Jvm.Free.XT.dup2 X6.here hx rfl (hb hby d3_57) rfl rfl rfl ?_
          refine X6.laload hx (j := (0 : Int32)) (v := (.long t0)) (by rw [(rfl : T6.heap = T6.heap)]; exact Ar7.1) (State.isArrayOf_alike hZ.alike Ar7.2.1) Ar7.2.2 hin7 hat7 (g := (mkF m 58 #[.val (.ref r0), .val (.int (2 : Int32)), .val (.int p2), .val (.int p3), .val (.int p4), .val (.int p5), .val (.ref r6), .val (.int (0 : Int32)), .val (.int (0 : Int32))] [(.int (0 : Int32)), (.ref r6), (.int (0 : Int32)), (.ref r6)])) rfl rfl (hb hby d3_58) _ ?_
          refine XS.lconst X6.here hx rfl (hb hby d3_59) ?_
          refine XS.ladd X6.here hx rfl (hb hby d3_60) rfl ?_
          refine st8 _ ?_
          refine XS.iload X8.here hx rfl (hb hby d3_62) rfl ?_
          refine XS.ifYes X8.here hx rfl (pc0 := 64) (pc' := 75) rfl (hb hby d3_64) rfl ((if0 _ _).trans (teq (by decide : (0 : Int32) = (0 : Int32))).1) (by decide) (by decide) ?_
          show Steps p.tables e below (T8.setTop (mkF m 75 #[.val (.ref r0), .val (.int (2 : Int32)), .val (.int p2), .val (.int p3), .val (.int p4), .val (.int p5), .val (.ref r6), .val (.int (0 : Int32)), .val (.int (0 : Int32))] [])) _
          exact X8.returnOut hx Bd.returns (hb hby d3_75) hr
        · show Q3n2 Z r0 p2 p3 p4 p5 r6 ca ch lc ar ge kca kch klc kar kge kt v0 v1 c0 c1 l0 l1 m0 m1 g0 g1 t0 t1 kk h0 n0 _ T8.heap _
          rw [e8]
          exact ⟨(v0 + (1 : Int32)), v1, (c0 + (J5n2j0_1_S0 (0 : Int32))), c1, (nar .boolean (0 : Int32)), l1, (m0 + (((J5n2j0_1_S0 (0 : Int32)).toInt64) * ((v0 + (1 : Int32)).toInt64))), m1, (FP.ddiv (FP.dadd g0 (FP.i2d (J5n2j0_1_S0 (0 : Int32)))) (4611686018427387904 : UInt64)), g1, (t0 + (1 : Int64)), t1, rfl, N8, K8, (P6_0.other W8 ne_ca_r6), (P6_1.other W8 ne_ch_r6), (P6_2.other W8 ne_lc_r6), (P6_3.other W8 ne_ar_r6), (P6_4.other W8 ne_ge_r6), V8, (own_up2_0_0 hk (by decide) hI)⟩
      · obtain ⟨cq9, kq9, q9a, q9b, q9c⟩ := isOf hZ e0 E_r
        obtain ⟨_, _, ⟨T9, L9, k9, n9⟩, -, X9, ⟨Lc9, hQ9, ll9, ly9, lz9⟩, st9⟩ := X0.virtualBack hx (y := (⟨"com/example/wandel/wandel/replay/Observations", "record", "(IZ)V"⟩ : MethodName)) (z := (⟨"com/example/wandel/wandel/replay/Observations", "record", "(IZ)V"⟩ : MethodName)) hown (mvT hZ (hw _ (List.mem_of_getElem? (i := 32) rfl))) (mvT hZ (hw _ (List.mem_of_getElem? (i := 33) rfl))) (notFace_of_selects (args := #[]) (mvT hZ (hw _ (List.mem_of_getElem? (i := 35) rfl)))) (mvT hZ (hw _ (List.mem_of_getElem? (i := 35) rfl))) (mvT hZ (hw _ (List.mem_of_getElem? (i := 34) rfl))) (by decide) (backOf (W := 0) (rm5n2j0 l Z a0 hw [] r0 (1 : Int32) ca ch lc ar ge kca kch klc kar kge v0 v1 c0 c1 l0 l1 m0 m1 g0 g1 h0 n0 Z0 F_count F_changes F_lastChanged F_arithmetic F_geometric V_ca V_ch V_lc V_ar V_ge ne_r0_ca ne_r0_ch ne_r0_lc ne_r0_ar ne_r0_ge ne_ca_ch ne_ca_lc ne_ca_ar ne_ca_ge ne_ch_lc ne_ch_ar ne_ch_ge ne_lc_ar ne_lc_ge ne_ar_ge g_ca g_ch g_lc g_ar g_ge (own_gg2_0 hI)) hZ (hw _ (List.mem_of_getElem? (i := 36) rfl)) (hw _ (List.mem_of_getElem? (i := 2) rfl)) (by decide) (by decide)) q9a q9c (g := (mkF m 51 #[.val (.ref r0), .val (.int (2 : Int32)), .val (.int p2), .val (.int p3), .val (.int p4), .val (.int p5), .val (.ref r6), .val (.int (0 : Int32)), .val (.int (1 : Int32))] [(.int (1 : Int32)), (.int (0 : Int32)), (.ref r0)])) rfl (by rw [hml]; rfl) (Steps.refl _) (argsL := [(.int (0 : Int32)), (.int (1 : Int32))]) (rest := []) (lenOf pd__IZ_V rfl) rfl (by show 2 * 0 + _ ≤ _; exact Nat.le_of_eq rfl) (hb hby d3_51) (fun _ _ => ⟨rfl, e0, (by decide : 0 + 0 ≤ _), (by decide : 0 + 0 ≤ _)⟩)
        dsimp only [Pt.U, Pt.locs, Pt.cells, Pt.slots] at X9 ll9 ly9 lz9 st9 hQ9
        subst ll9 ly9 lz9
        obtain ⟨rfl, N9q, K9c, P9_0, P9_1, P9_2, P9_3, P9_4⟩ := hQ9
        have N9 := Fr.app N0 N9q
        have K9 : Keep h0 T9.heap [ca, ch, lc, ar, ge, r6] := (Keep.refl h0 [ca, ch, lc, ar, ge, r6]).trans K9c (allS (Or.inl (List.mem_of_getElem? (i := 0) rfl)) (allS (Or.inl (List.mem_of_getElem? (i := 1) rfl)) (allS (Or.inl (List.mem_of_getElem? (i := 2) rfl)) (allS (Or.inl (List.mem_of_getElem? (i := 3) rfl)) (allS (Or.inl (List.mem_of_getElem? (i := 4) rfl)) all0)))))
        obtain ⟨cl10, Ar10, qa10, S10, Nl10, H10, G10⟩ := id (V_t.keep K9c (ninS (Ne.symm ne_ca_r6) (ninS (Ne.symm ne_ch_r6) (ninS (Ne.symm ne_lc_r6) (ninS (Ne.symm ne_ar_r6) (ninS (Ne.symm ne_ge_r6) nin0))))))
        have hin10 : ¬ ((0 : Int32) < 0 ∨ cl10.slots.size ≤ ((0 : Int32)).toNatClampNeg) := inb_of S10 ⟨by decide, by decide⟩
        have hat10 : cl10.slots[((0 : Int32)).toNatClampNeg]? = some (.long t0) := Has.at H10 hin10 rfl
        obtain ⟨cl11, Ar11, qa11, S11, Nl11, H11, G11⟩ := id (V_t.keep K9c (ninS (Ne.symm ne_ca_r6) (ninS (Ne.symm ne_ch_r6) (ninS (Ne.symm ne_lc_r6) (ninS (Ne.symm ne_ar_r6) (ninS (Ne.symm ne_ge_r6) nin0))))))
        have hin11 : ¬ ((0 : Int32) < 0 ∨ cl11.slots.size ≤ ((0 : Int32)).toNatClampNeg) := inb_of S11 ⟨by decide, by decide⟩
        obtain ⟨T11, h11, X11, e11, W11, st11⟩ := stJ X9 hx hZ (rfl : T9.heap = T9.heap) Ar11 (j := (0 : Int32)) hin11 (g := (mkF m 61 #[.val (.ref r0), .val (.int (2 : Int32)), .val (.int p2), .val (.int p3), .val (.int p4), .val (.int p5), .val (.ref r6), .val (.int (0 : Int32)), .val (.int (1 : Int32))] [(.long (t0 + (1 : Int64))), (.int (0 : Int32)), (.ref r6)])) rfl rfl (hb hby d3_61)
        have V11 : Arv Z h11 r6 kt .long (2 : Int32) [(.long (t0 + (1 : Int64))), (.long t1)] (.long (0 : Int64)) := Arv.set Ar11 qa11 S11 Nl11 H11 G11 rfl W11 0 rfl (Nat.le_of_ble_eq_true rfl)
        have K11 : Keep h0 h11 [ca, ch, lc, ar, ge, r6] := K9.wr W11 (Or.inl (List.mem_of_getElem? (i := 5) rfl))
        have N11 := Fr.snoc X11 N9 g_r6
        obtain ⟨cl12, Ar12, qa12, S12, Nl12, H12, G12⟩ := id V11
        have hin12 : ¬ ((1 : Int32) < 0 ∨ cl12.slots.size ≤ ((1 : Int32)).toNatClampNeg) := inb_of S12 ⟨by decide, by decide⟩
        have hat12 : cl12.slots[((1 : Int32)).toNatClampNeg]? = some (.long t1) := Has.at H12 hin12 rfl
        obtain ⟨cl13, Ar13, qa13, S13, Nl13, H13, G13⟩ := id V11
        have hin13 : ¬ ((1 : Int32) < 0 ∨ cl13.slots.size ≤ ((1 : Int32)).toNatClampNeg) := inb_of S13 ⟨by decide, by decide⟩
        obtain ⟨T13, h13, X13, e13, W13, st13⟩ := stJ X11 hx hZ e11 Ar13 (j := (1 : Int32)) hin13 (g := (mkF m 74 #[.val (.ref r0), .val (.int (2 : Int32)), .val (.int p2), .val (.int p3), .val (.int p4), .val (.int p5), .val (.ref r6), .val (.int (0 : Int32)), .val (.int (1 : Int32))] [(.long (t1 + (1 : Int64))), (.int (1 : Int32)), (.ref r6)])) rfl rfl (hb hby d3_74)
        have V13 : Arv Z h13 r6 kt .long (2 : Int32) [(.long (t0 + (1 : Int64))), (.long (t1 + (1 : Int64)))] (.long (0 : Int64)) := Arv.set Ar13 qa13 S13 Nl13 H13 G13 rfl W13 1 rfl (Nat.le_of_ble_eq_true rfl)
        have K13 : Keep h0 h13 [ca, ch, lc, ar, ge, r6] := K11.wr W13 (Or.inl (List.mem_of_getElem? (i := 5) rfl))
        have N13 := Fr.snoc X13 N11 g_r6
        obtain ⟨fs, hr, hrun, hended, hW, hsame⟩ := X13.leave (v := none) (fun _ => rfl)
        refine ⟨_, _, pre5 _ ?_, hrun, hended, _, _, rfl, ?_, ⟨_, rfl⟩, hW, hsame.mono (by decide) (by decide)⟩
        · show Steps p.tables e below (s₁.setTop (mkF m 36 #[.val (.ref r0), .val (.int (2 : Int32)), .val (.int p2), .val (.int p3), .val (.int p4), .val (.int p5), .val (.ref r6), .val (.int (0 : Int32)), .unset] [(.int ((p4 >>> (p5 &&& 31)) &&& (1 : Int32)))])) _
          refine XS.ifNo X0.here hx rfl (hb hby d3_36) rfl ((if0 _ _).trans (feq hc36).1) ?_
          refine XS.iconst X0.here hx rfl (hb hby d3_39) ?_
          refine XS.goto X0.here hx rfl (pc0 := 40) (pc' := 44) rfl (hb hby d3_40) (by decide) (by decide) ?_
          refine XS.istore X0.here hx rfl (hb hby d3_44) rfl (l' := #[.val (.ref r0), .val (.int (2 : Int32)), .val (.int p2), .val (.int p3), .val (.int p4), .val (.int p5), .val (.ref r6), .val (.int (0 : Int32)), .val (.int (1 : Int32))]) rfl ?_
          refine XS.aloadN X0.here hx rfl (hb hby d3_46) rfl rfl ?_
          refine XS.iload X0.here hx rfl (hb hby d3_47) rfl ?_
          refine XS.iload X0.here hx rfl (hb hby d3_49) rfl ?_
          refine st9.trans ?_
          show Steps p.tables e below (T9.setTop (mkF m 54 #[.val (.ref r0), .val (.int (2 : Int32)), .val (.int p2), .val (.int p3), .val (.int p4), .val (.int p5), .val (.ref r6), .val (.int (0 : Int32)), .val (.int (1 : Int32))] [])) _
          refine XS.aload X9.here hx rfl (hb hby d3_54) rfl rfl ?_
          refine XS.iconst X9.here hx rfl (hb hby d3_56) ?_
          refine Jvm.Free.XT.dup2 X9.here hx rfl (hb hby d3_57) rfl rfl rfl ?_
          refine X9.laload hx (j := (0 : Int32)) (v := (.long t0)) (by rw [(rfl : T9.heap = T9.heap)]; exact Ar10.1) (State.isArrayOf_alike hZ.alike Ar10.2.1) Ar10.2.2 hin10 hat10 (g := (mkF m 58 #[.val (.ref r0), .val (.int (2 : Int32)), .val (.int p2), .val (.int p3), .val (.int p4), .val (.int p5), .val (.ref r6), .val (.int (0 : Int32)), .val (.int (1 : Int32))] [(.int (0 : Int32)), (.ref r6), (.int (0 : Int32)), (.ref r6)])) rfl rfl (hb hby d3_58) _ ?_
          refine XS.lconst X9.here hx rfl (hb hby d3_59) ?_
          refine XS.ladd X9.here hx rfl (hb hby d3_60) rfl ?_
          refine st11 _ ?_
          refine XS.iload X11.here hx rfl (hb hby d3_62) rfl ?_
          show Steps p.tables e below (T11.setTop (mkF m 64 #[.val (.ref r0), .val (.int (2 : Int32)), .val (.int p2), .val (.int p3), .val (.int p4), .val (.int p5), .val (.ref r6), .val (.int (0 : Int32)), .val (.int (1 : Int32))] [(.int (1 : Int32))])) _
          refine XS.ifNo X11.here hx rfl (hb hby d3_64) rfl ((if0 _ _).trans (feq (by decide : ¬ ((1 : Int32) = (0 : Int32)))).1) ?_
          refine XS.aload X11.here hx rfl (hb hby d3_67) rfl rfl ?_
          refine XS.iconst X11.here hx rfl (hb hby d3_69) ?_
          refine Jvm.Free.XT.dup2 X11.here hx rfl (hb hby d3_70) rfl rfl rfl ?_
          refine X11.laload hx (j := (1 : Int32)) (v := (.long t1)) (by rw [e11]; exact Ar12.1) (State.isArrayOf_alike hZ.alike Ar12.2.1) Ar12.2.2 hin12 hat12 (g := (mkF m 71 #[.val (.ref r0), .val (.int (2 : Int32)), .val (.int p2), .val (.int p3), .val (.int p4), .val (.int p5), .val (.ref r6), .val (.int (0 : Int32)), .val (.int (1 : Int32))] [(.int (1 : Int32)), (.ref r6), (.int (1 : Int32)), (.ref r6)])) rfl rfl (hb hby d3_71) _ ?_
          refine XS.lconst X11.here hx rfl (hb hby d3_72) ?_
          refine XS.ladd X11.here hx rfl (hb hby d3_73) rfl ?_
          refine st13 _ ?_
          show Steps p.tables e below (T13.setTop (mkF m 75 #[.val (.ref r0), .val (.int (2 : Int32)), .val (.int p2), .val (.int p3), .val (.int p4), .val (.int p5), .val (.ref r6), .val (.int (0 : Int32)), .val (.int (1 : Int32))] [])) _
          exact X13.returnOut hx Bd.returns (hb hby d3_75) hr
        · show Q3n2 Z r0 p2 p3 p4 p5 r6 ca ch lc ar ge kca kch klc kar kge kt v0 v1 c0 c1 l0 l1 m0 m1 g0 g1 t0 t1 kk h0 n0 _ T13.heap _
          rw [e13]
          exact ⟨(v0 + (1 : Int32)), v1, (c0 + (J5n2j0_1_S0 (1 : Int32))), c1, (nar .boolean (1 : Int32)), l1, (m0 + (((J5n2j0_1_S0 (1 : Int32)).toInt64) * ((v0 + (1 : Int32)).toInt64))), m1, (FP.ddiv (FP.dadd g0 (FP.i2d (J5n2j0_1_S0 (1 : Int32)))) (4611686018427387904 : UInt64)), g1, (t0 + (1 : Int64)), (t1 + (1 : Int64)), rfl, N13, K13, ((P9_0.other W11 ne_ca_r6).other W13 ne_ca_r6), ((P9_1.other W11 ne_ch_r6).other W13 ne_ch_r6), ((P9_2.other W11 ne_lc_r6).other W13 ne_lc_r6), ((P9_3.other W11 ne_ar_r6).other W13 ne_ar_r6), ((P9_4.other W11 ne_ge_r6).other W13 ne_ge_r6), V13, (own_up2_0_1 hk (by decide) hI)⟩
    · by_cases hp1 : (A3n2_27 p3 p5) = (1 : Int32)
      · have qr14 : (A3n2_27 p3 p5) = (1 : Int32) := hp1
        have pre15 : ∀ t, Steps p.tables e below (s₁.setTop (mkF m 29 #[.val (.ref r0), .val (.int (2 : Int32)), .val (.int p2), .val (.int p3), .val (.int p4), .val (.int p5), .val (.ref r6), .val (.int (1 : Int32)), .unset] [])) t → Steps p.tables e below (s₁.setTop (entryFrame m #[(.ref r0), (.int (2 : Int32)), (.int p2), (.int p3), (.int p4), (.int p5), (.ref r6)] 9)) t := fun t kt => pre2 t (by rw [qr14]; exact kt)
        have pre16 : ∀ t, Steps p.tables e below (s₁.setTop (mkF m 36 #[.val (.ref r0), .val (.int (2 : Int32)), .val (.int p2), .val (.int p3), .val (.int p4), .val (.int p5), .val (.ref r6), .val (.int (1 : Int32)), .unset] [(.int ((p4 >>> (p5 &&& 31)) &&& (1 : Int32)))])) t → Steps p.tables e below (s₁.setTop (entryFrame m #[(.ref r0), (.int (2 : Int32)), (.int p2), (.int p3), (.int p4), (.int p5), (.ref r6)] 9)) t := fun t kt => pre15 t (by
          show Steps p.tables e below (s₁.setTop (mkF m 29 #[.val (.ref r0), .val (.int (2 : Int32)), .val (.int p2), .val (.int p3), .val (.int p4), .val (.int p5), .val (.ref r6), .val (.int (1 : Int32)), .unset] [])) _
          refine XS.iload X0.here hx rfl (hb hby d3_29) rfl ?_
          refine XS.iload X0.here hx rfl (hb hby d3_31) rfl ?_
          refine XS.ishr X0.here hx rfl (hb hby d3_33) rfl ?_
          refine XS.iconst X0.here hx rfl (hb hby d3_34) ?_
          refine XS.iand X0.here hx rfl (hb hby d3_35) rfl ?_
          exact kt)
        by_cases hc36 : ((p4 >>> (p5 &&& 31)) &&& (1 : Int32)) = (0 : Int32)
        · obtain ⟨cq17, kq17, q17a, q17b, q17c⟩ := isOf hZ e0 E_r
          obtain ⟨_, _, ⟨T17, L17, k17, n17⟩, -, X17, ⟨Lc17, hQ17, ll17, ly17, lz17⟩, st17⟩ := X0.virtualBack hx (y := (⟨"com/example/wandel/wandel/replay/Observations", "record", "(IZ)V"⟩ : MethodName)) (z := (⟨"com/example/wandel/wandel/replay/Observations", "record", "(IZ)V"⟩ : MethodName)) hown (mvT hZ (hw _ (List.mem_of_getElem? (i := 32) rfl))) (mvT hZ (hw _ (List.mem_of_getElem? (i := 33) rfl))) (notFace_of_selects (args := #[]) (mvT hZ (hw _ (List.mem_of_getElem? (i := 35) rfl)))) (mvT hZ (hw _ (List.mem_of_getElem? (i := 35) rfl))) (mvT hZ (hw _ (List.mem_of_getElem? (i := 34) rfl))) (by decide) (backOf (W := 0) (rm5n2j1 l Z a0 hw [] r0 (0 : Int32) ca ch lc ar ge kca kch klc kar kge v0 v1 c0 c1 l0 l1 m0 m1 g0 g1 h0 n0 Z0 F_count F_changes F_lastChanged F_arithmetic F_geometric V_ca V_ch V_lc V_ar V_ge ne_r0_ca ne_r0_ch ne_r0_lc ne_r0_ar ne_r0_ge ne_ca_ch ne_ca_lc ne_ca_ar ne_ca_ge ne_ch_lc ne_ch_ar ne_ch_ge ne_lc_ar ne_lc_ge ne_ar_ge g_ca g_ch g_lc g_ar g_ge (own_gg2_1 hI)) hZ (hw _ (List.mem_of_getElem? (i := 36) rfl)) (hw _ (List.mem_of_getElem? (i := 2) rfl)) (by decide) (by decide)) q17a q17c (g := (mkF m 51 #[.val (.ref r0), .val (.int (2 : Int32)), .val (.int p2), .val (.int p3), .val (.int p4), .val (.int p5), .val (.ref r6), .val (.int (1 : Int32)), .val (.int (0 : Int32))] [(.int (0 : Int32)), (.int (1 : Int32)), (.ref r0)])) rfl (by rw [hml]; rfl) (Steps.refl _) (argsL := [(.int (1 : Int32)), (.int (0 : Int32))]) (rest := []) (lenOf pd__IZ_V rfl) rfl (by show 2 * 0 + _ ≤ _; exact Nat.le_of_eq rfl) (hb hby d3_51) (fun _ _ => ⟨rfl, e0, (by decide : 0 + 0 ≤ _), (by decide : 0 + 0 ≤ _)⟩)
          dsimp only [Pt.U, Pt.locs, Pt.cells, Pt.slots] at X17 ll17 ly17 lz17 st17 hQ17
          subst ll17 ly17 lz17
          obtain ⟨rfl, N17q, K17c, P17_0, P17_1, P17_2, P17_3, P17_4⟩ := hQ17
          have N17 := Fr.app N0 N17q
          have K17 : Keep h0 T17.heap [ca, ch, lc, ar, ge, r6] := (Keep.refl h0 [ca, ch, lc, ar, ge, r6]).trans K17c (allS (Or.inl (List.mem_of_getElem? (i := 0) rfl)) (allS (Or.inl (List.mem_of_getElem? (i := 1) rfl)) (allS (Or.inl (List.mem_of_getElem? (i := 2) rfl)) (allS (Or.inl (List.mem_of_getElem? (i := 3) rfl)) (allS (Or.inl (List.mem_of_getElem? (i := 4) rfl)) all0)))))
          obtain ⟨cl18, Ar18, qa18, S18, Nl18, H18, G18⟩ := id (V_t.keep K17c (ninS (Ne.symm ne_ca_r6) (ninS (Ne.symm ne_ch_r6) (ninS (Ne.symm ne_lc_r6) (ninS (Ne.symm ne_ar_r6) (ninS (Ne.symm ne_ge_r6) nin0))))))
          have hin18 : ¬ ((0 : Int32) < 0 ∨ cl18.slots.size ≤ ((0 : Int32)).toNatClampNeg) := inb_of S18 ⟨by decide, by decide⟩
          have hat18 : cl18.slots[((0 : Int32)).toNatClampNeg]? = some (.long t0) := Has.at H18 hin18 rfl
          obtain ⟨cl19, Ar19, qa19, S19, Nl19, H19, G19⟩ := id (V_t.keep K17c (ninS (Ne.symm ne_ca_r6) (ninS (Ne.symm ne_ch_r6) (ninS (Ne.symm ne_lc_r6) (ninS (Ne.symm ne_ar_r6) (ninS (Ne.symm ne_ge_r6) nin0))))))
          have hin19 : ¬ ((0 : Int32) < 0 ∨ cl19.slots.size ≤ ((0 : Int32)).toNatClampNeg) := inb_of S19 ⟨by decide, by decide⟩
          obtain ⟨T19, h19, X19, e19, W19, st19⟩ := stJ X17 hx hZ (rfl : T17.heap = T17.heap) Ar19 (j := (0 : Int32)) hin19 (g := (mkF m 61 #[.val (.ref r0), .val (.int (2 : Int32)), .val (.int p2), .val (.int p3), .val (.int p4), .val (.int p5), .val (.ref r6), .val (.int (1 : Int32)), .val (.int (0 : Int32))] [(.long (t0 + (1 : Int64))), (.int (0 : Int32)), (.ref r6)])) rfl rfl (hb hby d3_61)
          have V19 : Arv Z h19 r6 kt .long (2 : Int32) [(.long (t0 + (1 : Int64))), (.long t1)] (.long (0 : Int64)) := Arv.set Ar19 qa19 S19 Nl19 H19 G19 rfl W19 0 rfl (Nat.le_of_ble_eq_true rfl)
          have K19 : Keep h0 h19 [ca, ch, lc, ar, ge, r6] := K17.wr W19 (Or.inl (List.mem_of_getElem? (i := 5) rfl))
          have N19 := Fr.snoc X19 N17 g_r6
          obtain ⟨fs, hr, hrun, hended, hW, hsame⟩ := X19.leave (v := none) (fun _ => rfl)
          refine ⟨_, _, pre16 _ ?_, hrun, hended, _, _, rfl, ?_, ⟨_, rfl⟩, hW, hsame.mono (by decide) (by decide)⟩
          · show Steps p.tables e below (s₁.setTop (mkF m 36 #[.val (.ref r0), .val (.int (2 : Int32)), .val (.int p2), .val (.int p3), .val (.int p4), .val (.int p5), .val (.ref r6), .val (.int (1 : Int32)), .unset] [(.int ((p4 >>> (p5 &&& 31)) &&& (1 : Int32)))])) _
            refine XS.ifYes X0.here hx rfl (pc0 := 36) (pc' := 43) rfl (hb hby d3_36) rfl ((if0 _ _).trans (teq hc36).1) (by decide) (by decide) ?_
            refine XS.iconst X0.here hx rfl (hb hby d3_43) ?_
            refine XS.istore X0.here hx rfl (hb hby d3_44) rfl (l' := #[.val (.ref r0), .val (.int (2 : Int32)), .val (.int p2), .val (.int p3), .val (.int p4), .val (.int p5), .val (.ref r6), .val (.int (1 : Int32)), .val (.int (0 : Int32))]) rfl ?_
            refine XS.aloadN X0.here hx rfl (hb hby d3_46) rfl rfl ?_
            refine XS.iload X0.here hx rfl (hb hby d3_47) rfl ?_
            refine XS.iload X0.here hx rfl (hb hby d3_49) rfl ?_
            refine st17.trans ?_
            refine XS.aload X17.here hx rfl (hb hby d3_54) rfl rfl ?_
            show Steps p.tables e below (T17.setTop (mkF m 56 #[.val (.ref r0), .val (.int (2 : Int32)), .val (.int p2), .val (.int p3), .val (.int p4), .val (.int p5), .val (.ref r6), .val (.int (1 : Int32)), .val (.int (0 : Int32))] [(.ref r6)])) _
            refine XS.iconst X17.here hx rfl (hb hby d3_56) ?_
            refine Jvm.Free.XT.dup2 X17.here hx rfl (hb hby d3_57) rfl rfl rfl ?_
            refine X17.laload hx (j := (0 : Int32)) (v := (.long t0)) (by rw [(rfl : T17.heap = T17.heap)]; exact Ar18.1) (State.isArrayOf_alike hZ.alike Ar18.2.1) Ar18.2.2 hin18 hat18 (g := (mkF m 58 #[.val (.ref r0), .val (.int (2 : Int32)), .val (.int p2), .val (.int p3), .val (.int p4), .val (.int p5), .val (.ref r6), .val (.int (1 : Int32)), .val (.int (0 : Int32))] [(.int (0 : Int32)), (.ref r6), (.int (0 : Int32)), (.ref r6)])) rfl rfl (hb hby d3_58) _ ?_
            refine XS.lconst X17.here hx rfl (hb hby d3_59) ?_
            refine XS.ladd X17.here hx rfl (hb hby d3_60) rfl ?_
            refine st19 _ ?_
            refine XS.iload X19.here hx rfl (hb hby d3_62) rfl ?_
            refine XS.ifYes X19.here hx rfl (pc0 := 64) (pc' := 75) rfl (hb hby d3_64) rfl ((if0 _ _).trans (teq (by decide : (0 : Int32) = (0 : Int32))).1) (by decide) (by decide) ?_
            show Steps p.tables e below (T19.setTop (mkF m 75 #[.val (.ref r0), .val (.int (2 : Int32)), .val (.int p2), .val (.int p3), .val (.int p4), .val (.int p5), .val (.ref r6), .val (.int (1 : Int32)), .val (.int (0 : Int32))] [])) _
            exact X19.returnOut hx Bd.returns (hb hby d3_75) hr
          · show Q3n2 Z r0 p2 p3 p4 p5 r6 ca ch lc ar ge kca kch klc kar kge kt v0 v1 c0 c1 l0 l1 m0 m1 g0 g1 t0 t1 kk h0 n0 _ T19.heap _
            rw [e19]
            exact ⟨v0, (v1 + (1 : Int32)), c0, (c1 + (J5n2j1_1_S0 (0 : Int32))), l0, (nar .boolean (0 : Int32)), m0, (m1 + (((J5n2j1_1_S0 (0 : Int32)).toInt64) * ((v1 + (1 : Int32)).toInt64))), g0, (FP.ddiv (FP.dadd g1 (FP.i2d (J5n2j1_1_S0 (0 : Int32)))) (4611686018427387904 : UInt64)), (t0 + (1 : Int64)), t1, rfl, N19, K19, (P17_0.other W19 ne_ca_r6), (P17_1.other W19 ne_ch_r6), (P17_2.other W19 ne_lc_r6), (P17_3.other W19 ne_ar_r6), (P17_4.other W19 ne_ge_r6), V19, (own_up2_1_0 hk (by decide) hI)⟩
        · obtain ⟨cq20, kq20, q20a, q20b, q20c⟩ := isOf hZ e0 E_r
          obtain ⟨_, _, ⟨T20, L20, k20, n20⟩, -, X20, ⟨Lc20, hQ20, ll20, ly20, lz20⟩, st20⟩ := X0.virtualBack hx (y := (⟨"com/example/wandel/wandel/replay/Observations", "record", "(IZ)V"⟩ : MethodName)) (z := (⟨"com/example/wandel/wandel/replay/Observations", "record", "(IZ)V"⟩ : MethodName)) hown (mvT hZ (hw _ (List.mem_of_getElem? (i := 32) rfl))) (mvT hZ (hw _ (List.mem_of_getElem? (i := 33) rfl))) (notFace_of_selects (args := #[]) (mvT hZ (hw _ (List.mem_of_getElem? (i := 35) rfl)))) (mvT hZ (hw _ (List.mem_of_getElem? (i := 35) rfl))) (mvT hZ (hw _ (List.mem_of_getElem? (i := 34) rfl))) (by decide) (backOf (W := 0) (rm5n2j1 l Z a0 hw [] r0 (1 : Int32) ca ch lc ar ge kca kch klc kar kge v0 v1 c0 c1 l0 l1 m0 m1 g0 g1 h0 n0 Z0 F_count F_changes F_lastChanged F_arithmetic F_geometric V_ca V_ch V_lc V_ar V_ge ne_r0_ca ne_r0_ch ne_r0_lc ne_r0_ar ne_r0_ge ne_ca_ch ne_ca_lc ne_ca_ar ne_ca_ge ne_ch_lc ne_ch_ar ne_ch_ge ne_lc_ar ne_lc_ge ne_ar_ge g_ca g_ch g_lc g_ar g_ge (own_gg2_1 hI)) hZ (hw _ (List.mem_of_getElem? (i := 36) rfl)) (hw _ (List.mem_of_getElem? (i := 2) rfl)) (by decide) (by decide)) q20a q20c (g := (mkF m 51 #[.val (.ref r0), .val (.int (2 : Int32)), .val (.int p2), .val (.int p3), .val (.int p4), .val (.int p5), .val (.ref r6), .val (.int (1 : Int32)), .val (.int (1 : Int32))] [(.int (1 : Int32)), (.int (1 : Int32)), (.ref r0)])) rfl (by rw [hml]; rfl) (Steps.refl _) (argsL := [(.int (1 : Int32)), (.int (1 : Int32))]) (rest := []) (lenOf pd__IZ_V rfl) rfl (by show 2 * 0 + _ ≤ _; exact Nat.le_of_eq rfl) (hb hby d3_51) (fun _ _ => ⟨rfl, e0, (by decide : 0 + 0 ≤ _), (by decide : 0 + 0 ≤ _)⟩)
          dsimp only [Pt.U, Pt.locs, Pt.cells, Pt.slots] at X20 ll20 ly20 lz20 st20 hQ20
          subst ll20 ly20 lz20
          obtain ⟨rfl, N20q, K20c, P20_0, P20_1, P20_2, P20_3, P20_4⟩ := hQ20
          have N20 := Fr.app N0 N20q
          have K20 : Keep h0 T20.heap [ca, ch, lc, ar, ge, r6] := (Keep.refl h0 [ca, ch, lc, ar, ge, r6]).trans K20c (allS (Or.inl (List.mem_of_getElem? (i := 0) rfl)) (allS (Or.inl (List.mem_of_getElem? (i := 1) rfl)) (allS (Or.inl (List.mem_of_getElem? (i := 2) rfl)) (allS (Or.inl (List.mem_of_getElem? (i := 3) rfl)) (allS (Or.inl (List.mem_of_getElem? (i := 4) rfl)) all0)))))
          obtain ⟨cl21, Ar21, qa21, S21, Nl21, H21, G21⟩ := id (V_t.keep K20c (ninS (Ne.symm ne_ca_r6) (ninS (Ne.symm ne_ch_r6) (ninS (Ne.symm ne_lc_r6) (ninS (Ne.symm ne_ar_r6) (ninS (Ne.symm ne_ge_r6) nin0))))))
          have hin21 : ¬ ((0 : Int32) < 0 ∨ cl21.slots.size ≤ ((0 : Int32)).toNatClampNeg) := inb_of S21 ⟨by decide, by decide⟩
          have hat21 : cl21.slots[((0 : Int32)).toNatClampNeg]? = some (.long t0) := Has.at H21 hin21 rfl
          obtain ⟨cl22, Ar22, qa22, S22, Nl22, H22, G22⟩ := id (V_t.keep K20c (ninS (Ne.symm ne_ca_r6) (ninS (Ne.symm ne_ch_r6) (ninS (Ne.symm ne_lc_r6) (ninS (Ne.symm ne_ar_r6) (ninS (Ne.symm ne_ge_r6) nin0))))))
          have hin22 : ¬ ((0 : Int32) < 0 ∨ cl22.slots.size ≤ ((0 : Int32)).toNatClampNeg) := inb_of S22 ⟨by decide, by decide⟩
          obtain ⟨T22, h22, X22, e22, W22, st22⟩ := stJ X20 hx hZ (rfl : T20.heap = T20.heap) Ar22 (j := (0 : Int32)) hin22 (g := (mkF m 61 #[.val (.ref r0), .val (.int (2 : Int32)), .val (.int p2), .val (.int p3), .val (.int p4), .val (.int p5), .val (.ref r6), .val (.int (1 : Int32)), .val (.int (1 : Int32))] [(.long (t0 + (1 : Int64))), (.int (0 : Int32)), (.ref r6)])) rfl rfl (hb hby d3_61)
          have V22 : Arv Z h22 r6 kt .long (2 : Int32) [(.long (t0 + (1 : Int64))), (.long t1)] (.long (0 : Int64)) := Arv.set Ar22 qa22 S22 Nl22 H22 G22 rfl W22 0 rfl (Nat.le_of_ble_eq_true rfl)
          have K22 : Keep h0 h22 [ca, ch, lc, ar, ge, r6] := K20.wr W22 (Or.inl (List.mem_of_getElem? (i := 5) rfl))
          have N22 := Fr.snoc X22 N20 g_r6
          obtain ⟨cl23, Ar23, qa23, S23, Nl23, H23, G23⟩ := id V22
          have hin23 : ¬ ((1 : Int32) < 0 ∨ cl23.slots.size ≤ ((1 : Int32)).toNatClampNeg) := inb_of S23 ⟨by decide, by decide⟩
          have hat23 : cl23.slots[((1 : Int32)).toNatClampNeg]? = some (.long t1) := Has.at H23 hin23 rfl
          obtain ⟨cl24, Ar24, qa24, S24, Nl24, H24, G24⟩ := id V22
          have hin24 : ¬ ((1 : Int32) < 0 ∨ cl24.slots.size ≤ ((1 : Int32)).toNatClampNeg) := inb_of S24 ⟨by decide, by decide⟩
          obtain ⟨T24, h24, X24, e24, W24, st24⟩ := stJ X22 hx hZ e22 Ar24 (j := (1 : Int32)) hin24 (g := (mkF m 74 #[.val (.ref r0), .val (.int (2 : Int32)), .val (.int p2), .val (.int p3), .val (.int p4), .val (.int p5), .val (.ref r6), .val (.int (1 : Int32)), .val (.int (1 : Int32))] [(.long (t1 + (1 : Int64))), (.int (1 : Int32)), (.ref r6)])) rfl rfl (hb hby d3_74)
          have V24 : Arv Z h24 r6 kt .long (2 : Int32) [(.long (t0 + (1 : Int64))), (.long (t1 + (1 : Int64)))] (.long (0 : Int64)) := Arv.set Ar24 qa24 S24 Nl24 H24 G24 rfl W24 1 rfl (Nat.le_of_ble_eq_true rfl)
          have K24 : Keep h0 h24 [ca, ch, lc, ar, ge, r6] := K22.wr W24 (Or.inl (List.mem_of_getElem? (i := 5) rfl))
          have N24 := Fr.snoc X24 N22 g_r6
          obtain ⟨fs, hr, hrun, hended, hW, hsame⟩ := X24.leave (v := none) (fun _ => rfl)
          refine ⟨_, _, pre16 _ ?_, hrun, hended, _, _, rfl, ?_, ⟨_, rfl⟩, hW, hsame.mono (by decide) (by decide)⟩
          · show Steps p.tables e below (s₁.setTop (mkF m 36 #[.val (.ref r0), .val (.int (2 : Int32)), .val (.int p2), .val (.int p3), .val (.int p4), .val (.int p5), .val (.ref r6), .val (.int (1 : Int32)), .unset] [(.int ((p4 >>> (p5 &&& 31)) &&& (1 : Int32)))])) _
            refine XS.ifNo X0.here hx rfl (hb hby d3_36) rfl ((if0 _ _).trans (feq hc36).1) ?_
            refine XS.iconst X0.here hx rfl (hb hby d3_39) ?_
            refine XS.goto X0.here hx rfl (pc0 := 40) (pc' := 44) rfl (hb hby d3_40) (by decide) (by decide) ?_
            refine XS.istore X0.here hx rfl (hb hby d3_44) rfl (l' := #[.val (.ref r0), .val (.int (2 : Int32)), .val (.int p2), .val (.int p3), .val (.int p4), .val (.int p5), .val (.ref r6), .val (.int (1 : Int32)), .val (.int (1 : Int32))]) rfl ?_
            refine XS.aloadN X0.here hx rfl (hb hby d3_46) rfl rfl ?_
            refine XS.iload X0.here hx rfl (hb hby d3_47) rfl ?_
            refine XS.iload X0.here hx rfl (hb hby d3_49) rfl ?_
            refine st20.trans ?_
            show Steps p.tables e below (T20.setTop (mkF m 54 #[.val (.ref r0), .val (.int (2 : Int32)), .val (.int p2), .val (.int p3), .val (.int p4), .val (.int p5), .val (.ref r6), .val (.int (1 : Int32)), .val (.int (1 : Int32))] [])) _
            refine XS.aload X20.here hx rfl (hb hby d3_54) rfl rfl ?_
            refine XS.iconst X20.here hx rfl (hb hby d3_56) ?_
            refine Jvm.Free.XT.dup2 X20.here hx rfl (hb hby d3_57) rfl rfl rfl ?_
            refine X20.laload hx (j := (0 : Int32)) (v := (.long t0)) (by rw [(rfl : T20.heap = T20.heap)]; exact Ar21.1) (State.isArrayOf_alike hZ.alike Ar21.2.1) Ar21.2.2 hin21 hat21 (g := (mkF m 58 #[.val (.ref r0), .val (.int (2 : Int32)), .val (.int p2), .val (.int p3), .val (.int p4), .val (.int p5), .val (.ref r6), .val (.int (1 : Int32)), .val (.int (1 : Int32))] [(.int (0 : Int32)), (.ref r6), (.int (0 : Int32)), (.ref r6)])) rfl rfl (hb hby d3_58) _ ?_
            refine XS.lconst X20.here hx rfl (hb hby d3_59) ?_
            refine XS.ladd X20.here hx rfl (hb hby d3_60) rfl ?_
            refine st22 _ ?_
            refine XS.iload X22.here hx rfl (hb hby d3_62) rfl ?_
            show Steps p.tables e below (T22.setTop (mkF m 64 #[.val (.ref r0), .val (.int (2 : Int32)), .val (.int p2), .val (.int p3), .val (.int p4), .val (.int p5), .val (.ref r6), .val (.int (1 : Int32)), .val (.int (1 : Int32))] [(.int (1 : Int32))])) _
            refine XS.ifNo X22.here hx rfl (hb hby d3_64) rfl ((if0 _ _).trans (feq (by decide : ¬ ((1 : Int32) = (0 : Int32)))).1) ?_
            refine XS.aload X22.here hx rfl (hb hby d3_67) rfl rfl ?_
            refine XS.iconst X22.here hx rfl (hb hby d3_69) ?_
            refine Jvm.Free.XT.dup2 X22.here hx rfl (hb hby d3_70) rfl rfl rfl ?_
            refine X22.laload hx (j := (1 : Int32)) (v := (.long t1)) (by rw [e22]; exact Ar23.1) (State.isArrayOf_alike hZ.alike Ar23.2.1) Ar23.2.2 hin23 hat23 (g := (mkF m 71 #[.val (.ref r0), .val (.int (2 : Int32)), .val (.int p2), .val (.int p3), .val (.int p4), .val (.int p5), .val (.ref r6), .val (.int (1 : Int32)), .val (.int (1 : Int32))] [(.int (1 : Int32)), (.ref r6), (.int (1 : Int32)), (.ref r6)])) rfl rfl (hb hby d3_71) _ ?_
            refine XS.lconst X22.here hx rfl (hb hby d3_72) ?_
            refine XS.ladd X22.here hx rfl (hb hby d3_73) rfl ?_
            refine st24 _ ?_
            show Steps p.tables e below (T24.setTop (mkF m 75 #[.val (.ref r0), .val (.int (2 : Int32)), .val (.int p2), .val (.int p3), .val (.int p4), .val (.int p5), .val (.ref r6), .val (.int (1 : Int32)), .val (.int (1 : Int32))] [])) _
            exact X24.returnOut hx Bd.returns (hb hby d3_75) hr
          · show Q3n2 Z r0 p2 p3 p4 p5 r6 ca ch lc ar ge kca kch klc kar kge kt v0 v1 c0 c1 l0 l1 m0 m1 g0 g1 t0 t1 kk h0 n0 _ T24.heap _
            rw [e24]
            exact ⟨v0, (v1 + (1 : Int32)), c0, (c1 + (J5n2j1_1_S0 (1 : Int32))), l0, (nar .boolean (1 : Int32)), m0, (m1 + (((J5n2j1_1_S0 (1 : Int32)).toInt64) * ((v1 + (1 : Int32)).toInt64))), g0, (FP.ddiv (FP.dadd g1 (FP.i2d (J5n2j1_1_S0 (1 : Int32)))) (4611686018427387904 : UInt64)), (t0 + (1 : Int64)), (t1 + (1 : Int64)), rfl, N24, K24, ((P20_0.other W22 ne_ca_r6).other W24 ne_ca_r6), ((P20_1.other W22 ne_ch_r6).other W24 ne_ch_r6), ((P20_2.other W22 ne_lc_r6).other W24 ne_lc_r6), ((P20_3.other W22 ne_ar_r6).other W24 ne_ar_r6), ((P20_4.other W22 ne_ge_r6).other W24 ne_ge_r6), V24, (own_up2_1_1 hk (by decide) hI)⟩
      · exact absurd (own_pg2 (p3 >>> (((2 : Int32) * p5) &&& 31))) (by unfold A3n2_27 at *; simp_all)
theorem own_pg3 (q : Int32) : (q &&& (3 : Int32)) % (3 : Int32) = 0 ∨ (q &&& (3 : Int32)) % (3 : Int32) = 1 ∨ (q &&& (3 : Int32)) % (3 : Int32) = 2 := by
  have m := c_mask q 3 2 (by decide) (by decide)
  have r := (c_irem (q &&& (3 : Int32)) 3 3 (by decide)).1 (by omega)
  simp only [← Int32.toInt_inj]
  show _ = (0 : Int) ∨ _ = (1 : Int) ∨ _ = (2 : Int)
  omega
def A3n3_27 (p3 p5 : Int32) : Int32 := (((p3 >>> (((2 : Int32) * p5) &&& 31)) &&& (3 : Int32)) % (3 : Int32))
theorem ef_3n3 (r0 : Addr) (p2 : Int32) (p3 : Int32) (p4 : Int32) (p5 : Int32) (r6 : Addr) (ca ch lc ar ge : Addr) (kca kch klc kar kge : ClassId) (kt : ClassId) (v0 v1 v2 : Int32) (c0 c1 c2 : Int32) (l0 l1 l2 : Int32) (m0 m1 m2 : Int64) (g0 g1 g2 : UInt64) (t0 t1 : Int64) (kk : Int) (m : MethodId) : entryFrame m #[(.ref r0), (.int (3 : Int32)), (.int p2), (.int p3), (.int p4), (.int p5), (.ref r6)] 9 = mkF m 0 #[.val (.ref r0), .val (.int (3 : Int32)), .val (.int p2), .val (.int p3), .val (.int p4), .val (.int p5), .val (.ref r6), .unset, .unset] [] := by first | (simp [entryFrame, mkF, argsToLocals, Value.category]; done) | rfl
def Q3n3 (Z : State) (r0 : Addr) (p2 : Int32) (p3 : Int32) (p4 : Int32) (p5 : Int32) (r6 : Addr) (ca ch lc ar ge : Addr) (kca kch klc kar kge : ClassId) (kt : ClassId) (v0 v1 v2 : Int32) (c0 c1 c2 : Int32) (l0 l1 l2 : Int32) (m0 m1 m2 : Int64) (g0 g1 g2 : UInt64) (t0 t1 : Int64) (kk : Int) (h0 : Heap) (n0 : Nat) (v : Option Value) (h : Heap) (L : List Loc) : Prop := ∃ (v0' : Int32) (v1' : Int32) (v2' : Int32) (c0' : Int32) (c1' : Int32) (c2' : Int32) (l0' : Int32) (l1' : Int32) (l2' : Int32) (m0' : Int64) (m1' : Int64) (m2' : Int64) (g0' : UInt64) (g1' : UInt64) (g2' : UInt64) (t0' : Int64) (t1' : Int64), v = none ∧ Fr n0 L ∧ Keep h0 h [ca, ch, lc, ar, ge, r6] ∧ Arv Z h ca kca .int (3 : Int32) [(.int v0'), (.int v1'), (.int v2')] (.int (0 : Int32)) ∧ Arv Z h ch kch .int (3 : Int32) [(.int c0'), (.int c1'), (.int c2')] (.int (0 : Int32)) ∧ Arv Z h lc klc .boolean (3 : Int32) [(.int l0'), (.int l1'), (.int l2')] (.int (0 : Int32)) ∧ Arv Z h ar kar .long (3 : Int32) [(.long m0'), (.long m1'), (.long m2')] (.long (0 : Int64)) ∧ Arv Z h ge kge .double (3 : Int32) [(.double g0'), (.double g1'), (.double g2')] (.double (0 : UInt64)) ∧ Arv Z h r6 kt .long (2 : Int32) [(.long t0'), (.long t1')] (.long (0 : Int64)) ∧ Inv3 (kk + 1) v0' v1' v2' c0' c1' c2' g0' g1' g2' t0' t1'
set_option maxRecDepth 65536 in
set_option maxHeartbeats 40000000 in
theorem rm3n3 (l : Launch) (Z : State) (a0 : Array Value) (hw : ∀ d ∈ tables_1, d.before a0 Z = true) (ws : List Jvm.Cond) (r0 : Addr) (p2 : Int32) (p3 : Int32) (p4 : Int32) (p5 : Int32) (r6 : Addr) (ca ch lc ar ge : Addr) (kca kch klc kar kge : ClassId) (kt : ClassId) (v0 v1 v2 : Int32) (c0 c1 c2 : Int32) (l0 l1 l2 : Int32) (m0 m1 m2 : Int64) (g0 g1 g2 : UInt64) (t0 t1 : Int64) (kk : Int) (h0 : Heap) (n0 : Nat) (Z0 : n0 ≤ h0.size) (E_r : Exa Z h0 r0 "com/example/wandel/wandel/replay/Observations") (F_count : Fld Z h0 r0 "com/example/wandel/wandel/replay/Observations" "count" "[I" (.ref ca)) (F_changes : Fld Z h0 r0 "com/example/wandel/wandel/replay/Observations" "changes" "[I" (.ref ch)) (F_lastChanged : Fld Z h0 r0 "com/example/wandel/wandel/replay/Observations" "lastChanged" "[Z" (.ref lc)) (F_arithmetic : Fld Z h0 r0 "com/example/wandel/wandel/replay/Observations" "arithmetic" "[J" (.ref ar)) (F_geometric : Fld Z h0 r0 "com/example/wandel/wandel/replay/Observations" "geometric" "[D" (.ref ge)) (V_ca : Arv Z h0 ca kca .int (3 : Int32) [(.int v0), (.int v1), (.int v2)] (.int (0 : Int32))) (V_ch : Arv Z h0 ch kch .int (3 : Int32) [(.int c0), (.int c1), (.int c2)] (.int (0 : Int32))) (V_lc : Arv Z h0 lc klc .boolean (3 : Int32) [(.int l0), (.int l1), (.int l2)] (.int (0 : Int32))) (V_ar : Arv Z h0 ar kar .long (3 : Int32) [(.long m0), (.long m1), (.long m2)] (.long (0 : Int64))) (V_ge : Arv Z h0 ge kge .double (3 : Int32) [(.double g0), (.double g1), (.double g2)] (.double (0 : UInt64))) (V_t : Arv Z h0 r6 kt .long (2 : Int32) [(.long t0), (.long t1)] (.long (0 : Int64))) (ne_r0_ca : r0 ≠ ca) (ne_r0_ch : r0 ≠ ch) (ne_r0_lc : r0 ≠ lc) (ne_r0_ar : r0 ≠ ar) (ne_r0_ge : r0 ≠ ge) (ne_ca_ch : ca ≠ ch) (ne_ca_lc : ca ≠ lc) (ne_ca_ar : ca ≠ ar) (ne_ca_ge : ca ≠ ge) (ne_ch_lc : ch ≠ lc) (ne_ch_ar : ch ≠ ar) (ne_ch_ge : ch ≠ ge) (ne_lc_ar : lc ≠ ar) (ne_lc_ge : lc ≠ ge) (ne_ar_ge : ar ≠ ge) (ne_r0_r6 : r0 ≠ r6) (ne_ca_r6 : ca ≠ r6) (ne_ch_r6 : ch ≠ r6) (ne_lc_r6 : lc ≠ r6) (ne_ar_r6 : ar ≠ r6) (ne_ge_r6 : ge ≠ r6) (g_ca : n0 ≤ ca) (g_ch : n0 ≤ ch) (g_lc : n0 ≤ lc) (g_ar : n0 ≤ ar) (g_ge : n0 ≤ ge) (g_r6 : n0 ≤ r6) (hI : Inv3 kk v0 v1 v2 c0 c1 c2 g0 g1 g2 t0 t1) (hk : kk ≤ 100) :
    MetFree l (⟨"com/example/wandel/wandel/replay/ObservationsChangeSharePinLaw", "step", "(Lcom/example/wandel/wandel/replay/Observations;IIIII[J)V"⟩ : MethodName) (head1 (Jvm.Cond.code (⟨"com/example/wandel/wandel/replay/ObservationsChangeSharePinLaw", "step", "(Lcom/example/wandel/wandel/replay/Observations;IIIII[J)V"⟩ : MethodName) method_3_code 9 none :: ws) ({ frames := 1, cells := 0, slots := 0, locals := 15 } : Room)) (fun a U => a = #[(.ref r0), (.int (3 : Int32)), (.int p2), (.int p3), (.int p4), (.int p5), (.ref r6)] ∧ Z.Warmed39 U.vm ∧ U.heap = h0) (fun _ _ _ _ _ => True) (fun _ U o U' => ∃ v L, o = .returned v ∧ Q3n3 Z r0 p2 p3 p4 p5 r6 ca ch lc ar ge kca kch klc kar kge kt v0 v1 v2 c0 c1 c2 l0 l1 l2 m0 m1 m2 g0 g1 g2 t0 t1 kk h0 n0 v U'.heap L ∧ FrameEnd U o U' L ({ frames := 1, cells := 0, slots := 0, locals := 15 } : Room).cells ({ frames := 1, cells := 0, slots := 0, locals := 15 } : Room).slots) := by
  refine MetFree.of_bodySF (plainFor_of_name pn_com_example_wandel_wandel_replay_ObservationsChangeSharePinLaw) hisR ?_
  intro p e s m args below meth c s₁ Bd hml0 hP hK
  obtain ⟨rfl, hZ, hh⟩ := hP
  have hx := Bd.exec
  have hby := Bd.bytes
  have hml : c.maxLocals = 9 := hml0
  have hown : s.vm.findClass "com/example/wandel/wandel/replay/ObservationsChangeSharePinLaw" = some m.cls := findClass_of_methodNamed Bd.named
  have hnm := (name_of_methodNamed Bd.named Bd.method).1
  have X0 : Stand p l e ({ frames := 1, cells := 0, slots := 0, locals := 15 } : Room) s m #[(.ref r0), (.int (3 : Int32)), (.int p2), (.int p3), (.int p4), (.int p5), (.ref r6)] below meth c s₁ [] 0 0 := Stand.of_body Bd
  have e0 : s₁.heap = h0 := by rw [← hh, Bd.state]; rfl
  have N0 := Fr.nil n0
  have pre0 : ∀ t, Steps p.tables e below (s₁.setTop (mkF m 0 #[.val (.ref r0), .val (.int (3 : Int32)), .val (.int p2), .val (.int p3), .val (.int p4), .val (.int p5), .val (.ref r6), .unset, .unset] [])) t → Steps p.tables e below (s₁.setTop (entryFrame m #[(.ref r0), (.int (3 : Int32)), (.int p2), (.int p3), (.int p4), (.int p5), (.ref r6)] 9)) t := fun t k => castTop (ef_3n3 r0 p2 p3 p4 p5 r6 ca ch lc ar ge kca kch klc kar kge kt v0 v1 v2 c0 c1 c2 l0 l1 l2 m0 m1 m2 g0 g1 g2 t0 t1 kk m) k
  have pre1 : ∀ t, Steps p.tables e below (s₁.setTop (mkF m 13 #[.val (.ref r0), .val (.int (3 : Int32)), .val (.int p2), .val (.int p3), .val (.int p4), .val (.int p5), .val (.ref r6), .unset, .unset] [(.int ((p2 >>> (((2 : Int32) + p5) &&& 31)) &&& (1 : Int32)))])) t → Steps p.tables e below (s₁.setTop (entryFrame m #[(.ref r0), (.int (3 : Int32)), (.int p2), (.int p3), (.int p4), (.int p5), (.ref r6)] 9)) t := fun t kt => pre0 t (by
    show Steps p.tables e below (s₁.setTop (mkF m 0 #[.val (.ref r0), .val (.int (3 : Int32)), .val (.int p2), .val (.int p3), .val (.int p4), .val (.int p5), .val (.ref r6), .unset, .unset] [])) _
    refine XS.iloadN X0.here hx rfl (hb hby d3_0) rfl ?_
    refine XS.ifYes X0.here hx rfl (pc0 := 1) (pc' := 5) rfl (hb hby d3_1) rfl ((if0 _ _).trans (feq (by decide : ¬ ((3 : Int32) = (0 : Int32)))).2) (by decide) (by decide) ?_
    refine XS.iloadN X0.here hx rfl (hb hby d3_5) rfl ?_
    refine XS.iconst X0.here hx rfl (hb hby d3_6) ?_
    refine XS.iload X0.here hx rfl (hb hby d3_7) rfl ?_
    refine XS.iadd X0.here hx rfl (hb hby d3_9) rfl ?_
    refine XS.ishr X0.here hx rfl (hb hby d3_10) rfl ?_
    refine XS.iconst X0.here hx rfl (hb hby d3_11) ?_
    show Steps p.tables e below (s₁.setTop (mkF m 12 #[.val (.ref r0), .val (.int (3 : Int32)), .val (.int p2), .val (.int p3), .val (.int p4), .val (.int p5), .val (.ref r6), .unset, .unset] [(.int (1 : Int32)), (.int (p2 >>> (((2 : Int32) + p5) &&& 31)))])) _
    refine XS.iand X0.here hx rfl (hb hby d3_12) rfl ?_
    exact kt)
  by_cases hc13 : ((p2 >>> (((2 : Int32) + p5) &&& 31)) &&& (1 : Int32)) = (0 : Int32)
  · obtain ⟨fs, hr, hrun, hended, hW, hsame⟩ := X0.leave (v := none) (fun _ => rfl)
    refine ⟨_, _, pre1 _ ?_, hrun, hended, _, _, rfl, ?_, ⟨_, rfl⟩, hW, hsame.mono (by decide) (by decide)⟩
    · show Steps p.tables e below (s₁.setTop (mkF m 13 #[.val (.ref r0), .val (.int (3 : Int32)), .val (.int p2), .val (.int p3), .val (.int p4), .val (.int p5), .val (.ref r6), .unset, .unset] [(.int ((p2 >>> (((2 : Int32) + p5) &&& 31)) &&& (1 : Int32)))])) _
      refine XS.ifNo X0.here hx rfl (hb hby d3_13) rfl ((if0 _ _).trans (teq hc13).2) ?_
      show Steps p.tables e below (s₁.setTop (mkF m 16 #[.val (.ref r0), .val (.int (3 : Int32)), .val (.int p2), .val (.int p3), .val (.int p4), .val (.int p5), .val (.ref r6), .unset, .unset] [])) _
      exact X0.returnOut hx Bd.returns (hb hby d3_16) hr
    · show Q3n3 Z r0 p2 p3 p4 p5 r6 ca ch lc ar ge kca kch klc kar kge kt v0 v1 v2 c0 c1 c2 l0 l1 l2 m0 m1 m2 g0 g1 g2 t0 t1 kk h0 n0 _ s₁.heap _
      rw [e0]
      exact ⟨v0, v1, v2, c0, c1, c2, l0, l1, l2, m0, m1, m2, g0, g1, g2, t0, t1, rfl, N0, (Keep.refl h0 [ca, ch, lc, ar, ge, r6]), V_ca, V_ch, V_lc, V_ar, V_ge, V_t, (own_same3 hI)⟩
  · have pre2 : ∀ t, Steps p.tables e below (s₁.setTop (mkF m 29 #[.val (.ref r0), .val (.int (3 : Int32)), .val (.int p2), .val (.int p3), .val (.int p4), .val (.int p5), .val (.ref r6), .val (.int (A3n3_27 p3 p5)), .unset] [])) t → Steps p.tables e below (s₁.setTop (entryFrame m #[(.ref r0), (.int (3 : Int32)), (.int p2), (.int p3), (.int p4), (.int p5), (.ref r6)] 9)) t := fun t kt => pre1 t (by
      show Steps p.tables e below (s₁.setTop (mkF m 13 #[.val (.ref r0), .val (.int (3 : Int32)), .val (.int p2), .val (.int p3), .val (.int p4), .val (.int p5), .val (.ref r6), .unset, .unset] [(.int ((p2 >>> (((2 : Int32) + p5) &&& 31)) &&& (1 : Int32)))])) _
      refine XS.ifYes X0.here hx rfl (pc0 := 13) (pc' := 17) rfl (hb hby d3_13) rfl ((if0 _ _).trans (feq hc13).2) (by decide) (by decide) ?_
      refine XS.iloadN X0.here hx rfl (hb hby d3_17) rfl ?_
      refine XS.iconst X0.here hx rfl (hb hby d3_18) ?_
      refine XS.iload X0.here hx rfl (hb hby d3_19) rfl ?_
      refine XS.imul X0.here hx rfl (hb hby d3_21) rfl ?_
      refine XS.ishr X0.here hx rfl (hb hby d3_22) rfl ?_
      refine XS.iconst X0.here hx rfl (hb hby d3_23) ?_
      refine XS.iand X0.here hx rfl (hb hby d3_24) rfl ?_
      show Steps p.tables e below (s₁.setTop (mkF m 25 #[.val (.ref r0), .val (.int (3 : Int32)), .val (.int p2), .val (.int p3), .val (.int p4), .val (.int p5), .val (.ref r6), .unset, .unset] [(.int ((p3 >>> (((2 : Int32) * p5) &&& 31)) &&& (3 : Int32)))])) _
      refine XS.iloadN X0.here hx rfl (hb hby d3_25) rfl ?_
      refine iremM X0 hx rfl (hb hby d3_26) rfl (by decide) ?_
      refine XS.istore X0.here hx rfl (hb hby d3_27) rfl (l' := #[.val (.ref r0), .val (.int (3 : Int32)), .val (.int p2), .val (.int p3), .val (.int p4), .val (.int p5), .val (.ref r6), .val (.int (((p3 >>> (((2 : Int32) * p5) &&& 31)) &&& (3 : Int32)) % (3 : Int32))), .unset]) rfl ?_
      exact kt)
    by_cases hp0 : (A3n3_27 p3 p5) = (0 : Int32)
    · have qr3 : (A3n3_27 p3 p5) = (0 : Int32) := hp0
      have pre4 : ∀ t, Steps p.tables e below (s₁.setTop (mkF m 29 #[.val (.ref r0), .val (.int (3 : Int32)), .val (.int p2), .val (.int p3), .val (.int p4), .val (.int p5), .val (.ref r6), .val (.int (0 : Int32)), .unset] [])) t → Steps p.tables e below (s₁.setTop (entryFrame m #[(.ref r0), (.int (3 : Int32)), (.int p2), (.int p3), (.int p4), (.int p5), (.ref r6)] 9)) t := fun t kt => pre2 t (by rw [qr3]; exact kt)
      have pre5 : ∀ t, Steps p.tables e below (s₁.setTop (mkF m 36 #[.val (.ref r0), .val (.int (3 : Int32)), .val (.int p2), .val (.int p3), .val (.int p4), .val (.int p5), .val (.ref r6), .val (.int (0 : Int32)), .unset] [(.int ((p4 >>> (p5 &&& 31)) &&& (1 : Int32)))])) t → Steps p.tables e below (s₁.setTop (entryFrame m #[(.ref r0), (.int (3 : Int32)), (.int p2), (.int p3), (.int p4), (.int p5), (.ref r6)] 9)) t := fun t kt => pre4 t (by
        show Steps p.tables e below (s₁.setTop (mkF m 29 #[.val (.ref r0), .val (.int (3 : Int32)), .val (.int p2), .val (.int p3), .val (.int p4), .val (.int p5), .val (.ref r6), .val (.int (0 : Int32)), .unset] [])) _
        refine XS.iload X0.here hx rfl (hb hby d3_29) rfl ?_
        refine XS.iload X0.here hx rfl (hb hby d3_31) rfl ?_
        refine XS.ishr X0.here hx rfl (hb hby d3_33) rfl ?_
        refine XS.iconst X0.here hx rfl (hb hby d3_34) ?_
        refine XS.iand X0.here hx rfl (hb hby d3_35) rfl ?_
        exact kt)
      by_cases hc36 : ((p4 >>> (p5 &&& 31)) &&& (1 : Int32)) = (0 : Int32)
      · obtain ⟨cq6, kq6, q6a, q6b, q6c⟩ := isOf hZ e0 E_r
        obtain ⟨_, _, ⟨T6, L6, k6, n6⟩, -, X6, ⟨Lc6, hQ6, ll6, ly6, lz6⟩, st6⟩ := X0.virtualBack hx (y := (⟨"com/example/wandel/wandel/replay/Observations", "record", "(IZ)V"⟩ : MethodName)) (z := (⟨"com/example/wandel/wandel/replay/Observations", "record", "(IZ)V"⟩ : MethodName)) hown (mvT hZ (hw _ (List.mem_of_getElem? (i := 32) rfl))) (mvT hZ (hw _ (List.mem_of_getElem? (i := 33) rfl))) (notFace_of_selects (args := #[]) (mvT hZ (hw _ (List.mem_of_getElem? (i := 35) rfl)))) (mvT hZ (hw _ (List.mem_of_getElem? (i := 35) rfl))) (mvT hZ (hw _ (List.mem_of_getElem? (i := 34) rfl))) (by decide) (backOf (W := 0) (rm5n3j0 l Z a0 hw [] r0 (0 : Int32) ca ch lc ar ge kca kch klc kar kge v0 v1 v2 c0 c1 c2 l0 l1 l2 m0 m1 m2 g0 g1 g2 h0 n0 Z0 F_count F_changes F_lastChanged F_arithmetic F_geometric V_ca V_ch V_lc V_ar V_ge ne_r0_ca ne_r0_ch ne_r0_lc ne_r0_ar ne_r0_ge ne_ca_ch ne_ca_lc ne_ca_ar ne_ca_ge ne_ch_lc ne_ch_ar ne_ch_ge ne_lc_ar ne_lc_ge ne_ar_ge g_ca g_ch g_lc g_ar g_ge (own_gg3_0 hI)) hZ (hw _ (List.mem_of_getElem? (i := 36) rfl)) (hw _ (List.mem_of_getElem? (i := 2) rfl)) (by decide) (by decide)) q6a q6c (g := (mkF m 51 #[.val (.ref r0), .val (.int (3 : Int32)), .val (.int p2), .val (.int p3), .val (.int p4), .val (.int p5), .val (.ref r6), .val (.int (0 : Int32)), .val (.int (0 : Int32))] [(.int (0 : Int32)), (.int (0 : Int32)), (.ref r0)])) rfl (by rw [hml]; rfl) (Steps.refl _) (argsL := [(.int (0 : Int32)), (.int (0 : Int32))]) (rest := []) (lenOf pd__IZ_V rfl) rfl (by show 2 * 0 + _ ≤ _; exact Nat.le_of_eq rfl) (hb hby d3_51) (fun _ _ => ⟨rfl, e0, (by decide : 0 + 0 ≤ _), (by decide : 0 + 0 ≤ _)⟩)
        dsimp only [Pt.U, Pt.locs, Pt.cells, Pt.slots] at X6 ll6 ly6 lz6 st6 hQ6
        subst ll6 ly6 lz6
        obtain ⟨rfl, N6q, K6c, P6_0, P6_1, P6_2, P6_3, P6_4⟩ := hQ6
        have N6 := Fr.app N0 N6q
        have K6 : Keep h0 T6.heap [ca, ch, lc, ar, ge, r6] := (Keep.refl h0 [ca, ch, lc, ar, ge, r6]).trans K6c (allS (Or.inl (List.mem_of_getElem? (i := 0) rfl)) (allS (Or.inl (List.mem_of_getElem? (i := 1) rfl)) (allS (Or.inl (List.mem_of_getElem? (i := 2) rfl)) (allS (Or.inl (List.mem_of_getElem? (i := 3) rfl)) (allS (Or.inl (List.mem_of_getElem? (i := 4) rfl)) all0)))))
        obtain ⟨cl7, Ar7, qa7, S7, Nl7, H7, G7⟩ := id (V_t.keep K6c (ninS (Ne.symm ne_ca_r6) (ninS (Ne.symm ne_ch_r6) (ninS (Ne.symm ne_lc_r6) (ninS (Ne.symm ne_ar_r6) (ninS (Ne.symm ne_ge_r6) nin0))))))
        have hin7 : ¬ ((0 : Int32) < 0 ∨ cl7.slots.size ≤ ((0 : Int32)).toNatClampNeg) := inb_of S7 ⟨by decide, by decide⟩
        have hat7 : cl7.slots[((0 : Int32)).toNatClampNeg]? = some (.long t0) := Has.at H7 hin7 rfl
        obtain ⟨cl8, Ar8, qa8, S8, Nl8, H8, G8⟩ := id (V_t.keep K6c (ninS (Ne.symm ne_ca_r6) (ninS (Ne.symm ne_ch_r6) (ninS (Ne.symm ne_lc_r6) (ninS (Ne.symm ne_ar_r6) (ninS (Ne.symm ne_ge_r6) nin0))))))
        have hin8 : ¬ ((0 : Int32) < 0 ∨ cl8.slots.size ≤ ((0 : Int32)).toNatClampNeg) := inb_of S8 ⟨by decide, by decide⟩
        obtain ⟨T8, h8, X8, e8, W8, st8⟩ := stJ X6 hx hZ (rfl : T6.heap = T6.heap) Ar8 (j := (0 : Int32)) hin8 (g := (mkF m 61 #[.val (.ref r0), .val (.int (3 : Int32)), .val (.int p2), .val (.int p3), .val (.int p4), .val (.int p5), .val (.ref r6), .val (.int (0 : Int32)), .val (.int (0 : Int32))] [(.long (t0 + (1 : Int64))), (.int (0 : Int32)), (.ref r6)])) rfl rfl (hb hby d3_61)
        have V8 : Arv Z h8 r6 kt .long (2 : Int32) [(.long (t0 + (1 : Int64))), (.long t1)] (.long (0 : Int64)) := Arv.set Ar8 qa8 S8 Nl8 H8 G8 rfl W8 0 rfl (Nat.le_of_ble_eq_true rfl)
        have K8 : Keep h0 h8 [ca, ch, lc, ar, ge, r6] := K6.wr W8 (Or.inl (List.mem_of_getElem? (i := 5) rfl))
        have N8 := Fr.snoc X8 N6 g_r6
        obtain ⟨fs, hr, hrun, hended, hW, hsame⟩ := X8.leave (v := none) (fun _ => rfl)
        refine ⟨_, _, pre5 _ ?_, hrun, hended, _, _, rfl, ?_, ⟨_, rfl⟩, hW, hsame.mono (by decide) (by decide)⟩
        · show Steps p.tables e below (s₁.setTop (mkF m 36 #[.val (.ref r0), .val (.int (3 : Int32)), .val (.int p2), .val (.int p3), .val (.int p4), .val (.int p5), .val (.ref r6), .val (.int (0 : Int32)), .unset] [(.int ((p4 >>> (p5 &&& 31)) &&& (1 : Int32)))])) _
          refine XS.ifYes X0.here hx rfl (pc0 := 36) (pc' := 43) rfl (hb hby d3_36) rfl ((if0 _ _).trans (teq hc36).1) (by decide) (by decide) ?_
          refine XS.iconst X0.here hx rfl (hb hby d3_43) ?_
          refine XS.istore X0.here hx rfl (hb hby d3_44) rfl (l' := #[.val (.ref r0), .val (.int (3 : Int32)), .val (.int p2), .val (.int p3), .val (.int p4), .val (.int p5), .val (.ref r6), .val (.int (0 : Int32)), .val (.int (0 : Int32))]) rfl ?_
          refine XS.aloadN X0.here hx rfl (hb hby d3_46) rfl rfl ?_
          refine XS.iload X0.here hx rfl (hb hby d3_47) rfl ?_
          refine XS.iload X0.here hx rfl (hb hby d3_49) rfl ?_
          refine st6.trans ?_
          refine XS.aload X6.here hx rfl (hb hby d3_54) rfl rfl ?_
          show Steps p.tables e below (T6.setTop (mkF m 56 #[.val (.ref r0), .val (.int (3 : Int32)), .val (.int p2), .val (.int p3), .val (.int p4), .val (.int p5), .val (.ref r6), .val (.int (0 : Int32)), .val (.int (0 : Int32))] [(.ref r6)])) _
          refine XS.iconst X6.here hx rfl (hb hby d3_56) ?_
          refine Jvm.Free.XT.dup2 X6.here hx rfl (hb hby d3_57) rfl rfl rfl ?_
          refine X6.laload hx (j := (0 : Int32)) (v := (.long t0)) (by rw [(rfl : T6.heap = T6.heap)]; exact Ar7.1) (State.isArrayOf_alike hZ.alike Ar7.2.1) Ar7.2.2 hin7 hat7 (g := (mkF m 58 #[.val (.ref r0), .val (.int (3 : Int32)), .val (.int p2), .val (.int p3), .val (.int p4), .val (.int p5), .val (.ref r6), .val (.int (0 : Int32)), .val (.int (0 : Int32))] [(.int (0 : Int32)), (.ref r6), (.int (0 : Int32)), (.ref r6)])) rfl rfl (hb hby d3_58) _ ?_
          refine XS.lconst X6.here hx rfl (hb hby d3_59) ?_
          refine XS.ladd X6.here hx rfl (hb hby d3_60) rfl ?_
          refine st8 _ ?_
          refine XS.iload X8.here hx rfl (hb hby d3_62) rfl ?_
          refine XS.ifYes X8.here hx rfl (pc0 := 64) (pc' := 75) rfl (hb hby d3_64) rfl ((if0 _ _).trans (teq (by decide : (0 : Int32) = (0 : Int32))).1) (by decide) (by decide) ?_
          show Steps p.tables e below (T8.setTop (mkF m 75 #[.val (.ref r0), .val (.int (3 : Int32)), .val (.int p2), .val (.int p3), .val (.int p4), .val (.int p5), .val (.ref r6), .val (.int (0 : Int32)), .val (.int (0 : Int32))] [])) _
          exact X8.returnOut hx Bd.returns (hb hby d3_75) hr
        · show Q3n3 Z r0 p2 p3 p4 p5 r6 ca ch lc ar ge kca kch klc kar kge kt v0 v1 v2 c0 c1 c2 l0 l1 l2 m0 m1 m2 g0 g1 g2 t0 t1 kk h0 n0 _ T8.heap _
          rw [e8]
          exact ⟨(v0 + (1 : Int32)), v1, v2, (c0 + (J5n3j0_1_S0 (0 : Int32))), c1, c2, (nar .boolean (0 : Int32)), l1, l2, (m0 + (((J5n3j0_1_S0 (0 : Int32)).toInt64) * ((v0 + (1 : Int32)).toInt64))), m1, m2, (FP.ddiv (FP.dadd g0 (FP.i2d (J5n3j0_1_S0 (0 : Int32)))) (4611686018427387904 : UInt64)), g1, g2, (t0 + (1 : Int64)), t1, rfl, N8, K8, (P6_0.other W8 ne_ca_r6), (P6_1.other W8 ne_ch_r6), (P6_2.other W8 ne_lc_r6), (P6_3.other W8 ne_ar_r6), (P6_4.other W8 ne_ge_r6), V8, (own_up3_0_0 hk (by decide) hI)⟩
      · obtain ⟨cq9, kq9, q9a, q9b, q9c⟩ := isOf hZ e0 E_r
        obtain ⟨_, _, ⟨T9, L9, k9, n9⟩, -, X9, ⟨Lc9, hQ9, ll9, ly9, lz9⟩, st9⟩ := X0.virtualBack hx (y := (⟨"com/example/wandel/wandel/replay/Observations", "record", "(IZ)V"⟩ : MethodName)) (z := (⟨"com/example/wandel/wandel/replay/Observations", "record", "(IZ)V"⟩ : MethodName)) hown (mvT hZ (hw _ (List.mem_of_getElem? (i := 32) rfl))) (mvT hZ (hw _ (List.mem_of_getElem? (i := 33) rfl))) (notFace_of_selects (args := #[]) (mvT hZ (hw _ (List.mem_of_getElem? (i := 35) rfl)))) (mvT hZ (hw _ (List.mem_of_getElem? (i := 35) rfl))) (mvT hZ (hw _ (List.mem_of_getElem? (i := 34) rfl))) (by decide) (backOf (W := 0) (rm5n3j0 l Z a0 hw [] r0 (1 : Int32) ca ch lc ar ge kca kch klc kar kge v0 v1 v2 c0 c1 c2 l0 l1 l2 m0 m1 m2 g0 g1 g2 h0 n0 Z0 F_count F_changes F_lastChanged F_arithmetic F_geometric V_ca V_ch V_lc V_ar V_ge ne_r0_ca ne_r0_ch ne_r0_lc ne_r0_ar ne_r0_ge ne_ca_ch ne_ca_lc ne_ca_ar ne_ca_ge ne_ch_lc ne_ch_ar ne_ch_ge ne_lc_ar ne_lc_ge ne_ar_ge g_ca g_ch g_lc g_ar g_ge (own_gg3_0 hI)) hZ (hw _ (List.mem_of_getElem? (i := 36) rfl)) (hw _ (List.mem_of_getElem? (i := 2) rfl)) (by decide) (by decide)) q9a q9c (g := (mkF m 51 #[.val (.ref r0), .val (.int (3 : Int32)), .val (.int p2), .val (.int p3), .val (.int p4), .val (.int p5), .val (.ref r6), .val (.int (0 : Int32)), .val (.int (1 : Int32))] [(.int (1 : Int32)), (.int (0 : Int32)), (.ref r0)])) rfl (by rw [hml]; rfl) (Steps.refl _) (argsL := [(.int (0 : Int32)), (.int (1 : Int32))]) (rest := []) (lenOf pd__IZ_V rfl) rfl (by show 2 * 0 + _ ≤ _; exact Nat.le_of_eq rfl) (hb hby d3_51) (fun _ _ => ⟨rfl, e0, (by decide : 0 + 0 ≤ _), (by decide : 0 + 0 ≤ _)⟩)
        dsimp only [Pt.U, Pt.locs, Pt.cells, Pt.slots] at X9 ll9 ly9 lz9 st9 hQ9
        subst ll9 ly9 lz9
        obtain ⟨rfl, N9q, K9c, P9_0, P9_1, P9_2, P9_3, P9_4⟩ := hQ9
        have N9 := Fr.app N0 N9q
        have K9 : Keep h0 T9.heap [ca, ch, lc, ar, ge, r6] := (Keep.refl h0 [ca, ch, lc, ar, ge, r6]).trans K9c (allS (Or.inl (List.mem_of_getElem? (i := 0) rfl)) (allS (Or.inl (List.mem_of_getElem? (i := 1) rfl)) (allS (Or.inl (List.mem_of_getElem? (i := 2) rfl)) (allS (Or.inl (List.mem_of_getElem? (i := 3) rfl)) (allS (Or.inl (List.mem_of_getElem? (i := 4) rfl)) all0)))))
        obtain ⟨cl10, Ar10, qa10, S10, Nl10, H10, G10⟩ := id (V_t.keep K9c (ninS (Ne.symm ne_ca_r6) (ninS (Ne.symm ne_ch_r6) (ninS (Ne.symm ne_lc_r6) (ninS (Ne.symm ne_ar_r6) (ninS (Ne.symm ne_ge_r6) nin0))))))
        have hin10 : ¬ ((0 : Int32) < 0 ∨ cl10.slots.size ≤ ((0 : Int32)).toNatClampNeg) := inb_of S10 ⟨by decide, by decide⟩
        have hat10 : cl10.slots[((0 : Int32)).toNatClampNeg]? = some (.long t0) := Has.at H10 hin10 rfl
        obtain ⟨cl11, Ar11, qa11, S11, Nl11, H11, G11⟩ := id (V_t.keep K9c (ninS (Ne.symm ne_ca_r6) (ninS (Ne.symm ne_ch_r6) (ninS (Ne.symm ne_lc_r6) (ninS (Ne.symm ne_ar_r6) (ninS (Ne.symm ne_ge_r6) nin0))))))
        have hin11 : ¬ ((0 : Int32) < 0 ∨ cl11.slots.size ≤ ((0 : Int32)).toNatClampNeg) := inb_of S11 ⟨by decide, by decide⟩
        obtain ⟨T11, h11, X11, e11, W11, st11⟩ := stJ X9 hx hZ (rfl : T9.heap = T9.heap) Ar11 (j := (0 : Int32)) hin11 (g := (mkF m 61 #[.val (.ref r0), .val (.int (3 : Int32)), .val (.int p2), .val (.int p3), .val (.int p4), .val (.int p5), .val (.ref r6), .val (.int (0 : Int32)), .val (.int (1 : Int32))] [(.long (t0 + (1 : Int64))), (.int (0 : Int32)), (.ref r6)])) rfl rfl (hb hby d3_61)
        have V11 : Arv Z h11 r6 kt .long (2 : Int32) [(.long (t0 + (1 : Int64))), (.long t1)] (.long (0 : Int64)) := Arv.set Ar11 qa11 S11 Nl11 H11 G11 rfl W11 0 rfl (Nat.le_of_ble_eq_true rfl)
        have K11 : Keep h0 h11 [ca, ch, lc, ar, ge, r6] := K9.wr W11 (Or.inl (List.mem_of_getElem? (i := 5) rfl))
        have N11 := Fr.snoc X11 N9 g_r6
        obtain ⟨cl12, Ar12, qa12, S12, Nl12, H12, G12⟩ := id V11
        have hin12 : ¬ ((1 : Int32) < 0 ∨ cl12.slots.size ≤ ((1 : Int32)).toNatClampNeg) := inb_of S12 ⟨by decide, by decide⟩
        have hat12 : cl12.slots[((1 : Int32)).toNatClampNeg]? = some (.long t1) := Has.at H12 hin12 rfl
        obtain ⟨cl13, Ar13, qa13, S13, Nl13, H13, G13⟩ := id V11
        have hin13 : ¬ ((1 : Int32) < 0 ∨ cl13.slots.size ≤ ((1 : Int32)).toNatClampNeg) := inb_of S13 ⟨by decide, by decide⟩
        obtain ⟨T13, h13, X13, e13, W13, st13⟩ := stJ X11 hx hZ e11 Ar13 (j := (1 : Int32)) hin13 (g := (mkF m 74 #[.val (.ref r0), .val (.int (3 : Int32)), .val (.int p2), .val (.int p3), .val (.int p4), .val (.int p5), .val (.ref r6), .val (.int (0 : Int32)), .val (.int (1 : Int32))] [(.long (t1 + (1 : Int64))), (.int (1 : Int32)), (.ref r6)])) rfl rfl (hb hby d3_74)
        have V13 : Arv Z h13 r6 kt .long (2 : Int32) [(.long (t0 + (1 : Int64))), (.long (t1 + (1 : Int64)))] (.long (0 : Int64)) := Arv.set Ar13 qa13 S13 Nl13 H13 G13 rfl W13 1 rfl (Nat.le_of_ble_eq_true rfl)
        have K13 : Keep h0 h13 [ca, ch, lc, ar, ge, r6] := K11.wr W13 (Or.inl (List.mem_of_getElem? (i := 5) rfl))
        have N13 := Fr.snoc X13 N11 g_r6
        obtain ⟨fs, hr, hrun, hended, hW, hsame⟩ := X13.leave (v := none) (fun _ => rfl)
        refine ⟨_, _, pre5 _ ?_, hrun, hended, _, _, rfl, ?_, ⟨_, rfl⟩, hW, hsame.mono (by decide) (by decide)⟩
        · show Steps p.tables e below (s₁.setTop (mkF m 36 #[.val (.ref r0), .val (.int (3 : Int32)), .val (.int p2), .val (.int p3), .val (.int p4), .val (.int p5), .val (.ref r6), .val (.int (0 : Int32)), .unset] [(.int ((p4 >>> (p5 &&& 31)) &&& (1 : Int32)))])) _
          refine XS.ifNo X0.here hx rfl (hb hby d3_36) rfl ((if0 _ _).trans (feq hc36).1) ?_
          refine XS.iconst X0.here hx rfl (hb hby d3_39) ?_
          refine XS.goto X0.here hx rfl (pc0 := 40) (pc' := 44) rfl (hb hby d3_40) (by decide) (by decide) ?_
          refine XS.istore X0.here hx rfl (hb hby d3_44) rfl (l' := #[.val (.ref r0), .val (.int (3 : Int32)), .val (.int p2), .val (.int p3), .val (.int p4), .val (.int p5), .val (.ref r6), .val (.int (0 : Int32)), .val (.int (1 : Int32))]) rfl ?_
          refine XS.aloadN X0.here hx rfl (hb hby d3_46) rfl rfl ?_
          refine XS.iload X0.here hx rfl (hb hby d3_47) rfl ?_
          refine XS.iload X0.here hx rfl (hb hby d3_49) rfl ?_
          refine st9.trans ?_
          show Steps p.tables e below (T9.setTop (mkF m 54 #[.val (.ref r0), .val (.int (3 : Int32)), .val (.int p2), .val (.int p3), .val (.int p4), .val (.int p5), .val (.ref r6), .val (.int (0 : Int32)), .val (.int (1 : Int32))] [])) _
          refine XS.aload X9.here hx rfl (hb hby d3_54) rfl rfl ?_
          refine XS.iconst X9.here hx rfl (hb hby d3_56) ?_
          refine Jvm.Free.XT.dup2 X9.here hx rfl (hb hby d3_57) rfl rfl rfl ?_
          refine X9.laload hx (j := (0 : Int32)) (v := (.long t0)) (by rw [(rfl : T9.heap = T9.heap)]; exact Ar10.1) (State.isArrayOf_alike hZ.alike Ar10.2.1) Ar10.2.2 hin10 hat10 (g := (mkF m 58 #[.val (.ref r0), .val (.int (3 : Int32)), .val (.int p2), .val (.int p3), .val (.int p4), .val (.int p5), .val (.ref r6), .val (.int (0 : Int32)), .val (.int (1 : Int32))] [(.int (0 : Int32)), (.ref r6), (.int (0 : Int32)), (.ref r6)])) rfl rfl (hb hby d3_58) _ ?_
          refine XS.lconst X9.here hx rfl (hb hby d3_59) ?_
          refine XS.ladd X9.here hx rfl (hb hby d3_60) rfl ?_
          refine st11 _ ?_
          refine XS.iload X11.here hx rfl (hb hby d3_62) rfl ?_
          show Steps p.tables e below (T11.setTop (mkF m 64 #[.val (.ref r0), .val (.int (3 : Int32)), .val (.int p2), .val (.int p3), .val (.int p4), .val (.int p5), .val (.ref r6), .val (.int (0 : Int32)), .val (.int (1 : Int32))] [(.int (1 : Int32))])) _
          refine XS.ifNo X11.here hx rfl (hb hby d3_64) rfl ((if0 _ _).trans (feq (by decide : ¬ ((1 : Int32) = (0 : Int32)))).1) ?_
          refine XS.aload X11.here hx rfl (hb hby d3_67) rfl rfl ?_
          refine XS.iconst X11.here hx rfl (hb hby d3_69) ?_
          refine Jvm.Free.XT.dup2 X11.here hx rfl (hb hby d3_70) rfl rfl rfl ?_
          refine X11.laload hx (j := (1 : Int32)) (v := (.long t1)) (by rw [e11]; exact Ar12.1) (State.isArrayOf_alike hZ.alike Ar12.2.1) Ar12.2.2 hin12 hat12 (g := (mkF m 71 #[.val (.ref r0), .val (.int (3 : Int32)), .val (.int p2), .val (.int p3), .val (.int p4), .val (.int p5), .val (.ref r6), .val (.int (0 : Int32)), .val (.int (1 : Int32))] [(.int (1 : Int32)), (.ref r6), (.int (1 : Int32)), (.ref r6)])) rfl rfl (hb hby d3_71) _ ?_
          refine XS.lconst X11.here hx rfl (hb hby d3_72) ?_
          refine XS.ladd X11.here hx rfl (hb hby d3_73) rfl ?_
          refine st13 _ ?_
          show Steps p.tables e below (T13.setTop (mkF m 75 #[.val (.ref r0), .val (.int (3 : Int32)), .val (.int p2), .val (.int p3), .val (.int p4), .val (.int p5), .val (.ref r6), .val (.int (0 : Int32)), .val (.int (1 : Int32))] [])) _
          exact X13.returnOut hx Bd.returns (hb hby d3_75) hr
        · show Q3n3 Z r0 p2 p3 p4 p5 r6 ca ch lc ar ge kca kch klc kar kge kt v0 v1 v2 c0 c1 c2 l0 l1 l2 m0 m1 m2 g0 g1 g2 t0 t1 kk h0 n0 _ T13.heap _
          rw [e13]
          exact ⟨(v0 + (1 : Int32)), v1, v2, (c0 + (J5n3j0_1_S0 (1 : Int32))), c1, c2, (nar .boolean (1 : Int32)), l1, l2, (m0 + (((J5n3j0_1_S0 (1 : Int32)).toInt64) * ((v0 + (1 : Int32)).toInt64))), m1, m2, (FP.ddiv (FP.dadd g0 (FP.i2d (J5n3j0_1_S0 (1 : Int32)))) (4611686018427387904 : UInt64)), g1, g2, (t0 + (1 : Int64)), (t1 + (1 : Int64)), rfl, N13, K13, ((P9_0.other W11 ne_ca_r6).other W13 ne_ca_r6), ((P9_1.other W11 ne_ch_r6).other W13 ne_ch_r6), ((P9_2.other W11 ne_lc_r6).other W13 ne_lc_r6), ((P9_3.other W11 ne_ar_r6).other W13 ne_ar_r6), ((P9_4.other W11 ne_ge_r6).other W13 ne_ge_r6), V13, (own_up3_0_1 hk (by decide) hI)⟩
    · by_cases hp1 : (A3n3_27 p3 p5) = (1 : Int32)
      · have qr14 : (A3n3_27 p3 p5) = (1 : Int32) := hp1
        have pre15 : ∀ t, Steps p.tables e below (s₁.setTop (mkF m 29 #[.val (.ref r0), .val (.int (3 : Int32)), .val (.int p2), .val (.int p3), .val (.int p4), .val (.int p5), .val (.ref r6), .val (.int (1 : Int32)), .unset] [])) t → Steps p.tables e below (s₁.setTop (entryFrame m #[(.ref r0), (.int (3 : Int32)), (.int p2), (.int p3), (.int p4), (.int p5), (.ref r6)] 9)) t := fun t kt => pre2 t (by rw [qr14]; exact kt)
        have pre16 : ∀ t, Steps p.tables e below (s₁.setTop (mkF m 36 #[.val (.ref r0), .val (.int (3 : Int32)), .val (.int p2), .val (.int p3), .val (.int p4), .val (.int p5), .val (.ref r6), .val (.int (1 : Int32)), .unset] [(.int ((p4 >>> (p5 &&& 31)) &&& (1 : Int32)))])) t → Steps p.tables e below (s₁.setTop (entryFrame m #[(.ref r0), (.int (3 : Int32)), (.int p2), (.int p3), (.int p4), (.int p5), (.ref r6)] 9)) t := fun t kt => pre15 t (by
          show Steps p.tables e below (s₁.setTop (mkF m 29 #[.val (.ref r0), .val (.int (3 : Int32)), .val (.int p2), .val (.int p3), .val (.int p4), .val (.int p5), .val (.ref r6), .val (.int (1 : Int32)), .unset] [])) _
          refine XS.iload X0.here hx rfl (hb hby d3_29) rfl ?_
          refine XS.iload X0.here hx rfl (hb hby d3_31) rfl ?_
          refine XS.ishr X0.here hx rfl (hb hby d3_33) rfl ?_
          refine XS.iconst X0.here hx rfl (hb hby d3_34) ?_
          refine XS.iand X0.here hx rfl (hb hby d3_35) rfl ?_
          exact kt)
        by_cases hc36 : ((p4 >>> (p5 &&& 31)) &&& (1 : Int32)) = (0 : Int32)
        · obtain ⟨cq17, kq17, q17a, q17b, q17c⟩ := isOf hZ e0 E_r
          obtain ⟨_, _, ⟨T17, L17, k17, n17⟩, -, X17, ⟨Lc17, hQ17, ll17, ly17, lz17⟩, st17⟩ := X0.virtualBack hx (y := (⟨"com/example/wandel/wandel/replay/Observations", "record", "(IZ)V"⟩ : MethodName)) (z := (⟨"com/example/wandel/wandel/replay/Observations", "record", "(IZ)V"⟩ : MethodName)) hown (mvT hZ (hw _ (List.mem_of_getElem? (i := 32) rfl))) (mvT hZ (hw _ (List.mem_of_getElem? (i := 33) rfl))) (notFace_of_selects (args := #[]) (mvT hZ (hw _ (List.mem_of_getElem? (i := 35) rfl)))) (mvT hZ (hw _ (List.mem_of_getElem? (i := 35) rfl))) (mvT hZ (hw _ (List.mem_of_getElem? (i := 34) rfl))) (by decide) (backOf (W := 0) (rm5n3j1 l Z a0 hw [] r0 (0 : Int32) ca ch lc ar ge kca kch klc kar kge v0 v1 v2 c0 c1 c2 l0 l1 l2 m0 m1 m2 g0 g1 g2 h0 n0 Z0 F_count F_changes F_lastChanged F_arithmetic F_geometric V_ca V_ch V_lc V_ar V_ge ne_r0_ca ne_r0_ch ne_r0_lc ne_r0_ar ne_r0_ge ne_ca_ch ne_ca_lc ne_ca_ar ne_ca_ge ne_ch_lc ne_ch_ar ne_ch_ge ne_lc_ar ne_lc_ge ne_ar_ge g_ca g_ch g_lc g_ar g_ge (own_gg3_1 hI)) hZ (hw _ (List.mem_of_getElem? (i := 36) rfl)) (hw _ (List.mem_of_getElem? (i := 2) rfl)) (by decide) (by decide)) q17a q17c (g := (mkF m 51 #[.val (.ref r0), .val (.int (3 : Int32)), .val (.int p2), .val (.int p3), .val (.int p4), .val (.int p5), .val (.ref r6), .val (.int (1 : Int32)), .val (.int (0 : Int32))] [(.int (0 : Int32)), (.int (1 : Int32)), (.ref r0)])) rfl (by rw [hml]; rfl) (Steps.refl _) (argsL := [(.int (1 : Int32)), (.int (0 : Int32))]) (rest := []) (lenOf pd__IZ_V rfl) rfl (by show 2 * 0 + _ ≤ _; exact Nat.le_of_eq rfl) (hb hby d3_51) (fun _ _ => ⟨rfl, e0, (by decide : 0 + 0 ≤ _), (by decide : 0 + 0 ≤ _)⟩)
          dsimp only [Pt.U, Pt.locs, Pt.cells, Pt.slots] at X17 ll17 ly17 lz17 st17 hQ17
          subst ll17 ly17 lz17
          obtain ⟨rfl, N17q, K17c, P17_0, P17_1, P17_2, P17_3, P17_4⟩ := hQ17
          have N17 := Fr.app N0 N17q
          have K17 : Keep h0 T17.heap [ca, ch, lc, ar, ge, r6] := (Keep.refl h0 [ca, ch, lc, ar, ge, r6]).trans K17c (allS (Or.inl (List.mem_of_getElem? (i := 0) rfl)) (allS (Or.inl (List.mem_of_getElem? (i := 1) rfl)) (allS (Or.inl (List.mem_of_getElem? (i := 2) rfl)) (allS (Or.inl (List.mem_of_getElem? (i := 3) rfl)) (allS (Or.inl (List.mem_of_getElem? (i := 4) rfl)) all0)))))
          obtain ⟨cl18, Ar18, qa18, S18, Nl18, H18, G18⟩ := id (V_t.keep K17c (ninS (Ne.symm ne_ca_r6) (ninS (Ne.symm ne_ch_r6) (ninS (Ne.symm ne_lc_r6) (ninS (Ne.symm ne_ar_r6) (ninS (Ne.symm ne_ge_r6) nin0))))))
          have hin18 : ¬ ((0 : Int32) < 0 ∨ cl18.slots.size ≤ ((0 : Int32)).toNatClampNeg) := inb_of S18 ⟨by decide, by decide⟩
          have hat18 : cl18.slots[((0 : Int32)).toNatClampNeg]? = some (.long t0) := Has.at H18 hin18 rfl
          obtain ⟨cl19, Ar19, qa19, S19, Nl19, H19, G19⟩ := id (V_t.keep K17c (ninS (Ne.symm ne_ca_r6) (ninS (Ne.symm ne_ch_r6) (ninS (Ne.symm ne_lc_r6) (ninS (Ne.symm ne_ar_r6) (ninS (Ne.symm ne_ge_r6) nin0))))))
          have hin19 : ¬ ((0 : Int32) < 0 ∨ cl19.slots.size ≤ ((0 : Int32)).toNatClampNeg) := inb_of S19 ⟨by decide, by decide⟩
          obtain ⟨T19, h19, X19, e19, W19, st19⟩ := stJ X17 hx hZ (rfl : T17.heap = T17.heap) Ar19 (j := (0 : Int32)) hin19 (g := (mkF m 61 #[.val (.ref r0), .val (.int (3 : Int32)), .val (.int p2), .val (.int p3), .val (.int p4), .val (.int p5), .val (.ref r6), .val (.int (1 : Int32)), .val (.int (0 : Int32))] [(.long (t0 + (1 : Int64))), (.int (0 : Int32)), (.ref r6)])) rfl rfl (hb hby d3_61)
          have V19 : Arv Z h19 r6 kt .long (2 : Int32) [(.long (t0 + (1 : Int64))), (.long t1)] (.long (0 : Int64)) := Arv.set Ar19 qa19 S19 Nl19 H19 G19 rfl W19 0 rfl (Nat.le_of_ble_eq_true rfl)
          have K19 : Keep h0 h19 [ca, ch, lc, ar, ge, r6] := K17.wr W19 (Or.inl (List.mem_of_getElem? (i := 5) rfl))
          have N19 := Fr.snoc X19 N17 g_r6
          obtain ⟨fs, hr, hrun, hended, hW, hsame⟩ := X19.leave (v := none) (fun _ => rfl)
          refine ⟨_, _, pre16 _ ?_, hrun, hended, _, _, rfl, ?_, ⟨_, rfl⟩, hW, hsame.mono (by decide) (by decide)⟩
          · show Steps p.tables e below (s₁.setTop (mkF m 36 #[.val (.ref r0), .val (.int (3 : Int32)), .val (.int p2), .val (.int p3), .val (.int p4), .val (.int p5), .val (.ref r6), .val (.int (1 : Int32)), .unset] [(.int ((p4 >>> (p5 &&& 31)) &&& (1 : Int32)))])) _
            refine XS.ifYes X0.here hx rfl (pc0 := 36) (pc' := 43) rfl (hb hby d3_36) rfl ((if0 _ _).trans (teq hc36).1) (by decide) (by decide) ?_
            refine XS.iconst X0.here hx rfl (hb hby d3_43) ?_
            refine XS.istore X0.here hx rfl (hb hby d3_44) rfl (l' := #[.val (.ref r0), .val (.int (3 : Int32)), .val (.int p2), .val (.int p3), .val (.int p4), .val (.int p5), .val (.ref r6), .val (.int (1 : Int32)), .val (.int (0 : Int32))]) rfl ?_
            refine XS.aloadN X0.here hx rfl (hb hby d3_46) rfl rfl ?_
            refine XS.iload X0.here hx rfl (hb hby d3_47) rfl ?_
            refine XS.iload X0.here hx rfl (hb hby d3_49) rfl ?_
            refine st17.trans ?_
            refine XS.aload X17.here hx rfl (hb hby d3_54) rfl rfl ?_
            show Steps p.tables e below (T17.setTop (mkF m 56 #[.val (.ref r0), .val (.int (3 : Int32)), .val (.int p2), .val (.int p3), .val (.int p4), .val (.int p5), .val (.ref r6), .val (.int (1 : Int32)), .val (.int (0 : Int32))] [(.ref r6)])) _
            refine XS.iconst X17.here hx rfl (hb hby d3_56) ?_
            refine Jvm.Free.XT.dup2 X17.here hx rfl (hb hby d3_57) rfl rfl rfl ?_
            refine X17.laload hx (j := (0 : Int32)) (v := (.long t0)) (by rw [(rfl : T17.heap = T17.heap)]; exact Ar18.1) (State.isArrayOf_alike hZ.alike Ar18.2.1) Ar18.2.2 hin18 hat18 (g := (mkF m 58 #[.val (.ref r0), .val (.int (3 : Int32)), .val (.int p2), .val (.int p3), .val (.int p4), .val (.int p5), .val (.ref r6), .val (.int (1 : Int32)), .val (.int (0 : Int32))] [(.int (0 : Int32)), (.ref r6), (.int (0 : Int32)), (.ref r6)])) rfl rfl (hb hby d3_58) _ ?_
            refine XS.lconst X17.here hx rfl (hb hby d3_59) ?_
            refine XS.ladd X17.here hx rfl (hb hby d3_60) rfl ?_
            refine st19 _ ?_
            refine XS.iload X19.here hx rfl (hb hby d3_62) rfl ?_
            refine XS.ifYes X19.here hx rfl (pc0 := 64) (pc' := 75) rfl (hb hby d3_64) rfl ((if0 _ _).trans (teq (by decide : (0 : Int32) = (0 : Int32))).1) (by decide) (by decide) ?_
            show Steps p.tables e below (T19.setTop (mkF m 75 #[.val (.ref r0), .val (.int (3 : Int32)), .val (.int p2), .val (.int p3), .val (.int p4), .val (.int p5), .val (.ref r6), .val (.int (1 : Int32)), .val (.int (0 : Int32))] [])) _
            exact X19.returnOut hx Bd.returns (hb hby d3_75) hr
          · show Q3n3 Z r0 p2 p3 p4 p5 r6 ca ch lc ar ge kca kch klc kar kge kt v0 v1 v2 c0 c1 c2 l0 l1 l2 m0 m1 m2 g0 g1 g2 t0 t1 kk h0 n0 _ T19.heap _
            rw [e19]
            exact ⟨v0, (v1 + (1 : Int32)), v2, c0, (c1 + (J5n3j1_1_S0 (0 : Int32))), c2, l0, (nar .boolean (0 : Int32)), l2, m0, (m1 + (((J5n3j1_1_S0 (0 : Int32)).toInt64) * ((v1 + (1 : Int32)).toInt64))), m2, g0, (FP.ddiv (FP.dadd g1 (FP.i2d (J5n3j1_1_S0 (0 : Int32)))) (4611686018427387904 : UInt64)), g2, (t0 + (1 : Int64)), t1, rfl, N19, K19, (P17_0.other W19 ne_ca_r6), (P17_1.other W19 ne_ch_r6), (P17_2.other W19 ne_lc_r6), (P17_3.other W19 ne_ar_r6), (P17_4.other W19 ne_ge_r6), V19, (own_up3_1_0 hk (by decide) hI)⟩
        · obtain ⟨cq20, kq20, q20a, q20b, q20c⟩ := isOf hZ e0 E_r
          obtain ⟨_, _, ⟨T20, L20, k20, n20⟩, -, X20, ⟨Lc20, hQ20, ll20, ly20, lz20⟩, st20⟩ := X0.virtualBack hx (y := (⟨"com/example/wandel/wandel/replay/Observations", "record", "(IZ)V"⟩ : MethodName)) (z := (⟨"com/example/wandel/wandel/replay/Observations", "record", "(IZ)V"⟩ : MethodName)) hown (mvT hZ (hw _ (List.mem_of_getElem? (i := 32) rfl))) (mvT hZ (hw _ (List.mem_of_getElem? (i := 33) rfl))) (notFace_of_selects (args := #[]) (mvT hZ (hw _ (List.mem_of_getElem? (i := 35) rfl)))) (mvT hZ (hw _ (List.mem_of_getElem? (i := 35) rfl))) (mvT hZ (hw _ (List.mem_of_getElem? (i := 34) rfl))) (by decide) (backOf (W := 0) (rm5n3j1 l Z a0 hw [] r0 (1 : Int32) ca ch lc ar ge kca kch klc kar kge v0 v1 v2 c0 c1 c2 l0 l1 l2 m0 m1 m2 g0 g1 g2 h0 n0 Z0 F_count F_changes F_lastChanged F_arithmetic F_geometric V_ca V_ch V_lc V_ar V_ge ne_r0_ca ne_r0_ch ne_r0_lc ne_r0_ar ne_r0_ge ne_ca_ch ne_ca_lc ne_ca_ar ne_ca_ge ne_ch_lc ne_ch_ar ne_ch_ge ne_lc_ar ne_lc_ge ne_ar_ge g_ca g_ch g_lc g_ar g_ge (own_gg3_1 hI)) hZ (hw _ (List.mem_of_getElem? (i := 36) rfl)) (hw _ (List.mem_of_getElem? (i := 2) rfl)) (by decide) (by decide)) q20a q20c (g := (mkF m 51 #[.val (.ref r0), .val (.int (3 : Int32)), .val (.int p2), .val (.int p3), .val (.int p4), .val (.int p5), .val (.ref r6), .val (.int (1 : Int32)), .val (.int (1 : Int32))] [(.int (1 : Int32)), (.int (1 : Int32)), (.ref r0)])) rfl (by rw [hml]; rfl) (Steps.refl _) (argsL := [(.int (1 : Int32)), (.int (1 : Int32))]) (rest := []) (lenOf pd__IZ_V rfl) rfl (by show 2 * 0 + _ ≤ _; exact Nat.le_of_eq rfl) (hb hby d3_51) (fun _ _ => ⟨rfl, e0, (by decide : 0 + 0 ≤ _), (by decide : 0 + 0 ≤ _)⟩)
          dsimp only [Pt.U, Pt.locs, Pt.cells, Pt.slots] at X20 ll20 ly20 lz20 st20 hQ20
          subst ll20 ly20 lz20
          obtain ⟨rfl, N20q, K20c, P20_0, P20_1, P20_2, P20_3, P20_4⟩ := hQ20
          have N20 := Fr.app N0 N20q
          have K20 : Keep h0 T20.heap [ca, ch, lc, ar, ge, r6] := (Keep.refl h0 [ca, ch, lc, ar, ge, r6]).trans K20c (allS (Or.inl (List.mem_of_getElem? (i := 0) rfl)) (allS (Or.inl (List.mem_of_getElem? (i := 1) rfl)) (allS (Or.inl (List.mem_of_getElem? (i := 2) rfl)) (allS (Or.inl (List.mem_of_getElem? (i := 3) rfl)) (allS (Or.inl (List.mem_of_getElem? (i := 4) rfl)) all0)))))
          obtain ⟨cl21, Ar21, qa21, S21, Nl21, H21, G21⟩ := id (V_t.keep K20c (ninS (Ne.symm ne_ca_r6) (ninS (Ne.symm ne_ch_r6) (ninS (Ne.symm ne_lc_r6) (ninS (Ne.symm ne_ar_r6) (ninS (Ne.symm ne_ge_r6) nin0))))))
          have hin21 : ¬ ((0 : Int32) < 0 ∨ cl21.slots.size ≤ ((0 : Int32)).toNatClampNeg) := inb_of S21 ⟨by decide, by decide⟩
          have hat21 : cl21.slots[((0 : Int32)).toNatClampNeg]? = some (.long t0) := Has.at H21 hin21 rfl
          obtain ⟨cl22, Ar22, qa22, S22, Nl22, H22, G22⟩ := id (V_t.keep K20c (ninS (Ne.symm ne_ca_r6) (ninS (Ne.symm ne_ch_r6) (ninS (Ne.symm ne_lc_r6) (ninS (Ne.symm ne_ar_r6) (ninS (Ne.symm ne_ge_r6) nin0))))))
          have hin22 : ¬ ((0 : Int32) < 0 ∨ cl22.slots.size ≤ ((0 : Int32)).toNatClampNeg) := inb_of S22 ⟨by decide, by decide⟩
          obtain ⟨T22, h22, X22, e22, W22, st22⟩ := stJ X20 hx hZ (rfl : T20.heap = T20.heap) Ar22 (j := (0 : Int32)) hin22 (g := (mkF m 61 #[.val (.ref r0), .val (.int (3 : Int32)), .val (.int p2), .val (.int p3), .val (.int p4), .val (.int p5), .val (.ref r6), .val (.int (1 : Int32)), .val (.int (1 : Int32))] [(.long (t0 + (1 : Int64))), (.int (0 : Int32)), (.ref r6)])) rfl rfl (hb hby d3_61)
          have V22 : Arv Z h22 r6 kt .long (2 : Int32) [(.long (t0 + (1 : Int64))), (.long t1)] (.long (0 : Int64)) := Arv.set Ar22 qa22 S22 Nl22 H22 G22 rfl W22 0 rfl (Nat.le_of_ble_eq_true rfl)
          have K22 : Keep h0 h22 [ca, ch, lc, ar, ge, r6] := K20.wr W22 (Or.inl (List.mem_of_getElem? (i := 5) rfl))
          have N22 := Fr.snoc X22 N20 g_r6
          obtain ⟨cl23, Ar23, qa23, S23, Nl23, H23, G23⟩ := id V22
          have hin23 : ¬ ((1 : Int32) < 0 ∨ cl23.slots.size ≤ ((1 : Int32)).toNatClampNeg) := inb_of S23 ⟨by decide, by decide⟩
          have hat23 : cl23.slots[((1 : Int32)).toNatClampNeg]? = some (.long t1) := Has.at H23 hin23 rfl
          obtain ⟨cl24, Ar24, qa24, S24, Nl24, H24, G24⟩ := id V22
          have hin24 : ¬ ((1 : Int32) < 0 ∨ cl24.slots.size ≤ ((1 : Int32)).toNatClampNeg) := inb_of S24 ⟨by decide, by decide⟩
          obtain ⟨T24, h24, X24, e24, W24, st24⟩ := stJ X22 hx hZ e22 Ar24 (j := (1 : Int32)) hin24 (g := (mkF m 74 #[.val (.ref r0), .val (.int (3 : Int32)), .val (.int p2), .val (.int p3), .val (.int p4), .val (.int p5), .val (.ref r6), .val (.int (1 : Int32)), .val (.int (1 : Int32))] [(.long (t1 + (1 : Int64))), (.int (1 : Int32)), (.ref r6)])) rfl rfl (hb hby d3_74)
          have V24 : Arv Z h24 r6 kt .long (2 : Int32) [(.long (t0 + (1 : Int64))), (.long (t1 + (1 : Int64)))] (.long (0 : Int64)) := Arv.set Ar24 qa24 S24 Nl24 H24 G24 rfl W24 1 rfl (Nat.le_of_ble_eq_true rfl)
          have K24 : Keep h0 h24 [ca, ch, lc, ar, ge, r6] := K22.wr W24 (Or.inl (List.mem_of_getElem? (i := 5) rfl))
          have N24 := Fr.snoc X24 N22 g_r6
          obtain ⟨fs, hr, hrun, hended, hW, hsame⟩ := X24.leave (v := none) (fun _ => rfl)
          refine ⟨_, _, pre16 _ ?_, hrun, hended, _, _, rfl, ?_, ⟨_, rfl⟩, hW, hsame.mono (by decide) (by decide)⟩
          · show Steps p.tables e below (s₁.setTop (mkF m 36 #[.val (.ref r0), .val (.int (3 : Int32)), .val (.int p2), .val (.int p3), .val (.int p4), .val (.int p5), .val (.ref r6), .val (.int (1 : Int32)), .unset] [(.int ((p4 >>> (p5 &&& 31)) &&& (1 : Int32)))])) _
            refine XS.ifNo X0.here hx rfl (hb hby d3_36) rfl ((if0 _ _).trans (feq hc36).1) ?_
            refine XS.iconst X0.here hx rfl (hb hby d3_39) ?_
            refine XS.goto X0.here hx rfl (pc0 := 40) (pc' := 44) rfl (hb hby d3_40) (by decide) (by decide) ?_
            refine XS.istore X0.here hx rfl (hb hby d3_44) rfl (l' := #[.val (.ref r0), .val (.int (3 : Int32)), .val (.int p2), .val (.int p3), .val (.int p4), .val (.int p5), .val (.ref r6), .val (.int (1 : Int32)), .val (.int (1 : Int32))]) rfl ?_
            refine XS.aloadN X0.here hx rfl (hb hby d3_46) rfl rfl ?_
            refine XS.iload X0.here hx rfl (hb hby d3_47) rfl ?_
            refine XS.iload X0.here hx rfl (hb hby d3_49) rfl ?_
            refine st20.trans ?_
            show Steps p.tables e below (T20.setTop (mkF m 54 #[.val (.ref r0), .val (.int (3 : Int32)), .val (.int p2), .val (.int p3), .val (.int p4), .val (.int p5), .val (.ref r6), .val (.int (1 : Int32)), .val (.int (1 : Int32))] [])) _
            refine XS.aload X20.here hx rfl (hb hby d3_54) rfl rfl ?_
            refine XS.iconst X20.here hx rfl (hb hby d3_56) ?_
            refine Jvm.Free.XT.dup2 X20.here hx rfl (hb hby d3_57) rfl rfl rfl ?_
            refine X20.laload hx (j := (0 : Int32)) (v := (.long t0)) (by rw [(rfl : T20.heap = T20.heap)]; exact Ar21.1) (State.isArrayOf_alike hZ.alike Ar21.2.1) Ar21.2.2 hin21 hat21 (g := (mkF m 58 #[.val (.ref r0), .val (.int (3 : Int32)), .val (.int p2), .val (.int p3), .val (.int p4), .val (.int p5), .val (.ref r6), .val (.int (1 : Int32)), .val (.int (1 : Int32))] [(.int (0 : Int32)), (.ref r6), (.int (0 : Int32)), (.ref r6)])) rfl rfl (hb hby d3_58) _ ?_
            refine XS.lconst X20.here hx rfl (hb hby d3_59) ?_
            refine XS.ladd X20.here hx rfl (hb hby d3_60) rfl ?_
            refine st22 _ ?_
            refine XS.iload X22.here hx rfl (hb hby d3_62) rfl ?_
            show Steps p.tables e below (T22.setTop (mkF m 64 #[.val (.ref r0), .val (.int (3 : Int32)), .val (.int p2), .val (.int p3), .val (.int p4), .val (.int p5), .val (.ref r6), .val (.int (1 : Int32)), .val (.int (1 : Int32))] [(.int (1 : Int32))])) _
            refine XS.ifNo X22.here hx rfl (hb hby d3_64) rfl ((if0 _ _).trans (feq (by decide : ¬ ((1 : Int32) = (0 : Int32)))).1) ?_
            refine XS.aload X22.here hx rfl (hb hby d3_67) rfl rfl ?_
            refine XS.iconst X22.here hx rfl (hb hby d3_69) ?_
            refine Jvm.Free.XT.dup2 X22.here hx rfl (hb hby d3_70) rfl rfl rfl ?_
            refine X22.laload hx (j := (1 : Int32)) (v := (.long t1)) (by rw [e22]; exact Ar23.1) (State.isArrayOf_alike hZ.alike Ar23.2.1) Ar23.2.2 hin23 hat23 (g := (mkF m 71 #[.val (.ref r0), .val (.int (3 : Int32)), .val (.int p2), .val (.int p3), .val (.int p4), .val (.int p5), .val (.ref r6), .val (.int (1 : Int32)), .val (.int (1 : Int32))] [(.int (1 : Int32)), (.ref r6), (.int (1 : Int32)), (.ref r6)])) rfl rfl (hb hby d3_71) _ ?_
            refine XS.lconst X22.here hx rfl (hb hby d3_72) ?_
            refine XS.ladd X22.here hx rfl (hb hby d3_73) rfl ?_
            refine st24 _ ?_
            show Steps p.tables e below (T24.setTop (mkF m 75 #[.val (.ref r0), .val (.int (3 : Int32)), .val (.int p2), .val (.int p3), .val (.int p4), .val (.int p5), .val (.ref r6), .val (.int (1 : Int32)), .val (.int (1 : Int32))] [])) _
            exact X24.returnOut hx Bd.returns (hb hby d3_75) hr
          · show Q3n3 Z r0 p2 p3 p4 p5 r6 ca ch lc ar ge kca kch klc kar kge kt v0 v1 v2 c0 c1 c2 l0 l1 l2 m0 m1 m2 g0 g1 g2 t0 t1 kk h0 n0 _ T24.heap _
            rw [e24]
            exact ⟨v0, (v1 + (1 : Int32)), v2, c0, (c1 + (J5n3j1_1_S0 (1 : Int32))), c2, l0, (nar .boolean (1 : Int32)), l2, m0, (m1 + (((J5n3j1_1_S0 (1 : Int32)).toInt64) * ((v1 + (1 : Int32)).toInt64))), m2, g0, (FP.ddiv (FP.dadd g1 (FP.i2d (J5n3j1_1_S0 (1 : Int32)))) (4611686018427387904 : UInt64)), g2, (t0 + (1 : Int64)), (t1 + (1 : Int64)), rfl, N24, K24, ((P20_0.other W22 ne_ca_r6).other W24 ne_ca_r6), ((P20_1.other W22 ne_ch_r6).other W24 ne_ch_r6), ((P20_2.other W22 ne_lc_r6).other W24 ne_lc_r6), ((P20_3.other W22 ne_ar_r6).other W24 ne_ar_r6), ((P20_4.other W22 ne_ge_r6).other W24 ne_ge_r6), V24, (own_up3_1_1 hk (by decide) hI)⟩
      · by_cases hp2 : (A3n3_27 p3 p5) = (2 : Int32)
        · have qr25 : (A3n3_27 p3 p5) = (2 : Int32) := hp2
          have pre26 : ∀ t, Steps p.tables e below (s₁.setTop (mkF m 29 #[.val (.ref r0), .val (.int (3 : Int32)), .val (.int p2), .val (.int p3), .val (.int p4), .val (.int p5), .val (.ref r6), .val (.int (2 : Int32)), .unset] [])) t → Steps p.tables e below (s₁.setTop (entryFrame m #[(.ref r0), (.int (3 : Int32)), (.int p2), (.int p3), (.int p4), (.int p5), (.ref r6)] 9)) t := fun t kt => pre2 t (by rw [qr25]; exact kt)
          have pre27 : ∀ t, Steps p.tables e below (s₁.setTop (mkF m 36 #[.val (.ref r0), .val (.int (3 : Int32)), .val (.int p2), .val (.int p3), .val (.int p4), .val (.int p5), .val (.ref r6), .val (.int (2 : Int32)), .unset] [(.int ((p4 >>> (p5 &&& 31)) &&& (1 : Int32)))])) t → Steps p.tables e below (s₁.setTop (entryFrame m #[(.ref r0), (.int (3 : Int32)), (.int p2), (.int p3), (.int p4), (.int p5), (.ref r6)] 9)) t := fun t kt => pre26 t (by
            show Steps p.tables e below (s₁.setTop (mkF m 29 #[.val (.ref r0), .val (.int (3 : Int32)), .val (.int p2), .val (.int p3), .val (.int p4), .val (.int p5), .val (.ref r6), .val (.int (2 : Int32)), .unset] [])) _
            refine XS.iload X0.here hx rfl (hb hby d3_29) rfl ?_
            refine XS.iload X0.here hx rfl (hb hby d3_31) rfl ?_
            refine XS.ishr X0.here hx rfl (hb hby d3_33) rfl ?_
            refine XS.iconst X0.here hx rfl (hb hby d3_34) ?_
            refine XS.iand X0.here hx rfl (hb hby d3_35) rfl ?_
            exact kt)
          by_cases hc36 : ((p4 >>> (p5 &&& 31)) &&& (1 : Int32)) = (0 : Int32)
          · obtain ⟨cq28, kq28, q28a, q28b, q28c⟩ := isOf hZ e0 E_r
            obtain ⟨_, _, ⟨T28, L28, k28, n28⟩, -, X28, ⟨Lc28, hQ28, ll28, ly28, lz28⟩, st28⟩ := X0.virtualBack hx (y := (⟨"com/example/wandel/wandel/replay/Observations", "record", "(IZ)V"⟩ : MethodName)) (z := (⟨"com/example/wandel/wandel/replay/Observations", "record", "(IZ)V"⟩ : MethodName)) hown (mvT hZ (hw _ (List.mem_of_getElem? (i := 32) rfl))) (mvT hZ (hw _ (List.mem_of_getElem? (i := 33) rfl))) (notFace_of_selects (args := #[]) (mvT hZ (hw _ (List.mem_of_getElem? (i := 35) rfl)))) (mvT hZ (hw _ (List.mem_of_getElem? (i := 35) rfl))) (mvT hZ (hw _ (List.mem_of_getElem? (i := 34) rfl))) (by decide) (backOf (W := 0) (rm5n3j2 l Z a0 hw [] r0 (0 : Int32) ca ch lc ar ge kca kch klc kar kge v0 v1 v2 c0 c1 c2 l0 l1 l2 m0 m1 m2 g0 g1 g2 h0 n0 Z0 F_count F_changes F_lastChanged F_arithmetic F_geometric V_ca V_ch V_lc V_ar V_ge ne_r0_ca ne_r0_ch ne_r0_lc ne_r0_ar ne_r0_ge ne_ca_ch ne_ca_lc ne_ca_ar ne_ca_ge ne_ch_lc ne_ch_ar ne_ch_ge ne_lc_ar ne_lc_ge ne_ar_ge g_ca g_ch g_lc g_ar g_ge (own_gg3_2 hI)) hZ (hw _ (List.mem_of_getElem? (i := 36) rfl)) (hw _ (List.mem_of_getElem? (i := 2) rfl)) (by decide) (by decide)) q28a q28c (g := (mkF m 51 #[.val (.ref r0), .val (.int (3 : Int32)), .val (.int p2), .val (.int p3), .val (.int p4), .val (.int p5), .val (.ref r6), .val (.int (2 : Int32)), .val (.int (0 : Int32))] [(.int (0 : Int32)), (.int (2 : Int32)), (.ref r0)])) rfl (by rw [hml]; rfl) (Steps.refl _) (argsL := [(.int (2 : Int32)), (.int (0 : Int32))]) (rest := []) (lenOf pd__IZ_V rfl) rfl (by show 2 * 0 + _ ≤ _; exact Nat.le_of_eq rfl) (hb hby d3_51) (fun _ _ => ⟨rfl, e0, (by decide : 0 + 0 ≤ _), (by decide : 0 + 0 ≤ _)⟩)
            dsimp only [Pt.U, Pt.locs, Pt.cells, Pt.slots] at X28 ll28 ly28 lz28 st28 hQ28
            subst ll28 ly28 lz28
            obtain ⟨rfl, N28q, K28c, P28_0, P28_1, P28_2, P28_3, P28_4⟩ := hQ28
            have N28 := Fr.app N0 N28q
            have K28 : Keep h0 T28.heap [ca, ch, lc, ar, ge, r6] := (Keep.refl h0 [ca, ch, lc, ar, ge, r6]).trans K28c (allS (Or.inl (List.mem_of_getElem? (i := 0) rfl)) (allS (Or.inl (List.mem_of_getElem? (i := 1) rfl)) (allS (Or.inl (List.mem_of_getElem? (i := 2) rfl)) (allS (Or.inl (List.mem_of_getElem? (i := 3) rfl)) (allS (Or.inl (List.mem_of_getElem? (i := 4) rfl)) all0)))))
            obtain ⟨cl29, Ar29, qa29, S29, Nl29, H29, G29⟩ := id (V_t.keep K28c (ninS (Ne.symm ne_ca_r6) (ninS (Ne.symm ne_ch_r6) (ninS (Ne.symm ne_lc_r6) (ninS (Ne.symm ne_ar_r6) (ninS (Ne.symm ne_ge_r6) nin0))))))
            have hin29 : ¬ ((0 : Int32) < 0 ∨ cl29.slots.size ≤ ((0 : Int32)).toNatClampNeg) := inb_of S29 ⟨by decide, by decide⟩
            have hat29 : cl29.slots[((0 : Int32)).toNatClampNeg]? = some (.long t0) := Has.at H29 hin29 rfl
            obtain ⟨cl30, Ar30, qa30, S30, Nl30, H30, G30⟩ := id (V_t.keep K28c (ninS (Ne.symm ne_ca_r6) (ninS (Ne.symm ne_ch_r6) (ninS (Ne.symm ne_lc_r6) (ninS (Ne.symm ne_ar_r6) (ninS (Ne.symm ne_ge_r6) nin0))))))
            have hin30 : ¬ ((0 : Int32) < 0 ∨ cl30.slots.size ≤ ((0 : Int32)).toNatClampNeg) := inb_of S30 ⟨by decide, by decide⟩
            obtain ⟨T30, h30, X30, e30, W30, st30⟩ := stJ X28 hx hZ (rfl : T28.heap = T28.heap) Ar30 (j := (0 : Int32)) hin30 (g := (mkF m 61 #[.val (.ref r0), .val (.int (3 : Int32)), .val (.int p2), .val (.int p3), .val (.int p4), .val (.int p5), .val (.ref r6), .val (.int (2 : Int32)), .val (.int (0 : Int32))] [(.long (t0 + (1 : Int64))), (.int (0 : Int32)), (.ref r6)])) rfl rfl (hb hby d3_61)
            have V30 : Arv Z h30 r6 kt .long (2 : Int32) [(.long (t0 + (1 : Int64))), (.long t1)] (.long (0 : Int64)) := Arv.set Ar30 qa30 S30 Nl30 H30 G30 rfl W30 0 rfl (Nat.le_of_ble_eq_true rfl)
            have K30 : Keep h0 h30 [ca, ch, lc, ar, ge, r6] := K28.wr W30 (Or.inl (List.mem_of_getElem? (i := 5) rfl))
            have N30 := Fr.snoc X30 N28 g_r6
            obtain ⟨fs, hr, hrun, hended, hW, hsame⟩ := X30.leave (v := none) (fun _ => rfl)
            refine ⟨_, _, pre27 _ ?_, hrun, hended, _, _, rfl, ?_, ⟨_, rfl⟩, hW, hsame.mono (by decide) (by decide)⟩
            · show Steps p.tables e below (s₁.setTop (mkF m 36 #[.val (.ref r0), .val (.int (3 : Int32)), .val (.int p2), .val (.int p3), .val (.int p4), .val (.int p5), .val (.ref r6), .val (.int (2 : Int32)), .unset] [(.int ((p4 >>> (p5 &&& 31)) &&& (1 : Int32)))])) _
              refine XS.ifYes X0.here hx rfl (pc0 := 36) (pc' := 43) rfl (hb hby d3_36) rfl ((if0 _ _).trans (teq hc36).1) (by decide) (by decide) ?_
              refine XS.iconst X0.here hx rfl (hb hby d3_43) ?_
              refine XS.istore X0.here hx rfl (hb hby d3_44) rfl (l' := #[.val (.ref r0), .val (.int (3 : Int32)), .val (.int p2), .val (.int p3), .val (.int p4), .val (.int p5), .val (.ref r6), .val (.int (2 : Int32)), .val (.int (0 : Int32))]) rfl ?_
              refine XS.aloadN X0.here hx rfl (hb hby d3_46) rfl rfl ?_
              refine XS.iload X0.here hx rfl (hb hby d3_47) rfl ?_
              refine XS.iload X0.here hx rfl (hb hby d3_49) rfl ?_
              refine st28.trans ?_
              refine XS.aload X28.here hx rfl (hb hby d3_54) rfl rfl ?_
              show Steps p.tables e below (T28.setTop (mkF m 56 #[.val (.ref r0), .val (.int (3 : Int32)), .val (.int p2), .val (.int p3), .val (.int p4), .val (.int p5), .val (.ref r6), .val (.int (2 : Int32)), .val (.int (0 : Int32))] [(.ref r6)])) _
              refine XS.iconst X28.here hx rfl (hb hby d3_56) ?_
              refine Jvm.Free.XT.dup2 X28.here hx rfl (hb hby d3_57) rfl rfl rfl ?_
              refine X28.laload hx (j := (0 : Int32)) (v := (.long t0)) (by rw [(rfl : T28.heap = T28.heap)]; exact Ar29.1) (State.isArrayOf_alike hZ.alike Ar29.2.1) Ar29.2.2 hin29 hat29 (g := (mkF m 58 #[.val (.ref r0), .val (.int (3 : Int32)), .val (.int p2), .val (.int p3), .val (.int p4), .val (.int p5), .val (.ref r6), .val (.int (2 : Int32)), .val (.int (0 : Int32))] [(.int (0 : Int32)), (.ref r6), (.int (0 : Int32)), (.ref r6)])) rfl rfl (hb hby d3_58) _ ?_
              refine XS.lconst X28.here hx rfl (hb hby d3_59) ?_
              refine XS.ladd X28.here hx rfl (hb hby d3_60) rfl ?_
              refine st30 _ ?_
              refine XS.iload X30.here hx rfl (hb hby d3_62) rfl ?_
              refine XS.ifYes X30.here hx rfl (pc0 := 64) (pc' := 75) rfl (hb hby d3_64) rfl ((if0 _ _).trans (teq (by decide : (0 : Int32) = (0 : Int32))).1) (by decide) (by decide) ?_
              show Steps p.tables e below (T30.setTop (mkF m 75 #[.val (.ref r0), .val (.int (3 : Int32)), .val (.int p2), .val (.int p3), .val (.int p4), .val (.int p5), .val (.ref r6), .val (.int (2 : Int32)), .val (.int (0 : Int32))] [])) _
              exact X30.returnOut hx Bd.returns (hb hby d3_75) hr
            · show Q3n3 Z r0 p2 p3 p4 p5 r6 ca ch lc ar ge kca kch klc kar kge kt v0 v1 v2 c0 c1 c2 l0 l1 l2 m0 m1 m2 g0 g1 g2 t0 t1 kk h0 n0 _ T30.heap _
              rw [e30]
              exact ⟨v0, v1, (v2 + (1 : Int32)), c0, c1, (c2 + (J5n3j2_1_S0 (0 : Int32))), l0, l1, (nar .boolean (0 : Int32)), m0, m1, (m2 + (((J5n3j2_1_S0 (0 : Int32)).toInt64) * ((v2 + (1 : Int32)).toInt64))), g0, g1, (FP.ddiv (FP.dadd g2 (FP.i2d (J5n3j2_1_S0 (0 : Int32)))) (4611686018427387904 : UInt64)), (t0 + (1 : Int64)), t1, rfl, N30, K30, (P28_0.other W30 ne_ca_r6), (P28_1.other W30 ne_ch_r6), (P28_2.other W30 ne_lc_r6), (P28_3.other W30 ne_ar_r6), (P28_4.other W30 ne_ge_r6), V30, (own_up3_2_0 hk (by decide) hI)⟩
          · obtain ⟨cq31, kq31, q31a, q31b, q31c⟩ := isOf hZ e0 E_r
            obtain ⟨_, _, ⟨T31, L31, k31, n31⟩, -, X31, ⟨Lc31, hQ31, ll31, ly31, lz31⟩, st31⟩ := X0.virtualBack hx (y := (⟨"com/example/wandel/wandel/replay/Observations", "record", "(IZ)V"⟩ : MethodName)) (z := (⟨"com/example/wandel/wandel/replay/Observations", "record", "(IZ)V"⟩ : MethodName)) hown (mvT hZ (hw _ (List.mem_of_getElem? (i := 32) rfl))) (mvT hZ (hw _ (List.mem_of_getElem? (i := 33) rfl))) (notFace_of_selects (args := #[]) (mvT hZ (hw _ (List.mem_of_getElem? (i := 35) rfl)))) (mvT hZ (hw _ (List.mem_of_getElem? (i := 35) rfl))) (mvT hZ (hw _ (List.mem_of_getElem? (i := 34) rfl))) (by decide) (backOf (W := 0) (rm5n3j2 l Z a0 hw [] r0 (1 : Int32) ca ch lc ar ge kca kch klc kar kge v0 v1 v2 c0 c1 c2 l0 l1 l2 m0 m1 m2 g0 g1 g2 h0 n0 Z0 F_count F_changes F_lastChanged F_arithmetic F_geometric V_ca V_ch V_lc V_ar V_ge ne_r0_ca ne_r0_ch ne_r0_lc ne_r0_ar ne_r0_ge ne_ca_ch ne_ca_lc ne_ca_ar ne_ca_ge ne_ch_lc ne_ch_ar ne_ch_ge ne_lc_ar ne_lc_ge ne_ar_ge g_ca g_ch g_lc g_ar g_ge (own_gg3_2 hI)) hZ (hw _ (List.mem_of_getElem? (i := 36) rfl)) (hw _ (List.mem_of_getElem? (i := 2) rfl)) (by decide) (by decide)) q31a q31c (g := (mkF m 51 #[.val (.ref r0), .val (.int (3 : Int32)), .val (.int p2), .val (.int p3), .val (.int p4), .val (.int p5), .val (.ref r6), .val (.int (2 : Int32)), .val (.int (1 : Int32))] [(.int (1 : Int32)), (.int (2 : Int32)), (.ref r0)])) rfl (by rw [hml]; rfl) (Steps.refl _) (argsL := [(.int (2 : Int32)), (.int (1 : Int32))]) (rest := []) (lenOf pd__IZ_V rfl) rfl (by show 2 * 0 + _ ≤ _; exact Nat.le_of_eq rfl) (hb hby d3_51) (fun _ _ => ⟨rfl, e0, (by decide : 0 + 0 ≤ _), (by decide : 0 + 0 ≤ _)⟩)
            dsimp only [Pt.U, Pt.locs, Pt.cells, Pt.slots] at X31 ll31 ly31 lz31 st31 hQ31
            subst ll31 ly31 lz31
            obtain ⟨rfl, N31q, K31c, P31_0, P31_1, P31_2, P31_3, P31_4⟩ := hQ31
            have N31 := Fr.app N0 N31q
            have K31 : Keep h0 T31.heap [ca, ch, lc, ar, ge, r6] := (Keep.refl h0 [ca, ch, lc, ar, ge, r6]).trans K31c (allS (Or.inl (List.mem_of_getElem? (i := 0) rfl)) (allS (Or.inl (List.mem_of_getElem? (i := 1) rfl)) (allS (Or.inl (List.mem_of_getElem? (i := 2) rfl)) (allS (Or.inl (List.mem_of_getElem? (i := 3) rfl)) (allS (Or.inl (List.mem_of_getElem? (i := 4) rfl)) all0)))))
            obtain ⟨cl32, Ar32, qa32, S32, Nl32, H32, G32⟩ := id (V_t.keep K31c (ninS (Ne.symm ne_ca_r6) (ninS (Ne.symm ne_ch_r6) (ninS (Ne.symm ne_lc_r6) (ninS (Ne.symm ne_ar_r6) (ninS (Ne.symm ne_ge_r6) nin0))))))
            have hin32 : ¬ ((0 : Int32) < 0 ∨ cl32.slots.size ≤ ((0 : Int32)).toNatClampNeg) := inb_of S32 ⟨by decide, by decide⟩
            have hat32 : cl32.slots[((0 : Int32)).toNatClampNeg]? = some (.long t0) := Has.at H32 hin32 rfl
            obtain ⟨cl33, Ar33, qa33, S33, Nl33, H33, G33⟩ := id (V_t.keep K31c (ninS (Ne.symm ne_ca_r6) (ninS (Ne.symm ne_ch_r6) (ninS (Ne.symm ne_lc_r6) (ninS (Ne.symm ne_ar_r6) (ninS (Ne.symm ne_ge_r6) nin0))))))
            have hin33 : ¬ ((0 : Int32) < 0 ∨ cl33.slots.size ≤ ((0 : Int32)).toNatClampNeg) := inb_of S33 ⟨by decide, by decide⟩
            obtain ⟨T33, h33, X33, e33, W33, st33⟩ := stJ X31 hx hZ (rfl : T31.heap = T31.heap) Ar33 (j := (0 : Int32)) hin33 (g := (mkF m 61 #[.val (.ref r0), .val (.int (3 : Int32)), .val (.int p2), .val (.int p3), .val (.int p4), .val (.int p5), .val (.ref r6), .val (.int (2 : Int32)), .val (.int (1 : Int32))] [(.long (t0 + (1 : Int64))), (.int (0 : Int32)), (.ref r6)])) rfl rfl (hb hby d3_61)
            have V33 : Arv Z h33 r6 kt .long (2 : Int32) [(.long (t0 + (1 : Int64))), (.long t1)] (.long (0 : Int64)) := Arv.set Ar33 qa33 S33 Nl33 H33 G33 rfl W33 0 rfl (Nat.le_of_ble_eq_true rfl)
            have K33 : Keep h0 h33 [ca, ch, lc, ar, ge, r6] := K31.wr W33 (Or.inl (List.mem_of_getElem? (i := 5) rfl))
            have N33 := Fr.snoc X33 N31 g_r6
            obtain ⟨cl34, Ar34, qa34, S34, Nl34, H34, G34⟩ := id V33
            have hin34 : ¬ ((1 : Int32) < 0 ∨ cl34.slots.size ≤ ((1 : Int32)).toNatClampNeg) := inb_of S34 ⟨by decide, by decide⟩
            have hat34 : cl34.slots[((1 : Int32)).toNatClampNeg]? = some (.long t1) := Has.at H34 hin34 rfl
            obtain ⟨cl35, Ar35, qa35, S35, Nl35, H35, G35⟩ := id V33
            have hin35 : ¬ ((1 : Int32) < 0 ∨ cl35.slots.size ≤ ((1 : Int32)).toNatClampNeg) := inb_of S35 ⟨by decide, by decide⟩
            obtain ⟨T35, h35, X35, e35, W35, st35⟩ := stJ X33 hx hZ e33 Ar35 (j := (1 : Int32)) hin35 (g := (mkF m 74 #[.val (.ref r0), .val (.int (3 : Int32)), .val (.int p2), .val (.int p3), .val (.int p4), .val (.int p5), .val (.ref r6), .val (.int (2 : Int32)), .val (.int (1 : Int32))] [(.long (t1 + (1 : Int64))), (.int (1 : Int32)), (.ref r6)])) rfl rfl (hb hby d3_74)
            have V35 : Arv Z h35 r6 kt .long (2 : Int32) [(.long (t0 + (1 : Int64))), (.long (t1 + (1 : Int64)))] (.long (0 : Int64)) := Arv.set Ar35 qa35 S35 Nl35 H35 G35 rfl W35 1 rfl (Nat.le_of_ble_eq_true rfl)
            have K35 : Keep h0 h35 [ca, ch, lc, ar, ge, r6] := K33.wr W35 (Or.inl (List.mem_of_getElem? (i := 5) rfl))
            have N35 := Fr.snoc X35 N33 g_r6
            obtain ⟨fs, hr, hrun, hended, hW, hsame⟩ := X35.leave (v := none) (fun _ => rfl)
            refine ⟨_, _, pre27 _ ?_, hrun, hended, _, _, rfl, ?_, ⟨_, rfl⟩, hW, hsame.mono (by decide) (by decide)⟩
            · show Steps p.tables e below (s₁.setTop (mkF m 36 #[.val (.ref r0), .val (.int (3 : Int32)), .val (.int p2), .val (.int p3), .val (.int p4), .val (.int p5), .val (.ref r6), .val (.int (2 : Int32)), .unset] [(.int ((p4 >>> (p5 &&& 31)) &&& (1 : Int32)))])) _
              refine XS.ifNo X0.here hx rfl (hb hby d3_36) rfl ((if0 _ _).trans (feq hc36).1) ?_
              refine XS.iconst X0.here hx rfl (hb hby d3_39) ?_
              refine XS.goto X0.here hx rfl (pc0 := 40) (pc' := 44) rfl (hb hby d3_40) (by decide) (by decide) ?_
              refine XS.istore X0.here hx rfl (hb hby d3_44) rfl (l' := #[.val (.ref r0), .val (.int (3 : Int32)), .val (.int p2), .val (.int p3), .val (.int p4), .val (.int p5), .val (.ref r6), .val (.int (2 : Int32)), .val (.int (1 : Int32))]) rfl ?_
              refine XS.aloadN X0.here hx rfl (hb hby d3_46) rfl rfl ?_
              refine XS.iload X0.here hx rfl (hb hby d3_47) rfl ?_
              refine XS.iload X0.here hx rfl (hb hby d3_49) rfl ?_
              refine st31.trans ?_
              show Steps p.tables e below (T31.setTop (mkF m 54 #[.val (.ref r0), .val (.int (3 : Int32)), .val (.int p2), .val (.int p3), .val (.int p4), .val (.int p5), .val (.ref r6), .val (.int (2 : Int32)), .val (.int (1 : Int32))] [])) _
              refine XS.aload X31.here hx rfl (hb hby d3_54) rfl rfl ?_
              refine XS.iconst X31.here hx rfl (hb hby d3_56) ?_
              refine Jvm.Free.XT.dup2 X31.here hx rfl (hb hby d3_57) rfl rfl rfl ?_
              refine X31.laload hx (j := (0 : Int32)) (v := (.long t0)) (by rw [(rfl : T31.heap = T31.heap)]; exact Ar32.1) (State.isArrayOf_alike hZ.alike Ar32.2.1) Ar32.2.2 hin32 hat32 (g := (mkF m 58 #[.val (.ref r0), .val (.int (3 : Int32)), .val (.int p2), .val (.int p3), .val (.int p4), .val (.int p5), .val (.ref r6), .val (.int (2 : Int32)), .val (.int (1 : Int32))] [(.int (0 : Int32)), (.ref r6), (.int (0 : Int32)), (.ref r6)])) rfl rfl (hb hby d3_58) _ ?_
              refine XS.lconst X31.here hx rfl (hb hby d3_59) ?_
              refine XS.ladd X31.here hx rfl (hb hby d3_60) rfl ?_
              refine st33 _ ?_
              refine XS.iload X33.here hx rfl (hb hby d3_62) rfl ?_
              show Steps p.tables e below (T33.setTop (mkF m 64 #[.val (.ref r0), .val (.int (3 : Int32)), .val (.int p2), .val (.int p3), .val (.int p4), .val (.int p5), .val (.ref r6), .val (.int (2 : Int32)), .val (.int (1 : Int32))] [(.int (1 : Int32))])) _
              refine XS.ifNo X33.here hx rfl (hb hby d3_64) rfl ((if0 _ _).trans (feq (by decide : ¬ ((1 : Int32) = (0 : Int32)))).1) ?_
              refine XS.aload X33.here hx rfl (hb hby d3_67) rfl rfl ?_
              refine XS.iconst X33.here hx rfl (hb hby d3_69) ?_
              refine Jvm.Free.XT.dup2 X33.here hx rfl (hb hby d3_70) rfl rfl rfl ?_
              refine X33.laload hx (j := (1 : Int32)) (v := (.long t1)) (by rw [e33]; exact Ar34.1) (State.isArrayOf_alike hZ.alike Ar34.2.1) Ar34.2.2 hin34 hat34 (g := (mkF m 71 #[.val (.ref r0), .val (.int (3 : Int32)), .val (.int p2), .val (.int p3), .val (.int p4), .val (.int p5), .val (.ref r6), .val (.int (2 : Int32)), .val (.int (1 : Int32))] [(.int (1 : Int32)), (.ref r6), (.int (1 : Int32)), (.ref r6)])) rfl rfl (hb hby d3_71) _ ?_
              refine XS.lconst X33.here hx rfl (hb hby d3_72) ?_
              refine XS.ladd X33.here hx rfl (hb hby d3_73) rfl ?_
              refine st35 _ ?_
              show Steps p.tables e below (T35.setTop (mkF m 75 #[.val (.ref r0), .val (.int (3 : Int32)), .val (.int p2), .val (.int p3), .val (.int p4), .val (.int p5), .val (.ref r6), .val (.int (2 : Int32)), .val (.int (1 : Int32))] [])) _
              exact X35.returnOut hx Bd.returns (hb hby d3_75) hr
            · show Q3n3 Z r0 p2 p3 p4 p5 r6 ca ch lc ar ge kca kch klc kar kge kt v0 v1 v2 c0 c1 c2 l0 l1 l2 m0 m1 m2 g0 g1 g2 t0 t1 kk h0 n0 _ T35.heap _
              rw [e35]
              exact ⟨v0, v1, (v2 + (1 : Int32)), c0, c1, (c2 + (J5n3j2_1_S0 (1 : Int32))), l0, l1, (nar .boolean (1 : Int32)), m0, m1, (m2 + (((J5n3j2_1_S0 (1 : Int32)).toInt64) * ((v2 + (1 : Int32)).toInt64))), g0, g1, (FP.ddiv (FP.dadd g2 (FP.i2d (J5n3j2_1_S0 (1 : Int32)))) (4611686018427387904 : UInt64)), (t0 + (1 : Int64)), (t1 + (1 : Int64)), rfl, N35, K35, ((P31_0.other W33 ne_ca_r6).other W35 ne_ca_r6), ((P31_1.other W33 ne_ch_r6).other W35 ne_ch_r6), ((P31_2.other W33 ne_lc_r6).other W35 ne_lc_r6), ((P31_3.other W33 ne_ar_r6).other W35 ne_ar_r6), ((P31_4.other W33 ne_ge_r6).other W35 ne_ge_r6), V35, (own_up3_2_1 hk (by decide) hI)⟩
        · exact absurd (own_pg3 (p3 >>> (((2 : Int32) * p5) &&& 31))) (by unfold A3n3_27 at *; simp_all)
theorem d3_4 : decode method_3_code 4 = .ok (.return_, 1) := by decide +kernel
theorem ef_3n0 (r0 : Addr) (p2 : Int32) (p3 : Int32) (p4 : Int32) (p5 : Int32) (r6 : Addr)  (m : MethodId) : entryFrame m #[(.ref r0), (.int (0 : Int32)), (.int p2), (.int p3), (.int p4), (.int p5), (.ref r6)] 9 = mkF m 0 #[.val (.ref r0), .val (.int (0 : Int32)), .val (.int p2), .val (.int p3), .val (.int p4), .val (.int p5), .val (.ref r6), .unset, .unset] [] := by first | (simp [entryFrame, mkF, argsToLocals, Value.category]; done) | rfl
def Q3n0 (Z : State) (r0 : Addr) (p2 : Int32) (p3 : Int32) (p4 : Int32) (p5 : Int32) (r6 : Addr)  (h0 : Heap) (n0 : Nat) (v : Option Value) (h : Heap) (L : List Loc) : Prop := v = none ∧ Fr n0 L ∧ h = h0
set_option maxRecDepth 65536 in
set_option maxHeartbeats 40000000 in
theorem rm3n0 (l : Launch) (Z : State) (a0 : Array Value) (hw : ∀ d ∈ tables_1, d.before a0 Z = true) (ws : List Jvm.Cond) (r0 : Addr) (p2 : Int32) (p3 : Int32) (p4 : Int32) (p5 : Int32) (r6 : Addr)  (h0 : Heap) (n0 : Nat) (Z0 : n0 ≤ h0.size) :
    MetFree l (⟨"com/example/wandel/wandel/replay/ObservationsChangeSharePinLaw", "step", "(Lcom/example/wandel/wandel/replay/Observations;IIIII[J)V"⟩ : MethodName) (head1 (Jvm.Cond.code (⟨"com/example/wandel/wandel/replay/ObservationsChangeSharePinLaw", "step", "(Lcom/example/wandel/wandel/replay/Observations;IIIII[J)V"⟩ : MethodName) method_3_code 9 none :: ws) ({ frames := 0, cells := 0, slots := 0, locals := 0 } : Room)) (fun a U => a = #[(.ref r0), (.int (0 : Int32)), (.int p2), (.int p3), (.int p4), (.int p5), (.ref r6)] ∧ Z.Warmed39 U.vm ∧ U.heap = h0) (fun _ _ _ _ _ => True) (fun _ U o U' => ∃ v L, o = .returned v ∧ Q3n0 Z r0 p2 p3 p4 p5 r6 h0 n0 v U'.heap L ∧ FrameEnd U o U' L ({ frames := 0, cells := 0, slots := 0, locals := 0 } : Room).cells ({ frames := 0, cells := 0, slots := 0, locals := 0 } : Room).slots) := by
  refine MetFree.of_bodySF (plainFor_of_name pn_com_example_wandel_wandel_replay_ObservationsChangeSharePinLaw) hisR ?_
  intro p e s m args below meth c s₁ Bd hml0 hP hK
  obtain ⟨rfl, hZ, hh⟩ := hP
  have hx := Bd.exec
  have hby := Bd.bytes
  have hml : c.maxLocals = 9 := hml0
  have hown : s.vm.findClass "com/example/wandel/wandel/replay/ObservationsChangeSharePinLaw" = some m.cls := findClass_of_methodNamed Bd.named
  have hnm := (name_of_methodNamed Bd.named Bd.method).1
  have X0 : Stand p l e ({ frames := 0, cells := 0, slots := 0, locals := 0 } : Room) s m #[(.ref r0), (.int (0 : Int32)), (.int p2), (.int p3), (.int p4), (.int p5), (.ref r6)] below meth c s₁ [] 0 0 := Stand.of_body Bd
  have e0 : s₁.heap = h0 := by rw [← hh, Bd.state]; rfl
  have N0 := Fr.nil n0
  have pre0 : ∀ t, Steps p.tables e below (s₁.setTop (mkF m 0 #[.val (.ref r0), .val (.int (0 : Int32)), .val (.int p2), .val (.int p3), .val (.int p4), .val (.int p5), .val (.ref r6), .unset, .unset] [])) t → Steps p.tables e below (s₁.setTop (entryFrame m #[(.ref r0), (.int (0 : Int32)), (.int p2), (.int p3), (.int p4), (.int p5), (.ref r6)] 9)) t := fun t k => castTop (ef_3n0 r0 p2 p3 p4 p5 r6 m) k
  obtain ⟨fs, hr, hrun, hended, hW, hsame⟩ := X0.leave (v := none) (fun _ => rfl)
  refine ⟨_, _, pre0 _ ?_, hrun, hended, _, _, rfl, ?_, ⟨_, rfl⟩, hW, hsame.mono (by decide) (by decide)⟩
  · show Steps p.tables e below (s₁.setTop (mkF m 0 #[.val (.ref r0), .val (.int (0 : Int32)), .val (.int p2), .val (.int p3), .val (.int p4), .val (.int p5), .val (.ref r6), .unset, .unset] [])) _
    refine XS.iloadN X0.here hx rfl (hb hby d3_0) rfl ?_
    refine XS.ifNo X0.here hx rfl (hb hby d3_1) rfl ((if0 _ _).trans (teq (by decide : (0 : Int32) = (0 : Int32))).2) ?_
    show Steps p.tables e below (s₁.setTop (mkF m 4 #[.val (.ref r0), .val (.int (0 : Int32)), .val (.int p2), .val (.int p3), .val (.int p4), .val (.int p5), .val (.ref r6), .unset, .unset] [])) _
    exact X0.returnOut hx Bd.returns (hb hby d3_4) hr
  · show Q3n0 Z r0 p2 p3 p4 p5 r6 h0 n0 _ s₁.heap _
    rw [e0]
    exact ⟨rfl, N0, rfl⟩
theorem own_nq (c v : Int64) (h : ¬ (lcmpW v (0 : Int64)) = (0 : Int32)) : Jvm.Free.Fl.NoNaN64 (FP.ddiv (FP.l2d c) (FP.l2d v)) := Jvm.Free.Fl.ddiv_out (Jvm.Free.Fl.l2d_fin c).noNaN (Jvm.Free.Fl.l2d_fin v) (Jvm.Free.Fl.l2d_nz fun q => h ((lw_eq v 0).mpr q))
theorem own_n00 : Jvm.Free.Fl.NoNaN64 FP.dconst0 := by unfold Jvm.Free.Fl.NoNaN64; decide
theorem d4_0 : decode prog_61_method_7_code 0 = .ok (.lconst 0, 1) := by decide +kernel
theorem d4_1 : decode prog_61_method_7_code 1 = .ok (.lstore_n 1, 1) := by decide +kernel
theorem d4_2 : decode prog_61_method_7_code 2 = .ok (.lconst 0, 1) := by decide +kernel
theorem d4_3 : decode prog_61_method_7_code 3 = .ok (.lstore_n 3, 1) := by decide +kernel
theorem d4_4 : decode prog_61_method_7_code 4 = .ok (.iconst 0, 1) := by decide +kernel
theorem d4_5 : decode prog_61_method_7_code 5 = .ok (.istore 5, 2) := by decide +kernel
theorem d4_7 : decode prog_61_method_7_code 7 = .ok (.iload 5, 2) := by decide +kernel
theorem d4_9 : decode prog_61_method_7_code 9 = .ok (.aload_n 0, 1) := by decide +kernel
theorem d4_10 : decode prog_61_method_7_code 10 = .ok (.getfield 13, 3) := by decide +kernel
theorem d4_13 : decode prog_61_method_7_code 13 = .ok (.arraylength, 1) := by decide +kernel
theorem d4_14 : decode prog_61_method_7_code 14 = .ok (.if_icmp .ge 31, 3) := by decide +kernel
theorem d4_45 : decode prog_61_method_7_code 45 = .ok (.lload_n 1, 1) := by decide +kernel
theorem d4_46 : decode prog_61_method_7_code 46 = .ok (.lconst 0, 1) := by decide +kernel
theorem d4_47 : decode prog_61_method_7_code 47 = .ok (.lcmp, 1) := by decide +kernel
theorem d4_48 : decode prog_61_method_7_code 48 = .ok (.ifCond .ne 7, 3) := by decide +kernel
theorem d4_51 : decode prog_61_method_7_code 51 = .ok (.dconst 0, 1) := by decide +kernel
theorem d4_52 : decode prog_61_method_7_code 52 = .ok (.goto 8, 3) := by decide +kernel
theorem d4_60 : decode prog_61_method_7_code 60 = .ok (.dreturn, 1) := by decide +kernel
theorem ef_4n0 (r0 : Addr) (ca ch : Addr) (kca kch : ClassId) (m : MethodId) : entryFrame m #[(.ref r0)] 6 = mkF m 0 #[.val (.ref r0), .unset, .unset, .unset, .unset, .unset] [] := by first | (simp [entryFrame, mkF, argsToLocals, Value.category]; done) | rfl
def Q4n0 (Z : State) (r0 : Addr) (ca ch : Addr) (kca kch : ClassId) (h0 : Heap) (n0 : Nat) (v : Option Value) (h : Heap) (L : List Loc) : Prop := v = some (.double FP.dconst0) ∧ Fr n0 L ∧ h = h0
set_option maxRecDepth 65536 in
set_option maxHeartbeats 40000000 in
theorem rm4n0 (l : Launch) (Z : State) (a0 : Array Value) (hw : ∀ d ∈ tables_1, d.before a0 Z = true) (ws : List Jvm.Cond) (r0 : Addr) (ca ch : Addr) (kca kch : ClassId) (h0 : Heap) (n0 : Nat) (Z0 : n0 ≤ h0.size) (F_count : Fld Z h0 r0 "com/example/wandel/wandel/replay/Observations" "count" "[I" (.ref ca)) (F_changes : Fld Z h0 r0 "com/example/wandel/wandel/replay/Observations" "changes" "[I" (.ref ch)) (V_ca : Arv Z h0 ca kca .int (0 : Int32) [] (.int (0 : Int32))) (V_ch : Arv Z h0 ch kch .int (0 : Int32) [] (.int (0 : Int32))) :
    MetFree l (⟨"com/example/wandel/wandel/replay/Observations", "changeShare", "()D"⟩ : MethodName) (head1 (Jvm.Cond.code (⟨"com/example/wandel/wandel/replay/Observations", "changeShare", "()D"⟩ : MethodName) prog_61_method_7_code 6 (some .double) :: ws) ({ frames := 0, cells := 0, slots := 0, locals := 0 } : Room)) (fun a U => a = #[(.ref r0)] ∧ Z.Warmed39 U.vm ∧ U.heap = h0) (fun _ _ _ _ _ => True) (fun _ U o U' => ∃ v L, o = .returned v ∧ Q4n0 Z r0 ca ch kca kch h0 n0 v U'.heap L ∧ FrameEnd U o U' L ({ frames := 0, cells := 0, slots := 0, locals := 0 } : Room).cells ({ frames := 0, cells := 0, slots := 0, locals := 0 } : Room).slots) := by
  refine MetFree.of_bodySF (plainFor_of_name pn_com_example_wandel_wandel_replay_Observations) hisR ?_
  intro p e s m args below meth c s₁ Bd hml0 hP hK
  obtain ⟨rfl, hZ, hh⟩ := hP
  have hx := Bd.exec
  have hby := Bd.bytes
  have hml : c.maxLocals = 6 := hml0
  have hown : s.vm.findClass "com/example/wandel/wandel/replay/Observations" = some m.cls := findClass_of_methodNamed Bd.named
  have hnm := (name_of_methodNamed Bd.named Bd.method).1
  have X0 : Stand p l e ({ frames := 0, cells := 0, slots := 0, locals := 0 } : Room) s m #[(.ref r0)] below meth c s₁ [] 0 0 := Stand.of_body Bd
  have e0 : s₁.heap = h0 := by rw [← hh, Bd.state]; rfl
  have N0 := Fr.nil n0
  have pre0 : ∀ t, Steps p.tables e below (s₁.setTop (mkF m 0 #[.val (.ref r0), .unset, .unset, .unset, .unset, .unset] [])) t → Steps p.tables e below (s₁.setTop (entryFrame m #[(.ref r0)] 6)) t := fun t k => castTop (ef_4n0 r0 ca ch kca kch m) k
  obtain ⟨T1, X1, e1, st1⟩ := getF X0 hx hZ hown (host := "") (Or.inl (hw _ (List.mem_of_getElem? (i := 10) rfl))) Via.refl e0 F_count (g := (mkF m 10 #[.val (.ref r0), .val (.long (0 : Int64)), .second, .val (.long (0 : Int64)), .second, .val (.int (0 : Int32))] [(.ref r0), (.int (0 : Int32))])) rfl rfl (hb hby d4_10)
  obtain ⟨cl2, Ar2, -, S2, Nl2, -, -⟩ := id V_ca
  obtain ⟨fs, hr, hrun, hended, hW, hsame⟩ := X1.leave (v := some (.double FP.dconst0)) (fun h => by rw [Bd.returns] at h; cases h)
  refine ⟨_, _, pre0 _ ?_, hrun, hended, _, _, rfl, ?_, ⟨_, rfl⟩, hW, hsame.mono (by decide) (by decide)⟩
  · show Steps p.tables e below (s₁.setTop (mkF m 0 #[.val (.ref r0), .unset, .unset, .unset, .unset, .unset] [])) _
    refine XS.lconst X0.here hx rfl (hb hby d4_0) ?_
    refine XS.lstoreN X0.here hx rfl (hb hby d4_1) rfl (l' := #[.val (.ref r0), .val (.long (0 : Int64)), .second, .unset, .unset, .unset]) rfl ?_
    refine XS.lconst X0.here hx rfl (hb hby d4_2) ?_
    refine XS.lstoreN X0.here hx rfl (hb hby d4_3) rfl (l' := #[.val (.ref r0), .val (.long (0 : Int64)), .second, .val (.long (0 : Int64)), .second, .unset]) rfl ?_
    refine XS.iconst X0.here hx rfl (hb hby d4_4) ?_
    refine XS.istore X0.here hx rfl (hb hby d4_5) rfl (l' := #[.val (.ref r0), .val (.long (0 : Int64)), .second, .val (.long (0 : Int64)), .second, .val (.int (0 : Int32))]) rfl ?_
    refine XS.iload X0.here hx rfl (hb hby d4_7) rfl ?_
    refine XS.aloadN X0.here hx rfl (hb hby d4_9) rfl rfl ?_
    show Steps p.tables e below (s₁.setTop (mkF m 10 #[.val (.ref r0), .val (.long (0 : Int64)), .second, .val (.long (0 : Int64)), .second, .val (.int (0 : Int32))] [(.ref r0), (.int (0 : Int32))])) _
    refine st1 _ ?_
    refine X1.arraylength hx (by rw [e1]; exact Ar2.1) (State.isArrayOf_alike hZ.alike Ar2.2.1) (g := (mkF m 13 #[.val (.ref r0), .val (.long (0 : Int64)), .second, .val (.long (0 : Int64)), .second, .val (.int (0 : Int32))] [(.ref ca), (.int (0 : Int32))])) rfl rfl (hb hby d4_13) _ ?_
    rw [len_of S2 Nl2]
    refine XS.icmpYes X1.here hx rfl (pc0 := 14) (pc' := 45) rfl (hb hby d4_14) rfl (flt (by decide : ¬ ((0 : Int32) < (0 : Int32)))).2.1 (by decide) (by decide) ?_
    refine XS.lloadN X1.here hx rfl (hb hby d4_45) rfl ?_
    refine XS.lconst X1.here hx rfl (hb hby d4_46) ?_
    refine XS.lcmp X1.here hx rfl (hb hby d4_47) rfl ?_
    refine XS.ifNo X1.here hx rfl (hb hby d4_48) rfl ((if0 _ _).trans (teq ((lw_eq (0 : Int64) (0 : Int64)).mpr rfl)).2) ?_
    refine own_dconst0 X1.here hx rfl (hb hby d4_51) ?_
    show Steps p.tables e below (T1.setTop (mkF m 52 #[.val (.ref r0), .val (.long (0 : Int64)), .second, .val (.long (0 : Int64)), .second, .val (.int (0 : Int32))] [(.double FP.dconst0)])) _
    refine XS.goto X1.here hx rfl (pc0 := 52) (pc' := 60) rfl (hb hby d4_52) (by decide) (by decide) ?_
    show Steps p.tables e below (T1.setTop (mkF m 60 #[.val (.ref r0), .val (.long (0 : Int64)), .second, .val (.long (0 : Int64)), .second, .val (.int (0 : Int32))] [(.double FP.dconst0)])) _
    exact retOut X1 hx (t := .double) Bd.returns rfl (Or.inr (Or.inr (Or.inl ⟨rfl, rfl, _, rfl⟩))) (hb hby d4_60) hr
  · show Q4n0 Z r0 ca ch kca kch h0 n0 _ T1.heap _
    rw [e1]
    exact ⟨rfl, N0, rfl⟩
theorem d4_17 : decode prog_61_method_7_code 17 = .ok (.lload_n 1, 1) := by decide +kernel
theorem d4_18 : decode prog_61_method_7_code 18 = .ok (.aload_n 0, 1) := by decide +kernel
theorem d4_19 : decode prog_61_method_7_code 19 = .ok (.getfield 13, 3) := by decide +kernel
theorem d4_22 : decode prog_61_method_7_code 22 = .ok (.iload 5, 2) := by decide +kernel
theorem d4_24 : decode prog_61_method_7_code 24 = .ok (.iaload, 1) := by decide +kernel
theorem d4_25 : decode prog_61_method_7_code 25 = .ok (.i2l, 1) := by decide +kernel
theorem d4_26 : decode prog_61_method_7_code 26 = .ok (.ladd, 1) := by decide +kernel
theorem d4_27 : decode prog_61_method_7_code 27 = .ok (.lstore_n 1, 1) := by decide +kernel
theorem d4_28 : decode prog_61_method_7_code 28 = .ok (.lload_n 3, 1) := by decide +kernel
theorem d4_29 : decode prog_61_method_7_code 29 = .ok (.aload_n 0, 1) := by decide +kernel
theorem d4_30 : decode prog_61_method_7_code 30 = .ok (.getfield 19, 3) := by decide +kernel
theorem d4_33 : decode prog_61_method_7_code 33 = .ok (.iload 5, 2) := by decide +kernel
theorem d4_35 : decode prog_61_method_7_code 35 = .ok (.iaload, 1) := by decide +kernel
theorem d4_36 : decode prog_61_method_7_code 36 = .ok (.i2l, 1) := by decide +kernel
theorem d4_37 : decode prog_61_method_7_code 37 = .ok (.ladd, 1) := by decide +kernel
theorem d4_38 : decode prog_61_method_7_code 38 = .ok (.lstore_n 3, 1) := by decide +kernel
theorem d4_39 : decode prog_61_method_7_code 39 = .ok (.iinc 5 1, 3) := by decide +kernel
theorem d4_42 : decode prog_61_method_7_code 42 = .ok (.goto (-35), 3) := by decide +kernel
theorem d4_55 : decode prog_61_method_7_code 55 = .ok (.lload_n 3, 1) := by decide +kernel
theorem d4_56 : decode prog_61_method_7_code 56 = .ok (.l2d, 1) := by decide +kernel
theorem d4_57 : decode prog_61_method_7_code 57 = .ok (.lload_n 1, 1) := by decide +kernel
theorem d4_58 : decode prog_61_method_7_code 58 = .ok (.l2d, 1) := by decide +kernel
theorem d4_59 : decode prog_61_method_7_code 59 = .ok (.ddiv, 1) := by decide +kernel
theorem ef_4n1 (r0 : Addr) (ca ch : Addr) (kca kch : ClassId) (v0 c0 : Int32) (m : MethodId) : entryFrame m #[(.ref r0)] 6 = mkF m 0 #[.val (.ref r0), .unset, .unset, .unset, .unset, .unset] [] := by first | (simp [entryFrame, mkF, argsToLocals, Value.category]; done) | rfl
def F4n1 (v0 c0 : Int32) : UInt64 := (if (lcmpW ((0 : Int64) + (v0.toInt64)) (0 : Int64)) = (0 : Int32) then FP.dconst0 else (FP.ddiv (FP.l2d ((0 : Int64) + (c0.toInt64))) (FP.l2d ((0 : Int64) + (v0.toInt64)))))
def Q4n1 (Z : State) (r0 : Addr) (ca ch : Addr) (kca kch : ClassId) (v0 c0 : Int32) (h0 : Heap) (n0 : Nat) (v : Option Value) (h : Heap) (L : List Loc) : Prop := v = some (.double (F4n1 v0 c0)) ∧ Fr n0 L ∧ h = h0
set_option maxRecDepth 65536 in
set_option maxHeartbeats 40000000 in
theorem rm4n1 (l : Launch) (Z : State) (a0 : Array Value) (hw : ∀ d ∈ tables_1, d.before a0 Z = true) (ws : List Jvm.Cond) (r0 : Addr) (ca ch : Addr) (kca kch : ClassId) (v0 c0 : Int32) (h0 : Heap) (n0 : Nat) (Z0 : n0 ≤ h0.size) (F_count : Fld Z h0 r0 "com/example/wandel/wandel/replay/Observations" "count" "[I" (.ref ca)) (F_changes : Fld Z h0 r0 "com/example/wandel/wandel/replay/Observations" "changes" "[I" (.ref ch)) (V_ca : Arv Z h0 ca kca .int (1 : Int32) [(.int v0)] (.int (0 : Int32))) (V_ch : Arv Z h0 ch kch .int (1 : Int32) [(.int c0)] (.int (0 : Int32))) :
    MetFree l (⟨"com/example/wandel/wandel/replay/Observations", "changeShare", "()D"⟩ : MethodName) (head1 (Jvm.Cond.code (⟨"com/example/wandel/wandel/replay/Observations", "changeShare", "()D"⟩ : MethodName) prog_61_method_7_code 6 (some .double) :: ws) ({ frames := 0, cells := 0, slots := 0, locals := 0 } : Room)) (fun a U => a = #[(.ref r0)] ∧ Z.Warmed39 U.vm ∧ U.heap = h0) (fun _ _ _ _ _ => True) (fun _ U o U' => ∃ v L, o = .returned v ∧ Q4n1 Z r0 ca ch kca kch v0 c0 h0 n0 v U'.heap L ∧ FrameEnd U o U' L ({ frames := 0, cells := 0, slots := 0, locals := 0 } : Room).cells ({ frames := 0, cells := 0, slots := 0, locals := 0 } : Room).slots) := by
  refine MetFree.of_bodySF (plainFor_of_name pn_com_example_wandel_wandel_replay_Observations) hisR ?_
  intro p e s m args below meth c s₁ Bd hml0 hP hK
  obtain ⟨rfl, hZ, hh⟩ := hP
  have hx := Bd.exec
  have hby := Bd.bytes
  have hml : c.maxLocals = 6 := hml0
  have hown : s.vm.findClass "com/example/wandel/wandel/replay/Observations" = some m.cls := findClass_of_methodNamed Bd.named
  have hnm := (name_of_methodNamed Bd.named Bd.method).1
  have X0 : Stand p l e ({ frames := 0, cells := 0, slots := 0, locals := 0 } : Room) s m #[(.ref r0)] below meth c s₁ [] 0 0 := Stand.of_body Bd
  have e0 : s₁.heap = h0 := by rw [← hh, Bd.state]; rfl
  have N0 := Fr.nil n0
  have pre0 : ∀ t, Steps p.tables e below (s₁.setTop (mkF m 0 #[.val (.ref r0), .unset, .unset, .unset, .unset, .unset] [])) t → Steps p.tables e below (s₁.setTop (entryFrame m #[(.ref r0)] 6)) t := fun t k => castTop (ef_4n1 r0 ca ch kca kch v0 c0 m) k
  obtain ⟨T1, X1, e1, st1⟩ := getF X0 hx hZ hown (host := "") (Or.inl (hw _ (List.mem_of_getElem? (i := 10) rfl))) Via.refl e0 F_count (g := (mkF m 10 #[.val (.ref r0), .val (.long (0 : Int64)), .second, .val (.long (0 : Int64)), .second, .val (.int (0 : Int32))] [(.ref r0), (.int (0 : Int32))])) rfl rfl (hb hby d4_10)
  obtain ⟨cl2, Ar2, -, S2, Nl2, -, -⟩ := id V_ca
  obtain ⟨T3, X3, e3, st3⟩ := getF X1 hx hZ hown (host := "") (Or.inl (hw _ (List.mem_of_getElem? (i := 10) rfl))) Via.refl e1 F_count (g := (mkF m 19 #[.val (.ref r0), .val (.long (0 : Int64)), .second, .val (.long (0 : Int64)), .second, .val (.int (0 : Int32))] [(.ref r0), (.long (0 : Int64))])) rfl rfl (hb hby d4_19)
  obtain ⟨cl4, Ar4, qa4, S4, Nl4, H4, G4⟩ := id V_ca
  have hin4 : ¬ ((0 : Int32) < 0 ∨ cl4.slots.size ≤ ((0 : Int32)).toNatClampNeg) := inb_of S4 ⟨by decide, by decide⟩
  have hat4 : cl4.slots[((0 : Int32)).toNatClampNeg]? = some (.int v0) := Has.at H4 hin4 rfl
  obtain ⟨T5, X5, e5, st5⟩ := getF X3 hx hZ hown (host := "") (Or.inl (hw _ (List.mem_of_getElem? (i := 12) rfl))) Via.refl e3 F_changes (g := (mkF m 30 #[.val (.ref r0), .val (.long ((0 : Int64) + (v0.toInt64))), .second, .val (.long (0 : Int64)), .second, .val (.int (0 : Int32))] [(.ref r0), (.long (0 : Int64))])) rfl rfl (hb hby d4_30)
  obtain ⟨cl6, Ar6, qa6, S6, Nl6, H6, G6⟩ := id V_ch
  have hin6 : ¬ ((0 : Int32) < 0 ∨ cl6.slots.size ≤ ((0 : Int32)).toNatClampNeg) := inb_of S6 ⟨by decide, by decide⟩
  have hat6 : cl6.slots[((0 : Int32)).toNatClampNeg]? = some (.int c0) := Has.at H6 hin6 rfl
  obtain ⟨T7, X7, e7, st7⟩ := getF X5 hx hZ hown (host := "") (Or.inl (hw _ (List.mem_of_getElem? (i := 10) rfl))) Via.refl e5 F_count (g := (mkF m 10 #[.val (.ref r0), .val (.long ((0 : Int64) + (v0.toInt64))), .second, .val (.long ((0 : Int64) + (c0.toInt64))), .second, .val (.int (1 : Int32))] [(.ref r0), (.int (1 : Int32))])) rfl rfl (hb hby d4_10)
  obtain ⟨cl8, Ar8, -, S8, Nl8, -, -⟩ := id V_ca
  have pre9 : ∀ t, Steps p.tables e below (T7.setTop (mkF m 48 #[.val (.ref r0), .val (.long ((0 : Int64) + (v0.toInt64))), .second, .val (.long ((0 : Int64) + (c0.toInt64))), .second, .val (.int (1 : Int32))] [(.int (lcmpW ((0 : Int64) + (v0.toInt64)) (0 : Int64)))])) t → Steps p.tables e below (s₁.setTop (entryFrame m #[(.ref r0)] 6)) t := fun t kt => pre0 t (by
    show Steps p.tables e below (s₁.setTop (mkF m 0 #[.val (.ref r0), .unset, .unset, .unset, .unset, .unset] [])) _
    refine XS.lconst X0.here hx rfl (hb hby d4_0) ?_
    refine XS.lstoreN X0.here hx rfl (hb hby d4_1) rfl (l' := #[.val (.ref r0), .val (.long (0 : Int64)), .second, .unset, .unset, .unset]) rfl ?_
    refine XS.lconst X0.here hx rfl (hb hby d4_2) ?_
    refine XS.lstoreN X0.here hx rfl (hb hby d4_3) rfl (l' := #[.val (.ref r0), .val (.long (0 : Int64)), .second, .val (.long (0 : Int64)), .second, .unset]) rfl ?_
    refine XS.iconst X0.here hx rfl (hb hby d4_4) ?_
    refine XS.istore X0.here hx rfl (hb hby d4_5) rfl (l' := #[.val (.ref r0), .val (.long (0 : Int64)), .second, .val (.long (0 : Int64)), .second, .val (.int (0 : Int32))]) rfl ?_
    refine XS.iload X0.here hx rfl (hb hby d4_7) rfl ?_
    refine XS.aloadN X0.here hx rfl (hb hby d4_9) rfl rfl ?_
    show Steps p.tables e below (s₁.setTop (mkF m 10 #[.val (.ref r0), .val (.long (0 : Int64)), .second, .val (.long (0 : Int64)), .second, .val (.int (0 : Int32))] [(.ref r0), (.int (0 : Int32))])) _
    refine st1 _ ?_
    refine X1.arraylength hx (by rw [e1]; exact Ar2.1) (State.isArrayOf_alike hZ.alike Ar2.2.1) (g := (mkF m 13 #[.val (.ref r0), .val (.long (0 : Int64)), .second, .val (.long (0 : Int64)), .second, .val (.int (0 : Int32))] [(.ref ca), (.int (0 : Int32))])) rfl rfl (hb hby d4_13) _ ?_
    rw [len_of S2 Nl2]
    refine XS.icmpNo X1.here hx rfl (hb hby d4_14) rfl (tlt (by decide : (0 : Int32) < (1 : Int32))).2.1 ?_
    refine XS.lloadN X1.here hx rfl (hb hby d4_17) rfl ?_
    refine XS.aloadN X1.here hx rfl (hb hby d4_18) rfl rfl ?_
    refine st3 _ ?_
    refine XS.iload X3.here hx rfl (hb hby d4_22) rfl ?_
    refine X3.iaload hx (j := (0 : Int32)) (v := (.int v0)) (by rw [e3]; exact Ar4.1) (State.isArrayOf_alike hZ.alike Ar4.2.1) Ar4.2.2 hin4 hat4 (g := (mkF m 24 #[.val (.ref r0), .val (.long (0 : Int64)), .second, .val (.long (0 : Int64)), .second, .val (.int (0 : Int32))] [(.int (0 : Int32)), (.ref ca), (.long (0 : Int64))])) rfl rfl (hb hby d4_24) _ ?_
    show Steps p.tables e below (T3.setTop (mkF m 25 #[.val (.ref r0), .val (.long (0 : Int64)), .second, .val (.long (0 : Int64)), .second, .val (.int (0 : Int32))] [(.int v0), (.long (0 : Int64))])) _
    refine XS.i2l X3.here hx rfl (hb hby d4_25) rfl ?_
    refine XS.ladd X3.here hx rfl (hb hby d4_26) rfl ?_
    refine XS.lstoreN X3.here hx rfl (hb hby d4_27) rfl (l' := #[.val (.ref r0), .val (.long ((0 : Int64) + (v0.toInt64))), .second, .val (.long (0 : Int64)), .second, .val (.int (0 : Int32))]) rfl ?_
    refine XS.lloadN X3.here hx rfl (hb hby d4_28) rfl ?_
    refine XS.aloadN X3.here hx rfl (hb hby d4_29) rfl rfl ?_
    refine st5 _ ?_
    refine XS.iload X5.here hx rfl (hb hby d4_33) rfl ?_
    refine X5.iaload hx (j := (0 : Int32)) (v := (.int c0)) (by rw [e5]; exact Ar6.1) (State.isArrayOf_alike hZ.alike Ar6.2.1) Ar6.2.2 hin6 hat6 (g := (mkF m 35 #[.val (.ref r0), .val (.long ((0 : Int64) + (v0.toInt64))), .second, .val (.long (0 : Int64)), .second, .val (.int (0 : Int32))] [(.int (0 : Int32)), (.ref ch), (.long (0 : Int64))])) rfl rfl (hb hby d4_35) _ ?_
    show Steps p.tables e below (T5.setTop (mkF m 36 #[.val (.ref r0), .val (.long ((0 : Int64) + (v0.toInt64))), .second, .val (.long (0 : Int64)), .second, .val (.int (0 : Int32))] [(.int c0), (.long (0 : Int64))])) _
    refine XS.i2l X5.here hx rfl (hb hby d4_36) rfl ?_
    refine XS.ladd X5.here hx rfl (hb hby d4_37) rfl ?_
    refine XS.lstoreN X5.here hx rfl (hb hby d4_38) rfl (l' := #[.val (.ref r0), .val (.long ((0 : Int64) + (v0.toInt64))), .second, .val (.long ((0 : Int64) + (c0.toInt64))), .second, .val (.int (0 : Int32))]) rfl ?_
    refine XS.iinc X5.here hx rfl (hb hby d4_39) rfl (l' := #[.val (.ref r0), .val (.long ((0 : Int64) + (v0.toInt64))), .second, .val (.long ((0 : Int64) + (c0.toInt64))), .second, .val (.int (1 : Int32))]) rfl ?_
    refine XS.goto X5.here hx rfl (pc0 := 42) (pc' := 7) rfl (hb hby d4_42) (by decide) (by decide) ?_
    refine XS.iload X5.here hx rfl (hb hby d4_7) rfl ?_
    refine XS.aloadN X5.here hx rfl (hb hby d4_9) rfl rfl ?_
    refine st7 _ ?_
    show Steps p.tables e below (T7.setTop (mkF m 13 #[.val (.ref r0), .val (.long ((0 : Int64) + (v0.toInt64))), .second, .val (.long ((0 : Int64) + (c0.toInt64))), .second, .val (.int (1 : Int32))] [(.ref ca), (.int (1 : Int32))])) _
    refine X7.arraylength hx (by rw [e7]; exact Ar8.1) (State.isArrayOf_alike hZ.alike Ar8.2.1) (g := (mkF m 13 #[.val (.ref r0), .val (.long ((0 : Int64) + (v0.toInt64))), .second, .val (.long ((0 : Int64) + (c0.toInt64))), .second, .val (.int (1 : Int32))] [(.ref ca), (.int (1 : Int32))])) rfl rfl (hb hby d4_13) _ ?_
    rw [len_of S8 Nl8]
    refine XS.icmpYes X7.here hx rfl (pc0 := 14) (pc' := 45) rfl (hb hby d4_14) rfl (flt (by decide : ¬ ((1 : Int32) < (1 : Int32)))).2.1 (by decide) (by decide) ?_
    refine XS.lloadN X7.here hx rfl (hb hby d4_45) rfl ?_
    refine XS.lconst X7.here hx rfl (hb hby d4_46) ?_
    refine XS.lcmp X7.here hx rfl (hb hby d4_47) rfl ?_
    exact kt)
  by_cases hc48 : (lcmpW ((0 : Int64) + (v0.toInt64)) (0 : Int64)) = (0 : Int32)
  · obtain ⟨fs, hr, hrun, hended, hW, hsame⟩ := X7.leave (v := some (.double FP.dconst0)) (fun h => by rw [Bd.returns] at h; cases h)
    refine ⟨_, _, pre9 _ ?_, hrun, hended, _, _, rfl, ?_, ⟨_, rfl⟩, hW, hsame.mono (by decide) (by decide)⟩
    · show Steps p.tables e below (T7.setTop (mkF m 48 #[.val (.ref r0), .val (.long ((0 : Int64) + (v0.toInt64))), .second, .val (.long ((0 : Int64) + (c0.toInt64))), .second, .val (.int (1 : Int32))] [(.int (lcmpW ((0 : Int64) + (v0.toInt64)) (0 : Int64)))])) _
      refine XS.ifNo X7.here hx rfl (hb hby d4_48) rfl ((if0 _ _).trans (teq hc48).2) ?_
      refine own_dconst0 X7.here hx rfl (hb hby d4_51) ?_
      refine XS.goto X7.here hx rfl (pc0 := 52) (pc' := 60) rfl (hb hby d4_52) (by decide) (by decide) ?_
      show Steps p.tables e below (T7.setTop (mkF m 60 #[.val (.ref r0), .val (.long ((0 : Int64) + (v0.toInt64))), .second, .val (.long ((0 : Int64) + (c0.toInt64))), .second, .val (.int (1 : Int32))] [(.double FP.dconst0)])) _
      exact retOut X7 hx (t := .double) Bd.returns rfl (Or.inr (Or.inr (Or.inl ⟨rfl, rfl, _, rfl⟩))) (hb hby d4_60) hr
    · show Q4n1 Z r0 ca ch kca kch v0 c0 h0 n0 _ T7.heap _
      rw [e7]
      exact ⟨(by unfold F4n1; simp only [if_pos hc48]), N0, rfl⟩
  · obtain ⟨fs, hr, hrun, hended, hW, hsame⟩ := X7.leave (v := some (.double (FP.ddiv (FP.l2d ((0 : Int64) + (c0.toInt64))) (FP.l2d ((0 : Int64) + (v0.toInt64)))))) (fun h => by rw [Bd.returns] at h; cases h)
    refine ⟨_, _, pre9 _ ?_, hrun, hended, _, _, rfl, ?_, ⟨_, rfl⟩, hW, hsame.mono (by decide) (by decide)⟩
    · show Steps p.tables e below (T7.setTop (mkF m 48 #[.val (.ref r0), .val (.long ((0 : Int64) + (v0.toInt64))), .second, .val (.long ((0 : Int64) + (c0.toInt64))), .second, .val (.int (1 : Int32))] [(.int (lcmpW ((0 : Int64) + (v0.toInt64)) (0 : Int64)))])) _
      refine XS.ifYes X7.here hx rfl (pc0 := 48) (pc' := 55) rfl (hb hby d4_48) rfl ((if0 _ _).trans (feq hc48).2) (by decide) (by decide) ?_
      refine XS.lloadN X7.here hx rfl (hb hby d4_55) rfl ?_
      refine own_l2d X7.here hx rfl (hb hby d4_56) rfl ?_
      refine XS.lloadN X7.here hx rfl (hb hby d4_57) rfl ?_
      refine own_l2d X7.here hx rfl (hb hby d4_58) rfl ?_
      show Steps p.tables e below (T7.setTop (mkF m 59 #[.val (.ref r0), .val (.long ((0 : Int64) + (v0.toInt64))), .second, .val (.long ((0 : Int64) + (c0.toInt64))), .second, .val (.int (1 : Int32))] [(.double (FP.l2d ((0 : Int64) + (v0.toInt64)))), (.double (FP.l2d ((0 : Int64) + (c0.toInt64))))])) _
      refine own_ddiv X7.here hx (hb hby d4_59) (own_nq _ _ hc48) ?_
      show Steps p.tables e below (T7.setTop (mkF m 60 #[.val (.ref r0), .val (.long ((0 : Int64) + (v0.toInt64))), .second, .val (.long ((0 : Int64) + (c0.toInt64))), .second, .val (.int (1 : Int32))] [(.double (FP.ddiv (FP.l2d ((0 : Int64) + (c0.toInt64))) (FP.l2d ((0 : Int64) + (v0.toInt64)))))])) _
      exact retOut X7 hx (t := .double) Bd.returns rfl (Or.inr (Or.inr (Or.inl ⟨rfl, rfl, _, rfl⟩))) (hb hby d4_60) hr
    · show Q4n1 Z r0 ca ch kca kch v0 c0 h0 n0 _ T7.heap _
      rw [e7]
      exact ⟨(by unfold F4n1; simp only [if_neg hc48]), N0, rfl⟩
theorem own_sums1 {kk : Int} {v0 c0 : Int32} {g0 : UInt64} {t0 t1 : Int64} (hk : kk ≤ 100) (h : Inv1 kk v0 c0 g0 t0 t1) : ((0 : Int64) + (v0.toInt64)) = t0 ∧ ((0 : Int64) + (c0.toInt64)) = t1 := by
  obtain ⟨hv0, hc0, ht0, ht1, -⟩ := h
  have z0 : (0 : Int64).toInt = 0 := by decide
  constructor
  · apply Int64.toInt_inj.mp
    have := c_ladd (0 : Int64) v0.toInt64
    have := rng64 ((0 : Int64) + v0.toInt64)
    have := c_i2l v0
    omega
  · apply Int64.toInt_inj.mp
    have := c_ladd (0 : Int64) c0.toInt64
    have := rng64 ((0 : Int64) + c0.toInt64)
    have := c_i2l c0
    omega
theorem own_gz1 {kk : Int} {v0 c0 : Int32} {g0 : UInt64} {t0 t1 : Int64} (hk : kk ≤ 100) (h : Inv1 kk v0 c0 g0 t0 t1) (hz : (lcmpW t0 (0 : Int64)) = (0 : Int32)) : (cmpValue (FP.dcmp (F4n1 v0 c0) FP.dconst0) .l) = (0 : Int32) := by
  unfold F4n1
  rw [(own_sums1 hk h).1, if_pos hz]
  exact own_dcmp0 own_n00
theorem own_gq1 {kk : Int} {v0 c0 : Int32} {g0 : UInt64} {t0 t1 : Int64} (hk : kk ≤ 100) (h : Inv1 kk v0 c0 g0 t0 t1) (hz : ¬ (lcmpW t0 (0 : Int64)) = (0 : Int32)) : (cmpValue (FP.dcmp (F4n1 v0 c0) (FP.ddiv (FP.l2d t1) (FP.l2d t0))) .l) = (0 : Int32) := by
  unfold F4n1
  rw [(own_sums1 hk h).1, (own_sums1 hk h).2, if_neg hz]
  exact own_dcmp0 (own_nq _ _ hz)
theorem own_init1 : Inv1 (0 : Int) (0 : Int32) (0 : Int32) (0 : UInt64) (0 : Int64) (0 : Int64) := by
  refine ⟨?_, ?_, ?_, ?_, ?_⟩
  all_goals first | decide | (unfold Jvm.Free.Fl.NoNaN64; decide)
theorem ef_4n2 (r0 : Addr) (ca ch : Addr) (kca kch : ClassId) (v0 v1 c0 c1 : Int32) (m : MethodId) : entryFrame m #[(.ref r0)] 6 = mkF m 0 #[.val (.ref r0), .unset, .unset, .unset, .unset, .unset] [] := by first | (simp [entryFrame, mkF, argsToLocals, Value.category]; done) | rfl
def F4n2 (v0 v1 c0 c1 : Int32) : UInt64 := (if (lcmpW (((0 : Int64) + (v0.toInt64)) + (v1.toInt64)) (0 : Int64)) = (0 : Int32) then FP.dconst0 else (FP.ddiv (FP.l2d (((0 : Int64) + (c0.toInt64)) + (c1.toInt64))) (FP.l2d (((0 : Int64) + (v0.toInt64)) + (v1.toInt64)))))
def Q4n2 (Z : State) (r0 : Addr) (ca ch : Addr) (kca kch : ClassId) (v0 v1 c0 c1 : Int32) (h0 : Heap) (n0 : Nat) (v : Option Value) (h : Heap) (L : List Loc) : Prop := v = some (.double (F4n2 v0 v1 c0 c1)) ∧ Fr n0 L ∧ h = h0
set_option maxRecDepth 65536 in
set_option maxHeartbeats 40000000 in
theorem rm4n2 (l : Launch) (Z : State) (a0 : Array Value) (hw : ∀ d ∈ tables_1, d.before a0 Z = true) (ws : List Jvm.Cond) (r0 : Addr) (ca ch : Addr) (kca kch : ClassId) (v0 v1 c0 c1 : Int32) (h0 : Heap) (n0 : Nat) (Z0 : n0 ≤ h0.size) (F_count : Fld Z h0 r0 "com/example/wandel/wandel/replay/Observations" "count" "[I" (.ref ca)) (F_changes : Fld Z h0 r0 "com/example/wandel/wandel/replay/Observations" "changes" "[I" (.ref ch)) (V_ca : Arv Z h0 ca kca .int (2 : Int32) [(.int v0), (.int v1)] (.int (0 : Int32))) (V_ch : Arv Z h0 ch kch .int (2 : Int32) [(.int c0), (.int c1)] (.int (0 : Int32))) :
    MetFree l (⟨"com/example/wandel/wandel/replay/Observations", "changeShare", "()D"⟩ : MethodName) (head1 (Jvm.Cond.code (⟨"com/example/wandel/wandel/replay/Observations", "changeShare", "()D"⟩ : MethodName) prog_61_method_7_code 6 (some .double) :: ws) ({ frames := 0, cells := 0, slots := 0, locals := 0 } : Room)) (fun a U => a = #[(.ref r0)] ∧ Z.Warmed39 U.vm ∧ U.heap = h0) (fun _ _ _ _ _ => True) (fun _ U o U' => ∃ v L, o = .returned v ∧ Q4n2 Z r0 ca ch kca kch v0 v1 c0 c1 h0 n0 v U'.heap L ∧ FrameEnd U o U' L ({ frames := 0, cells := 0, slots := 0, locals := 0 } : Room).cells ({ frames := 0, cells := 0, slots := 0, locals := 0 } : Room).slots) := by
  refine MetFree.of_bodySF (plainFor_of_name pn_com_example_wandel_wandel_replay_Observations) hisR ?_
  intro p e s m args below meth c s₁ Bd hml0 hP hK
  obtain ⟨rfl, hZ, hh⟩ := hP
  have hx := Bd.exec
  have hby := Bd.bytes
  have hml : c.maxLocals = 6 := hml0
  have hown : s.vm.findClass "com/example/wandel/wandel/replay/Observations" = some m.cls := findClass_of_methodNamed Bd.named
  have hnm := (name_of_methodNamed Bd.named Bd.method).1
  have X0 : Stand p l e ({ frames := 0, cells := 0, slots := 0, locals := 0 } : Room) s m #[(.ref r0)] below meth c s₁ [] 0 0 := Stand.of_body Bd
  have e0 : s₁.heap = h0 := by rw [← hh, Bd.state]; rfl
  have N0 := Fr.nil n0
  have pre0 : ∀ t, Steps p.tables e below (s₁.setTop (mkF m 0 #[.val (.ref r0), .unset, .unset, .unset, .unset, .unset] [])) t → Steps p.tables e below (s₁.setTop (entryFrame m #[(.ref r0)] 6)) t := fun t k => castTop (ef_4n2 r0 ca ch kca kch v0 v1 c0 c1 m) k
  obtain ⟨T1, X1, e1, st1⟩ := getF X0 hx hZ hown (host := "") (Or.inl (hw _ (List.mem_of_getElem? (i := 10) rfl))) Via.refl e0 F_count (g := (mkF m 10 #[.val (.ref r0), .val (.long (0 : Int64)), .second, .val (.long (0 : Int64)), .second, .val (.int (0 : Int32))] [(.ref r0), (.int (0 : Int32))])) rfl rfl (hb hby d4_10)
  obtain ⟨cl2, Ar2, -, S2, Nl2, -, -⟩ := id V_ca
  obtain ⟨T3, X3, e3, st3⟩ := getF X1 hx hZ hown (host := "") (Or.inl (hw _ (List.mem_of_getElem? (i := 10) rfl))) Via.refl e1 F_count (g := (mkF m 19 #[.val (.ref r0), .val (.long (0 : Int64)), .second, .val (.long (0 : Int64)), .second, .val (.int (0 : Int32))] [(.ref r0), (.long (0 : Int64))])) rfl rfl (hb hby d4_19)
  obtain ⟨cl4, Ar4, qa4, S4, Nl4, H4, G4⟩ := id V_ca
  have hin4 : ¬ ((0 : Int32) < 0 ∨ cl4.slots.size ≤ ((0 : Int32)).toNatClampNeg) := inb_of S4 ⟨by decide, by decide⟩
  have hat4 : cl4.slots[((0 : Int32)).toNatClampNeg]? = some (.int v0) := Has.at H4 hin4 rfl
  obtain ⟨T5, X5, e5, st5⟩ := getF X3 hx hZ hown (host := "") (Or.inl (hw _ (List.mem_of_getElem? (i := 12) rfl))) Via.refl e3 F_changes (g := (mkF m 30 #[.val (.ref r0), .val (.long ((0 : Int64) + (v0.toInt64))), .second, .val (.long (0 : Int64)), .second, .val (.int (0 : Int32))] [(.ref r0), (.long (0 : Int64))])) rfl rfl (hb hby d4_30)
  obtain ⟨cl6, Ar6, qa6, S6, Nl6, H6, G6⟩ := id V_ch
  have hin6 : ¬ ((0 : Int32) < 0 ∨ cl6.slots.size ≤ ((0 : Int32)).toNatClampNeg) := inb_of S6 ⟨by decide, by decide⟩
  have hat6 : cl6.slots[((0 : Int32)).toNatClampNeg]? = some (.int c0) := Has.at H6 hin6 rfl
  obtain ⟨T7, X7, e7, st7⟩ := getF X5 hx hZ hown (host := "") (Or.inl (hw _ (List.mem_of_getElem? (i := 10) rfl))) Via.refl e5 F_count (g := (mkF m 10 #[.val (.ref r0), .val (.long ((0 : Int64) + (v0.toInt64))), .second, .val (.long ((0 : Int64) + (c0.toInt64))), .second, .val (.int (1 : Int32))] [(.ref r0), (.int (1 : Int32))])) rfl rfl (hb hby d4_10)
  obtain ⟨cl8, Ar8, -, S8, Nl8, -, -⟩ := id V_ca
  obtain ⟨T9, X9, e9, st9⟩ := getF X7 hx hZ hown (host := "") (Or.inl (hw _ (List.mem_of_getElem? (i := 10) rfl))) Via.refl e7 F_count (g := (mkF m 19 #[.val (.ref r0), .val (.long ((0 : Int64) + (v0.toInt64))), .second, .val (.long ((0 : Int64) + (c0.toInt64))), .second, .val (.int (1 : Int32))] [(.ref r0), (.long ((0 : Int64) + (v0.toInt64)))])) rfl rfl (hb hby d4_19)
  obtain ⟨cl10, Ar10, qa10, S10, Nl10, H10, G10⟩ := id V_ca
  have hin10 : ¬ ((1 : Int32) < 0 ∨ cl10.slots.size ≤ ((1 : Int32)).toNatClampNeg) := inb_of S10 ⟨by decide, by decide⟩
  have hat10 : cl10.slots[((1 : Int32)).toNatClampNeg]? = some (.int v1) := Has.at H10 hin10 rfl
  obtain ⟨T11, X11, e11, st11⟩ := getF X9 hx hZ hown (host := "") (Or.inl (hw _ (List.mem_of_getElem? (i := 12) rfl))) Via.refl e9 F_changes (g := (mkF m 30 #[.val (.ref r0), .val (.long (((0 : Int64) + (v0.toInt64)) + (v1.toInt64))), .second, .val (.long ((0 : Int64) + (c0.toInt64))), .second, .val (.int (1 : Int32))] [(.ref r0), (.long ((0 : Int64) + (c0.toInt64)))])) rfl rfl (hb hby d4_30)
  obtain ⟨cl12, Ar12, qa12, S12, Nl12, H12, G12⟩ := id V_ch
  have hin12 : ¬ ((1 : Int32) < 0 ∨ cl12.slots.size ≤ ((1 : Int32)).toNatClampNeg) := inb_of S12 ⟨by decide, by decide⟩
  have hat12 : cl12.slots[((1 : Int32)).toNatClampNeg]? = some (.int c1) := Has.at H12 hin12 rfl
  obtain ⟨T13, X13, e13, st13⟩ := getF X11 hx hZ hown (host := "") (Or.inl (hw _ (List.mem_of_getElem? (i := 10) rfl))) Via.refl e11 F_count (g := (mkF m 10 #[.val (.ref r0), .val (.long (((0 : Int64) + (v0.toInt64)) + (v1.toInt64))), .second, .val (.long (((0 : Int64) + (c0.toInt64)) + (c1.toInt64))), .second, .val (.int (2 : Int32))] [(.ref r0), (.int (2 : Int32))])) rfl rfl (hb hby d4_10)
  obtain ⟨cl14, Ar14, -, S14, Nl14, -, -⟩ := id V_ca
  have pre15 : ∀ t, Steps p.tables e below (T13.setTop (mkF m 48 #[.val (.ref r0), .val (.long (((0 : Int64) + (v0.toInt64)) + (v1.toInt64))), .second, .val (.long (((0 : Int64) + (c0.toInt64)) + (c1.toInt64))), .second, .val (.int (2 : Int32))] [(.int (lcmpW (((0 : Int64) + (v0.toInt64)) + (v1.toInt64)) (0 : Int64)))])) t → Steps p.tables e below (s₁.setTop (entryFrame m #[(.ref r0)] 6)) t := fun t kt => pre0 t (by
    show Steps p.tables e below (s₁.setTop (mkF m 0 #[.val (.ref r0), .unset, .unset, .unset, .unset, .unset] [])) _
    refine XS.lconst X0.here hx rfl (hb hby d4_0) ?_
    refine XS.lstoreN X0.here hx rfl (hb hby d4_1) rfl (l' := #[.val (.ref r0), .val (.long (0 : Int64)), .second, .unset, .unset, .unset]) rfl ?_
    refine XS.lconst X0.here hx rfl (hb hby d4_2) ?_
    refine XS.lstoreN X0.here hx rfl (hb hby d4_3) rfl (l' := #[.val (.ref r0), .val (.long (0 : Int64)), .second, .val (.long (0 : Int64)), .second, .unset]) rfl ?_
    refine XS.iconst X0.here hx rfl (hb hby d4_4) ?_
    refine XS.istore X0.here hx rfl (hb hby d4_5) rfl (l' := #[.val (.ref r0), .val (.long (0 : Int64)), .second, .val (.long (0 : Int64)), .second, .val (.int (0 : Int32))]) rfl ?_
    refine XS.iload X0.here hx rfl (hb hby d4_7) rfl ?_
    refine XS.aloadN X0.here hx rfl (hb hby d4_9) rfl rfl ?_
    show Steps p.tables e below (s₁.setTop (mkF m 10 #[.val (.ref r0), .val (.long (0 : Int64)), .second, .val (.long (0 : Int64)), .second, .val (.int (0 : Int32))] [(.ref r0), (.int (0 : Int32))])) _
    refine st1 _ ?_
    refine X1.arraylength hx (by rw [e1]; exact Ar2.1) (State.isArrayOf_alike hZ.alike Ar2.2.1) (g := (mkF m 13 #[.val (.ref r0), .val (.long (0 : Int64)), .second, .val (.long (0 : Int64)), .second, .val (.int (0 : Int32))] [(.ref ca), (.int (0 : Int32))])) rfl rfl (hb hby d4_13) _ ?_
    rw [len_of S2 Nl2]
    refine XS.icmpNo X1.here hx rfl (hb hby d4_14) rfl (tlt (by decide : (0 : Int32) < (2 : Int32))).2.1 ?_
    refine XS.lloadN X1.here hx rfl (hb hby d4_17) rfl ?_
    refine XS.aloadN X1.here hx rfl (hb hby d4_18) rfl rfl ?_
    refine st3 _ ?_
    refine XS.iload X3.here hx rfl (hb hby d4_22) rfl ?_
    refine X3.iaload hx (j := (0 : Int32)) (v := (.int v0)) (by rw [e3]; exact Ar4.1) (State.isArrayOf_alike hZ.alike Ar4.2.1) Ar4.2.2 hin4 hat4 (g := (mkF m 24 #[.val (.ref r0), .val (.long (0 : Int64)), .second, .val (.long (0 : Int64)), .second, .val (.int (0 : Int32))] [(.int (0 : Int32)), (.ref ca), (.long (0 : Int64))])) rfl rfl (hb hby d4_24) _ ?_
    show Steps p.tables e below (T3.setTop (mkF m 25 #[.val (.ref r0), .val (.long (0 : Int64)), .second, .val (.long (0 : Int64)), .second, .val (.int (0 : Int32))] [(.int v0), (.long (0 : Int64))])) _
    refine XS.i2l X3.here hx rfl (hb hby d4_25) rfl ?_
    refine XS.ladd X3.here hx rfl (hb hby d4_26) rfl ?_
    refine XS.lstoreN X3.here hx rfl (hb hby d4_27) rfl (l' := #[.val (.ref r0), .val (.long ((0 : Int64) + (v0.toInt64))), .second, .val (.long (0 : Int64)), .second, .val (.int (0 : Int32))]) rfl ?_
    refine XS.lloadN X3.here hx rfl (hb hby d4_28) rfl ?_
    refine XS.aloadN X3.here hx rfl (hb hby d4_29) rfl rfl ?_
    refine st5 _ ?_
    refine XS.iload X5.here hx rfl (hb hby d4_33) rfl ?_
    refine X5.iaload hx (j := (0 : Int32)) (v := (.int c0)) (by rw [e5]; exact Ar6.1) (State.isArrayOf_alike hZ.alike Ar6.2.1) Ar6.2.2 hin6 hat6 (g := (mkF m 35 #[.val (.ref r0), .val (.long ((0 : Int64) + (v0.toInt64))), .second, .val (.long (0 : Int64)), .second, .val (.int (0 : Int32))] [(.int (0 : Int32)), (.ref ch), (.long (0 : Int64))])) rfl rfl (hb hby d4_35) _ ?_
    show Steps p.tables e below (T5.setTop (mkF m 36 #[.val (.ref r0), .val (.long ((0 : Int64) + (v0.toInt64))), .second, .val (.long (0 : Int64)), .second, .val (.int (0 : Int32))] [(.int c0), (.long (0 : Int64))])) _
    refine XS.i2l X5.here hx rfl (hb hby d4_36) rfl ?_
    refine XS.ladd X5.here hx rfl (hb hby d4_37) rfl ?_
    refine XS.lstoreN X5.here hx rfl (hb hby d4_38) rfl (l' := #[.val (.ref r0), .val (.long ((0 : Int64) + (v0.toInt64))), .second, .val (.long ((0 : Int64) + (c0.toInt64))), .second, .val (.int (0 : Int32))]) rfl ?_
    refine XS.iinc X5.here hx rfl (hb hby d4_39) rfl (l' := #[.val (.ref r0), .val (.long ((0 : Int64) + (v0.toInt64))), .second, .val (.long ((0 : Int64) + (c0.toInt64))), .second, .val (.int (1 : Int32))]) rfl ?_
    refine XS.goto X5.here hx rfl (pc0 := 42) (pc' := 7) rfl (hb hby d4_42) (by decide) (by decide) ?_
    refine XS.iload X5.here hx rfl (hb hby d4_7) rfl ?_
    refine XS.aloadN X5.here hx rfl (hb hby d4_9) rfl rfl ?_
    refine st7 _ ?_
    show Steps p.tables e below (T7.setTop (mkF m 13 #[.val (.ref r0), .val (.long ((0 : Int64) + (v0.toInt64))), .second, .val (.long ((0 : Int64) + (c0.toInt64))), .second, .val (.int (1 : Int32))] [(.ref ca), (.int (1 : Int32))])) _
    refine X7.arraylength hx (by rw [e7]; exact Ar8.1) (State.isArrayOf_alike hZ.alike Ar8.2.1) (g := (mkF m 13 #[.val (.ref r0), .val (.long ((0 : Int64) + (v0.toInt64))), .second, .val (.long ((0 : Int64) + (c0.toInt64))), .second, .val (.int (1 : Int32))] [(.ref ca), (.int (1 : Int32))])) rfl rfl (hb hby d4_13) _ ?_
    rw [len_of S8 Nl8]
    refine XS.icmpNo X7.here hx rfl (hb hby d4_14) rfl (tlt (by decide : (1 : Int32) < (2 : Int32))).2.1 ?_
    refine XS.lloadN X7.here hx rfl (hb hby d4_17) rfl ?_
    refine XS.aloadN X7.here hx rfl (hb hby d4_18) rfl rfl ?_
    refine st9 _ ?_
    refine XS.iload X9.here hx rfl (hb hby d4_22) rfl ?_
    refine X9.iaload hx (j := (1 : Int32)) (v := (.int v1)) (by rw [e9]; exact Ar10.1) (State.isArrayOf_alike hZ.alike Ar10.2.1) Ar10.2.2 hin10 hat10 (g := (mkF m 24 #[.val (.ref r0), .val (.long ((0 : Int64) + (v0.toInt64))), .second, .val (.long ((0 : Int64) + (c0.toInt64))), .second, .val (.int (1 : Int32))] [(.int (1 : Int32)), (.ref ca), (.long ((0 : Int64) + (v0.toInt64)))])) rfl rfl (hb hby d4_24) _ ?_
    refine XS.i2l X9.here hx rfl (hb hby d4_25) rfl ?_
    show Steps p.tables e below (T9.setTop (mkF m 26 #[.val (.ref r0), .val (.long ((0 : Int64) + (v0.toInt64))), .second, .val (.long ((0 : Int64) + (c0.toInt64))), .second, .val (.int (1 : Int32))] [(.long (v1.toInt64)), (.long ((0 : Int64) + (v0.toInt64)))])) _
    refine XS.ladd X9.here hx rfl (hb hby d4_26) rfl ?_
    refine XS.lstoreN X9.here hx rfl (hb hby d4_27) rfl (l' := #[.val (.ref r0), .val (.long (((0 : Int64) + (v0.toInt64)) + (v1.toInt64))), .second, .val (.long ((0 : Int64) + (c0.toInt64))), .second, .val (.int (1 : Int32))]) rfl ?_
    refine XS.lloadN X9.here hx rfl (hb hby d4_28) rfl ?_
    refine XS.aloadN X9.here hx rfl (hb hby d4_29) rfl rfl ?_
    refine st11 _ ?_
    refine XS.iload X11.here hx rfl (hb hby d4_33) rfl ?_
    refine X11.iaload hx (j := (1 : Int32)) (v := (.int c1)) (by rw [e11]; exact Ar12.1) (State.isArrayOf_alike hZ.alike Ar12.2.1) Ar12.2.2 hin12 hat12 (g := (mkF m 35 #[.val (.ref r0), .val (.long (((0 : Int64) + (v0.toInt64)) + (v1.toInt64))), .second, .val (.long ((0 : Int64) + (c0.toInt64))), .second, .val (.int (1 : Int32))] [(.int (1 : Int32)), (.ref ch), (.long ((0 : Int64) + (c0.toInt64)))])) rfl rfl (hb hby d4_35) _ ?_
    refine XS.i2l X11.here hx rfl (hb hby d4_36) rfl ?_
    show Steps p.tables e below (T11.setTop (mkF m 37 #[.val (.ref r0), .val (.long (((0 : Int64) + (v0.toInt64)) + (v1.toInt64))), .second, .val (.long ((0 : Int64) + (c0.toInt64))), .second, .val (.int (1 : Int32))] [(.long (c1.toInt64)), (.long ((0 : Int64) + (c0.toInt64)))])) _
    refine XS.ladd X11.here hx rfl (hb hby d4_37) rfl ?_
    refine XS.lstoreN X11.here hx rfl (hb hby d4_38) rfl (l' := #[.val (.ref r0), .val (.long (((0 : Int64) + (v0.toInt64)) + (v1.toInt64))), .second, .val (.long (((0 : Int64) + (c0.toInt64)) + (c1.toInt64))), .second, .val (.int (1 : Int32))]) rfl ?_
    refine XS.iinc X11.here hx rfl (hb hby d4_39) rfl (l' := #[.val (.ref r0), .val (.long (((0 : Int64) + (v0.toInt64)) + (v1.toInt64))), .second, .val (.long (((0 : Int64) + (c0.toInt64)) + (c1.toInt64))), .second, .val (.int (2 : Int32))]) rfl ?_
    refine XS.goto X11.here hx rfl (pc0 := 42) (pc' := 7) rfl (hb hby d4_42) (by decide) (by decide) ?_
    refine XS.iload X11.here hx rfl (hb hby d4_7) rfl ?_
    refine XS.aloadN X11.here hx rfl (hb hby d4_9) rfl rfl ?_
    refine st13 _ ?_
    refine X13.arraylength hx (by rw [e13]; exact Ar14.1) (State.isArrayOf_alike hZ.alike Ar14.2.1) (g := (mkF m 13 #[.val (.ref r0), .val (.long (((0 : Int64) + (v0.toInt64)) + (v1.toInt64))), .second, .val (.long (((0 : Int64) + (c0.toInt64)) + (c1.toInt64))), .second, .val (.int (2 : Int32))] [(.ref ca), (.int (2 : Int32))])) rfl rfl (hb hby d4_13) _ ?_
    rw [len_of S14 Nl14]
    show Steps p.tables e below (T13.setTop (mkF m 14 #[.val (.ref r0), .val (.long (((0 : Int64) + (v0.toInt64)) + (v1.toInt64))), .second, .val (.long (((0 : Int64) + (c0.toInt64)) + (c1.toInt64))), .second, .val (.int (2 : Int32))] [(.int (2 : Int32)), (.int (2 : Int32))])) _
    refine XS.icmpYes X13.here hx rfl (pc0 := 14) (pc' := 45) rfl (hb hby d4_14) rfl (flt (by decide : ¬ ((2 : Int32) < (2 : Int32)))).2.1 (by decide) (by decide) ?_
    refine XS.lloadN X13.here hx rfl (hb hby d4_45) rfl ?_
    refine XS.lconst X13.here hx rfl (hb hby d4_46) ?_
    refine XS.lcmp X13.here hx rfl (hb hby d4_47) rfl ?_
    exact kt)
  by_cases hc48 : (lcmpW (((0 : Int64) + (v0.toInt64)) + (v1.toInt64)) (0 : Int64)) = (0 : Int32)
  · obtain ⟨fs, hr, hrun, hended, hW, hsame⟩ := X13.leave (v := some (.double FP.dconst0)) (fun h => by rw [Bd.returns] at h; cases h)
    refine ⟨_, _, pre15 _ ?_, hrun, hended, _, _, rfl, ?_, ⟨_, rfl⟩, hW, hsame.mono (by decide) (by decide)⟩
    · show Steps p.tables e below (T13.setTop (mkF m 48 #[.val (.ref r0), .val (.long (((0 : Int64) + (v0.toInt64)) + (v1.toInt64))), .second, .val (.long (((0 : Int64) + (c0.toInt64)) + (c1.toInt64))), .second, .val (.int (2 : Int32))] [(.int (lcmpW (((0 : Int64) + (v0.toInt64)) + (v1.toInt64)) (0 : Int64)))])) _
      refine XS.ifNo X13.here hx rfl (hb hby d4_48) rfl ((if0 _ _).trans (teq hc48).2) ?_
      refine own_dconst0 X13.here hx rfl (hb hby d4_51) ?_
      refine XS.goto X13.here hx rfl (pc0 := 52) (pc' := 60) rfl (hb hby d4_52) (by decide) (by decide) ?_
      show Steps p.tables e below (T13.setTop (mkF m 60 #[.val (.ref r0), .val (.long (((0 : Int64) + (v0.toInt64)) + (v1.toInt64))), .second, .val (.long (((0 : Int64) + (c0.toInt64)) + (c1.toInt64))), .second, .val (.int (2 : Int32))] [(.double FP.dconst0)])) _
      exact retOut X13 hx (t := .double) Bd.returns rfl (Or.inr (Or.inr (Or.inl ⟨rfl, rfl, _, rfl⟩))) (hb hby d4_60) hr
    · show Q4n2 Z r0 ca ch kca kch v0 v1 c0 c1 h0 n0 _ T13.heap _
      rw [e13]
      exact ⟨(by unfold F4n2; simp only [if_pos hc48]), N0, rfl⟩
  · obtain ⟨fs, hr, hrun, hended, hW, hsame⟩ := X13.leave (v := some (.double (FP.ddiv (FP.l2d (((0 : Int64) + (c0.toInt64)) + (c1.toInt64))) (FP.l2d (((0 : Int64) + (v0.toInt64)) + (v1.toInt64)))))) (fun h => by rw [Bd.returns] at h; cases h)
    refine ⟨_, _, pre15 _ ?_, hrun, hended, _, _, rfl, ?_, ⟨_, rfl⟩, hW, hsame.mono (by decide) (by decide)⟩
    · show Steps p.tables e below (T13.setTop (mkF m 48 #[.val (.ref r0), .val (.long (((0 : Int64) + (v0.toInt64)) + (v1.toInt64))), .second, .val (.long (((0 : Int64) + (c0.toInt64)) + (c1.toInt64))), .second, .val (.int (2 : Int32))] [(.int (lcmpW (((0 : Int64) + (v0.toInt64)) + (v1.toInt64)) (0 : Int64)))])) _
      refine XS.ifYes X13.here hx rfl (pc0 := 48) (pc' := 55) rfl (hb hby d4_48) rfl ((if0 _ _).trans (feq hc48).2) (by decide) (by decide) ?_
      refine XS.lloadN X13.here hx rfl (hb hby d4_55) rfl ?_
      refine own_l2d X13.here hx rfl (hb hby d4_56) rfl ?_
      refine XS.lloadN X13.here hx rfl (hb hby d4_57) rfl ?_
      refine own_l2d X13.here hx rfl (hb hby d4_58) rfl ?_
      show Steps p.tables e below (T13.setTop (mkF m 59 #[.val (.ref r0), .val (.long (((0 : Int64) + (v0.toInt64)) + (v1.toInt64))), .second, .val (.long (((0 : Int64) + (c0.toInt64)) + (c1.toInt64))), .second, .val (.int (2 : Int32))] [(.double (FP.l2d (((0 : Int64) + (v0.toInt64)) + (v1.toInt64)))), (.double (FP.l2d (((0 : Int64) + (c0.toInt64)) + (c1.toInt64))))])) _
      refine own_ddiv X13.here hx (hb hby d4_59) (own_nq _ _ hc48) ?_
      show Steps p.tables e below (T13.setTop (mkF m 60 #[.val (.ref r0), .val (.long (((0 : Int64) + (v0.toInt64)) + (v1.toInt64))), .second, .val (.long (((0 : Int64) + (c0.toInt64)) + (c1.toInt64))), .second, .val (.int (2 : Int32))] [(.double (FP.ddiv (FP.l2d (((0 : Int64) + (c0.toInt64)) + (c1.toInt64))) (FP.l2d (((0 : Int64) + (v0.toInt64)) + (v1.toInt64)))))])) _
      exact retOut X13 hx (t := .double) Bd.returns rfl (Or.inr (Or.inr (Or.inl ⟨rfl, rfl, _, rfl⟩))) (hb hby d4_60) hr
    · show Q4n2 Z r0 ca ch kca kch v0 v1 c0 c1 h0 n0 _ T13.heap _
      rw [e13]
      exact ⟨(by unfold F4n2; simp only [if_neg hc48]), N0, rfl⟩
theorem own_sums2 {kk : Int} {v0 v1 c0 c1 : Int32} {g0 g1 : UInt64} {t0 t1 : Int64} (hk : kk ≤ 100) (h : Inv2 kk v0 v1 c0 c1 g0 g1 t0 t1) : (((0 : Int64) + (v0.toInt64)) + (v1.toInt64)) = t0 ∧ (((0 : Int64) + (c0.toInt64)) + (c1.toInt64)) = t1 := by
  obtain ⟨hv0, hv1, hc0, hc1, ht0, ht1, -, -⟩ := h
  have z0 : (0 : Int64).toInt = 0 := by decide
  constructor
  · apply Int64.toInt_inj.mp
    have := c_ladd (0 : Int64) v0.toInt64
    have := rng64 ((0 : Int64) + v0.toInt64)
    have := c_i2l v0
    have := c_ladd ((0 : Int64) + (v0.toInt64)) v1.toInt64
    have := rng64 (((0 : Int64) + (v0.toInt64)) + v1.toInt64)
    have := c_i2l v1
    omega
  · apply Int64.toInt_inj.mp
    have := c_ladd (0 : Int64) c0.toInt64
    have := rng64 ((0 : Int64) + c0.toInt64)
    have := c_i2l c0
    have := c_ladd ((0 : Int64) + (c0.toInt64)) c1.toInt64
    have := rng64 (((0 : Int64) + (c0.toInt64)) + c1.toInt64)
    have := c_i2l c1
    omega
theorem own_gz2 {kk : Int} {v0 v1 c0 c1 : Int32} {g0 g1 : UInt64} {t0 t1 : Int64} (hk : kk ≤ 100) (h : Inv2 kk v0 v1 c0 c1 g0 g1 t0 t1) (hz : (lcmpW t0 (0 : Int64)) = (0 : Int32)) : (cmpValue (FP.dcmp (F4n2 v0 v1 c0 c1) FP.dconst0) .l) = (0 : Int32) := by
  unfold F4n2
  rw [(own_sums2 hk h).1, if_pos hz]
  exact own_dcmp0 own_n00
theorem own_gq2 {kk : Int} {v0 v1 c0 c1 : Int32} {g0 g1 : UInt64} {t0 t1 : Int64} (hk : kk ≤ 100) (h : Inv2 kk v0 v1 c0 c1 g0 g1 t0 t1) (hz : ¬ (lcmpW t0 (0 : Int64)) = (0 : Int32)) : (cmpValue (FP.dcmp (F4n2 v0 v1 c0 c1) (FP.ddiv (FP.l2d t1) (FP.l2d t0))) .l) = (0 : Int32) := by
  unfold F4n2
  rw [(own_sums2 hk h).1, (own_sums2 hk h).2, if_neg hz]
  exact own_dcmp0 (own_nq _ _ hz)
theorem own_init2 : Inv2 (0 : Int) (0 : Int32) (0 : Int32) (0 : Int32) (0 : Int32) (0 : UInt64) (0 : UInt64) (0 : Int64) (0 : Int64) := by
  refine ⟨?_, ?_, ?_, ?_, ?_, ?_, ?_, ?_⟩
  all_goals first | decide | (unfold Jvm.Free.Fl.NoNaN64; decide)
theorem ef_4n3 (r0 : Addr) (ca ch : Addr) (kca kch : ClassId) (v0 v1 v2 c0 c1 c2 : Int32) (m : MethodId) : entryFrame m #[(.ref r0)] 6 = mkF m 0 #[.val (.ref r0), .unset, .unset, .unset, .unset, .unset] [] := by first | (simp [entryFrame, mkF, argsToLocals, Value.category]; done) | rfl
def F4n3 (v0 v1 v2 c0 c1 c2 : Int32) : UInt64 := (if (lcmpW ((((0 : Int64) + (v0.toInt64)) + (v1.toInt64)) + (v2.toInt64)) (0 : Int64)) = (0 : Int32) then FP.dconst0 else (FP.ddiv (FP.l2d ((((0 : Int64) + (c0.toInt64)) + (c1.toInt64)) + (c2.toInt64))) (FP.l2d ((((0 : Int64) + (v0.toInt64)) + (v1.toInt64)) + (v2.toInt64)))))
def Q4n3 (Z : State) (r0 : Addr) (ca ch : Addr) (kca kch : ClassId) (v0 v1 v2 c0 c1 c2 : Int32) (h0 : Heap) (n0 : Nat) (v : Option Value) (h : Heap) (L : List Loc) : Prop := v = some (.double (F4n3 v0 v1 v2 c0 c1 c2)) ∧ Fr n0 L ∧ h = h0
set_option maxRecDepth 65536 in
set_option maxHeartbeats 40000000 in
theorem rm4n3 (l : Launch) (Z : State) (a0 : Array Value) (hw : ∀ d ∈ tables_1, d.before a0 Z = true) (ws : List Jvm.Cond) (r0 : Addr) (ca ch : Addr) (kca kch : ClassId) (v0 v1 v2 c0 c1 c2 : Int32) (h0 : Heap) (n0 : Nat) (Z0 : n0 ≤ h0.size) (F_count : Fld Z h0 r0 "com/example/wandel/wandel/replay/Observations" "count" "[I" (.ref ca)) (F_changes : Fld Z h0 r0 "com/example/wandel/wandel/replay/Observations" "changes" "[I" (.ref ch)) (V_ca : Arv Z h0 ca kca .int (3 : Int32) [(.int v0), (.int v1), (.int v2)] (.int (0 : Int32))) (V_ch : Arv Z h0 ch kch .int (3 : Int32) [(.int c0), (.int c1), (.int c2)] (.int (0 : Int32))) :
    MetFree l (⟨"com/example/wandel/wandel/replay/Observations", "changeShare", "()D"⟩ : MethodName) (head1 (Jvm.Cond.code (⟨"com/example/wandel/wandel/replay/Observations", "changeShare", "()D"⟩ : MethodName) prog_61_method_7_code 6 (some .double) :: ws) ({ frames := 0, cells := 0, slots := 0, locals := 0 } : Room)) (fun a U => a = #[(.ref r0)] ∧ Z.Warmed39 U.vm ∧ U.heap = h0) (fun _ _ _ _ _ => True) (fun _ U o U' => ∃ v L, o = .returned v ∧ Q4n3 Z r0 ca ch kca kch v0 v1 v2 c0 c1 c2 h0 n0 v U'.heap L ∧ FrameEnd U o U' L ({ frames := 0, cells := 0, slots := 0, locals := 0 } : Room).cells ({ frames := 0, cells := 0, slots := 0, locals := 0 } : Room).slots) := by
  refine MetFree.of_bodySF (plainFor_of_name pn_com_example_wandel_wandel_replay_Observations) hisR ?_
  intro p e s m args below meth c s₁ Bd hml0 hP hK
  obtain ⟨rfl, hZ, hh⟩ := hP
  have hx := Bd.exec
  have hby := Bd.bytes
  have hml : c.maxLocals = 6 := hml0
  have hown : s.vm.findClass "com/example/wandel/wandel/replay/Observations" = some m.cls := findClass_of_methodNamed Bd.named
  have hnm := (name_of_methodNamed Bd.named Bd.method).1
  have X0 : Stand p l e ({ frames := 0, cells := 0, slots := 0, locals := 0 } : Room) s m #[(.ref r0)] below meth c s₁ [] 0 0 := Stand.of_body Bd
  have e0 : s₁.heap = h0 := by rw [← hh, Bd.state]; rfl
  have N0 := Fr.nil n0
  have pre0 : ∀ t, Steps p.tables e below (s₁.setTop (mkF m 0 #[.val (.ref r0), .unset, .unset, .unset, .unset, .unset] [])) t → Steps p.tables e below (s₁.setTop (entryFrame m #[(.ref r0)] 6)) t := fun t k => castTop (ef_4n3 r0 ca ch kca kch v0 v1 v2 c0 c1 c2 m) k
  obtain ⟨T1, X1, e1, st1⟩ := getF X0 hx hZ hown (host := "") (Or.inl (hw _ (List.mem_of_getElem? (i := 10) rfl))) Via.refl e0 F_count (g := (mkF m 10 #[.val (.ref r0), .val (.long (0 : Int64)), .second, .val (.long (0 : Int64)), .second, .val (.int (0 : Int32))] [(.ref r0), (.int (0 : Int32))])) rfl rfl (hb hby d4_10)
  obtain ⟨cl2, Ar2, -, S2, Nl2, -, -⟩ := id V_ca
  obtain ⟨T3, X3, e3, st3⟩ := getF X1 hx hZ hown (host := "") (Or.inl (hw _ (List.mem_of_getElem? (i := 10) rfl))) Via.refl e1 F_count (g := (mkF m 19 #[.val (.ref r0), .val (.long (0 : Int64)), .second, .val (.long (0 : Int64)), .second, .val (.int (0 : Int32))] [(.ref r0), (.long (0 : Int64))])) rfl rfl (hb hby d4_19)
  obtain ⟨cl4, Ar4, qa4, S4, Nl4, H4, G4⟩ := id V_ca
  have hin4 : ¬ ((0 : Int32) < 0 ∨ cl4.slots.size ≤ ((0 : Int32)).toNatClampNeg) := inb_of S4 ⟨by decide, by decide⟩
  have hat4 : cl4.slots[((0 : Int32)).toNatClampNeg]? = some (.int v0) := Has.at H4 hin4 rfl
  obtain ⟨T5, X5, e5, st5⟩ := getF X3 hx hZ hown (host := "") (Or.inl (hw _ (List.mem_of_getElem? (i := 12) rfl))) Via.refl e3 F_changes (g := (mkF m 30 #[.val (.ref r0), .val (.long ((0 : Int64) + (v0.toInt64))), .second, .val (.long (0 : Int64)), .second, .val (.int (0 : Int32))] [(.ref r0), (.long (0 : Int64))])) rfl rfl (hb hby d4_30)
  obtain ⟨cl6, Ar6, qa6, S6, Nl6, H6, G6⟩ := id V_ch
  have hin6 : ¬ ((0 : Int32) < 0 ∨ cl6.slots.size ≤ ((0 : Int32)).toNatClampNeg) := inb_of S6 ⟨by decide, by decide⟩
  have hat6 : cl6.slots[((0 : Int32)).toNatClampNeg]? = some (.int c0) := Has.at H6 hin6 rfl
  obtain ⟨T7, X7, e7, st7⟩ := getF X5 hx hZ hown (host := "") (Or.inl (hw _ (List.mem_of_getElem? (i := 10) rfl))) Via.refl e5 F_count (g := (mkF m 10 #[.val (.ref r0), .val (.long ((0 : Int64) + (v0.toInt64))), .second, .val (.long ((0 : Int64) + (c0.toInt64))), .second, .val (.int (1 : Int32))] [(.ref r0), (.int (1 : Int32))])) rfl rfl (hb hby d4_10)
  obtain ⟨cl8, Ar8, -, S8, Nl8, -, -⟩ := id V_ca
  obtain ⟨T9, X9, e9, st9⟩ := getF X7 hx hZ hown (host := "") (Or.inl (hw _ (List.mem_of_getElem? (i := 10) rfl))) Via.refl e7 F_count (g := (mkF m 19 #[.val (.ref r0), .val (.long ((0 : Int64) + (v0.toInt64))), .second, .val (.long ((0 : Int64) + (c0.toInt64))), .second, .val (.int (1 : Int32))] [(.ref r0), (.long ((0 : Int64) + (v0.toInt64)))])) rfl rfl (hb hby d4_19)
  obtain ⟨cl10, Ar10, qa10, S10, Nl10, H10, G10⟩ := id V_ca
  have hin10 : ¬ ((1 : Int32) < 0 ∨ cl10.slots.size ≤ ((1 : Int32)).toNatClampNeg) := inb_of S10 ⟨by decide, by decide⟩
  have hat10 : cl10.slots[((1 : Int32)).toNatClampNeg]? = some (.int v1) := Has.at H10 hin10 rfl
  obtain ⟨T11, X11, e11, st11⟩ := getF X9 hx hZ hown (host := "") (Or.inl (hw _ (List.mem_of_getElem? (i := 12) rfl))) Via.refl e9 F_changes (g := (mkF m 30 #[.val (.ref r0), .val (.long (((0 : Int64) + (v0.toInt64)) + (v1.toInt64))), .second, .val (.long ((0 : Int64) + (c0.toInt64))), .second, .val (.int (1 : Int32))] [(.ref r0), (.long ((0 : Int64) + (c0.toInt64)))])) rfl rfl (hb hby d4_30)
  obtain ⟨cl12, Ar12, qa12, S12, Nl12, H12, G12⟩ := id V_ch
  have hin12 : ¬ ((1 : Int32) < 0 ∨ cl12.slots.size ≤ ((1 : Int32)).toNatClampNeg) := inb_of S12 ⟨by decide, by decide⟩
  have hat12 : cl12.slots[((1 : Int32)).toNatClampNeg]? = some (.int c1) := Has.at H12 hin12 rfl
  obtain ⟨T13, X13, e13, st13⟩ := getF X11 hx hZ hown (host := "") (Or.inl (hw _ (List.mem_of_getElem? (i := 10) rfl))) Via.refl e11 F_count (g := (mkF m 10 #[.val (.ref r0), .val (.long (((0 : Int64) + (v0.toInt64)) + (v1.toInt64))), .second, .val (.long (((0 : Int64) + (c0.toInt64)) + (c1.toInt64))), .second, .val (.int (2 : Int32))] [(.ref r0), (.int (2 : Int32))])) rfl rfl (hb hby d4_10)
  obtain ⟨cl14, Ar14, -, S14, Nl14, -, -⟩ := id V_ca
  obtain ⟨T15, X15, e15, st15⟩ := getF X13 hx hZ hown (host := "") (Or.inl (hw _ (List.mem_of_getElem? (i := 10) rfl))) Via.refl e13 F_count (g := (mkF m 19 #[.val (.ref r0), .val (.long (((0 : Int64) + (v0.toInt64)) + (v1.toInt64))), .second, .val (.long (((0 : Int64) + (c0.toInt64)) + (c1.toInt64))), .second, .val (.int (2 : Int32))] [(.ref r0), (.long (((0 : Int64) + (v0.toInt64)) + (v1.toInt64)))])) rfl rfl (hb hby d4_19)
  obtain ⟨cl16, Ar16, qa16, S16, Nl16, H16, G16⟩ := id V_ca
  have hin16 : ¬ ((2 : Int32) < 0 ∨ cl16.slots.size ≤ ((2 : Int32)).toNatClampNeg) := inb_of S16 ⟨by decide, by decide⟩
  have hat16 : cl16.slots[((2 : Int32)).toNatClampNeg]? = some (.int v2) := Has.at H16 hin16 rfl
  obtain ⟨T17, X17, e17, st17⟩ := getF X15 hx hZ hown (host := "") (Or.inl (hw _ (List.mem_of_getElem? (i := 12) rfl))) Via.refl e15 F_changes (g := (mkF m 30 #[.val (.ref r0), .val (.long ((((0 : Int64) + (v0.toInt64)) + (v1.toInt64)) + (v2.toInt64))), .second, .val (.long (((0 : Int64) + (c0.toInt64)) + (c1.toInt64))), .second, .val (.int (2 : Int32))] [(.ref r0), (.long (((0 : Int64) + (c0.toInt64)) + (c1.toInt64)))])) rfl rfl (hb hby d4_30)
  obtain ⟨cl18, Ar18, qa18, S18, Nl18, H18, G18⟩ := id V_ch
  have hin18 : ¬ ((2 : Int32) < 0 ∨ cl18.slots.size ≤ ((2 : Int32)).toNatClampNeg) := inb_of S18 ⟨by decide, by decide⟩
  have hat18 : cl18.slots[((2 : Int32)).toNatClampNeg]? = some (.int c2) := Has.at H18 hin18 rfl
  obtain ⟨T19, X19, e19, st19⟩ := getF X17 hx hZ hown (host := "") (Or.inl (hw _ (List.mem_of_getElem? (i := 10) rfl))) Via.refl e17 F_count (g := (mkF m 10 #[.val (.ref r0), .val (.long ((((0 : Int64) + (v0.toInt64)) + (v1.toInt64)) + (v2.toInt64))), .second, .val (.long ((((0 : Int64) + (c0.toInt64)) + (c1.toInt64)) + (c2.toInt64))), .second, .val (.int (3 : Int32))] [(.ref r0), (.int (3 : Int32))])) rfl rfl (hb hby d4_10)
  obtain ⟨cl20, Ar20, -, S20, Nl20, -, -⟩ := id V_ca
  have pre21 : ∀ t, Steps p.tables e below (T19.setTop (mkF m 48 #[.val (.ref r0), .val (.long ((((0 : Int64) + (v0.toInt64)) + (v1.toInt64)) + (v2.toInt64))), .second, .val (.long ((((0 : Int64) + (c0.toInt64)) + (c1.toInt64)) + (c2.toInt64))), .second, .val (.int (3 : Int32))] [(.int (lcmpW ((((0 : Int64) + (v0.toInt64)) + (v1.toInt64)) + (v2.toInt64)) (0 : Int64)))])) t → Steps p.tables e below (s₁.setTop (entryFrame m #[(.ref r0)] 6)) t := fun t kt => pre0 t (by
    show Steps p.tables e below (s₁.setTop (mkF m 0 #[.val (.ref r0), .unset, .unset, .unset, .unset, .unset] [])) _
    refine XS.lconst X0.here hx rfl (hb hby d4_0) ?_
    refine XS.lstoreN X0.here hx rfl (hb hby d4_1) rfl (l' := #[.val (.ref r0), .val (.long (0 : Int64)), .second, .unset, .unset, .unset]) rfl ?_
    refine XS.lconst X0.here hx rfl (hb hby d4_2) ?_
    refine XS.lstoreN X0.here hx rfl (hb hby d4_3) rfl (l' := #[.val (.ref r0), .val (.long (0 : Int64)), .second, .val (.long (0 : Int64)), .second, .unset]) rfl ?_
    refine XS.iconst X0.here hx rfl (hb hby d4_4) ?_
    refine XS.istore X0.here hx rfl (hb hby d4_5) rfl (l' := #[.val (.ref r0), .val (.long (0 : Int64)), .second, .val (.long (0 : Int64)), .second, .val (.int (0 : Int32))]) rfl ?_
    refine XS.iload X0.here hx rfl (hb hby d4_7) rfl ?_
    refine XS.aloadN X0.here hx rfl (hb hby d4_9) rfl rfl ?_
    show Steps p.tables e below (s₁.setTop (mkF m 10 #[.val (.ref r0), .val (.long (0 : Int64)), .second, .val (.long (0 : Int64)), .second, .val (.int (0 : Int32))] [(.ref r0), (.int (0 : Int32))])) _
    refine st1 _ ?_
    refine X1.arraylength hx (by rw [e1]; exact Ar2.1) (State.isArrayOf_alike hZ.alike Ar2.2.1) (g := (mkF m 13 #[.val (.ref r0), .val (.long (0 : Int64)), .second, .val (.long (0 : Int64)), .second, .val (.int (0 : Int32))] [(.ref ca), (.int (0 : Int32))])) rfl rfl (hb hby d4_13) _ ?_
    rw [len_of S2 Nl2]
    refine XS.icmpNo X1.here hx rfl (hb hby d4_14) rfl (tlt (by decide : (0 : Int32) < (3 : Int32))).2.1 ?_
    refine XS.lloadN X1.here hx rfl (hb hby d4_17) rfl ?_
    refine XS.aloadN X1.here hx rfl (hb hby d4_18) rfl rfl ?_
    refine st3 _ ?_
    refine XS.iload X3.here hx rfl (hb hby d4_22) rfl ?_
    refine X3.iaload hx (j := (0 : Int32)) (v := (.int v0)) (by rw [e3]; exact Ar4.1) (State.isArrayOf_alike hZ.alike Ar4.2.1) Ar4.2.2 hin4 hat4 (g := (mkF m 24 #[.val (.ref r0), .val (.long (0 : Int64)), .second, .val (.long (0 : Int64)), .second, .val (.int (0 : Int32))] [(.int (0 : Int32)), (.ref ca), (.long (0 : Int64))])) rfl rfl (hb hby d4_24) _ ?_
    show Steps p.tables e below (T3.setTop (mkF m 25 #[.val (.ref r0), .val (.long (0 : Int64)), .second, .val (.long (0 : Int64)), .second, .val (.int (0 : Int32))] [(.int v0), (.long (0 : Int64))])) _
    refine XS.i2l X3.here hx rfl (hb hby d4_25) rfl ?_
    refine XS.ladd X3.here hx rfl (hb hby d4_26) rfl ?_
    refine XS.lstoreN X3.here hx rfl (hb hby d4_27) rfl (l' := #[.val (.ref r0), .val (.long ((0 : Int64) + (v0.toInt64))), .second, .val (.long (0 : Int64)), .second, .val (.int (0 : Int32))]) rfl ?_
    refine XS.lloadN X3.here hx rfl (hb hby d4_28) rfl ?_
    refine XS.aloadN X3.here hx rfl (hb hby d4_29) rfl rfl ?_
    refine st5 _ ?_
    refine XS.iload X5.here hx rfl (hb hby d4_33) rfl ?_
    refine X5.iaload hx (j := (0 : Int32)) (v := (.int c0)) (by rw [e5]; exact Ar6.1) (State.isArrayOf_alike hZ.alike Ar6.2.1) Ar6.2.2 hin6 hat6 (g := (mkF m 35 #[.val (.ref r0), .val (.long ((0 : Int64) + (v0.toInt64))), .second, .val (.long (0 : Int64)), .second, .val (.int (0 : Int32))] [(.int (0 : Int32)), (.ref ch), (.long (0 : Int64))])) rfl rfl (hb hby d4_35) _ ?_
    show Steps p.tables e below (T5.setTop (mkF m 36 #[.val (.ref r0), .val (.long ((0 : Int64) + (v0.toInt64))), .second, .val (.long (0 : Int64)), .second, .val (.int (0 : Int32))] [(.int c0), (.long (0 : Int64))])) _
    refine XS.i2l X5.here hx rfl (hb hby d4_36) rfl ?_
    refine XS.ladd X5.here hx rfl (hb hby d4_37) rfl ?_
    refine XS.lstoreN X5.here hx rfl (hb hby d4_38) rfl (l' := #[.val (.ref r0), .val (.long ((0 : Int64) + (v0.toInt64))), .second, .val (.long ((0 : Int64) + (c0.toInt64))), .second, .val (.int (0 : Int32))]) rfl ?_
    refine XS.iinc X5.here hx rfl (hb hby d4_39) rfl (l' := #[.val (.ref r0), .val (.long ((0 : Int64) + (v0.toInt64))), .second, .val (.long ((0 : Int64) + (c0.toInt64))), .second, .val (.int (1 : Int32))]) rfl ?_
    refine XS.goto X5.here hx rfl (pc0 := 42) (pc' := 7) rfl (hb hby d4_42) (by decide) (by decide) ?_
    refine XS.iload X5.here hx rfl (hb hby d4_7) rfl ?_
    refine XS.aloadN X5.here hx rfl (hb hby d4_9) rfl rfl ?_
    refine st7 _ ?_
    show Steps p.tables e below (T7.setTop (mkF m 13 #[.val (.ref r0), .val (.long ((0 : Int64) + (v0.toInt64))), .second, .val (.long ((0 : Int64) + (c0.toInt64))), .second, .val (.int (1 : Int32))] [(.ref ca), (.int (1 : Int32))])) _
    refine X7.arraylength hx (by rw [e7]; exact Ar8.1) (State.isArrayOf_alike hZ.alike Ar8.2.1) (g := (mkF m 13 #[.val (.ref r0), .val (.long ((0 : Int64) + (v0.toInt64))), .second, .val (.long ((0 : Int64) + (c0.toInt64))), .second, .val (.int (1 : Int32))] [(.ref ca), (.int (1 : Int32))])) rfl rfl (hb hby d4_13) _ ?_
    rw [len_of S8 Nl8]
    refine XS.icmpNo X7.here hx rfl (hb hby d4_14) rfl (tlt (by decide : (1 : Int32) < (3 : Int32))).2.1 ?_
    refine XS.lloadN X7.here hx rfl (hb hby d4_17) rfl ?_
    refine XS.aloadN X7.here hx rfl (hb hby d4_18) rfl rfl ?_
    refine st9 _ ?_
    refine XS.iload X9.here hx rfl (hb hby d4_22) rfl ?_
    refine X9.iaload hx (j := (1 : Int32)) (v := (.int v1)) (by rw [e9]; exact Ar10.1) (State.isArrayOf_alike hZ.alike Ar10.2.1) Ar10.2.2 hin10 hat10 (g := (mkF m 24 #[.val (.ref r0), .val (.long ((0 : Int64) + (v0.toInt64))), .second, .val (.long ((0 : Int64) + (c0.toInt64))), .second, .val (.int (1 : Int32))] [(.int (1 : Int32)), (.ref ca), (.long ((0 : Int64) + (v0.toInt64)))])) rfl rfl (hb hby d4_24) _ ?_
    refine XS.i2l X9.here hx rfl (hb hby d4_25) rfl ?_
    show Steps p.tables e below (T9.setTop (mkF m 26 #[.val (.ref r0), .val (.long ((0 : Int64) + (v0.toInt64))), .second, .val (.long ((0 : Int64) + (c0.toInt64))), .second, .val (.int (1 : Int32))] [(.long (v1.toInt64)), (.long ((0 : Int64) + (v0.toInt64)))])) _
    refine XS.ladd X9.here hx rfl (hb hby d4_26) rfl ?_
    refine XS.lstoreN X9.here hx rfl (hb hby d4_27) rfl (l' := #[.val (.ref r0), .val (.long (((0 : Int64) + (v0.toInt64)) + (v1.toInt64))), .second, .val (.long ((0 : Int64) + (c0.toInt64))), .second, .val (.int (1 : Int32))]) rfl ?_
    refine XS.lloadN X9.here hx rfl (hb hby d4_28) rfl ?_
    refine XS.aloadN X9.here hx rfl (hb hby d4_29) rfl rfl ?_
    refine st11 _ ?_
    refine XS.iload X11.here hx rfl (hb hby d4_33) rfl ?_
    refine X11.iaload hx (j := (1 : Int32)) (v := (.int c1)) (by rw [e11]; exact Ar12.1) (State.isArrayOf_alike hZ.alike Ar12.2.1) Ar12.2.2 hin12 hat12 (g := (mkF m 35 #[.val (.ref r0), .val (.long (((0 : Int64) + (v0.toInt64)) + (v1.toInt64))), .second, .val (.long ((0 : Int64) + (c0.toInt64))), .second, .val (.int (1 : Int32))] [(.int (1 : Int32)), (.ref ch), (.long ((0 : Int64) + (c0.toInt64)))])) rfl rfl (hb hby d4_35) _ ?_
    refine XS.i2l X11.here hx rfl (hb hby d4_36) rfl ?_
    show Steps p.tables e below (T11.setTop (mkF m 37 #[.val (.ref r0), .val (.long (((0 : Int64) + (v0.toInt64)) + (v1.toInt64))), .second, .val (.long ((0 : Int64) + (c0.toInt64))), .second, .val (.int (1 : Int32))] [(.long (c1.toInt64)), (.long ((0 : Int64) + (c0.toInt64)))])) _
    refine XS.ladd X11.here hx rfl (hb hby d4_37) rfl ?_
    refine XS.lstoreN X11.here hx rfl (hb hby d4_38) rfl (l' := #[.val (.ref r0), .val (.long (((0 : Int64) + (v0.toInt64)) + (v1.toInt64))), .second, .val (.long (((0 : Int64) + (c0.toInt64)) + (c1.toInt64))), .second, .val (.int (1 : Int32))]) rfl ?_
    refine XS.iinc X11.here hx rfl (hb hby d4_39) rfl (l' := #[.val (.ref r0), .val (.long (((0 : Int64) + (v0.toInt64)) + (v1.toInt64))), .second, .val (.long (((0 : Int64) + (c0.toInt64)) + (c1.toInt64))), .second, .val (.int (2 : Int32))]) rfl ?_
    refine XS.goto X11.here hx rfl (pc0 := 42) (pc' := 7) rfl (hb hby d4_42) (by decide) (by decide) ?_
    refine XS.iload X11.here hx rfl (hb hby d4_7) rfl ?_
    refine XS.aloadN X11.here hx rfl (hb hby d4_9) rfl rfl ?_
    refine st13 _ ?_
    refine X13.arraylength hx (by rw [e13]; exact Ar14.1) (State.isArrayOf_alike hZ.alike Ar14.2.1) (g := (mkF m 13 #[.val (.ref r0), .val (.long (((0 : Int64) + (v0.toInt64)) + (v1.toInt64))), .second, .val (.long (((0 : Int64) + (c0.toInt64)) + (c1.toInt64))), .second, .val (.int (2 : Int32))] [(.ref ca), (.int (2 : Int32))])) rfl rfl (hb hby d4_13) _ ?_
    rw [len_of S14 Nl14]
    show Steps p.tables e below (T13.setTop (mkF m 14 #[.val (.ref r0), .val (.long (((0 : Int64) + (v0.toInt64)) + (v1.toInt64))), .second, .val (.long (((0 : Int64) + (c0.toInt64)) + (c1.toInt64))), .second, .val (.int (2 : Int32))] [(.int (3 : Int32)), (.int (2 : Int32))])) _
    refine XS.icmpNo X13.here hx rfl (hb hby d4_14) rfl (tlt (by decide : (2 : Int32) < (3 : Int32))).2.1 ?_
    refine XS.lloadN X13.here hx rfl (hb hby d4_17) rfl ?_
    refine XS.aloadN X13.here hx rfl (hb hby d4_18) rfl rfl ?_
    refine st15 _ ?_
    refine XS.iload X15.here hx rfl (hb hby d4_22) rfl ?_
    refine X15.iaload hx (j := (2 : Int32)) (v := (.int v2)) (by rw [e15]; exact Ar16.1) (State.isArrayOf_alike hZ.alike Ar16.2.1) Ar16.2.2 hin16 hat16 (g := (mkF m 24 #[.val (.ref r0), .val (.long (((0 : Int64) + (v0.toInt64)) + (v1.toInt64))), .second, .val (.long (((0 : Int64) + (c0.toInt64)) + (c1.toInt64))), .second, .val (.int (2 : Int32))] [(.int (2 : Int32)), (.ref ca), (.long (((0 : Int64) + (v0.toInt64)) + (v1.toInt64)))])) rfl rfl (hb hby d4_24) _ ?_
    refine XS.i2l X15.here hx rfl (hb hby d4_25) rfl ?_
    refine XS.ladd X15.here hx rfl (hb hby d4_26) rfl ?_
    show Steps p.tables e below (T15.setTop (mkF m 27 #[.val (.ref r0), .val (.long (((0 : Int64) + (v0.toInt64)) + (v1.toInt64))), .second, .val (.long (((0 : Int64) + (c0.toInt64)) + (c1.toInt64))), .second, .val (.int (2 : Int32))] [(.long ((((0 : Int64) + (v0.toInt64)) + (v1.toInt64)) + (v2.toInt64)))])) _
    refine XS.lstoreN X15.here hx rfl (hb hby d4_27) rfl (l' := #[.val (.ref r0), .val (.long ((((0 : Int64) + (v0.toInt64)) + (v1.toInt64)) + (v2.toInt64))), .second, .val (.long (((0 : Int64) + (c0.toInt64)) + (c1.toInt64))), .second, .val (.int (2 : Int32))]) rfl ?_
    refine XS.lloadN X15.here hx rfl (hb hby d4_28) rfl ?_
    refine XS.aloadN X15.here hx rfl (hb hby d4_29) rfl rfl ?_
    refine st17 _ ?_
    refine XS.iload X17.here hx rfl (hb hby d4_33) rfl ?_
    refine X17.iaload hx (j := (2 : Int32)) (v := (.int c2)) (by rw [e17]; exact Ar18.1) (State.isArrayOf_alike hZ.alike Ar18.2.1) Ar18.2.2 hin18 hat18 (g := (mkF m 35 #[.val (.ref r0), .val (.long ((((0 : Int64) + (v0.toInt64)) + (v1.toInt64)) + (v2.toInt64))), .second, .val (.long (((0 : Int64) + (c0.toInt64)) + (c1.toInt64))), .second, .val (.int (2 : Int32))] [(.int (2 : Int32)), (.ref ch), (.long (((0 : Int64) + (c0.toInt64)) + (c1.toInt64)))])) rfl rfl (hb hby d4_35) _ ?_
    refine XS.i2l X17.here hx rfl (hb hby d4_36) rfl ?_
    refine XS.ladd X17.here hx rfl (hb hby d4_37) rfl ?_
    show Steps p.tables e below (T17.setTop (mkF m 38 #[.val (.ref r0), .val (.long ((((0 : Int64) + (v0.toInt64)) + (v1.toInt64)) + (v2.toInt64))), .second, .val (.long (((0 : Int64) + (c0.toInt64)) + (c1.toInt64))), .second, .val (.int (2 : Int32))] [(.long ((((0 : Int64) + (c0.toInt64)) + (c1.toInt64)) + (c2.toInt64)))])) _
    refine XS.lstoreN X17.here hx rfl (hb hby d4_38) rfl (l' := #[.val (.ref r0), .val (.long ((((0 : Int64) + (v0.toInt64)) + (v1.toInt64)) + (v2.toInt64))), .second, .val (.long ((((0 : Int64) + (c0.toInt64)) + (c1.toInt64)) + (c2.toInt64))), .second, .val (.int (2 : Int32))]) rfl ?_
    refine XS.iinc X17.here hx rfl (hb hby d4_39) rfl (l' := #[.val (.ref r0), .val (.long ((((0 : Int64) + (v0.toInt64)) + (v1.toInt64)) + (v2.toInt64))), .second, .val (.long ((((0 : Int64) + (c0.toInt64)) + (c1.toInt64)) + (c2.toInt64))), .second, .val (.int (3 : Int32))]) rfl ?_
    refine XS.goto X17.here hx rfl (pc0 := 42) (pc' := 7) rfl (hb hby d4_42) (by decide) (by decide) ?_
    refine XS.iload X17.here hx rfl (hb hby d4_7) rfl ?_
    refine XS.aloadN X17.here hx rfl (hb hby d4_9) rfl rfl ?_
    refine st19 _ ?_
    refine X19.arraylength hx (by rw [e19]; exact Ar20.1) (State.isArrayOf_alike hZ.alike Ar20.2.1) (g := (mkF m 13 #[.val (.ref r0), .val (.long ((((0 : Int64) + (v0.toInt64)) + (v1.toInt64)) + (v2.toInt64))), .second, .val (.long ((((0 : Int64) + (c0.toInt64)) + (c1.toInt64)) + (c2.toInt64))), .second, .val (.int (3 : Int32))] [(.ref ca), (.int (3 : Int32))])) rfl rfl (hb hby d4_13) _ ?_
    rw [len_of S20 Nl20]
    refine XS.icmpYes X19.here hx rfl (pc0 := 14) (pc' := 45) rfl (hb hby d4_14) rfl (flt (by decide : ¬ ((3 : Int32) < (3 : Int32)))).2.1 (by decide) (by decide) ?_
    show Steps p.tables e below (T19.setTop (mkF m 45 #[.val (.ref r0), .val (.long ((((0 : Int64) + (v0.toInt64)) + (v1.toInt64)) + (v2.toInt64))), .second, .val (.long ((((0 : Int64) + (c0.toInt64)) + (c1.toInt64)) + (c2.toInt64))), .second, .val (.int (3 : Int32))] [])) _
    refine XS.lloadN X19.here hx rfl (hb hby d4_45) rfl ?_
    refine XS.lconst X19.here hx rfl (hb hby d4_46) ?_
    refine XS.lcmp X19.here hx rfl (hb hby d4_47) rfl ?_
    exact kt)
  by_cases hc48 : (lcmpW ((((0 : Int64) + (v0.toInt64)) + (v1.toInt64)) + (v2.toInt64)) (0 : Int64)) = (0 : Int32)
  · obtain ⟨fs, hr, hrun, hended, hW, hsame⟩ := X19.leave (v := some (.double FP.dconst0)) (fun h => by rw [Bd.returns] at h; cases h)
    refine ⟨_, _, pre21 _ ?_, hrun, hended, _, _, rfl, ?_, ⟨_, rfl⟩, hW, hsame.mono (by decide) (by decide)⟩
    · show Steps p.tables e below (T19.setTop (mkF m 48 #[.val (.ref r0), .val (.long ((((0 : Int64) + (v0.toInt64)) + (v1.toInt64)) + (v2.toInt64))), .second, .val (.long ((((0 : Int64) + (c0.toInt64)) + (c1.toInt64)) + (c2.toInt64))), .second, .val (.int (3 : Int32))] [(.int (lcmpW ((((0 : Int64) + (v0.toInt64)) + (v1.toInt64)) + (v2.toInt64)) (0 : Int64)))])) _
      refine XS.ifNo X19.here hx rfl (hb hby d4_48) rfl ((if0 _ _).trans (teq hc48).2) ?_
      refine own_dconst0 X19.here hx rfl (hb hby d4_51) ?_
      refine XS.goto X19.here hx rfl (pc0 := 52) (pc' := 60) rfl (hb hby d4_52) (by decide) (by decide) ?_
      show Steps p.tables e below (T19.setTop (mkF m 60 #[.val (.ref r0), .val (.long ((((0 : Int64) + (v0.toInt64)) + (v1.toInt64)) + (v2.toInt64))), .second, .val (.long ((((0 : Int64) + (c0.toInt64)) + (c1.toInt64)) + (c2.toInt64))), .second, .val (.int (3 : Int32))] [(.double FP.dconst0)])) _
      exact retOut X19 hx (t := .double) Bd.returns rfl (Or.inr (Or.inr (Or.inl ⟨rfl, rfl, _, rfl⟩))) (hb hby d4_60) hr
    · show Q4n3 Z r0 ca ch kca kch v0 v1 v2 c0 c1 c2 h0 n0 _ T19.heap _
      rw [e19]
      exact ⟨(by unfold F4n3; simp only [if_pos hc48]), N0, rfl⟩
  · obtain ⟨fs, hr, hrun, hended, hW, hsame⟩ := X19.leave (v := some (.double (FP.ddiv (FP.l2d ((((0 : Int64) + (c0.toInt64)) + (c1.toInt64)) + (c2.toInt64))) (FP.l2d ((((0 : Int64) + (v0.toInt64)) + (v1.toInt64)) + (v2.toInt64)))))) (fun h => by rw [Bd.returns] at h; cases h)
    refine ⟨_, _, pre21 _ ?_, hrun, hended, _, _, rfl, ?_, ⟨_, rfl⟩, hW, hsame.mono (by decide) (by decide)⟩
    · show Steps p.tables e below (T19.setTop (mkF m 48 #[.val (.ref r0), .val (.long ((((0 : Int64) + (v0.toInt64)) + (v1.toInt64)) + (v2.toInt64))), .second, .val (.long ((((0 : Int64) + (c0.toInt64)) + (c1.toInt64)) + (c2.toInt64))), .second, .val (.int (3 : Int32))] [(.int (lcmpW ((((0 : Int64) + (v0.toInt64)) + (v1.toInt64)) + (v2.toInt64)) (0 : Int64)))])) _
      refine XS.ifYes X19.here hx rfl (pc0 := 48) (pc' := 55) rfl (hb hby d4_48) rfl ((if0 _ _).trans (feq hc48).2) (by decide) (by decide) ?_
      refine XS.lloadN X19.here hx rfl (hb hby d4_55) rfl ?_
      refine own_l2d X19.here hx rfl (hb hby d4_56) rfl ?_
      refine XS.lloadN X19.here hx rfl (hb hby d4_57) rfl ?_
      refine own_l2d X19.here hx rfl (hb hby d4_58) rfl ?_
      show Steps p.tables e below (T19.setTop (mkF m 59 #[.val (.ref r0), .val (.long ((((0 : Int64) + (v0.toInt64)) + (v1.toInt64)) + (v2.toInt64))), .second, .val (.long ((((0 : Int64) + (c0.toInt64)) + (c1.toInt64)) + (c2.toInt64))), .second, .val (.int (3 : Int32))] [(.double (FP.l2d ((((0 : Int64) + (v0.toInt64)) + (v1.toInt64)) + (v2.toInt64)))), (.double (FP.l2d ((((0 : Int64) + (c0.toInt64)) + (c1.toInt64)) + (c2.toInt64))))])) _
      refine own_ddiv X19.here hx (hb hby d4_59) (own_nq _ _ hc48) ?_
      show Steps p.tables e below (T19.setTop (mkF m 60 #[.val (.ref r0), .val (.long ((((0 : Int64) + (v0.toInt64)) + (v1.toInt64)) + (v2.toInt64))), .second, .val (.long ((((0 : Int64) + (c0.toInt64)) + (c1.toInt64)) + (c2.toInt64))), .second, .val (.int (3 : Int32))] [(.double (FP.ddiv (FP.l2d ((((0 : Int64) + (c0.toInt64)) + (c1.toInt64)) + (c2.toInt64))) (FP.l2d ((((0 : Int64) + (v0.toInt64)) + (v1.toInt64)) + (v2.toInt64)))))])) _
      exact retOut X19 hx (t := .double) Bd.returns rfl (Or.inr (Or.inr (Or.inl ⟨rfl, rfl, _, rfl⟩))) (hb hby d4_60) hr
    · show Q4n3 Z r0 ca ch kca kch v0 v1 v2 c0 c1 c2 h0 n0 _ T19.heap _
      rw [e19]
      exact ⟨(by unfold F4n3; simp only [if_neg hc48]), N0, rfl⟩
theorem own_sums3 {kk : Int} {v0 v1 v2 c0 c1 c2 : Int32} {g0 g1 g2 : UInt64} {t0 t1 : Int64} (hk : kk ≤ 100) (h : Inv3 kk v0 v1 v2 c0 c1 c2 g0 g1 g2 t0 t1) : ((((0 : Int64) + (v0.toInt64)) + (v1.toInt64)) + (v2.toInt64)) = t0 ∧ ((((0 : Int64) + (c0.toInt64)) + (c1.toInt64)) + (c2.toInt64)) = t1 := by
  obtain ⟨hv0, hv1, hv2, hc0, hc1, hc2, ht0, ht1, -, -, -⟩ := h
  have z0 : (0 : Int64).toInt = 0 := by decide
  constructor
  · apply Int64.toInt_inj.mp
    have := c_ladd (0 : Int64) v0.toInt64
    have := rng64 ((0 : Int64) + v0.toInt64)
    have := c_i2l v0
    have := c_ladd ((0 : Int64) + (v0.toInt64)) v1.toInt64
    have := rng64 (((0 : Int64) + (v0.toInt64)) + v1.toInt64)
    have := c_i2l v1
    have := c_ladd (((0 : Int64) + (v0.toInt64)) + (v1.toInt64)) v2.toInt64
    have := rng64 ((((0 : Int64) + (v0.toInt64)) + (v1.toInt64)) + v2.toInt64)
    have := c_i2l v2
    omega
  · apply Int64.toInt_inj.mp
    have := c_ladd (0 : Int64) c0.toInt64
    have := rng64 ((0 : Int64) + c0.toInt64)
    have := c_i2l c0
    have := c_ladd ((0 : Int64) + (c0.toInt64)) c1.toInt64
    have := rng64 (((0 : Int64) + (c0.toInt64)) + c1.toInt64)
    have := c_i2l c1
    have := c_ladd (((0 : Int64) + (c0.toInt64)) + (c1.toInt64)) c2.toInt64
    have := rng64 ((((0 : Int64) + (c0.toInt64)) + (c1.toInt64)) + c2.toInt64)
    have := c_i2l c2
    omega
theorem own_gz3 {kk : Int} {v0 v1 v2 c0 c1 c2 : Int32} {g0 g1 g2 : UInt64} {t0 t1 : Int64} (hk : kk ≤ 100) (h : Inv3 kk v0 v1 v2 c0 c1 c2 g0 g1 g2 t0 t1) (hz : (lcmpW t0 (0 : Int64)) = (0 : Int32)) : (cmpValue (FP.dcmp (F4n3 v0 v1 v2 c0 c1 c2) FP.dconst0) .l) = (0 : Int32) := by
  unfold F4n3
  rw [(own_sums3 hk h).1, if_pos hz]
  exact own_dcmp0 own_n00
theorem own_gq3 {kk : Int} {v0 v1 v2 c0 c1 c2 : Int32} {g0 g1 g2 : UInt64} {t0 t1 : Int64} (hk : kk ≤ 100) (h : Inv3 kk v0 v1 v2 c0 c1 c2 g0 g1 g2 t0 t1) (hz : ¬ (lcmpW t0 (0 : Int64)) = (0 : Int32)) : (cmpValue (FP.dcmp (F4n3 v0 v1 v2 c0 c1 c2) (FP.ddiv (FP.l2d t1) (FP.l2d t0))) .l) = (0 : Int32) := by
  unfold F4n3
  rw [(own_sums3 hk h).1, (own_sums3 hk h).2, if_neg hz]
  exact own_dcmp0 (own_nq _ _ hz)
theorem own_init3 : Inv3 (0 : Int) (0 : Int32) (0 : Int32) (0 : Int32) (0 : Int32) (0 : Int32) (0 : Int32) (0 : UInt64) (0 : UInt64) (0 : UInt64) (0 : Int64) (0 : Int64) := by
  refine ⟨?_, ?_, ?_, ?_, ?_, ?_, ?_, ?_, ?_, ?_, ?_⟩
  all_goals first | decide | (unfold Jvm.Free.Fl.NoNaN64; decide)
def A0_3 (p0 : Int32) (p1 : Int32) (p2 : Int32) : Int32 := (p0 &&& (3 : Int32))
theorem own_four (p0 : Int32) : p0 &&& 3 = 0 ∨ p0 &&& 3 = 1 ∨ p0 &&& 3 = 2 ∨ p0 &&& 3 = 3 := by
  have m := c_mask p0 3 2 (by decide) (by decide)
  simp only [← Int32.toInt_inj]
  show _ = (0 : Int) ∨ _ = (1 : Int) ∨ _ = (2 : Int) ∨ _ = (3 : Int)
  omega
theorem pd__I_V : parseMethodDescriptor "(I)V" = some ⟨[.int], none⟩ := by decide +kernel
theorem pd__Lcom_example_wandel_wandel_replay_Observations_IIIII_J_V : parseMethodDescriptor "(Lcom/example/wandel/wandel/replay/Observations;IIIII[J)V" = some ⟨[(.object "com/example/wandel/wandel/replay/Observations"), .int, .int, .int, .int, .int, (.array .long)], none⟩ := by decide +kernel
theorem pd___D : parseMethodDescriptor "()D" = some ⟨[], some .double⟩ := by decide +kernel
theorem ef_0 (p0 : Int32) (p1 : Int32) (p2 : Int32)  (m : MethodId) : entryFrame m #[(.int p0), (.int p1), (.int p2)] maxLocals = mkF m 0 #[.val (.int p0), .val (.int p1), .val (.int p2), .unset, .unset, .unset, .unset, .unset, .unset, .unset] [] := by first | (simp [entryFrame, mkF, argsToLocals, Value.category, maxLocals]; done) | rfl
def Q0 (Z : State) (p0 : Int32) (p1 : Int32) (p2 : Int32)  (h0 : Heap) (n0 : Nat) (v : Option Value) (h : Heap) (L : List Loc) : Prop := v = some (.int (1 : Int32)) ∧ Fr n0 L
set_option maxRecDepth 65536 in
set_option maxHeartbeats 40000000 in
theorem rm0 (l : Launch) (Z : State) (a0 : Array Value) (hw : ∀ d ∈ tables_1, d.before a0 Z = true) (ws : List Jvm.Cond) (p0 : Int32) (p1 : Int32) (p2 : Int32)  (h0 : Heap) (n0 : Nat) (Z0 : n0 ≤ h0.size) :
    MetFree l x (head1 (Jvm.Cond.code x code maxLocals ret :: ws) room_1) (fun a U => a = #[(.int p0), (.int p1), (.int p2)] ∧ Z.Warmed39 U.vm ∧ U.heap = h0) (fun _ _ _ _ _ => True) (fun _ U o U' => ∃ v L, o = .returned v ∧ Q0 Z p0 p1 p2 h0 n0 v U'.heap L ∧ FrameEnd U o U' L room_1.cells room_1.slots) := by
  refine MetFree.of_bodySF (plainFor_of_name pn_com_example_wandel_wandel_replay_ObservationsChangeSharePinLaw) hisR ?_
  intro p e s m args below meth c s₁ Bd hml0 hP hK
  obtain ⟨rfl, hZ, hh⟩ := hP
  have hx := Bd.exec
  have hby := Bd.bytes
  have hml : c.maxLocals = 10 := hml0
  have hown : s.vm.findClass "com/example/wandel/wandel/replay/ObservationsChangeSharePinLaw" = some m.cls := findClass_of_methodNamed Bd.named
  have hnm := (name_of_methodNamed Bd.named Bd.method).1
  have X0 : Stand p l e room_1 s m #[(.int p0), (.int p1), (.int p2)] below meth c s₁ [] 0 0 := Stand.of_body Bd
  have e0 : s₁.heap = h0 := by rw [← hh, Bd.state]; rfl
  have N0 := Fr.nil n0
  have pre0 : ∀ t, Steps p.tables e below (s₁.setTop (mkF m 0 #[.val (.int p0), .val (.int p1), .val (.int p2), .unset, .unset, .unset, .unset, .unset, .unset, .unset] [])) t → Steps p.tables e below (s₁.setTop (entryFrame m #[(.int p0), (.int p1), (.int p2)] maxLocals)) t := fun t k => castTop (ef_0 p0 p1 p2 m) k
  have pre1 : ∀ t, Steps p.tables e below (s₁.setTop (mkF m 4 #[.val (.int p0), .val (.int p1), .val (.int p2), .val (.int (A0_3 p0 p1 p2)), .unset, .unset, .unset, .unset, .unset, .unset] [])) t → Steps p.tables e below (s₁.setTop (entryFrame m #[(.int p0), (.int p1), (.int p2)] maxLocals)) t := fun t kt => pre0 t (by
    show Steps p.tables e below (s₁.setTop (mkF m 0 #[.val (.int p0), .val (.int p1), .val (.int p2), .unset, .unset, .unset, .unset, .unset, .unset, .unset] [])) _
    refine XS.iloadN X0.here hx rfl (hb hby at_0) rfl ?_
    refine XS.iconst X0.here hx rfl (hb hby at_1) ?_
    refine XS.iand X0.here hx rfl (hb hby at_2) rfl ?_
    refine XS.istoreN X0.here hx rfl (hb hby at_3) rfl (l' := #[.val (.int p0), .val (.int p1), .val (.int p2), .val (.int (p0 &&& (3 : Int32))), .unset, .unset, .unset, .unset, .unset, .unset]) rfl ?_
    exact kt)
  by_cases hi0 : (A0_3 p0 p1 p2) = (0 : Int32)
  · have qr2 : (A0_3 p0 p1 p2) = (0 : Int32) := hi0
    have pre3 : ∀ t, Steps p.tables e below (s₁.setTop (mkF m 4 #[.val (.int p0), .val (.int p1), .val (.int p2), .val (.int (0 : Int32)), .unset, .unset, .unset, .unset, .unset, .unset] [])) t → Steps p.tables e below (s₁.setTop (entryFrame m #[(.int p0), (.int p1), (.int p2)] maxLocals)) t := fun t kt => pre1 t (by rw [qr2]; exact kt)
    obtain ⟨T4, h4, X4, e4, E4, A4, D4, U4, st4⟩ := newO X0 hx hZ hown (hw _ (List.mem_of_getElem? (i := 0) rfl)) (hw _ (List.mem_of_getElem? (i := 1) rfl)) (hw _ (List.mem_of_getElem? (i := 2) rfl)) e0 (g := (mkF m 4 #[.val (.int p0), .val (.int p1), .val (.int p2), .val (.int (0 : Int32)), .unset, .unset, .unset, .unset, .unset, .unset] [])) rfl (hb hby at_4) (by decide) (by decide)
    obtain ⟨b4, g4⟩ : ∃ z, z = h0.size := ⟨_, rfl⟩
    rw [← g4] at A4 D4 st4
    have g_b4 : n0 ≤ b4 := Nat.le_trans Z0 (Nat.le_of_eq g4.symm)
    have sz_b4 : h0.size ≤ b4 := Nat.le_trans (Keep.refl h0 []).1 (Nat.le_of_eq g4.symm)
    have K4 : Keep h0 h4 [] := (Keep.refl h0 []).ext E4
    have F_count_b4 : Fld Z h4 b4 "com/example/wandel/wandel/replay/Observations" "count" "[I" .null := D4 (Or.inr (hw _ (List.mem_of_getElem? (i := 11) rfl))) (ty := (.array .int)) (by decide)
    have F_changes_b4 : Fld Z h4 b4 "com/example/wandel/wandel/replay/Observations" "changes" "[I" .null := D4 (Or.inr (hw _ (List.mem_of_getElem? (i := 13) rfl))) (ty := (.array .int)) (by decide)
    have F_lastChanged_b4 : Fld Z h4 b4 "com/example/wandel/wandel/replay/Observations" "lastChanged" "[Z" .null := D4 (Or.inr (hw _ (List.mem_of_getElem? (i := 16) rfl))) (ty := (.array .boolean)) (by decide)
    have F_arithmetic_b4 : Fld Z h4 b4 "com/example/wandel/wandel/replay/Observations" "arithmetic" "[J" .null := D4 (Or.inr (hw _ (List.mem_of_getElem? (i := 19) rfl))) (ty := (.array .long)) (by decide)
    have F_geometric_b4 : Fld Z h4 b4 "com/example/wandel/wandel/replay/Observations" "geometric" "[D" .null := D4 (Or.inr (hw _ (List.mem_of_getElem? (i := 22) rfl))) (ty := (.array .double)) (by decide)
    obtain ⟨_, _, ⟨T5, L5, k5, n5⟩, -, X5, ⟨Lc5, hQ5, ll5, ly5, lz5⟩, st5⟩ := X4.specialBack hx (y := (⟨"com/example/wandel/wandel/replay/Observations", "<init>", "(I)V"⟩ : MethodName)) rfl hown (mvT hZ (hw _ (List.mem_of_getElem? (i := 3) rfl))) (mvT hZ (hw _ (List.mem_of_getElem? (i := 4) rfl))) (mvT hZ (hw _ (List.mem_of_getElem? (i := 5) rfl))) (by decide) (backOf (W := 1) (rm1n0 l Z a0 hw [] b4 h4 n0 (Nat.le_trans Z0 E4.1) A4 F_count_b4 F_changes_b4 F_lastChanged_b4 F_arithmetic_b4 F_geometric_b4 g_b4) hZ (hw _ (List.mem_of_getElem? (i := 5) rfl)) (hw _ (List.mem_of_getElem? (i := 2) rfl)) (by decide) (by decide)) (g := (mkF m 9 #[.val (.int p0), .val (.int p1), .val (.int p2), .val (.int (0 : Int32)), .unset, .unset, .unset, .unset, .unset, .unset] [(.int (0 : Int32)), (.ref b4), (.ref b4)])) rfl (by rw [hml]; rfl) (Steps.refl _) (a := b4) (argsL := [(.int (0 : Int32))]) (rest := [(.ref b4)]) (lenOf pd__I_V rfl) rfl (by show 2 * 0 + _ ≤ _; exact Nat.le_of_eq rfl) (hb hby at_9) (fun _ _ => ⟨rfl, e4, (by decide : 1 + 5 ≤ _), (by decide : 5 + 0 ≤ _)⟩)
    dsimp only [Pt.U, Pt.locs, Pt.cells, Pt.slots] at X5 ll5 ly5 lz5 st5 hQ5
    subst ll5 ly5 lz5
    obtain ⟨ca5, ch5, lc5, ar5, ge5, kca5, kch5, klc5, kar5, kge5, rfl, N5q, K5c, P5_0, P5_1, P5_2, P5_3, P5_4, P5_5, P5_6, P5_7, P5_8, P5_9, P5_10, P5_11, P5_12, P5_13, P5_14, P5_15, P5_16, P5_17, P5_18, P5_19, P5_20, P5_21, P5_22, P5_23, P5_24, P5_25, P5_26, P5_27, P5_28, P5_29, P5_30⟩ := hQ5
    have N5 := Fr.app N0 N5q
    have K5 : Keep h0 T5.heap [] := K4.trans K5c (allS (Or.inr sz_b4) all0)
    have g_ca5 : n0 ≤ ca5 := Nat.le_trans (Nat.le_trans Z0 E4.1) P5_26
    have sz_ca5 : h0.size ≤ ca5 := Nat.le_trans K4.1 P5_26
    have g_ch5 : n0 ≤ ch5 := Nat.le_trans (Nat.le_trans Z0 E4.1) P5_27
    have sz_ch5 : h0.size ≤ ch5 := Nat.le_trans K4.1 P5_27
    have g_lc5 : n0 ≤ lc5 := Nat.le_trans (Nat.le_trans Z0 E4.1) P5_28
    have sz_lc5 : h0.size ≤ lc5 := Nat.le_trans K4.1 P5_28
    have g_ar5 : n0 ≤ ar5 := Nat.le_trans (Nat.le_trans Z0 E4.1) P5_29
    have sz_ar5 : h0.size ≤ ar5 := Nat.le_trans K4.1 P5_29
    have g_ge5 : n0 ≤ ge5 := Nat.le_trans (Nat.le_trans Z0 E4.1) P5_30
    have sz_ge5 : h0.size ≤ ge5 := Nat.le_trans K4.1 P5_30
    obtain ⟨T6, h6, k6, X6, e6, E6, A6, st6⟩ := newP X5 hx hZ (hw _ (List.mem_of_getElem? (i := 17) rfl)) (rfl : T5.heap = T5.heap) (g := (mkF m 15 #[.val (.int p0), .val (.int p1), .val (.int p2), .val (.int (0 : Int32)), .val (.ref b4), .unset, .unset, .unset, .unset, .unset] [(.int (2 : Int32))])) rfl (hb hby at_15) rfl (by decide) (cap := 2) (by decide) (by decide) (by decide) (by decide)
    obtain ⟨b6, g6⟩ : ∃ z, z = T5.heap.size := ⟨_, rfl⟩
    rw [← g6] at A6 st6
    have ne7 : b4 ≠ b6 := Nat.ne_of_lt (Nat.lt_of_lt_of_le P5_0.lt (Nat.le_of_eq g6.symm))
    have ne8 : ca5 ≠ b6 := Nat.ne_of_lt (Nat.lt_of_lt_of_le P5_6.lt (Nat.le_of_eq g6.symm))
    have ne9 : ch5 ≠ b6 := Nat.ne_of_lt (Nat.lt_of_lt_of_le P5_7.lt (Nat.le_of_eq g6.symm))
    have ne10 : lc5 ≠ b6 := Nat.ne_of_lt (Nat.lt_of_lt_of_le P5_8.lt (Nat.le_of_eq g6.symm))
    have ne11 : ar5 ≠ b6 := Nat.ne_of_lt (Nat.lt_of_lt_of_le P5_9.lt (Nat.le_of_eq g6.symm))
    have ne12 : ge5 ≠ b6 := Nat.ne_of_lt (Nat.lt_of_lt_of_le P5_10.lt (Nat.le_of_eq g6.symm))
    have g_b6 : n0 ≤ b6 := Nat.le_trans (Nat.le_trans (Nat.le_trans Z0 E4.1) K5c.1) (Nat.le_of_eq g6.symm)
    have sz_b6 : h0.size ≤ b6 := Nat.le_trans K5.1 (Nat.le_of_eq g6.symm)
    have V_b6 : Arv Z h6 b6 k6 .long (2 : Int32) [(.long (0 : Int64)), (.long (0 : Int64))] (.long (0 : Int64)) := (Arv.new A6 (by decide)).pad (pad_rep [] (.long (0 : Int64)) 2)
    have K6 : Keep h0 h6 [] := K5.ext E6
    obtain ⟨_, _, ⟨T13, L13, k13, n13⟩, -, X13, ⟨Lc13, hQ13, ll13, ly13, lz13⟩, st13⟩ := Jvm.LawKit.callS X6 hx (y := (⟨"com/example/wandel/wandel/replay/ObservationsChangeSharePinLaw", "step", "(Lcom/example/wandel/wandel/replay/Observations;IIIII[J)V"⟩ : MethodName)) hown (mvT hZ (hw _ (List.mem_of_getElem? (i := 23) rfl))) (mvT hZ (hw _ (List.mem_of_getElem? (i := 24) rfl))) (mvT hZ (hw _ (List.mem_of_getElem? (i := 25) rfl))) (mvT hZ (hw _ (List.mem_of_getElem? (i := 26) rfl))) (by decide) (backOf (W := 0) (rm3n0 l Z a0 hw [] b4 p0 p1 p2 (0 : Int32) b6 h6 n0 (Nat.le_trans (Nat.le_trans (Nat.le_trans Z0 E4.1) K5c.1) E6.1) ) hZ (hw _ (List.mem_of_getElem? (i := 26) rfl)) (hw _ (List.mem_of_getElem? (i := 25) rfl)) (by decide) (by decide)) (g := (mkF m 28 #[.val (.int p0), .val (.int p1), .val (.int p2), .val (.int (0 : Int32)), .val (.ref b4), .val (.ref b6), .unset, .unset, .unset, .unset] [(.ref b6), (.int (0 : Int32)), (.int p2), (.int p1), (.int p0), (.int (0 : Int32)), (.ref b4)])) rfl (by rw [hml]; rfl) (argsL := [(.ref b4), (.int (0 : Int32)), (.int p0), (.int p1), (.int p2), (.int (0 : Int32)), (.ref b6)]) (rest := []) (lenOf pd__Lcom_example_wandel_wandel_replay_Observations_IIIII_J_V rfl) rfl (by show 2 * 0 + _ ≤ _; exact Nat.le_of_eq rfl) (hb hby at_28) (fun _ _ => ⟨rfl, e6, (by decide : 7 + 0 ≤ _), (by decide : 7 + 0 ≤ _)⟩)
    dsimp only [Pt.U, Pt.locs, Pt.cells, Pt.slots] at X13 ll13 ly13 lz13 st13 hQ13
    subst ll13 ly13 lz13
    obtain ⟨rfl, N13q, e13⟩ := hQ13
    have N13 := Fr.app N5 N13q
    obtain ⟨_, _, ⟨T14, L14, k14, n14⟩, -, X14, ⟨Lc14, hQ14, ll14, ly14, lz14⟩, st14⟩ := Jvm.LawKit.callS X13 hx (y := (⟨"com/example/wandel/wandel/replay/ObservationsChangeSharePinLaw", "step", "(Lcom/example/wandel/wandel/replay/Observations;IIIII[J)V"⟩ : MethodName)) hown (mvT hZ (hw _ (List.mem_of_getElem? (i := 23) rfl))) (mvT hZ (hw _ (List.mem_of_getElem? (i := 24) rfl))) (mvT hZ (hw _ (List.mem_of_getElem? (i := 25) rfl))) (mvT hZ (hw _ (List.mem_of_getElem? (i := 26) rfl))) (by decide) (backOf (W := 0) (rm3n0 l Z a0 hw [] b4 p0 p1 p2 (1 : Int32) b6 h6 n0 (Nat.le_trans (Nat.le_trans (Nat.le_trans Z0 E4.1) K5c.1) E6.1) ) hZ (hw _ (List.mem_of_getElem? (i := 26) rfl)) (hw _ (List.mem_of_getElem? (i := 25) rfl)) (by decide) (by decide)) (g := (mkF m 40 #[.val (.int p0), .val (.int p1), .val (.int p2), .val (.int (0 : Int32)), .val (.ref b4), .val (.ref b6), .unset, .unset, .unset, .unset] [(.ref b6), (.int (1 : Int32)), (.int p2), (.int p1), (.int p0), (.int (0 : Int32)), (.ref b4)])) rfl (by rw [hml]; rfl) (argsL := [(.ref b4), (.int (0 : Int32)), (.int p0), (.int p1), (.int p2), (.int (1 : Int32)), (.ref b6)]) (rest := []) (lenOf pd__Lcom_example_wandel_wandel_replay_Observations_IIIII_J_V rfl) rfl (by show 2 * 0 + _ ≤ _; exact Nat.le_of_eq rfl) (hb hby at_40) (fun _ _ => ⟨rfl, e13, (by decide : 7 + 0 ≤ _), (by decide : 7 + 0 ≤ _)⟩)
    dsimp only [Pt.U, Pt.locs, Pt.cells, Pt.slots] at X14 ll14 ly14 lz14 st14 hQ14
    subst ll14 ly14 lz14
    obtain ⟨rfl, N14q, e14⟩ := hQ14
    have N14 := Fr.app N13 N14q
    obtain ⟨_, _, ⟨T15, L15, k15, n15⟩, -, X15, ⟨Lc15, hQ15, ll15, ly15, lz15⟩, st15⟩ := Jvm.LawKit.callS X14 hx (y := (⟨"com/example/wandel/wandel/replay/ObservationsChangeSharePinLaw", "step", "(Lcom/example/wandel/wandel/replay/Observations;IIIII[J)V"⟩ : MethodName)) hown (mvT hZ (hw _ (List.mem_of_getElem? (i := 23) rfl))) (mvT hZ (hw _ (List.mem_of_getElem? (i := 24) rfl))) (mvT hZ (hw _ (List.mem_of_getElem? (i := 25) rfl))) (mvT hZ (hw _ (List.mem_of_getElem? (i := 26) rfl))) (by decide) (backOf (W := 0) (rm3n0 l Z a0 hw [] b4 p0 p1 p2 (2 : Int32) b6 h6 n0 (Nat.le_trans (Nat.le_trans (Nat.le_trans Z0 E4.1) K5c.1) E6.1) ) hZ (hw _ (List.mem_of_getElem? (i := 26) rfl)) (hw _ (List.mem_of_getElem? (i := 25) rfl)) (by decide) (by decide)) (g := (mkF m 52 #[.val (.int p0), .val (.int p1), .val (.int p2), .val (.int (0 : Int32)), .val (.ref b4), .val (.ref b6), .unset, .unset, .unset, .unset] [(.ref b6), (.int (2 : Int32)), (.int p2), (.int p1), (.int p0), (.int (0 : Int32)), (.ref b4)])) rfl (by rw [hml]; rfl) (argsL := [(.ref b4), (.int (0 : Int32)), (.int p0), (.int p1), (.int p2), (.int (2 : Int32)), (.ref b6)]) (rest := []) (lenOf pd__Lcom_example_wandel_wandel_replay_Observations_IIIII_J_V rfl) rfl (by show 2 * 0 + _ ≤ _; exact Nat.le_of_eq rfl) (hb hby at_52) (fun _ _ => ⟨rfl, e14, (by decide : 7 + 0 ≤ _), (by decide : 7 + 0 ≤ _)⟩)
    dsimp only [Pt.U, Pt.locs, Pt.cells, Pt.slots] at X15 ll15 ly15 lz15 st15 hQ15
    subst ll15 ly15 lz15
    obtain ⟨rfl, N15q, e15⟩ := hQ15
    have N15 := Fr.app N14 N15q
    obtain ⟨_, _, ⟨T16, L16, k16, n16⟩, -, X16, ⟨Lc16, hQ16, ll16, ly16, lz16⟩, st16⟩ := Jvm.LawKit.callS X15 hx (y := (⟨"com/example/wandel/wandel/replay/ObservationsChangeSharePinLaw", "step", "(Lcom/example/wandel/wandel/replay/Observations;IIIII[J)V"⟩ : MethodName)) hown (mvT hZ (hw _ (List.mem_of_getElem? (i := 23) rfl))) (mvT hZ (hw _ (List.mem_of_getElem? (i := 24) rfl))) (mvT hZ (hw _ (List.mem_of_getElem? (i := 25) rfl))) (mvT hZ (hw _ (List.mem_of_getElem? (i := 26) rfl))) (by decide) (backOf (W := 0) (rm3n0 l Z a0 hw [] b4 p0 p1 p2 (3 : Int32) b6 h6 n0 (Nat.le_trans (Nat.le_trans (Nat.le_trans Z0 E4.1) K5c.1) E6.1) ) hZ (hw _ (List.mem_of_getElem? (i := 26) rfl)) (hw _ (List.mem_of_getElem? (i := 25) rfl)) (by decide) (by decide)) (g := (mkF m 64 #[.val (.int p0), .val (.int p1), .val (.int p2), .val (.int (0 : Int32)), .val (.ref b4), .val (.ref b6), .unset, .unset, .unset, .unset] [(.ref b6), (.int (3 : Int32)), (.int p2), (.int p1), (.int p0), (.int (0 : Int32)), (.ref b4)])) rfl (by rw [hml]; rfl) (argsL := [(.ref b4), (.int (0 : Int32)), (.int p0), (.int p1), (.int p2), (.int (3 : Int32)), (.ref b6)]) (rest := []) (lenOf pd__Lcom_example_wandel_wandel_replay_Observations_IIIII_J_V rfl) rfl (by show 2 * 0 + _ ≤ _; exact Nat.le_of_eq rfl) (hb hby at_64) (fun _ _ => ⟨rfl, e15, (by decide : 7 + 0 ≤ _), (by decide : 7 + 0 ≤ _)⟩)
    dsimp only [Pt.U, Pt.locs, Pt.cells, Pt.slots] at X16 ll16 ly16 lz16 st16 hQ16
    subst ll16 ly16 lz16
    obtain ⟨rfl, N16q, e16⟩ := hQ16
    have N16 := Fr.app N15 N16q
    obtain ⟨_, _, ⟨T17, L17, k17, n17⟩, -, X17, ⟨Lc17, hQ17, ll17, ly17, lz17⟩, st17⟩ := Jvm.LawKit.callS X16 hx (y := (⟨"com/example/wandel/wandel/replay/ObservationsChangeSharePinLaw", "step", "(Lcom/example/wandel/wandel/replay/Observations;IIIII[J)V"⟩ : MethodName)) hown (mvT hZ (hw _ (List.mem_of_getElem? (i := 23) rfl))) (mvT hZ (hw _ (List.mem_of_getElem? (i := 24) rfl))) (mvT hZ (hw _ (List.mem_of_getElem? (i := 25) rfl))) (mvT hZ (hw _ (List.mem_of_getElem? (i := 26) rfl))) (by decide) (backOf (W := 0) (rm3n0 l Z a0 hw [] b4 p0 p1 p2 (4 : Int32) b6 h6 n0 (Nat.le_trans (Nat.le_trans (Nat.le_trans Z0 E4.1) K5c.1) E6.1) ) hZ (hw _ (List.mem_of_getElem? (i := 26) rfl)) (hw _ (List.mem_of_getElem? (i := 25) rfl)) (by decide) (by decide)) (g := (mkF m 76 #[.val (.int p0), .val (.int p1), .val (.int p2), .val (.int (0 : Int32)), .val (.ref b4), .val (.ref b6), .unset, .unset, .unset, .unset] [(.ref b6), (.int (4 : Int32)), (.int p2), (.int p1), (.int p0), (.int (0 : Int32)), (.ref b4)])) rfl (by rw [hml]; rfl) (argsL := [(.ref b4), (.int (0 : Int32)), (.int p0), (.int p1), (.int p2), (.int (4 : Int32)), (.ref b6)]) (rest := []) (lenOf pd__Lcom_example_wandel_wandel_replay_Observations_IIIII_J_V rfl) rfl (by show 2 * 0 + _ ≤ _; exact Nat.le_of_eq rfl) (hb hby at_76) (fun _ _ => ⟨rfl, e16, (by decide : 7 + 0 ≤ _), (by decide : 7 + 0 ≤ _)⟩)
    dsimp only [Pt.U, Pt.locs, Pt.cells, Pt.slots] at X17 ll17 ly17 lz17 st17 hQ17
    subst ll17 ly17 lz17
    obtain ⟨rfl, N17q, e17⟩ := hQ17
    have N17 := Fr.app N16 N17q
    obtain ⟨_, _, ⟨T18, L18, k18, n18⟩, -, X18, ⟨Lc18, hQ18, ll18, ly18, lz18⟩, st18⟩ := Jvm.LawKit.callS X17 hx (y := (⟨"com/example/wandel/wandel/replay/ObservationsChangeSharePinLaw", "step", "(Lcom/example/wandel/wandel/replay/Observations;IIIII[J)V"⟩ : MethodName)) hown (mvT hZ (hw _ (List.mem_of_getElem? (i := 23) rfl))) (mvT hZ (hw _ (List.mem_of_getElem? (i := 24) rfl))) (mvT hZ (hw _ (List.mem_of_getElem? (i := 25) rfl))) (mvT hZ (hw _ (List.mem_of_getElem? (i := 26) rfl))) (by decide) (backOf (W := 0) (rm3n0 l Z a0 hw [] b4 p0 p1 p2 (5 : Int32) b6 h6 n0 (Nat.le_trans (Nat.le_trans (Nat.le_trans Z0 E4.1) K5c.1) E6.1) ) hZ (hw _ (List.mem_of_getElem? (i := 26) rfl)) (hw _ (List.mem_of_getElem? (i := 25) rfl)) (by decide) (by decide)) (g := (mkF m 88 #[.val (.int p0), .val (.int p1), .val (.int p2), .val (.int (0 : Int32)), .val (.ref b4), .val (.ref b6), .unset, .unset, .unset, .unset] [(.ref b6), (.int (5 : Int32)), (.int p2), (.int p1), (.int p0), (.int (0 : Int32)), (.ref b4)])) rfl (by rw [hml]; rfl) (argsL := [(.ref b4), (.int (0 : Int32)), (.int p0), (.int p1), (.int p2), (.int (5 : Int32)), (.ref b6)]) (rest := []) (lenOf pd__Lcom_example_wandel_wandel_replay_Observations_IIIII_J_V rfl) rfl (by show 2 * 0 + _ ≤ _; exact Nat.le_of_eq rfl) (hb hby at_88) (fun _ _ => ⟨rfl, e17, (by decide : 7 + 0 ≤ _), (by decide : 7 + 0 ≤ _)⟩)
    dsimp only [Pt.U, Pt.locs, Pt.cells, Pt.slots] at X18 ll18 ly18 lz18 st18 hQ18
    subst ll18 ly18 lz18
    obtain ⟨rfl, N18q, e18⟩ := hQ18
    have N18 := Fr.app N17 N18q
    obtain ⟨cq19, kq19, q19a, q19b, q19c⟩ := isOf hZ e18 (Exa.ext E6 P5_0)
    obtain ⟨_, _, ⟨T19, L19, k19, n19⟩, -, X19, ⟨Lc19, hQ19, ll19, ly19, lz19⟩, st19⟩ := X18.virtualBack hx (y := (⟨"com/example/wandel/wandel/replay/Observations", "changeShare", "()D"⟩ : MethodName)) (z := (⟨"com/example/wandel/wandel/replay/Observations", "changeShare", "()D"⟩ : MethodName)) hown (mvT hZ (hw _ (List.mem_of_getElem? (i := 27) rfl))) (mvT hZ (hw _ (List.mem_of_getElem? (i := 28) rfl))) (notFace_of_selects (args := #[]) (mvT hZ (hw _ (List.mem_of_getElem? (i := 30) rfl)))) (mvT hZ (hw _ (List.mem_of_getElem? (i := 30) rfl))) (mvT hZ (hw _ (List.mem_of_getElem? (i := 29) rfl))) (by decide) (backOf (W := 0) (rm4n0 l Z a0 hw [] b4 ca5 ch5 kca5 kch5 h6 n0 (Nat.le_trans (Nat.le_trans (Nat.le_trans Z0 E4.1) K5c.1) E6.1) (Fld.ext E6 P5_1) (Fld.ext E6 P5_2) (P5_6.ext E6) (P5_7.ext E6)) hZ (hw _ (List.mem_of_getElem? (i := 31) rfl)) (hw _ (List.mem_of_getElem? (i := 2) rfl)) (by decide) (by decide)) q19a q19c (g := (mkF m 93 #[.val (.int p0), .val (.int p1), .val (.int p2), .val (.int (0 : Int32)), .val (.ref b4), .val (.ref b6), .unset, .unset, .unset, .unset] [(.ref b4)])) rfl (by rw [hml]; rfl) (Steps.refl _) (argsL := []) (rest := []) (lenOf pd___D rfl) rfl (by show 2 * 0 + _ ≤ _; exact Nat.le_of_eq rfl) (hb hby at_93) (fun _ _ => ⟨rfl, e18, (by decide : 7 + 0 ≤ _), (by decide : 7 + 0 ≤ _)⟩)
    dsimp only [Pt.U, Pt.locs, Pt.cells, Pt.slots] at X19 ll19 ly19 lz19 st19 hQ19
    subst ll19 ly19 lz19
    obtain ⟨rfl, N19q, e19⟩ := hQ19
    have N19 := Fr.app N18 N19q
    obtain ⟨cl20, Ar20, qa20, S20, Nl20, H20, G20⟩ := id V_b6
    have hin20 : ¬ ((0 : Int32) < 0 ∨ cl20.slots.size ≤ ((0 : Int32)).toNatClampNeg) := inb_of S20 ⟨by decide, by decide⟩
    have hat20 : cl20.slots[((0 : Int32)).toNatClampNeg]? = some (.long (0 : Int64)) := Has.at H20 hin20 rfl
    obtain ⟨fs, hr, hrun, hended, hW, hsame⟩ := X19.leave (v := some (.int (1 : Int32))) (fun h => by rw [Bd.returns] at h; cases h)
    refine ⟨_, _, pre3 _ ?_, hrun, hended, _, _, rfl, ?_, ⟨_, rfl⟩, hW, hsame.mono (by decide) (by decide)⟩
    · show Steps p.tables e below (s₁.setTop (mkF m 4 #[.val (.int p0), .val (.int p1), .val (.int p2), .val (.int (0 : Int32)), .unset, .unset, .unset, .unset, .unset, .unset] [])) _
      refine st4 _ ?_
      refine XS.dup X4.here hx rfl (hb hby at_7) rfl rfl ?_
      refine XS.iloadN X4.here hx rfl (hb hby at_8) rfl ?_
      refine st5.trans ?_
      refine XS.astore X5.here hx rfl (hb hby at_12) rfl rfl (l' := #[.val (.int p0), .val (.int p1), .val (.int p2), .val (.int (0 : Int32)), .val (.ref b4), .unset, .unset, .unset, .unset, .unset]) rfl ?_
      refine XS.iconst X5.here hx rfl (hb hby at_14) ?_
      refine st6 _ ?_
      refine XS.astore X6.here hx rfl (hb hby at_17) rfl rfl (l' := #[.val (.int p0), .val (.int p1), .val (.int p2), .val (.int (0 : Int32)), .val (.ref b4), .val (.ref b6), .unset, .unset, .unset, .unset]) rfl ?_
      show Steps p.tables e below (T6.setTop (mkF m 19 #[.val (.int p0), .val (.int p1), .val (.int p2), .val (.int (0 : Int32)), .val (.ref b4), .val (.ref b6), .unset, .unset, .unset, .unset] [])) _
      refine XS.aload X6.here hx rfl (hb hby at_19) rfl rfl ?_
      refine XS.iloadN X6.here hx rfl (hb hby at_21) rfl ?_
      refine XS.iloadN X6.here hx rfl (hb hby at_22) rfl ?_
      refine XS.iloadN X6.here hx rfl (hb hby at_23) rfl ?_
      refine XS.iloadN X6.here hx rfl (hb hby at_24) rfl ?_
      refine XS.iconst X6.here hx rfl (hb hby at_25) ?_
      refine XS.aload X6.here hx rfl (hb hby at_26) rfl rfl ?_
      refine st13 _ ?_
      show Steps p.tables e below (T13.setTop (mkF m 31 #[.val (.int p0), .val (.int p1), .val (.int p2), .val (.int (0 : Int32)), .val (.ref b4), .val (.ref b6), .unset, .unset, .unset, .unset] [])) _
      refine XS.aload X13.here hx rfl (hb hby at_31) rfl rfl ?_
      refine XS.iloadN X13.here hx rfl (hb hby at_33) rfl ?_
      refine XS.iloadN X13.here hx rfl (hb hby at_34) rfl ?_
      refine XS.iloadN X13.here hx rfl (hb hby at_35) rfl ?_
      refine XS.iloadN X13.here hx rfl (hb hby at_36) rfl ?_
      refine XS.iconst X13.here hx rfl (hb hby at_37) ?_
      refine XS.aload X13.here hx rfl (hb hby at_38) rfl rfl ?_
      refine st14 _ ?_
      show Steps p.tables e below (T14.setTop (mkF m 43 #[.val (.int p0), .val (.int p1), .val (.int p2), .val (.int (0 : Int32)), .val (.ref b4), .val (.ref b6), .unset, .unset, .unset, .unset] [])) _
      refine XS.aload X14.here hx rfl (hb hby at_43) rfl rfl ?_
      refine XS.iloadN X14.here hx rfl (hb hby at_45) rfl ?_
      refine XS.iloadN X14.here hx rfl (hb hby at_46) rfl ?_
      refine XS.iloadN X14.here hx rfl (hb hby at_47) rfl ?_
      refine XS.iloadN X14.here hx rfl (hb hby at_48) rfl ?_
      refine XS.iconst X14.here hx rfl (hb hby at_49) ?_
      refine XS.aload X14.here hx rfl (hb hby at_50) rfl rfl ?_
      refine st15 _ ?_
      show Steps p.tables e below (T15.setTop (mkF m 55 #[.val (.int p0), .val (.int p1), .val (.int p2), .val (.int (0 : Int32)), .val (.ref b4), .val (.ref b6), .unset, .unset, .unset, .unset] [])) _
      refine XS.aload X15.here hx rfl (hb hby at_55) rfl rfl ?_
      refine XS.iloadN X15.here hx rfl (hb hby at_57) rfl ?_
      refine XS.iloadN X15.here hx rfl (hb hby at_58) rfl ?_
      refine XS.iloadN X15.here hx rfl (hb hby at_59) rfl ?_
      refine XS.iloadN X15.here hx rfl (hb hby at_60) rfl ?_
      refine XS.iconst X15.here hx rfl (hb hby at_61) ?_
      refine XS.aload X15.here hx rfl (hb hby at_62) rfl rfl ?_
      refine st16 _ ?_
      show Steps p.tables e below (T16.setTop (mkF m 67 #[.val (.int p0), .val (.int p1), .val (.int p2), .val (.int (0 : Int32)), .val (.ref b4), .val (.ref b6), .unset, .unset, .unset, .unset] [])) _
      refine XS.aload X16.here hx rfl (hb hby at_67) rfl rfl ?_
      refine XS.iloadN X16.here hx rfl (hb hby at_69) rfl ?_
      refine XS.iloadN X16.here hx rfl (hb hby at_70) rfl ?_
      refine XS.iloadN X16.here hx rfl (hb hby at_71) rfl ?_
      refine XS.iloadN X16.here hx rfl (hb hby at_72) rfl ?_
      refine XS.iconst X16.here hx rfl (hb hby at_73) ?_
      refine XS.aload X16.here hx rfl (hb hby at_74) rfl rfl ?_
      refine st17 _ ?_
      show Steps p.tables e below (T17.setTop (mkF m 79 #[.val (.int p0), .val (.int p1), .val (.int p2), .val (.int (0 : Int32)), .val (.ref b4), .val (.ref b6), .unset, .unset, .unset, .unset] [])) _
      refine XS.aload X17.here hx rfl (hb hby at_79) rfl rfl ?_
      refine XS.iloadN X17.here hx rfl (hb hby at_81) rfl ?_
      refine XS.iloadN X17.here hx rfl (hb hby at_82) rfl ?_
      refine XS.iloadN X17.here hx rfl (hb hby at_83) rfl ?_
      refine XS.iloadN X17.here hx rfl (hb hby at_84) rfl ?_
      refine XS.iconst X17.here hx rfl (hb hby at_85) ?_
      refine XS.aload X17.here hx rfl (hb hby at_86) rfl rfl ?_
      refine st18 _ ?_
      show Steps p.tables e below (T18.setTop (mkF m 91 #[.val (.int p0), .val (.int p1), .val (.int p2), .val (.int (0 : Int32)), .val (.ref b4), .val (.ref b6), .unset, .unset, .unset, .unset] [])) _
      refine XS.aload X18.here hx rfl (hb hby at_91) rfl rfl ?_
      refine st19.trans ?_
      refine own_dstore X19.here hx rfl (hb hby at_96) rfl (l' := #[.val (.int p0), .val (.int p1), .val (.int p2), .val (.int (0 : Int32)), .val (.ref b4), .val (.ref b6), .val (.double FP.dconst0), .second, .unset, .unset]) rfl ?_
      refine XS.aload X19.here hx rfl (hb hby at_98) rfl rfl ?_
      refine XS.iconst X19.here hx rfl (hb hby at_100) ?_
      refine X19.laload hx (j := (0 : Int32)) (v := (.long (0 : Int64))) (by rw [e19]; exact Ar20.1) (State.isArrayOf_alike hZ.alike Ar20.2.1) Ar20.2.2 hin20 hat20 (g := (mkF m 101 #[.val (.int p0), .val (.int p1), .val (.int p2), .val (.int (0 : Int32)), .val (.ref b4), .val (.ref b6), .val (.double FP.dconst0), .second, .unset, .unset] [(.int (0 : Int32)), (.ref b6)])) rfl rfl (hb hby at_101) _ ?_
      refine XS.lconst X19.here hx rfl (hb hby at_102) ?_
      refine XS.lcmp X19.here hx rfl (hb hby at_103) rfl ?_
      show Steps p.tables e below (T19.setTop (mkF m 104 #[.val (.int p0), .val (.int p1), .val (.int p2), .val (.int (0 : Int32)), .val (.ref b4), .val (.ref b6), .val (.double FP.dconst0), .second, .unset, .unset] [(.int (lcmpW (0 : Int64) (0 : Int64)))])) _
      refine XS.ifNo X19.here hx rfl (hb hby at_104) rfl ((if0 _ _).trans (teq ((lw_eq (0 : Int64) (0 : Int64)).mpr rfl)).2) ?_
      refine own_dconst0 X19.here hx rfl (hb hby at_107) ?_
      refine XS.goto X19.here hx rfl (pc0 := 108) (pc' := 122) rfl (hb hby at_108) (by decide) (by decide) ?_
      refine own_dstore X19.here hx rfl (hb hby at_122) rfl (l' := #[.val (.int p0), .val (.int p1), .val (.int p2), .val (.int (0 : Int32)), .val (.ref b4), .val (.ref b6), .val (.double FP.dconst0), .second, .val (.double FP.dconst0), .second]) rfl ?_
      refine own_dload X19.here hx rfl (hb hby at_124) rfl ?_
      refine own_dload X19.here hx rfl (hb hby at_126) rfl ?_
      refine own_dcmpl X19.here hx rfl (hb hby at_128) rfl ?_
      refine XS.ifNo X19.here hx rfl (hb hby at_129) rfl ((if0 _ _).trans (teq (own_dcmp0 own_n00)).2) ?_
      show Steps p.tables e below (T19.setTop (mkF m 132 #[.val (.int p0), .val (.int p1), .val (.int p2), .val (.int (0 : Int32)), .val (.ref b4), .val (.ref b6), .val (.double FP.dconst0), .second, .val (.double FP.dconst0), .second] [])) _
      refine XS.iconst X19.here hx rfl (hb hby at_132) ?_
      refine XS.goto X19.here hx rfl (pc0 := 133) (pc' := 137) rfl (hb hby at_133) (by decide) (by decide) ?_
      show Steps p.tables e below (T19.setTop (mkF m 137 #[.val (.int p0), .val (.int p1), .val (.int p2), .val (.int (0 : Int32)), .val (.ref b4), .val (.ref b6), .val (.double FP.dconst0), .second, .val (.double FP.dconst0), .second] [(.int (1 : Int32))])) _
      exact retN X19 hx (t := .boolean) Bd.returns (by simp) (hb hby at_137) hr
    · show Q0 Z p0 p1 p2 h0 n0 _ T19.heap _
      rw [e19]
      exact ⟨rfl, N19⟩
  · by_cases hi1 : (A0_3 p0 p1 p2) = (1 : Int32)
    · have qr21 : (A0_3 p0 p1 p2) = (1 : Int32) := hi1
      have pre22 : ∀ t, Steps p.tables e below (s₁.setTop (mkF m 4 #[.val (.int p0), .val (.int p1), .val (.int p2), .val (.int (1 : Int32)), .unset, .unset, .unset, .unset, .unset, .unset] [])) t → Steps p.tables e below (s₁.setTop (entryFrame m #[(.int p0), (.int p1), (.int p2)] maxLocals)) t := fun t kt => pre1 t (by rw [qr21]; exact kt)
      obtain ⟨T23, h23, X23, e23, E23, A23, D23, U23, st23⟩ := newO X0 hx hZ hown (hw _ (List.mem_of_getElem? (i := 0) rfl)) (hw _ (List.mem_of_getElem? (i := 1) rfl)) (hw _ (List.mem_of_getElem? (i := 2) rfl)) e0 (g := (mkF m 4 #[.val (.int p0), .val (.int p1), .val (.int p2), .val (.int (1 : Int32)), .unset, .unset, .unset, .unset, .unset, .unset] [])) rfl (hb hby at_4) (by decide) (by decide)
      obtain ⟨b23, g23⟩ : ∃ z, z = h0.size := ⟨_, rfl⟩
      rw [← g23] at A23 D23 st23
      have g_b23 : n0 ≤ b23 := Nat.le_trans Z0 (Nat.le_of_eq g23.symm)
      have sz_b23 : h0.size ≤ b23 := Nat.le_trans (Keep.refl h0 []).1 (Nat.le_of_eq g23.symm)
      have K23 : Keep h0 h23 [] := (Keep.refl h0 []).ext E23
      have F_count_b23 : Fld Z h23 b23 "com/example/wandel/wandel/replay/Observations" "count" "[I" .null := D23 (Or.inr (hw _ (List.mem_of_getElem? (i := 11) rfl))) (ty := (.array .int)) (by decide)
      have F_changes_b23 : Fld Z h23 b23 "com/example/wandel/wandel/replay/Observations" "changes" "[I" .null := D23 (Or.inr (hw _ (List.mem_of_getElem? (i := 13) rfl))) (ty := (.array .int)) (by decide)
      have F_lastChanged_b23 : Fld Z h23 b23 "com/example/wandel/wandel/replay/Observations" "lastChanged" "[Z" .null := D23 (Or.inr (hw _ (List.mem_of_getElem? (i := 16) rfl))) (ty := (.array .boolean)) (by decide)
      have F_arithmetic_b23 : Fld Z h23 b23 "com/example/wandel/wandel/replay/Observations" "arithmetic" "[J" .null := D23 (Or.inr (hw _ (List.mem_of_getElem? (i := 19) rfl))) (ty := (.array .long)) (by decide)
      have F_geometric_b23 : Fld Z h23 b23 "com/example/wandel/wandel/replay/Observations" "geometric" "[D" .null := D23 (Or.inr (hw _ (List.mem_of_getElem? (i := 22) rfl))) (ty := (.array .double)) (by decide)
      obtain ⟨_, _, ⟨T24, L24, k24, n24⟩, -, X24, ⟨Lc24, hQ24, ll24, ly24, lz24⟩, st24⟩ := X23.specialBack hx (y := (⟨"com/example/wandel/wandel/replay/Observations", "<init>", "(I)V"⟩ : MethodName)) rfl hown (mvT hZ (hw _ (List.mem_of_getElem? (i := 3) rfl))) (mvT hZ (hw _ (List.mem_of_getElem? (i := 4) rfl))) (mvT hZ (hw _ (List.mem_of_getElem? (i := 5) rfl))) (by decide) (backOf (W := 1) (rm1n1 l Z a0 hw [] b23 h23 n0 (Nat.le_trans Z0 E23.1) A23 F_count_b23 F_changes_b23 F_lastChanged_b23 F_arithmetic_b23 F_geometric_b23 g_b23) hZ (hw _ (List.mem_of_getElem? (i := 5) rfl)) (hw _ (List.mem_of_getElem? (i := 2) rfl)) (by decide) (by decide)) (g := (mkF m 9 #[.val (.int p0), .val (.int p1), .val (.int p2), .val (.int (1 : Int32)), .unset, .unset, .unset, .unset, .unset, .unset] [(.int (1 : Int32)), (.ref b23), (.ref b23)])) rfl (by rw [hml]; rfl) (Steps.refl _) (a := b23) (argsL := [(.int (1 : Int32))]) (rest := [(.ref b23)]) (lenOf pd__I_V rfl) rfl (by show 2 * 0 + _ ≤ _; exact Nat.le_of_eq rfl) (hb hby at_9) (fun _ _ => ⟨rfl, e23, (by decide : 1 + 5 ≤ _), (by decide : 5 + 5 ≤ _)⟩)
      dsimp only [Pt.U, Pt.locs, Pt.cells, Pt.slots] at X24 ll24 ly24 lz24 st24 hQ24
      subst ll24 ly24 lz24
      obtain ⟨ca24, ch24, lc24, ar24, ge24, kca24, kch24, klc24, kar24, kge24, rfl, N24q, K24c, P24_0, P24_1, P24_2, P24_3, P24_4, P24_5, P24_6, P24_7, P24_8, P24_9, P24_10, P24_11, P24_12, P24_13, P24_14, P24_15, P24_16, P24_17, P24_18, P24_19, P24_20, P24_21, P24_22, P24_23, P24_24, P24_25, P24_26, P24_27, P24_28, P24_29, P24_30⟩ := hQ24
      have N24 := Fr.app N0 N24q
      have K24 : Keep h0 T24.heap [] := K23.trans K24c (allS (Or.inr sz_b23) all0)
      have g_ca24 : n0 ≤ ca24 := Nat.le_trans (Nat.le_trans Z0 E23.1) P24_26
      have sz_ca24 : h0.size ≤ ca24 := Nat.le_trans K23.1 P24_26
      have g_ch24 : n0 ≤ ch24 := Nat.le_trans (Nat.le_trans Z0 E23.1) P24_27
      have sz_ch24 : h0.size ≤ ch24 := Nat.le_trans K23.1 P24_27
      have g_lc24 : n0 ≤ lc24 := Nat.le_trans (Nat.le_trans Z0 E23.1) P24_28
      have sz_lc24 : h0.size ≤ lc24 := Nat.le_trans K23.1 P24_28
      have g_ar24 : n0 ≤ ar24 := Nat.le_trans (Nat.le_trans Z0 E23.1) P24_29
      have sz_ar24 : h0.size ≤ ar24 := Nat.le_trans K23.1 P24_29
      have g_ge24 : n0 ≤ ge24 := Nat.le_trans (Nat.le_trans Z0 E23.1) P24_30
      have sz_ge24 : h0.size ≤ ge24 := Nat.le_trans K23.1 P24_30
      obtain ⟨T25, h25, k25, X25, e25, E25, A25, st25⟩ := newP X24 hx hZ (hw _ (List.mem_of_getElem? (i := 17) rfl)) (rfl : T24.heap = T24.heap) (g := (mkF m 15 #[.val (.int p0), .val (.int p1), .val (.int p2), .val (.int (1 : Int32)), .val (.ref b23), .unset, .unset, .unset, .unset, .unset] [(.int (2 : Int32))])) rfl (hb hby at_15) rfl (by decide) (cap := 2) (by decide) (by decide) (by decide) (by decide)
      obtain ⟨b25, g25⟩ : ∃ z, z = T24.heap.size := ⟨_, rfl⟩
      rw [← g25] at A25 st25
      have ne26 : b23 ≠ b25 := Nat.ne_of_lt (Nat.lt_of_lt_of_le P24_0.lt (Nat.le_of_eq g25.symm))
      have ne27 : ca24 ≠ b25 := Nat.ne_of_lt (Nat.lt_of_lt_of_le P24_6.lt (Nat.le_of_eq g25.symm))
      have ne28 : ch24 ≠ b25 := Nat.ne_of_lt (Nat.lt_of_lt_of_le P24_7.lt (Nat.le_of_eq g25.symm))
      have ne29 : lc24 ≠ b25 := Nat.ne_of_lt (Nat.lt_of_lt_of_le P24_8.lt (Nat.le_of_eq g25.symm))
      have ne30 : ar24 ≠ b25 := Nat.ne_of_lt (Nat.lt_of_lt_of_le P24_9.lt (Nat.le_of_eq g25.symm))
      have ne31 : ge24 ≠ b25 := Nat.ne_of_lt (Nat.lt_of_lt_of_le P24_10.lt (Nat.le_of_eq g25.symm))
      have g_b25 : n0 ≤ b25 := Nat.le_trans (Nat.le_trans (Nat.le_trans Z0 E23.1) K24c.1) (Nat.le_of_eq g25.symm)
      have sz_b25 : h0.size ≤ b25 := Nat.le_trans K24.1 (Nat.le_of_eq g25.symm)
      have V_b25 : Arv Z h25 b25 k25 .long (2 : Int32) [(.long (0 : Int64)), (.long (0 : Int64))] (.long (0 : Int64)) := (Arv.new A25 (by decide)).pad (pad_rep [] (.long (0 : Int64)) 2)
      have K25 : Keep h0 h25 [] := K24.ext E25
      obtain ⟨_, _, ⟨T32, L32, k32, n32⟩, -, X32, ⟨Lc32, hQ32, ll32, ly32, lz32⟩, st32⟩ := Jvm.LawKit.callS X25 hx (y := (⟨"com/example/wandel/wandel/replay/ObservationsChangeSharePinLaw", "step", "(Lcom/example/wandel/wandel/replay/Observations;IIIII[J)V"⟩ : MethodName)) hown (mvT hZ (hw _ (List.mem_of_getElem? (i := 23) rfl))) (mvT hZ (hw _ (List.mem_of_getElem? (i := 24) rfl))) (mvT hZ (hw _ (List.mem_of_getElem? (i := 25) rfl))) (mvT hZ (hw _ (List.mem_of_getElem? (i := 26) rfl))) (by decide) (backOf (W := 0) (rm3n1 l Z a0 hw [] b23 p0 p1 p2 (0 : Int32) b25 ca24 ch24 lc24 ar24 ge24 kca24 kch24 klc24 kar24 kge24 k25 (0 : Int32) (0 : Int32) (0 : Int32) (0 : Int64) (0 : UInt64) (0 : Int64) (0 : Int64) (0 : Int) h25 n0 (Nat.le_trans (Nat.le_trans (Nat.le_trans Z0 E23.1) K24c.1) E25.1) (Exa.ext E25 P24_0) (Fld.ext E25 P24_1) (Fld.ext E25 P24_2) (Fld.ext E25 P24_3) (Fld.ext E25 P24_4) (Fld.ext E25 P24_5) (P24_6.ext E25) (P24_7.ext E25) (P24_8.ext E25) (P24_9.ext E25) (P24_10.ext E25) V_b25 P24_11 P24_12 P24_13 P24_14 P24_15 P24_16 P24_17 P24_18 P24_19 P24_20 P24_21 P24_22 P24_23 P24_24 P24_25 ne26 ne27 ne28 ne29 ne30 ne31 g_ca24 g_ch24 g_lc24 g_ar24 g_ge24 g_b25 own_init1 (by decide)) hZ (hw _ (List.mem_of_getElem? (i := 26) rfl)) (hw _ (List.mem_of_getElem? (i := 25) rfl)) (by decide) (by decide)) (g := (mkF m 28 #[.val (.int p0), .val (.int p1), .val (.int p2), .val (.int (1 : Int32)), .val (.ref b23), .val (.ref b25), .unset, .unset, .unset, .unset] [(.ref b25), (.int (0 : Int32)), (.int p2), (.int p1), (.int p0), (.int (1 : Int32)), (.ref b23)])) rfl (by rw [hml]; rfl) (argsL := [(.ref b23), (.int (1 : Int32)), (.int p0), (.int p1), (.int p2), (.int (0 : Int32)), (.ref b25)]) (rest := []) (lenOf pd__Lcom_example_wandel_wandel_replay_Observations_IIIII_J_V rfl) rfl (by show 2 * 0 + _ ≤ _; exact Nat.le_of_eq rfl) (hb hby at_28) (fun _ _ => ⟨rfl, e25, (by decide : 7 + 0 ≤ _), (by decide : 12 + 0 ≤ _)⟩)
      dsimp only [Pt.U, Pt.locs, Pt.cells, Pt.slots] at X32 ll32 ly32 lz32 st32 hQ32
      subst ll32 ly32 lz32
      obtain ⟨v0'32, c0'32, l0'32, m0'32, g0'32, t0'32, t1'32, rfl, N32q, K32c, P32_0, P32_1, P32_2, P32_3, P32_4, P32_5, P32_6⟩ := hQ32
      have N32 := Fr.app N24 N32q
      have K32 : Keep h0 T32.heap [] := K25.trans K32c (allS (Or.inr sz_ca24) (allS (Or.inr sz_ch24) (allS (Or.inr sz_lc24) (allS (Or.inr sz_ar24) (allS (Or.inr sz_ge24) (allS (Or.inr sz_b25) all0))))))
      obtain ⟨_, _, ⟨T33, L33, k33, n33⟩, -, X33, ⟨Lc33, hQ33, ll33, ly33, lz33⟩, st33⟩ := Jvm.LawKit.callS X32 hx (y := (⟨"com/example/wandel/wandel/replay/ObservationsChangeSharePinLaw", "step", "(Lcom/example/wandel/wandel/replay/Observations;IIIII[J)V"⟩ : MethodName)) hown (mvT hZ (hw _ (List.mem_of_getElem? (i := 23) rfl))) (mvT hZ (hw _ (List.mem_of_getElem? (i := 24) rfl))) (mvT hZ (hw _ (List.mem_of_getElem? (i := 25) rfl))) (mvT hZ (hw _ (List.mem_of_getElem? (i := 26) rfl))) (by decide) (backOf (W := 0) (rm3n1 l Z a0 hw [] b23 p0 p1 p2 (1 : Int32) b25 ca24 ch24 lc24 ar24 ge24 kca24 kch24 klc24 kar24 kge24 k25 v0'32 c0'32 l0'32 m0'32 g0'32 t0'32 t1'32 ((0 : Int) + 1) T32.heap n0 (Nat.le_trans (Nat.le_trans (Nat.le_trans (Nat.le_trans Z0 E23.1) K24c.1) E25.1) K32c.1) (Exa.keep (Exa.ext E25 P24_0) K32c) ((Fld.ext E25 P24_1).keep K32c (ninS P24_11 (ninS P24_12 (ninS P24_13 (ninS P24_14 (ninS P24_15 (ninS ne26 nin0))))))) ((Fld.ext E25 P24_2).keep K32c (ninS P24_11 (ninS P24_12 (ninS P24_13 (ninS P24_14 (ninS P24_15 (ninS ne26 nin0))))))) ((Fld.ext E25 P24_3).keep K32c (ninS P24_11 (ninS P24_12 (ninS P24_13 (ninS P24_14 (ninS P24_15 (ninS ne26 nin0))))))) ((Fld.ext E25 P24_4).keep K32c (ninS P24_11 (ninS P24_12 (ninS P24_13 (ninS P24_14 (ninS P24_15 (ninS ne26 nin0))))))) ((Fld.ext E25 P24_5).keep K32c (ninS P24_11 (ninS P24_12 (ninS P24_13 (ninS P24_14 (ninS P24_15 (ninS ne26 nin0))))))) P32_0 P32_1 P32_2 P32_3 P32_4 P32_5 P24_11 P24_12 P24_13 P24_14 P24_15 P24_16 P24_17 P24_18 P24_19 P24_20 P24_21 P24_22 P24_23 P24_24 P24_25 ne26 ne27 ne28 ne29 ne30 ne31 g_ca24 g_ch24 g_lc24 g_ar24 g_ge24 g_b25 P32_6 (by decide)) hZ (hw _ (List.mem_of_getElem? (i := 26) rfl)) (hw _ (List.mem_of_getElem? (i := 25) rfl)) (by decide) (by decide)) (g := (mkF m 40 #[.val (.int p0), .val (.int p1), .val (.int p2), .val (.int (1 : Int32)), .val (.ref b23), .val (.ref b25), .unset, .unset, .unset, .unset] [(.ref b25), (.int (1 : Int32)), (.int p2), (.int p1), (.int p0), (.int (1 : Int32)), (.ref b23)])) rfl (by rw [hml]; rfl) (argsL := [(.ref b23), (.int (1 : Int32)), (.int p0), (.int p1), (.int p2), (.int (1 : Int32)), (.ref b25)]) (rest := []) (lenOf pd__Lcom_example_wandel_wandel_replay_Observations_IIIII_J_V rfl) rfl (by show 2 * 0 + _ ≤ _; exact Nat.le_of_eq rfl) (hb hby at_40) (fun _ _ => ⟨rfl, (rfl : T32.heap = T32.heap), (by decide : 7 + 0 ≤ _), (by decide : 12 + 0 ≤ _)⟩)
      dsimp only [Pt.U, Pt.locs, Pt.cells, Pt.slots] at X33 ll33 ly33 lz33 st33 hQ33
      subst ll33 ly33 lz33
      obtain ⟨v0'33, c0'33, l0'33, m0'33, g0'33, t0'33, t1'33, rfl, N33q, K33c, P33_0, P33_1, P33_2, P33_3, P33_4, P33_5, P33_6⟩ := hQ33
      have N33 := Fr.app N32 N33q
      have K33 : Keep h0 T33.heap [] := K32.trans K33c (allS (Or.inr sz_ca24) (allS (Or.inr sz_ch24) (allS (Or.inr sz_lc24) (allS (Or.inr sz_ar24) (allS (Or.inr sz_ge24) (allS (Or.inr sz_b25) all0))))))
      obtain ⟨_, _, ⟨T34, L34, k34, n34⟩, -, X34, ⟨Lc34, hQ34, ll34, ly34, lz34⟩, st34⟩ := Jvm.LawKit.callS X33 hx (y := (⟨"com/example/wandel/wandel/replay/ObservationsChangeSharePinLaw", "step", "(Lcom/example/wandel/wandel/replay/Observations;IIIII[J)V"⟩ : MethodName)) hown (mvT hZ (hw _ (List.mem_of_getElem? (i := 23) rfl))) (mvT hZ (hw _ (List.mem_of_getElem? (i := 24) rfl))) (mvT hZ (hw _ (List.mem_of_getElem? (i := 25) rfl))) (mvT hZ (hw _ (List.mem_of_getElem? (i := 26) rfl))) (by decide) (backOf (W := 0) (rm3n1 l Z a0 hw [] b23 p0 p1 p2 (2 : Int32) b25 ca24 ch24 lc24 ar24 ge24 kca24 kch24 klc24 kar24 kge24 k25 v0'33 c0'33 l0'33 m0'33 g0'33 t0'33 t1'33 (((0 : Int) + 1) + 1) T33.heap n0 (Nat.le_trans (Nat.le_trans (Nat.le_trans (Nat.le_trans (Nat.le_trans Z0 E23.1) K24c.1) E25.1) K32c.1) K33c.1) (Exa.keep (Exa.keep (Exa.ext E25 P24_0) K32c) K33c) (((Fld.ext E25 P24_1).keep K32c (ninS P24_11 (ninS P24_12 (ninS P24_13 (ninS P24_14 (ninS P24_15 (ninS ne26 nin0))))))).keep K33c (ninS P24_11 (ninS P24_12 (ninS P24_13 (ninS P24_14 (ninS P24_15 (ninS ne26 nin0))))))) (((Fld.ext E25 P24_2).keep K32c (ninS P24_11 (ninS P24_12 (ninS P24_13 (ninS P24_14 (ninS P24_15 (ninS ne26 nin0))))))).keep K33c (ninS P24_11 (ninS P24_12 (ninS P24_13 (ninS P24_14 (ninS P24_15 (ninS ne26 nin0))))))) (((Fld.ext E25 P24_3).keep K32c (ninS P24_11 (ninS P24_12 (ninS P24_13 (ninS P24_14 (ninS P24_15 (ninS ne26 nin0))))))).keep K33c (ninS P24_11 (ninS P24_12 (ninS P24_13 (ninS P24_14 (ninS P24_15 (ninS ne26 nin0))))))) (((Fld.ext E25 P24_4).keep K32c (ninS P24_11 (ninS P24_12 (ninS P24_13 (ninS P24_14 (ninS P24_15 (ninS ne26 nin0))))))).keep K33c (ninS P24_11 (ninS P24_12 (ninS P24_13 (ninS P24_14 (ninS P24_15 (ninS ne26 nin0))))))) (((Fld.ext E25 P24_5).keep K32c (ninS P24_11 (ninS P24_12 (ninS P24_13 (ninS P24_14 (ninS P24_15 (ninS ne26 nin0))))))).keep K33c (ninS P24_11 (ninS P24_12 (ninS P24_13 (ninS P24_14 (ninS P24_15 (ninS ne26 nin0))))))) P33_0 P33_1 P33_2 P33_3 P33_4 P33_5 P24_11 P24_12 P24_13 P24_14 P24_15 P24_16 P24_17 P24_18 P24_19 P24_20 P24_21 P24_22 P24_23 P24_24 P24_25 ne26 ne27 ne28 ne29 ne30 ne31 g_ca24 g_ch24 g_lc24 g_ar24 g_ge24 g_b25 P33_6 (by decide)) hZ (hw _ (List.mem_of_getElem? (i := 26) rfl)) (hw _ (List.mem_of_getElem? (i := 25) rfl)) (by decide) (by decide)) (g := (mkF m 52 #[.val (.int p0), .val (.int p1), .val (.int p2), .val (.int (1 : Int32)), .val (.ref b23), .val (.ref b25), .unset, .unset, .unset, .unset] [(.ref b25), (.int (2 : Int32)), (.int p2), (.int p1), (.int p0), (.int (1 : Int32)), (.ref b23)])) rfl (by rw [hml]; rfl) (argsL := [(.ref b23), (.int (1 : Int32)), (.int p0), (.int p1), (.int p2), (.int (2 : Int32)), (.ref b25)]) (rest := []) (lenOf pd__Lcom_example_wandel_wandel_replay_Observations_IIIII_J_V rfl) rfl (by show 2 * 0 + _ ≤ _; exact Nat.le_of_eq rfl) (hb hby at_52) (fun _ _ => ⟨rfl, (rfl : T33.heap = T33.heap), (by decide : 7 + 0 ≤ _), (by decide : 12 + 0 ≤ _)⟩)
      dsimp only [Pt.U, Pt.locs, Pt.cells, Pt.slots] at X34 ll34 ly34 lz34 st34 hQ34
      subst ll34 ly34 lz34
      obtain ⟨v0'34, c0'34, l0'34, m0'34, g0'34, t0'34, t1'34, rfl, N34q, K34c, P34_0, P34_1, P34_2, P34_3, P34_4, P34_5, P34_6⟩ := hQ34
      have N34 := Fr.app N33 N34q
      have K34 : Keep h0 T34.heap [] := K33.trans K34c (allS (Or.inr sz_ca24) (allS (Or.inr sz_ch24) (allS (Or.inr sz_lc24) (allS (Or.inr sz_ar24) (allS (Or.inr sz_ge24) (allS (Or.inr sz_b25) all0))))))
      obtain ⟨_, _, ⟨T35, L35, k35, n35⟩, -, X35, ⟨Lc35, hQ35, ll35, ly35, lz35⟩, st35⟩ := Jvm.LawKit.callS X34 hx (y := (⟨"com/example/wandel/wandel/replay/ObservationsChangeSharePinLaw", "step", "(Lcom/example/wandel/wandel/replay/Observations;IIIII[J)V"⟩ : MethodName)) hown (mvT hZ (hw _ (List.mem_of_getElem? (i := 23) rfl))) (mvT hZ (hw _ (List.mem_of_getElem? (i := 24) rfl))) (mvT hZ (hw _ (List.mem_of_getElem? (i := 25) rfl))) (mvT hZ (hw _ (List.mem_of_getElem? (i := 26) rfl))) (by decide) (backOf (W := 0) (rm3n1 l Z a0 hw [] b23 p0 p1 p2 (3 : Int32) b25 ca24 ch24 lc24 ar24 ge24 kca24 kch24 klc24 kar24 kge24 k25 v0'34 c0'34 l0'34 m0'34 g0'34 t0'34 t1'34 ((((0 : Int) + 1) + 1) + 1) T34.heap n0 (Nat.le_trans (Nat.le_trans (Nat.le_trans (Nat.le_trans (Nat.le_trans (Nat.le_trans Z0 E23.1) K24c.1) E25.1) K32c.1) K33c.1) K34c.1) (Exa.keep (Exa.keep (Exa.keep (Exa.ext E25 P24_0) K32c) K33c) K34c) ((((Fld.ext E25 P24_1).keep K32c (ninS P24_11 (ninS P24_12 (ninS P24_13 (ninS P24_14 (ninS P24_15 (ninS ne26 nin0))))))).keep K33c (ninS P24_11 (ninS P24_12 (ninS P24_13 (ninS P24_14 (ninS P24_15 (ninS ne26 nin0))))))).keep K34c (ninS P24_11 (ninS P24_12 (ninS P24_13 (ninS P24_14 (ninS P24_15 (ninS ne26 nin0))))))) ((((Fld.ext E25 P24_2).keep K32c (ninS P24_11 (ninS P24_12 (ninS P24_13 (ninS P24_14 (ninS P24_15 (ninS ne26 nin0))))))).keep K33c (ninS P24_11 (ninS P24_12 (ninS P24_13 (ninS P24_14 (ninS P24_15 (ninS ne26 nin0))))))).keep K34c (ninS P24_11 (ninS P24_12 (ninS P24_13 (ninS P24_14 (ninS P24_15 (ninS ne26 nin0))))))) ((((Fld.ext E25 P24_3).keep K32c (ninS P24_11 (ninS P24_12 (ninS P24_13 (ninS P24_14 (ninS P24_15 (ninS ne26 nin0))))))).keep K33c (ninS P24_11 (ninS P24_12 (ninS P24_13 (ninS P24_14 (ninS P24_15 (ninS ne26 nin0))))))).keep K34c (ninS P24_11 (ninS P24_12 (ninS P24_13 (ninS P24_14 (ninS P24_15 (ninS ne26 nin0))))))) ((((Fld.ext E25 P24_4).keep K32c (ninS P24_11 (ninS P24_12 (ninS P24_13 (ninS P24_14 (ninS P24_15 (ninS ne26 nin0))))))).keep K33c (ninS P24_11 (ninS P24_12 (ninS P24_13 (ninS P24_14 (ninS P24_15 (ninS ne26 nin0))))))).keep K34c (ninS P24_11 (ninS P24_12 (ninS P24_13 (ninS P24_14 (ninS P24_15 (ninS ne26 nin0))))))) ((((Fld.ext E25 P24_5).keep K32c (ninS P24_11 (ninS P24_12 (ninS P24_13 (ninS P24_14 (ninS P24_15 (ninS ne26 nin0))))))).keep K33c (ninS P24_11 (ninS P24_12 (ninS P24_13 (ninS P24_14 (ninS P24_15 (ninS ne26 nin0))))))).keep K34c (ninS P24_11 (ninS P24_12 (ninS P24_13 (ninS P24_14 (ninS P24_15 (ninS ne26 nin0))))))) P34_0 P34_1 P34_2 P34_3 P34_4 P34_5 P24_11 P24_12 P24_13 P24_14 P24_15 P24_16 P24_17 P24_18 P24_19 P24_20 P24_21 P24_22 P24_23 P24_24 P24_25 ne26 ne27 ne28 ne29 ne30 ne31 g_ca24 g_ch24 g_lc24 g_ar24 g_ge24 g_b25 P34_6 (by decide)) hZ (hw _ (List.mem_of_getElem? (i := 26) rfl)) (hw _ (List.mem_of_getElem? (i := 25) rfl)) (by decide) (by decide)) (g := (mkF m 64 #[.val (.int p0), .val (.int p1), .val (.int p2), .val (.int (1 : Int32)), .val (.ref b23), .val (.ref b25), .unset, .unset, .unset, .unset] [(.ref b25), (.int (3 : Int32)), (.int p2), (.int p1), (.int p0), (.int (1 : Int32)), (.ref b23)])) rfl (by rw [hml]; rfl) (argsL := [(.ref b23), (.int (1 : Int32)), (.int p0), (.int p1), (.int p2), (.int (3 : Int32)), (.ref b25)]) (rest := []) (lenOf pd__Lcom_example_wandel_wandel_replay_Observations_IIIII_J_V rfl) rfl (by show 2 * 0 + _ ≤ _; exact Nat.le_of_eq rfl) (hb hby at_64) (fun _ _ => ⟨rfl, (rfl : T34.heap = T34.heap), (by decide : 7 + 0 ≤ _), (by decide : 12 + 0 ≤ _)⟩)
      dsimp only [Pt.U, Pt.locs, Pt.cells, Pt.slots] at X35 ll35 ly35 lz35 st35 hQ35
      subst ll35 ly35 lz35
      obtain ⟨v0'35, c0'35, l0'35, m0'35, g0'35, t0'35, t1'35, rfl, N35q, K35c, P35_0, P35_1, P35_2, P35_3, P35_4, P35_5, P35_6⟩ := hQ35
      have N35 := Fr.app N34 N35q
      have K35 : Keep h0 T35.heap [] := K34.trans K35c (allS (Or.inr sz_ca24) (allS (Or.inr sz_ch24) (allS (Or.inr sz_lc24) (allS (Or.inr sz_ar24) (allS (Or.inr sz_ge24) (allS (Or.inr sz_b25) all0))))))
      obtain ⟨_, _, ⟨T36, L36, k36, n36⟩, -, X36, ⟨Lc36, hQ36, ll36, ly36, lz36⟩, st36⟩ := Jvm.LawKit.callS X35 hx (y := (⟨"com/example/wandel/wandel/replay/ObservationsChangeSharePinLaw", "step", "(Lcom/example/wandel/wandel/replay/Observations;IIIII[J)V"⟩ : MethodName)) hown (mvT hZ (hw _ (List.mem_of_getElem? (i := 23) rfl))) (mvT hZ (hw _ (List.mem_of_getElem? (i := 24) rfl))) (mvT hZ (hw _ (List.mem_of_getElem? (i := 25) rfl))) (mvT hZ (hw _ (List.mem_of_getElem? (i := 26) rfl))) (by decide) (backOf (W := 0) (rm3n1 l Z a0 hw [] b23 p0 p1 p2 (4 : Int32) b25 ca24 ch24 lc24 ar24 ge24 kca24 kch24 klc24 kar24 kge24 k25 v0'35 c0'35 l0'35 m0'35 g0'35 t0'35 t1'35 (((((0 : Int) + 1) + 1) + 1) + 1) T35.heap n0 (Nat.le_trans (Nat.le_trans (Nat.le_trans (Nat.le_trans (Nat.le_trans (Nat.le_trans (Nat.le_trans Z0 E23.1) K24c.1) E25.1) K32c.1) K33c.1) K34c.1) K35c.1) (Exa.keep (Exa.keep (Exa.keep (Exa.keep (Exa.ext E25 P24_0) K32c) K33c) K34c) K35c) (((((Fld.ext E25 P24_1).keep K32c (ninS P24_11 (ninS P24_12 (ninS P24_13 (ninS P24_14 (ninS P24_15 (ninS ne26 nin0))))))).keep K33c (ninS P24_11 (ninS P24_12 (ninS P24_13 (ninS P24_14 (ninS P24_15 (ninS ne26 nin0))))))).keep K34c (ninS P24_11 (ninS P24_12 (ninS P24_13 (ninS P24_14 (ninS P24_15 (ninS ne26 nin0))))))).keep K35c (ninS P24_11 (ninS P24_12 (ninS P24_13 (ninS P24_14 (ninS P24_15 (ninS ne26 nin0))))))) (((((Fld.ext E25 P24_2).keep K32c (ninS P24_11 (ninS P24_12 (ninS P24_13 (ninS P24_14 (ninS P24_15 (ninS ne26 nin0))))))).keep K33c (ninS P24_11 (ninS P24_12 (ninS P24_13 (ninS P24_14 (ninS P24_15 (ninS ne26 nin0))))))).keep K34c (ninS P24_11 (ninS P24_12 (ninS P24_13 (ninS P24_14 (ninS P24_15 (ninS ne26 nin0))))))).keep K35c (ninS P24_11 (ninS P24_12 (ninS P24_13 (ninS P24_14 (ninS P24_15 (ninS ne26 nin0))))))) (((((Fld.ext E25 P24_3).keep K32c (ninS P24_11 (ninS P24_12 (ninS P24_13 (ninS P24_14 (ninS P24_15 (ninS ne26 nin0))))))).keep K33c (ninS P24_11 (ninS P24_12 (ninS P24_13 (ninS P24_14 (ninS P24_15 (ninS ne26 nin0))))))).keep K34c (ninS P24_11 (ninS P24_12 (ninS P24_13 (ninS P24_14 (ninS P24_15 (ninS ne26 nin0))))))).keep K35c (ninS P24_11 (ninS P24_12 (ninS P24_13 (ninS P24_14 (ninS P24_15 (ninS ne26 nin0))))))) (((((Fld.ext E25 P24_4).keep K32c (ninS P24_11 (ninS P24_12 (ninS P24_13 (ninS P24_14 (ninS P24_15 (ninS ne26 nin0))))))).keep K33c (ninS P24_11 (ninS P24_12 (ninS P24_13 (ninS P24_14 (ninS P24_15 (ninS ne26 nin0))))))).keep K34c (ninS P24_11 (ninS P24_12 (ninS P24_13 (ninS P24_14 (ninS P24_15 (ninS ne26 nin0))))))).keep K35c (ninS P24_11 (ninS P24_12 (ninS P24_13 (ninS P24_14 (ninS P24_15 (ninS ne26 nin0))))))) (((((Fld.ext E25 P24_5).keep K32c (ninS P24_11 (ninS P24_12 (ninS P24_13 (ninS P24_14 (ninS P24_15 (ninS ne26 nin0))))))).keep K33c (ninS P24_11 (ninS P24_12 (ninS P24_13 (ninS P24_14 (ninS P24_15 (ninS ne26 nin0))))))).keep K34c (ninS P24_11 (ninS P24_12 (ninS P24_13 (ninS P24_14 (ninS P24_15 (ninS ne26 nin0))))))).keep K35c (ninS P24_11 (ninS P24_12 (ninS P24_13 (ninS P24_14 (ninS P24_15 (ninS ne26 nin0))))))) P35_0 P35_1 P35_2 P35_3 P35_4 P35_5 P24_11 P24_12 P24_13 P24_14 P24_15 P24_16 P24_17 P24_18 P24_19 P24_20 P24_21 P24_22 P24_23 P24_24 P24_25 ne26 ne27 ne28 ne29 ne30 ne31 g_ca24 g_ch24 g_lc24 g_ar24 g_ge24 g_b25 P35_6 (by decide)) hZ (hw _ (List.mem_of_getElem? (i := 26) rfl)) (hw _ (List.mem_of_getElem? (i := 25) rfl)) (by decide) (by decide)) (g := (mkF m 76 #[.val (.int p0), .val (.int p1), .val (.int p2), .val (.int (1 : Int32)), .val (.ref b23), .val (.ref b25), .unset, .unset, .unset, .unset] [(.ref b25), (.int (4 : Int32)), (.int p2), (.int p1), (.int p0), (.int (1 : Int32)), (.ref b23)])) rfl (by rw [hml]; rfl) (argsL := [(.ref b23), (.int (1 : Int32)), (.int p0), (.int p1), (.int p2), (.int (4 : Int32)), (.ref b25)]) (rest := []) (lenOf pd__Lcom_example_wandel_wandel_replay_Observations_IIIII_J_V rfl) rfl (by show 2 * 0 + _ ≤ _; exact Nat.le_of_eq rfl) (hb hby at_76) (fun _ _ => ⟨rfl, (rfl : T35.heap = T35.heap), (by decide : 7 + 0 ≤ _), (by decide : 12 + 0 ≤ _)⟩)
      dsimp only [Pt.U, Pt.locs, Pt.cells, Pt.slots] at X36 ll36 ly36 lz36 st36 hQ36
      subst ll36 ly36 lz36
      obtain ⟨v0'36, c0'36, l0'36, m0'36, g0'36, t0'36, t1'36, rfl, N36q, K36c, P36_0, P36_1, P36_2, P36_3, P36_4, P36_5, P36_6⟩ := hQ36
      have N36 := Fr.app N35 N36q
      have K36 : Keep h0 T36.heap [] := K35.trans K36c (allS (Or.inr sz_ca24) (allS (Or.inr sz_ch24) (allS (Or.inr sz_lc24) (allS (Or.inr sz_ar24) (allS (Or.inr sz_ge24) (allS (Or.inr sz_b25) all0))))))
      obtain ⟨_, _, ⟨T37, L37, k37, n37⟩, -, X37, ⟨Lc37, hQ37, ll37, ly37, lz37⟩, st37⟩ := Jvm.LawKit.callS X36 hx (y := (⟨"com/example/wandel/wandel/replay/ObservationsChangeSharePinLaw", "step", "(Lcom/example/wandel/wandel/replay/Observations;IIIII[J)V"⟩ : MethodName)) hown (mvT hZ (hw _ (List.mem_of_getElem? (i := 23) rfl))) (mvT hZ (hw _ (List.mem_of_getElem? (i := 24) rfl))) (mvT hZ (hw _ (List.mem_of_getElem? (i := 25) rfl))) (mvT hZ (hw _ (List.mem_of_getElem? (i := 26) rfl))) (by decide) (backOf (W := 0) (rm3n1 l Z a0 hw [] b23 p0 p1 p2 (5 : Int32) b25 ca24 ch24 lc24 ar24 ge24 kca24 kch24 klc24 kar24 kge24 k25 v0'36 c0'36 l0'36 m0'36 g0'36 t0'36 t1'36 ((((((0 : Int) + 1) + 1) + 1) + 1) + 1) T36.heap n0 (Nat.le_trans (Nat.le_trans (Nat.le_trans (Nat.le_trans (Nat.le_trans (Nat.le_trans (Nat.le_trans (Nat.le_trans Z0 E23.1) K24c.1) E25.1) K32c.1) K33c.1) K34c.1) K35c.1) K36c.1) (Exa.keep (Exa.keep (Exa.keep (Exa.keep (Exa.keep (Exa.ext E25 P24_0) K32c) K33c) K34c) K35c) K36c) ((((((Fld.ext E25 P24_1).keep K32c (ninS P24_11 (ninS P24_12 (ninS P24_13 (ninS P24_14 (ninS P24_15 (ninS ne26 nin0))))))).keep K33c (ninS P24_11 (ninS P24_12 (ninS P24_13 (ninS P24_14 (ninS P24_15 (ninS ne26 nin0))))))).keep K34c (ninS P24_11 (ninS P24_12 (ninS P24_13 (ninS P24_14 (ninS P24_15 (ninS ne26 nin0))))))).keep K35c (ninS P24_11 (ninS P24_12 (ninS P24_13 (ninS P24_14 (ninS P24_15 (ninS ne26 nin0))))))).keep K36c (ninS P24_11 (ninS P24_12 (ninS P24_13 (ninS P24_14 (ninS P24_15 (ninS ne26 nin0))))))) ((((((Fld.ext E25 P24_2).keep K32c (ninS P24_11 (ninS P24_12 (ninS P24_13 (ninS P24_14 (ninS P24_15 (ninS ne26 nin0))))))).keep K33c (ninS P24_11 (ninS P24_12 (ninS P24_13 (ninS P24_14 (ninS P24_15 (ninS ne26 nin0))))))).keep K34c (ninS P24_11 (ninS P24_12 (ninS P24_13 (ninS P24_14 (ninS P24_15 (ninS ne26 nin0))))))).keep K35c (ninS P24_11 (ninS P24_12 (ninS P24_13 (ninS P24_14 (ninS P24_15 (ninS ne26 nin0))))))).keep K36c (ninS P24_11 (ninS P24_12 (ninS P24_13 (ninS P24_14 (ninS P24_15 (ninS ne26 nin0))))))) ((((((Fld.ext E25 P24_3).keep K32c (ninS P24_11 (ninS P24_12 (ninS P24_13 (ninS P24_14 (ninS P24_15 (ninS ne26 nin0))))))).keep K33c (ninS P24_11 (ninS P24_12 (ninS P24_13 (ninS P24_14 (ninS P24_15 (ninS ne26 nin0))))))).keep K34c (ninS P24_11 (ninS P24_12 (ninS P24_13 (ninS P24_14 (ninS P24_15 (ninS ne26 nin0))))))).keep K35c (ninS P24_11 (ninS P24_12 (ninS P24_13 (ninS P24_14 (ninS P24_15 (ninS ne26 nin0))))))).keep K36c (ninS P24_11 (ninS P24_12 (ninS P24_13 (ninS P24_14 (ninS P24_15 (ninS ne26 nin0))))))) ((((((Fld.ext E25 P24_4).keep K32c (ninS P24_11 (ninS P24_12 (ninS P24_13 (ninS P24_14 (ninS P24_15 (ninS ne26 nin0))))))).keep K33c (ninS P24_11 (ninS P24_12 (ninS P24_13 (ninS P24_14 (ninS P24_15 (ninS ne26 nin0))))))).keep K34c (ninS P24_11 (ninS P24_12 (ninS P24_13 (ninS P24_14 (ninS P24_15 (ninS ne26 nin0))))))).keep K35c (ninS P24_11 (ninS P24_12 (ninS P24_13 (ninS P24_14 (ninS P24_15 (ninS ne26 nin0))))))).keep K36c (ninS P24_11 (ninS P24_12 (ninS P24_13 (ninS P24_14 (ninS P24_15 (ninS ne26 nin0))))))) ((((((Fld.ext E25 P24_5).keep K32c (ninS P24_11 (ninS P24_12 (ninS P24_13 (ninS P24_14 (ninS P24_15 (ninS ne26 nin0))))))).keep K33c (ninS P24_11 (ninS P24_12 (ninS P24_13 (ninS P24_14 (ninS P24_15 (ninS ne26 nin0))))))).keep K34c (ninS P24_11 (ninS P24_12 (ninS P24_13 (ninS P24_14 (ninS P24_15 (ninS ne26 nin0))))))).keep K35c (ninS P24_11 (ninS P24_12 (ninS P24_13 (ninS P24_14 (ninS P24_15 (ninS ne26 nin0))))))).keep K36c (ninS P24_11 (ninS P24_12 (ninS P24_13 (ninS P24_14 (ninS P24_15 (ninS ne26 nin0))))))) P36_0 P36_1 P36_2 P36_3 P36_4 P36_5 P24_11 P24_12 P24_13 P24_14 P24_15 P24_16 P24_17 P24_18 P24_19 P24_20 P24_21 P24_22 P24_23 P24_24 P24_25 ne26 ne27 ne28 ne29 ne30 ne31 g_ca24 g_ch24 g_lc24 g_ar24 g_ge24 g_b25 P36_6 (by decide)) hZ (hw _ (List.mem_of_getElem? (i := 26) rfl)) (hw _ (List.mem_of_getElem? (i := 25) rfl)) (by decide) (by decide)) (g := (mkF m 88 #[.val (.int p0), .val (.int p1), .val (.int p2), .val (.int (1 : Int32)), .val (.ref b23), .val (.ref b25), .unset, .unset, .unset, .unset] [(.ref b25), (.int (5 : Int32)), (.int p2), (.int p1), (.int p0), (.int (1 : Int32)), (.ref b23)])) rfl (by rw [hml]; rfl) (argsL := [(.ref b23), (.int (1 : Int32)), (.int p0), (.int p1), (.int p2), (.int (5 : Int32)), (.ref b25)]) (rest := []) (lenOf pd__Lcom_example_wandel_wandel_replay_Observations_IIIII_J_V rfl) rfl (by show 2 * 0 + _ ≤ _; exact Nat.le_of_eq rfl) (hb hby at_88) (fun _ _ => ⟨rfl, (rfl : T36.heap = T36.heap), (by decide : 7 + 0 ≤ _), (by decide : 12 + 0 ≤ _)⟩)
      dsimp only [Pt.U, Pt.locs, Pt.cells, Pt.slots] at X37 ll37 ly37 lz37 st37 hQ37
      subst ll37 ly37 lz37
      obtain ⟨v0'37, c0'37, l0'37, m0'37, g0'37, t0'37, t1'37, rfl, N37q, K37c, P37_0, P37_1, P37_2, P37_3, P37_4, P37_5, P37_6⟩ := hQ37
      have N37 := Fr.app N36 N37q
      have K37 : Keep h0 T37.heap [] := K36.trans K37c (allS (Or.inr sz_ca24) (allS (Or.inr sz_ch24) (allS (Or.inr sz_lc24) (allS (Or.inr sz_ar24) (allS (Or.inr sz_ge24) (allS (Or.inr sz_b25) all0))))))
      obtain ⟨cq38, kq38, q38a, q38b, q38c⟩ := isOf hZ (rfl : T37.heap = T37.heap) (Exa.keep (Exa.keep (Exa.keep (Exa.keep (Exa.keep (Exa.keep (Exa.ext E25 P24_0) K32c) K33c) K34c) K35c) K36c) K37c)
      obtain ⟨_, _, ⟨T38, L38, k38, n38⟩, -, X38, ⟨Lc38, hQ38, ll38, ly38, lz38⟩, st38⟩ := X37.virtualBack hx (y := (⟨"com/example/wandel/wandel/replay/Observations", "changeShare", "()D"⟩ : MethodName)) (z := (⟨"com/example/wandel/wandel/replay/Observations", "changeShare", "()D"⟩ : MethodName)) hown (mvT hZ (hw _ (List.mem_of_getElem? (i := 27) rfl))) (mvT hZ (hw _ (List.mem_of_getElem? (i := 28) rfl))) (notFace_of_selects (args := #[]) (mvT hZ (hw _ (List.mem_of_getElem? (i := 30) rfl)))) (mvT hZ (hw _ (List.mem_of_getElem? (i := 30) rfl))) (mvT hZ (hw _ (List.mem_of_getElem? (i := 29) rfl))) (by decide) (backOf (W := 0) (rm4n1 l Z a0 hw [] b23 ca24 ch24 kca24 kch24 v0'37 c0'37 T37.heap n0 (Nat.le_trans (Nat.le_trans (Nat.le_trans (Nat.le_trans (Nat.le_trans (Nat.le_trans (Nat.le_trans (Nat.le_trans (Nat.le_trans Z0 E23.1) K24c.1) E25.1) K32c.1) K33c.1) K34c.1) K35c.1) K36c.1) K37c.1) (((((((Fld.ext E25 P24_1).keep K32c (ninS P24_11 (ninS P24_12 (ninS P24_13 (ninS P24_14 (ninS P24_15 (ninS ne26 nin0))))))).keep K33c (ninS P24_11 (ninS P24_12 (ninS P24_13 (ninS P24_14 (ninS P24_15 (ninS ne26 nin0))))))).keep K34c (ninS P24_11 (ninS P24_12 (ninS P24_13 (ninS P24_14 (ninS P24_15 (ninS ne26 nin0))))))).keep K35c (ninS P24_11 (ninS P24_12 (ninS P24_13 (ninS P24_14 (ninS P24_15 (ninS ne26 nin0))))))).keep K36c (ninS P24_11 (ninS P24_12 (ninS P24_13 (ninS P24_14 (ninS P24_15 (ninS ne26 nin0))))))).keep K37c (ninS P24_11 (ninS P24_12 (ninS P24_13 (ninS P24_14 (ninS P24_15 (ninS ne26 nin0))))))) (((((((Fld.ext E25 P24_2).keep K32c (ninS P24_11 (ninS P24_12 (ninS P24_13 (ninS P24_14 (ninS P24_15 (ninS ne26 nin0))))))).keep K33c (ninS P24_11 (ninS P24_12 (ninS P24_13 (ninS P24_14 (ninS P24_15 (ninS ne26 nin0))))))).keep K34c (ninS P24_11 (ninS P24_12 (ninS P24_13 (ninS P24_14 (ninS P24_15 (ninS ne26 nin0))))))).keep K35c (ninS P24_11 (ninS P24_12 (ninS P24_13 (ninS P24_14 (ninS P24_15 (ninS ne26 nin0))))))).keep K36c (ninS P24_11 (ninS P24_12 (ninS P24_13 (ninS P24_14 (ninS P24_15 (ninS ne26 nin0))))))).keep K37c (ninS P24_11 (ninS P24_12 (ninS P24_13 (ninS P24_14 (ninS P24_15 (ninS ne26 nin0))))))) P37_0 P37_1) hZ (hw _ (List.mem_of_getElem? (i := 31) rfl)) (hw _ (List.mem_of_getElem? (i := 2) rfl)) (by decide) (by decide)) q38a q38c (g := (mkF m 93 #[.val (.int p0), .val (.int p1), .val (.int p2), .val (.int (1 : Int32)), .val (.ref b23), .val (.ref b25), .unset, .unset, .unset, .unset] [(.ref b23)])) rfl (by rw [hml]; rfl) (Steps.refl _) (argsL := []) (rest := []) (lenOf pd___D rfl) rfl (by show 2 * 0 + _ ≤ _; exact Nat.le_of_eq rfl) (hb hby at_93) (fun _ _ => ⟨rfl, (rfl : T37.heap = T37.heap), (by decide : 7 + 0 ≤ _), (by decide : 12 + 0 ≤ _)⟩)
      dsimp only [Pt.U, Pt.locs, Pt.cells, Pt.slots] at X38 ll38 ly38 lz38 st38 hQ38
      subst ll38 ly38 lz38
      obtain ⟨rfl, N38q, e38⟩ := hQ38
      have N38 := Fr.app N37 N38q
      obtain ⟨cl39, Ar39, qa39, S39, Nl39, H39, G39⟩ := id P37_5
      have hin39 : ¬ ((0 : Int32) < 0 ∨ cl39.slots.size ≤ ((0 : Int32)).toNatClampNeg) := inb_of S39 ⟨by decide, by decide⟩
      have hat39 : cl39.slots[((0 : Int32)).toNatClampNeg]? = some (.long t0'37) := Has.at H39 hin39 rfl
      have pre40 : ∀ t, Steps p.tables e below (T38.setTop (mkF m 104 #[.val (.int p0), .val (.int p1), .val (.int p2), .val (.int (1 : Int32)), .val (.ref b23), .val (.ref b25), .val (.double (F4n1 v0'37 c0'37)), .second, .unset, .unset] [(.int (lcmpW t0'37 (0 : Int64)))])) t → Steps p.tables e below (s₁.setTop (entryFrame m #[(.int p0), (.int p1), (.int p2)] maxLocals)) t := fun t kt => pre22 t (by
        show Steps p.tables e below (s₁.setTop (mkF m 4 #[.val (.int p0), .val (.int p1), .val (.int p2), .val (.int (1 : Int32)), .unset, .unset, .unset, .unset, .unset, .unset] [])) _
        refine st23 _ ?_
        refine XS.dup X23.here hx rfl (hb hby at_7) rfl rfl ?_
        refine XS.iloadN X23.here hx rfl (hb hby at_8) rfl ?_
        refine st24.trans ?_
        refine XS.astore X24.here hx rfl (hb hby at_12) rfl rfl (l' := #[.val (.int p0), .val (.int p1), .val (.int p2), .val (.int (1 : Int32)), .val (.ref b23), .unset, .unset, .unset, .unset, .unset]) rfl ?_
        refine XS.iconst X24.here hx rfl (hb hby at_14) ?_
        refine st25 _ ?_
        refine XS.astore X25.here hx rfl (hb hby at_17) rfl rfl (l' := #[.val (.int p0), .val (.int p1), .val (.int p2), .val (.int (1 : Int32)), .val (.ref b23), .val (.ref b25), .unset, .unset, .unset, .unset]) rfl ?_
        show Steps p.tables e below (T25.setTop (mkF m 19 #[.val (.int p0), .val (.int p1), .val (.int p2), .val (.int (1 : Int32)), .val (.ref b23), .val (.ref b25), .unset, .unset, .unset, .unset] [])) _
        refine XS.aload X25.here hx rfl (hb hby at_19) rfl rfl ?_
        refine XS.iloadN X25.here hx rfl (hb hby at_21) rfl ?_
        refine XS.iloadN X25.here hx rfl (hb hby at_22) rfl ?_
        refine XS.iloadN X25.here hx rfl (hb hby at_23) rfl ?_
        refine XS.iloadN X25.here hx rfl (hb hby at_24) rfl ?_
        refine XS.iconst X25.here hx rfl (hb hby at_25) ?_
        refine XS.aload X25.here hx rfl (hb hby at_26) rfl rfl ?_
        refine st32 _ ?_
        show Steps p.tables e below (T32.setTop (mkF m 31 #[.val (.int p0), .val (.int p1), .val (.int p2), .val (.int (1 : Int32)), .val (.ref b23), .val (.ref b25), .unset, .unset, .unset, .unset] [])) _
        refine XS.aload X32.here hx rfl (hb hby at_31) rfl rfl ?_
        refine XS.iloadN X32.here hx rfl (hb hby at_33) rfl ?_
        refine XS.iloadN X32.here hx rfl (hb hby at_34) rfl ?_
        refine XS.iloadN X32.here hx rfl (hb hby at_35) rfl ?_
        refine XS.iloadN X32.here hx rfl (hb hby at_36) rfl ?_
        refine XS.iconst X32.here hx rfl (hb hby at_37) ?_
        refine XS.aload X32.here hx rfl (hb hby at_38) rfl rfl ?_
        refine st33 _ ?_
        show Steps p.tables e below (T33.setTop (mkF m 43 #[.val (.int p0), .val (.int p1), .val (.int p2), .val (.int (1 : Int32)), .val (.ref b23), .val (.ref b25), .unset, .unset, .unset, .unset] [])) _
        refine XS.aload X33.here hx rfl (hb hby at_43) rfl rfl ?_
        refine XS.iloadN X33.here hx rfl (hb hby at_45) rfl ?_
        refine XS.iloadN X33.here hx rfl (hb hby at_46) rfl ?_
        refine XS.iloadN X33.here hx rfl (hb hby at_47) rfl ?_
        refine XS.iloadN X33.here hx rfl (hb hby at_48) rfl ?_
        refine XS.iconst X33.here hx rfl (hb hby at_49) ?_
        refine XS.aload X33.here hx rfl (hb hby at_50) rfl rfl ?_
        refine st34 _ ?_
        show Steps p.tables e below (T34.setTop (mkF m 55 #[.val (.int p0), .val (.int p1), .val (.int p2), .val (.int (1 : Int32)), .val (.ref b23), .val (.ref b25), .unset, .unset, .unset, .unset] [])) _
        refine XS.aload X34.here hx rfl (hb hby at_55) rfl rfl ?_
        refine XS.iloadN X34.here hx rfl (hb hby at_57) rfl ?_
        refine XS.iloadN X34.here hx rfl (hb hby at_58) rfl ?_
        refine XS.iloadN X34.here hx rfl (hb hby at_59) rfl ?_
        refine XS.iloadN X34.here hx rfl (hb hby at_60) rfl ?_
        refine XS.iconst X34.here hx rfl (hb hby at_61) ?_
        refine XS.aload X34.here hx rfl (hb hby at_62) rfl rfl ?_
        refine st35 _ ?_
        show Steps p.tables e below (T35.setTop (mkF m 67 #[.val (.int p0), .val (.int p1), .val (.int p2), .val (.int (1 : Int32)), .val (.ref b23), .val (.ref b25), .unset, .unset, .unset, .unset] [])) _
        refine XS.aload X35.here hx rfl (hb hby at_67) rfl rfl ?_
        refine XS.iloadN X35.here hx rfl (hb hby at_69) rfl ?_
        refine XS.iloadN X35.here hx rfl (hb hby at_70) rfl ?_
        refine XS.iloadN X35.here hx rfl (hb hby at_71) rfl ?_
        refine XS.iloadN X35.here hx rfl (hb hby at_72) rfl ?_
        refine XS.iconst X35.here hx rfl (hb hby at_73) ?_
        refine XS.aload X35.here hx rfl (hb hby at_74) rfl rfl ?_
        refine st36 _ ?_
        show Steps p.tables e below (T36.setTop (mkF m 79 #[.val (.int p0), .val (.int p1), .val (.int p2), .val (.int (1 : Int32)), .val (.ref b23), .val (.ref b25), .unset, .unset, .unset, .unset] [])) _
        refine XS.aload X36.here hx rfl (hb hby at_79) rfl rfl ?_
        refine XS.iloadN X36.here hx rfl (hb hby at_81) rfl ?_
        refine XS.iloadN X36.here hx rfl (hb hby at_82) rfl ?_
        refine XS.iloadN X36.here hx rfl (hb hby at_83) rfl ?_
        refine XS.iloadN X36.here hx rfl (hb hby at_84) rfl ?_
        refine XS.iconst X36.here hx rfl (hb hby at_85) ?_
        refine XS.aload X36.here hx rfl (hb hby at_86) rfl rfl ?_
        refine st37 _ ?_
        show Steps p.tables e below (T37.setTop (mkF m 91 #[.val (.int p0), .val (.int p1), .val (.int p2), .val (.int (1 : Int32)), .val (.ref b23), .val (.ref b25), .unset, .unset, .unset, .unset] [])) _
        refine XS.aload X37.here hx rfl (hb hby at_91) rfl rfl ?_
        refine st38.trans ?_
        refine own_dstore X38.here hx rfl (hb hby at_96) rfl (l' := #[.val (.int p0), .val (.int p1), .val (.int p2), .val (.int (1 : Int32)), .val (.ref b23), .val (.ref b25), .val (.double (F4n1 v0'37 c0'37)), .second, .unset, .unset]) rfl ?_
        refine XS.aload X38.here hx rfl (hb hby at_98) rfl rfl ?_
        refine XS.iconst X38.here hx rfl (hb hby at_100) ?_
        refine X38.laload hx (j := (0 : Int32)) (v := (.long t0'37)) (by rw [e38]; exact Ar39.1) (State.isArrayOf_alike hZ.alike Ar39.2.1) Ar39.2.2 hin39 hat39 (g := (mkF m 101 #[.val (.int p0), .val (.int p1), .val (.int p2), .val (.int (1 : Int32)), .val (.ref b23), .val (.ref b25), .val (.double (F4n1 v0'37 c0'37)), .second, .unset, .unset] [(.int (0 : Int32)), (.ref b25)])) rfl rfl (hb hby at_101) _ ?_
        refine XS.lconst X38.here hx rfl (hb hby at_102) ?_
        refine XS.lcmp X38.here hx rfl (hb hby at_103) rfl ?_
        exact kt)
      by_cases hc104 : (lcmpW t0'37 (0 : Int64)) = (0 : Int32)
      · obtain ⟨fs, hr, hrun, hended, hW, hsame⟩ := X38.leave (v := some (.int (1 : Int32))) (fun h => by rw [Bd.returns] at h; cases h)
        refine ⟨_, _, pre40 _ ?_, hrun, hended, _, _, rfl, ?_, ⟨_, rfl⟩, hW, hsame.mono (by decide) (by decide)⟩
        · show Steps p.tables e below (T38.setTop (mkF m 104 #[.val (.int p0), .val (.int p1), .val (.int p2), .val (.int (1 : Int32)), .val (.ref b23), .val (.ref b25), .val (.double (F4n1 v0'37 c0'37)), .second, .unset, .unset] [(.int (lcmpW t0'37 (0 : Int64)))])) _
          refine XS.ifNo X38.here hx rfl (hb hby at_104) rfl ((if0 _ _).trans (teq hc104).2) ?_
          refine own_dconst0 X38.here hx rfl (hb hby at_107) ?_
          refine XS.goto X38.here hx rfl (pc0 := 108) (pc' := 122) rfl (hb hby at_108) (by decide) (by decide) ?_
          refine own_dstore X38.here hx rfl (hb hby at_122) rfl (l' := #[.val (.int p0), .val (.int p1), .val (.int p2), .val (.int (1 : Int32)), .val (.ref b23), .val (.ref b25), .val (.double (F4n1 v0'37 c0'37)), .second, .val (.double FP.dconst0), .second]) rfl ?_
          refine own_dload X38.here hx rfl (hb hby at_124) rfl ?_
          refine own_dload X38.here hx rfl (hb hby at_126) rfl ?_
          refine own_dcmpl X38.here hx rfl (hb hby at_128) rfl ?_
          refine XS.ifNo X38.here hx rfl (hb hby at_129) rfl ((if0 _ _).trans (teq (own_gz1 (by decide) P37_6 hc104)).2) ?_
          show Steps p.tables e below (T38.setTop (mkF m 132 #[.val (.int p0), .val (.int p1), .val (.int p2), .val (.int (1 : Int32)), .val (.ref b23), .val (.ref b25), .val (.double (F4n1 v0'37 c0'37)), .second, .val (.double FP.dconst0), .second] [])) _
          refine XS.iconst X38.here hx rfl (hb hby at_132) ?_
          refine XS.goto X38.here hx rfl (pc0 := 133) (pc' := 137) rfl (hb hby at_133) (by decide) (by decide) ?_
          show Steps p.tables e below (T38.setTop (mkF m 137 #[.val (.int p0), .val (.int p1), .val (.int p2), .val (.int (1 : Int32)), .val (.ref b23), .val (.ref b25), .val (.double (F4n1 v0'37 c0'37)), .second, .val (.double FP.dconst0), .second] [(.int (1 : Int32))])) _
          exact retN X38 hx (t := .boolean) Bd.returns (by simp) (hb hby at_137) hr
        · show Q0 Z p0 p1 p2 h0 n0 _ T38.heap _
          rw [e38]
          exact ⟨rfl, N38⟩
      · obtain ⟨cl41, Ar41, qa41, S41, Nl41, H41, G41⟩ := id P37_5
        have hin41 : ¬ ((1 : Int32) < 0 ∨ cl41.slots.size ≤ ((1 : Int32)).toNatClampNeg) := inb_of S41 ⟨by decide, by decide⟩
        have hat41 : cl41.slots[((1 : Int32)).toNatClampNeg]? = some (.long t1'37) := Has.at H41 hin41 rfl
        obtain ⟨cl42, Ar42, qa42, S42, Nl42, H42, G42⟩ := id P37_5
        have hin42 : ¬ ((0 : Int32) < 0 ∨ cl42.slots.size ≤ ((0 : Int32)).toNatClampNeg) := inb_of S42 ⟨by decide, by decide⟩
        have hat42 : cl42.slots[((0 : Int32)).toNatClampNeg]? = some (.long t0'37) := Has.at H42 hin42 rfl
        obtain ⟨fs, hr, hrun, hended, hW, hsame⟩ := X38.leave (v := some (.int (1 : Int32))) (fun h => by rw [Bd.returns] at h; cases h)
        refine ⟨_, _, pre40 _ ?_, hrun, hended, _, _, rfl, ?_, ⟨_, rfl⟩, hW, hsame.mono (by decide) (by decide)⟩
        · show Steps p.tables e below (T38.setTop (mkF m 104 #[.val (.int p0), .val (.int p1), .val (.int p2), .val (.int (1 : Int32)), .val (.ref b23), .val (.ref b25), .val (.double (F4n1 v0'37 c0'37)), .second, .unset, .unset] [(.int (lcmpW t0'37 (0 : Int64)))])) _
          refine XS.ifYes X38.here hx rfl (pc0 := 104) (pc' := 111) rfl (hb hby at_104) rfl ((if0 _ _).trans (feq hc104).2) (by decide) (by decide) ?_
          refine XS.aload X38.here hx rfl (hb hby at_111) rfl rfl ?_
          refine XS.iconst X38.here hx rfl (hb hby at_113) ?_
          refine X38.laload hx (j := (1 : Int32)) (v := (.long t1'37)) (by rw [e38]; exact Ar41.1) (State.isArrayOf_alike hZ.alike Ar41.2.1) Ar41.2.2 hin41 hat41 (g := (mkF m 114 #[.val (.int p0), .val (.int p1), .val (.int p2), .val (.int (1 : Int32)), .val (.ref b23), .val (.ref b25), .val (.double (F4n1 v0'37 c0'37)), .second, .unset, .unset] [(.int (1 : Int32)), (.ref b25)])) rfl rfl (hb hby at_114) _ ?_
          refine own_l2d X38.here hx rfl (hb hby at_115) rfl ?_
          refine XS.aload X38.here hx rfl (hb hby at_116) rfl rfl ?_
          refine XS.iconst X38.here hx rfl (hb hby at_118) ?_
          refine X38.laload hx (j := (0 : Int32)) (v := (.long t0'37)) (by rw [e38]; exact Ar42.1) (State.isArrayOf_alike hZ.alike Ar42.2.1) Ar42.2.2 hin42 hat42 (g := (mkF m 119 #[.val (.int p0), .val (.int p1), .val (.int p2), .val (.int (1 : Int32)), .val (.ref b23), .val (.ref b25), .val (.double (F4n1 v0'37 c0'37)), .second, .unset, .unset] [(.int (0 : Int32)), (.ref b25), (.double (FP.l2d t1'37))])) rfl rfl (hb hby at_119) _ ?_
          show Steps p.tables e below (T38.setTop (mkF m 120 #[.val (.int p0), .val (.int p1), .val (.int p2), .val (.int (1 : Int32)), .val (.ref b23), .val (.ref b25), .val (.double (F4n1 v0'37 c0'37)), .second, .unset, .unset] [(.long t0'37), (.double (FP.l2d t1'37))])) _
          refine own_l2d X38.here hx rfl (hb hby at_120) rfl ?_
          show Steps p.tables e below (T38.setTop (mkF m 121 #[.val (.int p0), .val (.int p1), .val (.int p2), .val (.int (1 : Int32)), .val (.ref b23), .val (.ref b25), .val (.double (F4n1 v0'37 c0'37)), .second, .unset, .unset] [(.double (FP.l2d t0'37)), (.double (FP.l2d t1'37))])) _
          refine own_ddiv X38.here hx (hb hby at_121) (own_nq _ _ hc104) ?_
          refine own_dstore X38.here hx rfl (hb hby at_122) rfl (l' := #[.val (.int p0), .val (.int p1), .val (.int p2), .val (.int (1 : Int32)), .val (.ref b23), .val (.ref b25), .val (.double (F4n1 v0'37 c0'37)), .second, .val (.double (FP.ddiv (FP.l2d t1'37) (FP.l2d t0'37))), .second]) rfl ?_
          refine own_dload X38.here hx rfl (hb hby at_124) rfl ?_
          refine own_dload X38.here hx rfl (hb hby at_126) rfl ?_
          refine own_dcmpl X38.here hx rfl (hb hby at_128) rfl ?_
          refine XS.ifNo X38.here hx rfl (hb hby at_129) rfl ((if0 _ _).trans (teq (own_gq1 (by decide) P37_6 hc104)).2) ?_
          refine XS.iconst X38.here hx rfl (hb hby at_132) ?_
          show Steps p.tables e below (T38.setTop (mkF m 133 #[.val (.int p0), .val (.int p1), .val (.int p2), .val (.int (1 : Int32)), .val (.ref b23), .val (.ref b25), .val (.double (F4n1 v0'37 c0'37)), .second, .val (.double (FP.ddiv (FP.l2d t1'37) (FP.l2d t0'37))), .second] [(.int (1 : Int32))])) _
          refine XS.goto X38.here hx rfl (pc0 := 133) (pc' := 137) rfl (hb hby at_133) (by decide) (by decide) ?_
          show Steps p.tables e below (T38.setTop (mkF m 137 #[.val (.int p0), .val (.int p1), .val (.int p2), .val (.int (1 : Int32)), .val (.ref b23), .val (.ref b25), .val (.double (F4n1 v0'37 c0'37)), .second, .val (.double (FP.ddiv (FP.l2d t1'37) (FP.l2d t0'37))), .second] [(.int (1 : Int32))])) _
          exact retN X38 hx (t := .boolean) Bd.returns (by simp) (hb hby at_137) hr
        · show Q0 Z p0 p1 p2 h0 n0 _ T38.heap _
          rw [e38]
          exact ⟨rfl, N38⟩
    · by_cases hi2 : (A0_3 p0 p1 p2) = (2 : Int32)
      · have qr43 : (A0_3 p0 p1 p2) = (2 : Int32) := hi2
        have pre44 : ∀ t, Steps p.tables e below (s₁.setTop (mkF m 4 #[.val (.int p0), .val (.int p1), .val (.int p2), .val (.int (2 : Int32)), .unset, .unset, .unset, .unset, .unset, .unset] [])) t → Steps p.tables e below (s₁.setTop (entryFrame m #[(.int p0), (.int p1), (.int p2)] maxLocals)) t := fun t kt => pre1 t (by rw [qr43]; exact kt)
        obtain ⟨T45, h45, X45, e45, E45, A45, D45, U45, st45⟩ := newO X0 hx hZ hown (hw _ (List.mem_of_getElem? (i := 0) rfl)) (hw _ (List.mem_of_getElem? (i := 1) rfl)) (hw _ (List.mem_of_getElem? (i := 2) rfl)) e0 (g := (mkF m 4 #[.val (.int p0), .val (.int p1), .val (.int p2), .val (.int (2 : Int32)), .unset, .unset, .unset, .unset, .unset, .unset] [])) rfl (hb hby at_4) (by decide) (by decide)
        obtain ⟨b45, g45⟩ : ∃ z, z = h0.size := ⟨_, rfl⟩
        rw [← g45] at A45 D45 st45
        have g_b45 : n0 ≤ b45 := Nat.le_trans Z0 (Nat.le_of_eq g45.symm)
        have sz_b45 : h0.size ≤ b45 := Nat.le_trans (Keep.refl h0 []).1 (Nat.le_of_eq g45.symm)
        have K45 : Keep h0 h45 [] := (Keep.refl h0 []).ext E45
        have F_count_b45 : Fld Z h45 b45 "com/example/wandel/wandel/replay/Observations" "count" "[I" .null := D45 (Or.inr (hw _ (List.mem_of_getElem? (i := 11) rfl))) (ty := (.array .int)) (by decide)
        have F_changes_b45 : Fld Z h45 b45 "com/example/wandel/wandel/replay/Observations" "changes" "[I" .null := D45 (Or.inr (hw _ (List.mem_of_getElem? (i := 13) rfl))) (ty := (.array .int)) (by decide)
        have F_lastChanged_b45 : Fld Z h45 b45 "com/example/wandel/wandel/replay/Observations" "lastChanged" "[Z" .null := D45 (Or.inr (hw _ (List.mem_of_getElem? (i := 16) rfl))) (ty := (.array .boolean)) (by decide)
        have F_arithmetic_b45 : Fld Z h45 b45 "com/example/wandel/wandel/replay/Observations" "arithmetic" "[J" .null := D45 (Or.inr (hw _ (List.mem_of_getElem? (i := 19) rfl))) (ty := (.array .long)) (by decide)
        have F_geometric_b45 : Fld Z h45 b45 "com/example/wandel/wandel/replay/Observations" "geometric" "[D" .null := D45 (Or.inr (hw _ (List.mem_of_getElem? (i := 22) rfl))) (ty := (.array .double)) (by decide)
        obtain ⟨_, _, ⟨T46, L46, k46, n46⟩, -, X46, ⟨Lc46, hQ46, ll46, ly46, lz46⟩, st46⟩ := X45.specialBack hx (y := (⟨"com/example/wandel/wandel/replay/Observations", "<init>", "(I)V"⟩ : MethodName)) rfl hown (mvT hZ (hw _ (List.mem_of_getElem? (i := 3) rfl))) (mvT hZ (hw _ (List.mem_of_getElem? (i := 4) rfl))) (mvT hZ (hw _ (List.mem_of_getElem? (i := 5) rfl))) (by decide) (backOf (W := 1) (rm1n2 l Z a0 hw [] b45 h45 n0 (Nat.le_trans Z0 E45.1) A45 F_count_b45 F_changes_b45 F_lastChanged_b45 F_arithmetic_b45 F_geometric_b45 g_b45) hZ (hw _ (List.mem_of_getElem? (i := 5) rfl)) (hw _ (List.mem_of_getElem? (i := 2) rfl)) (by decide) (by decide)) (g := (mkF m 9 #[.val (.int p0), .val (.int p1), .val (.int p2), .val (.int (2 : Int32)), .unset, .unset, .unset, .unset, .unset, .unset] [(.int (2 : Int32)), (.ref b45), (.ref b45)])) rfl (by rw [hml]; rfl) (Steps.refl _) (a := b45) (argsL := [(.int (2 : Int32))]) (rest := [(.ref b45)]) (lenOf pd__I_V rfl) rfl (by show 2 * 0 + _ ≤ _; exact Nat.le_of_eq rfl) (hb hby at_9) (fun _ _ => ⟨rfl, e45, (by decide : 1 + 5 ≤ _), (by decide : 5 + 10 ≤ _)⟩)
        dsimp only [Pt.U, Pt.locs, Pt.cells, Pt.slots] at X46 ll46 ly46 lz46 st46 hQ46
        subst ll46 ly46 lz46
        obtain ⟨ca46, ch46, lc46, ar46, ge46, kca46, kch46, klc46, kar46, kge46, rfl, N46q, K46c, P46_0, P46_1, P46_2, P46_3, P46_4, P46_5, P46_6, P46_7, P46_8, P46_9, P46_10, P46_11, P46_12, P46_13, P46_14, P46_15, P46_16, P46_17, P46_18, P46_19, P46_20, P46_21, P46_22, P46_23, P46_24, P46_25, P46_26, P46_27, P46_28, P46_29, P46_30⟩ := hQ46
        have N46 := Fr.app N0 N46q
        have K46 : Keep h0 T46.heap [] := K45.trans K46c (allS (Or.inr sz_b45) all0)
        have g_ca46 : n0 ≤ ca46 := Nat.le_trans (Nat.le_trans Z0 E45.1) P46_26
        have sz_ca46 : h0.size ≤ ca46 := Nat.le_trans K45.1 P46_26
        have g_ch46 : n0 ≤ ch46 := Nat.le_trans (Nat.le_trans Z0 E45.1) P46_27
        have sz_ch46 : h0.size ≤ ch46 := Nat.le_trans K45.1 P46_27
        have g_lc46 : n0 ≤ lc46 := Nat.le_trans (Nat.le_trans Z0 E45.1) P46_28
        have sz_lc46 : h0.size ≤ lc46 := Nat.le_trans K45.1 P46_28
        have g_ar46 : n0 ≤ ar46 := Nat.le_trans (Nat.le_trans Z0 E45.1) P46_29
        have sz_ar46 : h0.size ≤ ar46 := Nat.le_trans K45.1 P46_29
        have g_ge46 : n0 ≤ ge46 := Nat.le_trans (Nat.le_trans Z0 E45.1) P46_30
        have sz_ge46 : h0.size ≤ ge46 := Nat.le_trans K45.1 P46_30
        obtain ⟨T47, h47, k47, X47, e47, E47, A47, st47⟩ := newP X46 hx hZ (hw _ (List.mem_of_getElem? (i := 17) rfl)) (rfl : T46.heap = T46.heap) (g := (mkF m 15 #[.val (.int p0), .val (.int p1), .val (.int p2), .val (.int (2 : Int32)), .val (.ref b45), .unset, .unset, .unset, .unset, .unset] [(.int (2 : Int32))])) rfl (hb hby at_15) rfl (by decide) (cap := 2) (by decide) (by decide) (by decide) (by decide)
        obtain ⟨b47, g47⟩ : ∃ z, z = T46.heap.size := ⟨_, rfl⟩
        rw [← g47] at A47 st47
        have ne48 : b45 ≠ b47 := Nat.ne_of_lt (Nat.lt_of_lt_of_le P46_0.lt (Nat.le_of_eq g47.symm))
        have ne49 : ca46 ≠ b47 := Nat.ne_of_lt (Nat.lt_of_lt_of_le P46_6.lt (Nat.le_of_eq g47.symm))
        have ne50 : ch46 ≠ b47 := Nat.ne_of_lt (Nat.lt_of_lt_of_le P46_7.lt (Nat.le_of_eq g47.symm))
        have ne51 : lc46 ≠ b47 := Nat.ne_of_lt (Nat.lt_of_lt_of_le P46_8.lt (Nat.le_of_eq g47.symm))
        have ne52 : ar46 ≠ b47 := Nat.ne_of_lt (Nat.lt_of_lt_of_le P46_9.lt (Nat.le_of_eq g47.symm))
        have ne53 : ge46 ≠ b47 := Nat.ne_of_lt (Nat.lt_of_lt_of_le P46_10.lt (Nat.le_of_eq g47.symm))
        have g_b47 : n0 ≤ b47 := Nat.le_trans (Nat.le_trans (Nat.le_trans Z0 E45.1) K46c.1) (Nat.le_of_eq g47.symm)
        have sz_b47 : h0.size ≤ b47 := Nat.le_trans K46.1 (Nat.le_of_eq g47.symm)
        have V_b47 : Arv Z h47 b47 k47 .long (2 : Int32) [(.long (0 : Int64)), (.long (0 : Int64))] (.long (0 : Int64)) := (Arv.new A47 (by decide)).pad (pad_rep [] (.long (0 : Int64)) 2)
        have K47 : Keep h0 h47 [] := K46.ext E47
        obtain ⟨_, _, ⟨T54, L54, k54, n54⟩, -, X54, ⟨Lc54, hQ54, ll54, ly54, lz54⟩, st54⟩ := Jvm.LawKit.callS X47 hx (y := (⟨"com/example/wandel/wandel/replay/ObservationsChangeSharePinLaw", "step", "(Lcom/example/wandel/wandel/replay/Observations;IIIII[J)V"⟩ : MethodName)) hown (mvT hZ (hw _ (List.mem_of_getElem? (i := 23) rfl))) (mvT hZ (hw _ (List.mem_of_getElem? (i := 24) rfl))) (mvT hZ (hw _ (List.mem_of_getElem? (i := 25) rfl))) (mvT hZ (hw _ (List.mem_of_getElem? (i := 26) rfl))) (by decide) (backOf (W := 0) (rm3n2 l Z a0 hw [] b45 p0 p1 p2 (0 : Int32) b47 ca46 ch46 lc46 ar46 ge46 kca46 kch46 klc46 kar46 kge46 k47 (0 : Int32) (0 : Int32) (0 : Int32) (0 : Int32) (0 : Int32) (0 : Int32) (0 : Int64) (0 : Int64) (0 : UInt64) (0 : UInt64) (0 : Int64) (0 : Int64) (0 : Int) h47 n0 (Nat.le_trans (Nat.le_trans (Nat.le_trans Z0 E45.1) K46c.1) E47.1) (Exa.ext E47 P46_0) (Fld.ext E47 P46_1) (Fld.ext E47 P46_2) (Fld.ext E47 P46_3) (Fld.ext E47 P46_4) (Fld.ext E47 P46_5) (P46_6.ext E47) (P46_7.ext E47) (P46_8.ext E47) (P46_9.ext E47) (P46_10.ext E47) V_b47 P46_11 P46_12 P46_13 P46_14 P46_15 P46_16 P46_17 P46_18 P46_19 P46_20 P46_21 P46_22 P46_23 P46_24 P46_25 ne48 ne49 ne50 ne51 ne52 ne53 g_ca46 g_ch46 g_lc46 g_ar46 g_ge46 g_b47 own_init2 (by decide)) hZ (hw _ (List.mem_of_getElem? (i := 26) rfl)) (hw _ (List.mem_of_getElem? (i := 25) rfl)) (by decide) (by decide)) (g := (mkF m 28 #[.val (.int p0), .val (.int p1), .val (.int p2), .val (.int (2 : Int32)), .val (.ref b45), .val (.ref b47), .unset, .unset, .unset, .unset] [(.ref b47), (.int (0 : Int32)), (.int p2), (.int p1), (.int p0), (.int (2 : Int32)), (.ref b45)])) rfl (by rw [hml]; rfl) (argsL := [(.ref b45), (.int (2 : Int32)), (.int p0), (.int p1), (.int p2), (.int (0 : Int32)), (.ref b47)]) (rest := []) (lenOf pd__Lcom_example_wandel_wandel_replay_Observations_IIIII_J_V rfl) rfl (by show 2 * 0 + _ ≤ _; exact Nat.le_of_eq rfl) (hb hby at_28) (fun _ _ => ⟨rfl, e47, (by decide : 7 + 0 ≤ _), (by decide : 17 + 0 ≤ _)⟩)
        dsimp only [Pt.U, Pt.locs, Pt.cells, Pt.slots] at X54 ll54 ly54 lz54 st54 hQ54
        subst ll54 ly54 lz54
        obtain ⟨v0'54, v1'54, c0'54, c1'54, l0'54, l1'54, m0'54, m1'54, g0'54, g1'54, t0'54, t1'54, rfl, N54q, K54c, P54_0, P54_1, P54_2, P54_3, P54_4, P54_5, P54_6⟩ := hQ54
        have N54 := Fr.app N46 N54q
        have K54 : Keep h0 T54.heap [] := K47.trans K54c (allS (Or.inr sz_ca46) (allS (Or.inr sz_ch46) (allS (Or.inr sz_lc46) (allS (Or.inr sz_ar46) (allS (Or.inr sz_ge46) (allS (Or.inr sz_b47) all0))))))
        obtain ⟨_, _, ⟨T55, L55, k55, n55⟩, -, X55, ⟨Lc55, hQ55, ll55, ly55, lz55⟩, st55⟩ := Jvm.LawKit.callS X54 hx (y := (⟨"com/example/wandel/wandel/replay/ObservationsChangeSharePinLaw", "step", "(Lcom/example/wandel/wandel/replay/Observations;IIIII[J)V"⟩ : MethodName)) hown (mvT hZ (hw _ (List.mem_of_getElem? (i := 23) rfl))) (mvT hZ (hw _ (List.mem_of_getElem? (i := 24) rfl))) (mvT hZ (hw _ (List.mem_of_getElem? (i := 25) rfl))) (mvT hZ (hw _ (List.mem_of_getElem? (i := 26) rfl))) (by decide) (backOf (W := 0) (rm3n2 l Z a0 hw [] b45 p0 p1 p2 (1 : Int32) b47 ca46 ch46 lc46 ar46 ge46 kca46 kch46 klc46 kar46 kge46 k47 v0'54 v1'54 c0'54 c1'54 l0'54 l1'54 m0'54 m1'54 g0'54 g1'54 t0'54 t1'54 ((0 : Int) + 1) T54.heap n0 (Nat.le_trans (Nat.le_trans (Nat.le_trans (Nat.le_trans Z0 E45.1) K46c.1) E47.1) K54c.1) (Exa.keep (Exa.ext E47 P46_0) K54c) ((Fld.ext E47 P46_1).keep K54c (ninS P46_11 (ninS P46_12 (ninS P46_13 (ninS P46_14 (ninS P46_15 (ninS ne48 nin0))))))) ((Fld.ext E47 P46_2).keep K54c (ninS P46_11 (ninS P46_12 (ninS P46_13 (ninS P46_14 (ninS P46_15 (ninS ne48 nin0))))))) ((Fld.ext E47 P46_3).keep K54c (ninS P46_11 (ninS P46_12 (ninS P46_13 (ninS P46_14 (ninS P46_15 (ninS ne48 nin0))))))) ((Fld.ext E47 P46_4).keep K54c (ninS P46_11 (ninS P46_12 (ninS P46_13 (ninS P46_14 (ninS P46_15 (ninS ne48 nin0))))))) ((Fld.ext E47 P46_5).keep K54c (ninS P46_11 (ninS P46_12 (ninS P46_13 (ninS P46_14 (ninS P46_15 (ninS ne48 nin0))))))) P54_0 P54_1 P54_2 P54_3 P54_4 P54_5 P46_11 P46_12 P46_13 P46_14 P46_15 P46_16 P46_17 P46_18 P46_19 P46_20 P46_21 P46_22 P46_23 P46_24 P46_25 ne48 ne49 ne50 ne51 ne52 ne53 g_ca46 g_ch46 g_lc46 g_ar46 g_ge46 g_b47 P54_6 (by decide)) hZ (hw _ (List.mem_of_getElem? (i := 26) rfl)) (hw _ (List.mem_of_getElem? (i := 25) rfl)) (by decide) (by decide)) (g := (mkF m 40 #[.val (.int p0), .val (.int p1), .val (.int p2), .val (.int (2 : Int32)), .val (.ref b45), .val (.ref b47), .unset, .unset, .unset, .unset] [(.ref b47), (.int (1 : Int32)), (.int p2), (.int p1), (.int p0), (.int (2 : Int32)), (.ref b45)])) rfl (by rw [hml]; rfl) (argsL := [(.ref b45), (.int (2 : Int32)), (.int p0), (.int p1), (.int p2), (.int (1 : Int32)), (.ref b47)]) (rest := []) (lenOf pd__Lcom_example_wandel_wandel_replay_Observations_IIIII_J_V rfl) rfl (by show 2 * 0 + _ ≤ _; exact Nat.le_of_eq rfl) (hb hby at_40) (fun _ _ => ⟨rfl, (rfl : T54.heap = T54.heap), (by decide : 7 + 0 ≤ _), (by decide : 17 + 0 ≤ _)⟩)
        dsimp only [Pt.U, Pt.locs, Pt.cells, Pt.slots] at X55 ll55 ly55 lz55 st55 hQ55
        subst ll55 ly55 lz55
        obtain ⟨v0'55, v1'55, c0'55, c1'55, l0'55, l1'55, m0'55, m1'55, g0'55, g1'55, t0'55, t1'55, rfl, N55q, K55c, P55_0, P55_1, P55_2, P55_3, P55_4, P55_5, P55_6⟩ := hQ55
        have N55 := Fr.app N54 N55q
        have K55 : Keep h0 T55.heap [] := K54.trans K55c (allS (Or.inr sz_ca46) (allS (Or.inr sz_ch46) (allS (Or.inr sz_lc46) (allS (Or.inr sz_ar46) (allS (Or.inr sz_ge46) (allS (Or.inr sz_b47) all0))))))
        obtain ⟨_, _, ⟨T56, L56, k56, n56⟩, -, X56, ⟨Lc56, hQ56, ll56, ly56, lz56⟩, st56⟩ := Jvm.LawKit.callS X55 hx (y := (⟨"com/example/wandel/wandel/replay/ObservationsChangeSharePinLaw", "step", "(Lcom/example/wandel/wandel/replay/Observations;IIIII[J)V"⟩ : MethodName)) hown (mvT hZ (hw _ (List.mem_of_getElem? (i := 23) rfl))) (mvT hZ (hw _ (List.mem_of_getElem? (i := 24) rfl))) (mvT hZ (hw _ (List.mem_of_getElem? (i := 25) rfl))) (mvT hZ (hw _ (List.mem_of_getElem? (i := 26) rfl))) (by decide) (backOf (W := 0) (rm3n2 l Z a0 hw [] b45 p0 p1 p2 (2 : Int32) b47 ca46 ch46 lc46 ar46 ge46 kca46 kch46 klc46 kar46 kge46 k47 v0'55 v1'55 c0'55 c1'55 l0'55 l1'55 m0'55 m1'55 g0'55 g1'55 t0'55 t1'55 (((0 : Int) + 1) + 1) T55.heap n0 (Nat.le_trans (Nat.le_trans (Nat.le_trans (Nat.le_trans (Nat.le_trans Z0 E45.1) K46c.1) E47.1) K54c.1) K55c.1) (Exa.keep (Exa.keep (Exa.ext E47 P46_0) K54c) K55c) (((Fld.ext E47 P46_1).keep K54c (ninS P46_11 (ninS P46_12 (ninS P46_13 (ninS P46_14 (ninS P46_15 (ninS ne48 nin0))))))).keep K55c (ninS P46_11 (ninS P46_12 (ninS P46_13 (ninS P46_14 (ninS P46_15 (ninS ne48 nin0))))))) (((Fld.ext E47 P46_2).keep K54c (ninS P46_11 (ninS P46_12 (ninS P46_13 (ninS P46_14 (ninS P46_15 (ninS ne48 nin0))))))).keep K55c (ninS P46_11 (ninS P46_12 (ninS P46_13 (ninS P46_14 (ninS P46_15 (ninS ne48 nin0))))))) (((Fld.ext E47 P46_3).keep K54c (ninS P46_11 (ninS P46_12 (ninS P46_13 (ninS P46_14 (ninS P46_15 (ninS ne48 nin0))))))).keep K55c (ninS P46_11 (ninS P46_12 (ninS P46_13 (ninS P46_14 (ninS P46_15 (ninS ne48 nin0))))))) (((Fld.ext E47 P46_4).keep K54c (ninS P46_11 (ninS P46_12 (ninS P46_13 (ninS P46_14 (ninS P46_15 (ninS ne48 nin0))))))).keep K55c (ninS P46_11 (ninS P46_12 (ninS P46_13 (ninS P46_14 (ninS P46_15 (ninS ne48 nin0))))))) (((Fld.ext E47 P46_5).keep K54c (ninS P46_11 (ninS P46_12 (ninS P46_13 (ninS P46_14 (ninS P46_15 (ninS ne48 nin0))))))).keep K55c (ninS P46_11 (ninS P46_12 (ninS P46_13 (ninS P46_14 (ninS P46_15 (ninS ne48 nin0))))))) P55_0 P55_1 P55_2 P55_3 P55_4 P55_5 P46_11 P46_12 P46_13 P46_14 P46_15 P46_16 P46_17 P46_18 P46_19 P46_20 P46_21 P46_22 P46_23 P46_24 P46_25 ne48 ne49 ne50 ne51 ne52 ne53 g_ca46 g_ch46 g_lc46 g_ar46 g_ge46 g_b47 P55_6 (by decide)) hZ (hw _ (List.mem_of_getElem? (i := 26) rfl)) (hw _ (List.mem_of_getElem? (i := 25) rfl)) (by decide) (by decide)) (g := (mkF m 52 #[.val (.int p0), .val (.int p1), .val (.int p2), .val (.int (2 : Int32)), .val (.ref b45), .val (.ref b47), .unset, .unset, .unset, .unset] [(.ref b47), (.int (2 : Int32)), (.int p2), (.int p1), (.int p0), (.int (2 : Int32)), (.ref b45)])) rfl (by rw [hml]; rfl) (argsL := [(.ref b45), (.int (2 : Int32)), (.int p0), (.int p1), (.int p2), (.int (2 : Int32)), (.ref b47)]) (rest := []) (lenOf pd__Lcom_example_wandel_wandel_replay_Observations_IIIII_J_V rfl) rfl (by show 2 * 0 + _ ≤ _; exact Nat.le_of_eq rfl) (hb hby at_52) (fun _ _ => ⟨rfl, (rfl : T55.heap = T55.heap), (by decide : 7 + 0 ≤ _), (by decide : 17 + 0 ≤ _)⟩)
        dsimp only [Pt.U, Pt.locs, Pt.cells, Pt.slots] at X56 ll56 ly56 lz56 st56 hQ56
        subst ll56 ly56 lz56
        obtain ⟨v0'56, v1'56, c0'56, c1'56, l0'56, l1'56, m0'56, m1'56, g0'56, g1'56, t0'56, t1'56, rfl, N56q, K56c, P56_0, P56_1, P56_2, P56_3, P56_4, P56_5, P56_6⟩ := hQ56
        have N56 := Fr.app N55 N56q
        have K56 : Keep h0 T56.heap [] := K55.trans K56c (allS (Or.inr sz_ca46) (allS (Or.inr sz_ch46) (allS (Or.inr sz_lc46) (allS (Or.inr sz_ar46) (allS (Or.inr sz_ge46) (allS (Or.inr sz_b47) all0))))))
        obtain ⟨_, _, ⟨T57, L57, k57, n57⟩, -, X57, ⟨Lc57, hQ57, ll57, ly57, lz57⟩, st57⟩ := Jvm.LawKit.callS X56 hx (y := (⟨"com/example/wandel/wandel/replay/ObservationsChangeSharePinLaw", "step", "(Lcom/example/wandel/wandel/replay/Observations;IIIII[J)V"⟩ : MethodName)) hown (mvT hZ (hw _ (List.mem_of_getElem? (i := 23) rfl))) (mvT hZ (hw _ (List.mem_of_getElem? (i := 24) rfl))) (mvT hZ (hw _ (List.mem_of_getElem? (i := 25) rfl))) (mvT hZ (hw _ (List.mem_of_getElem? (i := 26) rfl))) (by decide) (backOf (W := 0) (rm3n2 l Z a0 hw [] b45 p0 p1 p2 (3 : Int32) b47 ca46 ch46 lc46 ar46 ge46 kca46 kch46 klc46 kar46 kge46 k47 v0'56 v1'56 c0'56 c1'56 l0'56 l1'56 m0'56 m1'56 g0'56 g1'56 t0'56 t1'56 ((((0 : Int) + 1) + 1) + 1) T56.heap n0 (Nat.le_trans (Nat.le_trans (Nat.le_trans (Nat.le_trans (Nat.le_trans (Nat.le_trans Z0 E45.1) K46c.1) E47.1) K54c.1) K55c.1) K56c.1) (Exa.keep (Exa.keep (Exa.keep (Exa.ext E47 P46_0) K54c) K55c) K56c) ((((Fld.ext E47 P46_1).keep K54c (ninS P46_11 (ninS P46_12 (ninS P46_13 (ninS P46_14 (ninS P46_15 (ninS ne48 nin0))))))).keep K55c (ninS P46_11 (ninS P46_12 (ninS P46_13 (ninS P46_14 (ninS P46_15 (ninS ne48 nin0))))))).keep K56c (ninS P46_11 (ninS P46_12 (ninS P46_13 (ninS P46_14 (ninS P46_15 (ninS ne48 nin0))))))) ((((Fld.ext E47 P46_2).keep K54c (ninS P46_11 (ninS P46_12 (ninS P46_13 (ninS P46_14 (ninS P46_15 (ninS ne48 nin0))))))).keep K55c (ninS P46_11 (ninS P46_12 (ninS P46_13 (ninS P46_14 (ninS P46_15 (ninS ne48 nin0))))))).keep K56c (ninS P46_11 (ninS P46_12 (ninS P46_13 (ninS P46_14 (ninS P46_15 (ninS ne48 nin0))))))) ((((Fld.ext E47 P46_3).keep K54c (ninS P46_11 (ninS P46_12 (ninS P46_13 (ninS P46_14 (ninS P46_15 (ninS ne48 nin0))))))).keep K55c (ninS P46_11 (ninS P46_12 (ninS P46_13 (ninS P46_14 (ninS P46_15 (ninS ne48 nin0))))))).keep K56c (ninS P46_11 (ninS P46_12 (ninS P46_13 (ninS P46_14 (ninS P46_15 (ninS ne48 nin0))))))) ((((Fld.ext E47 P46_4).keep K54c (ninS P46_11 (ninS P46_12 (ninS P46_13 (ninS P46_14 (ninS P46_15 (ninS ne48 nin0))))))).keep K55c (ninS P46_11 (ninS P46_12 (ninS P46_13 (ninS P46_14 (ninS P46_15 (ninS ne48 nin0))))))).keep K56c (ninS P46_11 (ninS P46_12 (ninS P46_13 (ninS P46_14 (ninS P46_15 (ninS ne48 nin0))))))) ((((Fld.ext E47 P46_5).keep K54c (ninS P46_11 (ninS P46_12 (ninS P46_13 (ninS P46_14 (ninS P46_15 (ninS ne48 nin0))))))).keep K55c (ninS P46_11 (ninS P46_12 (ninS P46_13 (ninS P46_14 (ninS P46_15 (ninS ne48 nin0))))))).keep K56c (ninS P46_11 (ninS P46_12 (ninS P46_13 (ninS P46_14 (ninS P46_15 (ninS ne48 nin0))))))) P56_0 P56_1 P56_2 P56_3 P56_4 P56_5 P46_11 P46_12 P46_13 P46_14 P46_15 P46_16 P46_17 P46_18 P46_19 P46_20 P46_21 P46_22 P46_23 P46_24 P46_25 ne48 ne49 ne50 ne51 ne52 ne53 g_ca46 g_ch46 g_lc46 g_ar46 g_ge46 g_b47 P56_6 (by decide)) hZ (hw _ (List.mem_of_getElem? (i := 26) rfl)) (hw _ (List.mem_of_getElem? (i := 25) rfl)) (by decide) (by decide)) (g := (mkF m 64 #[.val (.int p0), .val (.int p1), .val (.int p2), .val (.int (2 : Int32)), .val (.ref b45), .val (.ref b47), .unset, .unset, .unset, .unset] [(.ref b47), (.int (3 : Int32)), (.int p2), (.int p1), (.int p0), (.int (2 : Int32)), (.ref b45)])) rfl (by rw [hml]; rfl) (argsL := [(.ref b45), (.int (2 : Int32)), (.int p0), (.int p1), (.int p2), (.int (3 : Int32)), (.ref b47)]) (rest := []) (lenOf pd__Lcom_example_wandel_wandel_replay_Observations_IIIII_J_V rfl) rfl (by show 2 * 0 + _ ≤ _; exact Nat.le_of_eq rfl) (hb hby at_64) (fun _ _ => ⟨rfl, (rfl : T56.heap = T56.heap), (by decide : 7 + 0 ≤ _), (by decide : 17 + 0 ≤ _)⟩)
        dsimp only [Pt.U, Pt.locs, Pt.cells, Pt.slots] at X57 ll57 ly57 lz57 st57 hQ57
        subst ll57 ly57 lz57
        obtain ⟨v0'57, v1'57, c0'57, c1'57, l0'57, l1'57, m0'57, m1'57, g0'57, g1'57, t0'57, t1'57, rfl, N57q, K57c, P57_0, P57_1, P57_2, P57_3, P57_4, P57_5, P57_6⟩ := hQ57
        have N57 := Fr.app N56 N57q
        have K57 : Keep h0 T57.heap [] := K56.trans K57c (allS (Or.inr sz_ca46) (allS (Or.inr sz_ch46) (allS (Or.inr sz_lc46) (allS (Or.inr sz_ar46) (allS (Or.inr sz_ge46) (allS (Or.inr sz_b47) all0))))))
        obtain ⟨_, _, ⟨T58, L58, k58, n58⟩, -, X58, ⟨Lc58, hQ58, ll58, ly58, lz58⟩, st58⟩ := Jvm.LawKit.callS X57 hx (y := (⟨"com/example/wandel/wandel/replay/ObservationsChangeSharePinLaw", "step", "(Lcom/example/wandel/wandel/replay/Observations;IIIII[J)V"⟩ : MethodName)) hown (mvT hZ (hw _ (List.mem_of_getElem? (i := 23) rfl))) (mvT hZ (hw _ (List.mem_of_getElem? (i := 24) rfl))) (mvT hZ (hw _ (List.mem_of_getElem? (i := 25) rfl))) (mvT hZ (hw _ (List.mem_of_getElem? (i := 26) rfl))) (by decide) (backOf (W := 0) (rm3n2 l Z a0 hw [] b45 p0 p1 p2 (4 : Int32) b47 ca46 ch46 lc46 ar46 ge46 kca46 kch46 klc46 kar46 kge46 k47 v0'57 v1'57 c0'57 c1'57 l0'57 l1'57 m0'57 m1'57 g0'57 g1'57 t0'57 t1'57 (((((0 : Int) + 1) + 1) + 1) + 1) T57.heap n0 (Nat.le_trans (Nat.le_trans (Nat.le_trans (Nat.le_trans (Nat.le_trans (Nat.le_trans (Nat.le_trans Z0 E45.1) K46c.1) E47.1) K54c.1) K55c.1) K56c.1) K57c.1) (Exa.keep (Exa.keep (Exa.keep (Exa.keep (Exa.ext E47 P46_0) K54c) K55c) K56c) K57c) (((((Fld.ext E47 P46_1).keep K54c (ninS P46_11 (ninS P46_12 (ninS P46_13 (ninS P46_14 (ninS P46_15 (ninS ne48 nin0))))))).keep K55c (ninS P46_11 (ninS P46_12 (ninS P46_13 (ninS P46_14 (ninS P46_15 (ninS ne48 nin0))))))).keep K56c (ninS P46_11 (ninS P46_12 (ninS P46_13 (ninS P46_14 (ninS P46_15 (ninS ne48 nin0))))))).keep K57c (ninS P46_11 (ninS P46_12 (ninS P46_13 (ninS P46_14 (ninS P46_15 (ninS ne48 nin0))))))) (((((Fld.ext E47 P46_2).keep K54c (ninS P46_11 (ninS P46_12 (ninS P46_13 (ninS P46_14 (ninS P46_15 (ninS ne48 nin0))))))).keep K55c (ninS P46_11 (ninS P46_12 (ninS P46_13 (ninS P46_14 (ninS P46_15 (ninS ne48 nin0))))))).keep K56c (ninS P46_11 (ninS P46_12 (ninS P46_13 (ninS P46_14 (ninS P46_15 (ninS ne48 nin0))))))).keep K57c (ninS P46_11 (ninS P46_12 (ninS P46_13 (ninS P46_14 (ninS P46_15 (ninS ne48 nin0))))))) (((((Fld.ext E47 P46_3).keep K54c (ninS P46_11 (ninS P46_12 (ninS P46_13 (ninS P46_14 (ninS P46_15 (ninS ne48 nin0))))))).keep K55c (ninS P46_11 (ninS P46_12 (ninS P46_13 (ninS P46_14 (ninS P46_15 (ninS ne48 nin0))))))).keep K56c (ninS P46_11 (ninS P46_12 (ninS P46_13 (ninS P46_14 (ninS P46_15 (ninS ne48 nin0))))))).keep K57c (ninS P46_11 (ninS P46_12 (ninS P46_13 (ninS P46_14 (ninS P46_15 (ninS ne48 nin0))))))) (((((Fld.ext E47 P46_4).keep K54c (ninS P46_11 (ninS P46_12 (ninS P46_13 (ninS P46_14 (ninS P46_15 (ninS ne48 nin0))))))).keep K55c (ninS P46_11 (ninS P46_12 (ninS P46_13 (ninS P46_14 (ninS P46_15 (ninS ne48 nin0))))))).keep K56c (ninS P46_11 (ninS P46_12 (ninS P46_13 (ninS P46_14 (ninS P46_15 (ninS ne48 nin0))))))).keep K57c (ninS P46_11 (ninS P46_12 (ninS P46_13 (ninS P46_14 (ninS P46_15 (ninS ne48 nin0))))))) (((((Fld.ext E47 P46_5).keep K54c (ninS P46_11 (ninS P46_12 (ninS P46_13 (ninS P46_14 (ninS P46_15 (ninS ne48 nin0))))))).keep K55c (ninS P46_11 (ninS P46_12 (ninS P46_13 (ninS P46_14 (ninS P46_15 (ninS ne48 nin0))))))).keep K56c (ninS P46_11 (ninS P46_12 (ninS P46_13 (ninS P46_14 (ninS P46_15 (ninS ne48 nin0))))))).keep K57c (ninS P46_11 (ninS P46_12 (ninS P46_13 (ninS P46_14 (ninS P46_15 (ninS ne48 nin0))))))) P57_0 P57_1 P57_2 P57_3 P57_4 P57_5 P46_11 P46_12 P46_13 P46_14 P46_15 P46_16 P46_17 P46_18 P46_19 P46_20 P46_21 P46_22 P46_23 P46_24 P46_25 ne48 ne49 ne50 ne51 ne52 ne53 g_ca46 g_ch46 g_lc46 g_ar46 g_ge46 g_b47 P57_6 (by decide)) hZ (hw _ (List.mem_of_getElem? (i := 26) rfl)) (hw _ (List.mem_of_getElem? (i := 25) rfl)) (by decide) (by decide)) (g := (mkF m 76 #[.val (.int p0), .val (.int p1), .val (.int p2), .val (.int (2 : Int32)), .val (.ref b45), .val (.ref b47), .unset, .unset, .unset, .unset] [(.ref b47), (.int (4 : Int32)), (.int p2), (.int p1), (.int p0), (.int (2 : Int32)), (.ref b45)])) rfl (by rw [hml]; rfl) (argsL := [(.ref b45), (.int (2 : Int32)), (.int p0), (.int p1), (.int p2), (.int (4 : Int32)), (.ref b47)]) (rest := []) (lenOf pd__Lcom_example_wandel_wandel_replay_Observations_IIIII_J_V rfl) rfl (by show 2 * 0 + _ ≤ _; exact Nat.le_of_eq rfl) (hb hby at_76) (fun _ _ => ⟨rfl, (rfl : T57.heap = T57.heap), (by decide : 7 + 0 ≤ _), (by decide : 17 + 0 ≤ _)⟩)
        dsimp only [Pt.U, Pt.locs, Pt.cells, Pt.slots] at X58 ll58 ly58 lz58 st58 hQ58
        subst ll58 ly58 lz58
        obtain ⟨v0'58, v1'58, c0'58, c1'58, l0'58, l1'58, m0'58, m1'58, g0'58, g1'58, t0'58, t1'58, rfl, N58q, K58c, P58_0, P58_1, P58_2, P58_3, P58_4, P58_5, P58_6⟩ := hQ58
        have N58 := Fr.app N57 N58q
        have K58 : Keep h0 T58.heap [] := K57.trans K58c (allS (Or.inr sz_ca46) (allS (Or.inr sz_ch46) (allS (Or.inr sz_lc46) (allS (Or.inr sz_ar46) (allS (Or.inr sz_ge46) (allS (Or.inr sz_b47) all0))))))
        obtain ⟨_, _, ⟨T59, L59, k59, n59⟩, -, X59, ⟨Lc59, hQ59, ll59, ly59, lz59⟩, st59⟩ := Jvm.LawKit.callS X58 hx (y := (⟨"com/example/wandel/wandel/replay/ObservationsChangeSharePinLaw", "step", "(Lcom/example/wandel/wandel/replay/Observations;IIIII[J)V"⟩ : MethodName)) hown (mvT hZ (hw _ (List.mem_of_getElem? (i := 23) rfl))) (mvT hZ (hw _ (List.mem_of_getElem? (i := 24) rfl))) (mvT hZ (hw _ (List.mem_of_getElem? (i := 25) rfl))) (mvT hZ (hw _ (List.mem_of_getElem? (i := 26) rfl))) (by decide) (backOf (W := 0) (rm3n2 l Z a0 hw [] b45 p0 p1 p2 (5 : Int32) b47 ca46 ch46 lc46 ar46 ge46 kca46 kch46 klc46 kar46 kge46 k47 v0'58 v1'58 c0'58 c1'58 l0'58 l1'58 m0'58 m1'58 g0'58 g1'58 t0'58 t1'58 ((((((0 : Int) + 1) + 1) + 1) + 1) + 1) T58.heap n0 (Nat.le_trans (Nat.le_trans (Nat.le_trans (Nat.le_trans (Nat.le_trans (Nat.le_trans (Nat.le_trans (Nat.le_trans Z0 E45.1) K46c.1) E47.1) K54c.1) K55c.1) K56c.1) K57c.1) K58c.1) (Exa.keep (Exa.keep (Exa.keep (Exa.keep (Exa.keep (Exa.ext E47 P46_0) K54c) K55c) K56c) K57c) K58c) ((((((Fld.ext E47 P46_1).keep K54c (ninS P46_11 (ninS P46_12 (ninS P46_13 (ninS P46_14 (ninS P46_15 (ninS ne48 nin0))))))).keep K55c (ninS P46_11 (ninS P46_12 (ninS P46_13 (ninS P46_14 (ninS P46_15 (ninS ne48 nin0))))))).keep K56c (ninS P46_11 (ninS P46_12 (ninS P46_13 (ninS P46_14 (ninS P46_15 (ninS ne48 nin0))))))).keep K57c (ninS P46_11 (ninS P46_12 (ninS P46_13 (ninS P46_14 (ninS P46_15 (ninS ne48 nin0))))))).keep K58c (ninS P46_11 (ninS P46_12 (ninS P46_13 (ninS P46_14 (ninS P46_15 (ninS ne48 nin0))))))) ((((((Fld.ext E47 P46_2).keep K54c (ninS P46_11 (ninS P46_12 (ninS P46_13 (ninS P46_14 (ninS P46_15 (ninS ne48 nin0))))))).keep K55c (ninS P46_11 (ninS P46_12 (ninS P46_13 (ninS P46_14 (ninS P46_15 (ninS ne48 nin0))))))).keep K56c (ninS P46_11 (ninS P46_12 (ninS P46_13 (ninS P46_14 (ninS P46_15 (ninS ne48 nin0))))))).keep K57c (ninS P46_11 (ninS P46_12 (ninS P46_13 (ninS P46_14 (ninS P46_15 (ninS ne48 nin0))))))).keep K58c (ninS P46_11 (ninS P46_12 (ninS P46_13 (ninS P46_14 (ninS P46_15 (ninS ne48 nin0))))))) ((((((Fld.ext E47 P46_3).keep K54c (ninS P46_11 (ninS P46_12 (ninS P46_13 (ninS P46_14 (ninS P46_15 (ninS ne48 nin0))))))).keep K55c (ninS P46_11 (ninS P46_12 (ninS P46_13 (ninS P46_14 (ninS P46_15 (ninS ne48 nin0))))))).keep K56c (ninS P46_11 (ninS P46_12 (ninS P46_13 (ninS P46_14 (ninS P46_15 (ninS ne48 nin0))))))).keep K57c (ninS P46_11 (ninS P46_12 (ninS P46_13 (ninS P46_14 (ninS P46_15 (ninS ne48 nin0))))))).keep K58c (ninS P46_11 (ninS P46_12 (ninS P46_13 (ninS P46_14 (ninS P46_15 (ninS ne48 nin0))))))) ((((((Fld.ext E47 P46_4).keep K54c (ninS P46_11 (ninS P46_12 (ninS P46_13 (ninS P46_14 (ninS P46_15 (ninS ne48 nin0))))))).keep K55c (ninS P46_11 (ninS P46_12 (ninS P46_13 (ninS P46_14 (ninS P46_15 (ninS ne48 nin0))))))).keep K56c (ninS P46_11 (ninS P46_12 (ninS P46_13 (ninS P46_14 (ninS P46_15 (ninS ne48 nin0))))))).keep K57c (ninS P46_11 (ninS P46_12 (ninS P46_13 (ninS P46_14 (ninS P46_15 (ninS ne48 nin0))))))).keep K58c (ninS P46_11 (ninS P46_12 (ninS P46_13 (ninS P46_14 (ninS P46_15 (ninS ne48 nin0))))))) ((((((Fld.ext E47 P46_5).keep K54c (ninS P46_11 (ninS P46_12 (ninS P46_13 (ninS P46_14 (ninS P46_15 (ninS ne48 nin0))))))).keep K55c (ninS P46_11 (ninS P46_12 (ninS P46_13 (ninS P46_14 (ninS P46_15 (ninS ne48 nin0))))))).keep K56c (ninS P46_11 (ninS P46_12 (ninS P46_13 (ninS P46_14 (ninS P46_15 (ninS ne48 nin0))))))).keep K57c (ninS P46_11 (ninS P46_12 (ninS P46_13 (ninS P46_14 (ninS P46_15 (ninS ne48 nin0))))))).keep K58c (ninS P46_11 (ninS P46_12 (ninS P46_13 (ninS P46_14 (ninS P46_15 (ninS ne48 nin0))))))) P58_0 P58_1 P58_2 P58_3 P58_4 P58_5 P46_11 P46_12 P46_13 P46_14 P46_15 P46_16 P46_17 P46_18 P46_19 P46_20 P46_21 P46_22 P46_23 P46_24 P46_25 ne48 ne49 ne50 ne51 ne52 ne53 g_ca46 g_ch46 g_lc46 g_ar46 g_ge46 g_b47 P58_6 (by decide)) hZ (hw _ (List.mem_of_getElem? (i := 26) rfl)) (hw _ (List.mem_of_getElem? (i := 25) rfl)) (by decide) (by decide)) (g := (mkF m 88 #[.val (.int p0), .val (.int p1), .val (.int p2), .val (.int (2 : Int32)), .val (.ref b45), .val (.ref b47), .unset, .unset, .unset, .unset] [(.ref b47), (.int (5 : Int32)), (.int p2), (.int p1), (.int p0), (.int (2 : Int32)), (.ref b45)])) rfl (by rw [hml]; rfl) (argsL := [(.ref b45), (.int (2 : Int32)), (.int p0), (.int p1), (.int p2), (.int (5 : Int32)), (.ref b47)]) (rest := []) (lenOf pd__Lcom_example_wandel_wandel_replay_Observations_IIIII_J_V rfl) rfl (by show 2 * 0 + _ ≤ _; exact Nat.le_of_eq rfl) (hb hby at_88) (fun _ _ => ⟨rfl, (rfl : T58.heap = T58.heap), (by decide : 7 + 0 ≤ _), (by decide : 17 + 0 ≤ _)⟩)
        dsimp only [Pt.U, Pt.locs, Pt.cells, Pt.slots] at X59 ll59 ly59 lz59 st59 hQ59
        subst ll59 ly59 lz59
        obtain ⟨v0'59, v1'59, c0'59, c1'59, l0'59, l1'59, m0'59, m1'59, g0'59, g1'59, t0'59, t1'59, rfl, N59q, K59c, P59_0, P59_1, P59_2, P59_3, P59_4, P59_5, P59_6⟩ := hQ59
        have N59 := Fr.app N58 N59q
        have K59 : Keep h0 T59.heap [] := K58.trans K59c (allS (Or.inr sz_ca46) (allS (Or.inr sz_ch46) (allS (Or.inr sz_lc46) (allS (Or.inr sz_ar46) (allS (Or.inr sz_ge46) (allS (Or.inr sz_b47) all0))))))
        obtain ⟨cq60, kq60, q60a, q60b, q60c⟩ := isOf hZ (rfl : T59.heap = T59.heap) (Exa.keep (Exa.keep (Exa.keep (Exa.keep (Exa.keep (Exa.keep (Exa.ext E47 P46_0) K54c) K55c) K56c) K57c) K58c) K59c)
        obtain ⟨_, _, ⟨T60, L60, k60, n60⟩, -, X60, ⟨Lc60, hQ60, ll60, ly60, lz60⟩, st60⟩ := X59.virtualBack hx (y := (⟨"com/example/wandel/wandel/replay/Observations", "changeShare", "()D"⟩ : MethodName)) (z := (⟨"com/example/wandel/wandel/replay/Observations", "changeShare", "()D"⟩ : MethodName)) hown (mvT hZ (hw _ (List.mem_of_getElem? (i := 27) rfl))) (mvT hZ (hw _ (List.mem_of_getElem? (i := 28) rfl))) (notFace_of_selects (args := #[]) (mvT hZ (hw _ (List.mem_of_getElem? (i := 30) rfl)))) (mvT hZ (hw _ (List.mem_of_getElem? (i := 30) rfl))) (mvT hZ (hw _ (List.mem_of_getElem? (i := 29) rfl))) (by decide) (backOf (W := 0) (rm4n2 l Z a0 hw [] b45 ca46 ch46 kca46 kch46 v0'59 v1'59 c0'59 c1'59 T59.heap n0 (Nat.le_trans (Nat.le_trans (Nat.le_trans (Nat.le_trans (Nat.le_trans (Nat.le_trans (Nat.le_trans (Nat.le_trans (Nat.le_trans Z0 E45.1) K46c.1) E47.1) K54c.1) K55c.1) K56c.1) K57c.1) K58c.1) K59c.1) (((((((Fld.ext E47 P46_1).keep K54c (ninS P46_11 (ninS P46_12 (ninS P46_13 (ninS P46_14 (ninS P46_15 (ninS ne48 nin0))))))).keep K55c (ninS P46_11 (ninS P46_12 (ninS P46_13 (ninS P46_14 (ninS P46_15 (ninS ne48 nin0))))))).keep K56c (ninS P46_11 (ninS P46_12 (ninS P46_13 (ninS P46_14 (ninS P46_15 (ninS ne48 nin0))))))).keep K57c (ninS P46_11 (ninS P46_12 (ninS P46_13 (ninS P46_14 (ninS P46_15 (ninS ne48 nin0))))))).keep K58c (ninS P46_11 (ninS P46_12 (ninS P46_13 (ninS P46_14 (ninS P46_15 (ninS ne48 nin0))))))).keep K59c (ninS P46_11 (ninS P46_12 (ninS P46_13 (ninS P46_14 (ninS P46_15 (ninS ne48 nin0))))))) (((((((Fld.ext E47 P46_2).keep K54c (ninS P46_11 (ninS P46_12 (ninS P46_13 (ninS P46_14 (ninS P46_15 (ninS ne48 nin0))))))).keep K55c (ninS P46_11 (ninS P46_12 (ninS P46_13 (ninS P46_14 (ninS P46_15 (ninS ne48 nin0))))))).keep K56c (ninS P46_11 (ninS P46_12 (ninS P46_13 (ninS P46_14 (ninS P46_15 (ninS ne48 nin0))))))).keep K57c (ninS P46_11 (ninS P46_12 (ninS P46_13 (ninS P46_14 (ninS P46_15 (ninS ne48 nin0))))))).keep K58c (ninS P46_11 (ninS P46_12 (ninS P46_13 (ninS P46_14 (ninS P46_15 (ninS ne48 nin0))))))).keep K59c (ninS P46_11 (ninS P46_12 (ninS P46_13 (ninS P46_14 (ninS P46_15 (ninS ne48 nin0))))))) P59_0 P59_1) hZ (hw _ (List.mem_of_getElem? (i := 31) rfl)) (hw _ (List.mem_of_getElem? (i := 2) rfl)) (by decide) (by decide)) q60a q60c (g := (mkF m 93 #[.val (.int p0), .val (.int p1), .val (.int p2), .val (.int (2 : Int32)), .val (.ref b45), .val (.ref b47), .unset, .unset, .unset, .unset] [(.ref b45)])) rfl (by rw [hml]; rfl) (Steps.refl _) (argsL := []) (rest := []) (lenOf pd___D rfl) rfl (by show 2 * 0 + _ ≤ _; exact Nat.le_of_eq rfl) (hb hby at_93) (fun _ _ => ⟨rfl, (rfl : T59.heap = T59.heap), (by decide : 7 + 0 ≤ _), (by decide : 17 + 0 ≤ _)⟩)
        dsimp only [Pt.U, Pt.locs, Pt.cells, Pt.slots] at X60 ll60 ly60 lz60 st60 hQ60
        subst ll60 ly60 lz60
        obtain ⟨rfl, N60q, e60⟩ := hQ60
        have N60 := Fr.app N59 N60q
        obtain ⟨cl61, Ar61, qa61, S61, Nl61, H61, G61⟩ := id P59_5
        have hin61 : ¬ ((0 : Int32) < 0 ∨ cl61.slots.size ≤ ((0 : Int32)).toNatClampNeg) := inb_of S61 ⟨by decide, by decide⟩
        have hat61 : cl61.slots[((0 : Int32)).toNatClampNeg]? = some (.long t0'59) := Has.at H61 hin61 rfl
        have pre62 : ∀ t, Steps p.tables e below (T60.setTop (mkF m 104 #[.val (.int p0), .val (.int p1), .val (.int p2), .val (.int (2 : Int32)), .val (.ref b45), .val (.ref b47), .val (.double (F4n2 v0'59 v1'59 c0'59 c1'59)), .second, .unset, .unset] [(.int (lcmpW t0'59 (0 : Int64)))])) t → Steps p.tables e below (s₁.setTop (entryFrame m #[(.int p0), (.int p1), (.int p2)] maxLocals)) t := fun t kt => pre44 t (by
          show Steps p.tables e below (s₁.setTop (mkF m 4 #[.val (.int p0), .val (.int p1), .val (.int p2), .val (.int (2 : Int32)), .unset, .unset, .unset, .unset, .unset, .unset] [])) _
          refine st45 _ ?_
          refine XS.dup X45.here hx rfl (hb hby at_7) rfl rfl ?_
          refine XS.iloadN X45.here hx rfl (hb hby at_8) rfl ?_
          refine st46.trans ?_
          refine XS.astore X46.here hx rfl (hb hby at_12) rfl rfl (l' := #[.val (.int p0), .val (.int p1), .val (.int p2), .val (.int (2 : Int32)), .val (.ref b45), .unset, .unset, .unset, .unset, .unset]) rfl ?_
          refine XS.iconst X46.here hx rfl (hb hby at_14) ?_
          refine st47 _ ?_
          refine XS.astore X47.here hx rfl (hb hby at_17) rfl rfl (l' := #[.val (.int p0), .val (.int p1), .val (.int p2), .val (.int (2 : Int32)), .val (.ref b45), .val (.ref b47), .unset, .unset, .unset, .unset]) rfl ?_
          show Steps p.tables e below (T47.setTop (mkF m 19 #[.val (.int p0), .val (.int p1), .val (.int p2), .val (.int (2 : Int32)), .val (.ref b45), .val (.ref b47), .unset, .unset, .unset, .unset] [])) _
          refine XS.aload X47.here hx rfl (hb hby at_19) rfl rfl ?_
          refine XS.iloadN X47.here hx rfl (hb hby at_21) rfl ?_
          refine XS.iloadN X47.here hx rfl (hb hby at_22) rfl ?_
          refine XS.iloadN X47.here hx rfl (hb hby at_23) rfl ?_
          refine XS.iloadN X47.here hx rfl (hb hby at_24) rfl ?_
          refine XS.iconst X47.here hx rfl (hb hby at_25) ?_
          refine XS.aload X47.here hx rfl (hb hby at_26) rfl rfl ?_
          refine st54 _ ?_
          show Steps p.tables e below (T54.setTop (mkF m 31 #[.val (.int p0), .val (.int p1), .val (.int p2), .val (.int (2 : Int32)), .val (.ref b45), .val (.ref b47), .unset, .unset, .unset, .unset] [])) _
          refine XS.aload X54.here hx rfl (hb hby at_31) rfl rfl ?_
          refine XS.iloadN X54.here hx rfl (hb hby at_33) rfl ?_
          refine XS.iloadN X54.here hx rfl (hb hby at_34) rfl ?_
          refine XS.iloadN X54.here hx rfl (hb hby at_35) rfl ?_
          refine XS.iloadN X54.here hx rfl (hb hby at_36) rfl ?_
          refine XS.iconst X54.here hx rfl (hb hby at_37) ?_
          refine XS.aload X54.here hx rfl (hb hby at_38) rfl rfl ?_
          refine st55 _ ?_
          show Steps p.tables e below (T55.setTop (mkF m 43 #[.val (.int p0), .val (.int p1), .val (.int p2), .val (.int (2 : Int32)), .val (.ref b45), .val (.ref b47), .unset, .unset, .unset, .unset] [])) _
          refine XS.aload X55.here hx rfl (hb hby at_43) rfl rfl ?_
          refine XS.iloadN X55.here hx rfl (hb hby at_45) rfl ?_
          refine XS.iloadN X55.here hx rfl (hb hby at_46) rfl ?_
          refine XS.iloadN X55.here hx rfl (hb hby at_47) rfl ?_
          refine XS.iloadN X55.here hx rfl (hb hby at_48) rfl ?_
          refine XS.iconst X55.here hx rfl (hb hby at_49) ?_
          refine XS.aload X55.here hx rfl (hb hby at_50) rfl rfl ?_
          refine st56 _ ?_
          show Steps p.tables e below (T56.setTop (mkF m 55 #[.val (.int p0), .val (.int p1), .val (.int p2), .val (.int (2 : Int32)), .val (.ref b45), .val (.ref b47), .unset, .unset, .unset, .unset] [])) _
          refine XS.aload X56.here hx rfl (hb hby at_55) rfl rfl ?_
          refine XS.iloadN X56.here hx rfl (hb hby at_57) rfl ?_
          refine XS.iloadN X56.here hx rfl (hb hby at_58) rfl ?_
          refine XS.iloadN X56.here hx rfl (hb hby at_59) rfl ?_
          refine XS.iloadN X56.here hx rfl (hb hby at_60) rfl ?_
          refine XS.iconst X56.here hx rfl (hb hby at_61) ?_
          refine XS.aload X56.here hx rfl (hb hby at_62) rfl rfl ?_
          refine st57 _ ?_
          show Steps p.tables e below (T57.setTop (mkF m 67 #[.val (.int p0), .val (.int p1), .val (.int p2), .val (.int (2 : Int32)), .val (.ref b45), .val (.ref b47), .unset, .unset, .unset, .unset] [])) _
          refine XS.aload X57.here hx rfl (hb hby at_67) rfl rfl ?_
          refine XS.iloadN X57.here hx rfl (hb hby at_69) rfl ?_
          refine XS.iloadN X57.here hx rfl (hb hby at_70) rfl ?_
          refine XS.iloadN X57.here hx rfl (hb hby at_71) rfl ?_
          refine XS.iloadN X57.here hx rfl (hb hby at_72) rfl ?_
          refine XS.iconst X57.here hx rfl (hb hby at_73) ?_
          refine XS.aload X57.here hx rfl (hb hby at_74) rfl rfl ?_
          refine st58 _ ?_
          show Steps p.tables e below (T58.setTop (mkF m 79 #[.val (.int p0), .val (.int p1), .val (.int p2), .val (.int (2 : Int32)), .val (.ref b45), .val (.ref b47), .unset, .unset, .unset, .unset] [])) _
          refine XS.aload X58.here hx rfl (hb hby at_79) rfl rfl ?_
          refine XS.iloadN X58.here hx rfl (hb hby at_81) rfl ?_
          refine XS.iloadN X58.here hx rfl (hb hby at_82) rfl ?_
          refine XS.iloadN X58.here hx rfl (hb hby at_83) rfl ?_
          refine XS.iloadN X58.here hx rfl (hb hby at_84) rfl ?_
          refine XS.iconst X58.here hx rfl (hb hby at_85) ?_
          refine XS.aload X58.here hx rfl (hb hby at_86) rfl rfl ?_
          refine st59 _ ?_
          show Steps p.tables e below (T59.setTop (mkF m 91 #[.val (.int p0), .val (.int p1), .val (.int p2), .val (.int (2 : Int32)), .val (.ref b45), .val (.ref b47), .unset, .unset, .unset, .unset] [])) _
          refine XS.aload X59.here hx rfl (hb hby at_91) rfl rfl ?_
          refine st60.trans ?_
          refine own_dstore X60.here hx rfl (hb hby at_96) rfl (l' := #[.val (.int p0), .val (.int p1), .val (.int p2), .val (.int (2 : Int32)), .val (.ref b45), .val (.ref b47), .val (.double (F4n2 v0'59 v1'59 c0'59 c1'59)), .second, .unset, .unset]) rfl ?_
          refine XS.aload X60.here hx rfl (hb hby at_98) rfl rfl ?_
          refine XS.iconst X60.here hx rfl (hb hby at_100) ?_
          refine X60.laload hx (j := (0 : Int32)) (v := (.long t0'59)) (by rw [e60]; exact Ar61.1) (State.isArrayOf_alike hZ.alike Ar61.2.1) Ar61.2.2 hin61 hat61 (g := (mkF m 101 #[.val (.int p0), .val (.int p1), .val (.int p2), .val (.int (2 : Int32)), .val (.ref b45), .val (.ref b47), .val (.double (F4n2 v0'59 v1'59 c0'59 c1'59)), .second, .unset, .unset] [(.int (0 : Int32)), (.ref b47)])) rfl rfl (hb hby at_101) _ ?_
          refine XS.lconst X60.here hx rfl (hb hby at_102) ?_
          refine XS.lcmp X60.here hx rfl (hb hby at_103) rfl ?_
          exact kt)
        by_cases hc104 : (lcmpW t0'59 (0 : Int64)) = (0 : Int32)
        · obtain ⟨fs, hr, hrun, hended, hW, hsame⟩ := X60.leave (v := some (.int (1 : Int32))) (fun h => by rw [Bd.returns] at h; cases h)
          refine ⟨_, _, pre62 _ ?_, hrun, hended, _, _, rfl, ?_, ⟨_, rfl⟩, hW, hsame.mono (by decide) (by decide)⟩
          · show Steps p.tables e below (T60.setTop (mkF m 104 #[.val (.int p0), .val (.int p1), .val (.int p2), .val (.int (2 : Int32)), .val (.ref b45), .val (.ref b47), .val (.double (F4n2 v0'59 v1'59 c0'59 c1'59)), .second, .unset, .unset] [(.int (lcmpW t0'59 (0 : Int64)))])) _
            refine XS.ifNo X60.here hx rfl (hb hby at_104) rfl ((if0 _ _).trans (teq hc104).2) ?_
            refine own_dconst0 X60.here hx rfl (hb hby at_107) ?_
            refine XS.goto X60.here hx rfl (pc0 := 108) (pc' := 122) rfl (hb hby at_108) (by decide) (by decide) ?_
            refine own_dstore X60.here hx rfl (hb hby at_122) rfl (l' := #[.val (.int p0), .val (.int p1), .val (.int p2), .val (.int (2 : Int32)), .val (.ref b45), .val (.ref b47), .val (.double (F4n2 v0'59 v1'59 c0'59 c1'59)), .second, .val (.double FP.dconst0), .second]) rfl ?_
            refine own_dload X60.here hx rfl (hb hby at_124) rfl ?_
            refine own_dload X60.here hx rfl (hb hby at_126) rfl ?_
            refine own_dcmpl X60.here hx rfl (hb hby at_128) rfl ?_
            refine XS.ifNo X60.here hx rfl (hb hby at_129) rfl ((if0 _ _).trans (teq (own_gz2 (by decide) P59_6 hc104)).2) ?_
            show Steps p.tables e below (T60.setTop (mkF m 132 #[.val (.int p0), .val (.int p1), .val (.int p2), .val (.int (2 : Int32)), .val (.ref b45), .val (.ref b47), .val (.double (F4n2 v0'59 v1'59 c0'59 c1'59)), .second, .val (.double FP.dconst0), .second] [])) _
            refine XS.iconst X60.here hx rfl (hb hby at_132) ?_
            refine XS.goto X60.here hx rfl (pc0 := 133) (pc' := 137) rfl (hb hby at_133) (by decide) (by decide) ?_
            show Steps p.tables e below (T60.setTop (mkF m 137 #[.val (.int p0), .val (.int p1), .val (.int p2), .val (.int (2 : Int32)), .val (.ref b45), .val (.ref b47), .val (.double (F4n2 v0'59 v1'59 c0'59 c1'59)), .second, .val (.double FP.dconst0), .second] [(.int (1 : Int32))])) _
            exact retN X60 hx (t := .boolean) Bd.returns (by simp) (hb hby at_137) hr
          · show Q0 Z p0 p1 p2 h0 n0 _ T60.heap _
            rw [e60]
            exact ⟨rfl, N60⟩
        · obtain ⟨cl63, Ar63, qa63, S63, Nl63, H63, G63⟩ := id P59_5
          have hin63 : ¬ ((1 : Int32) < 0 ∨ cl63.slots.size ≤ ((1 : Int32)).toNatClampNeg) := inb_of S63 ⟨by decide, by decide⟩
          have hat63 : cl63.slots[((1 : Int32)).toNatClampNeg]? = some (.long t1'59) := Has.at H63 hin63 rfl
          obtain ⟨cl64, Ar64, qa64, S64, Nl64, H64, G64⟩ := id P59_5
          have hin64 : ¬ ((0 : Int32) < 0 ∨ cl64.slots.size ≤ ((0 : Int32)).toNatClampNeg) := inb_of S64 ⟨by decide, by decide⟩
          have hat64 : cl64.slots[((0 : Int32)).toNatClampNeg]? = some (.long t0'59) := Has.at H64 hin64 rfl
          obtain ⟨fs, hr, hrun, hended, hW, hsame⟩ := X60.leave (v := some (.int (1 : Int32))) (fun h => by rw [Bd.returns] at h; cases h)
          refine ⟨_, _, pre62 _ ?_, hrun, hended, _, _, rfl, ?_, ⟨_, rfl⟩, hW, hsame.mono (by decide) (by decide)⟩
          · show Steps p.tables e below (T60.setTop (mkF m 104 #[.val (.int p0), .val (.int p1), .val (.int p2), .val (.int (2 : Int32)), .val (.ref b45), .val (.ref b47), .val (.double (F4n2 v0'59 v1'59 c0'59 c1'59)), .second, .unset, .unset] [(.int (lcmpW t0'59 (0 : Int64)))])) _
            refine XS.ifYes X60.here hx rfl (pc0 := 104) (pc' := 111) rfl (hb hby at_104) rfl ((if0 _ _).trans (feq hc104).2) (by decide) (by decide) ?_
            refine XS.aload X60.here hx rfl (hb hby at_111) rfl rfl ?_
            refine XS.iconst X60.here hx rfl (hb hby at_113) ?_
            refine X60.laload hx (j := (1 : Int32)) (v := (.long t1'59)) (by rw [e60]; exact Ar63.1) (State.isArrayOf_alike hZ.alike Ar63.2.1) Ar63.2.2 hin63 hat63 (g := (mkF m 114 #[.val (.int p0), .val (.int p1), .val (.int p2), .val (.int (2 : Int32)), .val (.ref b45), .val (.ref b47), .val (.double (F4n2 v0'59 v1'59 c0'59 c1'59)), .second, .unset, .unset] [(.int (1 : Int32)), (.ref b47)])) rfl rfl (hb hby at_114) _ ?_
            refine own_l2d X60.here hx rfl (hb hby at_115) rfl ?_
            refine XS.aload X60.here hx rfl (hb hby at_116) rfl rfl ?_
            refine XS.iconst X60.here hx rfl (hb hby at_118) ?_
            refine X60.laload hx (j := (0 : Int32)) (v := (.long t0'59)) (by rw [e60]; exact Ar64.1) (State.isArrayOf_alike hZ.alike Ar64.2.1) Ar64.2.2 hin64 hat64 (g := (mkF m 119 #[.val (.int p0), .val (.int p1), .val (.int p2), .val (.int (2 : Int32)), .val (.ref b45), .val (.ref b47), .val (.double (F4n2 v0'59 v1'59 c0'59 c1'59)), .second, .unset, .unset] [(.int (0 : Int32)), (.ref b47), (.double (FP.l2d t1'59))])) rfl rfl (hb hby at_119) _ ?_
            show Steps p.tables e below (T60.setTop (mkF m 120 #[.val (.int p0), .val (.int p1), .val (.int p2), .val (.int (2 : Int32)), .val (.ref b45), .val (.ref b47), .val (.double (F4n2 v0'59 v1'59 c0'59 c1'59)), .second, .unset, .unset] [(.long t0'59), (.double (FP.l2d t1'59))])) _
            refine own_l2d X60.here hx rfl (hb hby at_120) rfl ?_
            show Steps p.tables e below (T60.setTop (mkF m 121 #[.val (.int p0), .val (.int p1), .val (.int p2), .val (.int (2 : Int32)), .val (.ref b45), .val (.ref b47), .val (.double (F4n2 v0'59 v1'59 c0'59 c1'59)), .second, .unset, .unset] [(.double (FP.l2d t0'59)), (.double (FP.l2d t1'59))])) _
            refine own_ddiv X60.here hx (hb hby at_121) (own_nq _ _ hc104) ?_
            refine own_dstore X60.here hx rfl (hb hby at_122) rfl (l' := #[.val (.int p0), .val (.int p1), .val (.int p2), .val (.int (2 : Int32)), .val (.ref b45), .val (.ref b47), .val (.double (F4n2 v0'59 v1'59 c0'59 c1'59)), .second, .val (.double (FP.ddiv (FP.l2d t1'59) (FP.l2d t0'59))), .second]) rfl ?_
            refine own_dload X60.here hx rfl (hb hby at_124) rfl ?_
            refine own_dload X60.here hx rfl (hb hby at_126) rfl ?_
            refine own_dcmpl X60.here hx rfl (hb hby at_128) rfl ?_
            refine XS.ifNo X60.here hx rfl (hb hby at_129) rfl ((if0 _ _).trans (teq (own_gq2 (by decide) P59_6 hc104)).2) ?_
            refine XS.iconst X60.here hx rfl (hb hby at_132) ?_
            show Steps p.tables e below (T60.setTop (mkF m 133 #[.val (.int p0), .val (.int p1), .val (.int p2), .val (.int (2 : Int32)), .val (.ref b45), .val (.ref b47), .val (.double (F4n2 v0'59 v1'59 c0'59 c1'59)), .second, .val (.double (FP.ddiv (FP.l2d t1'59) (FP.l2d t0'59))), .second] [(.int (1 : Int32))])) _
            refine XS.goto X60.here hx rfl (pc0 := 133) (pc' := 137) rfl (hb hby at_133) (by decide) (by decide) ?_
            show Steps p.tables e below (T60.setTop (mkF m 137 #[.val (.int p0), .val (.int p1), .val (.int p2), .val (.int (2 : Int32)), .val (.ref b45), .val (.ref b47), .val (.double (F4n2 v0'59 v1'59 c0'59 c1'59)), .second, .val (.double (FP.ddiv (FP.l2d t1'59) (FP.l2d t0'59))), .second] [(.int (1 : Int32))])) _
            exact retN X60 hx (t := .boolean) Bd.returns (by simp) (hb hby at_137) hr
          · show Q0 Z p0 p1 p2 h0 n0 _ T60.heap _
            rw [e60]
            exact ⟨rfl, N60⟩
      · by_cases hi3 : (A0_3 p0 p1 p2) = (3 : Int32)
        · have qr65 : (A0_3 p0 p1 p2) = (3 : Int32) := hi3
          have pre66 : ∀ t, Steps p.tables e below (s₁.setTop (mkF m 4 #[.val (.int p0), .val (.int p1), .val (.int p2), .val (.int (3 : Int32)), .unset, .unset, .unset, .unset, .unset, .unset] [])) t → Steps p.tables e below (s₁.setTop (entryFrame m #[(.int p0), (.int p1), (.int p2)] maxLocals)) t := fun t kt => pre1 t (by rw [qr65]; exact kt)
          obtain ⟨T67, h67, X67, e67, E67, A67, D67, U67, st67⟩ := newO X0 hx hZ hown (hw _ (List.mem_of_getElem? (i := 0) rfl)) (hw _ (List.mem_of_getElem? (i := 1) rfl)) (hw _ (List.mem_of_getElem? (i := 2) rfl)) e0 (g := (mkF m 4 #[.val (.int p0), .val (.int p1), .val (.int p2), .val (.int (3 : Int32)), .unset, .unset, .unset, .unset, .unset, .unset] [])) rfl (hb hby at_4) (by decide) (by decide)
          obtain ⟨b67, g67⟩ : ∃ z, z = h0.size := ⟨_, rfl⟩
          rw [← g67] at A67 D67 st67
          have g_b67 : n0 ≤ b67 := Nat.le_trans Z0 (Nat.le_of_eq g67.symm)
          have sz_b67 : h0.size ≤ b67 := Nat.le_trans (Keep.refl h0 []).1 (Nat.le_of_eq g67.symm)
          have K67 : Keep h0 h67 [] := (Keep.refl h0 []).ext E67
          have F_count_b67 : Fld Z h67 b67 "com/example/wandel/wandel/replay/Observations" "count" "[I" .null := D67 (Or.inr (hw _ (List.mem_of_getElem? (i := 11) rfl))) (ty := (.array .int)) (by decide)
          have F_changes_b67 : Fld Z h67 b67 "com/example/wandel/wandel/replay/Observations" "changes" "[I" .null := D67 (Or.inr (hw _ (List.mem_of_getElem? (i := 13) rfl))) (ty := (.array .int)) (by decide)
          have F_lastChanged_b67 : Fld Z h67 b67 "com/example/wandel/wandel/replay/Observations" "lastChanged" "[Z" .null := D67 (Or.inr (hw _ (List.mem_of_getElem? (i := 16) rfl))) (ty := (.array .boolean)) (by decide)
          have F_arithmetic_b67 : Fld Z h67 b67 "com/example/wandel/wandel/replay/Observations" "arithmetic" "[J" .null := D67 (Or.inr (hw _ (List.mem_of_getElem? (i := 19) rfl))) (ty := (.array .long)) (by decide)
          have F_geometric_b67 : Fld Z h67 b67 "com/example/wandel/wandel/replay/Observations" "geometric" "[D" .null := D67 (Or.inr (hw _ (List.mem_of_getElem? (i := 22) rfl))) (ty := (.array .double)) (by decide)
          obtain ⟨_, _, ⟨T68, L68, k68, n68⟩, -, X68, ⟨Lc68, hQ68, ll68, ly68, lz68⟩, st68⟩ := X67.specialBack hx (y := (⟨"com/example/wandel/wandel/replay/Observations", "<init>", "(I)V"⟩ : MethodName)) rfl hown (mvT hZ (hw _ (List.mem_of_getElem? (i := 3) rfl))) (mvT hZ (hw _ (List.mem_of_getElem? (i := 4) rfl))) (mvT hZ (hw _ (List.mem_of_getElem? (i := 5) rfl))) (by decide) (backOf (W := 1) (rm1n3 l Z a0 hw [] b67 h67 n0 (Nat.le_trans Z0 E67.1) A67 F_count_b67 F_changes_b67 F_lastChanged_b67 F_arithmetic_b67 F_geometric_b67 g_b67) hZ (hw _ (List.mem_of_getElem? (i := 5) rfl)) (hw _ (List.mem_of_getElem? (i := 2) rfl)) (by decide) (by decide)) (g := (mkF m 9 #[.val (.int p0), .val (.int p1), .val (.int p2), .val (.int (3 : Int32)), .unset, .unset, .unset, .unset, .unset, .unset] [(.int (3 : Int32)), (.ref b67), (.ref b67)])) rfl (by rw [hml]; rfl) (Steps.refl _) (a := b67) (argsL := [(.int (3 : Int32))]) (rest := [(.ref b67)]) (lenOf pd__I_V rfl) rfl (by show 2 * 0 + _ ≤ _; exact Nat.le_of_eq rfl) (hb hby at_9) (fun _ _ => ⟨rfl, e67, (by decide : 1 + 5 ≤ _), (by decide : 5 + 15 ≤ _)⟩)
          dsimp only [Pt.U, Pt.locs, Pt.cells, Pt.slots] at X68 ll68 ly68 lz68 st68 hQ68
          subst ll68 ly68 lz68
          obtain ⟨ca68, ch68, lc68, ar68, ge68, kca68, kch68, klc68, kar68, kge68, rfl, N68q, K68c, P68_0, P68_1, P68_2, P68_3, P68_4, P68_5, P68_6, P68_7, P68_8, P68_9, P68_10, P68_11, P68_12, P68_13, P68_14, P68_15, P68_16, P68_17, P68_18, P68_19, P68_20, P68_21, P68_22, P68_23, P68_24, P68_25, P68_26, P68_27, P68_28, P68_29, P68_30⟩ := hQ68
          have N68 := Fr.app N0 N68q
          have K68 : Keep h0 T68.heap [] := K67.trans K68c (allS (Or.inr sz_b67) all0)
          have g_ca68 : n0 ≤ ca68 := Nat.le_trans (Nat.le_trans Z0 E67.1) P68_26
          have sz_ca68 : h0.size ≤ ca68 := Nat.le_trans K67.1 P68_26
          have g_ch68 : n0 ≤ ch68 := Nat.le_trans (Nat.le_trans Z0 E67.1) P68_27
          have sz_ch68 : h0.size ≤ ch68 := Nat.le_trans K67.1 P68_27
          have g_lc68 : n0 ≤ lc68 := Nat.le_trans (Nat.le_trans Z0 E67.1) P68_28
          have sz_lc68 : h0.size ≤ lc68 := Nat.le_trans K67.1 P68_28
          have g_ar68 : n0 ≤ ar68 := Nat.le_trans (Nat.le_trans Z0 E67.1) P68_29
          have sz_ar68 : h0.size ≤ ar68 := Nat.le_trans K67.1 P68_29
          have g_ge68 : n0 ≤ ge68 := Nat.le_trans (Nat.le_trans Z0 E67.1) P68_30
          have sz_ge68 : h0.size ≤ ge68 := Nat.le_trans K67.1 P68_30
          obtain ⟨T69, h69, k69, X69, e69, E69, A69, st69⟩ := newP X68 hx hZ (hw _ (List.mem_of_getElem? (i := 17) rfl)) (rfl : T68.heap = T68.heap) (g := (mkF m 15 #[.val (.int p0), .val (.int p1), .val (.int p2), .val (.int (3 : Int32)), .val (.ref b67), .unset, .unset, .unset, .unset, .unset] [(.int (2 : Int32))])) rfl (hb hby at_15) rfl (by decide) (cap := 2) (by decide) (by decide) (by decide) (by decide)
          obtain ⟨b69, g69⟩ : ∃ z, z = T68.heap.size := ⟨_, rfl⟩
          rw [← g69] at A69 st69
          have ne70 : b67 ≠ b69 := Nat.ne_of_lt (Nat.lt_of_lt_of_le P68_0.lt (Nat.le_of_eq g69.symm))
          have ne71 : ca68 ≠ b69 := Nat.ne_of_lt (Nat.lt_of_lt_of_le P68_6.lt (Nat.le_of_eq g69.symm))
          have ne72 : ch68 ≠ b69 := Nat.ne_of_lt (Nat.lt_of_lt_of_le P68_7.lt (Nat.le_of_eq g69.symm))
          have ne73 : lc68 ≠ b69 := Nat.ne_of_lt (Nat.lt_of_lt_of_le P68_8.lt (Nat.le_of_eq g69.symm))
          have ne74 : ar68 ≠ b69 := Nat.ne_of_lt (Nat.lt_of_lt_of_le P68_9.lt (Nat.le_of_eq g69.symm))
          have ne75 : ge68 ≠ b69 := Nat.ne_of_lt (Nat.lt_of_lt_of_le P68_10.lt (Nat.le_of_eq g69.symm))
          have g_b69 : n0 ≤ b69 := Nat.le_trans (Nat.le_trans (Nat.le_trans Z0 E67.1) K68c.1) (Nat.le_of_eq g69.symm)
          have sz_b69 : h0.size ≤ b69 := Nat.le_trans K68.1 (Nat.le_of_eq g69.symm)
          have V_b69 : Arv Z h69 b69 k69 .long (2 : Int32) [(.long (0 : Int64)), (.long (0 : Int64))] (.long (0 : Int64)) := (Arv.new A69 (by decide)).pad (pad_rep [] (.long (0 : Int64)) 2)
          have K69 : Keep h0 h69 [] := K68.ext E69
          obtain ⟨_, _, ⟨T76, L76, k76, n76⟩, -, X76, ⟨Lc76, hQ76, ll76, ly76, lz76⟩, st76⟩ := Jvm.LawKit.callS X69 hx (y := (⟨"com/example/wandel/wandel/replay/ObservationsChangeSharePinLaw", "step", "(Lcom/example/wandel/wandel/replay/Observations;IIIII[J)V"⟩ : MethodName)) hown (mvT hZ (hw _ (List.mem_of_getElem? (i := 23) rfl))) (mvT hZ (hw _ (List.mem_of_getElem? (i := 24) rfl))) (mvT hZ (hw _ (List.mem_of_getElem? (i := 25) rfl))) (mvT hZ (hw _ (List.mem_of_getElem? (i := 26) rfl))) (by decide) (backOf (W := 0) (rm3n3 l Z a0 hw [] b67 p0 p1 p2 (0 : Int32) b69 ca68 ch68 lc68 ar68 ge68 kca68 kch68 klc68 kar68 kge68 k69 (0 : Int32) (0 : Int32) (0 : Int32) (0 : Int32) (0 : Int32) (0 : Int32) (0 : Int32) (0 : Int32) (0 : Int32) (0 : Int64) (0 : Int64) (0 : Int64) (0 : UInt64) (0 : UInt64) (0 : UInt64) (0 : Int64) (0 : Int64) (0 : Int) h69 n0 (Nat.le_trans (Nat.le_trans (Nat.le_trans Z0 E67.1) K68c.1) E69.1) (Exa.ext E69 P68_0) (Fld.ext E69 P68_1) (Fld.ext E69 P68_2) (Fld.ext E69 P68_3) (Fld.ext E69 P68_4) (Fld.ext E69 P68_5) (P68_6.ext E69) (P68_7.ext E69) (P68_8.ext E69) (P68_9.ext E69) (P68_10.ext E69) V_b69 P68_11 P68_12 P68_13 P68_14 P68_15 P68_16 P68_17 P68_18 P68_19 P68_20 P68_21 P68_22 P68_23 P68_24 P68_25 ne70 ne71 ne72 ne73 ne74 ne75 g_ca68 g_ch68 g_lc68 g_ar68 g_ge68 g_b69 own_init3 (by decide)) hZ (hw _ (List.mem_of_getElem? (i := 26) rfl)) (hw _ (List.mem_of_getElem? (i := 25) rfl)) (by decide) (by decide)) (g := (mkF m 28 #[.val (.int p0), .val (.int p1), .val (.int p2), .val (.int (3 : Int32)), .val (.ref b67), .val (.ref b69), .unset, .unset, .unset, .unset] [(.ref b69), (.int (0 : Int32)), (.int p2), (.int p1), (.int p0), (.int (3 : Int32)), (.ref b67)])) rfl (by rw [hml]; rfl) (argsL := [(.ref b67), (.int (3 : Int32)), (.int p0), (.int p1), (.int p2), (.int (0 : Int32)), (.ref b69)]) (rest := []) (lenOf pd__Lcom_example_wandel_wandel_replay_Observations_IIIII_J_V rfl) rfl (by show 2 * 0 + _ ≤ _; exact Nat.le_of_eq rfl) (hb hby at_28) (fun _ _ => ⟨rfl, e69, (by decide : 7 + 0 ≤ _), (by decide : 22 + 0 ≤ _)⟩)
          dsimp only [Pt.U, Pt.locs, Pt.cells, Pt.slots] at X76 ll76 ly76 lz76 st76 hQ76
          subst ll76 ly76 lz76
          obtain ⟨v0'76, v1'76, v2'76, c0'76, c1'76, c2'76, l0'76, l1'76, l2'76, m0'76, m1'76, m2'76, g0'76, g1'76, g2'76, t0'76, t1'76, rfl, N76q, K76c, P76_0, P76_1, P76_2, P76_3, P76_4, P76_5, P76_6⟩ := hQ76
          have N76 := Fr.app N68 N76q
          have K76 : Keep h0 T76.heap [] := K69.trans K76c (allS (Or.inr sz_ca68) (allS (Or.inr sz_ch68) (allS (Or.inr sz_lc68) (allS (Or.inr sz_ar68) (allS (Or.inr sz_ge68) (allS (Or.inr sz_b69) all0))))))
          obtain ⟨_, _, ⟨T77, L77, k77, n77⟩, -, X77, ⟨Lc77, hQ77, ll77, ly77, lz77⟩, st77⟩ := Jvm.LawKit.callS X76 hx (y := (⟨"com/example/wandel/wandel/replay/ObservationsChangeSharePinLaw", "step", "(Lcom/example/wandel/wandel/replay/Observations;IIIII[J)V"⟩ : MethodName)) hown (mvT hZ (hw _ (List.mem_of_getElem? (i := 23) rfl))) (mvT hZ (hw _ (List.mem_of_getElem? (i := 24) rfl))) (mvT hZ (hw _ (List.mem_of_getElem? (i := 25) rfl))) (mvT hZ (hw _ (List.mem_of_getElem? (i := 26) rfl))) (by decide) (backOf (W := 0) (rm3n3 l Z a0 hw [] b67 p0 p1 p2 (1 : Int32) b69 ca68 ch68 lc68 ar68 ge68 kca68 kch68 klc68 kar68 kge68 k69 v0'76 v1'76 v2'76 c0'76 c1'76 c2'76 l0'76 l1'76 l2'76 m0'76 m1'76 m2'76 g0'76 g1'76 g2'76 t0'76 t1'76 ((0 : Int) + 1) T76.heap n0 (Nat.le_trans (Nat.le_trans (Nat.le_trans (Nat.le_trans Z0 E67.1) K68c.1) E69.1) K76c.1) (Exa.keep (Exa.ext E69 P68_0) K76c) ((Fld.ext E69 P68_1).keep K76c (ninS P68_11 (ninS P68_12 (ninS P68_13 (ninS P68_14 (ninS P68_15 (ninS ne70 nin0))))))) ((Fld.ext E69 P68_2).keep K76c (ninS P68_11 (ninS P68_12 (ninS P68_13 (ninS P68_14 (ninS P68_15 (ninS ne70 nin0))))))) ((Fld.ext E69 P68_3).keep K76c (ninS P68_11 (ninS P68_12 (ninS P68_13 (ninS P68_14 (ninS P68_15 (ninS ne70 nin0))))))) ((Fld.ext E69 P68_4).keep K76c (ninS P68_11 (ninS P68_12 (ninS P68_13 (ninS P68_14 (ninS P68_15 (ninS ne70 nin0))))))) ((Fld.ext E69 P68_5).keep K76c (ninS P68_11 (ninS P68_12 (ninS P68_13 (ninS P68_14 (ninS P68_15 (ninS ne70 nin0))))))) P76_0 P76_1 P76_2 P76_3 P76_4 P76_5 P68_11 P68_12 P68_13 P68_14 P68_15 P68_16 P68_17 P68_18 P68_19 P68_20 P68_21 P68_22 P68_23 P68_24 P68_25 ne70 ne71 ne72 ne73 ne74 ne75 g_ca68 g_ch68 g_lc68 g_ar68 g_ge68 g_b69 P76_6 (by decide)) hZ (hw _ (List.mem_of_getElem? (i := 26) rfl)) (hw _ (List.mem_of_getElem? (i := 25) rfl)) (by decide) (by decide)) (g := (mkF m 40 #[.val (.int p0), .val (.int p1), .val (.int p2), .val (.int (3 : Int32)), .val (.ref b67), .val (.ref b69), .unset, .unset, .unset, .unset] [(.ref b69), (.int (1 : Int32)), (.int p2), (.int p1), (.int p0), (.int (3 : Int32)), (.ref b67)])) rfl (by rw [hml]; rfl) (argsL := [(.ref b67), (.int (3 : Int32)), (.int p0), (.int p1), (.int p2), (.int (1 : Int32)), (.ref b69)]) (rest := []) (lenOf pd__Lcom_example_wandel_wandel_replay_Observations_IIIII_J_V rfl) rfl (by show 2 * 0 + _ ≤ _; exact Nat.le_of_eq rfl) (hb hby at_40) (fun _ _ => ⟨rfl, (rfl : T76.heap = T76.heap), (by decide : 7 + 0 ≤ _), (by decide : 22 + 0 ≤ _)⟩)
          dsimp only [Pt.U, Pt.locs, Pt.cells, Pt.slots] at X77 ll77 ly77 lz77 st77 hQ77
          subst ll77 ly77 lz77
          obtain ⟨v0'77, v1'77, v2'77, c0'77, c1'77, c2'77, l0'77, l1'77, l2'77, m0'77, m1'77, m2'77, g0'77, g1'77, g2'77, t0'77, t1'77, rfl, N77q, K77c, P77_0, P77_1, P77_2, P77_3, P77_4, P77_5, P77_6⟩ := hQ77
          have N77 := Fr.app N76 N77q
          have K77 : Keep h0 T77.heap [] := K76.trans K77c (allS (Or.inr sz_ca68) (allS (Or.inr sz_ch68) (allS (Or.inr sz_lc68) (allS (Or.inr sz_ar68) (allS (Or.inr sz_ge68) (allS (Or.inr sz_b69) all0))))))
          obtain ⟨_, _, ⟨T78, L78, k78, n78⟩, -, X78, ⟨Lc78, hQ78, ll78, ly78, lz78⟩, st78⟩ := Jvm.LawKit.callS X77 hx (y := (⟨"com/example/wandel/wandel/replay/ObservationsChangeSharePinLaw", "step", "(Lcom/example/wandel/wandel/replay/Observations;IIIII[J)V"⟩ : MethodName)) hown (mvT hZ (hw _ (List.mem_of_getElem? (i := 23) rfl))) (mvT hZ (hw _ (List.mem_of_getElem? (i := 24) rfl))) (mvT hZ (hw _ (List.mem_of_getElem? (i := 25) rfl))) (mvT hZ (hw _ (List.mem_of_getElem? (i := 26) rfl))) (by decide) (backOf (W := 0) (rm3n3 l Z a0 hw [] b67 p0 p1 p2 (2 : Int32) b69 ca68 ch68 lc68 ar68 ge68 kca68 kch68 klc68 kar68 kge68 k69 v0'77 v1'77 v2'77 c0'77 c1'77 c2'77 l0'77 l1'77 l2'77 m0'77 m1'77 m2'77 g0'77 g1'77 g2'77 t0'77 t1'77 (((0 : Int) + 1) + 1) T77.heap n0 (Nat.le_trans (Nat.le_trans (Nat.le_trans (Nat.le_trans (Nat.le_trans Z0 E67.1) K68c.1) E69.1) K76c.1) K77c.1) (Exa.keep (Exa.keep (Exa.ext E69 P68_0) K76c) K77c) (((Fld.ext E69 P68_1).keep K76c (ninS P68_11 (ninS P68_12 (ninS P68_13 (ninS P68_14 (ninS P68_15 (ninS ne70 nin0))))))).keep K77c (ninS P68_11 (ninS P68_12 (ninS P68_13 (ninS P68_14 (ninS P68_15 (ninS ne70 nin0))))))) (((Fld.ext E69 P68_2).keep K76c (ninS P68_11 (ninS P68_12 (ninS P68_13 (ninS P68_14 (ninS P68_15 (ninS ne70 nin0))))))).keep K77c (ninS P68_11 (ninS P68_12 (ninS P68_13 (ninS P68_14 (ninS P68_15 (ninS ne70 nin0))))))) (((Fld.ext E69 P68_3).keep K76c (ninS P68_11 (ninS P68_12 (ninS P68_13 (ninS P68_14 (ninS P68_15 (ninS ne70 nin0))))))).keep K77c (ninS P68_11 (ninS P68_12 (ninS P68_13 (ninS P68_14 (ninS P68_15 (ninS ne70 nin0))))))) (((Fld.ext E69 P68_4).keep K76c (ninS P68_11 (ninS P68_12 (ninS P68_13 (ninS P68_14 (ninS P68_15 (ninS ne70 nin0))))))).keep K77c (ninS P68_11 (ninS P68_12 (ninS P68_13 (ninS P68_14 (ninS P68_15 (ninS ne70 nin0))))))) (((Fld.ext E69 P68_5).keep K76c (ninS P68_11 (ninS P68_12 (ninS P68_13 (ninS P68_14 (ninS P68_15 (ninS ne70 nin0))))))).keep K77c (ninS P68_11 (ninS P68_12 (ninS P68_13 (ninS P68_14 (ninS P68_15 (ninS ne70 nin0))))))) P77_0 P77_1 P77_2 P77_3 P77_4 P77_5 P68_11 P68_12 P68_13 P68_14 P68_15 P68_16 P68_17 P68_18 P68_19 P68_20 P68_21 P68_22 P68_23 P68_24 P68_25 ne70 ne71 ne72 ne73 ne74 ne75 g_ca68 g_ch68 g_lc68 g_ar68 g_ge68 g_b69 P77_6 (by decide)) hZ (hw _ (List.mem_of_getElem? (i := 26) rfl)) (hw _ (List.mem_of_getElem? (i := 25) rfl)) (by decide) (by decide)) (g := (mkF m 52 #[.val (.int p0), .val (.int p1), .val (.int p2), .val (.int (3 : Int32)), .val (.ref b67), .val (.ref b69), .unset, .unset, .unset, .unset] [(.ref b69), (.int (2 : Int32)), (.int p2), (.int p1), (.int p0), (.int (3 : Int32)), (.ref b67)])) rfl (by rw [hml]; rfl) (argsL := [(.ref b67), (.int (3 : Int32)), (.int p0), (.int p1), (.int p2), (.int (2 : Int32)), (.ref b69)]) (rest := []) (lenOf pd__Lcom_example_wandel_wandel_replay_Observations_IIIII_J_V rfl) rfl (by show 2 * 0 + _ ≤ _; exact Nat.le_of_eq rfl) (hb hby at_52) (fun _ _ => ⟨rfl, (rfl : T77.heap = T77.heap), (by decide : 7 + 0 ≤ _), (by decide : 22 + 0 ≤ _)⟩)
          dsimp only [Pt.U, Pt.locs, Pt.cells, Pt.slots] at X78 ll78 ly78 lz78 st78 hQ78
          subst ll78 ly78 lz78
          obtain ⟨v0'78, v1'78, v2'78, c0'78, c1'78, c2'78, l0'78, l1'78, l2'78, m0'78, m1'78, m2'78, g0'78, g1'78, g2'78, t0'78, t1'78, rfl, N78q, K78c, P78_0, P78_1, P78_2, P78_3, P78_4, P78_5, P78_6⟩ := hQ78
          have N78 := Fr.app N77 N78q
          have K78 : Keep h0 T78.heap [] := K77.trans K78c (allS (Or.inr sz_ca68) (allS (Or.inr sz_ch68) (allS (Or.inr sz_lc68) (allS (Or.inr sz_ar68) (allS (Or.inr sz_ge68) (allS (Or.inr sz_b69) all0))))))
          obtain ⟨_, _, ⟨T79, L79, k79, n79⟩, -, X79, ⟨Lc79, hQ79, ll79, ly79, lz79⟩, st79⟩ := Jvm.LawKit.callS X78 hx (y := (⟨"com/example/wandel/wandel/replay/ObservationsChangeSharePinLaw", "step", "(Lcom/example/wandel/wandel/replay/Observations;IIIII[J)V"⟩ : MethodName)) hown (mvT hZ (hw _ (List.mem_of_getElem? (i := 23) rfl))) (mvT hZ (hw _ (List.mem_of_getElem? (i := 24) rfl))) (mvT hZ (hw _ (List.mem_of_getElem? (i := 25) rfl))) (mvT hZ (hw _ (List.mem_of_getElem? (i := 26) rfl))) (by decide) (backOf (W := 0) (rm3n3 l Z a0 hw [] b67 p0 p1 p2 (3 : Int32) b69 ca68 ch68 lc68 ar68 ge68 kca68 kch68 klc68 kar68 kge68 k69 v0'78 v1'78 v2'78 c0'78 c1'78 c2'78 l0'78 l1'78 l2'78 m0'78 m1'78 m2'78 g0'78 g1'78 g2'78 t0'78 t1'78 ((((0 : Int) + 1) + 1) + 1) T78.heap n0 (Nat.le_trans (Nat.le_trans (Nat.le_trans (Nat.le_trans (Nat.le_trans (Nat.le_trans Z0 E67.1) K68c.1) E69.1) K76c.1) K77c.1) K78c.1) (Exa.keep (Exa.keep (Exa.keep (Exa.ext E69 P68_0) K76c) K77c) K78c) ((((Fld.ext E69 P68_1).keep K76c (ninS P68_11 (ninS P68_12 (ninS P68_13 (ninS P68_14 (ninS P68_15 (ninS ne70 nin0))))))).keep K77c (ninS P68_11 (ninS P68_12 (ninS P68_13 (ninS P68_14 (ninS P68_15 (ninS ne70 nin0))))))).keep K78c (ninS P68_11 (ninS P68_12 (ninS P68_13 (ninS P68_14 (ninS P68_15 (ninS ne70 nin0))))))) ((((Fld.ext E69 P68_2).keep K76c (ninS P68_11 (ninS P68_12 (ninS P68_13 (ninS P68_14 (ninS P68_15 (ninS ne70 nin0))))))).keep K77c (ninS P68_11 (ninS P68_12 (ninS P68_13 (ninS P68_14 (ninS P68_15 (ninS ne70 nin0))))))).keep K78c (ninS P68_11 (ninS P68_12 (ninS P68_13 (ninS P68_14 (ninS P68_15 (ninS ne70 nin0))))))) ((((Fld.ext E69 P68_3).keep K76c (ninS P68_11 (ninS P68_12 (ninS P68_13 (ninS P68_14 (ninS P68_15 (ninS ne70 nin0))))))).keep K77c (ninS P68_11 (ninS P68_12 (ninS P68_13 (ninS P68_14 (ninS P68_15 (ninS ne70 nin0))))))).keep K78c (ninS P68_11 (ninS P68_12 (ninS P68_13 (ninS P68_14 (ninS P68_15 (ninS ne70 nin0))))))) ((((Fld.ext E69 P68_4).keep K76c (ninS P68_11 (ninS P68_12 (ninS P68_13 (ninS P68_14 (ninS P68_15 (ninS ne70 nin0))))))).keep K77c (ninS P68_11 (ninS P68_12 (ninS P68_13 (ninS P68_14 (ninS P68_15 (ninS ne70 nin0))))))).keep K78c (ninS P68_11 (ninS P68_12 (ninS P68_13 (ninS P68_14 (ninS P68_15 (ninS ne70 nin0))))))) ((((Fld.ext E69 P68_5).keep K76c (ninS P68_11 (ninS P68_12 (ninS P68_13 (ninS P68_14 (ninS P68_15 (ninS ne70 nin0))))))).keep K77c (ninS P68_11 (ninS P68_12 (ninS P68_13 (ninS P68_14 (ninS P68_15 (ninS ne70 nin0))))))).keep K78c (ninS P68_11 (ninS P68_12 (ninS P68_13 (ninS P68_14 (ninS P68_15 (ninS ne70 nin0))))))) P78_0 P78_1 P78_2 P78_3 P78_4 P78_5 P68_11 P68_12 P68_13 P68_14 P68_15 P68_16 P68_17 P68_18 P68_19 P68_20 P68_21 P68_22 P68_23 P68_24 P68_25 ne70 ne71 ne72 ne73 ne74 ne75 g_ca68 g_ch68 g_lc68 g_ar68 g_ge68 g_b69 P78_6 (by decide)) hZ (hw _ (List.mem_of_getElem? (i := 26) rfl)) (hw _ (List.mem_of_getElem? (i := 25) rfl)) (by decide) (by decide)) (g := (mkF m 64 #[.val (.int p0), .val (.int p1), .val (.int p2), .val (.int (3 : Int32)), .val (.ref b67), .val (.ref b69), .unset, .unset, .unset, .unset] [(.ref b69), (.int (3 : Int32)), (.int p2), (.int p1), (.int p0), (.int (3 : Int32)), (.ref b67)])) rfl (by rw [hml]; rfl) (argsL := [(.ref b67), (.int (3 : Int32)), (.int p0), (.int p1), (.int p2), (.int (3 : Int32)), (.ref b69)]) (rest := []) (lenOf pd__Lcom_example_wandel_wandel_replay_Observations_IIIII_J_V rfl) rfl (by show 2 * 0 + _ ≤ _; exact Nat.le_of_eq rfl) (hb hby at_64) (fun _ _ => ⟨rfl, (rfl : T78.heap = T78.heap), (by decide : 7 + 0 ≤ _), (by decide : 22 + 0 ≤ _)⟩)
          dsimp only [Pt.U, Pt.locs, Pt.cells, Pt.slots] at X79 ll79 ly79 lz79 st79 hQ79
          subst ll79 ly79 lz79
          obtain ⟨v0'79, v1'79, v2'79, c0'79, c1'79, c2'79, l0'79, l1'79, l2'79, m0'79, m1'79, m2'79, g0'79, g1'79, g2'79, t0'79, t1'79, rfl, N79q, K79c, P79_0, P79_1, P79_2, P79_3, P79_4, P79_5, P79_6⟩ := hQ79
          have N79 := Fr.app N78 N79q
          have K79 : Keep h0 T79.heap [] := K78.trans K79c (allS (Or.inr sz_ca68) (allS (Or.inr sz_ch68) (allS (Or.inr sz_lc68) (allS (Or.inr sz_ar68) (allS (Or.inr sz_ge68) (allS (Or.inr sz_b69) all0))))))
          obtain ⟨_, _, ⟨T80, L80, k80, n80⟩, -, X80, ⟨Lc80, hQ80, ll80, ly80, lz80⟩, st80⟩ := Jvm.LawKit.callS X79 hx (y := (⟨"com/example/wandel/wandel/replay/ObservationsChangeSharePinLaw", "step", "(Lcom/example/wandel/wandel/replay/Observations;IIIII[J)V"⟩ : MethodName)) hown (mvT hZ (hw _ (List.mem_of_getElem? (i := 23) rfl))) (mvT hZ (hw _ (List.mem_of_getElem? (i := 24) rfl))) (mvT hZ (hw _ (List.mem_of_getElem? (i := 25) rfl))) (mvT hZ (hw _ (List.mem_of_getElem? (i := 26) rfl))) (by decide) (backOf (W := 0) (rm3n3 l Z a0 hw [] b67 p0 p1 p2 (4 : Int32) b69 ca68 ch68 lc68 ar68 ge68 kca68 kch68 klc68 kar68 kge68 k69 v0'79 v1'79 v2'79 c0'79 c1'79 c2'79 l0'79 l1'79 l2'79 m0'79 m1'79 m2'79 g0'79 g1'79 g2'79 t0'79 t1'79 (((((0 : Int) + 1) + 1) + 1) + 1) T79.heap n0 (Nat.le_trans (Nat.le_trans (Nat.le_trans (Nat.le_trans (Nat.le_trans (Nat.le_trans (Nat.le_trans Z0 E67.1) K68c.1) E69.1) K76c.1) K77c.1) K78c.1) K79c.1) (Exa.keep (Exa.keep (Exa.keep (Exa.keep (Exa.ext E69 P68_0) K76c) K77c) K78c) K79c) (((((Fld.ext E69 P68_1).keep K76c (ninS P68_11 (ninS P68_12 (ninS P68_13 (ninS P68_14 (ninS P68_15 (ninS ne70 nin0))))))).keep K77c (ninS P68_11 (ninS P68_12 (ninS P68_13 (ninS P68_14 (ninS P68_15 (ninS ne70 nin0))))))).keep K78c (ninS P68_11 (ninS P68_12 (ninS P68_13 (ninS P68_14 (ninS P68_15 (ninS ne70 nin0))))))).keep K79c (ninS P68_11 (ninS P68_12 (ninS P68_13 (ninS P68_14 (ninS P68_15 (ninS ne70 nin0))))))) (((((Fld.ext E69 P68_2).keep K76c (ninS P68_11 (ninS P68_12 (ninS P68_13 (ninS P68_14 (ninS P68_15 (ninS ne70 nin0))))))).keep K77c (ninS P68_11 (ninS P68_12 (ninS P68_13 (ninS P68_14 (ninS P68_15 (ninS ne70 nin0))))))).keep K78c (ninS P68_11 (ninS P68_12 (ninS P68_13 (ninS P68_14 (ninS P68_15 (ninS ne70 nin0))))))).keep K79c (ninS P68_11 (ninS P68_12 (ninS P68_13 (ninS P68_14 (ninS P68_15 (ninS ne70 nin0))))))) (((((Fld.ext E69 P68_3).keep K76c (ninS P68_11 (ninS P68_12 (ninS P68_13 (ninS P68_14 (ninS P68_15 (ninS ne70 nin0))))))).keep K77c (ninS P68_11 (ninS P68_12 (ninS P68_13 (ninS P68_14 (ninS P68_15 (ninS ne70 nin0))))))).keep K78c (ninS P68_11 (ninS P68_12 (ninS P68_13 (ninS P68_14 (ninS P68_15 (ninS ne70 nin0))))))).keep K79c (ninS P68_11 (ninS P68_12 (ninS P68_13 (ninS P68_14 (ninS P68_15 (ninS ne70 nin0))))))) (((((Fld.ext E69 P68_4).keep K76c (ninS P68_11 (ninS P68_12 (ninS P68_13 (ninS P68_14 (ninS P68_15 (ninS ne70 nin0))))))).keep K77c (ninS P68_11 (ninS P68_12 (ninS P68_13 (ninS P68_14 (ninS P68_15 (ninS ne70 nin0))))))).keep K78c (ninS P68_11 (ninS P68_12 (ninS P68_13 (ninS P68_14 (ninS P68_15 (ninS ne70 nin0))))))).keep K79c (ninS P68_11 (ninS P68_12 (ninS P68_13 (ninS P68_14 (ninS P68_15 (ninS ne70 nin0))))))) (((((Fld.ext E69 P68_5).keep K76c (ninS P68_11 (ninS P68_12 (ninS P68_13 (ninS P68_14 (ninS P68_15 (ninS ne70 nin0))))))).keep K77c (ninS P68_11 (ninS P68_12 (ninS P68_13 (ninS P68_14 (ninS P68_15 (ninS ne70 nin0))))))).keep K78c (ninS P68_11 (ninS P68_12 (ninS P68_13 (ninS P68_14 (ninS P68_15 (ninS ne70 nin0))))))).keep K79c (ninS P68_11 (ninS P68_12 (ninS P68_13 (ninS P68_14 (ninS P68_15 (ninS ne70 nin0))))))) P79_0 P79_1 P79_2 P79_3 P79_4 P79_5 P68_11 P68_12 P68_13 P68_14 P68_15 P68_16 P68_17 P68_18 P68_19 P68_20 P68_21 P68_22 P68_23 P68_24 P68_25 ne70 ne71 ne72 ne73 ne74 ne75 g_ca68 g_ch68 g_lc68 g_ar68 g_ge68 g_b69 P79_6 (by decide)) hZ (hw _ (List.mem_of_getElem? (i := 26) rfl)) (hw _ (List.mem_of_getElem? (i := 25) rfl)) (by decide) (by decide)) (g := (mkF m 76 #[.val (.int p0), .val (.int p1), .val (.int p2), .val (.int (3 : Int32)), .val (.ref b67), .val (.ref b69), .unset, .unset, .unset, .unset] [(.ref b69), (.int (4 : Int32)), (.int p2), (.int p1), (.int p0), (.int (3 : Int32)), (.ref b67)])) rfl (by rw [hml]; rfl) (argsL := [(.ref b67), (.int (3 : Int32)), (.int p0), (.int p1), (.int p2), (.int (4 : Int32)), (.ref b69)]) (rest := []) (lenOf pd__Lcom_example_wandel_wandel_replay_Observations_IIIII_J_V rfl) rfl (by show 2 * 0 + _ ≤ _; exact Nat.le_of_eq rfl) (hb hby at_76) (fun _ _ => ⟨rfl, (rfl : T79.heap = T79.heap), (by decide : 7 + 0 ≤ _), (by decide : 22 + 0 ≤ _)⟩)
          dsimp only [Pt.U, Pt.locs, Pt.cells, Pt.slots] at X80 ll80 ly80 lz80 st80 hQ80
          subst ll80 ly80 lz80
          obtain ⟨v0'80, v1'80, v2'80, c0'80, c1'80, c2'80, l0'80, l1'80, l2'80, m0'80, m1'80, m2'80, g0'80, g1'80, g2'80, t0'80, t1'80, rfl, N80q, K80c, P80_0, P80_1, P80_2, P80_3, P80_4, P80_5, P80_6⟩ := hQ80
          have N80 := Fr.app N79 N80q
          have K80 : Keep h0 T80.heap [] := K79.trans K80c (allS (Or.inr sz_ca68) (allS (Or.inr sz_ch68) (allS (Or.inr sz_lc68) (allS (Or.inr sz_ar68) (allS (Or.inr sz_ge68) (allS (Or.inr sz_b69) all0))))))
          obtain ⟨_, _, ⟨T81, L81, k81, n81⟩, -, X81, ⟨Lc81, hQ81, ll81, ly81, lz81⟩, st81⟩ := Jvm.LawKit.callS X80 hx (y := (⟨"com/example/wandel/wandel/replay/ObservationsChangeSharePinLaw", "step", "(Lcom/example/wandel/wandel/replay/Observations;IIIII[J)V"⟩ : MethodName)) hown (mvT hZ (hw _ (List.mem_of_getElem? (i := 23) rfl))) (mvT hZ (hw _ (List.mem_of_getElem? (i := 24) rfl))) (mvT hZ (hw _ (List.mem_of_getElem? (i := 25) rfl))) (mvT hZ (hw _ (List.mem_of_getElem? (i := 26) rfl))) (by decide) (backOf (W := 0) (rm3n3 l Z a0 hw [] b67 p0 p1 p2 (5 : Int32) b69 ca68 ch68 lc68 ar68 ge68 kca68 kch68 klc68 kar68 kge68 k69 v0'80 v1'80 v2'80 c0'80 c1'80 c2'80 l0'80 l1'80 l2'80 m0'80 m1'80 m2'80 g0'80 g1'80 g2'80 t0'80 t1'80 ((((((0 : Int) + 1) + 1) + 1) + 1) + 1) T80.heap n0 (Nat.le_trans (Nat.le_trans (Nat.le_trans (Nat.le_trans (Nat.le_trans (Nat.le_trans (Nat.le_trans (Nat.le_trans Z0 E67.1) K68c.1) E69.1) K76c.1) K77c.1) K78c.1) K79c.1) K80c.1) (Exa.keep (Exa.keep (Exa.keep (Exa.keep (Exa.keep (Exa.ext E69 P68_0) K76c) K77c) K78c) K79c) K80c) ((((((Fld.ext E69 P68_1).keep K76c (ninS P68_11 (ninS P68_12 (ninS P68_13 (ninS P68_14 (ninS P68_15 (ninS ne70 nin0))))))).keep K77c (ninS P68_11 (ninS P68_12 (ninS P68_13 (ninS P68_14 (ninS P68_15 (ninS ne70 nin0))))))).keep K78c (ninS P68_11 (ninS P68_12 (ninS P68_13 (ninS P68_14 (ninS P68_15 (ninS ne70 nin0))))))).keep K79c (ninS P68_11 (ninS P68_12 (ninS P68_13 (ninS P68_14 (ninS P68_15 (ninS ne70 nin0))))))).keep K80c (ninS P68_11 (ninS P68_12 (ninS P68_13 (ninS P68_14 (ninS P68_15 (ninS ne70 nin0))))))) ((((((Fld.ext E69 P68_2).keep K76c (ninS P68_11 (ninS P68_12 (ninS P68_13 (ninS P68_14 (ninS P68_15 (ninS ne70 nin0))))))).keep K77c (ninS P68_11 (ninS P68_12 (ninS P68_13 (ninS P68_14 (ninS P68_15 (ninS ne70 nin0))))))).keep K78c (ninS P68_11 (ninS P68_12 (ninS P68_13 (ninS P68_14 (ninS P68_15 (ninS ne70 nin0))))))).keep K79c (ninS P68_11 (ninS P68_12 (ninS P68_13 (ninS P68_14 (ninS P68_15 (ninS ne70 nin0))))))).keep K80c (ninS P68_11 (ninS P68_12 (ninS P68_13 (ninS P68_14 (ninS P68_15 (ninS ne70 nin0))))))) ((((((Fld.ext E69 P68_3).keep K76c (ninS P68_11 (ninS P68_12 (ninS P68_13 (ninS P68_14 (ninS P68_15 (ninS ne70 nin0))))))).keep K77c (ninS P68_11 (ninS P68_12 (ninS P68_13 (ninS P68_14 (ninS P68_15 (ninS ne70 nin0))))))).keep K78c (ninS P68_11 (ninS P68_12 (ninS P68_13 (ninS P68_14 (ninS P68_15 (ninS ne70 nin0))))))).keep K79c (ninS P68_11 (ninS P68_12 (ninS P68_13 (ninS P68_14 (ninS P68_15 (ninS ne70 nin0))))))).keep K80c (ninS P68_11 (ninS P68_12 (ninS P68_13 (ninS P68_14 (ninS P68_15 (ninS ne70 nin0))))))) ((((((Fld.ext E69 P68_4).keep K76c (ninS P68_11 (ninS P68_12 (ninS P68_13 (ninS P68_14 (ninS P68_15 (ninS ne70 nin0))))))).keep K77c (ninS P68_11 (ninS P68_12 (ninS P68_13 (ninS P68_14 (ninS P68_15 (ninS ne70 nin0))))))).keep K78c (ninS P68_11 (ninS P68_12 (ninS P68_13 (ninS P68_14 (ninS P68_15 (ninS ne70 nin0))))))).keep K79c (ninS P68_11 (ninS P68_12 (ninS P68_13 (ninS P68_14 (ninS P68_15 (ninS ne70 nin0))))))).keep K80c (ninS P68_11 (ninS P68_12 (ninS P68_13 (ninS P68_14 (ninS P68_15 (ninS ne70 nin0))))))) ((((((Fld.ext E69 P68_5).keep K76c (ninS P68_11 (ninS P68_12 (ninS P68_13 (ninS P68_14 (ninS P68_15 (ninS ne70 nin0))))))).keep K77c (ninS P68_11 (ninS P68_12 (ninS P68_13 (ninS P68_14 (ninS P68_15 (ninS ne70 nin0))))))).keep K78c (ninS P68_11 (ninS P68_12 (ninS P68_13 (ninS P68_14 (ninS P68_15 (ninS ne70 nin0))))))).keep K79c (ninS P68_11 (ninS P68_12 (ninS P68_13 (ninS P68_14 (ninS P68_15 (ninS ne70 nin0))))))).keep K80c (ninS P68_11 (ninS P68_12 (ninS P68_13 (ninS P68_14 (ninS P68_15 (ninS ne70 nin0))))))) P80_0 P80_1 P80_2 P80_3 P80_4 P80_5 P68_11 P68_12 P68_13 P68_14 P68_15 P68_16 P68_17 P68_18 P68_19 P68_20 P68_21 P68_22 P68_23 P68_24 P68_25 ne70 ne71 ne72 ne73 ne74 ne75 g_ca68 g_ch68 g_lc68 g_ar68 g_ge68 g_b69 P80_6 (by decide)) hZ (hw _ (List.mem_of_getElem? (i := 26) rfl)) (hw _ (List.mem_of_getElem? (i := 25) rfl)) (by decide) (by decide)) (g := (mkF m 88 #[.val (.int p0), .val (.int p1), .val (.int p2), .val (.int (3 : Int32)), .val (.ref b67), .val (.ref b69), .unset, .unset, .unset, .unset] [(.ref b69), (.int (5 : Int32)), (.int p2), (.int p1), (.int p0), (.int (3 : Int32)), (.ref b67)])) rfl (by rw [hml]; rfl) (argsL := [(.ref b67), (.int (3 : Int32)), (.int p0), (.int p1), (.int p2), (.int (5 : Int32)), (.ref b69)]) (rest := []) (lenOf pd__Lcom_example_wandel_wandel_replay_Observations_IIIII_J_V rfl) rfl (by show 2 * 0 + _ ≤ _; exact Nat.le_of_eq rfl) (hb hby at_88) (fun _ _ => ⟨rfl, (rfl : T80.heap = T80.heap), (by decide : 7 + 0 ≤ _), (by decide : 22 + 0 ≤ _)⟩)
          dsimp only [Pt.U, Pt.locs, Pt.cells, Pt.slots] at X81 ll81 ly81 lz81 st81 hQ81
          subst ll81 ly81 lz81
          obtain ⟨v0'81, v1'81, v2'81, c0'81, c1'81, c2'81, l0'81, l1'81, l2'81, m0'81, m1'81, m2'81, g0'81, g1'81, g2'81, t0'81, t1'81, rfl, N81q, K81c, P81_0, P81_1, P81_2, P81_3, P81_4, P81_5, P81_6⟩ := hQ81
          have N81 := Fr.app N80 N81q
          have K81 : Keep h0 T81.heap [] := K80.trans K81c (allS (Or.inr sz_ca68) (allS (Or.inr sz_ch68) (allS (Or.inr sz_lc68) (allS (Or.inr sz_ar68) (allS (Or.inr sz_ge68) (allS (Or.inr sz_b69) all0))))))
          obtain ⟨cq82, kq82, q82a, q82b, q82c⟩ := isOf hZ (rfl : T81.heap = T81.heap) (Exa.keep (Exa.keep (Exa.keep (Exa.keep (Exa.keep (Exa.keep (Exa.ext E69 P68_0) K76c) K77c) K78c) K79c) K80c) K81c)
          obtain ⟨_, _, ⟨T82, L82, k82, n82⟩, -, X82, ⟨Lc82, hQ82, ll82, ly82, lz82⟩, st82⟩ := X81.virtualBack hx (y := (⟨"com/example/wandel/wandel/replay/Observations", "changeShare", "()D"⟩ : MethodName)) (z := (⟨"com/example/wandel/wandel/replay/Observations", "changeShare", "()D"⟩ : MethodName)) hown (mvT hZ (hw _ (List.mem_of_getElem? (i := 27) rfl))) (mvT hZ (hw _ (List.mem_of_getElem? (i := 28) rfl))) (notFace_of_selects (args := #[]) (mvT hZ (hw _ (List.mem_of_getElem? (i := 30) rfl)))) (mvT hZ (hw _ (List.mem_of_getElem? (i := 30) rfl))) (mvT hZ (hw _ (List.mem_of_getElem? (i := 29) rfl))) (by decide) (backOf (W := 0) (rm4n3 l Z a0 hw [] b67 ca68 ch68 kca68 kch68 v0'81 v1'81 v2'81 c0'81 c1'81 c2'81 T81.heap n0 (Nat.le_trans (Nat.le_trans (Nat.le_trans (Nat.le_trans (Nat.le_trans (Nat.le_trans (Nat.le_trans (Nat.le_trans (Nat.le_trans Z0 E67.1) K68c.1) E69.1) K76c.1) K77c.1) K78c.1) K79c.1) K80c.1) K81c.1) (((((((Fld.ext E69 P68_1).keep K76c (ninS P68_11 (ninS P68_12 (ninS P68_13 (ninS P68_14 (ninS P68_15 (ninS ne70 nin0))))))).keep K77c (ninS P68_11 (ninS P68_12 (ninS P68_13 (ninS P68_14 (ninS P68_15 (ninS ne70 nin0))))))).keep K78c (ninS P68_11 (ninS P68_12 (ninS P68_13 (ninS P68_14 (ninS P68_15 (ninS ne70 nin0))))))).keep K79c (ninS P68_11 (ninS P68_12 (ninS P68_13 (ninS P68_14 (ninS P68_15 (ninS ne70 nin0))))))).keep K80c (ninS P68_11 (ninS P68_12 (ninS P68_13 (ninS P68_14 (ninS P68_15 (ninS ne70 nin0))))))).keep K81c (ninS P68_11 (ninS P68_12 (ninS P68_13 (ninS P68_14 (ninS P68_15 (ninS ne70 nin0))))))) (((((((Fld.ext E69 P68_2).keep K76c (ninS P68_11 (ninS P68_12 (ninS P68_13 (ninS P68_14 (ninS P68_15 (ninS ne70 nin0))))))).keep K77c (ninS P68_11 (ninS P68_12 (ninS P68_13 (ninS P68_14 (ninS P68_15 (ninS ne70 nin0))))))).keep K78c (ninS P68_11 (ninS P68_12 (ninS P68_13 (ninS P68_14 (ninS P68_15 (ninS ne70 nin0))))))).keep K79c (ninS P68_11 (ninS P68_12 (ninS P68_13 (ninS P68_14 (ninS P68_15 (ninS ne70 nin0))))))).keep K80c (ninS P68_11 (ninS P68_12 (ninS P68_13 (ninS P68_14 (ninS P68_15 (ninS ne70 nin0))))))).keep K81c (ninS P68_11 (ninS P68_12 (ninS P68_13 (ninS P68_14 (ninS P68_15 (ninS ne70 nin0))))))) P81_0 P81_1) hZ (hw _ (List.mem_of_getElem? (i := 31) rfl)) (hw _ (List.mem_of_getElem? (i := 2) rfl)) (by decide) (by decide)) q82a q82c (g := (mkF m 93 #[.val (.int p0), .val (.int p1), .val (.int p2), .val (.int (3 : Int32)), .val (.ref b67), .val (.ref b69), .unset, .unset, .unset, .unset] [(.ref b67)])) rfl (by rw [hml]; rfl) (Steps.refl _) (argsL := []) (rest := []) (lenOf pd___D rfl) rfl (by show 2 * 0 + _ ≤ _; exact Nat.le_of_eq rfl) (hb hby at_93) (fun _ _ => ⟨rfl, (rfl : T81.heap = T81.heap), (by decide : 7 + 0 ≤ _), (by decide : 22 + 0 ≤ _)⟩)
          dsimp only [Pt.U, Pt.locs, Pt.cells, Pt.slots] at X82 ll82 ly82 lz82 st82 hQ82
          subst ll82 ly82 lz82
          obtain ⟨rfl, N82q, e82⟩ := hQ82
          have N82 := Fr.app N81 N82q
          obtain ⟨cl83, Ar83, qa83, S83, Nl83, H83, G83⟩ := id P81_5
          have hin83 : ¬ ((0 : Int32) < 0 ∨ cl83.slots.size ≤ ((0 : Int32)).toNatClampNeg) := inb_of S83 ⟨by decide, by decide⟩
          have hat83 : cl83.slots[((0 : Int32)).toNatClampNeg]? = some (.long t0'81) := Has.at H83 hin83 rfl
          have pre84 : ∀ t, Steps p.tables e below (T82.setTop (mkF m 104 #[.val (.int p0), .val (.int p1), .val (.int p2), .val (.int (3 : Int32)), .val (.ref b67), .val (.ref b69), .val (.double (F4n3 v0'81 v1'81 v2'81 c0'81 c1'81 c2'81)), .second, .unset, .unset] [(.int (lcmpW t0'81 (0 : Int64)))])) t → Steps p.tables e below (s₁.setTop (entryFrame m #[(.int p0), (.int p1), (.int p2)] maxLocals)) t := fun t kt => pre66 t (by
            show Steps p.tables e below (s₁.setTop (mkF m 4 #[.val (.int p0), .val (.int p1), .val (.int p2), .val (.int (3 : Int32)), .unset, .unset, .unset, .unset, .unset, .unset] [])) _
            refine st67 _ ?_
            refine XS.dup X67.here hx rfl (hb hby at_7) rfl rfl ?_
            refine XS.iloadN X67.here hx rfl (hb hby at_8) rfl ?_
            refine st68.trans ?_
            refine XS.astore X68.here hx rfl (hb hby at_12) rfl rfl (l' := #[.val (.int p0), .val (.int p1), .val (.int p2), .val (.int (3 : Int32)), .val (.ref b67), .unset, .unset, .unset, .unset, .unset]) rfl ?_
            refine XS.iconst X68.here hx rfl (hb hby at_14) ?_
            refine st69 _ ?_
            refine XS.astore X69.here hx rfl (hb hby at_17) rfl rfl (l' := #[.val (.int p0), .val (.int p1), .val (.int p2), .val (.int (3 : Int32)), .val (.ref b67), .val (.ref b69), .unset, .unset, .unset, .unset]) rfl ?_
            show Steps p.tables e below (T69.setTop (mkF m 19 #[.val (.int p0), .val (.int p1), .val (.int p2), .val (.int (3 : Int32)), .val (.ref b67), .val (.ref b69), .unset, .unset, .unset, .unset] [])) _
            refine XS.aload X69.here hx rfl (hb hby at_19) rfl rfl ?_
            refine XS.iloadN X69.here hx rfl (hb hby at_21) rfl ?_
            refine XS.iloadN X69.here hx rfl (hb hby at_22) rfl ?_
            refine XS.iloadN X69.here hx rfl (hb hby at_23) rfl ?_
            refine XS.iloadN X69.here hx rfl (hb hby at_24) rfl ?_
            refine XS.iconst X69.here hx rfl (hb hby at_25) ?_
            refine XS.aload X69.here hx rfl (hb hby at_26) rfl rfl ?_
            refine st76 _ ?_
            show Steps p.tables e below (T76.setTop (mkF m 31 #[.val (.int p0), .val (.int p1), .val (.int p2), .val (.int (3 : Int32)), .val (.ref b67), .val (.ref b69), .unset, .unset, .unset, .unset] [])) _
            refine XS.aload X76.here hx rfl (hb hby at_31) rfl rfl ?_
            refine XS.iloadN X76.here hx rfl (hb hby at_33) rfl ?_
            refine XS.iloadN X76.here hx rfl (hb hby at_34) rfl ?_
            refine XS.iloadN X76.here hx rfl (hb hby at_35) rfl ?_
            refine XS.iloadN X76.here hx rfl (hb hby at_36) rfl ?_
            refine XS.iconst X76.here hx rfl (hb hby at_37) ?_
            refine XS.aload X76.here hx rfl (hb hby at_38) rfl rfl ?_
            refine st77 _ ?_
            show Steps p.tables e below (T77.setTop (mkF m 43 #[.val (.int p0), .val (.int p1), .val (.int p2), .val (.int (3 : Int32)), .val (.ref b67), .val (.ref b69), .unset, .unset, .unset, .unset] [])) _
            refine XS.aload X77.here hx rfl (hb hby at_43) rfl rfl ?_
            refine XS.iloadN X77.here hx rfl (hb hby at_45) rfl ?_
            refine XS.iloadN X77.here hx rfl (hb hby at_46) rfl ?_
            refine XS.iloadN X77.here hx rfl (hb hby at_47) rfl ?_
            refine XS.iloadN X77.here hx rfl (hb hby at_48) rfl ?_
            refine XS.iconst X77.here hx rfl (hb hby at_49) ?_
            refine XS.aload X77.here hx rfl (hb hby at_50) rfl rfl ?_
            refine st78 _ ?_
            show Steps p.tables e below (T78.setTop (mkF m 55 #[.val (.int p0), .val (.int p1), .val (.int p2), .val (.int (3 : Int32)), .val (.ref b67), .val (.ref b69), .unset, .unset, .unset, .unset] [])) _
            refine XS.aload X78.here hx rfl (hb hby at_55) rfl rfl ?_
            refine XS.iloadN X78.here hx rfl (hb hby at_57) rfl ?_
            refine XS.iloadN X78.here hx rfl (hb hby at_58) rfl ?_
            refine XS.iloadN X78.here hx rfl (hb hby at_59) rfl ?_
            refine XS.iloadN X78.here hx rfl (hb hby at_60) rfl ?_
            refine XS.iconst X78.here hx rfl (hb hby at_61) ?_
            refine XS.aload X78.here hx rfl (hb hby at_62) rfl rfl ?_
            refine st79 _ ?_
            show Steps p.tables e below (T79.setTop (mkF m 67 #[.val (.int p0), .val (.int p1), .val (.int p2), .val (.int (3 : Int32)), .val (.ref b67), .val (.ref b69), .unset, .unset, .unset, .unset] [])) _
            refine XS.aload X79.here hx rfl (hb hby at_67) rfl rfl ?_
            refine XS.iloadN X79.here hx rfl (hb hby at_69) rfl ?_
            refine XS.iloadN X79.here hx rfl (hb hby at_70) rfl ?_
            refine XS.iloadN X79.here hx rfl (hb hby at_71) rfl ?_
            refine XS.iloadN X79.here hx rfl (hb hby at_72) rfl ?_
            refine XS.iconst X79.here hx rfl (hb hby at_73) ?_
            refine XS.aload X79.here hx rfl (hb hby at_74) rfl rfl ?_
            refine st80 _ ?_
            show Steps p.tables e below (T80.setTop (mkF m 79 #[.val (.int p0), .val (.int p1), .val (.int p2), .val (.int (3 : Int32)), .val (.ref b67), .val (.ref b69), .unset, .unset, .unset, .unset] [])) _
            refine XS.aload X80.here hx rfl (hb hby at_79) rfl rfl ?_
            refine XS.iloadN X80.here hx rfl (hb hby at_81) rfl ?_
            refine XS.iloadN X80.here hx rfl (hb hby at_82) rfl ?_
            refine XS.iloadN X80.here hx rfl (hb hby at_83) rfl ?_
            refine XS.iloadN X80.here hx rfl (hb hby at_84) rfl ?_
            refine XS.iconst X80.here hx rfl (hb hby at_85) ?_
            refine XS.aload X80.here hx rfl (hb hby at_86) rfl rfl ?_
            refine st81 _ ?_
            show Steps p.tables e below (T81.setTop (mkF m 91 #[.val (.int p0), .val (.int p1), .val (.int p2), .val (.int (3 : Int32)), .val (.ref b67), .val (.ref b69), .unset, .unset, .unset, .unset] [])) _
            refine XS.aload X81.here hx rfl (hb hby at_91) rfl rfl ?_
            refine st82.trans ?_
            refine own_dstore X82.here hx rfl (hb hby at_96) rfl (l' := #[.val (.int p0), .val (.int p1), .val (.int p2), .val (.int (3 : Int32)), .val (.ref b67), .val (.ref b69), .val (.double (F4n3 v0'81 v1'81 v2'81 c0'81 c1'81 c2'81)), .second, .unset, .unset]) rfl ?_
            refine XS.aload X82.here hx rfl (hb hby at_98) rfl rfl ?_
            refine XS.iconst X82.here hx rfl (hb hby at_100) ?_
            refine X82.laload hx (j := (0 : Int32)) (v := (.long t0'81)) (by rw [e82]; exact Ar83.1) (State.isArrayOf_alike hZ.alike Ar83.2.1) Ar83.2.2 hin83 hat83 (g := (mkF m 101 #[.val (.int p0), .val (.int p1), .val (.int p2), .val (.int (3 : Int32)), .val (.ref b67), .val (.ref b69), .val (.double (F4n3 v0'81 v1'81 v2'81 c0'81 c1'81 c2'81)), .second, .unset, .unset] [(.int (0 : Int32)), (.ref b69)])) rfl rfl (hb hby at_101) _ ?_
            refine XS.lconst X82.here hx rfl (hb hby at_102) ?_
            refine XS.lcmp X82.here hx rfl (hb hby at_103) rfl ?_
            exact kt)
          by_cases hc104 : (lcmpW t0'81 (0 : Int64)) = (0 : Int32)
          · obtain ⟨fs, hr, hrun, hended, hW, hsame⟩ := X82.leave (v := some (.int (1 : Int32))) (fun h => by rw [Bd.returns] at h; cases h)
            refine ⟨_, _, pre84 _ ?_, hrun, hended, _, _, rfl, ?_, ⟨_, rfl⟩, hW, hsame.mono (by decide) (by decide)⟩
            · show Steps p.tables e below (T82.setTop (mkF m 104 #[.val (.int p0), .val (.int p1), .val (.int p2), .val (.int (3 : Int32)), .val (.ref b67), .val (.ref b69), .val (.double (F4n3 v0'81 v1'81 v2'81 c0'81 c1'81 c2'81)), .second, .unset, .unset] [(.int (lcmpW t0'81 (0 : Int64)))])) _
              refine XS.ifNo X82.here hx rfl (hb hby at_104) rfl ((if0 _ _).trans (teq hc104).2) ?_
              refine own_dconst0 X82.here hx rfl (hb hby at_107) ?_
              refine XS.goto X82.here hx rfl (pc0 := 108) (pc' := 122) rfl (hb hby at_108) (by decide) (by decide) ?_
              refine own_dstore X82.here hx rfl (hb hby at_122) rfl (l' := #[.val (.int p0), .val (.int p1), .val (.int p2), .val (.int (3 : Int32)), .val (.ref b67), .val (.ref b69), .val (.double (F4n3 v0'81 v1'81 v2'81 c0'81 c1'81 c2'81)), .second, .val (.double FP.dconst0), .second]) rfl ?_
              refine own_dload X82.here hx rfl (hb hby at_124) rfl ?_
              refine own_dload X82.here hx rfl (hb hby at_126) rfl ?_
              refine own_dcmpl X82.here hx rfl (hb hby at_128) rfl ?_
              refine XS.ifNo X82.here hx rfl (hb hby at_129) rfl ((if0 _ _).trans (teq (own_gz3 (by decide) P81_6 hc104)).2) ?_
              show Steps p.tables e below (T82.setTop (mkF m 132 #[.val (.int p0), .val (.int p1), .val (.int p2), .val (.int (3 : Int32)), .val (.ref b67), .val (.ref b69), .val (.double (F4n3 v0'81 v1'81 v2'81 c0'81 c1'81 c2'81)), .second, .val (.double FP.dconst0), .second] [])) _
              refine XS.iconst X82.here hx rfl (hb hby at_132) ?_
              refine XS.goto X82.here hx rfl (pc0 := 133) (pc' := 137) rfl (hb hby at_133) (by decide) (by decide) ?_
              show Steps p.tables e below (T82.setTop (mkF m 137 #[.val (.int p0), .val (.int p1), .val (.int p2), .val (.int (3 : Int32)), .val (.ref b67), .val (.ref b69), .val (.double (F4n3 v0'81 v1'81 v2'81 c0'81 c1'81 c2'81)), .second, .val (.double FP.dconst0), .second] [(.int (1 : Int32))])) _
              exact retN X82 hx (t := .boolean) Bd.returns (by simp) (hb hby at_137) hr
            · show Q0 Z p0 p1 p2 h0 n0 _ T82.heap _
              rw [e82]
              exact ⟨rfl, N82⟩
          · obtain ⟨cl85, Ar85, qa85, S85, Nl85, H85, G85⟩ := id P81_5
            have hin85 : ¬ ((1 : Int32) < 0 ∨ cl85.slots.size ≤ ((1 : Int32)).toNatClampNeg) := inb_of S85 ⟨by decide, by decide⟩
            have hat85 : cl85.slots[((1 : Int32)).toNatClampNeg]? = some (.long t1'81) := Has.at H85 hin85 rfl
            obtain ⟨cl86, Ar86, qa86, S86, Nl86, H86, G86⟩ := id P81_5
            have hin86 : ¬ ((0 : Int32) < 0 ∨ cl86.slots.size ≤ ((0 : Int32)).toNatClampNeg) := inb_of S86 ⟨by decide, by decide⟩
            have hat86 : cl86.slots[((0 : Int32)).toNatClampNeg]? = some (.long t0'81) := Has.at H86 hin86 rfl
            obtain ⟨fs, hr, hrun, hended, hW, hsame⟩ := X82.leave (v := some (.int (1 : Int32))) (fun h => by rw [Bd.returns] at h; cases h)
            refine ⟨_, _, pre84 _ ?_, hrun, hended, _, _, rfl, ?_, ⟨_, rfl⟩, hW, hsame.mono (by decide) (by decide)⟩
            · show Steps p.tables e below (T82.setTop (mkF m 104 #[.val (.int p0), .val (.int p1), .val (.int p2), .val (.int (3 : Int32)), .val (.ref b67), .val (.ref b69), .val (.double (F4n3 v0'81 v1'81 v2'81 c0'81 c1'81 c2'81)), .second, .unset, .unset] [(.int (lcmpW t0'81 (0 : Int64)))])) _
              refine XS.ifYes X82.here hx rfl (pc0 := 104) (pc' := 111) rfl (hb hby at_104) rfl ((if0 _ _).trans (feq hc104).2) (by decide) (by decide) ?_
              refine XS.aload X82.here hx rfl (hb hby at_111) rfl rfl ?_
              refine XS.iconst X82.here hx rfl (hb hby at_113) ?_
              refine X82.laload hx (j := (1 : Int32)) (v := (.long t1'81)) (by rw [e82]; exact Ar85.1) (State.isArrayOf_alike hZ.alike Ar85.2.1) Ar85.2.2 hin85 hat85 (g := (mkF m 114 #[.val (.int p0), .val (.int p1), .val (.int p2), .val (.int (3 : Int32)), .val (.ref b67), .val (.ref b69), .val (.double (F4n3 v0'81 v1'81 v2'81 c0'81 c1'81 c2'81)), .second, .unset, .unset] [(.int (1 : Int32)), (.ref b69)])) rfl rfl (hb hby at_114) _ ?_
              refine own_l2d X82.here hx rfl (hb hby at_115) rfl ?_
              refine XS.aload X82.here hx rfl (hb hby at_116) rfl rfl ?_
              refine XS.iconst X82.here hx rfl (hb hby at_118) ?_
              refine X82.laload hx (j := (0 : Int32)) (v := (.long t0'81)) (by rw [e82]; exact Ar86.1) (State.isArrayOf_alike hZ.alike Ar86.2.1) Ar86.2.2 hin86 hat86 (g := (mkF m 119 #[.val (.int p0), .val (.int p1), .val (.int p2), .val (.int (3 : Int32)), .val (.ref b67), .val (.ref b69), .val (.double (F4n3 v0'81 v1'81 v2'81 c0'81 c1'81 c2'81)), .second, .unset, .unset] [(.int (0 : Int32)), (.ref b69), (.double (FP.l2d t1'81))])) rfl rfl (hb hby at_119) _ ?_
              show Steps p.tables e below (T82.setTop (mkF m 120 #[.val (.int p0), .val (.int p1), .val (.int p2), .val (.int (3 : Int32)), .val (.ref b67), .val (.ref b69), .val (.double (F4n3 v0'81 v1'81 v2'81 c0'81 c1'81 c2'81)), .second, .unset, .unset] [(.long t0'81), (.double (FP.l2d t1'81))])) _
              refine own_l2d X82.here hx rfl (hb hby at_120) rfl ?_
              show Steps p.tables e below (T82.setTop (mkF m 121 #[.val (.int p0), .val (.int p1), .val (.int p2), .val (.int (3 : Int32)), .val (.ref b67), .val (.ref b69), .val (.double (F4n3 v0'81 v1'81 v2'81 c0'81 c1'81 c2'81)), .second, .unset, .unset] [(.double (FP.l2d t0'81)), (.double (FP.l2d t1'81))])) _
              refine own_ddiv X82.here hx (hb hby at_121) (own_nq _ _ hc104) ?_
              refine own_dstore X82.here hx rfl (hb hby at_122) rfl (l' := #[.val (.int p0), .val (.int p1), .val (.int p2), .val (.int (3 : Int32)), .val (.ref b67), .val (.ref b69), .val (.double (F4n3 v0'81 v1'81 v2'81 c0'81 c1'81 c2'81)), .second, .val (.double (FP.ddiv (FP.l2d t1'81) (FP.l2d t0'81))), .second]) rfl ?_
              refine own_dload X82.here hx rfl (hb hby at_124) rfl ?_
              refine own_dload X82.here hx rfl (hb hby at_126) rfl ?_
              refine own_dcmpl X82.here hx rfl (hb hby at_128) rfl ?_
              refine XS.ifNo X82.here hx rfl (hb hby at_129) rfl ((if0 _ _).trans (teq (own_gq3 (by decide) P81_6 hc104)).2) ?_
              refine XS.iconst X82.here hx rfl (hb hby at_132) ?_
              show Steps p.tables e below (T82.setTop (mkF m 133 #[.val (.int p0), .val (.int p1), .val (.int p2), .val (.int (3 : Int32)), .val (.ref b67), .val (.ref b69), .val (.double (F4n3 v0'81 v1'81 v2'81 c0'81 c1'81 c2'81)), .second, .val (.double (FP.ddiv (FP.l2d t1'81) (FP.l2d t0'81))), .second] [(.int (1 : Int32))])) _
              refine XS.goto X82.here hx rfl (pc0 := 133) (pc' := 137) rfl (hb hby at_133) (by decide) (by decide) ?_
              show Steps p.tables e below (T82.setTop (mkF m 137 #[.val (.int p0), .val (.int p1), .val (.int p2), .val (.int (3 : Int32)), .val (.ref b67), .val (.ref b69), .val (.double (F4n3 v0'81 v1'81 v2'81 c0'81 c1'81 c2'81)), .second, .val (.double (FP.ddiv (FP.l2d t1'81) (FP.l2d t0'81))), .second] [(.int (1 : Int32))])) _
              exact retN X82 hx (t := .boolean) Bd.returns (by simp) (hb hby at_137) hr
            · show Q0 Z p0 p1 p2 h0 n0 _ T82.heap _
              rw [e82]
              exact ⟨rfl, N82⟩
        · exact absurd (own_four p0) (by unfold A0_3 at *; simp_all)
set_option maxRecDepth 65536 in
set_option maxHeartbeats 40000000 in
theorem comes_1 {Post : Tables → Env → Array Value → State → Outcome → State → Prop} (hpost : ∀ tb e args s v u, (limb_1_1.after args s (.returned v) u = true ∧ limb_1_2.after args s (.returned v) u = true ∧ True) → FrameEnd s (.returned v) u (Jvm.fieldLocs frame_1_writes args s ++ Jvm.arrayLocs frame_1_arrays args s ++ Jvm.staticLocs frame_1_statics s) 24 128 → Post tb e args s (.returned v) u) :
    ArmFor flags0 classFile x code maxLocals ret World_1 tables_1 room_1 Calls_1 rest_1 Pre_1 Post := by
  intro l hfl _ _ p e ha hc hk s m args below hf hA hF happ hP
  obtain ⟨hcalls, hrest, hpre⟩ := hP
  obtain ⟨-, -, -, hnamed, -, -, -, hat⟩ := (Spec.applies_iff hf).mp happ
  obtain ⟨hg, hn⟩ := and_e (Cond.before_iff.mp (show (Jvm.Cond.and given_1 narrow_1).before args s = true from hpre))
  obtain ⟨g1, g2⟩ := and_e hg
  obtain ⟨g3, g4⟩ := and_e g2
  obtain ⟨g5, g6⟩ := and_e g4
  obtain ⟨w0, w1, w2, rfl⟩ : ∃ w0 w1 w2 : Value, args = #[w0, w1, w2] := by
    have hs : args.size = 3 := by simpa [Cond.value, given_1] using g1
    obtain ⟨L⟩ := args
    match L, hs with
    | [w0, w1, w2], _ => exact ⟨w0, w1, w2, rfl⟩
  have hw := fun d (hd : d ∈ tables_1) => atoms_spec (ws := Jvm.Cond.code x code maxLocals ret :: tables_1) hat d (List.mem_cons_of_mem _ hd)
  have hfit : Fit s := fun {y c} hc i hi => by
    obtain ⟨ha, rfl⟩ := Array.getElem?_eq_some_iff.mp hc
    have q := List.all_eq_true.mp ((Array.all_eq_true_iff_forall_mem.mp hF) _ (Array.getElem_mem ha)) i (List.mem_range.mpr hi)
    simpa [Array.getElem?_eq_getElem hi] using q
  obtain ⟨i0, ei0⟩ := is_v g3
  obtain rfl : w0 = (.int i0) := Option.some.inj ei0
  obtain ⟨i1, ei1⟩ := is_v g5
  obtain rfl : w1 = (.int i1) := Option.some.inj ei1
  obtain ⟨i2, ei2⟩ := is_v g6
  obtain rfl : w2 = (.int i2) := Option.some.inj ei2
  obtain ⟨n, o, h1, h2, h3, _, L, rfl, ⟨rfl, N⟩, hq⟩ := rm0 l s _ hw tables_1 i0 i1 i2  s.heap s.heap.size (Nat.le_refl _)  p e ha hc hk s m _ below hf ((Spec.applies_iff_loose hf).mp happ).1 ⟨rfl, State.Warmed39.refl s, rfl⟩ trivial
  refine ⟨n, _, h1, h2, h3, hpost _ _ _ _ _ _ ⟨Cond.after_iff.mpr rfl, Cond.after_iff.mpr (eq_i res_at (Term.int_eval (1)) (congrArg Value.int (rfl : (1 : Int32) = 1))), trivial⟩ ⟨hq.1, hq.2.1, (hq.2.2.sift fun y hy => Or.inr (N y hy)).mono (by decide) (by decide)⟩⟩
theorem main_1_1 : Claimed_1_1 := comes_1 fun _ _ _ _ _ _ h hF => ⟨h.1, hF⟩
theorem main_1_2 : Claimed_1_2 := comes_1 fun _ _ _ _ _ _ h hF => ⟨h.2.1, hF⟩
end Jvm.Pilot.@@N@@
namespace Jvm.Pilot.@@N@@
open Jvm Jvm.ClassFile Sem Op Lib Jvm.Free Jvm.Stand Jvm.Pilot.@@N@@.Jvm.D
/-! MADE BY PROGRAM (witnessworld.py) out of the Statement's table words and the real class files: 15 classes (two of them added by hand); the members and pool entries that the words name. The judged class is class 1, her method 1. -/
namespace start1
open Jvm.ClassFile
def u (s : String) : CpInfo := .utf8 (stringToUtf16 s)
/-- a pool by its gaps: so many unusable entries, then the entry; so many at the end -/
def gap : Nat → List CpInfo → List CpInfo
  | 0, r => r
  | n + 1, r => .unusable :: gap n r
def poolList (es : List (Nat × CpInfo)) (last : Nat) : List CpInfo := es.foldr (fun e r => gap e.1 (e.2 :: r)) (gap last [])
def pool (es : List (Nat × CpInfo)) (last : Nat) : Array CpInfo := ⟨poolList es last⟩
def fileOf (pool : Array CpInfo) (this : Nat) (attrs : Array Attribute := #[]) (ms : Array MethodInfo := #[]) (fl : Nat := 33) (sup : Nat := 0) (ifs : Array Nat := #[]) (fds : Array FieldInfo := #[]) : ClassFile where
  minorVersion := 0
  majorVersion := 65
  constantPool := pool
  accessFlags := fl
  thisClass := this
  superClass := sup
  interfaces := ifs
  fields := fds
  methods := ms
  attributes := attrs
def plain (name : String) (sup : Option ClassId) : Class where
  name := name
  kind := .ordinary
  loader := none
  accessFlags := 33
  super := sup
  interfaces := #[]
  cf := none
  fields := #[]
  methods := #[]
  instanceTypes := #[]
  staticTypes := #[]
  resolved := #[]
  callSites := []
  init := .initialized
  statics := none
  mirror := none

def pool0 : Array CpInfo := pool [(5, u "<init>"), (0, u "()V"), (1, .class_ 10), (1, u "java/lang/Object")] 113

def k0c0 : Code := { maxStack := 0, maxLocals := 1, code := object_method_1_code, exceptionTable := #[], attributes := #[] }
def k0m0 : Method := { name := "<init>", desc := "()V", sig := { parameters := [], returnType := none }, accessFlags := 1, code := some k0c0 }
/-- java/lang/Object -/
def k0 : Class := { plain "java/lang/Object" none with
  accessFlags := 33
  interfaces := #[]
  cf := some (fileOf pool0 8 #[] #[{ accessFlags := 1, nameIndex := 5, descriptorIndex := 6, attributes := #[] }] 33 0 #[] #[])
  fields := #[]
  methods := #[k0m0]
  instanceTypes := #[]
  staticTypes := #[]
  resolved := Array.replicate 124 none
  statics := none }

def pool1 : Array CpInfo := pool [(2, .class_ 4), (1, u "java/lang/Object"), (0, u "<init>"), (0, u "()V"), (0, .class_ 8), (0, u "com/example/wandel/wandel/replay/Observations"), (0, .methodref 7 10), (0, .nameAndType 5 11), (0, u "(I)V"), (0, .methodref 13 14), (0, .class_ 15), (0, .nameAndType 16 17), (0, u "com/example/wandel/wandel/replay/ObservationsChangeSharePinLaw"), (0, u "step"), (0, u "(Lcom/example/wandel/wandel/replay/Observations;IIIII[J)V"), (0, .methodref 7 19), (0, .nameAndType 20 21), (0, u "changeShare"), (0, u "()D"), (0, .methodref 7 23), (0, .nameAndType 24 25), (0, u "record"), (0, u "(IZ)V"), (2, u "law"), (0, u "(III)Z")] 5

def k1m0 : Method := { name := "<init>", desc := "()V", sig := { parameters := [], returnType := none }, accessFlags := 1, code := none }
def k1c1 : Code := { maxStack := 7, maxLocals := 10, code := code, exceptionTable := #[], attributes := #[] }
def k1m1 : Method := { name := "law", desc := "(III)Z", sig := { parameters := [.int, .int, .int], returnType := some .boolean }, accessFlags := 9, code := some k1c1 }
def k1c2 : Code := { maxStack := 6, maxLocals := 9, code := method_3_code, exceptionTable := #[], attributes := #[] }
def k1m2 : Method := { name := "step", desc := "(Lcom/example/wandel/wandel/replay/Observations;IIIII[J)V", sig := { parameters := [(.object "com/example/wandel/wandel/replay/Observations"), .int, .int, .int, .int, .int, (.array .long)], returnType := none }, accessFlags := 10, code := some k1c2 }
/-- com/example/wandel/wandel/replay/ObservationsChangeSharePinLaw -/
def k1 : Class := { plain "com/example/wandel/wandel/replay/ObservationsChangeSharePinLaw" (some 0) with
  accessFlags := 49
  interfaces := #[]
  cf := some (fileOf pool1 13 #[] #[{ accessFlags := 1, nameIndex := 5, descriptorIndex := 6, attributes := #[] }, { accessFlags := 9, nameIndex := 28, descriptorIndex := 29, attributes := #[] }, { accessFlags := 10, nameIndex := 16, descriptorIndex := 17, attributes := #[] }] 49 2 #[] #[])
  fields := #[]
  methods := #[k1m0, k1m1, k1m2]
  instanceTypes := #[]
  staticTypes := #[]
  resolved := Array.replicate 35 none
  statics := none }

def pool2 : Array CpInfo := pool [(7, .methodref 8 9), (0, .class_ 10), (0, .nameAndType 11 12), (0, u "java/lang/Object"), (0, u "<init>"), (0, u "()V"), (0, .fieldref 14 15), (0, .class_ 16), (0, .nameAndType 17 18), (0, u "com/example/wandel/wandel/replay/Observations"), (0, u "count"), (0, u "[I"), (0, .fieldref 14 20), (0, .nameAndType 21 18), (0, u "changes"), (0, .fieldref 14 23), (0, .nameAndType 24 25), (0, u "lastChanged"), (0, u "[Z"), (0, .fieldref 14 27), (0, .nameAndType 28 29), (0, u "arithmetic"), (0, u "[J"), (0, .fieldref 14 31), (0, .nameAndType 32 33), (0, u "geometric"), (0, u "[D"), (0, .double 4611686018427387904), (34, u "()D"), (6, u "BYTES"), (0, u "I"), (2, u "(I)V"), (2, u "record"), (0, u "(IZ)V"), (6, u "changeShare")] 7

def k2c0 : Code := { maxStack := 2, maxLocals := 2, code := prog_61_method_1_code, exceptionTable := #[], attributes := #[] }
def k2m0 : Method := { name := "<init>", desc := "(I)V", sig := { parameters := [.int], returnType := none }, accessFlags := 1, code := some k2c0 }
def k2c1 : Code := { maxStack := 8, maxLocals := 4, code := prog_61_method_2_code, exceptionTable := #[], attributes := #[] }
def k2m1 : Method := { name := "record", desc := "(IZ)V", sig := { parameters := [.int, .boolean], returnType := none }, accessFlags := 1, code := some k2c1 }
def k2c2 : Code := { maxStack := 4, maxLocals := 6, code := prog_61_method_7_code, exceptionTable := #[], attributes := #[] }
def k2m2 : Method := { name := "changeShare", desc := "()D", sig := { parameters := [], returnType := some .double }, accessFlags := 1, code := some k2c2 }
/-- com/example/wandel/wandel/replay/Observations -/
def k2 : Class := { plain "com/example/wandel/wandel/replay/Observations" (some 0) with
  accessFlags := 33
  interfaces := #[]
  cf := some (fileOf pool2 14 #[] #[{ accessFlags := 1, nameIndex := 11, descriptorIndex := 80, attributes := #[] }, { accessFlags := 1, nameIndex := 83, descriptorIndex := 84, attributes := #[] }, { accessFlags := 1, nameIndex := 91, descriptorIndex := 69, attributes := #[] }] 33 8 #[] #[{ accessFlags := 25, nameIndex := 76, descriptorIndex := 77, attributes := #[] }, { accessFlags := 18, nameIndex := 17, descriptorIndex := 18, attributes := #[] }, { accessFlags := 18, nameIndex := 21, descriptorIndex := 18, attributes := #[] }, { accessFlags := 18, nameIndex := 24, descriptorIndex := 25, attributes := #[] }, { accessFlags := 18, nameIndex := 28, descriptorIndex := 29, attributes := #[] }, { accessFlags := 18, nameIndex := 32, descriptorIndex := 33, attributes := #[] }])
  fields := #[{ name := "BYTES", type := .int, accessFlags := 25, slot := 0, constantValue := 0 }, { name := "count", type := (.array .int), accessFlags := 18, slot := 0, constantValue := 0 }, { name := "changes", type := (.array .int), accessFlags := 18, slot := 1, constantValue := 0 }, { name := "lastChanged", type := (.array .boolean), accessFlags := 18, slot := 2, constantValue := 0 }, { name := "arithmetic", type := (.array .long), accessFlags := 18, slot := 3, constantValue := 0 }, { name := "geometric", type := (.array .double), accessFlags := 18, slot := 4, constantValue := 0 }]
  methods := #[k2m0, k2m1, k2m2]
  instanceTypes := #[(.array .int), (.array .int), (.array .boolean), (.array .long), (.array .double)]
  staticTypes := #[.int]
  resolved := Array.replicate 99 none
  statics := none }

def pool3 : Array CpInfo := pool [(1, u "java/lang/Cloneable"), (0, .class_ 1), (0, u "java/lang/Object"), (0, .class_ 3)] 3

/-- java/lang/Cloneable -/
def k3 : Class := { plain "java/lang/Cloneable" (some 0) with
  accessFlags := 1537
  interfaces := #[]
  cf := some (fileOf pool3 2 #[] #[] 1537 4 #[] #[])
  fields := #[]
  methods := #[]
  instanceTypes := #[]
  staticTypes := #[]
  resolved := Array.replicate 8 none
  statics := none }

def pool4 : Array CpInfo := pool [(1, u "java/io/Serializable"), (0, .class_ 1), (0, u "java/lang/Object"), (0, .class_ 3)] 3

/-- java/io/Serializable -/
def k4 : Class := { plain "java/io/Serializable" (some 0) with
  accessFlags := 1537
  interfaces := #[]
  cf := some (fileOf pool4 2 #[] #[] 1537 4 #[] #[])
  fields := #[]
  methods := #[]
  instanceTypes := #[]
  staticTypes := #[]
  resolved := Array.replicate 8 none
  statics := none }

/-- the primitive boolean -/
def k5 : Class := { plain "boolean" none with kind := .primitive 'Z', accessFlags := 0x411 }
/-- [Z -/
def k6 : Class := { plain "[Z" (some 0) with kind := .array 5 .boolean, interfaces := #[3, 4], accessFlags := 1041 }

/-- the primitive byte -/
def k7 : Class := { plain "byte" none with kind := .primitive 'B', accessFlags := 0x411 }
/-- [B -/
def k8 : Class := { plain "[B" (some 0) with kind := .array 7 .byte, interfaces := #[3, 4], accessFlags := 1041 }

/-- the primitive int -/
def k9 : Class := { plain "int" none with kind := .primitive 'I', accessFlags := 0x411 }
/-- [I -/
def k10 : Class := { plain "[I" (some 0) with kind := .array 9 .int, interfaces := #[3, 4], accessFlags := 1041 }

/-- the primitive long -/
def k11 : Class := { plain "long" none with kind := .primitive 'J', accessFlags := 0x411 }
/-- [J -/
def k12 : Class := { plain "[J" (some 0) with kind := .array 11 .long, interfaces := #[3, 4], accessFlags := 1041 }
/-- the primitive double -/
def k13 : Class := { plain "double" none with kind := .primitive 'D', accessFlags := 0x411 }
/-- [D -/
def k14 : Class := { plain "[D" (some 0) with kind := .array 13 .double, interfaces := #[3, 4], accessFlags := 1041 }

def heap : Heap := #[]
def classes : Array Class := #[k0, k1, k2, k3, k4, k5, k6, k7, k8, k9, k10, k11, k12, k13, k14]
def interned : List (Array UInt16 × Addr) := []
def slotsUsed : Nat := 0
def theMethod : MethodId := ⟨1, 1⟩
def args0 : Array Value := #[.int 5, .int 6, .int 3]
def aboutOver (below : List Frame) : State where
  vm := { classes := classes, interned := interned.toArray }
  heap := heap
  slotsUsed := slotsUsed
  threads := #[{ frames := .invoking theMethod args0 :: below }]
def below0 : List Frame := [.native { method := ⟨0, 0⟩, args := #[] }]
def about1 : State := aboutOver below0
def p0 : Program := .bare "" "" ""
def e0 : Env := launch0.env 0 0 0
theorem w_frames : about1.frames = Frame.invoking theMethod args0 :: below0 := rfl
set_option maxRecDepth 65536 in
theorem w_args : argsFit about1.vm theMethod args0 = true := by decide +kernel
set_option maxRecDepth 65536 in
theorem w_heap : heapFits about1 = true := by decide +kernel
set_option maxRecDepth 65536 in
theorem w_runnable : about1.curStatus? = some .runnable := by decide +kernel
set_option maxRecDepth 65536 in
theorem w_alone : about1.alone = true := by decide +kernel
set_option maxRecDepth 65536 in
theorem w_named : about1.methodNamed? x = some theMethod := by decide +kernel
set_option maxRecDepth 65536 in
theorem w_hears : about1.hears theMethod below0 = true := by decide +kernel
set_option maxRecDepth 65536 in
theorem w_ripe : about1.ripe theMethod args0 below0 = true := by decide +kernel
theorem w_running : about1.status = .running := rfl
set_option maxRecDepth 65536 in
theorem w_room : about1.hasRoom e0.platform room_1 = true :=
  launch0.hasRoom_least _ room_1 (by decide +kernel) (by decide +kernel) (by decide +kernel) (by decide +kernel) (by decide +kernel) (by decide +kernel)
theorem allAtoms_all (ts : List Jvm.Cond) (a : Array Jvm.Value) (st : Jvm.State) : (allAtoms ts).before a st = ts.all (fun c => c.before a st) := by
  induction ts with
  | nil => rfl
  | cons c t ih =>
    show (Jvm.Cond.and c (allAtoms t)).before a st = _
    rw [Jvm.Cond.before_and, ih, List.all_cons]
def words1 : List Jvm.Cond := Jvm.Cond.code x code maxLocals ret :: tables_1
/-- a 'code' word, met by the world's own term for the bytes: nothing is compared byte by byte -/
theorem code_word {y : MethodName} {bytes : ByteArray} {mx : Nat} {rt : Option FieldType} {a : Array Value} {s : State} {m : MethodId} {meth : Method} {c : Code} (h1 : s.methodNamed? y = some m) (h2 : s.vm.method? m = some meth) (h3 : meth.code = some c) (h4 : c.code = bytes)
    (h5 : (c.maxLocals == mx && c.exceptionTable.isEmpty && decide (c.maxStack ≤ mostOperands) && decide (meth.sig.returnType = rt) && !meth.locks && decide (parseMethodDescriptor y.desc = some meth.sig)) = true) : (Jvm.Cond.code y bytes mx rt).before a s = true := by
  simp only [Bool.and_eq_true, beq_iff_eq, Bool.not_eq_true', decide_eq_true_eq] at h5
  obtain ⟨⟨⟨⟨⟨g1, g2⟩, g3⟩, g4⟩, g5⟩, g6⟩ := h5
  simp [Cond.before, Cond.holds, Cond.value, h1, h2, h3, h4, g1, g2, g3, g4, g5, g6]
def isCode : Jvm.Cond → Bool
  | .code _ _ _ _ => true
  | _ => false
theorem all_split {L : List Jvm.Cond} {P : Jvm.Cond → Bool} (h1 : L.all (fun c => isCode c || P c) = true) (h2 : ∀ c ∈ L.filter isCode, P c = true) : L.all P = true := by
  refine List.all_eq_true.mpr fun c hc => ?_
  have h := List.all_eq_true.mp h1 c hc
  rcases Bool.eq_false_or_eq_true (isCode c) with hi | hi
  · exact h2 c (List.mem_filter.mpr ⟨hc, hi⟩)
  · simpa [hi] using h
set_option maxRecDepth 65536 in
theorem w_c0 : (Jvm.Cond.code x code maxLocals ret).before args0 about1 = true := code_word (m := ⟨1, 1⟩) (meth := k1m1) (c := k1c1) (by decide +kernel) rfl rfl rfl (by decide +kernel)
set_option maxRecDepth 65536 in
theorem w_c1 : (Jvm.Cond.code ({ cls := "com/example/wandel/wandel/replay/Observations", name := "<init>", desc := "(I)V" } : Jvm.MethodName) prog_61_method_1_code (2 : Nat) (Option.none : Option Jvm.ClassFile.FieldType)).before args0 about1 = true := code_word (m := ⟨2, 0⟩) (meth := k2m0) (c := k2c0) (by decide +kernel) rfl rfl rfl (by decide +kernel)
set_option maxRecDepth 65536 in
theorem w_c2 : (Jvm.Cond.code ({ cls := "java/lang/Object", name := "<init>", desc := "()V" } : Jvm.MethodName) object_method_1_code (1 : Nat) (Option.none : Option Jvm.ClassFile.FieldType)).before args0 about1 = true := code_word (m := ⟨0, 0⟩) (meth := k0m0) (c := k0c0) (by decide +kernel) rfl rfl rfl (by decide +kernel)
set_option maxRecDepth 65536 in
theorem w_c3 : (Jvm.Cond.code ({ cls := "com/example/wandel/wandel/replay/ObservationsChangeSharePinLaw", name := "step", desc := "(Lcom/example/wandel/wandel/replay/Observations;IIIII[J)V" } : Jvm.MethodName) method_3_code (9 : Nat) (Option.none : Option Jvm.ClassFile.FieldType)).before args0 about1 = true := code_word (m := ⟨1, 2⟩) (meth := k1m2) (c := k1c2) (by decide +kernel) rfl rfl rfl (by decide +kernel)
set_option maxRecDepth 65536 in
theorem w_c4 : (Jvm.Cond.code ({ cls := "com/example/wandel/wandel/replay/Observations", name := "changeShare", desc := "()D" } : Jvm.MethodName) prog_61_method_7_code (6 : Nat) (Option.some Jvm.ClassFile.FieldType.double)).before args0 about1 = true := code_word (m := ⟨2, 2⟩) (meth := k2m2) (c := k2c2) (by decide +kernel) rfl rfl rfl (by decide +kernel)
set_option maxRecDepth 65536 in
theorem w_c5 : (Jvm.Cond.code ({ cls := "com/example/wandel/wandel/replay/Observations", name := "record", desc := "(IZ)V" } : Jvm.MethodName) prog_61_method_2_code (4 : Nat) (Option.none : Option Jvm.ClassFile.FieldType)).before args0 about1 = true := code_word (m := ⟨2, 1⟩) (meth := k2m1) (c := k2c1) (by decide +kernel) rfl rfl rfl (by decide +kernel)
def codes1 : List Jvm.Cond := [Jvm.Cond.code x code maxLocals ret, Jvm.Cond.code ({ cls := "com/example/wandel/wandel/replay/Observations", name := "<init>", desc := "(I)V" } : Jvm.MethodName) prog_61_method_1_code (2 : Nat) (Option.none : Option Jvm.ClassFile.FieldType), Jvm.Cond.code ({ cls := "java/lang/Object", name := "<init>", desc := "()V" } : Jvm.MethodName) object_method_1_code (1 : Nat) (Option.none : Option Jvm.ClassFile.FieldType), Jvm.Cond.code ({ cls := "com/example/wandel/wandel/replay/ObservationsChangeSharePinLaw", name := "step", desc := "(Lcom/example/wandel/wandel/replay/Observations;IIIII[J)V" } : Jvm.MethodName) method_3_code (9 : Nat) (Option.none : Option Jvm.ClassFile.FieldType), Jvm.Cond.code ({ cls := "com/example/wandel/wandel/replay/Observations", name := "changeShare", desc := "()D" } : Jvm.MethodName) prog_61_method_7_code (6 : Nat) (Option.some Jvm.ClassFile.FieldType.double), Jvm.Cond.code ({ cls := "com/example/wandel/wandel/replay/Observations", name := "record", desc := "(IZ)V" } : Jvm.MethodName) prog_61_method_2_code (4 : Nat) (Option.none : Option Jvm.ClassFile.FieldType)]
set_option maxRecDepth 65536 in
theorem codes_eq : words1.filter isCode = codes1 := rfl
theorem w_codes : ∀ c ∈ words1.filter isCode, c.before args0 about1 = true := by
  rw [codes_eq]
  intro c hc
  simp only [codes1, List.mem_cons, List.not_mem_nil, or_false] at hc
  rcases hc with rfl | rfl | rfl | rfl | rfl | rfl
  · exact w_c0
  · exact w_c1
  · exact w_c2
  · exact w_c3
  · exact w_c4
  · exact w_c5
set_option maxRecDepth 65536 in
theorem w_t1 : (words1.take 24).all (fun c => isCode c || c.before args0 about1) = true := by decide +kernel
set_option maxRecDepth 65536 in
theorem w_t2 : (words1.drop 24).all (fun c => isCode c || c.before args0 about1) = true := by decide +kernel
theorem w_tables : (allAtoms (Jvm.Cond.code x code maxLocals ret :: tables_1)).before args0 about1 = true := by
  rw [allAtoms_all]
  show words1.all (fun c => c.before args0 about1) = true
  refine all_split ?_ w_codes
  rw [← List.take_append_drop 24 words1, List.all_append, w_t1, w_t2]
  rfl
set_option maxRecDepth 65536 in
theorem w_case : (Jvm.Cond.and given_1 narrow_1).before args0 about1 = true := by decide +kernel
theorem w_applies : (headSpec (Jvm.Cond.code x code maxLocals ret :: tables_1) room_1).applies x e0.platform about1 = true :=
  (Spec.applies_iff w_frames).mpr ⟨w_running, w_runnable, w_alone, w_named, w_hears, w_ripe, w_room, w_tables⟩
theorem atStart : AtStart classFile x code maxLocals ret World_1 tables_1 room_1 Calls_1 rest_1 Pre_1 launch0 p0 e0 about1 theMethod args0 below0 :=
  ⟨lists_1, trivial, launch0.admits_env _ _ _, launch0.least_env, fairChoices_fair.cas, fairChoices_fair.clock, w_frames, w_args, w_heap, w_applies, trivial, trivial, w_case⟩
end start1
theorem witness_1 : WitnessClaimed_1 := ⟨start1.p0, start1.e0, start1.about1, start1.theMethod, start1.args0, start1.below0, start1.atStart⟩
end Jvm.Pilot.@@N@@
