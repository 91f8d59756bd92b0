import JvmDerived
import JvmDerived.Pilot.@@N@@Statement
import JvmDerived.Pilot.@@N@@Code
set_option linter.unusedVariables false
set_option linter.unusedSimpArgs false
namespace Jvm.RoadKit
open Sem ClassFile Op Lib Jvm.Stand Jvm.Free Jvm.LawKit
section New
variable {p : Program} {l : Launch} {e : Env} {R : Room} {s : State} {m : MethodId} {args : Array Value} {below : List Frame} {meth : Method} {c : Code} {T : State} {locs : List Loc} {cells slots : Nat}
theorem retI (X : Stand p l e R s m args below meth c T locs cells slots) (hx : p.tables.exec = Jvm.exec) {pc : Nat} {Ls : Array Slot} {z : Int32} {rest : List Value} (hret : meth.sig.returnType = some .int) (hd : decode c.code pc = .ok (.ireturn, 1)) {fs : List Frame}
    (hl : ∀ (f : JFrame) (acts : List Action), f.method = m → f.locked = none → f.entered = [] → (doReturn e (T.setTop f) acts (some (.int z))).1 = T.setFrames fs) : Steps p.tables e below (T.setTop (mkF m pc Ls (.int z :: rest))) (T.setFrames fs) := by
  have hm' : T.vm.method? m = some meth := X.method'
  have hn : narrow .int (.int z) = .int z := rfl
  show Steps p.tables e below (T.setTop { method := m, pc := pc, locals := Ls, stack := _ :: rest, locked := none }) _
  jvm_step X.here [X.here.top, hx, hd, hm', hret, hn]
  first | (intro acts; rw [hl _ acts rfl rfl rfl]) | rw [hl _ _ rfl rfl rfl]
  exact Steps.refl _
end New
end Jvm.RoadKit
namespace Jvm.Pilot.@@N@@
open Jvm Jvm.ClassFile Sem Op Lib Jvm.Free Jvm.Stand Jvm.LawKit Jvm.RoadKit Bundle Jvm.Pilot.@@N@@.Jvm.D
theorem d1_0 : decode prog_238_method_6_code 0 = .ok (.dload_n 0, 1) := by decide +kernel
theorem d1_1 : decode prog_238_method_6_code 1 = .ok (.dload_n 2, 1) := by decide +kernel
theorem d1_2 : decode prog_238_method_6_code 2 = .ok (.dcmp .g, 1) := by decide +kernel
theorem d1_3 : decode prog_238_method_6_code 3 = .ok (.ifCond .ge 11, 3) := by decide +kernel
theorem d1_6 : decode prog_238_method_6_code 6 = .ok (.ldc2_w 140, 3) := by decide +kernel
theorem d1_9 : decode prog_238_method_6_code 9 = .ok (.dstore 4, 2) := by decide +kernel
theorem d1_11 : decode prog_238_method_6_code 11 = .ok (.goto 32, 3) := by decide +kernel
theorem d1_14 : decode prog_238_method_6_code 14 = .ok (.dload_n 0, 1) := by decide +kernel
theorem d1_15 : decode prog_238_method_6_code 15 = .ok (.dload_n 2, 1) := by decide +kernel
theorem d1_16 : decode prog_238_method_6_code 16 = .ok (.dcmp .l, 1) := by decide +kernel
theorem d1_17 : decode prog_238_method_6_code 17 = .ok (.ifCond .le 9, 3) := by decide +kernel
theorem d1_20 : decode prog_238_method_6_code 20 = .ok (.dconst 1, 1) := by decide +kernel
theorem d1_21 : decode prog_238_method_6_code 21 = .ok (.dstore 4, 2) := by decide +kernel
theorem d1_23 : decode prog_238_method_6_code 23 = .ok (.goto 20, 3) := by decide +kernel
theorem d1_26 : decode prog_238_method_6_code 26 = .ok (.dload_n 0, 1) := by decide +kernel
theorem d1_27 : decode prog_238_method_6_code 27 = .ok (.dload_n 2, 1) := by decide +kernel
theorem d1_28 : decode prog_238_method_6_code 28 = .ok (.dcmp .l, 1) := by decide +kernel
theorem d1_29 : decode prog_238_method_6_code 29 = .ok (.ifCond .ne 9, 3) := by decide +kernel
theorem d1_32 : decode prog_238_method_6_code 32 = .ok (.dconst 0, 1) := by decide +kernel
theorem d1_33 : decode prog_238_method_6_code 33 = .ok (.dstore 4, 2) := by decide +kernel
theorem d1_35 : decode prog_238_method_6_code 35 = .ok (.goto 8, 3) := by decide +kernel
theorem d1_38 : decode prog_238_method_6_code 38 = .ok (.ldc2_w 59, 3) := by decide +kernel
theorem d1_41 : decode prog_238_method_6_code 41 = .ok (.dstore 4, 2) := by decide +kernel
theorem d1_43 : decode prog_238_method_6_code 43 = .ok (.dload 4, 2) := by decide +kernel
theorem d1_45 : decode prog_238_method_6_code 45 = .ok (.dreturn, 1) := by decide +kernel
theorem pn_1 : plainName "com/example/xspar/xspar/runtime/Numbers" = true := by first | (simp [plainName, overriddenIn]; done) | decide +kernel
theorem ef_1 (m : MethodId) (p1 p2 : UInt64) : entryFrame m #[(.double p1), (.double p2)] 6 = (mkF m 0 #[.val (.double p1), .second, .val (.double p2), .second, .unset, .unset] []) := by first | (simp [entryFrame, mkF, argsToLocals, Value.category]; done) | rfl
def own_cmpD (x y : UInt64) : UInt64 := if cmpValue (FP.dcmp x y) .g < (0 : Int32) then (13830554455654793216 : UInt64) else if (0 : Int32) < cmpValue (FP.dcmp x y) .l then FP.dconst1 else if cmpValue (FP.dcmp x y) .l = (0 : Int32) then FP.dconst0 else (9221120237041090560 : UInt64)
def Q1 (p1 p2 : UInt64) (h0 : Heap) (n0 : Nat) (v : Option Value) (h : Heap) (L : List Loc) : Prop := v = some (.double (own_cmpD p1 p2)) ∧ Fr n0 L ∧ h = h0
set_option maxRecDepth 65536 in
set_option maxHeartbeats 40000000 in
theorem rm1 (l : Launch) (Z : State) (a0 : Array Value) (hw : ∀ d ∈ tables_1, d.before a0 Z = true) (ws : List Jvm.Cond) (p1 p2 : UInt64) (h0 : Heap) (n0 : Nat) (Z0 : n0 ≤ h0.size) :
    MetFree l (⟨"com/example/xspar/xspar/runtime/Numbers", "compareDoubles", "(DD)D"⟩ : MethodName) (head1 (Jvm.Cond.code (⟨"com/example/xspar/xspar/runtime/Numbers", "compareDoubles", "(DD)D"⟩ : MethodName) prog_238_method_6_code 6 (some .double) :: ws) ({ frames := 0, cells := 0, slots := 0, locals := 0 } : Room)) (fun a U => a = #[(.double p1), (.double p2)] ∧ Z.Warmed39 U.vm ∧ U.heap = h0) (fun _ _ _ _ _ => True) (fun _ U o U' => ∃ v L, o = .returned v ∧ Q1 p1 p2 h0 n0 v U'.heap L ∧ FrameEnd U o U' L ({ frames := 0, cells := 0, slots := 0, locals := 0 } : Room).cells ({ frames := 0, cells := 0, slots := 0, locals := 0 } : Room).slots) := by
  refine MetFree.of_bodySF (plainFor_of_name pn_1) hisR ?_
  intro p e s m args below meth c s₁ Bd hml0 hP hK
  obtain ⟨rfl, hZ, hh⟩ := hP
  have hx := Bd.exec
  have hby := Bd.bytes
  have hml : c.maxLocals = 6 := hml0
  have hown : s.vm.findClass "com/example/xspar/xspar/runtime/Numbers" = some m.cls := findClass_of_methodNamed Bd.named
  have X0 : Stand p l e ({ frames := 0, cells := 0, slots := 0, locals := 0 } : Room) s m #[(.double p1), (.double p2)] below meth c s₁ [] 0 0 := Stand.of_body Bd
  have e0 : s₁.heap = h0 := by rw [← hh, Bd.state]; rfl
  have N0 := Fr.nil n0
  have pre0 : ∀ t, Steps p.tables e below (s₁.setTop (mkF m 0 #[.val (.double p1), .second, .val (.double p2), .second, .unset, .unset] [])) t → Steps p.tables e below (s₁.setTop (entryFrame m #[(.double p1), (.double p2)] 6)) t := fun t k => castTop (ef_1 m p1 p2) k
  obtain ⟨v, hv0⟩ : ∃ v, v = own_cmpD p1 p2 := ⟨_, rfl⟩
  obtain ⟨fs, hr, hrun, hended, hW, hsame⟩ := X0.leave (v := some (.double v)) (fun h => by rw [Bd.returns] at h; cases h)
  refine ⟨_, _, pre0 _ ?_, hrun, hended, _, _, rfl, ⟨by rw [hv0], N0, e0⟩, ⟨_, rfl⟩, hW, hsame.mono (by decide) (by decide)⟩
  have k := hv0.symm
  rw [own_cmpD] at k
  refine XS.dloadN X0.here hx rfl (hb hby d1_0) rfl ?_
  show Steps p.tables e below (s₁.setTop (mkF m 1 #[.val (.double p1), .second, .val (.double p2), .second, .unset, .unset] [(.double p1)])) _
  refine XS.dloadN X0.here hx rfl (hb hby d1_1) rfl ?_
  show Steps p.tables e below (s₁.setTop (mkF m 2 #[.val (.double p1), .second, .val (.double p2), .second, .unset, .unset] [(.double p2), (.double p1)])) _
  refine XS.dcmpS X0.here hx rfl (hb hby d1_2) rfl rfl ?_
  show Steps p.tables e below (s₁.setTop (mkF m 3 #[.val (.double p1), .second, .val (.double p2), .second, .unset, .unset] [(.int (cmpValue (FP.dcmp p1 p2) .g))])) _
  by_cases hc3 : (cmpValue (FP.dcmp p1 p2) .g) < (0 : Int32)
  · rw [if_pos hc3] at k
    refine XS.ifNo X0.here hx rfl (hb hby d1_3) rfl (Jvm.Free.XT.i0_ge_f hc3) ?_
    show Steps p.tables e below (s₁.setTop (mkF m 6 #[.val (.double p1), .second, .val (.double p2), .second, .unset, .unset] [])) _
    refine X0.ldc2DoubleC hx hown (mvT hZ (hw _ (List.mem_of_getElem? (i := 4) rfl))) (g := (mkF m 6 #[.val (.double p1), .second, .val (.double p2), .second, .unset, .unset] [])) rfl (hb hby d1_6) _ ?_
    show Steps p.tables e below (s₁.setTop (mkF m 9 #[.val (.double p1), .second, .val (.double p2), .second, .unset, .unset] [(.double (13830554455654793216 : UInt64))])) _
    refine XS.dstore X0.here hx rfl (hb hby d1_9) rfl (l' := #[.val (.double p1), .second, .val (.double p2), .second, .val (.double (13830554455654793216 : UInt64)), .second]) rfl ?_
    show Steps p.tables e below (s₁.setTop (mkF m 11 #[.val (.double p1), .second, .val (.double p2), .second, .val (.double (13830554455654793216 : UInt64)), .second] [])) _
    refine XS.goto X0.here hx rfl (pc0 := 11) (pc' := 43) rfl (hb hby d1_11) (by decide) (by decide) ?_
    show Steps p.tables e below (s₁.setTop (mkF m 43 #[.val (.double p1), .second, .val (.double p2), .second, .val (.double (13830554455654793216 : UInt64)), .second] [])) _
    refine XS.dload X0.here hx rfl (hb hby d1_43) rfl ?_
    show Steps p.tables e below (s₁.setTop (mkF m 45 #[.val (.double p1), .second, .val (.double p2), .second, .val (.double (13830554455654793216 : UInt64)), .second] [(.double (13830554455654793216 : UInt64))])) _
    subst k
    exact retOut X0 hx Bd.returns rfl (Or.inr (Or.inr (Or.inl ⟨rfl, rfl, _, rfl⟩))) (hb hby d1_45) hr
  · rw [if_neg hc3] at k
    refine XS.ifYes X0.here hx rfl (pc0 := 3) (pc' := 14) rfl (hb hby d1_3) rfl (Jvm.Free.XT.i0_ge_t hc3) (by decide) (by decide) ?_
    show Steps p.tables e below (s₁.setTop (mkF m 14 #[.val (.double p1), .second, .val (.double p2), .second, .unset, .unset] [])) _
    refine XS.dloadN X0.here hx rfl (hb hby d1_14) rfl ?_
    show Steps p.tables e below (s₁.setTop (mkF m 15 #[.val (.double p1), .second, .val (.double p2), .second, .unset, .unset] [(.double p1)])) _
    refine XS.dloadN X0.here hx rfl (hb hby d1_15) rfl ?_
    show Steps p.tables e below (s₁.setTop (mkF m 16 #[.val (.double p1), .second, .val (.double p2), .second, .unset, .unset] [(.double p2), (.double p1)])) _
    refine XS.dcmpS X0.here hx rfl (hb hby d1_16) rfl rfl ?_
    show Steps p.tables e below (s₁.setTop (mkF m 17 #[.val (.double p1), .second, .val (.double p2), .second, .unset, .unset] [(.int (cmpValue (FP.dcmp p1 p2) .l))])) _
    by_cases hc17 : (0 : Int32) < (cmpValue (FP.dcmp p1 p2) .l)
    · rw [if_pos hc17] at k
      refine XS.ifNo X0.here hx rfl (hb hby d1_17) rfl (Jvm.Free.XT.i0_le_f hc17) ?_
      show Steps p.tables e below (s₁.setTop (mkF m 20 #[.val (.double p1), .second, .val (.double p2), .second, .unset, .unset] [])) _
      refine XS.dconst1 X0.here hx rfl (hb hby d1_20) rfl ?_
      show Steps p.tables e below (s₁.setTop (mkF m 21 #[.val (.double p1), .second, .val (.double p2), .second, .unset, .unset] [(.double FP.dconst1)])) _
      refine XS.dstore X0.here hx rfl (hb hby d1_21) rfl (l' := #[.val (.double p1), .second, .val (.double p2), .second, .val (.double FP.dconst1), .second]) rfl ?_
      show Steps p.tables e below (s₁.setTop (mkF m 23 #[.val (.double p1), .second, .val (.double p2), .second, .val (.double FP.dconst1), .second] [])) _
      refine XS.goto X0.here hx rfl (pc0 := 23) (pc' := 43) rfl (hb hby d1_23) (by decide) (by decide) ?_
      show Steps p.tables e below (s₁.setTop (mkF m 43 #[.val (.double p1), .second, .val (.double p2), .second, .val (.double FP.dconst1), .second] [])) _
      refine XS.dload X0.here hx rfl (hb hby d1_43) rfl ?_
      show Steps p.tables e below (s₁.setTop (mkF m 45 #[.val (.double p1), .second, .val (.double p2), .second, .val (.double FP.dconst1), .second] [(.double FP.dconst1)])) _
      subst k
      exact retOut X0 hx Bd.returns rfl (Or.inr (Or.inr (Or.inl ⟨rfl, rfl, _, rfl⟩))) (hb hby d1_45) hr
    · rw [if_neg hc17] at k
      refine XS.ifYes X0.here hx rfl (pc0 := 17) (pc' := 26) rfl (hb hby d1_17) rfl (Jvm.Free.XT.i0_le_t hc17) (by decide) (by decide) ?_
      show Steps p.tables e below (s₁.setTop (mkF m 26 #[.val (.double p1), .second, .val (.double p2), .second, .unset, .unset] [])) _
      refine XS.dloadN X0.here hx rfl (hb hby d1_26) rfl ?_
      show Steps p.tables e below (s₁.setTop (mkF m 27 #[.val (.double p1), .second, .val (.double p2), .second, .unset, .unset] [(.double p1)])) _
      refine XS.dloadN X0.here hx rfl (hb hby d1_27) rfl ?_
      show Steps p.tables e below (s₁.setTop (mkF m 28 #[.val (.double p1), .second, .val (.double p2), .second, .unset, .unset] [(.double p2), (.double p1)])) _
      refine XS.dcmpS X0.here hx rfl (hb hby d1_28) rfl rfl ?_
      show Steps p.tables e below (s₁.setTop (mkF m 29 #[.val (.double p1), .second, .val (.double p2), .second, .unset, .unset] [(.int (cmpValue (FP.dcmp p1 p2) .l))])) _
      by_cases hc29 : (cmpValue (FP.dcmp p1 p2) .l) = (0 : Int32)
      · rw [if_pos hc29] at k
        refine XS.ifNo X0.here hx rfl (hb hby d1_29) rfl (Jvm.Free.XT.i0_ne_f hc29) ?_
        show Steps p.tables e below (s₁.setTop (mkF m 32 #[.val (.double p1), .second, .val (.double p2), .second, .unset, .unset] [])) _
        refine XS.dconst0 X0.here hx rfl (hb hby d1_32) rfl ?_
        show Steps p.tables e below (s₁.setTop (mkF m 33 #[.val (.double p1), .second, .val (.double p2), .second, .unset, .unset] [(.double FP.dconst0)])) _
        refine XS.dstore X0.here hx rfl (hb hby d1_33) rfl (l' := #[.val (.double p1), .second, .val (.double p2), .second, .val (.double FP.dconst0), .second]) rfl ?_
        show Steps p.tables e below (s₁.setTop (mkF m 35 #[.val (.double p1), .second, .val (.double p2), .second, .val (.double FP.dconst0), .second] [])) _
        refine XS.goto X0.here hx rfl (pc0 := 35) (pc' := 43) rfl (hb hby d1_35) (by decide) (by decide) ?_
        show Steps p.tables e below (s₁.setTop (mkF m 43 #[.val (.double p1), .second, .val (.double p2), .second, .val (.double FP.dconst0), .second] [])) _
        refine XS.dload X0.here hx rfl (hb hby d1_43) rfl ?_
        show Steps p.tables e below (s₁.setTop (mkF m 45 #[.val (.double p1), .second, .val (.double p2), .second, .val (.double FP.dconst0), .second] [(.double FP.dconst0)])) _
        subst k
        exact retOut X0 hx Bd.returns rfl (Or.inr (Or.inr (Or.inl ⟨rfl, rfl, _, rfl⟩))) (hb hby d1_45) hr
      · rw [if_neg hc29] at k
        refine XS.ifYes X0.here hx rfl (pc0 := 29) (pc' := 38) rfl (hb hby d1_29) rfl (Jvm.Free.XT.i0_ne_t hc29) (by decide) (by decide) ?_
        show Steps p.tables e below (s₁.setTop (mkF m 38 #[.val (.double p1), .second, .val (.double p2), .second, .unset, .unset] [])) _
        refine X0.ldc2DoubleC hx hown (mvT hZ (hw _ (List.mem_of_getElem? (i := 5) rfl))) (g := (mkF m 38 #[.val (.double p1), .second, .val (.double p2), .second, .unset, .unset] [])) rfl (hb hby d1_38) _ ?_
        show Steps p.tables e below (s₁.setTop (mkF m 41 #[.val (.double p1), .second, .val (.double p2), .second, .unset, .unset] [(.double (9221120237041090560 : UInt64))])) _
        refine XS.dstore X0.here hx rfl (hb hby d1_41) rfl (l' := #[.val (.double p1), .second, .val (.double p2), .second, .val (.double (9221120237041090560 : UInt64)), .second]) rfl ?_
        show Steps p.tables e below (s₁.setTop (mkF m 43 #[.val (.double p1), .second, .val (.double p2), .second, .val (.double (9221120237041090560 : UInt64)), .second] [])) _
        refine XS.dload X0.here hx rfl (hb hby d1_43) rfl ?_
        show Steps p.tables e below (s₁.setTop (mkF m 45 #[.val (.double p1), .second, .val (.double p2), .second, .val (.double (9221120237041090560 : UInt64)), .second] [(.double (9221120237041090560 : UInt64))])) _
        subst k
        exact retOut X0 hx Bd.returns rfl (Or.inr (Or.inr (Or.inl ⟨rfl, rfl, _, rfl⟩))) (hb hby d1_45) hr
def own_bit (b : Int32) : Int32 := if b = (0 : Int32) then (0 : Int32) else (1 : Int32)
def own_dsel (n : Int32) (a : UInt64) : UInt64 := if n = (0 : Int32) then a else FP.dneg a
def own_lsel (n : Int32) (x : Int32) : Int64 := if n = (0 : Int32) then x.toInt64 else -(x.toInt64)
def own_sgn (a b : Int64) : Int32 := if lcmpW a b < (0 : Int32) then (-1 : Int32) else if (0 : Int32) < lcmpW a b then (1 : Int32) else (0 : Int32)
theorem own_val (n x : Int32) : Jvm.FP.Core.DInt (own_lsel n x).toInt (own_dsel n (FP.i2d x)) := by
  unfold own_lsel own_dsel
  by_cases h : n = 0
  · rw [if_pos h, if_pos h, Int32.toInt_toInt64]
    exact Jvm.FP.Core.i2d_int x
  · rw [if_neg h, if_neg h]
    have hn : Jvm.FP.dIsNaN (FP.i2d x) = false := by
      rw [i2d_w]; exact Jvm.FP.Core.l2d_notNaN _
    have e1 : (-(x.toInt64)).toInt = -x.toInt := by
      have q1 := c_lneg x.toInt64
      have q2 := rng64 (-(x.toInt64))
      have q3 := rng32 x
      rw [Int32.toInt_toInt64] at q1
      omega
    rw [e1, Jvm.FP.dneg_core hn]
    exact Jvm.FP.Core.dneg_int (Jvm.FP.Core.i2d_int x)
theorem own_fin (p1 p2 n3 n4 : Int32) {A B : UInt64} {VA VB : Int64} {E : Int32} (hA : A = own_dsel n3 (FP.i2d p1)) (hB : B = own_dsel n4 (FP.i2d p2)) (hVA : VA = own_lsel n3 p1) (hVB : VB = own_lsel n4 p2) (hE : E = own_sgn VA VB) : cmpValue (FP.dcmp (own_cmpD A B) (FP.i2d E)) .l = (0 : Int32) := by
  have d1 : Jvm.FP.Core.DInt VA.toInt A := by rw [hVA, hA]; exact own_val n3 p1
  have d2 : Jvm.FP.Core.DInt VB.toInt B := by rw [hVB, hB]; exact own_val n4 p2
  have hc : FP.dcmp A B = some (compare VA.toInt VB.toInt) := Jvm.FP.Core.dcmp_int d1 d2
  have c1 := lw_lt VA VB
  have c2 := lw_gt VA VB
  rw [Int64.lt_iff_toInt_lt] at c1 c2
  rcases Int.lt_trichotomy VA.toInt VB.toInt with h | h | h
  · have q : compare VA.toInt VB.toInt = .lt := Int.compare_eq_lt.mpr h
    have e : own_cmpD A B = 13830554455654793216 := by unfold own_cmpD; rw [hc, q]; rfl
    have e2 : E = -1 := by rw [hE]; unfold own_sgn; rw [if_pos (c1.mpr h)]
    rw [e, e2]; decide +kernel
  · have q : compare VA.toInt VB.toInt = .eq := Int.compare_eq_eq.mpr h
    have e : own_cmpD A B = FP.dconst0 := by unfold own_cmpD; rw [hc, q]; rfl
    have e2 : E = 0 := by rw [hE]; unfold own_sgn; rw [if_neg (fun z => by have := c1.mp z; omega), if_neg (fun z => by have := c2.mp z; omega)]
    rw [e, e2]; decide +kernel
  · have q : compare VA.toInt VB.toInt = .gt := Int.compare_eq_gt.mpr h
    have e : own_cmpD A B = FP.dconst1 := by unfold own_cmpD; rw [hc, q]; rfl
    have e2 : E = 1 := by rw [hE]; unfold own_sgn; rw [if_neg (fun z => by have := c1.mp z; omega), if_pos (c2.mpr h)]
    rw [e, e2]; decide +kernel
theorem pn_0 : plainName "com/example/xspar/xspar/runtime/NumbersCompareDoublesPinLaw" = true := by first | (simp [plainName, overriddenIn]; done) | decide +kernel
theorem pd_0_0 : parseMethodDescriptor "(DD)D" = some ⟨[.double, .double], some .double⟩ := by decide +kernel
theorem ef_0 (m : MethodId) (p1 p2 p3 : Int32) : entryFrame m #[(.int p1), (.int p2), (.int p3)] maxLocals = (mkF m 0 #[.val (.int p1), .val (.int p2), .val (.int p3), .unset, .unset, .unset, .unset, .unset, .unset, .unset, .unset, .unset, .unset, .unset, .unset, .unset] []) := by first | (simp [entryFrame, mkF, argsToLocals, Value.category, maxLocals]; done) | rfl
def Q0 (h0 : Heap) (n0 : Nat) (v : Option Value) (h : Heap) (L : List Loc) : Prop := v = some (.int (1 : Int32)) ∧ Fr n0 L
set_option maxRecDepth 65536 in
set_option maxHeartbeats 40000000 in
theorem rm0 (l : Launch) (Z : State) (a0 : Array Value) (hw : ∀ d ∈ tables_1, d.before a0 Z = true) (ws : List Jvm.Cond) (p1 : Int32) (p2 : Int32) (p3 : Int32) (h0 : Heap) (n0 : Nat) (Z0 : n0 ≤ h0.size) :
    MetFree l x (head1 (Jvm.Cond.code x code maxLocals ret :: ws) room_1) (fun a U => a = #[(.int p1), (.int p2), (.int p3)] ∧ Z.Warmed39 U.vm ∧ U.heap = h0) (fun _ _ _ _ _ => True) (fun _ U o U' => ∃ v L, o = .returned v ∧ Q0 h0 n0 v U'.heap L ∧ FrameEnd U o U' L room_1.cells room_1.slots) := by
  refine MetFree.of_bodySF (plainFor_of_name pn_0) hisR ?_
  intro p e s m args below meth c s₁ Bd hml0 hP hK
  obtain ⟨rfl, hZ, hh⟩ := hP
  have hx := Bd.exec
  have hby := Bd.bytes
  have hml : c.maxLocals = 16 := hml0
  have hown : s.vm.findClass "com/example/xspar/xspar/runtime/NumbersCompareDoublesPinLaw" = some m.cls := findClass_of_methodNamed Bd.named
  have X0 : Stand p l e room_1 s m #[(.int p1), (.int p2), (.int p3)] below meth c s₁ [] 0 0 := Stand.of_body Bd
  have e0 : s₁.heap = h0 := by rw [← hh, Bd.state]; rfl
  have N0 := Fr.nil n0
  have pre0 : ∀ t, Steps p.tables e below (s₁.setTop (mkF m 0 #[.val (.int p1), .val (.int p2), .val (.int p3), .unset, .unset, .unset, .unset, .unset, .unset, .unset, .unset, .unset, .unset, .unset, .unset, .unset] [])) t → Steps p.tables e below (s₁.setTop (entryFrame m #[(.int p1), (.int p2), (.int p3)] maxLocals)) t := fun t k => castTop (ef_0 m p1 p2 p3) k
  obtain ⟨n3, h3⟩ : ∃ z, z = own_bit (p3 &&& (1 : Int32)) := ⟨_, rfl⟩
  obtain ⟨n4, h4⟩ : ∃ z, z = own_bit (p3 &&& (2 : Int32)) := ⟨_, rfl⟩
  obtain ⟨A, hA⟩ : ∃ z, z = own_dsel n3 (FP.i2d p1) := ⟨_, rfl⟩
  obtain ⟨B, hB⟩ : ∃ z, z = own_dsel n4 (FP.i2d p2) := ⟨_, rfl⟩
  obtain ⟨VA, hVA⟩ : ∃ z, z = own_lsel n3 p1 := ⟨_, rfl⟩
  obtain ⟨VB, hVB⟩ : ∃ z, z = own_lsel n4 p2 := ⟨_, rfl⟩
  obtain ⟨E, hE⟩ : ∃ z, z = own_sgn VA VB := ⟨_, rfl⟩
  have hfin : cmpValue (FP.dcmp (own_cmpD A B) (FP.i2d E)) .l = (0 : Int32) := own_fin p1 p2 n3 n4 hA hB hVA hVB hE
  have s1 : ∀ target, Steps p.tables e below (s₁.setTop (mkF m 11 #[.val (.int p1), .val (.int p2), .val (.int p3), .unset, .unset, .unset, .unset, .unset, .unset, .unset, .unset, .unset, .unset, .unset, .unset, .unset] [(.int n3)])) target → Steps p.tables e below (s₁.setTop (mkF m 0 #[.val (.int p1), .val (.int p2), .val (.int p3), .unset, .unset, .unset, .unset, .unset, .unset, .unset, .unset, .unset, .unset, .unset, .unset, .unset] [])) target := by
    intro target k
    rw [h3, own_bit] at k
    refine XS.iloadN X0.here hx rfl (hb hby at_0) rfl ?_
    show Steps p.tables e below (s₁.setTop (mkF m 1 #[.val (.int p1), .val (.int p2), .val (.int p3), .unset, .unset, .unset, .unset, .unset, .unset, .unset, .unset, .unset, .unset, .unset, .unset, .unset] [(.int p3)])) _
    refine XS.iconst X0.here hx rfl (hb hby at_1) ?_
    show Steps p.tables e below (s₁.setTop (mkF m 2 #[.val (.int p1), .val (.int p2), .val (.int p3), .unset, .unset, .unset, .unset, .unset, .unset, .unset, .unset, .unset, .unset, .unset, .unset, .unset] [(.int (1 : Int32)), (.int p3)])) _
    refine XS.iand X0.here hx rfl (hb hby at_2) rfl ?_
    show Steps p.tables e below (s₁.setTop (mkF m 3 #[.val (.int p1), .val (.int p2), .val (.int p3), .unset, .unset, .unset, .unset, .unset, .unset, .unset, .unset, .unset, .unset, .unset, .unset, .unset] [(.int (p3 &&& (1 : Int32)))])) _
    by_cases hc3 : (p3 &&& (1 : Int32)) = (0 : Int32)
    · rw [if_pos hc3] at k
      refine XS.ifYes X0.here hx rfl (pc0 := 3) (pc' := 10) rfl (hb hby at_3) rfl (Jvm.Free.XT.i0_eq_t hc3) (by decide) (by decide) ?_
      show Steps p.tables e below (s₁.setTop (mkF m 10 #[.val (.int p1), .val (.int p2), .val (.int p3), .unset, .unset, .unset, .unset, .unset, .unset, .unset, .unset, .unset, .unset, .unset, .unset, .unset] [])) _
      refine XS.iconst X0.here hx rfl (hb hby at_10) ?_
      show Steps p.tables e below (s₁.setTop (mkF m 11 #[.val (.int p1), .val (.int p2), .val (.int p3), .unset, .unset, .unset, .unset, .unset, .unset, .unset, .unset, .unset, .unset, .unset, .unset, .unset] [(.int (0 : Int32))])) _
      exact k
    · rw [if_neg hc3] at k
      refine XS.ifNo X0.here hx rfl (hb hby at_3) rfl (Jvm.Free.XT.i0_eq_f hc3) ?_
      show Steps p.tables e below (s₁.setTop (mkF m 6 #[.val (.int p1), .val (.int p2), .val (.int p3), .unset, .unset, .unset, .unset, .unset, .unset, .unset, .unset, .unset, .unset, .unset, .unset, .unset] [])) _
      refine XS.iconst X0.here hx rfl (hb hby at_6) ?_
      show Steps p.tables e below (s₁.setTop (mkF m 7 #[.val (.int p1), .val (.int p2), .val (.int p3), .unset, .unset, .unset, .unset, .unset, .unset, .unset, .unset, .unset, .unset, .unset, .unset, .unset] [(.int (1 : Int32))])) _
      refine XS.goto X0.here hx rfl (pc0 := 7) (pc' := 11) rfl (hb hby at_7) (by decide) (by decide) ?_
      show Steps p.tables e below (s₁.setTop (mkF m 11 #[.val (.int p1), .val (.int p2), .val (.int p3), .unset, .unset, .unset, .unset, .unset, .unset, .unset, .unset, .unset, .unset, .unset, .unset, .unset] [(.int (1 : Int32))])) _
      exact k
  have s2 : ∀ target, Steps p.tables e below (s₁.setTop (mkF m 23 #[.val (.int p1), .val (.int p2), .val (.int p3), .val (.int n3), .unset, .unset, .unset, .unset, .unset, .unset, .unset, .unset, .unset, .unset, .unset, .unset] [(.int n4)])) target → Steps p.tables e below (s₁.setTop (mkF m 12 #[.val (.int p1), .val (.int p2), .val (.int p3), .val (.int n3), .unset, .unset, .unset, .unset, .unset, .unset, .unset, .unset, .unset, .unset, .unset, .unset] [])) target := by
    intro target k
    rw [h4, own_bit] at k
    refine XS.iloadN X0.here hx rfl (hb hby at_12) rfl ?_
    show Steps p.tables e below (s₁.setTop (mkF m 13 #[.val (.int p1), .val (.int p2), .val (.int p3), .val (.int n3), .unset, .unset, .unset, .unset, .unset, .unset, .unset, .unset, .unset, .unset, .unset, .unset] [(.int p3)])) _
    refine XS.iconst X0.here hx rfl (hb hby at_13) ?_
    show Steps p.tables e below (s₁.setTop (mkF m 14 #[.val (.int p1), .val (.int p2), .val (.int p3), .val (.int n3), .unset, .unset, .unset, .unset, .unset, .unset, .unset, .unset, .unset, .unset, .unset, .unset] [(.int (2 : Int32)), (.int p3)])) _
    refine XS.iand X0.here hx rfl (hb hby at_14) rfl ?_
    show Steps p.tables e below (s₁.setTop (mkF m 15 #[.val (.int p1), .val (.int p2), .val (.int p3), .val (.int n3), .unset, .unset, .unset, .unset, .unset, .unset, .unset, .unset, .unset, .unset, .unset, .unset] [(.int (p3 &&& (2 : Int32)))])) _
    by_cases hc15 : (p3 &&& (2 : Int32)) = (0 : Int32)
    · rw [if_pos hc15] at k
      refine XS.ifYes X0.here hx rfl (pc0 := 15) (pc' := 22) rfl (hb hby at_15) rfl (Jvm.Free.XT.i0_eq_t hc15) (by decide) (by decide) ?_
      show Steps p.tables e below (s₁.setTop (mkF m 22 #[.val (.int p1), .val (.int p2), .val (.int p3), .val (.int n3), .unset, .unset, .unset, .unset, .unset, .unset, .unset, .unset, .unset, .unset, .unset, .unset] [])) _
      refine XS.iconst X0.here hx rfl (hb hby at_22) ?_
      show Steps p.tables e below (s₁.setTop (mkF m 23 #[.val (.int p1), .val (.int p2), .val (.int p3), .val (.int n3), .unset, .unset, .unset, .unset, .unset, .unset, .unset, .unset, .unset, .unset, .unset, .unset] [(.int (0 : Int32))])) _
      exact k
    · rw [if_neg hc15] at k
      refine XS.ifNo X0.here hx rfl (hb hby at_15) rfl (Jvm.Free.XT.i0_eq_f hc15) ?_
      show Steps p.tables e below (s₁.setTop (mkF m 18 #[.val (.int p1), .val (.int p2), .val (.int p3), .val (.int n3), .unset, .unset, .unset, .unset, .unset, .unset, .unset, .unset, .unset, .unset, .unset, .unset] [])) _
      refine XS.iconst X0.here hx rfl (hb hby at_18) ?_
      show Steps p.tables e below (s₁.setTop (mkF m 19 #[.val (.int p1), .val (.int p2), .val (.int p3), .val (.int n3), .unset, .unset, .unset, .unset, .unset, .unset, .unset, .unset, .unset, .unset, .unset, .unset] [(.int (1 : Int32))])) _
      refine XS.goto X0.here hx rfl (pc0 := 19) (pc' := 23) rfl (hb hby at_19) (by decide) (by decide) ?_
      show Steps p.tables e below (s₁.setTop (mkF m 23 #[.val (.int p1), .val (.int p2), .val (.int p3), .val (.int n3), .unset, .unset, .unset, .unset, .unset, .unset, .unset, .unset, .unset, .unset, .unset, .unset] [(.int (1 : Int32))])) _
      exact k
  have s3 : ∀ target, Steps p.tables e below (s₁.setTop (mkF m 42 #[.val (.int p1), .val (.int p2), .val (.int p3), .val (.int n3), .val (.int n4), .val (.double A), .second, .val (.double (FP.i2d p2)), .second, .unset, .unset, .unset, .unset, .unset, .unset, .unset] [])) target → Steps p.tables e below (s₁.setTop (mkF m 33 #[.val (.int p1), .val (.int p2), .val (.int p3), .val (.int n3), .val (.int n4), .val (.double (FP.i2d p1)), .second, .val (.double (FP.i2d p2)), .second, .unset, .unset, .unset, .unset, .unset, .unset, .unset] [])) target := by
    intro target k
    rw [hA, own_dsel] at k
    refine XS.iloadN X0.here hx rfl (hb hby at_33) rfl ?_
    show Steps p.tables e below (s₁.setTop (mkF m 34 #[.val (.int p1), .val (.int p2), .val (.int p3), .val (.int n3), .val (.int n4), .val (.double (FP.i2d p1)), .second, .val (.double (FP.i2d p2)), .second, .unset, .unset, .unset, .unset, .unset, .unset, .unset] [(.int n3)])) _
    by_cases hc34 : n3 = (0 : Int32)
    · rw [if_pos hc34] at k
      refine XS.ifYes X0.here hx rfl (pc0 := 34) (pc' := 42) rfl (hb hby at_34) rfl (Jvm.Free.XT.i0_eq_t hc34) (by decide) (by decide) ?_
      show Steps p.tables e below (s₁.setTop (mkF m 42 #[.val (.int p1), .val (.int p2), .val (.int p3), .val (.int n3), .val (.int n4), .val (.double (FP.i2d p1)), .second, .val (.double (FP.i2d p2)), .second, .unset, .unset, .unset, .unset, .unset, .unset, .unset] [])) _
      exact k
    · rw [if_neg hc34] at k
      refine XS.ifNo X0.here hx rfl (hb hby at_34) rfl (Jvm.Free.XT.i0_eq_f hc34) ?_
      show Steps p.tables e below (s₁.setTop (mkF m 37 #[.val (.int p1), .val (.int p2), .val (.int p3), .val (.int n3), .val (.int n4), .val (.double (FP.i2d p1)), .second, .val (.double (FP.i2d p2)), .second, .unset, .unset, .unset, .unset, .unset, .unset, .unset] [])) _
      refine XS.dload X0.here hx rfl (hb hby at_37) rfl ?_
      show Steps p.tables e below (s₁.setTop (mkF m 39 #[.val (.int p1), .val (.int p2), .val (.int p3), .val (.int n3), .val (.int n4), .val (.double (FP.i2d p1)), .second, .val (.double (FP.i2d p2)), .second, .unset, .unset, .unset, .unset, .unset, .unset, .unset] [(.double (FP.i2d p1))])) _
      refine XS.dnegS X0.here hx rfl (hb hby at_39) rfl rfl ?_
      show Steps p.tables e below (s₁.setTop (mkF m 40 #[.val (.int p1), .val (.int p2), .val (.int p3), .val (.int n3), .val (.int n4), .val (.double (FP.i2d p1)), .second, .val (.double (FP.i2d p2)), .second, .unset, .unset, .unset, .unset, .unset, .unset, .unset] [(.double (FP.dneg (FP.i2d p1)))])) _
      refine XS.dstore X0.here hx rfl (hb hby at_40) rfl (l' := #[.val (.int p1), .val (.int p2), .val (.int p3), .val (.int n3), .val (.int n4), .val (.double (FP.dneg (FP.i2d p1))), .second, .val (.double (FP.i2d p2)), .second, .unset, .unset, .unset, .unset, .unset, .unset, .unset]) rfl ?_
      show Steps p.tables e below (s₁.setTop (mkF m 42 #[.val (.int p1), .val (.int p2), .val (.int p3), .val (.int n3), .val (.int n4), .val (.double (FP.dneg (FP.i2d p1))), .second, .val (.double (FP.i2d p2)), .second, .unset, .unset, .unset, .unset, .unset, .unset, .unset] [])) _
      exact k
  have s4 : ∀ target, Steps p.tables e below (s₁.setTop (mkF m 52 #[.val (.int p1), .val (.int p2), .val (.int p3), .val (.int n3), .val (.int n4), .val (.double A), .second, .val (.double B), .second, .unset, .unset, .unset, .unset, .unset, .unset, .unset] [])) target → Steps p.tables e below (s₁.setTop (mkF m 42 #[.val (.int p1), .val (.int p2), .val (.int p3), .val (.int n3), .val (.int n4), .val (.double A), .second, .val (.double (FP.i2d p2)), .second, .unset, .unset, .unset, .unset, .unset, .unset, .unset] [])) target := by
    intro target k
    rw [hB, own_dsel] at k
    refine XS.iload X0.here hx rfl (hb hby at_42) rfl ?_
    show Steps p.tables e below (s₁.setTop (mkF m 44 #[.val (.int p1), .val (.int p2), .val (.int p3), .val (.int n3), .val (.int n4), .val (.double A), .second, .val (.double (FP.i2d p2)), .second, .unset, .unset, .unset, .unset, .unset, .unset, .unset] [(.int n4)])) _
    by_cases hc44 : n4 = (0 : Int32)
    · rw [if_pos hc44] at k
      refine XS.ifYes X0.here hx rfl (pc0 := 44) (pc' := 52) rfl (hb hby at_44) rfl (Jvm.Free.XT.i0_eq_t hc44) (by decide) (by decide) ?_
      show Steps p.tables e below (s₁.setTop (mkF m 52 #[.val (.int p1), .val (.int p2), .val (.int p3), .val (.int n3), .val (.int n4), .val (.double A), .second, .val (.double (FP.i2d p2)), .second, .unset, .unset, .unset, .unset, .unset, .unset, .unset] [])) _
      exact k
    · rw [if_neg hc44] at k
      refine XS.ifNo X0.here hx rfl (hb hby at_44) rfl (Jvm.Free.XT.i0_eq_f hc44) ?_
      show Steps p.tables e below (s₁.setTop (mkF m 47 #[.val (.int p1), .val (.int p2), .val (.int p3), .val (.int n3), .val (.int n4), .val (.double A), .second, .val (.double (FP.i2d p2)), .second, .unset, .unset, .unset, .unset, .unset, .unset, .unset] [])) _
      refine XS.dload X0.here hx rfl (hb hby at_47) rfl ?_
      show Steps p.tables e below (s₁.setTop (mkF m 49 #[.val (.int p1), .val (.int p2), .val (.int p3), .val (.int n3), .val (.int n4), .val (.double A), .second, .val (.double (FP.i2d p2)), .second, .unset, .unset, .unset, .unset, .unset, .unset, .unset] [(.double (FP.i2d p2))])) _
      refine XS.dnegS X0.here hx rfl (hb hby at_49) rfl rfl ?_
      show Steps p.tables e below (s₁.setTop (mkF m 50 #[.val (.int p1), .val (.int p2), .val (.int p3), .val (.int n3), .val (.int n4), .val (.double A), .second, .val (.double (FP.i2d p2)), .second, .unset, .unset, .unset, .unset, .unset, .unset, .unset] [(.double (FP.dneg (FP.i2d p2)))])) _
      refine XS.dstore X0.here hx rfl (hb hby at_50) rfl (l' := #[.val (.int p1), .val (.int p2), .val (.int p3), .val (.int n3), .val (.int n4), .val (.double A), .second, .val (.double (FP.dneg (FP.i2d p2))), .second, .unset, .unset, .unset, .unset, .unset, .unset, .unset]) rfl ?_
      show Steps p.tables e below (s₁.setTop (mkF m 52 #[.val (.int p1), .val (.int p2), .val (.int p3), .val (.int n3), .val (.int n4), .val (.double A), .second, .val (.double (FP.dneg (FP.i2d p2))), .second, .unset, .unset, .unset, .unset, .unset, .unset, .unset] [])) _
      exact k
  have s5 : ∀ target, Steps p.tables e below (s₁.setTop (mkF m 64 #[.val (.int p1), .val (.int p2), .val (.int p3), .val (.int n3), .val (.int n4), .val (.double A), .second, .val (.double B), .second, .unset, .unset, .unset, .unset, .unset, .unset, .unset] [(.long VA)])) target → Steps p.tables e below (s₁.setTop (mkF m 52 #[.val (.int p1), .val (.int p2), .val (.int p3), .val (.int n3), .val (.int n4), .val (.double A), .second, .val (.double B), .second, .unset, .unset, .unset, .unset, .unset, .unset, .unset] [])) target := by
    intro target k
    rw [hVA, own_lsel] at k
    refine XS.iloadN X0.here hx rfl (hb hby at_52) rfl ?_
    show Steps p.tables e below (s₁.setTop (mkF m 53 #[.val (.int p1), .val (.int p2), .val (.int p3), .val (.int n3), .val (.int n4), .val (.double A), .second, .val (.double B), .second, .unset, .unset, .unset, .unset, .unset, .unset, .unset] [(.int n3)])) _
    by_cases hc53 : n3 = (0 : Int32)
    · rw [if_pos hc53] at k
      refine XS.ifYes X0.here hx rfl (pc0 := 53) (pc' := 62) rfl (hb hby at_53) rfl (Jvm.Free.XT.i0_eq_t hc53) (by decide) (by decide) ?_
      show Steps p.tables e below (s₁.setTop (mkF m 62 #[.val (.int p1), .val (.int p2), .val (.int p3), .val (.int n3), .val (.int n4), .val (.double A), .second, .val (.double B), .second, .unset, .unset, .unset, .unset, .unset, .unset, .unset] [])) _
      refine XS.iloadN X0.here hx rfl (hb hby at_62) rfl ?_
      show Steps p.tables e below (s₁.setTop (mkF m 63 #[.val (.int p1), .val (.int p2), .val (.int p3), .val (.int n3), .val (.int n4), .val (.double A), .second, .val (.double B), .second, .unset, .unset, .unset, .unset, .unset, .unset, .unset] [(.int p1)])) _
      refine XS.i2l X0.here hx rfl (hb hby at_63) rfl ?_
      show Steps p.tables e below (s₁.setTop (mkF m 64 #[.val (.int p1), .val (.int p2), .val (.int p3), .val (.int n3), .val (.int n4), .val (.double A), .second, .val (.double B), .second, .unset, .unset, .unset, .unset, .unset, .unset, .unset] [(.long (p1.toInt64))])) _
      exact k
    · rw [if_neg hc53] at k
      refine XS.ifNo X0.here hx rfl (hb hby at_53) rfl (Jvm.Free.XT.i0_eq_f hc53) ?_
      show Steps p.tables e below (s₁.setTop (mkF m 56 #[.val (.int p1), .val (.int p2), .val (.int p3), .val (.int n3), .val (.int n4), .val (.double A), .second, .val (.double B), .second, .unset, .unset, .unset, .unset, .unset, .unset, .unset] [])) _
      refine XS.iloadN X0.here hx rfl (hb hby at_56) rfl ?_
      show Steps p.tables e below (s₁.setTop (mkF m 57 #[.val (.int p1), .val (.int p2), .val (.int p3), .val (.int n3), .val (.int n4), .val (.double A), .second, .val (.double B), .second, .unset, .unset, .unset, .unset, .unset, .unset, .unset] [(.int p1)])) _
      refine XS.i2l X0.here hx rfl (hb hby at_57) rfl ?_
      show Steps p.tables e below (s₁.setTop (mkF m 58 #[.val (.int p1), .val (.int p2), .val (.int p3), .val (.int n3), .val (.int n4), .val (.double A), .second, .val (.double B), .second, .unset, .unset, .unset, .unset, .unset, .unset, .unset] [(.long (p1.toInt64))])) _
      refine XS.lneg X0.here hx rfl (hb hby at_58) rfl ?_
      show Steps p.tables e below (s₁.setTop (mkF m 59 #[.val (.int p1), .val (.int p2), .val (.int p3), .val (.int n3), .val (.int n4), .val (.double A), .second, .val (.double B), .second, .unset, .unset, .unset, .unset, .unset, .unset, .unset] [(.long (-(p1.toInt64)))])) _
      refine XS.goto X0.here hx rfl (pc0 := 59) (pc' := 64) rfl (hb hby at_59) (by decide) (by decide) ?_
      show Steps p.tables e below (s₁.setTop (mkF m 64 #[.val (.int p1), .val (.int p2), .val (.int p3), .val (.int n3), .val (.int n4), .val (.double A), .second, .val (.double B), .second, .unset, .unset, .unset, .unset, .unset, .unset, .unset] [(.long (-(p1.toInt64)))])) _
      exact k
  have s6 : ∀ target, Steps p.tables e below (s₁.setTop (mkF m 79 #[.val (.int p1), .val (.int p2), .val (.int p3), .val (.int n3), .val (.int n4), .val (.double A), .second, .val (.double B), .second, .val (.long VA), .second, .unset, .unset, .unset, .unset, .unset] [(.long VB)])) target → Steps p.tables e below (s₁.setTop (mkF m 66 #[.val (.int p1), .val (.int p2), .val (.int p3), .val (.int n3), .val (.int n4), .val (.double A), .second, .val (.double B), .second, .val (.long VA), .second, .unset, .unset, .unset, .unset, .unset] [])) target := by
    intro target k
    rw [hVB, own_lsel] at k
    refine XS.iload X0.here hx rfl (hb hby at_66) rfl ?_
    show Steps p.tables e below (s₁.setTop (mkF m 68 #[.val (.int p1), .val (.int p2), .val (.int p3), .val (.int n3), .val (.int n4), .val (.double A), .second, .val (.double B), .second, .val (.long VA), .second, .unset, .unset, .unset, .unset, .unset] [(.int n4)])) _
    by_cases hc68 : n4 = (0 : Int32)
    · rw [if_pos hc68] at k
      refine XS.ifYes X0.here hx rfl (pc0 := 68) (pc' := 77) rfl (hb hby at_68) rfl (Jvm.Free.XT.i0_eq_t hc68) (by decide) (by decide) ?_
      show Steps p.tables e below (s₁.setTop (mkF m 77 #[.val (.int p1), .val (.int p2), .val (.int p3), .val (.int n3), .val (.int n4), .val (.double A), .second, .val (.double B), .second, .val (.long VA), .second, .unset, .unset, .unset, .unset, .unset] [])) _
      refine XS.iloadN X0.here hx rfl (hb hby at_77) rfl ?_
      show Steps p.tables e below (s₁.setTop (mkF m 78 #[.val (.int p1), .val (.int p2), .val (.int p3), .val (.int n3), .val (.int n4), .val (.double A), .second, .val (.double B), .second, .val (.long VA), .second, .unset, .unset, .unset, .unset, .unset] [(.int p2)])) _
      refine XS.i2l X0.here hx rfl (hb hby at_78) rfl ?_
      show Steps p.tables e below (s₁.setTop (mkF m 79 #[.val (.int p1), .val (.int p2), .val (.int p3), .val (.int n3), .val (.int n4), .val (.double A), .second, .val (.double B), .second, .val (.long VA), .second, .unset, .unset, .unset, .unset, .unset] [(.long (p2.toInt64))])) _
      exact k
    · rw [if_neg hc68] at k
      refine XS.ifNo X0.here hx rfl (hb hby at_68) rfl (Jvm.Free.XT.i0_eq_f hc68) ?_
      show Steps p.tables e below (s₁.setTop (mkF m 71 #[.val (.int p1), .val (.int p2), .val (.int p3), .val (.int n3), .val (.int n4), .val (.double A), .second, .val (.double B), .second, .val (.long VA), .second, .unset, .unset, .unset, .unset, .unset] [])) _
      refine XS.iloadN X0.here hx rfl (hb hby at_71) rfl ?_
      show Steps p.tables e below (s₁.setTop (mkF m 72 #[.val (.int p1), .val (.int p2), .val (.int p3), .val (.int n3), .val (.int n4), .val (.double A), .second, .val (.double B), .second, .val (.long VA), .second, .unset, .unset, .unset, .unset, .unset] [(.int p2)])) _
      refine XS.i2l X0.here hx rfl (hb hby at_72) rfl ?_
      show Steps p.tables e below (s₁.setTop (mkF m 73 #[.val (.int p1), .val (.int p2), .val (.int p3), .val (.int n3), .val (.int n4), .val (.double A), .second, .val (.double B), .second, .val (.long VA), .second, .unset, .unset, .unset, .unset, .unset] [(.long (p2.toInt64))])) _
      refine XS.lneg X0.here hx rfl (hb hby at_73) rfl ?_
      show Steps p.tables e below (s₁.setTop (mkF m 74 #[.val (.int p1), .val (.int p2), .val (.int p3), .val (.int n3), .val (.int n4), .val (.double A), .second, .val (.double B), .second, .val (.long VA), .second, .unset, .unset, .unset, .unset, .unset] [(.long (-(p2.toInt64)))])) _
      refine XS.goto X0.here hx rfl (pc0 := 74) (pc' := 79) rfl (hb hby at_74) (by decide) (by decide) ?_
      show Steps p.tables e below (s₁.setTop (mkF m 79 #[.val (.int p1), .val (.int p2), .val (.int p3), .val (.int n3), .val (.int n4), .val (.double A), .second, .val (.double B), .second, .val (.long VA), .second, .unset, .unset, .unset, .unset, .unset] [(.long (-(p2.toInt64)))])) _
      exact k
  have s7 : ∀ target, Steps p.tables e below (s₁.setTop (mkF m 112 #[.val (.int p1), .val (.int p2), .val (.int p3), .val (.int n3), .val (.int n4), .val (.double A), .second, .val (.double B), .second, .val (.long VA), .second, .val (.long VB), .second, .val (.int E), .unset, .unset] [])) target → Steps p.tables e below (s₁.setTop (mkF m 81 #[.val (.int p1), .val (.int p2), .val (.int p3), .val (.int n3), .val (.int n4), .val (.double A), .second, .val (.double B), .second, .val (.long VA), .second, .val (.long VB), .second, .unset, .unset, .unset] [])) target := by
    intro target k
    rw [hE, own_sgn] at k
    refine XS.lload X0.here hx rfl (hb hby at_81) rfl ?_
    show Steps p.tables e below (s₁.setTop (mkF m 83 #[.val (.int p1), .val (.int p2), .val (.int p3), .val (.int n3), .val (.int n4), .val (.double A), .second, .val (.double B), .second, .val (.long VA), .second, .val (.long VB), .second, .unset, .unset, .unset] [(.long VA)])) _
    refine XS.lload X0.here hx rfl (hb hby at_83) rfl ?_
    show Steps p.tables e below (s₁.setTop (mkF m 85 #[.val (.int p1), .val (.int p2), .val (.int p3), .val (.int n3), .val (.int n4), .val (.double A), .second, .val (.double B), .second, .val (.long VA), .second, .val (.long VB), .second, .unset, .unset, .unset] [(.long VB), (.long VA)])) _
    refine XS.lcmp X0.here hx rfl (hb hby at_85) rfl ?_
    show Steps p.tables e below (s₁.setTop (mkF m 86 #[.val (.int p1), .val (.int p2), .val (.int p3), .val (.int n3), .val (.int n4), .val (.double A), .second, .val (.double B), .second, .val (.long VA), .second, .val (.long VB), .second, .unset, .unset, .unset] [(.int (lcmpW VA VB))])) _
    by_cases hc86 : (lcmpW VA VB) < (0 : Int32)
    · rw [if_pos hc86] at k
      refine XS.ifNo X0.here hx rfl (hb hby at_86) rfl (Jvm.Free.XT.i0_ge_f hc86) ?_
      show Steps p.tables e below (s₁.setTop (mkF m 89 #[.val (.int p1), .val (.int p2), .val (.int p3), .val (.int n3), .val (.int n4), .val (.double A), .second, .val (.double B), .second, .val (.long VA), .second, .val (.long VB), .second, .unset, .unset, .unset] [])) _
      refine XS.iconst X0.here hx rfl (hb hby at_89) ?_
      show Steps p.tables e below (s₁.setTop (mkF m 90 #[.val (.int p1), .val (.int p2), .val (.int p3), .val (.int n3), .val (.int n4), .val (.double A), .second, .val (.double B), .second, .val (.long VA), .second, .val (.long VB), .second, .unset, .unset, .unset] [(.int (-1 : Int32))])) _
      refine XS.istore X0.here hx rfl (hb hby at_90) rfl (l' := #[.val (.int p1), .val (.int p2), .val (.int p3), .val (.int n3), .val (.int n4), .val (.double A), .second, .val (.double B), .second, .val (.long VA), .second, .val (.long VB), .second, .val (.int (-1 : Int32)), .unset, .unset]) rfl ?_
      show Steps p.tables e below (s₁.setTop (mkF m 92 #[.val (.int p1), .val (.int p2), .val (.int p3), .val (.int n3), .val (.int n4), .val (.double A), .second, .val (.double B), .second, .val (.long VA), .second, .val (.long VB), .second, .val (.int (-1 : Int32)), .unset, .unset] [])) _
      refine XS.goto X0.here hx rfl (pc0 := 92) (pc' := 112) rfl (hb hby at_92) (by decide) (by decide) ?_
      show Steps p.tables e below (s₁.setTop (mkF m 112 #[.val (.int p1), .val (.int p2), .val (.int p3), .val (.int n3), .val (.int n4), .val (.double A), .second, .val (.double B), .second, .val (.long VA), .second, .val (.long VB), .second, .val (.int (-1 : Int32)), .unset, .unset] [])) _
      exact k
    · rw [if_neg hc86] at k
      refine XS.ifYes X0.here hx rfl (pc0 := 86) (pc' := 95) rfl (hb hby at_86) rfl (Jvm.Free.XT.i0_ge_t hc86) (by decide) (by decide) ?_
      show Steps p.tables e below (s₁.setTop (mkF m 95 #[.val (.int p1), .val (.int p2), .val (.int p3), .val (.int n3), .val (.int n4), .val (.double A), .second, .val (.double B), .second, .val (.long VA), .second, .val (.long VB), .second, .unset, .unset, .unset] [])) _
      refine XS.lload X0.here hx rfl (hb hby at_95) rfl ?_
      show Steps p.tables e below (s₁.setTop (mkF m 97 #[.val (.int p1), .val (.int p2), .val (.int p3), .val (.int n3), .val (.int n4), .val (.double A), .second, .val (.double B), .second, .val (.long VA), .second, .val (.long VB), .second, .unset, .unset, .unset] [(.long VA)])) _
      refine XS.lload X0.here hx rfl (hb hby at_97) rfl ?_
      show Steps p.tables e below (s₁.setTop (mkF m 99 #[.val (.int p1), .val (.int p2), .val (.int p3), .val (.int n3), .val (.int n4), .val (.double A), .second, .val (.double B), .second, .val (.long VA), .second, .val (.long VB), .second, .unset, .unset, .unset] [(.long VB), (.long VA)])) _
      refine XS.lcmp X0.here hx rfl (hb hby at_99) rfl ?_
      show Steps p.tables e below (s₁.setTop (mkF m 100 #[.val (.int p1), .val (.int p2), .val (.int p3), .val (.int n3), .val (.int n4), .val (.double A), .second, .val (.double B), .second, .val (.long VA), .second, .val (.long VB), .second, .unset, .unset, .unset] [(.int (lcmpW VA VB))])) _
      by_cases hc100 : (0 : Int32) < (lcmpW VA VB)
      · rw [if_pos hc100] at k
        refine XS.ifNo X0.here hx rfl (hb hby at_100) rfl (Jvm.Free.XT.i0_le_f hc100) ?_
        show Steps p.tables e below (s₁.setTop (mkF m 103 #[.val (.int p1), .val (.int p2), .val (.int p3), .val (.int n3), .val (.int n4), .val (.double A), .second, .val (.double B), .second, .val (.long VA), .second, .val (.long VB), .second, .unset, .unset, .unset] [])) _
        refine XS.iconst X0.here hx rfl (hb hby at_103) ?_
        show Steps p.tables e below (s₁.setTop (mkF m 104 #[.val (.int p1), .val (.int p2), .val (.int p3), .val (.int n3), .val (.int n4), .val (.double A), .second, .val (.double B), .second, .val (.long VA), .second, .val (.long VB), .second, .unset, .unset, .unset] [(.int (1 : Int32))])) _
        refine XS.istore X0.here hx rfl (hb hby at_104) rfl (l' := #[.val (.int p1), .val (.int p2), .val (.int p3), .val (.int n3), .val (.int n4), .val (.double A), .second, .val (.double B), .second, .val (.long VA), .second, .val (.long VB), .second, .val (.int (1 : Int32)), .unset, .unset]) rfl ?_
        show Steps p.tables e below (s₁.setTop (mkF m 106 #[.val (.int p1), .val (.int p2), .val (.int p3), .val (.int n3), .val (.int n4), .val (.double A), .second, .val (.double B), .second, .val (.long VA), .second, .val (.long VB), .second, .val (.int (1 : Int32)), .unset, .unset] [])) _
        refine XS.goto X0.here hx rfl (pc0 := 106) (pc' := 112) rfl (hb hby at_106) (by decide) (by decide) ?_
        show Steps p.tables e below (s₁.setTop (mkF m 112 #[.val (.int p1), .val (.int p2), .val (.int p3), .val (.int n3), .val (.int n4), .val (.double A), .second, .val (.double B), .second, .val (.long VA), .second, .val (.long VB), .second, .val (.int (1 : Int32)), .unset, .unset] [])) _
        exact k
      · rw [if_neg hc100] at k
        refine XS.ifYes X0.here hx rfl (pc0 := 100) (pc' := 109) rfl (hb hby at_100) rfl (Jvm.Free.XT.i0_le_t hc100) (by decide) (by decide) ?_
        show Steps p.tables e below (s₁.setTop (mkF m 109 #[.val (.int p1), .val (.int p2), .val (.int p3), .val (.int n3), .val (.int n4), .val (.double A), .second, .val (.double B), .second, .val (.long VA), .second, .val (.long VB), .second, .unset, .unset, .unset] [])) _
        refine XS.iconst X0.here hx rfl (hb hby at_109) ?_
        show Steps p.tables e below (s₁.setTop (mkF m 110 #[.val (.int p1), .val (.int p2), .val (.int p3), .val (.int n3), .val (.int n4), .val (.double A), .second, .val (.double B), .second, .val (.long VA), .second, .val (.long VB), .second, .unset, .unset, .unset] [(.int (0 : Int32))])) _
        refine XS.istore X0.here hx rfl (hb hby at_110) rfl (l' := #[.val (.int p1), .val (.int p2), .val (.int p3), .val (.int n3), .val (.int n4), .val (.double A), .second, .val (.double B), .second, .val (.long VA), .second, .val (.long VB), .second, .val (.int (0 : Int32)), .unset, .unset]) rfl ?_
        show Steps p.tables e below (s₁.setTop (mkF m 112 #[.val (.int p1), .val (.int p2), .val (.int p3), .val (.int n3), .val (.int n4), .val (.double A), .second, .val (.double B), .second, .val (.long VA), .second, .val (.long VB), .second, .val (.int (0 : Int32)), .unset, .unset] [])) _
        exact k
  obtain ⟨_, _, ⟨T3, L3, k3, n3'⟩, -, X3, ⟨Lc3, hQ3, l3, y3, z3⟩, st3⟩ := Jvm.LawKit.callS X0 hx (y := (⟨"com/example/xspar/xspar/runtime/Numbers", "compareDoubles", "(DD)D"⟩ : MethodName)) hown (mvT hZ (hw _ (List.mem_of_getElem? (i := 0) rfl))) (mvT hZ (hw _ (List.mem_of_getElem? (i := 1) rfl))) (mvT hZ (hw _ (List.mem_of_getElem? (i := 2) rfl))) (mvT hZ (hw _ (List.mem_of_getElem? (i := 3) rfl))) (by decide) (backOf (W := 0) (rm1 l Z a0 hw [] A B h0 n0 Z0) hZ (hw _ (List.mem_of_getElem? (i := 3) rfl)) (hw _ (List.mem_of_getElem? (i := 2) rfl)) (by decide) (by decide)) (g := (mkF m 116 #[.val (.int p1), .val (.int p2), .val (.int p3), .val (.int n3), .val (.int n4), .val (.double A), .second, .val (.double B), .second, .val (.long VA), .second, .val (.long VB), .second, .val (.int E), .unset, .unset] [(.double B), (.double A)])) rfl (by rw [hml]; rfl) (argsL := [(.double A), (.double B)]) (rest := []) (lenOf pd_0_0 rfl) rfl (by show 2 * 0 + _ ≤ _; exact Nat.le_of_eq rfl) (hb hby at_116) (fun _ _ => ⟨rfl, e0, (by decide : 0 + 0 ≤ _), (by decide : 0 + 0 ≤ _)⟩)
  dsimp only [Pt.U, Pt.locs, Pt.cells, Pt.slots] at X3 l3 y3 z3 st3 hQ3
  subst l3 y3 z3
  obtain ⟨rfl, N3q, eq3⟩ := hQ3
  have N3 := Fr.app N0 N3q
  obtain ⟨fs, hr, hrun, hended, hW, hsame⟩ := X3.leave (v := some (.int (1 : Int32))) (fun h => by rw [Bd.returns] at h; cases h)
  refine ⟨_, _, pre0 _ ?_, hrun, hended, _, _, rfl, ⟨rfl, N3⟩, ⟨_, rfl⟩, hW, hsame.mono (by decide) (by decide)⟩
  refine s1 _ ?_
  refine XS.istoreN X0.here hx rfl (hb hby at_11) rfl (l' := #[.val (.int p1), .val (.int p2), .val (.int p3), .val (.int n3), .unset, .unset, .unset, .unset, .unset, .unset, .unset, .unset, .unset, .unset, .unset, .unset]) rfl ?_
  show Steps p.tables e below (s₁.setTop (mkF m 12 #[.val (.int p1), .val (.int p2), .val (.int p3), .val (.int n3), .unset, .unset, .unset, .unset, .unset, .unset, .unset, .unset, .unset, .unset, .unset, .unset] [])) _
  refine s2 _ ?_
  refine XS.istore X0.here hx rfl (hb hby at_23) rfl (l' := #[.val (.int p1), .val (.int p2), .val (.int p3), .val (.int n3), .val (.int n4), .unset, .unset, .unset, .unset, .unset, .unset, .unset, .unset, .unset, .unset, .unset]) rfl ?_
  show Steps p.tables e below (s₁.setTop (mkF m 25 #[.val (.int p1), .val (.int p2), .val (.int p3), .val (.int n3), .val (.int n4), .unset, .unset, .unset, .unset, .unset, .unset, .unset, .unset, .unset, .unset, .unset] [])) _
  refine XS.iloadN X0.here hx rfl (hb hby at_25) rfl ?_
  show Steps p.tables e below (s₁.setTop (mkF m 26 #[.val (.int p1), .val (.int p2), .val (.int p3), .val (.int n3), .val (.int n4), .unset, .unset, .unset, .unset, .unset, .unset, .unset, .unset, .unset, .unset, .unset] [(.int p1)])) _
  refine XS.i2dS X0.here hx rfl (hb hby at_26) rfl rfl ?_
  show Steps p.tables e below (s₁.setTop (mkF m 27 #[.val (.int p1), .val (.int p2), .val (.int p3), .val (.int n3), .val (.int n4), .unset, .unset, .unset, .unset, .unset, .unset, .unset, .unset, .unset, .unset, .unset] [(.double (FP.i2d p1))])) _
  refine XS.dstore X0.here hx rfl (hb hby at_27) rfl (l' := #[.val (.int p1), .val (.int p2), .val (.int p3), .val (.int n3), .val (.int n4), .val (.double (FP.i2d p1)), .second, .unset, .unset, .unset, .unset, .unset, .unset, .unset, .unset, .unset]) rfl ?_
  show Steps p.tables e below (s₁.setTop (mkF m 29 #[.val (.int p1), .val (.int p2), .val (.int p3), .val (.int n3), .val (.int n4), .val (.double (FP.i2d p1)), .second, .unset, .unset, .unset, .unset, .unset, .unset, .unset, .unset, .unset] [])) _
  refine XS.iloadN X0.here hx rfl (hb hby at_29) rfl ?_
  show Steps p.tables e below (s₁.setTop (mkF m 30 #[.val (.int p1), .val (.int p2), .val (.int p3), .val (.int n3), .val (.int n4), .val (.double (FP.i2d p1)), .second, .unset, .unset, .unset, .unset, .unset, .unset, .unset, .unset, .unset] [(.int p2)])) _
  refine XS.i2dS X0.here hx rfl (hb hby at_30) rfl rfl ?_
  show Steps p.tables e below (s₁.setTop (mkF m 31 #[.val (.int p1), .val (.int p2), .val (.int p3), .val (.int n3), .val (.int n4), .val (.double (FP.i2d p1)), .second, .unset, .unset, .unset, .unset, .unset, .unset, .unset, .unset, .unset] [(.double (FP.i2d p2))])) _
  refine XS.dstore X0.here hx rfl (hb hby at_31) rfl (l' := #[.val (.int p1), .val (.int p2), .val (.int p3), .val (.int n3), .val (.int n4), .val (.double (FP.i2d p1)), .second, .val (.double (FP.i2d p2)), .second, .unset, .unset, .unset, .unset, .unset, .unset, .unset]) rfl ?_
  show Steps p.tables e below (s₁.setTop (mkF m 33 #[.val (.int p1), .val (.int p2), .val (.int p3), .val (.int n3), .val (.int n4), .val (.double (FP.i2d p1)), .second, .val (.double (FP.i2d p2)), .second, .unset, .unset, .unset, .unset, .unset, .unset, .unset] [])) _
  refine s3 _ ?_
  refine s4 _ ?_
  refine s5 _ ?_
  refine XS.lstore X0.here hx rfl (hb hby at_64) rfl (l' := #[.val (.int p1), .val (.int p2), .val (.int p3), .val (.int n3), .val (.int n4), .val (.double A), .second, .val (.double B), .second, .val (.long VA), .second, .unset, .unset, .unset, .unset, .unset]) rfl ?_
  show Steps p.tables e below (s₁.setTop (mkF m 66 #[.val (.int p1), .val (.int p2), .val (.int p3), .val (.int n3), .val (.int n4), .val (.double A), .second, .val (.double B), .second, .val (.long VA), .second, .unset, .unset, .unset, .unset, .unset] [])) _
  refine s6 _ ?_
  refine XS.lstore X0.here hx rfl (hb hby at_79) rfl (l' := #[.val (.int p1), .val (.int p2), .val (.int p3), .val (.int n3), .val (.int n4), .val (.double A), .second, .val (.double B), .second, .val (.long VA), .second, .val (.long VB), .second, .unset, .unset, .unset]) rfl ?_
  show Steps p.tables e below (s₁.setTop (mkF m 81 #[.val (.int p1), .val (.int p2), .val (.int p3), .val (.int n3), .val (.int n4), .val (.double A), .second, .val (.double B), .second, .val (.long VA), .second, .val (.long VB), .second, .unset, .unset, .unset] [])) _
  refine s7 _ ?_
  refine XS.dload X0.here hx rfl (hb hby at_112) rfl ?_
  show Steps p.tables e below (s₁.setTop (mkF m 114 #[.val (.int p1), .val (.int p2), .val (.int p3), .val (.int n3), .val (.int n4), .val (.double A), .second, .val (.double B), .second, .val (.long VA), .second, .val (.long VB), .second, .val (.int E), .unset, .unset] [(.double A)])) _
  refine XS.dload X0.here hx rfl (hb hby at_114) rfl ?_
  show Steps p.tables e below (s₁.setTop (mkF m 116 #[.val (.int p1), .val (.int p2), .val (.int p3), .val (.int n3), .val (.int n4), .val (.double A), .second, .val (.double B), .second, .val (.long VA), .second, .val (.long VB), .second, .val (.int E), .unset, .unset] [(.double B), (.double A)])) _
  refine st3 _ ?_
  show Steps p.tables e below (T3.setTop (mkF m 119 #[.val (.int p1), .val (.int p2), .val (.int p3), .val (.int n3), .val (.int n4), .val (.double A), .second, .val (.double B), .second, .val (.long VA), .second, .val (.long VB), .second, .val (.int E), .unset, .unset] [(.double (own_cmpD A B))])) _
  refine XS.dstore X3.here hx rfl (hb hby at_119) rfl (l' := #[.val (.int p1), .val (.int p2), .val (.int p3), .val (.int n3), .val (.int n4), .val (.double A), .second, .val (.double B), .second, .val (.long VA), .second, .val (.long VB), .second, .val (.int E), .val (.double (own_cmpD A B)), .second]) rfl ?_
  show Steps p.tables e below (T3.setTop (mkF m 121 #[.val (.int p1), .val (.int p2), .val (.int p3), .val (.int n3), .val (.int n4), .val (.double A), .second, .val (.double B), .second, .val (.long VA), .second, .val (.long VB), .second, .val (.int E), .val (.double (own_cmpD A B)), .second] [])) _
  refine XS.dload X3.here hx rfl (hb hby at_121) rfl ?_
  show Steps p.tables e below (T3.setTop (mkF m 123 #[.val (.int p1), .val (.int p2), .val (.int p3), .val (.int n3), .val (.int n4), .val (.double A), .second, .val (.double B), .second, .val (.long VA), .second, .val (.long VB), .second, .val (.int E), .val (.double (own_cmpD A B)), .second] [(.double (own_cmpD A B))])) _
  refine XS.iload X3.here hx rfl (hb hby at_123) rfl ?_
  show Steps p.tables e below (T3.setTop (mkF m 125 #[.val (.int p1), .val (.int p2), .val (.int p3), .val (.int n3), .val (.int n4), .val (.double A), .second, .val (.double B), .second, .val (.long VA), .second, .val (.long VB), .second, .val (.int E), .val (.double (own_cmpD A B)), .second] [(.int E), (.double (own_cmpD A B))])) _
  refine XS.i2dS X3.here hx rfl (hb hby at_125) rfl rfl ?_
  show Steps p.tables e below (T3.setTop (mkF m 126 #[.val (.int p1), .val (.int p2), .val (.int p3), .val (.int n3), .val (.int n4), .val (.double A), .second, .val (.double B), .second, .val (.long VA), .second, .val (.long VB), .second, .val (.int E), .val (.double (own_cmpD A B)), .second] [(.double (FP.i2d E)), (.double (own_cmpD A B))])) _
  refine XS.dcmpS X3.here hx rfl (hb hby at_126) rfl rfl ?_
  show Steps p.tables e below (T3.setTop (mkF m 127 #[.val (.int p1), .val (.int p2), .val (.int p3), .val (.int n3), .val (.int n4), .val (.double A), .second, .val (.double B), .second, .val (.long VA), .second, .val (.long VB), .second, .val (.int E), .val (.double (own_cmpD A B)), .second] [(.int (cmpValue (FP.dcmp (own_cmpD A B) (FP.i2d E)) .l))])) _
  refine XS.ifNo X3.here hx rfl (hb hby at_127) rfl (Jvm.Free.XT.i0_ne_f hfin) ?_
  show Steps p.tables e below (T3.setTop (mkF m 130 #[.val (.int p1), .val (.int p2), .val (.int p3), .val (.int n3), .val (.int n4), .val (.double A), .second, .val (.double B), .second, .val (.long VA), .second, .val (.long VB), .second, .val (.int E), .val (.double (own_cmpD A B)), .second] [])) _
  refine XS.iconst X3.here hx rfl (hb hby at_130) ?_
  show Steps p.tables e below (T3.setTop (mkF m 131 #[.val (.int p1), .val (.int p2), .val (.int p3), .val (.int n3), .val (.int n4), .val (.double A), .second, .val (.double B), .second, .val (.long VA), .second, .val (.long VB), .second, .val (.int E), .val (.double (own_cmpD A B)), .second] [(.int (1 : Int32))])) _
  refine XS.goto X3.here hx rfl (pc0 := 131) (pc' := 135) rfl (hb hby at_131) (by decide) (by decide) ?_
  show Steps p.tables e below (T3.setTop (mkF m 135 #[.val (.int p1), .val (.int p2), .val (.int p3), .val (.int n3), .val (.int n4), .val (.double A), .second, .val (.double B), .second, .val (.long VA), .second, .val (.long VB), .second, .val (.int E), .val (.double (own_cmpD A B)), .second] [(.int (1 : Int32))])) _
  exact retN X3 hx (t := .boolean) Bd.returns (by simp) (hb hby at_135) hr
set_option maxRecDepth 65536 in
set_option maxHeartbeats 40000000 in
theorem comes_1 {Post : Tables → Env → Array Value → State → Outcome → State → Prop} (hpost : ∀ tb e args s v u, (limb_1_1.after args s (.returned v) u = true ∧ limb_1_2.after args s (.returned v) u = true ∧ True) → FrameEnd s (.returned v) u (Jvm.fieldLocs frame_1_writes args s ++ Jvm.arrayLocs frame_1_arrays args s ++ Jvm.staticLocs frame_1_statics s) 0 0 → Post tb e args s (.returned v) u) :
    ArmFor flags0 classFile x code maxLocals ret World_1 tables_1 room_1 Calls_1 rest_1 Pre_1 Post := by
  intro l hfl _ _ p e ha hc hk s m args below hf hA hF happ hP
  obtain ⟨hcalls, hrest, hpre⟩ := hP
  obtain ⟨-, -, -, hnamed, -, -, -, hat⟩ := (Spec.applies_iff hf).mp happ
  obtain ⟨hg, hn⟩ := and_e (Cond.before_iff.mp (show (Jvm.Cond.and given_1 narrow_1).before args s = true from hpre))
  obtain ⟨g26, g27⟩ := and_e hg
  obtain ⟨g28, g29⟩ := and_e g27
  obtain ⟨g30, g31⟩ := and_e g29
  obtain ⟨w0, w1, w2, rfl⟩ : ∃ w0 w1 w2 : Value, args = #[w0, w1, w2] := by
    have hs : args.size = 3 := by simpa [Cond.value, given_1] using g26
    obtain ⟨L⟩ := args
    match L, hs with
    | [w0, w1, w2], _ => exact ⟨w0, w1, w2, rfl⟩
  have hw := fun d (hd : d ∈ tables_1) => atoms_spec (ws := Jvm.Cond.code x code maxLocals ret :: tables_1) hat d (List.mem_cons_of_mem _ hd)
  have hfit : Fit s := fun {y c} hc i hi => by
    obtain ⟨ha, rfl⟩ := Array.getElem?_eq_some_iff.mp hc
    have q := List.all_eq_true.mp ((Array.all_eq_true_iff_forall_mem.mp hF) _ (Array.getElem_mem ha)) i (List.mem_range.mpr hi)
    simpa [Array.getElem?_eq_getElem hi] using q
  obtain ⟨i0, ei0⟩ := is_v g28
  obtain rfl : w0 = (.int i0) := Option.some.inj ei0
  obtain ⟨i1, ei1⟩ := is_v g30
  obtain rfl : w1 = (.int i1) := Option.some.inj ei1
  obtain ⟨i2, ei2⟩ := is_v g31
  obtain rfl : w2 = (.int i2) := Option.some.inj ei2
  obtain ⟨n, o, h1, h2, h3, _, L, rfl, ⟨rfl, N⟩, hq⟩ := rm0 l s _ hw tables_1 i0 i1 i2 s.heap s.heap.size (Nat.le_refl _) p e ha hc hk s m _ below hf ((Spec.applies_iff_loose hf).mp happ).1 ⟨rfl, State.Warmed39.refl s, rfl⟩ trivial
  refine ⟨n, _, h1, h2, h3, hpost _ _ _ _ _ _ ⟨Cond.after_iff.mpr rfl, Cond.after_iff.mpr (eq_i res_at (Term.int_eval (1)) rfl), trivial⟩ ⟨hq.1, hq.2.1, (hq.2.2.sift fun y hy => Or.inr (N y hy)).mono (by decide) (by decide)⟩⟩
theorem main_1_1 : Claimed_1_1 := comes_1 fun _ _ _ _ _ _ h hF => ⟨h.1, hF⟩
theorem main_1_2 : Claimed_1_2 := comes_1 fun _ _ _ _ _ _ h hF => ⟨h.2.1, hF⟩
end Jvm.Pilot.@@N@@
namespace Jvm.Pilot.@@N@@
open Jvm Jvm.ClassFile Sem Op Lib Jvm.Free Jvm.Stand Jvm.Pilot.@@N@@.Jvm.D
/-! MADE BY PROGRAM (witnessworld.py) out of the Statement's table words and the real class files: 7 classes; the members and pool entries that the words name. The judged class is class 1, her method 1. -/
namespace start1
open Jvm.ClassFile
def u (s : String) : CpInfo := .utf8 (stringToUtf16 s)
/-- a pool by its gaps: so many unusable entries, then the entry; so many at the end -/
def gap : Nat → List CpInfo → List CpInfo
  | 0, r => r
  | n + 1, r => .unusable :: gap n r
def poolList (es : List (Nat × CpInfo)) (last : Nat) : List CpInfo := es.foldr (fun e r => gap e.1 (e.2 :: r)) (gap last [])
def pool (es : List (Nat × CpInfo)) (last : Nat) : Array CpInfo := ⟨poolList es last⟩
def fileOf (pool : Array CpInfo) (this : Nat) (attrs : Array Attribute := #[]) (ms : Array MethodInfo := #[]) (fl : Nat := 33) (sup : Nat := 0) (ifs : Array Nat := #[]) (fds : Array FieldInfo := #[]) : ClassFile where
  minorVersion := 0
  majorVersion := 65
  constantPool := pool
  accessFlags := fl
  thisClass := this
  superClass := sup
  interfaces := ifs
  fields := fds
  methods := ms
  attributes := attrs
def plain (name : String) (sup : Option ClassId) : Class where
  name := name
  kind := .ordinary
  loader := none
  accessFlags := 33
  super := sup
  interfaces := #[]
  cf := none
  fields := #[]
  methods := #[]
  instanceTypes := #[]
  staticTypes := #[]
  resolved := #[]
  callSites := []
  init := .initialized
  statics := none
  mirror := none

def pool0 : Array CpInfo := pool [(5, u "<init>"), (0, u "()V"), (1, .class_ 10), (1, u "java/lang/Object")] 113

def k0m0 : Method := { name := "<init>", desc := "()V", sig := { parameters := [], returnType := none }, accessFlags := 1, code := none }
/-- java/lang/Object -/
def k0 : Class := { plain "java/lang/Object" none with
  accessFlags := 33
  interfaces := #[]
  cf := some (fileOf pool0 8 #[] #[{ accessFlags := 1, nameIndex := 5, descriptorIndex := 6, attributes := #[] }] 33 0 #[] #[])
  fields := #[]
  methods := #[k0m0]
  instanceTypes := #[]
  staticTypes := #[]
  resolved := Array.replicate 124 none
  statics := none }

def pool1 : Array CpInfo := pool [(2, .class_ 4), (1, u "java/lang/Object"), (0, u "<init>"), (0, u "()V"), (0, .methodref 8 9), (0, .class_ 10), (0, .nameAndType 11 12), (0, u "com/example/xspar/xspar/runtime/Numbers"), (0, u "compareDoubles"), (0, u "(DD)D"), (0, .class_ 14), (0, u "com/example/xspar/xspar/runtime/NumbersCompareDoublesPinLaw"), (2, u "law"), (0, u "(III)Z")] 3

def k1m0 : Method := { name := "<init>", desc := "()V", sig := { parameters := [], returnType := none }, accessFlags := 1, code := none }
def k1c1 : Code := { maxStack := 4, maxLocals := 16, code := code, exceptionTable := #[], attributes := #[] }
def k1m1 : Method := { name := "law", desc := "(III)Z", sig := { parameters := [.int, .int, .int], returnType := some .boolean }, accessFlags := 9, code := some k1c1 }
/-- com/example/xspar/xspar/runtime/NumbersCompareDoublesPinLaw -/
def k1 : Class := { plain "com/example/xspar/xspar/runtime/NumbersCompareDoublesPinLaw" (some 0) with
  accessFlags := 49
  interfaces := #[]
  cf := some (fileOf pool1 13 #[] #[{ accessFlags := 1, nameIndex := 5, descriptorIndex := 6, attributes := #[] }, { accessFlags := 9, nameIndex := 17, descriptorIndex := 18, attributes := #[] }] 49 2 #[] #[])
  fields := #[]
  methods := #[k1m0, k1m1]
  instanceTypes := #[]
  staticTypes := #[]
  resolved := Array.replicate 22 none
  statics := none }

def pool2 : Array CpInfo := pool [(10, .class_ 12), (1, u "com/example/xspar/xspar/runtime/Numbers"), (46, .double 9221120237041090560), (41, .class_ 103), (1, u "com/example/xspar/xspar/runtime/Numbers$1"), (16, u "<init>"), (17, u "compareDoubles"), (0, u "(DD)D"), (0, .double 13830554455654793216), (15, .class_ 158), (1, u "java/lang/Object"), (0, u "()V")] 32

def k2c0 : Code := { maxStack := 4, maxLocals := 6, code := prog_238_method_6_code, exceptionTable := #[], attributes := #[] }
def k2m0 : Method := { name := "compareDoubles", desc := "(DD)D", sig := { parameters := [.double, .double], returnType := some .double }, accessFlags := 8, code := some k2c0 }
def k2m1 : Method := { name := "<init>", desc := "()V", sig := { parameters := [], returnType := none }, accessFlags := 2, code := none }
/-- com/example/xspar/xspar/runtime/Numbers -/
def k2 : Class := { plain "com/example/xspar/xspar/runtime/Numbers" (some 0) with
  accessFlags := 48
  interfaces := #[]
  cf := some (fileOf pool2 10 #[.nestMembers #[101]] #[{ accessFlags := 8, nameIndex := 138, descriptorIndex := 139, attributes := #[] }, { accessFlags := 2, nameIndex := 120, descriptorIndex := 159, attributes := #[] }] 48 156 #[] #[])
  fields := #[]
  methods := #[k2m0, k2m1]
  instanceTypes := #[]
  staticTypes := #[]
  resolved := Array.replicate 192 none
  statics := none }

def pool3 : Array CpInfo := pool [(1, u "java/lang/Cloneable"), (0, .class_ 1), (0, u "java/lang/Object"), (0, .class_ 3)] 3

/-- java/lang/Cloneable -/
def k3 : Class := { plain "java/lang/Cloneable" (some 0) with
  accessFlags := 1537
  interfaces := #[]
  cf := some (fileOf pool3 2 #[] #[] 1537 4 #[] #[])
  fields := #[]
  methods := #[]
  instanceTypes := #[]
  staticTypes := #[]
  resolved := Array.replicate 8 none
  statics := none }

def pool4 : Array CpInfo := pool [(1, u "java/io/Serializable"), (0, .class_ 1), (0, u "java/lang/Object"), (0, .class_ 3)] 3

/-- java/io/Serializable -/
def k4 : Class := { plain "java/io/Serializable" (some 0) with
  accessFlags := 1537
  interfaces := #[]
  cf := some (fileOf pool4 2 #[] #[] 1537 4 #[] #[])
  fields := #[]
  methods := #[]
  instanceTypes := #[]
  staticTypes := #[]
  resolved := Array.replicate 8 none
  statics := none }

/-- the primitive byte -/
def k5 : Class := { plain "byte" none with kind := .primitive 'B', accessFlags := 0x411 }
/-- [B -/
def k6 : Class := { plain "[B" (some 0) with kind := .array 5 .byte, interfaces := #[3, 4], accessFlags := 1041 }

def heap : Heap := #[]
def classes : Array Class := #[k0, k1, k2, k3, k4, k5, k6]
def interned : List (Array UInt16 × Addr) := []
def slotsUsed : Nat := 0
def theMethod : MethodId := ⟨1, 1⟩
def args0 : Array Value := #[.int 5, .int 300, .int 7]
def aboutOver (below : List Frame) : State where
  vm := { classes := classes, interned := interned.toArray }
  heap := heap
  slotsUsed := slotsUsed
  threads := #[{ frames := .invoking theMethod args0 :: below }]
def below0 : List Frame := [.native { method := ⟨0, 0⟩, args := #[] }]
def about1 : State := aboutOver below0
def p0 : Program := .bare "" "" ""
def e0 : Env := launch0.env 0 0 0
theorem w_frames : about1.frames = Frame.invoking theMethod args0 :: below0 := rfl
set_option maxRecDepth 65536 in
theorem w_args : argsFit about1.vm theMethod args0 = true := by decide +kernel
set_option maxRecDepth 65536 in
theorem w_heap : heapFits about1 = true := by decide +kernel
set_option maxRecDepth 65536 in
theorem w_runnable : about1.curStatus? = some .runnable := by decide +kernel
set_option maxRecDepth 65536 in
theorem w_alone : about1.alone = true := by decide +kernel
set_option maxRecDepth 65536 in
theorem w_named : about1.methodNamed? x = some theMethod := by decide +kernel
set_option maxRecDepth 65536 in
theorem w_hears : about1.hears theMethod below0 = true := by decide +kernel
set_option maxRecDepth 65536 in
theorem w_ripe : about1.ripe theMethod args0 below0 = true := by decide +kernel
theorem w_running : about1.status = .running := rfl
set_option maxRecDepth 65536 in
theorem w_room : about1.hasRoom e0.platform room_1 = true :=
  launch0.hasRoom_least _ room_1 (by decide +kernel) (by decide +kernel) (by decide +kernel) (by decide +kernel) (by decide +kernel) (by decide +kernel)
theorem allAtoms_all (ts : List Jvm.Cond) (a : Array Jvm.Value) (st : Jvm.State) : (allAtoms ts).before a st = ts.all (fun c => c.before a st) := by
  induction ts with
  | nil => rfl
  | cons c t ih =>
    show (Jvm.Cond.and c (allAtoms t)).before a st = _
    rw [Jvm.Cond.before_and, ih, List.all_cons]
def words1 : List Jvm.Cond := Jvm.Cond.code x code maxLocals ret :: tables_1
/-- a 'code' word, met by the world's own term for the bytes: nothing is compared byte by byte -/
theorem code_word {y : MethodName} {bytes : ByteArray} {mx : Nat} {rt : Option FieldType} {a : Array Value} {s : State} {m : MethodId} {meth : Method} {c : Code} (h1 : s.methodNamed? y = some m) (h2 : s.vm.method? m = some meth) (h3 : meth.code = some c) (h4 : c.code = bytes)
    (h5 : (c.maxLocals == mx && c.exceptionTable.isEmpty && decide (c.maxStack ≤ mostOperands) && decide (meth.sig.returnType = rt) && !meth.locks && decide (parseMethodDescriptor y.desc = some meth.sig)) = true) : (Jvm.Cond.code y bytes mx rt).before a s = true := by
  simp only [Bool.and_eq_true, beq_iff_eq, Bool.not_eq_true', decide_eq_true_eq] at h5
  obtain ⟨⟨⟨⟨⟨g1, g2⟩, g3⟩, g4⟩, g5⟩, g6⟩ := h5
  simp [Cond.before, Cond.holds, Cond.value, h1, h2, h3, h4, g1, g2, g3, g4, g5, g6]
def isCode : Jvm.Cond → Bool
  | .code _ _ _ _ => true
  | _ => false
theorem all_split {L : List Jvm.Cond} {P : Jvm.Cond → Bool} (h1 : L.all (fun c => isCode c || P c) = true) (h2 : ∀ c ∈ L.filter isCode, P c = true) : L.all P = true := by
  refine List.all_eq_true.mpr fun c hc => ?_
  have h := List.all_eq_true.mp h1 c hc
  rcases Bool.eq_false_or_eq_true (isCode c) with hi | hi
  · exact h2 c (List.mem_filter.mpr ⟨hc, hi⟩)
  · simpa [hi] using h
set_option maxRecDepth 65536 in
theorem w_c0 : (Jvm.Cond.code x code maxLocals ret).before args0 about1 = true := code_word (m := ⟨1, 1⟩) (meth := k1m1) (c := k1c1) (by decide +kernel) rfl rfl rfl (by decide +kernel)
set_option maxRecDepth 65536 in
theorem w_c1 : (Jvm.Cond.code ({ cls := "com/example/xspar/xspar/runtime/Numbers", name := "compareDoubles", desc := "(DD)D" } : Jvm.MethodName) prog_238_method_6_code (6 : Nat) (Option.some Jvm.ClassFile.FieldType.double)).before args0 about1 = true := code_word (m := ⟨2, 0⟩) (meth := k2m0) (c := k2c0) (by decide +kernel) rfl rfl rfl (by decide +kernel)
def codes1 : List Jvm.Cond := [Jvm.Cond.code x code maxLocals ret, Jvm.Cond.code ({ cls := "com/example/xspar/xspar/runtime/Numbers", name := "compareDoubles", desc := "(DD)D" } : Jvm.MethodName) prog_238_method_6_code (6 : Nat) (Option.some Jvm.ClassFile.FieldType.double)]
set_option maxRecDepth 65536 in
theorem codes_eq : words1.filter isCode = codes1 := rfl
theorem w_codes : ∀ c ∈ words1.filter isCode, c.before args0 about1 = true := by
  rw [codes_eq]
  intro c hc
  simp only [codes1, List.mem_cons, List.not_mem_nil, or_false] at hc
  rcases hc with rfl | rfl
  · exact w_c0
  · exact w_c1
set_option maxRecDepth 65536 in
theorem w_t1 : words1.all (fun c => isCode c || c.before args0 about1) = true := by decide +kernel
theorem w_tables : (allAtoms (Jvm.Cond.code x code maxLocals ret :: tables_1)).before args0 about1 = true := by
  rw [allAtoms_all]
  show words1.all (fun c => c.before args0 about1) = true
  refine all_split ?_ w_codes
  rw [w_t1]
set_option maxRecDepth 65536 in
theorem w_case : (Jvm.Cond.and given_1 narrow_1).before args0 about1 = true := by decide +kernel
theorem w_applies : (headSpec (Jvm.Cond.code x code maxLocals ret :: tables_1) room_1).applies x e0.platform about1 = true :=
  (Spec.applies_iff w_frames).mpr ⟨w_running, w_runnable, w_alone, w_named, w_hears, w_ripe, w_room, w_tables⟩
theorem atStart : AtStart classFile x code maxLocals ret World_1 tables_1 room_1 Calls_1 rest_1 Pre_1 launch0 p0 e0 about1 theMethod args0 below0 :=
  ⟨lists_1, trivial, launch0.admits_env _ _ _, launch0.least_env, fairChoices_fair.cas, fairChoices_fair.clock, w_frames, w_args, w_heap, w_applies, trivial, trivial, w_case⟩
end start1
theorem witness_1 : WitnessClaimed_1 := ⟨start1.p0, start1.e0, start1.about1, start1.theMethod, start1.args0, start1.below0, start1.atStart⟩
end Jvm.Pilot.@@N@@
