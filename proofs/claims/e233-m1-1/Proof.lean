import JvmDerived
import JvmDerived.Pilot.@@N@@Statement
import JvmDerived.Pilot.@@N@@Code
set_option linter.unusedVariables false
set_option linter.unusedSimpArgs false
namespace Jvm.RoadKit
open Sem ClassFile Op Lib Jvm.Stand Jvm.Free Jvm.LawKit
section New
variable {p : Program} {l : Launch} {e : Env} {R : Room} {s : State} {m : MethodId} {args : Array Value} {below : List Frame} {meth : Method} {c : Code} {T : State} {locs : List Loc} {cells slots : Nat}
theorem retI (X : Stand p l e R s m args below meth c T locs cells slots) (hx : p.tables.exec = Jvm.exec) {pc : Nat} {Ls : Array Slot} {z : Int32} {rest : List Value} (hret : meth.sig.returnType = some .int) (hd : decode c.code pc = .ok (.ireturn, 1)) {fs : List Frame}
    (hl : ∀ (f : JFrame) (acts : List Action), f.method = m → f.locked = none → f.entered = [] → (doReturn e (T.setTop f) acts (some (.int z))).1 = T.setFrames fs) : Steps p.tables e below (T.setTop (mkF m pc Ls (.int z :: rest))) (T.setFrames fs) := by
  have hm' : T.vm.method? m = some meth := X.method'
  have hn : narrow .int (.int z) = .int z := rfl
  show Steps p.tables e below (T.setTop { method := m, pc := pc, locals := Ls, stack := _ :: rest, locked := none }) _
  jvm_step X.here [X.here.top, hx, hd, hm', hret, hn]
  first | (intro acts; rw [hl _ acts rfl rfl rfl]) | rw [hl _ _ rfl rfl rfl]
  exact Steps.refl _
end New
end Jvm.RoadKit
namespace Jvm.Pilot.@@N@@
open Jvm Jvm.ClassFile Sem Op Lib Jvm.Free Jvm.Stand Jvm.LawKit Jvm.RoadKit Bundle Jvm.Pilot.@@N@@.Jvm.D
theorem d1_0 : decode method_2_code 0 = .ok (.iload_n 1, 1) := by decide +kernel
theorem d1_1 : decode method_2_code 1 = .ok (.bipush 7, 2) := by decide +kernel
theorem d1_3 : decode method_2_code 3 = .ok (.iand, 1) := by decide +kernel
theorem d1_4 : decode method_2_code 4 = .ok (.istore_n 2, 1) := by decide +kernel
theorem d1_5 : decode method_2_code 5 = .ok (.iload_n 2, 1) := by decide +kernel
theorem d1_6 : decode method_2_code 6 = .ok (.ifCond .ne 8, 3) := by decide +kernel
theorem d1_9 : decode method_2_code 9 = .ok (.iload_n 0, 1) := by decide +kernel
theorem d1_10 : decode method_2_code 10 = .ok (.bipush 63, 2) := by decide +kernel
theorem d1_12 : decode method_2_code 12 = .ok (.iand, 1) := by decide +kernel
theorem d1_13 : decode method_2_code 13 = .ok (.ireturn, 1) := by decide +kernel
theorem d1_14 : decode method_2_code 14 = .ok (.iload_n 2, 1) := by decide +kernel
theorem d1_15 : decode method_2_code 15 = .ok (.iconst 1, 1) := by decide +kernel
theorem d1_16 : decode method_2_code 16 = .ok (.if_icmp .ne 11, 3) := by decide +kernel
theorem d1_19 : decode method_2_code 19 = .ok (.bipush 112, 2) := by decide +kernel
theorem d1_21 : decode method_2_code 21 = .ok (.iload_n 0, 1) := by decide +kernel
theorem d1_22 : decode method_2_code 22 = .ok (.bipush 63, 2) := by decide +kernel
theorem d1_24 : decode method_2_code 24 = .ok (.iand, 1) := by decide +kernel
theorem d1_25 : decode method_2_code 25 = .ok (.iadd, 1) := by decide +kernel
theorem d1_26 : decode method_2_code 26 = .ok (.ireturn, 1) := by decide +kernel
theorem d1_27 : decode method_2_code 27 = .ok (.iload_n 2, 1) := by decide +kernel
theorem d1_28 : decode method_2_code 28 = .ok (.iconst 2, 1) := by decide +kernel
theorem d1_29 : decode method_2_code 29 = .ok (.if_icmp .ne 11, 3) := by decide +kernel
theorem d1_32 : decode method_2_code 32 = .ok (.ldc 7, 2) := by decide +kernel
theorem d1_34 : decode method_2_code 34 = .ok (.iload_n 0, 1) := by decide +kernel
theorem d1_35 : decode method_2_code 35 = .ok (.bipush 63, 2) := by decide +kernel
theorem d1_37 : decode method_2_code 37 = .ok (.iand, 1) := by decide +kernel
theorem d1_38 : decode method_2_code 38 = .ok (.iadd, 1) := by decide +kernel
theorem d1_39 : decode method_2_code 39 = .ok (.ireturn, 1) := by decide +kernel
theorem d1_40 : decode method_2_code 40 = .ok (.iload_n 2, 1) := by decide +kernel
theorem d1_41 : decode method_2_code 41 = .ok (.iconst 3, 1) := by decide +kernel
theorem d1_42 : decode method_2_code 42 = .ok (.if_icmp .ne 23, 3) := by decide +kernel
theorem d1_45 : decode method_2_code 45 = .ok (.iload_n 0, 1) := by decide +kernel
theorem d1_46 : decode method_2_code 46 = .ok (.iconst 4, 1) := by decide +kernel
theorem d1_47 : decode method_2_code 47 = .ok (.iushr, 1) := by decide +kernel
theorem d1_48 : decode method_2_code 48 = .ok (.bipush 17, 2) := by decide +kernel
theorem d1_50 : decode method_2_code 50 = .ok (.irem, 1) := by decide +kernel
theorem d1_51 : decode method_2_code 51 = .ok (.istore_n 3, 1) := by decide +kernel
theorem d1_52 : decode method_2_code 52 = .ok (.iload_n 3, 1) := by decide +kernel
theorem d1_53 : decode method_2_code 53 = .ok (.ldc 8, 2) := by decide +kernel
theorem d1_55 : decode method_2_code 55 = .ok (.imul, 1) := by decide +kernel
theorem d1_56 : decode method_2_code 56 = .ok (.ldc 9, 2) := by decide +kernel
theorem d1_58 : decode method_2_code 58 = .ok (.iadd, 1) := by decide +kernel
theorem d1_59 : decode method_2_code 59 = .ok (.iload_n 0, 1) := by decide +kernel
theorem d1_60 : decode method_2_code 60 = .ok (.bipush 15, 2) := by decide +kernel
theorem d1_62 : decode method_2_code 62 = .ok (.iand, 1) := by decide +kernel
theorem d1_63 : decode method_2_code 63 = .ok (.iadd, 1) := by decide +kernel
theorem d1_64 : decode method_2_code 64 = .ok (.ireturn, 1) := by decide +kernel
theorem d1_65 : decode method_2_code 65 = .ok (.iload_n 0, 1) := by decide +kernel
theorem d1_66 : decode method_2_code 66 = .ok (.ldc 10, 2) := by decide +kernel
theorem d1_68 : decode method_2_code 68 = .ok (.iand, 1) := by decide +kernel
theorem d1_69 : decode method_2_code 69 = .ok (.ldc 11, 2) := by decide +kernel
theorem d1_71 : decode method_2_code 71 = .ok (.irem, 1) := by decide +kernel
theorem d1_72 : decode method_2_code 72 = .ok (.ireturn, 1) := by decide +kernel
theorem pn_1 : plainName x.cls = true := by first | (simp [plainName, overriddenIn]; done) | decide +kernel
theorem ef_1 (m : MethodId) (p1 : Int32) (p2 : Int32) : entryFrame m #[(.int p1), (.int p2)] 4 = (mkF m 0 #[.val (.int p1), .val (.int p2), .unset, .unset] []) := by first | (simp [entryFrame, mkF, argsToLocals, Value.category]; done) | rfl
def own_g1_0 (l0 : Int32) (l1 : Int32) : Int32 := (if (l1 &&& (7 : Int32)) = (0 : Int32) then (l0 &&& (63 : Int32)) else (if (l1 &&& (7 : Int32)) = (1 : Int32) then ((112 : Int32) + (l0 &&& (63 : Int32))) else (if (l1 &&& (7 : Int32)) = (2 : Int32) then ((64960 : Int32) + (l0 &&& (63 : Int32))) else (if (l1 &&& (7 : Int32)) = (3 : Int32) then (((((Jvm.Free.XT.ushr l0 (4 : Int32)) % (17 : Int32)) * (65536 : Int32)) + (65520 : Int32)) + (l0 &&& (15 : Int32))) else ((l0 &&& (2147483647 : Int32)) % (1114112 : Int32))))))
def Q1 (Z : State) (p1 : Int32) (p2 : Int32) (h0 : Heap) (n0 : Nat) (v : Option Value) (h : Heap) (L : List Loc) : Prop := v = some (.int (own_g1_0 p1 p2)) ∧ Fr n0 L ∧ h = h0
set_option maxRecDepth 65536 in
set_option maxHeartbeats 40000000 in
theorem rm1 (l : Launch) (Z : State) (a0 : Array Value) (hw : ∀ d ∈ tables_1, d.before a0 Z = true) (ws : List Jvm.Cond) (p1 : Int32) (p2 : Int32) (h0 : Heap) (n0 : Nat) (Z0 : n0 ≤ h0.size) :
    MetFree l (⟨x.cls, "pick", "(II)I"⟩ : MethodName) (head1 (Jvm.Cond.code (⟨x.cls, "pick", "(II)I"⟩ : MethodName) method_2_code 4 (some .int) :: ws) ({ frames := 0, cells := 0, slots := 0, locals := 0 } : Room)) (fun a U => a = #[(.int p1), (.int p2)] ∧ Z.Warmed39 U.vm ∧ U.heap = h0) (fun _ _ _ _ _ => True) (fun _ U o U' => ∃ v L, o = .returned v ∧ Q1 Z p1 p2 h0 n0 v U'.heap L ∧ FrameEnd U o U' L ({ frames := 0, cells := 0, slots := 0, locals := 0 } : Room).cells ({ frames := 0, cells := 0, slots := 0, locals := 0 } : Room).slots) := by
  refine MetFree.of_bodySF (plainFor_of_name pn_1) hisR ?_
  intro p e s m args below meth c s₁ Bd hml0 hP hK
  obtain ⟨rfl, hZ, hh⟩ := hP
  have hx := Bd.exec
  have hby := Bd.bytes
  have hml : c.maxLocals = 4 := hml0
  have hown : s.vm.findClass x.cls = some m.cls := by have q := findClass_of_methodNamed Bd.named; exact q
  have X0 : Stand p l e ({ frames := 0, cells := 0, slots := 0, locals := 0 } : Room) s m #[(.int p1), (.int p2)] below meth c s₁ [] 0 0 := Stand.of_body Bd
  have e0 : s₁.heap = h0 := by rw [← hh, Bd.state]; rfl
  have N0 := Fr.nil n0
  have pre0 : ∀ t, Steps p.tables e below (s₁.setTop (mkF m 0 #[.val (.int p1), .val (.int p2), .unset, .unset] [])) t → Steps p.tables e below (s₁.setTop (entryFrame m #[(.int p1), (.int p2)] 4)) t := fun t k => castTop (ef_1 m p1 p2) k
  obtain ⟨v, hv0⟩ : ∃ v, v = own_g1_0 p1 p2 := ⟨_, rfl⟩
  obtain ⟨fs, hr, hrun, hended, hW, hsame⟩ := X0.leave (v := some (.int v)) (fun h => by rw [Bd.returns] at h; cases h)
  have b0 : ∀ (l0 : Int32) (l1 : Int32), own_g1_0 l0 l1 = v → Steps p.tables e below (s₁.setTop (mkF m 0 #[.val (.int l0), .val (.int l1), .unset, .unset] [])) (s₁.setFrames fs) := by
    intro l0 l1 hv
    rw [own_g1_0] at hv
    refine XS.iloadN X0.here hx rfl (hb hby d1_0) rfl ?_
    show Steps p.tables e below (s₁.setTop (mkF m 1 #[.val (.int l0), .val (.int l1), .unset, .unset] [(.int l1)])) _
    refine XS.bipush X0.here hx rfl (hb hby d1_1) ?_
    show Steps p.tables e below (s₁.setTop (mkF m 3 #[.val (.int l0), .val (.int l1), .unset, .unset] [(.int (7 : Int32)), (.int l1)])) _
    refine XS.iand X0.here hx rfl (hb hby d1_3) rfl ?_
    show Steps p.tables e below (s₁.setTop (mkF m 4 #[.val (.int l0), .val (.int l1), .unset, .unset] [(.int (l1 &&& (7 : Int32)))])) _
    refine XS.istoreN X0.here hx rfl (hb hby d1_4) rfl (l' := #[.val (.int l0), .val (.int l1), .val (.int (l1 &&& (7 : Int32))), .unset]) rfl ?_
    show Steps p.tables e below (s₁.setTop (mkF m 5 #[.val (.int l0), .val (.int l1), .val (.int (l1 &&& (7 : Int32))), .unset] [])) _
    refine XS.iloadN X0.here hx rfl (hb hby d1_5) rfl ?_
    show Steps p.tables e below (s₁.setTop (mkF m 6 #[.val (.int l0), .val (.int l1), .val (.int (l1 &&& (7 : Int32))), .unset] [(.int (l1 &&& (7 : Int32)))])) _
    by_cases hc6 : (l1 &&& (7 : Int32)) = (0 : Int32)
    · rw [if_pos hc6] at hv
      refine XS.ifNo X0.here hx rfl (hb hby d1_6) rfl (Jvm.Free.XT.i0_ne_f hc6) ?_
      show Steps p.tables e below (s₁.setTop (mkF m 9 #[.val (.int l0), .val (.int l1), .val (.int (l1 &&& (7 : Int32))), .unset] [])) _
      refine XS.iloadN X0.here hx rfl (hb hby d1_9) rfl ?_
      show Steps p.tables e below (s₁.setTop (mkF m 10 #[.val (.int l0), .val (.int l1), .val (.int (l1 &&& (7 : Int32))), .unset] [(.int l0)])) _
      refine XS.bipush X0.here hx rfl (hb hby d1_10) ?_
      show Steps p.tables e below (s₁.setTop (mkF m 12 #[.val (.int l0), .val (.int l1), .val (.int (l1 &&& (7 : Int32))), .unset] [(.int (63 : Int32)), (.int l0)])) _
      refine XS.iand X0.here hx rfl (hb hby d1_12) rfl ?_
      show Steps p.tables e below (s₁.setTop (mkF m 13 #[.val (.int l0), .val (.int l1), .val (.int (l1 &&& (7 : Int32))), .unset] [(.int (l0 &&& (63 : Int32)))])) _
      subst hv
      exact retI X0 hx Bd.returns (hb hby d1_13) hr
    · rw [if_neg hc6] at hv
      refine XS.ifYes X0.here hx rfl (pc0 := 6) (pc' := 14) rfl (hb hby d1_6) rfl (Jvm.Free.XT.i0_ne_t hc6) (by decide) (by decide) ?_
      show Steps p.tables e below (s₁.setTop (mkF m 14 #[.val (.int l0), .val (.int l1), .val (.int (l1 &&& (7 : Int32))), .unset] [])) _
      refine XS.iloadN X0.here hx rfl (hb hby d1_14) rfl ?_
      show Steps p.tables e below (s₁.setTop (mkF m 15 #[.val (.int l0), .val (.int l1), .val (.int (l1 &&& (7 : Int32))), .unset] [(.int (l1 &&& (7 : Int32)))])) _
      refine XS.iconst X0.here hx rfl (hb hby d1_15) ?_
      show Steps p.tables e below (s₁.setTop (mkF m 16 #[.val (.int l0), .val (.int l1), .val (.int (l1 &&& (7 : Int32))), .unset] [(.int (1 : Int32)), (.int (l1 &&& (7 : Int32)))])) _
      by_cases hc16 : (l1 &&& (7 : Int32)) = (1 : Int32)
      · rw [if_pos hc16] at hv
        refine XS.icmpNo X0.here hx rfl (hb hby d1_16) rfl (Jvm.Free.XT.ii_ne_f hc16) ?_
        show Steps p.tables e below (s₁.setTop (mkF m 19 #[.val (.int l0), .val (.int l1), .val (.int (l1 &&& (7 : Int32))), .unset] [])) _
        refine XS.bipush X0.here hx rfl (hb hby d1_19) ?_
        show Steps p.tables e below (s₁.setTop (mkF m 21 #[.val (.int l0), .val (.int l1), .val (.int (l1 &&& (7 : Int32))), .unset] [(.int (112 : Int32))])) _
        refine XS.iloadN X0.here hx rfl (hb hby d1_21) rfl ?_
        show Steps p.tables e below (s₁.setTop (mkF m 22 #[.val (.int l0), .val (.int l1), .val (.int (l1 &&& (7 : Int32))), .unset] [(.int l0), (.int (112 : Int32))])) _
        refine XS.bipush X0.here hx rfl (hb hby d1_22) ?_
        show Steps p.tables e below (s₁.setTop (mkF m 24 #[.val (.int l0), .val (.int l1), .val (.int (l1 &&& (7 : Int32))), .unset] [(.int (63 : Int32)), (.int l0), (.int (112 : Int32))])) _
        refine XS.iand X0.here hx rfl (hb hby d1_24) rfl ?_
        show Steps p.tables e below (s₁.setTop (mkF m 25 #[.val (.int l0), .val (.int l1), .val (.int (l1 &&& (7 : Int32))), .unset] [(.int (l0 &&& (63 : Int32))), (.int (112 : Int32))])) _
        refine XS.iadd X0.here hx rfl (hb hby d1_25) rfl ?_
        show Steps p.tables e below (s₁.setTop (mkF m 26 #[.val (.int l0), .val (.int l1), .val (.int (l1 &&& (7 : Int32))), .unset] [(.int ((112 : Int32) + (l0 &&& (63 : Int32))))])) _
        subst hv
        exact retI X0 hx Bd.returns (hb hby d1_26) hr
      · rw [if_neg hc16] at hv
        refine XS.icmpYes X0.here hx rfl (pc0 := 16) (pc' := 27) rfl (hb hby d1_16) rfl (Jvm.Free.XT.ii_ne_t hc16) (by decide) (by decide) ?_
        show Steps p.tables e below (s₁.setTop (mkF m 27 #[.val (.int l0), .val (.int l1), .val (.int (l1 &&& (7 : Int32))), .unset] [])) _
        refine XS.iloadN X0.here hx rfl (hb hby d1_27) rfl ?_
        show Steps p.tables e below (s₁.setTop (mkF m 28 #[.val (.int l0), .val (.int l1), .val (.int (l1 &&& (7 : Int32))), .unset] [(.int (l1 &&& (7 : Int32)))])) _
        refine XS.iconst X0.here hx rfl (hb hby d1_28) ?_
        show Steps p.tables e below (s₁.setTop (mkF m 29 #[.val (.int l0), .val (.int l1), .val (.int (l1 &&& (7 : Int32))), .unset] [(.int (2 : Int32)), (.int (l1 &&& (7 : Int32)))])) _
        by_cases hc29 : (l1 &&& (7 : Int32)) = (2 : Int32)
        · rw [if_pos hc29] at hv
          refine XS.icmpNo X0.here hx rfl (hb hby d1_29) rfl (Jvm.Free.XT.ii_ne_f hc29) ?_
          show Steps p.tables e below (s₁.setTop (mkF m 32 #[.val (.int l0), .val (.int l1), .val (.int (l1 &&& (7 : Int32))), .unset] [])) _
          refine X0.ldcI hx hown (mvT hZ (hw _ (List.mem_of_getElem? (i := 21) rfl))) rfl (hb hby d1_32) ?_
          show Steps p.tables e below (s₁.setTop (mkF m 34 #[.val (.int l0), .val (.int l1), .val (.int (l1 &&& (7 : Int32))), .unset] [(.int (64960 : Int32))])) _
          refine XS.iloadN X0.here hx rfl (hb hby d1_34) rfl ?_
          show Steps p.tables e below (s₁.setTop (mkF m 35 #[.val (.int l0), .val (.int l1), .val (.int (l1 &&& (7 : Int32))), .unset] [(.int l0), (.int (64960 : Int32))])) _
          refine XS.bipush X0.here hx rfl (hb hby d1_35) ?_
          show Steps p.tables e below (s₁.setTop (mkF m 37 #[.val (.int l0), .val (.int l1), .val (.int (l1 &&& (7 : Int32))), .unset] [(.int (63 : Int32)), (.int l0), (.int (64960 : Int32))])) _
          refine XS.iand X0.here hx rfl (hb hby d1_37) rfl ?_
          show Steps p.tables e below (s₁.setTop (mkF m 38 #[.val (.int l0), .val (.int l1), .val (.int (l1 &&& (7 : Int32))), .unset] [(.int (l0 &&& (63 : Int32))), (.int (64960 : Int32))])) _
          refine XS.iadd X0.here hx rfl (hb hby d1_38) rfl ?_
          show Steps p.tables e below (s₁.setTop (mkF m 39 #[.val (.int l0), .val (.int l1), .val (.int (l1 &&& (7 : Int32))), .unset] [(.int ((64960 : Int32) + (l0 &&& (63 : Int32))))])) _
          subst hv
          exact retI X0 hx Bd.returns (hb hby d1_39) hr
        · rw [if_neg hc29] at hv
          refine XS.icmpYes X0.here hx rfl (pc0 := 29) (pc' := 40) rfl (hb hby d1_29) rfl (Jvm.Free.XT.ii_ne_t hc29) (by decide) (by decide) ?_
          show Steps p.tables e below (s₁.setTop (mkF m 40 #[.val (.int l0), .val (.int l1), .val (.int (l1 &&& (7 : Int32))), .unset] [])) _
          refine XS.iloadN X0.here hx rfl (hb hby d1_40) rfl ?_
          show Steps p.tables e below (s₁.setTop (mkF m 41 #[.val (.int l0), .val (.int l1), .val (.int (l1 &&& (7 : Int32))), .unset] [(.int (l1 &&& (7 : Int32)))])) _
          refine XS.iconst X0.here hx rfl (hb hby d1_41) ?_
          show Steps p.tables e below (s₁.setTop (mkF m 42 #[.val (.int l0), .val (.int l1), .val (.int (l1 &&& (7 : Int32))), .unset] [(.int (3 : Int32)), (.int (l1 &&& (7 : Int32)))])) _
          by_cases hc42 : (l1 &&& (7 : Int32)) = (3 : Int32)
          · rw [if_pos hc42] at hv
            refine XS.icmpNo X0.here hx rfl (hb hby d1_42) rfl (Jvm.Free.XT.ii_ne_f hc42) ?_
            show Steps p.tables e below (s₁.setTop (mkF m 45 #[.val (.int l0), .val (.int l1), .val (.int (l1 &&& (7 : Int32))), .unset] [])) _
            refine XS.iloadN X0.here hx rfl (hb hby d1_45) rfl ?_
            show Steps p.tables e below (s₁.setTop (mkF m 46 #[.val (.int l0), .val (.int l1), .val (.int (l1 &&& (7 : Int32))), .unset] [(.int l0)])) _
            refine XS.iconst X0.here hx rfl (hb hby d1_46) ?_
            show Steps p.tables e below (s₁.setTop (mkF m 47 #[.val (.int l0), .val (.int l1), .val (.int (l1 &&& (7 : Int32))), .unset] [(.int (4 : Int32)), (.int l0)])) _
            refine XT.iushr X0.here hx rfl (hb hby d1_47) rfl ?_
            show Steps p.tables e below (s₁.setTop (mkF m 48 #[.val (.int l0), .val (.int l1), .val (.int (l1 &&& (7 : Int32))), .unset] [(.int (Jvm.Free.XT.ushr l0 (4 : Int32)))])) _
            refine XS.bipush X0.here hx rfl (hb hby d1_48) ?_
            show Steps p.tables e below (s₁.setTop (mkF m 50 #[.val (.int l0), .val (.int l1), .val (.int (l1 &&& (7 : Int32))), .unset] [(.int (17 : Int32)), (.int (Jvm.Free.XT.ushr l0 (4 : Int32)))])) _
            refine iremM X0 hx rfl (hb hby d1_50) rfl (by decide) ?_
            show Steps p.tables e below (s₁.setTop (mkF m 51 #[.val (.int l0), .val (.int l1), .val (.int (l1 &&& (7 : Int32))), .unset] [(.int ((Jvm.Free.XT.ushr l0 (4 : Int32)) % (17 : Int32)))])) _
            refine XS.istoreN X0.here hx rfl (hb hby d1_51) rfl (l' := #[.val (.int l0), .val (.int l1), .val (.int (l1 &&& (7 : Int32))), .val (.int ((Jvm.Free.XT.ushr l0 (4 : Int32)) % (17 : Int32)))]) rfl ?_
            show Steps p.tables e below (s₁.setTop (mkF m 52 #[.val (.int l0), .val (.int l1), .val (.int (l1 &&& (7 : Int32))), .val (.int ((Jvm.Free.XT.ushr l0 (4 : Int32)) % (17 : Int32)))] [])) _
            refine XS.iloadN X0.here hx rfl (hb hby d1_52) rfl ?_
            show Steps p.tables e below (s₁.setTop (mkF m 53 #[.val (.int l0), .val (.int l1), .val (.int (l1 &&& (7 : Int32))), .val (.int ((Jvm.Free.XT.ushr l0 (4 : Int32)) % (17 : Int32)))] [(.int ((Jvm.Free.XT.ushr l0 (4 : Int32)) % (17 : Int32)))])) _
            refine X0.ldcI hx hown (mvT hZ (hw _ (List.mem_of_getElem? (i := 4) rfl))) rfl (hb hby d1_53) ?_
            show Steps p.tables e below (s₁.setTop (mkF m 55 #[.val (.int l0), .val (.int l1), .val (.int (l1 &&& (7 : Int32))), .val (.int ((Jvm.Free.XT.ushr l0 (4 : Int32)) % (17 : Int32)))] [(.int (65536 : Int32)), (.int ((Jvm.Free.XT.ushr l0 (4 : Int32)) % (17 : Int32)))])) _
            refine XS.imul X0.here hx rfl (hb hby d1_55) rfl ?_
            show Steps p.tables e below (s₁.setTop (mkF m 56 #[.val (.int l0), .val (.int l1), .val (.int (l1 &&& (7 : Int32))), .val (.int ((Jvm.Free.XT.ushr l0 (4 : Int32)) % (17 : Int32)))] [(.int (((Jvm.Free.XT.ushr l0 (4 : Int32)) % (17 : Int32)) * (65536 : Int32)))])) _
            refine X0.ldcI hx hown (mvT hZ (hw _ (List.mem_of_getElem? (i := 5) rfl))) rfl (hb hby d1_56) ?_
            show Steps p.tables e below (s₁.setTop (mkF m 58 #[.val (.int l0), .val (.int l1), .val (.int (l1 &&& (7 : Int32))), .val (.int ((Jvm.Free.XT.ushr l0 (4 : Int32)) % (17 : Int32)))] [(.int (65520 : Int32)), (.int (((Jvm.Free.XT.ushr l0 (4 : Int32)) % (17 : Int32)) * (65536 : Int32)))])) _
            refine XS.iadd X0.here hx rfl (hb hby d1_58) rfl ?_
            show Steps p.tables e below (s₁.setTop (mkF m 59 #[.val (.int l0), .val (.int l1), .val (.int (l1 &&& (7 : Int32))), .val (.int ((Jvm.Free.XT.ushr l0 (4 : Int32)) % (17 : Int32)))] [(.int ((((Jvm.Free.XT.ushr l0 (4 : Int32)) % (17 : Int32)) * (65536 : Int32)) + (65520 : Int32)))])) _
            refine XS.iloadN X0.here hx rfl (hb hby d1_59) rfl ?_
            show Steps p.tables e below (s₁.setTop (mkF m 60 #[.val (.int l0), .val (.int l1), .val (.int (l1 &&& (7 : Int32))), .val (.int ((Jvm.Free.XT.ushr l0 (4 : Int32)) % (17 : Int32)))] [(.int l0), (.int ((((Jvm.Free.XT.ushr l0 (4 : Int32)) % (17 : Int32)) * (65536 : Int32)) + (65520 : Int32)))])) _
            refine XS.bipush X0.here hx rfl (hb hby d1_60) ?_
            show Steps p.tables e below (s₁.setTop (mkF m 62 #[.val (.int l0), .val (.int l1), .val (.int (l1 &&& (7 : Int32))), .val (.int ((Jvm.Free.XT.ushr l0 (4 : Int32)) % (17 : Int32)))] [(.int (15 : Int32)), (.int l0), (.int ((((Jvm.Free.XT.ushr l0 (4 : Int32)) % (17 : Int32)) * (65536 : Int32)) + (65520 : Int32)))])) _
            refine XS.iand X0.here hx rfl (hb hby d1_62) rfl ?_
            show Steps p.tables e below (s₁.setTop (mkF m 63 #[.val (.int l0), .val (.int l1), .val (.int (l1 &&& (7 : Int32))), .val (.int ((Jvm.Free.XT.ushr l0 (4 : Int32)) % (17 : Int32)))] [(.int (l0 &&& (15 : Int32))), (.int ((((Jvm.Free.XT.ushr l0 (4 : Int32)) % (17 : Int32)) * (65536 : Int32)) + (65520 : Int32)))])) _
            refine XS.iadd X0.here hx rfl (hb hby d1_63) rfl ?_
            show Steps p.tables e below (s₁.setTop (mkF m 64 #[.val (.int l0), .val (.int l1), .val (.int (l1 &&& (7 : Int32))), .val (.int ((Jvm.Free.XT.ushr l0 (4 : Int32)) % (17 : Int32)))] [(.int (((((Jvm.Free.XT.ushr l0 (4 : Int32)) % (17 : Int32)) * (65536 : Int32)) + (65520 : Int32)) + (l0 &&& (15 : Int32))))])) _
            subst hv
            exact retI X0 hx Bd.returns (hb hby d1_64) hr
          · rw [if_neg hc42] at hv
            refine XS.icmpYes X0.here hx rfl (pc0 := 42) (pc' := 65) rfl (hb hby d1_42) rfl (Jvm.Free.XT.ii_ne_t hc42) (by decide) (by decide) ?_
            show Steps p.tables e below (s₁.setTop (mkF m 65 #[.val (.int l0), .val (.int l1), .val (.int (l1 &&& (7 : Int32))), .unset] [])) _
            refine XS.iloadN X0.here hx rfl (hb hby d1_65) rfl ?_
            show Steps p.tables e below (s₁.setTop (mkF m 66 #[.val (.int l0), .val (.int l1), .val (.int (l1 &&& (7 : Int32))), .unset] [(.int l0)])) _
            refine X0.ldcI hx hown (mvT hZ (hw _ (List.mem_of_getElem? (i := 19) rfl))) rfl (hb hby d1_66) ?_
            show Steps p.tables e below (s₁.setTop (mkF m 68 #[.val (.int l0), .val (.int l1), .val (.int (l1 &&& (7 : Int32))), .unset] [(.int (2147483647 : Int32)), (.int l0)])) _
            refine XS.iand X0.here hx rfl (hb hby d1_68) rfl ?_
            show Steps p.tables e below (s₁.setTop (mkF m 69 #[.val (.int l0), .val (.int l1), .val (.int (l1 &&& (7 : Int32))), .unset] [(.int (l0 &&& (2147483647 : Int32)))])) _
            refine X0.ldcI hx hown (mvT hZ (hw _ (List.mem_of_getElem? (i := 20) rfl))) rfl (hb hby d1_69) ?_
            show Steps p.tables e below (s₁.setTop (mkF m 71 #[.val (.int l0), .val (.int l1), .val (.int (l1 &&& (7 : Int32))), .unset] [(.int (1114112 : Int32)), (.int (l0 &&& (2147483647 : Int32)))])) _
            refine iremM X0 hx rfl (hb hby d1_71) rfl (by decide) ?_
            show Steps p.tables e below (s₁.setTop (mkF m 72 #[.val (.int l0), .val (.int l1), .val (.int (l1 &&& (7 : Int32))), .unset] [(.int ((l0 &&& (2147483647 : Int32)) % (1114112 : Int32)))])) _
            subst hv
            exact retI X0 hx Bd.returns (hb hby d1_72) hr
  refine ⟨_, _, pre0 _ (b0 p1 p2 hv0.symm), hrun, hended, _, _, rfl, ?_, ⟨_, rfl⟩, hW, hsame.mono (by decide) (by decide)⟩
  show Q1 Z p1 p2 h0 n0 _ s₁.heap _
  rw [e0]
  exact ⟨by rw [hv0], N0, rfl⟩
theorem d2_0 : decode prog_272_method_4_code 0 = .ok (.iload_n 0, 1) := by decide +kernel
theorem d2_1 : decode prog_272_method_4_code 1 = .ok (.bipush 32, 2) := by decide +kernel
theorem d2_3 : decode prog_272_method_4_code 3 = .ok (.if_icmp .ge 33, 3) := by decide +kernel
theorem d2_6 : decode prog_272_method_4_code 6 = .ok (.iload_n 0, 1) := by decide +kernel
theorem d2_7 : decode prog_272_method_4_code 7 = .ok (.bipush 9, 2) := by decide +kernel
theorem d2_9 : decode prog_272_method_4_code 9 = .ok (.if_icmp .eq 25, 3) := by decide +kernel
theorem d2_12 : decode prog_272_method_4_code 12 = .ok (.iload_n 0, 1) := by decide +kernel
theorem d2_13 : decode prog_272_method_4_code 13 = .ok (.bipush 10, 2) := by decide +kernel
theorem d2_15 : decode prog_272_method_4_code 15 = .ok (.if_icmp .eq 19, 3) := by decide +kernel
theorem d2_18 : decode prog_272_method_4_code 18 = .ok (.iload_n 0, 1) := by decide +kernel
theorem d2_19 : decode prog_272_method_4_code 19 = .ok (.bipush 12, 2) := by decide +kernel
theorem d2_21 : decode prog_272_method_4_code 21 = .ok (.if_icmp .eq 13, 3) := by decide +kernel
theorem d2_24 : decode prog_272_method_4_code 24 = .ok (.iload_n 0, 1) := by decide +kernel
theorem d2_25 : decode prog_272_method_4_code 25 = .ok (.bipush 13, 2) := by decide +kernel
theorem d2_27 : decode prog_272_method_4_code 27 = .ok (.if_icmp .eq 7, 3) := by decide +kernel
theorem d2_30 : decode prog_272_method_4_code 30 = .ok (.iconst 1, 1) := by decide +kernel
theorem d2_31 : decode prog_272_method_4_code 31 = .ok (.goto 4, 3) := by decide +kernel
theorem d2_34 : decode prog_272_method_4_code 34 = .ok (.iconst 0, 1) := by decide +kernel
theorem d2_35 : decode prog_272_method_4_code 35 = .ok (.ireturn, 1) := by decide +kernel
theorem d2_36 : decode prog_272_method_4_code 36 = .ok (.iload_n 0, 1) := by decide +kernel
theorem d2_37 : decode prog_272_method_4_code 37 = .ok (.sipush 128, 3) := by decide +kernel
theorem d2_40 : decode prog_272_method_4_code 40 = .ok (.if_icmp .lt 12, 3) := by decide +kernel
theorem d2_43 : decode prog_272_method_4_code 43 = .ok (.iload_n 0, 1) := by decide +kernel
theorem d2_44 : decode prog_272_method_4_code 44 = .ok (.sipush 159, 3) := by decide +kernel
theorem d2_47 : decode prog_272_method_4_code 47 = .ok (.if_icmp .gt 5, 3) := by decide +kernel
theorem d2_50 : decode prog_272_method_4_code 50 = .ok (.iconst 1, 1) := by decide +kernel
theorem d2_51 : decode prog_272_method_4_code 51 = .ok (.ireturn, 1) := by decide +kernel
theorem d2_52 : decode prog_272_method_4_code 52 = .ok (.iload_n 0, 1) := by decide +kernel
theorem d2_53 : decode prog_272_method_4_code 53 = .ok (.ldc 208, 2) := by decide +kernel
theorem d2_55 : decode prog_272_method_4_code 55 = .ok (.if_icmp .lt 9, 3) := by decide +kernel
theorem d2_58 : decode prog_272_method_4_code 58 = .ok (.iload_n 0, 1) := by decide +kernel
theorem d2_59 : decode prog_272_method_4_code 59 = .ok (.ldc 209, 2) := by decide +kernel
theorem d2_61 : decode prog_272_method_4_code 61 = .ok (.if_icmp .le 12, 3) := by decide +kernel
theorem d2_64 : decode prog_272_method_4_code 64 = .ok (.iload_n 0, 1) := by decide +kernel
theorem d2_65 : decode prog_272_method_4_code 65 = .ok (.ldc 210, 2) := by decide +kernel
theorem d2_67 : decode prog_272_method_4_code 67 = .ok (.iand, 1) := by decide +kernel
theorem d2_68 : decode prog_272_method_4_code 68 = .ok (.ldc 210, 2) := by decide +kernel
theorem d2_70 : decode prog_272_method_4_code 70 = .ok (.if_icmp .ne 7, 3) := by decide +kernel
theorem d2_73 : decode prog_272_method_4_code 73 = .ok (.iconst 1, 1) := by decide +kernel
theorem d2_74 : decode prog_272_method_4_code 74 = .ok (.goto 4, 3) := by decide +kernel
theorem d2_77 : decode prog_272_method_4_code 77 = .ok (.iconst 0, 1) := by decide +kernel
theorem d2_78 : decode prog_272_method_4_code 78 = .ok (.ireturn, 1) := by decide +kernel
theorem pn_2 : plainName site_7.cls = true := by first | (simp [plainName, overriddenIn]; done) | decide +kernel
theorem ef_2 (m : MethodId) (p1 : Int32) : entryFrame m #[(.int p1)] 1 = (mkF m 0 #[.val (.int p1)] []) := by first | (simp [entryFrame, mkF, argsToLocals, Value.category]; done) | rfl
def own_g2_77 (l0 : Int32) : Int32 := (0 : Int32)
def own_g2_73 (l0 : Int32) : Int32 := (1 : Int32)
def own_g2_64 (l0 : Int32) : Int32 := (if (l0 &&& (65534 : Int32)) = (65534 : Int32) then own_g2_73 l0 else own_g2_77 l0)
def own_g2_52 (l0 : Int32) : Int32 := (if l0 < (64976 : Int32) then own_g2_64 l0 else (if (65007 : Int32) < l0 then own_g2_64 l0 else own_g2_73 l0))
def own_g2_36 (l0 : Int32) : Int32 := (if l0 < (128 : Int32) then own_g2_52 l0 else (if (159 : Int32) < l0 then own_g2_52 l0 else (1 : Int32)))
def own_g2_34 (l0 : Int32) : Int32 := (0 : Int32)
def own_g2_0 (l0 : Int32) : Int32 := (if l0 < (32 : Int32) then (if l0 = (9 : Int32) then own_g2_34 l0 else (if l0 = (10 : Int32) then own_g2_34 l0 else (if l0 = (12 : Int32) then own_g2_34 l0 else (if l0 = (13 : Int32) then own_g2_34 l0 else (1 : Int32))))) else own_g2_36 l0)
def Q2 (Z : State) (p1 : Int32) (h0 : Heap) (n0 : Nat) (v : Option Value) (h : Heap) (L : List Loc) : Prop := v = some (.int (own_g2_0 p1)) ∧ Fr n0 L ∧ h = h0
set_option maxRecDepth 65536 in
set_option maxHeartbeats 40000000 in
theorem rm2 (l : Launch) (Z : State) (a0 : Array Value) (hw : ∀ d ∈ tables_1, d.before a0 Z = true) (ws : List Jvm.Cond) (p1 : Int32) (h0 : Heap) (n0 : Nat) (Z0 : n0 ≤ h0.size) :
    MetFree l (⟨site_7.cls, "isDisallowed", "(I)Z"⟩ : MethodName) (head1 (Jvm.Cond.code (⟨site_7.cls, "isDisallowed", "(I)Z"⟩ : MethodName) prog_272_method_4_code 1 (some .boolean) :: ws) ({ frames := 0, cells := 0, slots := 0, locals := 0 } : Room)) (fun a U => a = #[(.int p1)] ∧ Z.Warmed39 U.vm ∧ U.heap = h0) (fun _ _ _ _ _ => True) (fun _ U o U' => ∃ v L, o = .returned v ∧ Q2 Z p1 h0 n0 v U'.heap L ∧ FrameEnd U o U' L ({ frames := 0, cells := 0, slots := 0, locals := 0 } : Room).cells ({ frames := 0, cells := 0, slots := 0, locals := 0 } : Room).slots) := by
  refine MetFree.of_bodySF (plainFor_of_name pn_2) hisR ?_
  intro p e s m args below meth c s₁ Bd hml0 hP hK
  obtain ⟨rfl, hZ, hh⟩ := hP
  have hx := Bd.exec
  have hby := Bd.bytes
  have hml : c.maxLocals = 1 := hml0
  have hown : s.vm.findClass site_7.cls = some m.cls := by have q := findClass_of_methodNamed Bd.named; exact q
  have X0 : Stand p l e ({ frames := 0, cells := 0, slots := 0, locals := 0 } : Room) s m #[(.int p1)] below meth c s₁ [] 0 0 := Stand.of_body Bd
  have e0 : s₁.heap = h0 := by rw [← hh, Bd.state]; rfl
  have N0 := Fr.nil n0
  have pre0 : ∀ t, Steps p.tables e below (s₁.setTop (mkF m 0 #[.val (.int p1)] [])) t → Steps p.tables e below (s₁.setTop (entryFrame m #[(.int p1)] 1)) t := fun t k => castTop (ef_2 m p1) k
  obtain ⟨v, hv0⟩ : ∃ v, v = own_g2_0 p1 := ⟨_, rfl⟩
  obtain ⟨fs, hr, hrun, hended, hW, hsame⟩ := X0.leave (v := some (.int v)) (fun h => by rw [Bd.returns] at h; cases h)
  have b77 : ∀ (l0 : Int32), own_g2_77 l0 = v → Steps p.tables e below (s₁.setTop (mkF m 77 #[.val (.int l0)] [])) (s₁.setFrames fs) := by
    intro l0 hv
    rw [own_g2_77] at hv
    refine XS.iconst X0.here hx rfl (hb hby d2_77) ?_
    show Steps p.tables e below (s₁.setTop (mkF m 78 #[.val (.int l0)] [(.int (0 : Int32))])) _
    subst hv
    exact retN X0 hx (t := .boolean) Bd.returns (by simp) (hb hby d2_78) hr
  have b73 : ∀ (l0 : Int32), own_g2_73 l0 = v → Steps p.tables e below (s₁.setTop (mkF m 73 #[.val (.int l0)] [])) (s₁.setFrames fs) := by
    intro l0 hv
    rw [own_g2_73] at hv
    refine XS.iconst X0.here hx rfl (hb hby d2_73) ?_
    show Steps p.tables e below (s₁.setTop (mkF m 74 #[.val (.int l0)] [(.int (1 : Int32))])) _
    refine XS.goto X0.here hx rfl (pc0 := 74) (pc' := 78) rfl (hb hby d2_74) (by decide) (by decide) ?_
    show Steps p.tables e below (s₁.setTop (mkF m 78 #[.val (.int l0)] [(.int (1 : Int32))])) _
    subst hv
    exact retN X0 hx (t := .boolean) Bd.returns (by simp) (hb hby d2_78) hr
  have b64 : ∀ (l0 : Int32), own_g2_64 l0 = v → Steps p.tables e below (s₁.setTop (mkF m 64 #[.val (.int l0)] [])) (s₁.setFrames fs) := by
    intro l0 hv
    rw [own_g2_64] at hv
    refine XS.iloadN X0.here hx rfl (hb hby d2_64) rfl ?_
    show Steps p.tables e below (s₁.setTop (mkF m 65 #[.val (.int l0)] [(.int l0)])) _
    refine X0.ldcI hx hown (mvT hZ (hw _ (List.mem_of_getElem? (i := 12) rfl))) rfl (hb hby d2_65) ?_
    show Steps p.tables e below (s₁.setTop (mkF m 67 #[.val (.int l0)] [(.int (65534 : Int32)), (.int l0)])) _
    refine XS.iand X0.here hx rfl (hb hby d2_67) rfl ?_
    show Steps p.tables e below (s₁.setTop (mkF m 68 #[.val (.int l0)] [(.int (l0 &&& (65534 : Int32)))])) _
    refine X0.ldcI hx hown (mvT hZ (hw _ (List.mem_of_getElem? (i := 12) rfl))) rfl (hb hby d2_68) ?_
    show Steps p.tables e below (s₁.setTop (mkF m 70 #[.val (.int l0)] [(.int (65534 : Int32)), (.int (l0 &&& (65534 : Int32)))])) _
    by_cases hc70 : (l0 &&& (65534 : Int32)) = (65534 : Int32)
    · rw [if_pos hc70] at hv
      refine XS.icmpNo X0.here hx rfl (hb hby d2_70) rfl (Jvm.Free.XT.ii_ne_f hc70) ?_
      show Steps p.tables e below (s₁.setTop (mkF m 73 #[.val (.int l0)] [])) _
      exact b73 l0 hv
    · rw [if_neg hc70] at hv
      refine XS.icmpYes X0.here hx rfl (pc0 := 70) (pc' := 77) rfl (hb hby d2_70) rfl (Jvm.Free.XT.ii_ne_t hc70) (by decide) (by decide) ?_
      show Steps p.tables e below (s₁.setTop (mkF m 77 #[.val (.int l0)] [])) _
      exact b77 l0 hv
  have b52 : ∀ (l0 : Int32), own_g2_52 l0 = v → Steps p.tables e below (s₁.setTop (mkF m 52 #[.val (.int l0)] [])) (s₁.setFrames fs) := by
    intro l0 hv
    rw [own_g2_52] at hv
    refine XS.iloadN X0.here hx rfl (hb hby d2_52) rfl ?_
    show Steps p.tables e below (s₁.setTop (mkF m 53 #[.val (.int l0)] [(.int l0)])) _
    refine X0.ldcI hx hown (mvT hZ (hw _ (List.mem_of_getElem? (i := 10) rfl))) rfl (hb hby d2_53) ?_
    show Steps p.tables e below (s₁.setTop (mkF m 55 #[.val (.int l0)] [(.int (64976 : Int32)), (.int l0)])) _
    by_cases hc55 : l0 < (64976 : Int32)
    · rw [if_pos hc55] at hv
      refine XS.icmpYes X0.here hx rfl (pc0 := 55) (pc' := 64) rfl (hb hby d2_55) rfl (Jvm.Free.XT.ii_lt_t hc55) (by decide) (by decide) ?_
      show Steps p.tables e below (s₁.setTop (mkF m 64 #[.val (.int l0)] [])) _
      exact b64 l0 hv
    · rw [if_neg hc55] at hv
      refine XS.icmpNo X0.here hx rfl (hb hby d2_55) rfl (Jvm.Free.XT.ii_lt_f hc55) ?_
      show Steps p.tables e below (s₁.setTop (mkF m 58 #[.val (.int l0)] [])) _
      refine XS.iloadN X0.here hx rfl (hb hby d2_58) rfl ?_
      show Steps p.tables e below (s₁.setTop (mkF m 59 #[.val (.int l0)] [(.int l0)])) _
      refine X0.ldcI hx hown (mvT hZ (hw _ (List.mem_of_getElem? (i := 11) rfl))) rfl (hb hby d2_59) ?_
      show Steps p.tables e below (s₁.setTop (mkF m 61 #[.val (.int l0)] [(.int (65007 : Int32)), (.int l0)])) _
      by_cases hc61 : (65007 : Int32) < l0
      · rw [if_pos hc61] at hv
        refine XS.icmpNo X0.here hx rfl (hb hby d2_61) rfl (Jvm.Free.XT.ii_le_f hc61) ?_
        show Steps p.tables e below (s₁.setTop (mkF m 64 #[.val (.int l0)] [])) _
        exact b64 l0 hv
      · rw [if_neg hc61] at hv
        refine XS.icmpYes X0.here hx rfl (pc0 := 61) (pc' := 73) rfl (hb hby d2_61) rfl (Jvm.Free.XT.ii_le_t hc61) (by decide) (by decide) ?_
        show Steps p.tables e below (s₁.setTop (mkF m 73 #[.val (.int l0)] [])) _
        exact b73 l0 hv
  have b36 : ∀ (l0 : Int32), own_g2_36 l0 = v → Steps p.tables e below (s₁.setTop (mkF m 36 #[.val (.int l0)] [])) (s₁.setFrames fs) := by
    intro l0 hv
    rw [own_g2_36] at hv
    refine XS.iloadN X0.here hx rfl (hb hby d2_36) rfl ?_
    show Steps p.tables e below (s₁.setTop (mkF m 37 #[.val (.int l0)] [(.int l0)])) _
    refine XS.sipush X0.here hx rfl (hb hby d2_37) ?_
    show Steps p.tables e below (s₁.setTop (mkF m 40 #[.val (.int l0)] [(.int (128 : Int32)), (.int l0)])) _
    by_cases hc40 : l0 < (128 : Int32)
    · rw [if_pos hc40] at hv
      refine XS.icmpYes X0.here hx rfl (pc0 := 40) (pc' := 52) rfl (hb hby d2_40) rfl (Jvm.Free.XT.ii_lt_t hc40) (by decide) (by decide) ?_
      show Steps p.tables e below (s₁.setTop (mkF m 52 #[.val (.int l0)] [])) _
      exact b52 l0 hv
    · rw [if_neg hc40] at hv
      refine XS.icmpNo X0.here hx rfl (hb hby d2_40) rfl (Jvm.Free.XT.ii_lt_f hc40) ?_
      show Steps p.tables e below (s₁.setTop (mkF m 43 #[.val (.int l0)] [])) _
      refine XS.iloadN X0.here hx rfl (hb hby d2_43) rfl ?_
      show Steps p.tables e below (s₁.setTop (mkF m 44 #[.val (.int l0)] [(.int l0)])) _
      refine XS.sipush X0.here hx rfl (hb hby d2_44) ?_
      show Steps p.tables e below (s₁.setTop (mkF m 47 #[.val (.int l0)] [(.int (159 : Int32)), (.int l0)])) _
      by_cases hc47 : (159 : Int32) < l0
      · rw [if_pos hc47] at hv
        refine XS.icmpYes X0.here hx rfl (pc0 := 47) (pc' := 52) rfl (hb hby d2_47) rfl (Jvm.Free.XT.ii_gt_t hc47) (by decide) (by decide) ?_
        show Steps p.tables e below (s₁.setTop (mkF m 52 #[.val (.int l0)] [])) _
        exact b52 l0 hv
      · rw [if_neg hc47] at hv
        refine XS.icmpNo X0.here hx rfl (hb hby d2_47) rfl (Jvm.Free.XT.ii_gt_f hc47) ?_
        show Steps p.tables e below (s₁.setTop (mkF m 50 #[.val (.int l0)] [])) _
        refine XS.iconst X0.here hx rfl (hb hby d2_50) ?_
        show Steps p.tables e below (s₁.setTop (mkF m 51 #[.val (.int l0)] [(.int (1 : Int32))])) _
        subst hv
        exact retN X0 hx (t := .boolean) Bd.returns (by simp) (hb hby d2_51) hr
  have b34 : ∀ (l0 : Int32), own_g2_34 l0 = v → Steps p.tables e below (s₁.setTop (mkF m 34 #[.val (.int l0)] [])) (s₁.setFrames fs) := by
    intro l0 hv
    rw [own_g2_34] at hv
    refine XS.iconst X0.here hx rfl (hb hby d2_34) ?_
    show Steps p.tables e below (s₁.setTop (mkF m 35 #[.val (.int l0)] [(.int (0 : Int32))])) _
    subst hv
    exact retN X0 hx (t := .boolean) Bd.returns (by simp) (hb hby d2_35) hr
  have b0 : ∀ (l0 : Int32), own_g2_0 l0 = v → Steps p.tables e below (s₁.setTop (mkF m 0 #[.val (.int l0)] [])) (s₁.setFrames fs) := by
    intro l0 hv
    rw [own_g2_0] at hv
    refine XS.iloadN X0.here hx rfl (hb hby d2_0) rfl ?_
    show Steps p.tables e below (s₁.setTop (mkF m 1 #[.val (.int l0)] [(.int l0)])) _
    refine XS.bipush X0.here hx rfl (hb hby d2_1) ?_
    show Steps p.tables e below (s₁.setTop (mkF m 3 #[.val (.int l0)] [(.int (32 : Int32)), (.int l0)])) _
    by_cases hc3 : l0 < (32 : Int32)
    · rw [if_pos hc3] at hv
      refine XS.icmpNo X0.here hx rfl (hb hby d2_3) rfl (Jvm.Free.XT.ii_ge_f hc3) ?_
      show Steps p.tables e below (s₁.setTop (mkF m 6 #[.val (.int l0)] [])) _
      refine XS.iloadN X0.here hx rfl (hb hby d2_6) rfl ?_
      show Steps p.tables e below (s₁.setTop (mkF m 7 #[.val (.int l0)] [(.int l0)])) _
      refine XS.bipush X0.here hx rfl (hb hby d2_7) ?_
      show Steps p.tables e below (s₁.setTop (mkF m 9 #[.val (.int l0)] [(.int (9 : Int32)), (.int l0)])) _
      by_cases hc9 : l0 = (9 : Int32)
      · rw [if_pos hc9] at hv
        refine XS.icmpYes X0.here hx rfl (pc0 := 9) (pc' := 34) rfl (hb hby d2_9) rfl (Jvm.Free.XT.ii_eq_t hc9) (by decide) (by decide) ?_
        show Steps p.tables e below (s₁.setTop (mkF m 34 #[.val (.int l0)] [])) _
        exact b34 l0 hv
      · rw [if_neg hc9] at hv
        refine XS.icmpNo X0.here hx rfl (hb hby d2_9) rfl (Jvm.Free.XT.ii_eq_f hc9) ?_
        show Steps p.tables e below (s₁.setTop (mkF m 12 #[.val (.int l0)] [])) _
        refine XS.iloadN X0.here hx rfl (hb hby d2_12) rfl ?_
        show Steps p.tables e below (s₁.setTop (mkF m 13 #[.val (.int l0)] [(.int l0)])) _
        refine XS.bipush X0.here hx rfl (hb hby d2_13) ?_
        show Steps p.tables e below (s₁.setTop (mkF m 15 #[.val (.int l0)] [(.int (10 : Int32)), (.int l0)])) _
        by_cases hc15 : l0 = (10 : Int32)
        · rw [if_pos hc15] at hv
          refine XS.icmpYes X0.here hx rfl (pc0 := 15) (pc' := 34) rfl (hb hby d2_15) rfl (Jvm.Free.XT.ii_eq_t hc15) (by decide) (by decide) ?_
          show Steps p.tables e below (s₁.setTop (mkF m 34 #[.val (.int l0)] [])) _
          exact b34 l0 hv
        · rw [if_neg hc15] at hv
          refine XS.icmpNo X0.here hx rfl (hb hby d2_15) rfl (Jvm.Free.XT.ii_eq_f hc15) ?_
          show Steps p.tables e below (s₁.setTop (mkF m 18 #[.val (.int l0)] [])) _
          refine XS.iloadN X0.here hx rfl (hb hby d2_18) rfl ?_
          show Steps p.tables e below (s₁.setTop (mkF m 19 #[.val (.int l0)] [(.int l0)])) _
          refine XS.bipush X0.here hx rfl (hb hby d2_19) ?_
          show Steps p.tables e below (s₁.setTop (mkF m 21 #[.val (.int l0)] [(.int (12 : Int32)), (.int l0)])) _
          by_cases hc21 : l0 = (12 : Int32)
          · rw [if_pos hc21] at hv
            refine XS.icmpYes X0.here hx rfl (pc0 := 21) (pc' := 34) rfl (hb hby d2_21) rfl (Jvm.Free.XT.ii_eq_t hc21) (by decide) (by decide) ?_
            show Steps p.tables e below (s₁.setTop (mkF m 34 #[.val (.int l0)] [])) _
            exact b34 l0 hv
          · rw [if_neg hc21] at hv
            refine XS.icmpNo X0.here hx rfl (hb hby d2_21) rfl (Jvm.Free.XT.ii_eq_f hc21) ?_
            show Steps p.tables e below (s₁.setTop (mkF m 24 #[.val (.int l0)] [])) _
            refine XS.iloadN X0.here hx rfl (hb hby d2_24) rfl ?_
            show Steps p.tables e below (s₁.setTop (mkF m 25 #[.val (.int l0)] [(.int l0)])) _
            refine XS.bipush X0.here hx rfl (hb hby d2_25) ?_
            show Steps p.tables e below (s₁.setTop (mkF m 27 #[.val (.int l0)] [(.int (13 : Int32)), (.int l0)])) _
            by_cases hc27 : l0 = (13 : Int32)
            · rw [if_pos hc27] at hv
              refine XS.icmpYes X0.here hx rfl (pc0 := 27) (pc' := 34) rfl (hb hby d2_27) rfl (Jvm.Free.XT.ii_eq_t hc27) (by decide) (by decide) ?_
              show Steps p.tables e below (s₁.setTop (mkF m 34 #[.val (.int l0)] [])) _
              exact b34 l0 hv
            · rw [if_neg hc27] at hv
              refine XS.icmpNo X0.here hx rfl (hb hby d2_27) rfl (Jvm.Free.XT.ii_eq_f hc27) ?_
              show Steps p.tables e below (s₁.setTop (mkF m 30 #[.val (.int l0)] [])) _
              refine XS.iconst X0.here hx rfl (hb hby d2_30) ?_
              show Steps p.tables e below (s₁.setTop (mkF m 31 #[.val (.int l0)] [(.int (1 : Int32))])) _
              refine XS.goto X0.here hx rfl (pc0 := 31) (pc' := 35) rfl (hb hby d2_31) (by decide) (by decide) ?_
              show Steps p.tables e below (s₁.setTop (mkF m 35 #[.val (.int l0)] [(.int (1 : Int32))])) _
              subst hv
              exact retN X0 hx (t := .boolean) Bd.returns (by simp) (hb hby d2_35) hr
    · rw [if_neg hc3] at hv
      refine XS.icmpYes X0.here hx rfl (pc0 := 3) (pc' := 36) rfl (hb hby d2_3) rfl (Jvm.Free.XT.ii_ge_t hc3) (by decide) (by decide) ?_
      show Steps p.tables e below (s₁.setTop (mkF m 36 #[.val (.int l0)] [])) _
      exact b36 l0 hv
  refine ⟨_, _, pre0 _ (b0 p1 hv0.symm), hrun, hended, _, _, rfl, ?_, ⟨_, rfl⟩, hW, hsame.mono (by decide) (by decide)⟩
  show Q2 Z p1 h0 n0 _ s₁.heap _
  rw [e0]
  exact ⟨by rw [hv0], N0, rfl⟩
theorem d3_0 : decode method_3_code 0 = .ok (.iload_n 0, 1) := by decide +kernel
theorem d3_1 : decode method_3_code 1 = .ok (.bipush 9, 2) := by decide +kernel
theorem d3_3 : decode method_3_code 3 = .ok (.if_icmp .lt 19, 3) := by decide +kernel
theorem d3_6 : decode method_3_code 6 = .ok (.iload_n 0, 1) := by decide +kernel
theorem d3_7 : decode method_3_code 7 = .ok (.bipush 13, 2) := by decide +kernel
theorem d3_9 : decode method_3_code 9 = .ok (.if_icmp .gt 13, 3) := by decide +kernel
theorem d3_12 : decode method_3_code 12 = .ok (.iload_n 0, 1) := by decide +kernel
theorem d3_13 : decode method_3_code 13 = .ok (.bipush 11, 2) := by decide +kernel
theorem d3_15 : decode method_3_code 15 = .ok (.if_icmp .eq 7, 3) := by decide +kernel
theorem d3_18 : decode method_3_code 18 = .ok (.iconst 1, 1) := by decide +kernel
theorem d3_19 : decode method_3_code 19 = .ok (.goto 4, 3) := by decide +kernel
theorem d3_22 : decode method_3_code 22 = .ok (.iconst 0, 1) := by decide +kernel
theorem d3_23 : decode method_3_code 23 = .ok (.istore_n 1, 1) := by decide +kernel
theorem d3_24 : decode method_3_code 24 = .ok (.iload_n 0, 1) := by decide +kernel
theorem d3_25 : decode method_3_code 25 = .ok (.bipush 32, 2) := by decide +kernel
theorem d3_27 : decode method_3_code 27 = .ok (.if_icmp .ge 11, 3) := by decide +kernel
theorem d3_30 : decode method_3_code 30 = .ok (.iload_n 1, 1) := by decide +kernel
theorem d3_31 : decode method_3_code 31 = .ok (.ifCond .ne 7, 3) := by decide +kernel
theorem d3_34 : decode method_3_code 34 = .ok (.iconst 1, 1) := by decide +kernel
theorem d3_35 : decode method_3_code 35 = .ok (.goto 4, 3) := by decide +kernel
theorem d3_38 : decode method_3_code 38 = .ok (.iconst 0, 1) := by decide +kernel
theorem d3_39 : decode method_3_code 39 = .ok (.istore_n 2, 1) := by decide +kernel
theorem d3_40 : decode method_3_code 40 = .ok (.iload_n 0, 1) := by decide +kernel
theorem d3_41 : decode method_3_code 41 = .ok (.sipush 128, 3) := by decide +kernel
theorem d3_44 : decode method_3_code 44 = .ok (.if_icmp .lt 14, 3) := by decide +kernel
theorem d3_47 : decode method_3_code 47 = .ok (.iload_n 0, 1) := by decide +kernel
theorem d3_48 : decode method_3_code 48 = .ok (.sipush 160, 3) := by decide +kernel
theorem d3_51 : decode method_3_code 51 = .ok (.if_icmp .ge 7, 3) := by decide +kernel
theorem d3_54 : decode method_3_code 54 = .ok (.iconst 1, 1) := by decide +kernel
theorem d3_55 : decode method_3_code 55 = .ok (.goto 4, 3) := by decide +kernel
theorem d3_58 : decode method_3_code 58 = .ok (.iconst 0, 1) := by decide +kernel
theorem d3_59 : decode method_3_code 59 = .ok (.istore_n 3, 1) := by decide +kernel
theorem d3_60 : decode method_3_code 60 = .ok (.iload_n 0, 1) := by decide +kernel
theorem d3_61 : decode method_3_code 61 = .ok (.ldc 12, 2) := by decide +kernel
theorem d3_63 : decode method_3_code 63 = .ok (.if_icmp .lt 13, 3) := by decide +kernel
theorem d3_66 : decode method_3_code 66 = .ok (.iload_n 0, 1) := by decide +kernel
theorem d3_67 : decode method_3_code 67 = .ok (.ldc 13, 2) := by decide +kernel
theorem d3_69 : decode method_3_code 69 = .ok (.if_icmp .ge 7, 3) := by decide +kernel
theorem d3_72 : decode method_3_code 72 = .ok (.iconst 1, 1) := by decide +kernel
theorem d3_73 : decode method_3_code 73 = .ok (.goto 4, 3) := by decide +kernel
theorem d3_76 : decode method_3_code 76 = .ok (.iconst 0, 1) := by decide +kernel
theorem d3_77 : decode method_3_code 77 = .ok (.istore 4, 2) := by decide +kernel
theorem d3_79 : decode method_3_code 79 = .ok (.iload_n 0, 1) := by decide +kernel
theorem d3_80 : decode method_3_code 80 = .ok (.ldc 8, 2) := by decide +kernel
theorem d3_82 : decode method_3_code 82 = .ok (.irem, 1) := by decide +kernel
theorem d3_83 : decode method_3_code 83 = .ok (.ldc 14, 2) := by decide +kernel
theorem d3_85 : decode method_3_code 85 = .ok (.if_icmp .lt 7, 3) := by decide +kernel
theorem d3_88 : decode method_3_code 88 = .ok (.iconst 1, 1) := by decide +kernel
theorem d3_89 : decode method_3_code 89 = .ok (.goto 4, 3) := by decide +kernel
theorem d3_92 : decode method_3_code 92 = .ok (.iconst 0, 1) := by decide +kernel
theorem d3_93 : decode method_3_code 93 = .ok (.istore 5, 2) := by decide +kernel
theorem d3_95 : decode method_3_code 95 = .ok (.iload_n 2, 1) := by decide +kernel
theorem d3_96 : decode method_3_code 96 = .ok (.ifCond .ne 17, 3) := by decide +kernel
theorem d3_99 : decode method_3_code 99 = .ok (.iload_n 3, 1) := by decide +kernel
theorem d3_100 : decode method_3_code 100 = .ok (.ifCond .ne 13, 3) := by decide +kernel
theorem d3_103 : decode method_3_code 103 = .ok (.iload 4, 2) := by decide +kernel
theorem d3_105 : decode method_3_code 105 = .ok (.ifCond .ne 8, 3) := by decide +kernel
theorem d3_108 : decode method_3_code 108 = .ok (.iload 5, 2) := by decide +kernel
theorem d3_110 : decode method_3_code 110 = .ok (.ifCond .eq 7, 3) := by decide +kernel
theorem d3_113 : decode method_3_code 113 = .ok (.iconst 1, 1) := by decide +kernel
theorem d3_114 : decode method_3_code 114 = .ok (.goto 4, 3) := by decide +kernel
theorem d3_117 : decode method_3_code 117 = .ok (.iconst 0, 1) := by decide +kernel
theorem d3_118 : decode method_3_code 118 = .ok (.ireturn, 1) := by decide +kernel
theorem pn_3 : plainName x.cls = true := by first | (simp [plainName, overriddenIn]; done) | decide +kernel
theorem ef_3 (m : MethodId) (p1 : Int32) : entryFrame m #[(.int p1)] 6 = (mkF m 0 #[.val (.int p1), .unset, .unset, .unset, .unset, .unset] []) := by first | (simp [entryFrame, mkF, argsToLocals, Value.category]; done) | rfl
def own_g3_117 (l0 : Int32) (l1 : Int32) (l2 : Int32) (l3 : Int32) (l4 : Int32) (l5 : Int32) : Int32 := (0 : Int32)
def own_g3_113 (l0 : Int32) (l1 : Int32) (l2 : Int32) (l3 : Int32) (l4 : Int32) (l5 : Int32) : Int32 := (1 : Int32)
def own_g3_93 (l0 : Int32) (l1 : Int32) (l2 : Int32) (l3 : Int32) (l4 : Int32) (k0 : Int32) : Int32 := (if l2 = (0 : Int32) then (if l3 = (0 : Int32) then (if l4 = (0 : Int32) then (if k0 = (0 : Int32) then own_g3_117 l0 l1 l2 l3 l4 k0 else own_g3_113 l0 l1 l2 l3 l4 k0) else own_g3_113 l0 l1 l2 l3 l4 k0) else own_g3_113 l0 l1 l2 l3 l4 k0) else own_g3_113 l0 l1 l2 l3 l4 k0)
def own_g3_77 (l0 : Int32) (l1 : Int32) (l2 : Int32) (l3 : Int32) (k0 : Int32) : Int32 := (if (l0 % (65536 : Int32)) < (65534 : Int32) then own_g3_93 l0 l1 l2 l3 k0 (0 : Int32) else own_g3_93 l0 l1 l2 l3 k0 (1 : Int32))
def own_g3_59 (l0 : Int32) (l1 : Int32) (l2 : Int32) (k0 : Int32) : Int32 := (if l0 < (64976 : Int32) then own_g3_77 l0 l1 l2 k0 (0 : Int32) else (if l0 < (65008 : Int32) then own_g3_77 l0 l1 l2 k0 (1 : Int32) else own_g3_77 l0 l1 l2 k0 (0 : Int32)))
def own_g3_39 (l0 : Int32) (l1 : Int32) (k0 : Int32) : Int32 := (if l0 < (128 : Int32) then own_g3_59 l0 l1 k0 (0 : Int32) else (if l0 < (160 : Int32) then own_g3_59 l0 l1 k0 (1 : Int32) else own_g3_59 l0 l1 k0 (0 : Int32)))
def own_g3_23 (l0 : Int32) (k0 : Int32) : Int32 := (if l0 < (32 : Int32) then (if k0 = (0 : Int32) then own_g3_39 l0 k0 (1 : Int32) else own_g3_39 l0 k0 (0 : Int32)) else own_g3_39 l0 k0 (0 : Int32))
def own_g3_0 (l0 : Int32) : Int32 := (if l0 < (9 : Int32) then own_g3_23 l0 (0 : Int32) else (if (13 : Int32) < l0 then own_g3_23 l0 (0 : Int32) else (if l0 = (11 : Int32) then own_g3_23 l0 (0 : Int32) else own_g3_23 l0 (1 : Int32))))
def Q3 (Z : State) (p1 : Int32) (h0 : Heap) (n0 : Nat) (v : Option Value) (h : Heap) (L : List Loc) : Prop := v = some (.int (own_g3_0 p1)) ∧ Fr n0 L ∧ h = h0
set_option maxRecDepth 65536 in
set_option maxHeartbeats 40000000 in
theorem rm3 (l : Launch) (Z : State) (a0 : Array Value) (hw : ∀ d ∈ tables_1, d.before a0 Z = true) (ws : List Jvm.Cond) (p1 : Int32) (h0 : Heap) (n0 : Nat) (Z0 : n0 ≤ h0.size) :
    MetFree l (⟨x.cls, "expected", "(I)Z"⟩ : MethodName) (head1 (Jvm.Cond.code (⟨x.cls, "expected", "(I)Z"⟩ : MethodName) method_3_code 6 (some .boolean) :: ws) ({ frames := 0, cells := 0, slots := 0, locals := 0 } : Room)) (fun a U => a = #[(.int p1)] ∧ Z.Warmed39 U.vm ∧ U.heap = h0) (fun _ _ _ _ _ => True) (fun _ U o U' => ∃ v L, o = .returned v ∧ Q3 Z p1 h0 n0 v U'.heap L ∧ FrameEnd U o U' L ({ frames := 0, cells := 0, slots := 0, locals := 0 } : Room).cells ({ frames := 0, cells := 0, slots := 0, locals := 0 } : Room).slots) := by
  refine MetFree.of_bodySF (plainFor_of_name pn_3) hisR ?_
  intro p e s m args below meth c s₁ Bd hml0 hP hK
  obtain ⟨rfl, hZ, hh⟩ := hP
  have hx := Bd.exec
  have hby := Bd.bytes
  have hml : c.maxLocals = 6 := hml0
  have hown : s.vm.findClass x.cls = some m.cls := by have q := findClass_of_methodNamed Bd.named; exact q
  have X0 : Stand p l e ({ frames := 0, cells := 0, slots := 0, locals := 0 } : Room) s m #[(.int p1)] below meth c s₁ [] 0 0 := Stand.of_body Bd
  have e0 : s₁.heap = h0 := by rw [← hh, Bd.state]; rfl
  have N0 := Fr.nil n0
  have pre0 : ∀ t, Steps p.tables e below (s₁.setTop (mkF m 0 #[.val (.int p1), .unset, .unset, .unset, .unset, .unset] [])) t → Steps p.tables e below (s₁.setTop (entryFrame m #[(.int p1)] 6)) t := fun t k => castTop (ef_3 m p1) k
  obtain ⟨v, hv0⟩ : ∃ v, v = own_g3_0 p1 := ⟨_, rfl⟩
  obtain ⟨fs, hr, hrun, hended, hW, hsame⟩ := X0.leave (v := some (.int v)) (fun h => by rw [Bd.returns] at h; cases h)
  have b117 : ∀ (l0 : Int32) (l1 : Int32) (l2 : Int32) (l3 : Int32) (l4 : Int32) (l5 : Int32), own_g3_117 l0 l1 l2 l3 l4 l5 = v → Steps p.tables e below (s₁.setTop (mkF m 117 #[.val (.int l0), .val (.int l1), .val (.int l2), .val (.int l3), .val (.int l4), .val (.int l5)] [])) (s₁.setFrames fs) := by
    intro l0 l1 l2 l3 l4 l5 hv
    rw [own_g3_117] at hv
    refine XS.iconst X0.here hx rfl (hb hby d3_117) ?_
    show Steps p.tables e below (s₁.setTop (mkF m 118 #[.val (.int l0), .val (.int l1), .val (.int l2), .val (.int l3), .val (.int l4), .val (.int l5)] [(.int (0 : Int32))])) _
    subst hv
    exact retN X0 hx (t := .boolean) Bd.returns (by simp) (hb hby d3_118) hr
  have b113 : ∀ (l0 : Int32) (l1 : Int32) (l2 : Int32) (l3 : Int32) (l4 : Int32) (l5 : Int32), own_g3_113 l0 l1 l2 l3 l4 l5 = v → Steps p.tables e below (s₁.setTop (mkF m 113 #[.val (.int l0), .val (.int l1), .val (.int l2), .val (.int l3), .val (.int l4), .val (.int l5)] [])) (s₁.setFrames fs) := by
    intro l0 l1 l2 l3 l4 l5 hv
    rw [own_g3_113] at hv
    refine XS.iconst X0.here hx rfl (hb hby d3_113) ?_
    show Steps p.tables e below (s₁.setTop (mkF m 114 #[.val (.int l0), .val (.int l1), .val (.int l2), .val (.int l3), .val (.int l4), .val (.int l5)] [(.int (1 : Int32))])) _
    refine XS.goto X0.here hx rfl (pc0 := 114) (pc' := 118) rfl (hb hby d3_114) (by decide) (by decide) ?_
    show Steps p.tables e below (s₁.setTop (mkF m 118 #[.val (.int l0), .val (.int l1), .val (.int l2), .val (.int l3), .val (.int l4), .val (.int l5)] [(.int (1 : Int32))])) _
    subst hv
    exact retN X0 hx (t := .boolean) Bd.returns (by simp) (hb hby d3_118) hr
  have b93 : ∀ (l0 : Int32) (l1 : Int32) (l2 : Int32) (l3 : Int32) (l4 : Int32) (k0 : Int32), own_g3_93 l0 l1 l2 l3 l4 k0 = v → Steps p.tables e below (s₁.setTop (mkF m 93 #[.val (.int l0), .val (.int l1), .val (.int l2), .val (.int l3), .val (.int l4), .unset] [(.int k0)])) (s₁.setFrames fs) := by
    intro l0 l1 l2 l3 l4 k0 hv
    rw [own_g3_93] at hv
    refine XS.istore X0.here hx rfl (hb hby d3_93) rfl (l' := #[.val (.int l0), .val (.int l1), .val (.int l2), .val (.int l3), .val (.int l4), .val (.int k0)]) rfl ?_
    show Steps p.tables e below (s₁.setTop (mkF m 95 #[.val (.int l0), .val (.int l1), .val (.int l2), .val (.int l3), .val (.int l4), .val (.int k0)] [])) _
    refine XS.iloadN X0.here hx rfl (hb hby d3_95) rfl ?_
    show Steps p.tables e below (s₁.setTop (mkF m 96 #[.val (.int l0), .val (.int l1), .val (.int l2), .val (.int l3), .val (.int l4), .val (.int k0)] [(.int l2)])) _
    by_cases hc96 : l2 = (0 : Int32)
    · rw [if_pos hc96] at hv
      refine XS.ifNo X0.here hx rfl (hb hby d3_96) rfl (Jvm.Free.XT.i0_ne_f hc96) ?_
      show Steps p.tables e below (s₁.setTop (mkF m 99 #[.val (.int l0), .val (.int l1), .val (.int l2), .val (.int l3), .val (.int l4), .val (.int k0)] [])) _
      refine XS.iloadN X0.here hx rfl (hb hby d3_99) rfl ?_
      show Steps p.tables e below (s₁.setTop (mkF m 100 #[.val (.int l0), .val (.int l1), .val (.int l2), .val (.int l3), .val (.int l4), .val (.int k0)] [(.int l3)])) _
      by_cases hc100 : l3 = (0 : Int32)
      · rw [if_pos hc100] at hv
        refine XS.ifNo X0.here hx rfl (hb hby d3_100) rfl (Jvm.Free.XT.i0_ne_f hc100) ?_
        show Steps p.tables e below (s₁.setTop (mkF m 103 #[.val (.int l0), .val (.int l1), .val (.int l2), .val (.int l3), .val (.int l4), .val (.int k0)] [])) _
        refine XS.iload X0.here hx rfl (hb hby d3_103) rfl ?_
        show Steps p.tables e below (s₁.setTop (mkF m 105 #[.val (.int l0), .val (.int l1), .val (.int l2), .val (.int l3), .val (.int l4), .val (.int k0)] [(.int l4)])) _
        by_cases hc105 : l4 = (0 : Int32)
        · rw [if_pos hc105] at hv
          refine XS.ifNo X0.here hx rfl (hb hby d3_105) rfl (Jvm.Free.XT.i0_ne_f hc105) ?_
          show Steps p.tables e below (s₁.setTop (mkF m 108 #[.val (.int l0), .val (.int l1), .val (.int l2), .val (.int l3), .val (.int l4), .val (.int k0)] [])) _
          refine XS.iload X0.here hx rfl (hb hby d3_108) rfl ?_
          show Steps p.tables e below (s₁.setTop (mkF m 110 #[.val (.int l0), .val (.int l1), .val (.int l2), .val (.int l3), .val (.int l4), .val (.int k0)] [(.int k0)])) _
          by_cases hc110 : k0 = (0 : Int32)
          · rw [if_pos hc110] at hv
            refine XS.ifYes X0.here hx rfl (pc0 := 110) (pc' := 117) rfl (hb hby d3_110) rfl (Jvm.Free.XT.i0_eq_t hc110) (by decide) (by decide) ?_
            show Steps p.tables e below (s₁.setTop (mkF m 117 #[.val (.int l0), .val (.int l1), .val (.int l2), .val (.int l3), .val (.int l4), .val (.int k0)] [])) _
            exact b117 l0 l1 l2 l3 l4 k0 hv
          · rw [if_neg hc110] at hv
            refine XS.ifNo X0.here hx rfl (hb hby d3_110) rfl (Jvm.Free.XT.i0_eq_f hc110) ?_
            show Steps p.tables e below (s₁.setTop (mkF m 113 #[.val (.int l0), .val (.int l1), .val (.int l2), .val (.int l3), .val (.int l4), .val (.int k0)] [])) _
            exact b113 l0 l1 l2 l3 l4 k0 hv
        · rw [if_neg hc105] at hv
          refine XS.ifYes X0.here hx rfl (pc0 := 105) (pc' := 113) rfl (hb hby d3_105) rfl (Jvm.Free.XT.i0_ne_t hc105) (by decide) (by decide) ?_
          show Steps p.tables e below (s₁.setTop (mkF m 113 #[.val (.int l0), .val (.int l1), .val (.int l2), .val (.int l3), .val (.int l4), .val (.int k0)] [])) _
          exact b113 l0 l1 l2 l3 l4 k0 hv
      · rw [if_neg hc100] at hv
        refine XS.ifYes X0.here hx rfl (pc0 := 100) (pc' := 113) rfl (hb hby d3_100) rfl (Jvm.Free.XT.i0_ne_t hc100) (by decide) (by decide) ?_
        show Steps p.tables e below (s₁.setTop (mkF m 113 #[.val (.int l0), .val (.int l1), .val (.int l2), .val (.int l3), .val (.int l4), .val (.int k0)] [])) _
        exact b113 l0 l1 l2 l3 l4 k0 hv
    · rw [if_neg hc96] at hv
      refine XS.ifYes X0.here hx rfl (pc0 := 96) (pc' := 113) rfl (hb hby d3_96) rfl (Jvm.Free.XT.i0_ne_t hc96) (by decide) (by decide) ?_
      show Steps p.tables e below (s₁.setTop (mkF m 113 #[.val (.int l0), .val (.int l1), .val (.int l2), .val (.int l3), .val (.int l4), .val (.int k0)] [])) _
      exact b113 l0 l1 l2 l3 l4 k0 hv
  have b77 : ∀ (l0 : Int32) (l1 : Int32) (l2 : Int32) (l3 : Int32) (k0 : Int32), own_g3_77 l0 l1 l2 l3 k0 = v → Steps p.tables e below (s₁.setTop (mkF m 77 #[.val (.int l0), .val (.int l1), .val (.int l2), .val (.int l3), .unset, .unset] [(.int k0)])) (s₁.setFrames fs) := by
    intro l0 l1 l2 l3 k0 hv
    rw [own_g3_77] at hv
    refine XS.istore X0.here hx rfl (hb hby d3_77) rfl (l' := #[.val (.int l0), .val (.int l1), .val (.int l2), .val (.int l3), .val (.int k0), .unset]) rfl ?_
    show Steps p.tables e below (s₁.setTop (mkF m 79 #[.val (.int l0), .val (.int l1), .val (.int l2), .val (.int l3), .val (.int k0), .unset] [])) _
    refine XS.iloadN X0.here hx rfl (hb hby d3_79) rfl ?_
    show Steps p.tables e below (s₁.setTop (mkF m 80 #[.val (.int l0), .val (.int l1), .val (.int l2), .val (.int l3), .val (.int k0), .unset] [(.int l0)])) _
    refine X0.ldcI hx hown (mvT hZ (hw _ (List.mem_of_getElem? (i := 4) rfl))) rfl (hb hby d3_80) ?_
    show Steps p.tables e below (s₁.setTop (mkF m 82 #[.val (.int l0), .val (.int l1), .val (.int l2), .val (.int l3), .val (.int k0), .unset] [(.int (65536 : Int32)), (.int l0)])) _
    refine iremM X0 hx rfl (hb hby d3_82) rfl (by decide) ?_
    show Steps p.tables e below (s₁.setTop (mkF m 83 #[.val (.int l0), .val (.int l1), .val (.int l2), .val (.int l3), .val (.int k0), .unset] [(.int (l0 % (65536 : Int32)))])) _
    refine X0.ldcI hx hown (mvT hZ (hw _ (List.mem_of_getElem? (i := 18) rfl))) rfl (hb hby d3_83) ?_
    show Steps p.tables e below (s₁.setTop (mkF m 85 #[.val (.int l0), .val (.int l1), .val (.int l2), .val (.int l3), .val (.int k0), .unset] [(.int (65534 : Int32)), (.int (l0 % (65536 : Int32)))])) _
    by_cases hc85 : (l0 % (65536 : Int32)) < (65534 : Int32)
    · rw [if_pos hc85] at hv
      refine XS.icmpYes X0.here hx rfl (pc0 := 85) (pc' := 92) rfl (hb hby d3_85) rfl (Jvm.Free.XT.ii_lt_t hc85) (by decide) (by decide) ?_
      show Steps p.tables e below (s₁.setTop (mkF m 92 #[.val (.int l0), .val (.int l1), .val (.int l2), .val (.int l3), .val (.int k0), .unset] [])) _
      refine XS.iconst X0.here hx rfl (hb hby d3_92) ?_
      show Steps p.tables e below (s₁.setTop (mkF m 93 #[.val (.int l0), .val (.int l1), .val (.int l2), .val (.int l3), .val (.int k0), .unset] [(.int (0 : Int32))])) _
      exact b93 l0 l1 l2 l3 k0 (0 : Int32) hv
    · rw [if_neg hc85] at hv
      refine XS.icmpNo X0.here hx rfl (hb hby d3_85) rfl (Jvm.Free.XT.ii_lt_f hc85) ?_
      show Steps p.tables e below (s₁.setTop (mkF m 88 #[.val (.int l0), .val (.int l1), .val (.int l2), .val (.int l3), .val (.int k0), .unset] [])) _
      refine XS.iconst X0.here hx rfl (hb hby d3_88) ?_
      show Steps p.tables e below (s₁.setTop (mkF m 89 #[.val (.int l0), .val (.int l1), .val (.int l2), .val (.int l3), .val (.int k0), .unset] [(.int (1 : Int32))])) _
      refine XS.goto X0.here hx rfl (pc0 := 89) (pc' := 93) rfl (hb hby d3_89) (by decide) (by decide) ?_
      show Steps p.tables e below (s₁.setTop (mkF m 93 #[.val (.int l0), .val (.int l1), .val (.int l2), .val (.int l3), .val (.int k0), .unset] [(.int (1 : Int32))])) _
      exact b93 l0 l1 l2 l3 k0 (1 : Int32) hv
  have b59 : ∀ (l0 : Int32) (l1 : Int32) (l2 : Int32) (k0 : Int32), own_g3_59 l0 l1 l2 k0 = v → Steps p.tables e below (s₁.setTop (mkF m 59 #[.val (.int l0), .val (.int l1), .val (.int l2), .unset, .unset, .unset] [(.int k0)])) (s₁.setFrames fs) := by
    intro l0 l1 l2 k0 hv
    rw [own_g3_59] at hv
    refine XS.istoreN X0.here hx rfl (hb hby d3_59) rfl (l' := #[.val (.int l0), .val (.int l1), .val (.int l2), .val (.int k0), .unset, .unset]) rfl ?_
    show Steps p.tables e below (s₁.setTop (mkF m 60 #[.val (.int l0), .val (.int l1), .val (.int l2), .val (.int k0), .unset, .unset] [])) _
    refine XS.iloadN X0.here hx rfl (hb hby d3_60) rfl ?_
    show Steps p.tables e below (s₁.setTop (mkF m 61 #[.val (.int l0), .val (.int l1), .val (.int l2), .val (.int k0), .unset, .unset] [(.int l0)])) _
    refine X0.ldcI hx hown (mvT hZ (hw _ (List.mem_of_getElem? (i := 16) rfl))) rfl (hb hby d3_61) ?_
    show Steps p.tables e below (s₁.setTop (mkF m 63 #[.val (.int l0), .val (.int l1), .val (.int l2), .val (.int k0), .unset, .unset] [(.int (64976 : Int32)), (.int l0)])) _
    by_cases hc63 : l0 < (64976 : Int32)
    · rw [if_pos hc63] at hv
      refine XS.icmpYes X0.here hx rfl (pc0 := 63) (pc' := 76) rfl (hb hby d3_63) rfl (Jvm.Free.XT.ii_lt_t hc63) (by decide) (by decide) ?_
      show Steps p.tables e below (s₁.setTop (mkF m 76 #[.val (.int l0), .val (.int l1), .val (.int l2), .val (.int k0), .unset, .unset] [])) _
      refine XS.iconst X0.here hx rfl (hb hby d3_76) ?_
      show Steps p.tables e below (s₁.setTop (mkF m 77 #[.val (.int l0), .val (.int l1), .val (.int l2), .val (.int k0), .unset, .unset] [(.int (0 : Int32))])) _
      exact b77 l0 l1 l2 k0 (0 : Int32) hv
    · rw [if_neg hc63] at hv
      refine XS.icmpNo X0.here hx rfl (hb hby d3_63) rfl (Jvm.Free.XT.ii_lt_f hc63) ?_
      show Steps p.tables e below (s₁.setTop (mkF m 66 #[.val (.int l0), .val (.int l1), .val (.int l2), .val (.int k0), .unset, .unset] [])) _
      refine XS.iloadN X0.here hx rfl (hb hby d3_66) rfl ?_
      show Steps p.tables e below (s₁.setTop (mkF m 67 #[.val (.int l0), .val (.int l1), .val (.int l2), .val (.int k0), .unset, .unset] [(.int l0)])) _
      refine X0.ldcI hx hown (mvT hZ (hw _ (List.mem_of_getElem? (i := 17) rfl))) rfl (hb hby d3_67) ?_
      show Steps p.tables e below (s₁.setTop (mkF m 69 #[.val (.int l0), .val (.int l1), .val (.int l2), .val (.int k0), .unset, .unset] [(.int (65008 : Int32)), (.int l0)])) _
      by_cases hc69 : l0 < (65008 : Int32)
      · rw [if_pos hc69] at hv
        refine XS.icmpNo X0.here hx rfl (hb hby d3_69) rfl (Jvm.Free.XT.ii_ge_f hc69) ?_
        show Steps p.tables e below (s₁.setTop (mkF m 72 #[.val (.int l0), .val (.int l1), .val (.int l2), .val (.int k0), .unset, .unset] [])) _
        refine XS.iconst X0.here hx rfl (hb hby d3_72) ?_
        show Steps p.tables e below (s₁.setTop (mkF m 73 #[.val (.int l0), .val (.int l1), .val (.int l2), .val (.int k0), .unset, .unset] [(.int (1 : Int32))])) _
        refine XS.goto X0.here hx rfl (pc0 := 73) (pc' := 77) rfl (hb hby d3_73) (by decide) (by decide) ?_
        show Steps p.tables e below (s₁.setTop (mkF m 77 #[.val (.int l0), .val (.int l1), .val (.int l2), .val (.int k0), .unset, .unset] [(.int (1 : Int32))])) _
        exact b77 l0 l1 l2 k0 (1 : Int32) hv
      · rw [if_neg hc69] at hv
        refine XS.icmpYes X0.here hx rfl (pc0 := 69) (pc' := 76) rfl (hb hby d3_69) rfl (Jvm.Free.XT.ii_ge_t hc69) (by decide) (by decide) ?_
        show Steps p.tables e below (s₁.setTop (mkF m 76 #[.val (.int l0), .val (.int l1), .val (.int l2), .val (.int k0), .unset, .unset] [])) _
        refine XS.iconst X0.here hx rfl (hb hby d3_76) ?_
        show Steps p.tables e below (s₁.setTop (mkF m 77 #[.val (.int l0), .val (.int l1), .val (.int l2), .val (.int k0), .unset, .unset] [(.int (0 : Int32))])) _
        exact b77 l0 l1 l2 k0 (0 : Int32) hv
  have b39 : ∀ (l0 : Int32) (l1 : Int32) (k0 : Int32), own_g3_39 l0 l1 k0 = v → Steps p.tables e below (s₁.setTop (mkF m 39 #[.val (.int l0), .val (.int l1), .unset, .unset, .unset, .unset] [(.int k0)])) (s₁.setFrames fs) := by
    intro l0 l1 k0 hv
    rw [own_g3_39] at hv
    refine XS.istoreN X0.here hx rfl (hb hby d3_39) rfl (l' := #[.val (.int l0), .val (.int l1), .val (.int k0), .unset, .unset, .unset]) rfl ?_
    show Steps p.tables e below (s₁.setTop (mkF m 40 #[.val (.int l0), .val (.int l1), .val (.int k0), .unset, .unset, .unset] [])) _
    refine XS.iloadN X0.here hx rfl (hb hby d3_40) rfl ?_
    show Steps p.tables e below (s₁.setTop (mkF m 41 #[.val (.int l0), .val (.int l1), .val (.int k0), .unset, .unset, .unset] [(.int l0)])) _
    refine XS.sipush X0.here hx rfl (hb hby d3_41) ?_
    show Steps p.tables e below (s₁.setTop (mkF m 44 #[.val (.int l0), .val (.int l1), .val (.int k0), .unset, .unset, .unset] [(.int (128 : Int32)), (.int l0)])) _
    by_cases hc44 : l0 < (128 : Int32)
    · rw [if_pos hc44] at hv
      refine XS.icmpYes X0.here hx rfl (pc0 := 44) (pc' := 58) rfl (hb hby d3_44) rfl (Jvm.Free.XT.ii_lt_t hc44) (by decide) (by decide) ?_
      show Steps p.tables e below (s₁.setTop (mkF m 58 #[.val (.int l0), .val (.int l1), .val (.int k0), .unset, .unset, .unset] [])) _
      refine XS.iconst X0.here hx rfl (hb hby d3_58) ?_
      show Steps p.tables e below (s₁.setTop (mkF m 59 #[.val (.int l0), .val (.int l1), .val (.int k0), .unset, .unset, .unset] [(.int (0 : Int32))])) _
      exact b59 l0 l1 k0 (0 : Int32) hv
    · rw [if_neg hc44] at hv
      refine XS.icmpNo X0.here hx rfl (hb hby d3_44) rfl (Jvm.Free.XT.ii_lt_f hc44) ?_
      show Steps p.tables e below (s₁.setTop (mkF m 47 #[.val (.int l0), .val (.int l1), .val (.int k0), .unset, .unset, .unset] [])) _
      refine XS.iloadN X0.here hx rfl (hb hby d3_47) rfl ?_
      show Steps p.tables e below (s₁.setTop (mkF m 48 #[.val (.int l0), .val (.int l1), .val (.int k0), .unset, .unset, .unset] [(.int l0)])) _
      refine XS.sipush X0.here hx rfl (hb hby d3_48) ?_
      show Steps p.tables e below (s₁.setTop (mkF m 51 #[.val (.int l0), .val (.int l1), .val (.int k0), .unset, .unset, .unset] [(.int (160 : Int32)), (.int l0)])) _
      by_cases hc51 : l0 < (160 : Int32)
      · rw [if_pos hc51] at hv
        refine XS.icmpNo X0.here hx rfl (hb hby d3_51) rfl (Jvm.Free.XT.ii_ge_f hc51) ?_
        show Steps p.tables e below (s₁.setTop (mkF m 54 #[.val (.int l0), .val (.int l1), .val (.int k0), .unset, .unset, .unset] [])) _
        refine XS.iconst X0.here hx rfl (hb hby d3_54) ?_
        show Steps p.tables e below (s₁.setTop (mkF m 55 #[.val (.int l0), .val (.int l1), .val (.int k0), .unset, .unset, .unset] [(.int (1 : Int32))])) _
        refine XS.goto X0.here hx rfl (pc0 := 55) (pc' := 59) rfl (hb hby d3_55) (by decide) (by decide) ?_
        show Steps p.tables e below (s₁.setTop (mkF m 59 #[.val (.int l0), .val (.int l1), .val (.int k0), .unset, .unset, .unset] [(.int (1 : Int32))])) _
        exact b59 l0 l1 k0 (1 : Int32) hv
      · rw [if_neg hc51] at hv
        refine XS.icmpYes X0.here hx rfl (pc0 := 51) (pc' := 58) rfl (hb hby d3_51) rfl (Jvm.Free.XT.ii_ge_t hc51) (by decide) (by decide) ?_
        show Steps p.tables e below (s₁.setTop (mkF m 58 #[.val (.int l0), .val (.int l1), .val (.int k0), .unset, .unset, .unset] [])) _
        refine XS.iconst X0.here hx rfl (hb hby d3_58) ?_
        show Steps p.tables e below (s₁.setTop (mkF m 59 #[.val (.int l0), .val (.int l1), .val (.int k0), .unset, .unset, .unset] [(.int (0 : Int32))])) _
        exact b59 l0 l1 k0 (0 : Int32) hv
  have b23 : ∀ (l0 : Int32) (k0 : Int32), own_g3_23 l0 k0 = v → Steps p.tables e below (s₁.setTop (mkF m 23 #[.val (.int l0), .unset, .unset, .unset, .unset, .unset] [(.int k0)])) (s₁.setFrames fs) := by
    intro l0 k0 hv
    rw [own_g3_23] at hv
    refine XS.istoreN X0.here hx rfl (hb hby d3_23) rfl (l' := #[.val (.int l0), .val (.int k0), .unset, .unset, .unset, .unset]) rfl ?_
    show Steps p.tables e below (s₁.setTop (mkF m 24 #[.val (.int l0), .val (.int k0), .unset, .unset, .unset, .unset] [])) _
    refine XS.iloadN X0.here hx rfl (hb hby d3_24) rfl ?_
    show Steps p.tables e below (s₁.setTop (mkF m 25 #[.val (.int l0), .val (.int k0), .unset, .unset, .unset, .unset] [(.int l0)])) _
    refine XS.bipush X0.here hx rfl (hb hby d3_25) ?_
    show Steps p.tables e below (s₁.setTop (mkF m 27 #[.val (.int l0), .val (.int k0), .unset, .unset, .unset, .unset] [(.int (32 : Int32)), (.int l0)])) _
    by_cases hc27 : l0 < (32 : Int32)
    · rw [if_pos hc27] at hv
      refine XS.icmpNo X0.here hx rfl (hb hby d3_27) rfl (Jvm.Free.XT.ii_ge_f hc27) ?_
      show Steps p.tables e below (s₁.setTop (mkF m 30 #[.val (.int l0), .val (.int k0), .unset, .unset, .unset, .unset] [])) _
      refine XS.iloadN X0.here hx rfl (hb hby d3_30) rfl ?_
      show Steps p.tables e below (s₁.setTop (mkF m 31 #[.val (.int l0), .val (.int k0), .unset, .unset, .unset, .unset] [(.int k0)])) _
      by_cases hc31 : k0 = (0 : Int32)
      · rw [if_pos hc31] at hv
        refine XS.ifNo X0.here hx rfl (hb hby d3_31) rfl (Jvm.Free.XT.i0_ne_f hc31) ?_
        show Steps p.tables e below (s₁.setTop (mkF m 34 #[.val (.int l0), .val (.int k0), .unset, .unset, .unset, .unset] [])) _
        refine XS.iconst X0.here hx rfl (hb hby d3_34) ?_
        show Steps p.tables e below (s₁.setTop (mkF m 35 #[.val (.int l0), .val (.int k0), .unset, .unset, .unset, .unset] [(.int (1 : Int32))])) _
        refine XS.goto X0.here hx rfl (pc0 := 35) (pc' := 39) rfl (hb hby d3_35) (by decide) (by decide) ?_
        show Steps p.tables e below (s₁.setTop (mkF m 39 #[.val (.int l0), .val (.int k0), .unset, .unset, .unset, .unset] [(.int (1 : Int32))])) _
        exact b39 l0 k0 (1 : Int32) hv
      · rw [if_neg hc31] at hv
        refine XS.ifYes X0.here hx rfl (pc0 := 31) (pc' := 38) rfl (hb hby d3_31) rfl (Jvm.Free.XT.i0_ne_t hc31) (by decide) (by decide) ?_
        show Steps p.tables e below (s₁.setTop (mkF m 38 #[.val (.int l0), .val (.int k0), .unset, .unset, .unset, .unset] [])) _
        refine XS.iconst X0.here hx rfl (hb hby d3_38) ?_
        show Steps p.tables e below (s₁.setTop (mkF m 39 #[.val (.int l0), .val (.int k0), .unset, .unset, .unset, .unset] [(.int (0 : Int32))])) _
        exact b39 l0 k0 (0 : Int32) hv
    · rw [if_neg hc27] at hv
      refine XS.icmpYes X0.here hx rfl (pc0 := 27) (pc' := 38) rfl (hb hby d3_27) rfl (Jvm.Free.XT.ii_ge_t hc27) (by decide) (by decide) ?_
      show Steps p.tables e below (s₁.setTop (mkF m 38 #[.val (.int l0), .val (.int k0), .unset, .unset, .unset, .unset] [])) _
      refine XS.iconst X0.here hx rfl (hb hby d3_38) ?_
      show Steps p.tables e below (s₁.setTop (mkF m 39 #[.val (.int l0), .val (.int k0), .unset, .unset, .unset, .unset] [(.int (0 : Int32))])) _
      exact b39 l0 k0 (0 : Int32) hv
  have b0 : ∀ (l0 : Int32), own_g3_0 l0 = v → Steps p.tables e below (s₁.setTop (mkF m 0 #[.val (.int l0), .unset, .unset, .unset, .unset, .unset] [])) (s₁.setFrames fs) := by
    intro l0 hv
    rw [own_g3_0] at hv
    refine XS.iloadN X0.here hx rfl (hb hby d3_0) rfl ?_
    show Steps p.tables e below (s₁.setTop (mkF m 1 #[.val (.int l0), .unset, .unset, .unset, .unset, .unset] [(.int l0)])) _
    refine XS.bipush X0.here hx rfl (hb hby d3_1) ?_
    show Steps p.tables e below (s₁.setTop (mkF m 3 #[.val (.int l0), .unset, .unset, .unset, .unset, .unset] [(.int (9 : Int32)), (.int l0)])) _
    by_cases hc3 : l0 < (9 : Int32)
    · rw [if_pos hc3] at hv
      refine XS.icmpYes X0.here hx rfl (pc0 := 3) (pc' := 22) rfl (hb hby d3_3) rfl (Jvm.Free.XT.ii_lt_t hc3) (by decide) (by decide) ?_
      show Steps p.tables e below (s₁.setTop (mkF m 22 #[.val (.int l0), .unset, .unset, .unset, .unset, .unset] [])) _
      refine XS.iconst X0.here hx rfl (hb hby d3_22) ?_
      show Steps p.tables e below (s₁.setTop (mkF m 23 #[.val (.int l0), .unset, .unset, .unset, .unset, .unset] [(.int (0 : Int32))])) _
      exact b23 l0 (0 : Int32) hv
    · rw [if_neg hc3] at hv
      refine XS.icmpNo X0.here hx rfl (hb hby d3_3) rfl (Jvm.Free.XT.ii_lt_f hc3) ?_
      show Steps p.tables e below (s₁.setTop (mkF m 6 #[.val (.int l0), .unset, .unset, .unset, .unset, .unset] [])) _
      refine XS.iloadN X0.here hx rfl (hb hby d3_6) rfl ?_
      show Steps p.tables e below (s₁.setTop (mkF m 7 #[.val (.int l0), .unset, .unset, .unset, .unset, .unset] [(.int l0)])) _
      refine XS.bipush X0.here hx rfl (hb hby d3_7) ?_
      show Steps p.tables e below (s₁.setTop (mkF m 9 #[.val (.int l0), .unset, .unset, .unset, .unset, .unset] [(.int (13 : Int32)), (.int l0)])) _
      by_cases hc9 : (13 : Int32) < l0
      · rw [if_pos hc9] at hv
        refine XS.icmpYes X0.here hx rfl (pc0 := 9) (pc' := 22) rfl (hb hby d3_9) rfl (Jvm.Free.XT.ii_gt_t hc9) (by decide) (by decide) ?_
        show Steps p.tables e below (s₁.setTop (mkF m 22 #[.val (.int l0), .unset, .unset, .unset, .unset, .unset] [])) _
        refine XS.iconst X0.here hx rfl (hb hby d3_22) ?_
        show Steps p.tables e below (s₁.setTop (mkF m 23 #[.val (.int l0), .unset, .unset, .unset, .unset, .unset] [(.int (0 : Int32))])) _
        exact b23 l0 (0 : Int32) hv
      · rw [if_neg hc9] at hv
        refine XS.icmpNo X0.here hx rfl (hb hby d3_9) rfl (Jvm.Free.XT.ii_gt_f hc9) ?_
        show Steps p.tables e below (s₁.setTop (mkF m 12 #[.val (.int l0), .unset, .unset, .unset, .unset, .unset] [])) _
        refine XS.iloadN X0.here hx rfl (hb hby d3_12) rfl ?_
        show Steps p.tables e below (s₁.setTop (mkF m 13 #[.val (.int l0), .unset, .unset, .unset, .unset, .unset] [(.int l0)])) _
        refine XS.bipush X0.here hx rfl (hb hby d3_13) ?_
        show Steps p.tables e below (s₁.setTop (mkF m 15 #[.val (.int l0), .unset, .unset, .unset, .unset, .unset] [(.int (11 : Int32)), (.int l0)])) _
        by_cases hc15 : l0 = (11 : Int32)
        · rw [if_pos hc15] at hv
          refine XS.icmpYes X0.here hx rfl (pc0 := 15) (pc' := 22) rfl (hb hby d3_15) rfl (Jvm.Free.XT.ii_eq_t hc15) (by decide) (by decide) ?_
          show Steps p.tables e below (s₁.setTop (mkF m 22 #[.val (.int l0), .unset, .unset, .unset, .unset, .unset] [])) _
          refine XS.iconst X0.here hx rfl (hb hby d3_22) ?_
          show Steps p.tables e below (s₁.setTop (mkF m 23 #[.val (.int l0), .unset, .unset, .unset, .unset, .unset] [(.int (0 : Int32))])) _
          exact b23 l0 (0 : Int32) hv
        · rw [if_neg hc15] at hv
          refine XS.icmpNo X0.here hx rfl (hb hby d3_15) rfl (Jvm.Free.XT.ii_eq_f hc15) ?_
          show Steps p.tables e below (s₁.setTop (mkF m 18 #[.val (.int l0), .unset, .unset, .unset, .unset, .unset] [])) _
          refine XS.iconst X0.here hx rfl (hb hby d3_18) ?_
          show Steps p.tables e below (s₁.setTop (mkF m 19 #[.val (.int l0), .unset, .unset, .unset, .unset, .unset] [(.int (1 : Int32))])) _
          refine XS.goto X0.here hx rfl (pc0 := 19) (pc' := 23) rfl (hb hby d3_19) (by decide) (by decide) ?_
          show Steps p.tables e below (s₁.setTop (mkF m 23 #[.val (.int l0), .unset, .unset, .unset, .unset, .unset] [(.int (1 : Int32))])) _
          exact b23 l0 (1 : Int32) hv
  refine ⟨_, _, pre0 _ (b0 p1 hv0.symm), hrun, hended, _, _, rfl, ?_, ⟨_, rfl⟩, hW, hsame.mono (by decide) (by decide)⟩
  show Q3 Z p1 h0 n0 _ s₁.heap _
  rw [e0]
  exact ⟨by rw [hv0], N0, rfl⟩
theorem own_top (z : Int32) : (z &&& (65534 : Int32)) = (65534 : Int32) ↔ 65534 ≤ z.toInt % 65536 := by
  have h1 : (z &&& (65534 : Int32)).toBitVec.toNat = z.toBitVec.toNat &&& 65534 := by
    show (z.toBitVec &&& (65534 : Int32).toBitVec).toNat = _
    rw [BitVec.toNat_and]; rfl
  have h2 := z.toBitVec.isLt
  have h3 : z.toInt = z.toBitVec.toInt := rfl
  have h4 := BitVec.toInt_eq_toNat_cond z.toBitVec
  have h5 : (z.toBitVec.toNat &&& 65534) / 2 = (z.toBitVec.toNat / 2) % 32768 := by
    rw [Nat.and_div_two]; exact Nat.and_two_pow_sub_one_eq_mod _ 15
  have h6 : (z.toBitVec.toNat &&& 65534) % 2 = 0 := by
    have := Nat.and_mod_two_pow (a := z.toBitVec.toNat) (b := 65534) (n := 1)
    simpa using this
  have h7 : (z &&& (65534 : Int32)) = (65534 : Int32) ↔ (z &&& (65534 : Int32)).toBitVec.toNat = 65534 := by
    rw [← Int32.toBitVec_inj, ← BitVec.toNat_inj]; rfl
  rw [h7, h1, h3, h4]
  generalize z.toBitVec.toNat &&& 65534 = k at *
  generalize z.toBitVec.toNat = n at *
  split <;> omega
theorem own_pick_nonneg (x s : Int32) : 0 ≤ (own_g1_0 x s).toInt := by
  have m63 : (x &&& (63 : Int32)).toInt = x.toInt % 64 := c_mask x 63 6 (by decide) (by decide)
  have m15 : (x &&& (15 : Int32)).toInt = x.toInt % 16 := c_mask x 15 4 (by decide) (by decide)
  have mm : (x &&& (2147483647 : Int32)).toInt = x.toInt % 2147483648 := c_mask x 2147483647 31 (by decide) (by decide)
  have hu : (Jvm.Free.XT.ushr x (4 : Int32)).toInt = (x.toInt % 4294967296) / 16 := c_iushr x 4 4 (by decide) (by decide)
  unfold own_g1_0
  split
  · omega
  split
  · have := c_iadd 112 (x &&& (63 : Int32)); have := rng32 ((112 : Int32) + (x &&& (63 : Int32))); have e : (112 : Int32).toInt = 112 := rfl; omega
  split
  · have := c_iadd 64960 (x &&& (63 : Int32)); have := rng32 ((64960 : Int32) + (x &&& (63 : Int32))); have e : (64960 : Int32).toInt = 64960 := rfl; omega
  split
  · generalize Jvm.Free.XT.ushr x (4 : Int32) = u at *
    have hr := (c_irem u 17 17 rfl).1 (by omega)
    generalize u % (17 : Int32) = r at *
    have hm := c_imul r 65536
    rw [show (65536 : Int32).toInt = 65536 from rfl] at hm
    have hm2 := rng32 (r * 65536)
    generalize r * (65536 : Int32) = q at *
    have ha := c_iadd q 65520
    have e : (65520 : Int32).toInt = 65520 := rfl
    have ha2 := rng32 (q + 65520)
    generalize q + (65520 : Int32) = w at *
    have hb := c_iadd w (x &&& (15 : Int32))
    have hb2 := rng32 (w + (x &&& (15 : Int32)))
    omega
  · have hr := (c_irem (x &&& (2147483647 : Int32)) 1114112 1114112 rfl).1 (by omega)
    omega
theorem own_s93 (l0 l1 l2 l3 l4 k0 : Int32) : own_g3_93 l0 l1 l2 l3 l4 k0 = if l2 = 0 ∧ l3 = 0 ∧ l4 = 0 ∧ k0 = 0 then 0 else 1 := by
  simp only [own_g3_93, own_g3_113, own_g3_117]
  by_cases a : l2 = 0 <;> by_cases b : l3 = 0 <;> by_cases c : l4 = 0 <;> by_cases d : k0 = 0 <;> simp [a, b, c, d]
theorem own_s77 (l0 l1 l2 l3 k0 : Int32) : own_g3_77 l0 l1 l2 l3 k0 = if l2 = 0 ∧ l3 = 0 ∧ k0 = 0 ∧ l0 % (65536 : Int32) < (65534 : Int32) then 0 else 1 := by
  simp only [own_g3_77, own_s93]
  by_cases a : l0 % (65536 : Int32) < (65534 : Int32) <;> simp [a]
theorem own_s59 (l0 l1 l2 k0 : Int32) : own_g3_59 l0 l1 l2 k0 = if l2 = 0 ∧ k0 = 0 ∧ (l0 < (64976 : Int32) ∨ ¬ l0 < (65008 : Int32)) ∧ l0 % (65536 : Int32) < (65534 : Int32) then 0 else 1 := by
  simp only [own_g3_59, own_s77]
  by_cases a : l0 < (64976 : Int32) <;> by_cases b : l0 < (65008 : Int32) <;> simp [a, b]
theorem own_s39 (l0 l1 k0 : Int32) : own_g3_39 l0 l1 k0 = if k0 = 0 ∧ (l0 < (128 : Int32) ∨ ¬ l0 < (160 : Int32)) ∧ (l0 < (64976 : Int32) ∨ ¬ l0 < (65008 : Int32)) ∧ l0 % (65536 : Int32) < (65534 : Int32) then 0 else 1 := by
  simp only [own_g3_39, own_s59]
  by_cases a : l0 < (128 : Int32) <;> by_cases b : l0 < (160 : Int32) <;> simp [a, b]
theorem own_s23 (l0 k0 : Int32) : own_g3_23 l0 k0 = if (¬ l0 < (32 : Int32) ∨ ¬ k0 = 0) ∧ (l0 < (128 : Int32) ∨ ¬ l0 < (160 : Int32)) ∧ (l0 < (64976 : Int32) ∨ ¬ l0 < (65008 : Int32)) ∧ l0 % (65536 : Int32) < (65534 : Int32) then 0 else 1 := by
  simp only [own_g3_23, own_s39]
  by_cases a : l0 < (32 : Int32) <;> by_cases b : k0 = 0 <;> simp [a, b]
theorem own_s0 (l0 : Int32) : own_g3_0 l0 = if (¬ l0 < (32 : Int32) ∨ (¬ l0 < (9 : Int32) ∧ ¬ (13 : Int32) < l0 ∧ ¬ l0 = (11 : Int32))) ∧ (l0 < (128 : Int32) ∨ ¬ l0 < (160 : Int32)) ∧ (l0 < (64976 : Int32) ∨ ¬ l0 < (65008 : Int32)) ∧ l0 % (65536 : Int32) < (65534 : Int32) then 0 else 1 := by
  simp only [own_g3_0, own_s23]
  by_cases a : l0 < (9 : Int32) <;> by_cases b : (13 : Int32) < l0 <;> by_cases c : l0 = (11 : Int32) <;> simp [a, b, c]
theorem own_eq9 (c : Int32) : (c = (9 : Int32)) = (c.toInt = 9) := propext (by rw [← Int32.toInt_inj]; exact Iff.rfl)
theorem own_eq10 (c : Int32) : (c = (10 : Int32)) = (c.toInt = 10) := propext (by rw [← Int32.toInt_inj]; exact Iff.rfl)
theorem own_eq12 (c : Int32) : (c = (12 : Int32)) = (c.toInt = 12) := propext (by rw [← Int32.toInt_inj]; exact Iff.rfl)
theorem own_eq13 (c : Int32) : (c = (13 : Int32)) = (c.toInt = 13) := propext (by rw [← Int32.toInt_inj]; exact Iff.rfl)
theorem own_eq11 (c : Int32) : (c = (11 : Int32)) = (c.toInt = 11) := propext (by rw [← Int32.toInt_inj]; exact Iff.rfl)
theorem own_lt9 (c : Int32) : (c < (9 : Int32)) = (c.toInt < 9) := propext (by rw [Int32.lt_iff_toInt_lt]; exact Iff.rfl)
theorem own_lt32 (c : Int32) : (c < (32 : Int32)) = (c.toInt < 32) := propext (by rw [Int32.lt_iff_toInt_lt]; exact Iff.rfl)
theorem own_lt128 (c : Int32) : (c < (128 : Int32)) = (c.toInt < 128) := propext (by rw [Int32.lt_iff_toInt_lt]; exact Iff.rfl)
theorem own_lt160 (c : Int32) : (c < (160 : Int32)) = (c.toInt < 160) := propext (by rw [Int32.lt_iff_toInt_lt]; exact Iff.rfl)
theorem own_lt64976 (c : Int32) : (c < (64976 : Int32)) = (c.toInt < 64976) := propext (by rw [Int32.lt_iff_toInt_lt]; exact Iff.rfl)
theorem own_lt65008 (c : Int32) : (c < (65008 : Int32)) = (c.toInt < 65008) := propext (by rw [Int32.lt_iff_toInt_lt]; exact Iff.rfl)
theorem own_gt13 (c : Int32) : ((13 : Int32) < c) = (13 < c.toInt) := propext (by rw [Int32.lt_iff_toInt_lt]; exact Iff.rfl)
theorem own_gt159 (c : Int32) : ((159 : Int32) < c) = (159 < c.toInt) := propext (by rw [Int32.lt_iff_toInt_lt]; exact Iff.rfl)
theorem own_gt65007 (c : Int32) : ((65007 : Int32) < c) = (65007 < c.toInt) := propext (by rw [Int32.lt_iff_toInt_lt]; exact Iff.rfl)
theorem own_plane (z : Int32) (hz : 0 ≤ z.toInt) : (z % (65536 : Int32) < (65534 : Int32)) = (z.toInt % 65536 < 65534) := propext (by
  have hr := (c_irem z 65536 65536 rfl).1 hz
  rw [Int32.lt_iff_toInt_lt, hr]; exact Iff.rfl)
theorem own_same (z : Int32) (hz : 0 ≤ z.toInt) : own_g2_0 z = own_g3_0 z := by
  rw [own_s0]
  have ht : ((z &&& (65534 : Int32)) = (65534 : Int32)) = (65534 ≤ z.toInt % 65536) := propext (own_top z)
  simp only [own_g2_0, own_g2_34, own_g2_36, own_g2_52, own_g2_64, own_g2_73, own_g2_77, ht, own_plane z hz, own_eq9, own_eq10, own_eq12, own_eq13, own_eq11, own_lt9, own_lt32, own_lt128, own_lt160, own_lt64976, own_lt65008, own_gt13, own_gt159, own_gt65007]
  generalize z.toInt = t at *
  split
  · split
    · rw [if_pos (by omega)]
    split
    · rw [if_pos (by omega)]
    split
    · rw [if_pos (by omega)]
    split
    · rw [if_pos (by omega)]
    · rw [if_neg (by omega)]
  have t64 : (128 ≤ t → 159 < t) → (64976 ≤ t → 65007 < t) → (if 65534 ≤ t % 65536 then (1 : Int32) else 0) = if (¬ t < 32 ∨ (¬ t < 9 ∧ ¬ 13 < t ∧ ¬ t = 11)) ∧ (t < 128 ∨ ¬ t < 160) ∧ (t < 64976 ∨ ¬ t < 65008) ∧ t % 65536 < 65534 then 0 else 1 := by
    intro q1 q2
    split
    · rw [if_neg (by omega)]
    · rw [if_pos (by omega)]
  have t52 : (128 ≤ t → 159 < t) → (if t < 64976 then (if 65534 ≤ t % 65536 then (1 : Int32) else 0) else if 65007 < t then (if 65534 ≤ t % 65536 then (1 : Int32) else 0) else 1) = if (¬ t < 32 ∨ (¬ t < 9 ∧ ¬ 13 < t ∧ ¬ t = 11)) ∧ (t < 128 ∨ ¬ t < 160) ∧ (t < 64976 ∨ ¬ t < 65008) ∧ t % 65536 < 65534 then 0 else 1 := by
    intro q1
    split
    · exact t64 q1 (by omega)
    split
    · exact t64 q1 (by omega)
    · rw [if_neg (by omega)]
  split
  · exact t52 (by omega)
  split
  · exact t52 (by omega)
  · rw [if_neg (by omega)]
theorem pn_0 : plainName x.cls = true := by first | (simp [plainName, overriddenIn]; done) | decide +kernel
theorem pd_0_0 : parseMethodDescriptor "(II)I" = some ⟨[.int, .int], some .int⟩ := by decide +kernel
theorem pd_0_1 : parseMethodDescriptor "(I)Z" = some ⟨[.int], some .boolean⟩ := by decide +kernel
theorem ef_0 (m : MethodId) (x0 : Int32) (x1 : Int32) : entryFrame m #[(.int x0), (.int x1)] maxLocals = mkF m 0 #[.val (.int x0), .val (.int x1), .unset] [] := by first | (simp [entryFrame, mkF, argsToLocals, Value.category, maxLocals]; done) | rfl
def Q0 (Z : State) (p1 : Int32) (p2 : Int32) (h0 : Heap) (n0 : Nat) (v : Option Value) (h : Heap) (L : List Loc) : Prop := v = some (.int (1 : Int32)) ∧ Fr n0 L
set_option maxRecDepth 65536 in
set_option maxHeartbeats 40000000 in
theorem rm0 (l : Launch) (Z : State) (a0 : Array Value) (hw : ∀ d ∈ tables_1, d.before a0 Z = true) (ws : List Jvm.Cond) (p1 : Int32) (p2 : Int32) (h0 : Heap) (n0 : Nat) (Z0 : n0 ≤ h0.size) :
    MetFree l x (head1 (Jvm.Cond.code x code maxLocals ret :: ws) room_1) (fun a U => a = #[(.int p1), (.int p2)] ∧ Z.Warmed39 U.vm ∧ U.heap = h0) (fun _ _ _ _ _ => True) (fun _ U o U' => ∃ v L, o = .returned v ∧ Q0 Z p1 p2 h0 n0 v U'.heap L ∧ FrameEnd U o U' L room_1.cells room_1.slots) := by
  refine MetFree.of_bodySF (plainFor_of_name pn_0) hisR ?_
  intro p e s m args below meth c s₁ Bd hml0 hP hK
  obtain ⟨rfl, hZ, hh⟩ := hP
  have hx := Bd.exec
  have hby := Bd.bytes
  have hml : c.maxLocals = 3 := hml0
  have hown : s.vm.findClass x.cls = some m.cls := findClass_of_methodNamed Bd.named
  have hnm := (name_of_methodNamed Bd.named Bd.method).1
  have X0 : Stand p l e room_1 s m #[(.int p1), (.int p2)] below meth c s₁ [] 0 0 := Stand.of_body Bd
  have e0 : s₁.heap = h0 := by rw [← hh, Bd.state]; rfl
  have N0 := Fr.nil n0
  have pre0 : ∀ t, Steps p.tables e below (s₁.setTop (mkF m 0 #[.val (.int p1), .val (.int p2), .unset] [])) t → Steps p.tables e below (s₁.setTop (entryFrame m #[(.int p1), (.int p2)] maxLocals)) t := fun t k => castTop (ef_0 m p1 p2) k
  obtain ⟨_, _, ⟨T3, L3, k3, n3⟩, -, X3, ⟨Lc3, hQ3, l3, y3, z3⟩, st3⟩ := Jvm.LawKit.callS X0 hx (y := (⟨x.cls, "pick", "(II)I"⟩ : MethodName)) hown (mvT hZ (hw _ (List.mem_of_getElem? (i := 0) rfl))) (mvT hZ (hw _ (List.mem_of_getElem? (i := 1) rfl))) (mvT hZ (hw _ (List.mem_of_getElem? (i := 2) rfl))) (mvT hZ (hw _ (List.mem_of_getElem? (i := 3) rfl))) (by decide) (backOf (W := 0) (rm1 l Z a0 hw [] p1 p2 h0 n0 Z0) hZ (hw _ (List.mem_of_getElem? (i := 3) rfl)) (hw _ (List.mem_of_getElem? (i := 2) rfl)) (by decide) (by decide)) (g := (mkF m 2 #[.val (.int p1), .val (.int p2), .unset] [(.int p2), (.int p1)])) rfl (by rw [hml]; rfl) (argsL := [(.int p1), (.int p2)]) (rest := []) (lenOf pd_0_0 rfl) rfl (by show 2 * 0 + _ ≤ _; exact Nat.le_of_eq rfl) (hb hby at_2) (fun _ _ => ⟨rfl, e0, (by decide : 0 + 0 ≤ _), (by decide : 0 + 0 ≤ _)⟩)
  dsimp only [Pt.U, Pt.locs, Pt.cells, Pt.slots] at X3 l3 y3 z3 st3 hQ3
  subst l3 y3 z3
  obtain ⟨rfl, N3q, eq3⟩ := hQ3
  obtain ⟨B, hBe⟩ : ∃ z, z = own_g1_0 p1 p2 := ⟨_, rfl⟩
  rw [← hBe] at st3
  have hB : 0 ≤ B.toInt := by rw [hBe]; exact own_pick_nonneg p1 p2
  have Z3 : n0 ≤ T3.heap.size := by rw [eq3]; exact Z0
  have N3 := Fr.app N0 N3q
  obtain ⟨_, _, ⟨T4, L4, k4, n4⟩, -, X4, ⟨Lc4, hQ4, l4, y4, z4⟩, st4⟩ := Jvm.LawKit.callS X3 hx (y := (⟨site_7.cls, "isDisallowed", "(I)Z"⟩ : MethodName)) hown (mvT hZ (hw _ (List.mem_of_getElem? (i := 6) rfl))) (mvT hZ (hw _ (List.mem_of_getElem? (i := 7) rfl))) (mvT hZ (hw _ (List.mem_of_getElem? (i := 8) rfl))) (mvT hZ (hw _ (List.mem_of_getElem? (i := 9) rfl))) (by decide) (backOf (W := 0) (rm2 l Z a0 hw [] B T3.heap n0 Z3) hZ (hw _ (List.mem_of_getElem? (i := 9) rfl)) (hw _ (List.mem_of_getElem? (i := 8) rfl)) (by decide) (by decide)) (g := (mkF m 7 #[.val (.int p1), .val (.int p2), .val (.int B)] [(.int B)])) rfl (by rw [hml]; rfl) (argsL := [(.int B)]) (rest := []) (lenOf pd_0_1 rfl) rfl (by show 2 * 0 + _ ≤ _; exact Nat.le_of_eq rfl) (hb hby at_7) (fun _ _ => ⟨rfl, rfl, (by decide : 0 + 0 ≤ _), (by decide : 0 + 0 ≤ _)⟩)
  dsimp only [Pt.U, Pt.locs, Pt.cells, Pt.slots] at X4 l4 y4 z4 st4 hQ4
  subst l4 y4 z4
  obtain ⟨rfl, N4q, eq4⟩ := hQ4
  have Z4 : n0 ≤ T4.heap.size := by rw [eq4]; exact Z3
  have N4 := Fr.app N3 N4q
  obtain ⟨_, _, ⟨T5, L5, k5, n5⟩, -, X5, ⟨Lc5, hQ5, l5, y5, z5⟩, st5⟩ := Jvm.LawKit.callS X4 hx (y := (⟨x.cls, "expected", "(I)Z"⟩ : MethodName)) hown (mvT hZ (hw _ (List.mem_of_getElem? (i := 13) rfl))) (mvT hZ (hw _ (List.mem_of_getElem? (i := 14) rfl))) (mvT hZ (hw _ (List.mem_of_getElem? (i := 2) rfl))) (mvT hZ (hw _ (List.mem_of_getElem? (i := 15) rfl))) (by decide) (backOf (W := 1) (rm3 l Z a0 hw [] B T4.heap n0 Z4) hZ (hw _ (List.mem_of_getElem? (i := 15) rfl)) (hw _ (List.mem_of_getElem? (i := 2) rfl)) (by decide) (by decide)) (g := (mkF m 11 #[.val (.int p1), .val (.int p2), .val (.int B)] [(.int B), (.int (own_g2_0 B))])) rfl (by rw [hml]; rfl) (argsL := [(.int B)]) (rest := [(.int (own_g2_0 B))]) (lenOf pd_0_1 rfl) rfl (by show 2 * 0 + _ ≤ _; exact Nat.le_of_eq rfl) (hb hby at_11) (fun _ _ => ⟨rfl, rfl, (by decide : 0 + 0 ≤ _), (by decide : 0 + 0 ≤ _)⟩)
  dsimp only [Pt.U, Pt.locs, Pt.cells, Pt.slots] at X5 l5 y5 z5 st5 hQ5
  subst l5 y5 z5
  obtain ⟨rfl, N5q, eq5⟩ := hQ5
  have Z5 : n0 ≤ T5.heap.size := by rw [eq5]; exact Z4
  have N5 := Fr.app N4 N5q
  obtain ⟨fs, hr, hrun, hended, hW, hsame⟩ := X5.leave (v := some (.int (1 : Int32))) (fun h => by rw [Bd.returns] at h; cases h)
  refine ⟨_, _, pre0 _ ?_, hrun, hended, _, _, rfl, ?_, ⟨_, rfl⟩, hW, hsame.mono (by decide) (by decide)⟩
  · show Steps p.tables e below (s₁.setTop (mkF m 0 #[.val (.int p1), .val (.int p2), .unset] [])) _
    refine XS.iloadN X0.here hx rfl (hb hby at_0) rfl ?_
    show Steps p.tables e below (s₁.setTop (mkF m 1 #[.val (.int p1), .val (.int p2), .unset] [(.int p1)])) _
    refine XS.iloadN X0.here hx rfl (hb hby at_1) rfl ?_
    show Steps p.tables e below (s₁.setTop (mkF m 2 #[.val (.int p1), .val (.int p2), .unset] [(.int p2), (.int p1)])) _
    refine st3 _ ?_
    show Steps p.tables e below (T3.setTop (mkF m 5 #[.val (.int p1), .val (.int p2), .unset] [(.int B)])) _
    refine XS.istoreN X3.here hx rfl (hb hby at_5) rfl (l' := #[.val (.int p1), .val (.int p2), .val (.int B)]) rfl ?_
    show Steps p.tables e below (T3.setTop (mkF m 6 #[.val (.int p1), .val (.int p2), .val (.int B)] [])) _
    refine XS.iloadN X3.here hx rfl (hb hby at_6) rfl ?_
    show Steps p.tables e below (T3.setTop (mkF m 7 #[.val (.int p1), .val (.int p2), .val (.int B)] [(.int B)])) _
    refine st4 _ ?_
    show Steps p.tables e below (T4.setTop (mkF m 10 #[.val (.int p1), .val (.int p2), .val (.int B)] [(.int (own_g2_0 B))])) _
    refine XS.iloadN X4.here hx rfl (hb hby at_10) rfl ?_
    show Steps p.tables e below (T4.setTop (mkF m 11 #[.val (.int p1), .val (.int p2), .val (.int B)] [(.int B), (.int (own_g2_0 B))])) _
    refine st5 _ ?_
    show Steps p.tables e below (T5.setTop (mkF m 14 #[.val (.int p1), .val (.int p2), .val (.int B)] [(.int (own_g3_0 B)), (.int (own_g2_0 B))])) _
    refine XS.icmpNo X5.here hx rfl (hb hby at_14) rfl (teq (own_same B hB : (own_g2_0 B) = (own_g3_0 B))).2 ?_
    show Steps p.tables e below (T5.setTop (mkF m 17 #[.val (.int p1), .val (.int p2), .val (.int B)] [])) _
    refine XS.iconst X5.here hx rfl (hb hby at_17) ?_
    show Steps p.tables e below (T5.setTop (mkF m 18 #[.val (.int p1), .val (.int p2), .val (.int B)] [(.int (1 : Int32))])) _
    refine XS.goto X5.here hx rfl (pc0 := 18) (pc' := 22) rfl (hb hby at_18) (by decide) (by decide) ?_
    show Steps p.tables e below (T5.setTop (mkF m 22 #[.val (.int p1), .val (.int p2), .val (.int B)] [(.int (1 : Int32))])) _
    exact retN X5 hx (t := .boolean) Bd.returns (by simp) (hb hby at_22) hr
  · show Q0 Z p1 p2 h0 n0 _ T5.heap _
    exact ⟨rfl, N5⟩
set_option maxRecDepth 65536 in
set_option maxHeartbeats 40000000 in
theorem comes_1 {Post : Tables → Env → Array Value → State → Outcome → State → Prop} (hpost : ∀ tb e args s v u, (limb_1_1.after args s (.returned v) u = true ∧ limb_1_2.after args s (.returned v) u = true ∧ True) → FrameEnd s (.returned v) u (Jvm.fieldLocs frame_1_writes args s ++ Jvm.arrayLocs frame_1_arrays args s ++ Jvm.staticLocs frame_1_statics s) 0 0 → Post tb e args s (.returned v) u) :
    ArmFor flags0 classFile x code maxLocals ret World_1 tables_1 room_1 Calls_1 rest_1 Pre_1 Post := by
  intro l hfl _ _ p e ha hc hk s m args below hf hA hF happ hP
  obtain ⟨hcalls, hrest, hpre⟩ := hP
  obtain ⟨-, -, -, hnamed, -, -, -, hat⟩ := (Spec.applies_iff hf).mp happ
  obtain ⟨hg, hn⟩ := and_e (Cond.before_iff.mp (show (Jvm.Cond.and given_1 narrow_1).before args s = true from hpre))
  obtain ⟨g6, g7⟩ := and_e hg
  obtain ⟨g8, g9⟩ := and_e g7
  obtain ⟨w0, w1, rfl⟩ : ∃ w0 w1 : Value, args = #[w0, w1] := by
    have hs : args.size = 2 := by simpa [Cond.value, given_1] using g6
    obtain ⟨L⟩ := args
    match L, hs with
    | [w0, w1], _ => exact ⟨w0, w1, rfl⟩
  have hw := fun d (hd : d ∈ tables_1) => atoms_spec (ws := Jvm.Cond.code x code maxLocals ret :: tables_1) hat d (List.mem_cons_of_mem _ hd)
  have hfit : Fit s := fun {y c} hc i hi => by
    obtain ⟨ha, rfl⟩ := Array.getElem?_eq_some_iff.mp hc
    have q := List.all_eq_true.mp ((Array.all_eq_true_iff_forall_mem.mp hF) _ (Array.getElem_mem ha)) i (List.mem_range.mpr hi)
    simpa [Array.getElem?_eq_getElem hi] using q
  obtain ⟨i0, ei0⟩ := is_v g8
  obtain rfl : w0 = (.int i0) := Option.some.inj ei0
  obtain ⟨i1, ei1⟩ := is_v g9
  obtain rfl : w1 = (.int i1) := Option.some.inj ei1
  obtain ⟨n, o, h1, h2, h3, _, L, rfl, ⟨rfl, N⟩, hq⟩ := rm0 l s _ hw tables_1 i0 i1 s.heap s.heap.size (Nat.le_refl _) p e ha hc hk s m _ below hf ((Spec.applies_iff_loose hf).mp happ).1 ⟨rfl, State.Warmed39.refl s, rfl⟩ trivial
  refine ⟨n, _, h1, h2, h3, hpost _ _ _ _ _ _ ⟨Cond.after_iff.mpr rfl, Cond.after_iff.mpr (eq_i res_at (Term.int_eval (1)) rfl), trivial⟩ ⟨hq.1, hq.2.1, (hq.2.2.sift fun y hy => Or.inr (N y hy)).mono (by decide) (by decide)⟩⟩
theorem main_1_1 : Claimed_1_1 := comes_1 fun _ _ _ _ _ _ h hF => ⟨h.1, hF⟩
theorem main_1_2 : Claimed_1_2 := comes_1 fun _ _ _ _ _ _ h hF => ⟨h.2.1, hF⟩
end Jvm.Pilot.@@N@@
namespace Jvm.Pilot.@@N@@
open Jvm Jvm.ClassFile Sem Op Lib Jvm.Free Jvm.Stand Jvm.Pilot.@@N@@.Jvm.D
/-! MADE BY PROGRAM (witnessworld.py) out of the Statement's table words and the real class files: 9 classes; the members and pool entries that the words name. The judged class is class 1, her method 3. -/
namespace start1
open Jvm.ClassFile
def u (s : String) : CpInfo := .utf8 (stringToUtf16 s)
/-- a pool by its gaps: so many unusable entries, then the entry; so many at the end -/
def gap : Nat → List CpInfo → List CpInfo
  | 0, r => r
  | n + 1, r => .unusable :: gap n r
def poolList (es : List (Nat × CpInfo)) (last : Nat) : List CpInfo := es.foldr (fun e r => gap e.1 (e.2 :: r)) (gap last [])
def pool (es : List (Nat × CpInfo)) (last : Nat) : Array CpInfo := ⟨poolList es last⟩
def fileOf (pool : Array CpInfo) (this : Nat) (attrs : Array Attribute := #[]) (ms : Array MethodInfo := #[]) (fl : Nat := 33) (sup : Nat := 0) (ifs : Array Nat := #[]) (fds : Array FieldInfo := #[]) : ClassFile where
  minorVersion := 0
  majorVersion := 65
  constantPool := pool
  accessFlags := fl
  thisClass := this
  superClass := sup
  interfaces := ifs
  fields := fds
  methods := ms
  attributes := attrs
def plain (name : String) (sup : Option ClassId) : Class where
  name := name
  kind := .ordinary
  loader := none
  accessFlags := 33
  super := sup
  interfaces := #[]
  cf := none
  fields := #[]
  methods := #[]
  instanceTypes := #[]
  staticTypes := #[]
  resolved := #[]
  callSites := []
  init := .initialized
  statics := none
  mirror := none

def pool0 : Array CpInfo := pool [(5, u "<init>"), (0, u "()V"), (1, .class_ 10), (1, u "java/lang/Object")] 113

def k0m0 : Method := { name := "<init>", desc := "()V", sig := { parameters := [], returnType := none }, accessFlags := 1, code := none }
/-- java/lang/Object -/
def k0 : Class := { plain "java/lang/Object" none with
  accessFlags := 33
  interfaces := #[]
  cf := some (fileOf pool0 8 #[] #[{ accessFlags := 1, nameIndex := 5, descriptorIndex := 6, attributes := #[] }] 33 0 #[] #[])
  fields := #[]
  methods := #[k0m0]
  instanceTypes := #[]
  staticTypes := #[]
  resolved := Array.replicate 124 none
  statics := none }

def pool1 : Array CpInfo := pool [(2, .class_ 4), (1, u "java/lang/Object"), (0, u "<init>"), (0, u "()V"), (0, .integer 64960), (0, .integer 65536), (0, .integer 65520), (0, .integer 2147483647), (0, .integer 1114112), (0, .integer 64976), (0, .integer 65008), (0, .integer 65534), (0, .methodref 16 17), (0, .class_ 18), (0, .nameAndType 19 20), (0, u x.cls), (0, u "pick"), (0, u "(II)I"), (0, .methodref 22 23), (0, .class_ 24), (0, .nameAndType 25 26), (0, u site_7.cls), (0, u "isDisallowed"), (0, u "(I)Z"), (0, .methodref 16 28), (0, .nameAndType 29 26), (0, u "expected"), (3, u "law"), (0, u "(II)Z")] 2

def k1m0 : Method := { name := "<init>", desc := "()V", sig := { parameters := [], returnType := none }, accessFlags := 1, code := none }
def k1c1 : Code := { maxStack := 3, maxLocals := 4, code := method_2_code, exceptionTable := #[], attributes := #[] }
def k1m1 : Method := { name := "pick", desc := "(II)I", sig := { parameters := [.int, .int], returnType := some .int }, accessFlags := 10, code := some k1c1 }
def k1c2 : Code := { maxStack := 2, maxLocals := 6, code := method_3_code, exceptionTable := #[], attributes := #[] }
def k1m2 : Method := { name := "expected", desc := "(I)Z", sig := { parameters := [.int], returnType := some .boolean }, accessFlags := 10, code := some k1c2 }
def k1c3 : Code := { maxStack := 2, maxLocals := 3, code := code, exceptionTable := #[], attributes := #[] }
def k1m3 : Method := { name := "law", desc := "(II)Z", sig := { parameters := [.int, .int], returnType := some .boolean }, accessFlags := 9, code := some k1c3 }
def k1 : Class := { plain x.cls (some 0) with
  accessFlags := 49
  interfaces := #[]
  cf := some (fileOf pool1 16 #[] #[{ accessFlags := 1, nameIndex := 5, descriptorIndex := 6, attributes := #[] }, { accessFlags := 10, nameIndex := 19, descriptorIndex := 20, attributes := #[] }, { accessFlags := 10, nameIndex := 29, descriptorIndex := 26, attributes := #[] }, { accessFlags := 9, nameIndex := 33, descriptorIndex := 34, attributes := #[] }] 49 2 #[] #[])
  fields := #[]
  methods := #[k1m0, k1m1, k1m2, k1m3]
  instanceTypes := #[]
  staticTypes := #[]
  resolved := Array.replicate 37 none
  statics := none }

def pool2 : Array CpInfo := pool [(2, .class_ 4), (1, u "java/lang/Object"), (6, .class_ 13), (1, u site_7.cls), (0, u "diagnostics"), (0, u "Ljava/util/List;"), (2, u "countedColumn"), (0, u "I"), (2, u "name"), (0, u "Ljava/lang/String;"), (2, u "text"), (2, u "lineStarts"), (3, u "[I"), (44, .class_ 79), (0, u (site_7.cls ++ "$Problems")), (107, u "errorCount"), (11, u "isDisallowed"), (0, u "(I)Z"), (7, .integer 64976), (0, .integer 65007), (0, .integer 65534), (24, u "countedLine"), (2, u "countedOffset"), (23, u "MAX_DIAGNOSTICS"), (2, u "BYTE_ORDER_MARK"), (0, u "C"), (0, u "REPLACEMENT_CHARACTER")] 18

def k2c0 : Code := { maxStack := 2, maxLocals := 1, code := prog_272_method_4_code, exceptionTable := #[], attributes := #[] }
def k2m0 : Method := { name := "isDisallowed", desc := "(I)Z", sig := { parameters := [.int], returnType := some .boolean }, accessFlags := 8, code := some k2c0 }
def k2 : Class := { plain site_7.cls (some 0) with
  accessFlags := 49
  interfaces := #[]
  cf := some (fileOf pool2 11 #[.nestMembers #[78]] #[{ accessFlags := 8, nameIndex := 199, descriptorIndex := 200, attributes := #[] }] 49 2 #[] #[{ accessFlags := 25, nameIndex := 262, descriptorIndex := 19, attributes := #[] }, { accessFlags := 26, nameIndex := 265, descriptorIndex := 266, attributes := #[] }, { accessFlags := 26, nameIndex := 267, descriptorIndex := 266, attributes := #[] }, { accessFlags := 18, nameIndex := 22, descriptorIndex := 23, attributes := #[] }, { accessFlags := 18, nameIndex := 26, descriptorIndex := 23, attributes := #[] }, { accessFlags := 18, nameIndex := 29, descriptorIndex := 33, attributes := #[] }, { accessFlags := 18, nameIndex := 14, descriptorIndex := 15, attributes := #[] }, { accessFlags := 2, nameIndex := 187, descriptorIndex := 19, attributes := #[] }, { accessFlags := 2, nameIndex := 238, descriptorIndex := 19, attributes := #[] }, { accessFlags := 2, nameIndex := 235, descriptorIndex := 19, attributes := #[] }, { accessFlags := 2, nameIndex := 18, descriptorIndex := 19, attributes := #[] }])
  fields := #[{ name := "MAX_DIAGNOSTICS", type := .int, accessFlags := 25, slot := 0, constantValue := 0 }, { name := "BYTE_ORDER_MARK", type := .char, accessFlags := 26, slot := 1, constantValue := 0 }, { name := "REPLACEMENT_CHARACTER", type := .char, accessFlags := 26, slot := 2, constantValue := 0 }, { name := "name", type := (.object "java/lang/String"), accessFlags := 18, slot := 0, constantValue := 0 }, { name := "text", type := (.object "java/lang/String"), accessFlags := 18, slot := 1, constantValue := 0 }, { name := "lineStarts", type := (.array .int), accessFlags := 18, slot := 2, constantValue := 0 }, { name := "diagnostics", type := (.object "java/util/List"), accessFlags := 18, slot := 3, constantValue := 0 }, { name := "errorCount", type := .int, accessFlags := 2, slot := 4, constantValue := 0 }, { name := "countedOffset", type := .int, accessFlags := 2, slot := 5, constantValue := 0 }, { name := "countedLine", type := .int, accessFlags := 2, slot := 6, constantValue := 0 }, { name := "countedColumn", type := .int, accessFlags := 2, slot := 7, constantValue := 0 }]
  methods := #[k2m0]
  instanceTypes := #[(.object "java/lang/String"), (.object "java/lang/String"), (.array .int), (.object "java/util/List"), .int, .int, .int, .int]
  staticTypes := #[.int, .char, .char]
  resolved := Array.replicate 286 none
  statics := none }

def pool3 : Array CpInfo := pool [(1, u "java/lang/Cloneable"), (0, .class_ 1), (0, u "java/lang/Object"), (0, .class_ 3)] 3

/-- java/lang/Cloneable -/
def k3 : Class := { plain "java/lang/Cloneable" (some 0) with
  accessFlags := 1537
  interfaces := #[]
  cf := some (fileOf pool3 2 #[] #[] 1537 4 #[] #[])
  fields := #[]
  methods := #[]
  instanceTypes := #[]
  staticTypes := #[]
  resolved := Array.replicate 8 none
  statics := none }

def pool4 : Array CpInfo := pool [(1, u "java/io/Serializable"), (0, .class_ 1), (0, u "java/lang/Object"), (0, .class_ 3)] 3

/-- java/io/Serializable -/
def k4 : Class := { plain "java/io/Serializable" (some 0) with
  accessFlags := 1537
  interfaces := #[]
  cf := some (fileOf pool4 2 #[] #[] 1537 4 #[] #[])
  fields := #[]
  methods := #[]
  instanceTypes := #[]
  staticTypes := #[]
  resolved := Array.replicate 8 none
  statics := none }

/-- the primitive byte -/
def k5 : Class := { plain "byte" none with kind := .primitive 'B', accessFlags := 0x411 }
/-- [B -/
def k6 : Class := { plain "[B" (some 0) with kind := .array 5 .byte, interfaces := #[3, 4], accessFlags := 1041 }

/-- the primitive int -/
def k7 : Class := { plain "int" none with kind := .primitive 'I', accessFlags := 0x411 }
/-- [I -/
def k8 : Class := { plain "[I" (some 0) with kind := .array 7 .int, interfaces := #[3, 4], accessFlags := 1041 }

def heap : Heap := #[]
def classes : Array Class := #[k0, k1, k2, k3, k4, k5, k6, k7, k8]
def interned : List (Array UInt16 × Addr) := []
def slotsUsed : Nat := 0
def theMethod : MethodId := ⟨1, 3⟩
def args0 : Array Value := #[.int 5, .int 3]
def aboutOver (below : List Frame) : State where
  vm := { classes := classes, interned := interned.toArray }
  heap := heap
  slotsUsed := slotsUsed
  threads := #[{ frames := .invoking theMethod args0 :: below }]
def below0 : List Frame := [.native { method := ⟨0, 0⟩, args := #[] }]
def about1 : State := aboutOver below0
def p0 : Program := .bare "" "" ""
def e0 : Env := launch0.env 0 0 0
theorem w_frames : about1.frames = Frame.invoking theMethod args0 :: below0 := rfl
set_option maxRecDepth 65536 in
theorem w_args : argsFit about1.vm theMethod args0 = true := by decide +kernel
set_option maxRecDepth 65536 in
theorem w_heap : heapFits about1 = true := by decide +kernel
set_option maxRecDepth 65536 in
theorem w_runnable : about1.curStatus? = some .runnable := by decide +kernel
set_option maxRecDepth 65536 in
theorem w_alone : about1.alone = true := by decide +kernel
set_option maxRecDepth 65536 in
theorem w_named : about1.methodNamed? x = some theMethod := by decide +kernel
set_option maxRecDepth 65536 in
theorem w_hears : about1.hears theMethod below0 = true := by decide +kernel
set_option maxRecDepth 65536 in
theorem w_ripe : about1.ripe theMethod args0 below0 = true := by decide +kernel
theorem w_running : about1.status = .running := rfl
set_option maxRecDepth 65536 in
theorem w_room : about1.hasRoom e0.platform room_1 = true :=
  launch0.hasRoom_least _ room_1 (by decide +kernel) (by decide +kernel) (by decide +kernel) (by decide +kernel) (by decide +kernel) (by decide +kernel)
theorem allAtoms_all (ts : List Jvm.Cond) (a : Array Jvm.Value) (st : Jvm.State) : (allAtoms ts).before a st = ts.all (fun c => c.before a st) := by
  induction ts with
  | nil => rfl
  | cons c t ih =>
    show (Jvm.Cond.and c (allAtoms t)).before a st = _
    rw [Jvm.Cond.before_and, ih, List.all_cons]
def words1 : List Jvm.Cond := Jvm.Cond.code x code maxLocals ret :: tables_1
/-- a 'code' word, met by the world's own term for the bytes: nothing is compared byte by byte -/
theorem code_word {y : MethodName} {bytes : ByteArray} {mx : Nat} {rt : Option FieldType} {a : Array Value} {s : State} {m : MethodId} {meth : Method} {c : Code} (h1 : s.methodNamed? y = some m) (h2 : s.vm.method? m = some meth) (h3 : meth.code = some c) (h4 : c.code = bytes)
    (h5 : (c.maxLocals == mx && c.exceptionTable.isEmpty && decide (c.maxStack ≤ mostOperands) && decide (meth.sig.returnType = rt) && !meth.locks && decide (parseMethodDescriptor y.desc = some meth.sig)) = true) : (Jvm.Cond.code y bytes mx rt).before a s = true := by
  simp only [Bool.and_eq_true, beq_iff_eq, Bool.not_eq_true', decide_eq_true_eq] at h5
  obtain ⟨⟨⟨⟨⟨g1, g2⟩, g3⟩, g4⟩, g5⟩, g6⟩ := h5
  simp [Cond.before, Cond.holds, Cond.value, h1, h2, h3, h4, g1, g2, g3, g4, g5, g6]
def isCode : Jvm.Cond → Bool
  | .code _ _ _ _ => true
  | _ => false
theorem all_split {L : List Jvm.Cond} {P : Jvm.Cond → Bool} (h1 : L.all (fun c => isCode c || P c) = true) (h2 : ∀ c ∈ L.filter isCode, P c = true) : L.all P = true := by
  refine List.all_eq_true.mpr fun c hc => ?_
  have h := List.all_eq_true.mp h1 c hc
  rcases Bool.eq_false_or_eq_true (isCode c) with hi | hi
  · exact h2 c (List.mem_filter.mpr ⟨hc, hi⟩)
  · simpa [hi] using h
set_option maxRecDepth 65536 in
theorem w_c0 : (Jvm.Cond.code x code maxLocals ret).before args0 about1 = true := code_word (m := ⟨1, 3⟩) (meth := k1m3) (c := k1c3) (by decide +kernel) rfl rfl rfl (by decide +kernel)
set_option maxRecDepth 65536 in
theorem w_c1 : (Jvm.Cond.code ({ cls := x.cls, name := "pick", desc := "(II)I" } : Jvm.MethodName) method_2_code (4 : Nat) (Option.some Jvm.ClassFile.FieldType.int)).before args0 about1 = true := code_word (m := ⟨1, 1⟩) (meth := k1m1) (c := k1c1) (by decide +kernel) rfl rfl rfl (by decide +kernel)
set_option maxRecDepth 65536 in
theorem w_c2 : (Jvm.Cond.code ({ cls := site_7.cls, name := "isDisallowed", desc := "(I)Z" } : Jvm.MethodName) prog_272_method_4_code (1 : Nat) (Option.some Jvm.ClassFile.FieldType.boolean)).before args0 about1 = true := code_word (m := ⟨2, 0⟩) (meth := k2m0) (c := k2c0) (by decide +kernel) rfl rfl rfl (by decide +kernel)
set_option maxRecDepth 65536 in
theorem w_c3 : (Jvm.Cond.code ({ cls := x.cls, name := "expected", desc := "(I)Z" } : Jvm.MethodName) method_3_code (6 : Nat) (Option.some Jvm.ClassFile.FieldType.boolean)).before args0 about1 = true := code_word (m := ⟨1, 2⟩) (meth := k1m2) (c := k1c2) (by decide +kernel) rfl rfl rfl (by decide +kernel)
def codes1 : List Jvm.Cond := [Jvm.Cond.code x code maxLocals ret, Jvm.Cond.code ({ cls := x.cls, name := "pick", desc := "(II)I" } : Jvm.MethodName) method_2_code (4 : Nat) (Option.some Jvm.ClassFile.FieldType.int), Jvm.Cond.code ({ cls := site_7.cls, name := "isDisallowed", desc := "(I)Z" } : Jvm.MethodName) prog_272_method_4_code (1 : Nat) (Option.some Jvm.ClassFile.FieldType.boolean), Jvm.Cond.code ({ cls := x.cls, name := "expected", desc := "(I)Z" } : Jvm.MethodName) method_3_code (6 : Nat) (Option.some Jvm.ClassFile.FieldType.boolean)]
set_option maxRecDepth 65536 in
theorem codes_eq : words1.filter isCode = codes1 := rfl
theorem w_codes : ∀ c ∈ words1.filter isCode, c.before args0 about1 = true := by
  rw [codes_eq]
  intro c hc
  simp only [codes1, List.mem_cons, List.not_mem_nil, or_false] at hc
  rcases hc with rfl | rfl | rfl | rfl
  · exact w_c0
  · exact w_c1
  · exact w_c2
  · exact w_c3
set_option maxRecDepth 65536 in
theorem w_t1 : words1.all (fun c => isCode c || c.before args0 about1) = true := by decide +kernel
theorem w_tables : (allAtoms (Jvm.Cond.code x code maxLocals ret :: tables_1)).before args0 about1 = true := by
  rw [allAtoms_all]
  show words1.all (fun c => c.before args0 about1) = true
  refine all_split ?_ w_codes
  rw [w_t1]
set_option maxRecDepth 65536 in
theorem w_case : (Jvm.Cond.and given_1 narrow_1).before args0 about1 = true := by decide +kernel
theorem w_applies : (headSpec (Jvm.Cond.code x code maxLocals ret :: tables_1) room_1).applies x e0.platform about1 = true :=
  (Spec.applies_iff w_frames).mpr ⟨w_running, w_runnable, w_alone, w_named, w_hears, w_ripe, w_room, w_tables⟩
theorem atStart : AtStart classFile x code maxLocals ret World_1 tables_1 room_1 Calls_1 rest_1 Pre_1 launch0 p0 e0 about1 theMethod args0 below0 :=
  ⟨lists_1, trivial, launch0.admits_env _ _ _, launch0.least_env, fairChoices_fair.cas, fairChoices_fair.clock, w_frames, w_args, w_heap, w_applies, trivial, trivial, w_case⟩
end start1
theorem witness_1 : WitnessClaimed_1 := ⟨start1.p0, start1.e0, start1.about1, start1.theMethod, start1.args0, start1.below0, start1.atStart⟩
end Jvm.Pilot.@@N@@
