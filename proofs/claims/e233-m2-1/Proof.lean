import JvmDerived
import JvmDerived.Pilot.@@N@@Statement
import JvmDerived.Pilot.@@N@@Code
set_option linter.unusedVariables false
set_option linter.unusedSimpArgs false
namespace Jvm.RoadKit
open Sem ClassFile Op Lib Jvm.Stand Jvm.Free Jvm.LawKit
section New
variable {p : Program} {l : Launch} {e : Env} {R : Room} {s : State} {m : MethodId} {args : Array Value} {below : List Frame} {meth : Method} {c : Code} {T : State} {locs : List Loc} {cells slots : Nat}
theorem retI (X : Stand p l e R s m args below meth c T locs cells slots) (hx : p.tables.exec = Jvm.exec) {pc : Nat} {Ls : Array Slot} {z : Int32} {rest : List Value} (hret : meth.sig.returnType = some .int) (hd : decode c.code pc = .ok (.ireturn, 1)) {fs : List Frame}
    (hl : ∀ (f : JFrame) (acts : List Action), f.method = m → f.locked = none → f.entered = [] → (doReturn e (T.setTop f) acts (some (.int z))).1 = T.setFrames fs) : Steps p.tables e below (T.setTop (mkF m pc Ls (.int z :: rest))) (T.setFrames fs) := by
  have hm' : T.vm.method? m = some meth := X.method'
  have hn : narrow .int (.int z) = .int z := rfl
  show Steps p.tables e below (T.setTop { method := m, pc := pc, locals := Ls, stack := _ :: rest, locked := none }) _
  jvm_step X.here [X.here.top, hx, hd, hm', hret, hn]
  first | (intro acts; rw [hl _ acts rfl rfl rfl]) | rw [hl _ _ rfl rfl rfl]
  exact Steps.refl _
end New
end Jvm.RoadKit
namespace Jvm.Pilot.@@N@@
open Jvm Jvm.ClassFile Sem Op Lib Jvm.Free Jvm.Stand Jvm.LawKit Jvm.RoadKit Bundle Jvm.Pilot.@@N@@.Jvm.D
theorem own_clamp (j : Int32) : j.toNatClampNeg = j.toInt.toNat := rfl
theorem own_sta_keep {Z : State} {h h' : Heap} {C n d : String} {v : Value} (F : Sta Z h C n d v) (K : Keep h h' []) : Sta Z h' C n d v := by
  obtain ⟨cf, i, k, f, st, cell, h1, h2, h3, h4, h5, r⟩ := F
  exact ⟨cf, i, k, f, st, cell, h1, h2, h3, h4, K.2.1 _ _ h5 (by simp), r⟩
theorem own_const {args : Array Value} {s : State} {C n d : String} {k : Int32} (hx : (Jvm.Cond.exactly (.static C n d) C).value args s none s [] = some true) (ho : (Jvm.Cond.eq (.field (.static C n d) "java/lang/Enum" "ordinal" "I") (.int k)).value args s none s [] = some true) (wi : (Jvm.Cond.initialized C).before args s = true) (wl : (Jvm.Cond.laysStatic C n d).before args s = true) :
    ∃ a, Sta s s.heap C n d (.ref a) ∧ Exa s s.heap a C ∧ Fld s s.heap a "java/lang/Enum" "ordinal" "I" (.int k) := by
  obtain ⟨a, ev⟩ := exa_v hx
  refine ⟨a, Sta.start ev (Or.inr ⟨wi, wl⟩), Exa.start ev hx, ?_⟩
  obtain ⟨x, y, e1, e2, -, kk⟩ := cmp_v (Or.inl ho)
  rw [Term.int_eval] at e2
  cases e2
  have hxi : ∃ z, x = .int z := by cases x <;> simp_all [Kin]
  obtain ⟨z, rfl⟩ := hxi
  have hz : z = k := gotT (Cond.eq_ints e1 (Term.int_eval k)) ho
  subst hz
  rw [fld_at ev] at e1
  exact Fld.start e1
def own_exp (j : Int32) : Int32 := if j = 8 then 1 else if j = 9 then 1 else if j = 10 then 1 else 0
theorem own_idx (p : Int32) : 0 ≤ ((p &&& (2147483647 : Int32)) % (18 : Int32)).toInt ∧ ((p &&& (2147483647 : Int32)) % (18 : Int32)).toInt < 18 := by
  have mm : (p &&& (2147483647 : Int32)).toInt = p.toInt % 2147483648 := c_mask p 2147483647 31 (by decide) (by decide)
  have hr := (c_irem (p &&& (2147483647 : Int32)) 18 18 rfl).1 (by omega)
  omega
theorem own_getR (w : Nat → Addr) (i : Nat) (hi : i < 18) : ((List.range 18).map fun i => Value.ref (w i)).getD i .null = .ref (w i) := by
  simp [List.getD_eq_getElem?_getD, hi]
theorem own_inj {Z : State} {h : Heap} {x y : Addr} {a b : Nat} (F : Fld Z h x "java/lang/Enum" "ordinal" "I" (.int (Int32.ofNat a))) (G : Fld Z h y "java/lang/Enum" "ordinal" "I" (.int (Int32.ofNat b))) (ha : a < 18) (hb : b < 18) (q : x = y) : a = b := by
  by_cases e : a = b
  · exact e
  refine absurd q (F.ne G fun v => e ?_)
  have v' : Int32.ofNat a = Int32.ofNat b := Value.int.inj v
  have t : ∀ i j : Fin 18, Int32.ofNat i.val = Int32.ofNat j.val → i = j := by decide +kernel
  exact congrArg Fin.val (t ⟨a, ha⟩ ⟨b, hb⟩ v')
theorem own_val0 (w : Nat → Addr) (hinj : ∀ a b, a < 18 → b < 18 → w a = w b → a = b) (n : Nat) (hn : n < 18) : (if w n = w 8 then (1 : Int32) else if w n = w 9 then 1 else if w n = w 10 then 1 else 0) = if n = 8 then 1 else if n = 9 then 1 else if n = 10 then 1 else 0 := by
  have q : ∀ k, k < 18 → (w n = w k ↔ n = k) := fun k hk => ⟨hinj n k hn hk, fun e => by rw [e]⟩
  simp only [q 8 (by decide), q 9 (by decide), q 10 (by decide)]
theorem d1_0 : decode prog_353_method_5_code 0 = .ok (.aload_n 0, 1) := by decide +kernel
theorem d1_1 : decode prog_353_method_5_code 1 = .ok (.getstatic 28, 3) := by decide +kernel
theorem d1_4 : decode prog_353_method_5_code 4 = .ok (.if_acmp .eq 17, 3) := by decide +kernel
theorem d1_21 : decode prog_353_method_5_code 21 = .ok (.iconst 1, 1) := by decide +kernel
theorem d1_22 : decode prog_353_method_5_code 22 = .ok (.goto 4, 3) := by decide +kernel
theorem d1_26 : decode prog_353_method_5_code 26 = .ok (.ireturn, 1) := by decide +kernel
theorem pn_1 : plainName "com/example/interlace/interlace/types/BasicType" = true := by first | (simp [plainName, overriddenIn]; done) | decide +kernel
theorem ef_1 (m : MethodId) (x0 : Addr) : entryFrame m #[(.ref x0)] 1 = mkF m 0 #[.val (.ref x0)] [] := by first | (simp [entryFrame, mkF, argsToLocals, Value.category]; done) | rfl
theorem d1_7 : decode prog_353_method_5_code 7 = .ok (.aload_n 0, 1) := by decide +kernel
theorem d1_8 : decode prog_353_method_5_code 8 = .ok (.getstatic 31, 3) := by decide +kernel
theorem d1_11 : decode prog_353_method_5_code 11 = .ok (.if_acmp .eq 10, 3) := by decide +kernel
theorem d1_14 : decode prog_353_method_5_code 14 = .ok (.aload_n 0, 1) := by decide +kernel
theorem d1_15 : decode prog_353_method_5_code 15 = .ok (.getstatic 34, 3) := by decide +kernel
theorem d1_18 : decode prog_353_method_5_code 18 = .ok (.if_acmp .ne 7, 3) := by decide +kernel
theorem d1_25 : decode prog_353_method_5_code 25 = .ok (.iconst 0, 1) := by decide +kernel
def Q1 (r : Int32) (h0 : Heap) (n0 : Nat) (v : Option Value) (h : Heap) (L : List Loc) : Prop := v = some (.int r) ∧ Fr n0 L ∧ h = h0
def own_is (a u8 u9 u10 : Addr) : Int32 := if a = u8 then 1 else if a = u9 then 1 else if a = u10 then 1 else 0
theorem own_val (w : Nat → Addr) (hinj : ∀ a b, a < 18 → b < 18 → w a = w b → a = b) (j : Int32) (h0 : 0 ≤ j.toInt) (h1 : j.toInt < 18) : own_is (w j.toNatClampNeg) (w 8) (w 9) (w 10) = own_exp j := by
  unfold own_is own_exp
  rw [own_val0 w hinj _ (by rw [own_clamp]; omega)]
  have e8 : j.toNatClampNeg = 8 ↔ j = 8 := by rw [← Int32.toInt_inj, own_clamp]; have q : (8 : Int32).toInt = 8 := rfl; omega
  have e9 : j.toNatClampNeg = 9 ↔ j = 9 := by rw [← Int32.toInt_inj, own_clamp]; have q : (9 : Int32).toInt = 9 := rfl; omega
  have e10 : j.toNatClampNeg = 10 ↔ j = 10 := by rw [← Int32.toInt_inj, own_clamp]; have q : (10 : Int32).toInt = 10 := rfl; omega
  simp only [e8, e9, e10]
set_option maxRecDepth 65536 in
set_option maxHeartbeats 40000000 in
theorem rm1a (l : Launch) (Z : State) (a0 : Array Value) (hw : ∀ d ∈ tables_1, d.before a0 Z = true) (ws : List Jvm.Cond) (a1 u8 u9 u10 : Addr) (h0 : Heap) (n0 : Nat) (Z0 : n0 ≤ h0.size) (S_LIST : Sta Z h0 "com/example/interlace/interlace/types/BasicType" "LIST" "Lcom/example/interlace/interlace/types/BasicType;" (.ref u8)) (ha4 : a1 = u8) :
    MetFree l (⟨"com/example/interlace/interlace/types/BasicType", "isStructured", "()Z"⟩ : MethodName) (head1 (Jvm.Cond.code (⟨"com/example/interlace/interlace/types/BasicType", "isStructured", "()Z"⟩ : MethodName) prog_353_method_5_code 1 (some .boolean) :: ws) ({ frames := 0, cells := 0, slots := 0, locals := 0 } : Room)) (fun a U => a = #[(.ref a1)] ∧ Z.Warmed39 U.vm ∧ U.heap = h0) (fun _ _ _ _ _ => True) (fun _ U o U' => ∃ v L, o = .returned v ∧ Q1 1 h0 n0 v U'.heap L ∧ FrameEnd U o U' L ({ frames := 0, cells := 0, slots := 0, locals := 0 } : Room).cells ({ frames := 0, cells := 0, slots := 0, locals := 0 } : Room).slots) := by
  refine MetFree.of_bodySF (plainFor_of_name pn_1) hisR ?_
  intro p e s m args below meth c s₁ Bd hml0 hP hK
  obtain ⟨rfl, hZ, hh⟩ := hP
  have hx := Bd.exec
  have hby := Bd.bytes
  have hml : c.maxLocals = 1 := hml0
  have hown : s.vm.findClass "com/example/interlace/interlace/types/BasicType" = some m.cls := findClass_of_methodNamed Bd.named
  have hnm := (name_of_methodNamed Bd.named Bd.method).1
  have X0 : Stand p l e ({ frames := 0, cells := 0, slots := 0, locals := 0 } : Room) s m #[(.ref a1)] below meth c s₁ [] 0 0 := Stand.of_body Bd
  have e0 : s₁.heap = h0 := by rw [← hh, Bd.state]; rfl
  have N0 := Fr.nil n0
  have pre0 : ∀ t, Steps p.tables e below (s₁.setTop (mkF m 0 #[.val (.ref a1)] [])) t → Steps p.tables e below (s₁.setTop (entryFrame m #[(.ref a1)] 1)) t := fun t k => castTop (ef_1 m a1) k
  obtain ⟨T3, X3, e3, st3⟩ := getS2 X0 hx hZ hown (host := "") (Or.inl (hw _ (List.mem_of_getElem? (i := 46) rfl))) Via.refl e0 S_LIST (g := (mkF m 1 #[.val (.ref a1)] [(.ref a1)])) rfl (hb hby d1_1)
  obtain ⟨fs, hr, hrun, hended, hW, hsame⟩ := X3.leave (v := some (.int (1 : Int32))) (fun h => by rw [Bd.returns] at h; cases h)
  refine ⟨_, _, pre0 _ ?_, hrun, hended, _, _, rfl, ?_, ⟨_, rfl⟩, hW, hsame.mono (by decide) (by decide)⟩
  · show Steps p.tables e below (s₁.setTop (mkF m 0 #[.val (.ref a1)] [])) _
    refine XS.aloadN X0.here hx rfl (hb hby d1_0) rfl rfl ?_
    show Steps p.tables e below (s₁.setTop (mkF m 1 #[.val (.ref a1)] [(.ref a1)])) _
    refine st3 _ ?_
    show Steps p.tables e below (T3.setTop (mkF m 4 #[.val (.ref a1)] [(.ref u8), (.ref a1)])) _
    refine Jvm.RoadKit.acmp (g := (mkF m 4 #[.val (.ref a1)] [(.ref u8), (.ref a1)])) X3 hx rfl rfl rfl (pc0 := 4) (pc' := 21) (same := true) rfl (hb hby d1_4) rfl (decide_eq_true (congrArg Value.ref ha4)) (by decide) (by decide) ?_
    show Steps p.tables e below (T3.setTop (mkF m 21 #[.val (.ref a1)] [])) _
    refine XS.iconst X3.here hx rfl (hb hby d1_21) ?_
    show Steps p.tables e below (T3.setTop (mkF m 22 #[.val (.ref a1)] [(.int (1 : Int32))])) _
    refine XS.goto X3.here hx rfl (pc0 := 22) (pc' := 26) rfl (hb hby d1_22) (by decide) (by decide) ?_
    show Steps p.tables e below (T3.setTop (mkF m 26 #[.val (.ref a1)] [(.int (1 : Int32))])) _
    exact retN X3 hx (t := .boolean) Bd.returns (by simp) (hb hby d1_26) hr
  · show Q1 1 h0 n0 _ T3.heap _
    rw [e3]
    exact ⟨rfl, N0, rfl⟩
set_option maxRecDepth 65536 in
set_option maxHeartbeats 40000000 in
theorem rm1b (l : Launch) (Z : State) (a0 : Array Value) (hw : ∀ d ∈ tables_1, d.before a0 Z = true) (ws : List Jvm.Cond) (a1 u8 u9 u10 : Addr) (h0 : Heap) (n0 : Nat) (Z0 : n0 ≤ h0.size) (S_LIST : Sta Z h0 "com/example/interlace/interlace/types/BasicType" "LIST" "Lcom/example/interlace/interlace/types/BasicType;" (.ref u8)) (S_MAPPING : Sta Z h0 "com/example/interlace/interlace/types/BasicType" "MAPPING" "Lcom/example/interlace/interlace/types/BasicType;" (.ref u9)) (ha4 : ¬ (a1 = u8)) (ha11 : a1 = u9) :
    MetFree l (⟨"com/example/interlace/interlace/types/BasicType", "isStructured", "()Z"⟩ : MethodName) (head1 (Jvm.Cond.code (⟨"com/example/interlace/interlace/types/BasicType", "isStructured", "()Z"⟩ : MethodName) prog_353_method_5_code 1 (some .boolean) :: ws) ({ frames := 0, cells := 0, slots := 0, locals := 0 } : Room)) (fun a U => a = #[(.ref a1)] ∧ Z.Warmed39 U.vm ∧ U.heap = h0) (fun _ _ _ _ _ => True) (fun _ U o U' => ∃ v L, o = .returned v ∧ Q1 1 h0 n0 v U'.heap L ∧ FrameEnd U o U' L ({ frames := 0, cells := 0, slots := 0, locals := 0 } : Room).cells ({ frames := 0, cells := 0, slots := 0, locals := 0 } : Room).slots) := by
  refine MetFree.of_bodySF (plainFor_of_name pn_1) hisR ?_
  intro p e s m args below meth c s₁ Bd hml0 hP hK
  obtain ⟨rfl, hZ, hh⟩ := hP
  have hx := Bd.exec
  have hby := Bd.bytes
  have hml : c.maxLocals = 1 := hml0
  have hown : s.vm.findClass "com/example/interlace/interlace/types/BasicType" = some m.cls := findClass_of_methodNamed Bd.named
  have hnm := (name_of_methodNamed Bd.named Bd.method).1
  have X0 : Stand p l e ({ frames := 0, cells := 0, slots := 0, locals := 0 } : Room) s m #[(.ref a1)] below meth c s₁ [] 0 0 := Stand.of_body Bd
  have e0 : s₁.heap = h0 := by rw [← hh, Bd.state]; rfl
  have N0 := Fr.nil n0
  have pre0 : ∀ t, Steps p.tables e below (s₁.setTop (mkF m 0 #[.val (.ref a1)] [])) t → Steps p.tables e below (s₁.setTop (entryFrame m #[(.ref a1)] 1)) t := fun t k => castTop (ef_1 m a1) k
  obtain ⟨T3, X3, e3, st3⟩ := getS2 X0 hx hZ hown (host := "") (Or.inl (hw _ (List.mem_of_getElem? (i := 46) rfl))) Via.refl e0 S_LIST (g := (mkF m 1 #[.val (.ref a1)] [(.ref a1)])) rfl (hb hby d1_1)
  obtain ⟨T5, X5, e5, st5⟩ := getS2 X3 hx hZ hown (host := "") (Or.inl (hw _ (List.mem_of_getElem? (i := 47) rfl))) Via.refl e3 S_MAPPING (g := (mkF m 8 #[.val (.ref a1)] [(.ref a1)])) rfl (hb hby d1_8)
  obtain ⟨fs, hr, hrun, hended, hW, hsame⟩ := X5.leave (v := some (.int (1 : Int32))) (fun h => by rw [Bd.returns] at h; cases h)
  refine ⟨_, _, pre0 _ ?_, hrun, hended, _, _, rfl, ?_, ⟨_, rfl⟩, hW, hsame.mono (by decide) (by decide)⟩
  · show Steps p.tables e below (s₁.setTop (mkF m 0 #[.val (.ref a1)] [])) _
    refine XS.aloadN X0.here hx rfl (hb hby d1_0) rfl rfl ?_
    show Steps p.tables e below (s₁.setTop (mkF m 1 #[.val (.ref a1)] [(.ref a1)])) _
    refine st3 _ ?_
    show Steps p.tables e below (T3.setTop (mkF m 4 #[.val (.ref a1)] [(.ref u8), (.ref a1)])) _
    refine Jvm.RoadKit.acmp (g := (mkF m 4 #[.val (.ref a1)] [(.ref u8), (.ref a1)])) X3 hx rfl rfl rfl (pc0 := 4) (pc' := 7) (same := false) rfl (hb hby d1_4) rfl (decide_eq_false fun q => ha4 (Value.ref.inj q)) (by decide) (by decide) ?_
    show Steps p.tables e below (T3.setTop (mkF m 7 #[.val (.ref a1)] [])) _
    refine XS.aloadN X3.here hx rfl (hb hby d1_7) rfl rfl ?_
    show Steps p.tables e below (T3.setTop (mkF m 8 #[.val (.ref a1)] [(.ref a1)])) _
    refine st5 _ ?_
    show Steps p.tables e below (T5.setTop (mkF m 11 #[.val (.ref a1)] [(.ref u9), (.ref a1)])) _
    refine Jvm.RoadKit.acmp (g := (mkF m 11 #[.val (.ref a1)] [(.ref u9), (.ref a1)])) X5 hx rfl rfl rfl (pc0 := 11) (pc' := 21) (same := true) rfl (hb hby d1_11) rfl (decide_eq_true (congrArg Value.ref ha11)) (by decide) (by decide) ?_
    show Steps p.tables e below (T5.setTop (mkF m 21 #[.val (.ref a1)] [])) _
    refine XS.iconst X5.here hx rfl (hb hby d1_21) ?_
    show Steps p.tables e below (T5.setTop (mkF m 22 #[.val (.ref a1)] [(.int (1 : Int32))])) _
    refine XS.goto X5.here hx rfl (pc0 := 22) (pc' := 26) rfl (hb hby d1_22) (by decide) (by decide) ?_
    show Steps p.tables e below (T5.setTop (mkF m 26 #[.val (.ref a1)] [(.int (1 : Int32))])) _
    exact retN X5 hx (t := .boolean) Bd.returns (by simp) (hb hby d1_26) hr
  · show Q1 1 h0 n0 _ T5.heap _
    rw [e5]
    exact ⟨rfl, N0, rfl⟩
set_option maxRecDepth 65536 in
set_option maxHeartbeats 40000000 in
theorem rm1c (l : Launch) (Z : State) (a0 : Array Value) (hw : ∀ d ∈ tables_1, d.before a0 Z = true) (ws : List Jvm.Cond) (a1 u8 u9 u10 : Addr) (h0 : Heap) (n0 : Nat) (Z0 : n0 ≤ h0.size) (S_LIST : Sta Z h0 "com/example/interlace/interlace/types/BasicType" "LIST" "Lcom/example/interlace/interlace/types/BasicType;" (.ref u8)) (S_MAPPING : Sta Z h0 "com/example/interlace/interlace/types/BasicType" "MAPPING" "Lcom/example/interlace/interlace/types/BasicType;" (.ref u9)) (S_TABLE : Sta Z h0 "com/example/interlace/interlace/types/BasicType" "TABLE" "Lcom/example/interlace/interlace/types/BasicType;" (.ref u10)) (ha4 : ¬ (a1 = u8)) (ha11 : ¬ (a1 = u9)) (ha18 : a1 = u10) :
    MetFree l (⟨"com/example/interlace/interlace/types/BasicType", "isStructured", "()Z"⟩ : MethodName) (head1 (Jvm.Cond.code (⟨"com/example/interlace/interlace/types/BasicType", "isStructured", "()Z"⟩ : MethodName) prog_353_method_5_code 1 (some .boolean) :: ws) ({ frames := 0, cells := 0, slots := 0, locals := 0 } : Room)) (fun a U => a = #[(.ref a1)] ∧ Z.Warmed39 U.vm ∧ U.heap = h0) (fun _ _ _ _ _ => True) (fun _ U o U' => ∃ v L, o = .returned v ∧ Q1 1 h0 n0 v U'.heap L ∧ FrameEnd U o U' L ({ frames := 0, cells := 0, slots := 0, locals := 0 } : Room).cells ({ frames := 0, cells := 0, slots := 0, locals := 0 } : Room).slots) := by
  refine MetFree.of_bodySF (plainFor_of_name pn_1) hisR ?_
  intro p e s m args below meth c s₁ Bd hml0 hP hK
  obtain ⟨rfl, hZ, hh⟩ := hP
  have hx := Bd.exec
  have hby := Bd.bytes
  have hml : c.maxLocals = 1 := hml0
  have hown : s.vm.findClass "com/example/interlace/interlace/types/BasicType" = some m.cls := findClass_of_methodNamed Bd.named
  have hnm := (name_of_methodNamed Bd.named Bd.method).1
  have X0 : Stand p l e ({ frames := 0, cells := 0, slots := 0, locals := 0 } : Room) s m #[(.ref a1)] below meth c s₁ [] 0 0 := Stand.of_body Bd
  have e0 : s₁.heap = h0 := by rw [← hh, Bd.state]; rfl
  have N0 := Fr.nil n0
  have pre0 : ∀ t, Steps p.tables e below (s₁.setTop (mkF m 0 #[.val (.ref a1)] [])) t → Steps p.tables e below (s₁.setTop (entryFrame m #[(.ref a1)] 1)) t := fun t k => castTop (ef_1 m a1) k
  obtain ⟨T3, X3, e3, st3⟩ := getS2 X0 hx hZ hown (host := "") (Or.inl (hw _ (List.mem_of_getElem? (i := 46) rfl))) Via.refl e0 S_LIST (g := (mkF m 1 #[.val (.ref a1)] [(.ref a1)])) rfl (hb hby d1_1)
  obtain ⟨T5, X5, e5, st5⟩ := getS2 X3 hx hZ hown (host := "") (Or.inl (hw _ (List.mem_of_getElem? (i := 47) rfl))) Via.refl e3 S_MAPPING (g := (mkF m 8 #[.val (.ref a1)] [(.ref a1)])) rfl (hb hby d1_8)
  obtain ⟨T7, X7, e7, st7⟩ := getS2 X5 hx hZ hown (host := "") (Or.inl (hw _ (List.mem_of_getElem? (i := 48) rfl))) Via.refl e5 S_TABLE (g := (mkF m 15 #[.val (.ref a1)] [(.ref a1)])) rfl (hb hby d1_15)
  obtain ⟨fs, hr, hrun, hended, hW, hsame⟩ := X7.leave (v := some (.int (1 : Int32))) (fun h => by rw [Bd.returns] at h; cases h)
  refine ⟨_, _, pre0 _ ?_, hrun, hended, _, _, rfl, ?_, ⟨_, rfl⟩, hW, hsame.mono (by decide) (by decide)⟩
  · show Steps p.tables e below (s₁.setTop (mkF m 0 #[.val (.ref a1)] [])) _
    refine XS.aloadN X0.here hx rfl (hb hby d1_0) rfl rfl ?_
    show Steps p.tables e below (s₁.setTop (mkF m 1 #[.val (.ref a1)] [(.ref a1)])) _
    refine st3 _ ?_
    show Steps p.tables e below (T3.setTop (mkF m 4 #[.val (.ref a1)] [(.ref u8), (.ref a1)])) _
    refine Jvm.RoadKit.acmp (g := (mkF m 4 #[.val (.ref a1)] [(.ref u8), (.ref a1)])) X3 hx rfl rfl rfl (pc0 := 4) (pc' := 7) (same := false) rfl (hb hby d1_4) rfl (decide_eq_false fun q => ha4 (Value.ref.inj q)) (by decide) (by decide) ?_
    show Steps p.tables e below (T3.setTop (mkF m 7 #[.val (.ref a1)] [])) _
    refine XS.aloadN X3.here hx rfl (hb hby d1_7) rfl rfl ?_
    show Steps p.tables e below (T3.setTop (mkF m 8 #[.val (.ref a1)] [(.ref a1)])) _
    refine st5 _ ?_
    show Steps p.tables e below (T5.setTop (mkF m 11 #[.val (.ref a1)] [(.ref u9), (.ref a1)])) _
    refine Jvm.RoadKit.acmp (g := (mkF m 11 #[.val (.ref a1)] [(.ref u9), (.ref a1)])) X5 hx rfl rfl rfl (pc0 := 11) (pc' := 14) (same := false) rfl (hb hby d1_11) rfl (decide_eq_false fun q => ha11 (Value.ref.inj q)) (by decide) (by decide) ?_
    show Steps p.tables e below (T5.setTop (mkF m 14 #[.val (.ref a1)] [])) _
    refine XS.aloadN X5.here hx rfl (hb hby d1_14) rfl rfl ?_
    show Steps p.tables e below (T5.setTop (mkF m 15 #[.val (.ref a1)] [(.ref a1)])) _
    refine st7 _ ?_
    show Steps p.tables e below (T7.setTop (mkF m 18 #[.val (.ref a1)] [(.ref u10), (.ref a1)])) _
    refine Jvm.RoadKit.acmp (g := (mkF m 18 #[.val (.ref a1)] [(.ref u10), (.ref a1)])) X7 hx rfl rfl rfl (pc0 := 18) (pc' := 21) (same := true) rfl (hb hby d1_18) rfl (decide_eq_true (congrArg Value.ref ha18)) (by decide) (by decide) ?_
    show Steps p.tables e below (T7.setTop (mkF m 21 #[.val (.ref a1)] [])) _
    refine XS.iconst X7.here hx rfl (hb hby d1_21) ?_
    show Steps p.tables e below (T7.setTop (mkF m 22 #[.val (.ref a1)] [(.int (1 : Int32))])) _
    refine XS.goto X7.here hx rfl (pc0 := 22) (pc' := 26) rfl (hb hby d1_22) (by decide) (by decide) ?_
    show Steps p.tables e below (T7.setTop (mkF m 26 #[.val (.ref a1)] [(.int (1 : Int32))])) _
    exact retN X7 hx (t := .boolean) Bd.returns (by simp) (hb hby d1_26) hr
  · show Q1 1 h0 n0 _ T7.heap _
    rw [e7]
    exact ⟨rfl, N0, rfl⟩
set_option maxRecDepth 65536 in
set_option maxHeartbeats 40000000 in
theorem rm1d (l : Launch) (Z : State) (a0 : Array Value) (hw : ∀ d ∈ tables_1, d.before a0 Z = true) (ws : List Jvm.Cond) (a1 u8 u9 u10 : Addr) (h0 : Heap) (n0 : Nat) (Z0 : n0 ≤ h0.size) (S_LIST : Sta Z h0 "com/example/interlace/interlace/types/BasicType" "LIST" "Lcom/example/interlace/interlace/types/BasicType;" (.ref u8)) (S_MAPPING : Sta Z h0 "com/example/interlace/interlace/types/BasicType" "MAPPING" "Lcom/example/interlace/interlace/types/BasicType;" (.ref u9)) (S_TABLE : Sta Z h0 "com/example/interlace/interlace/types/BasicType" "TABLE" "Lcom/example/interlace/interlace/types/BasicType;" (.ref u10)) (ha4 : ¬ (a1 = u8)) (ha11 : ¬ (a1 = u9)) (ha18 : ¬ (a1 = u10)) :
    MetFree l (⟨"com/example/interlace/interlace/types/BasicType", "isStructured", "()Z"⟩ : MethodName) (head1 (Jvm.Cond.code (⟨"com/example/interlace/interlace/types/BasicType", "isStructured", "()Z"⟩ : MethodName) prog_353_method_5_code 1 (some .boolean) :: ws) ({ frames := 0, cells := 0, slots := 0, locals := 0 } : Room)) (fun a U => a = #[(.ref a1)] ∧ Z.Warmed39 U.vm ∧ U.heap = h0) (fun _ _ _ _ _ => True) (fun _ U o U' => ∃ v L, o = .returned v ∧ Q1 0 h0 n0 v U'.heap L ∧ FrameEnd U o U' L ({ frames := 0, cells := 0, slots := 0, locals := 0 } : Room).cells ({ frames := 0, cells := 0, slots := 0, locals := 0 } : Room).slots) := by
  refine MetFree.of_bodySF (plainFor_of_name pn_1) hisR ?_
  intro p e s m args below meth c s₁ Bd hml0 hP hK
  obtain ⟨rfl, hZ, hh⟩ := hP
  have hx := Bd.exec
  have hby := Bd.bytes
  have hml : c.maxLocals = 1 := hml0
  have hown : s.vm.findClass "com/example/interlace/interlace/types/BasicType" = some m.cls := findClass_of_methodNamed Bd.named
  have hnm := (name_of_methodNamed Bd.named Bd.method).1
  have X0 : Stand p l e ({ frames := 0, cells := 0, slots := 0, locals := 0 } : Room) s m #[(.ref a1)] below meth c s₁ [] 0 0 := Stand.of_body Bd
  have e0 : s₁.heap = h0 := by rw [← hh, Bd.state]; rfl
  have N0 := Fr.nil n0
  have pre0 : ∀ t, Steps p.tables e below (s₁.setTop (mkF m 0 #[.val (.ref a1)] [])) t → Steps p.tables e below (s₁.setTop (entryFrame m #[(.ref a1)] 1)) t := fun t k => castTop (ef_1 m a1) k
  obtain ⟨T3, X3, e3, st3⟩ := getS2 X0 hx hZ hown (host := "") (Or.inl (hw _ (List.mem_of_getElem? (i := 46) rfl))) Via.refl e0 S_LIST (g := (mkF m 1 #[.val (.ref a1)] [(.ref a1)])) rfl (hb hby d1_1)
  obtain ⟨T5, X5, e5, st5⟩ := getS2 X3 hx hZ hown (host := "") (Or.inl (hw _ (List.mem_of_getElem? (i := 47) rfl))) Via.refl e3 S_MAPPING (g := (mkF m 8 #[.val (.ref a1)] [(.ref a1)])) rfl (hb hby d1_8)
  obtain ⟨T7, X7, e7, st7⟩ := getS2 X5 hx hZ hown (host := "") (Or.inl (hw _ (List.mem_of_getElem? (i := 48) rfl))) Via.refl e5 S_TABLE (g := (mkF m 15 #[.val (.ref a1)] [(.ref a1)])) rfl (hb hby d1_15)
  obtain ⟨fs, hr, hrun, hended, hW, hsame⟩ := X7.leave (v := some (.int (0 : Int32))) (fun h => by rw [Bd.returns] at h; cases h)
  refine ⟨_, _, pre0 _ ?_, hrun, hended, _, _, rfl, ?_, ⟨_, rfl⟩, hW, hsame.mono (by decide) (by decide)⟩
  · show Steps p.tables e below (s₁.setTop (mkF m 0 #[.val (.ref a1)] [])) _
    refine XS.aloadN X0.here hx rfl (hb hby d1_0) rfl rfl ?_
    show Steps p.tables e below (s₁.setTop (mkF m 1 #[.val (.ref a1)] [(.ref a1)])) _
    refine st3 _ ?_
    show Steps p.tables e below (T3.setTop (mkF m 4 #[.val (.ref a1)] [(.ref u8), (.ref a1)])) _
    refine Jvm.RoadKit.acmp (g := (mkF m 4 #[.val (.ref a1)] [(.ref u8), (.ref a1)])) X3 hx rfl rfl rfl (pc0 := 4) (pc' := 7) (same := false) rfl (hb hby d1_4) rfl (decide_eq_false fun q => ha4 (Value.ref.inj q)) (by decide) (by decide) ?_
    show Steps p.tables e below (T3.setTop (mkF m 7 #[.val (.ref a1)] [])) _
    refine XS.aloadN X3.here hx rfl (hb hby d1_7) rfl rfl ?_
    show Steps p.tables e below (T3.setTop (mkF m 8 #[.val (.ref a1)] [(.ref a1)])) _
    refine st5 _ ?_
    show Steps p.tables e below (T5.setTop (mkF m 11 #[.val (.ref a1)] [(.ref u9), (.ref a1)])) _
    refine Jvm.RoadKit.acmp (g := (mkF m 11 #[.val (.ref a1)] [(.ref u9), (.ref a1)])) X5 hx rfl rfl rfl (pc0 := 11) (pc' := 14) (same := false) rfl (hb hby d1_11) rfl (decide_eq_false fun q => ha11 (Value.ref.inj q)) (by decide) (by decide) ?_
    show Steps p.tables e below (T5.setTop (mkF m 14 #[.val (.ref a1)] [])) _
    refine XS.aloadN X5.here hx rfl (hb hby d1_14) rfl rfl ?_
    show Steps p.tables e below (T5.setTop (mkF m 15 #[.val (.ref a1)] [(.ref a1)])) _
    refine st7 _ ?_
    show Steps p.tables e below (T7.setTop (mkF m 18 #[.val (.ref a1)] [(.ref u10), (.ref a1)])) _
    refine Jvm.RoadKit.acmp (g := (mkF m 18 #[.val (.ref a1)] [(.ref u10), (.ref a1)])) X7 hx rfl rfl rfl (pc0 := 18) (pc' := 25) (same := false) rfl (hb hby d1_18) rfl (decide_eq_false fun q => ha18 (Value.ref.inj q)) (by decide) (by decide) ?_
    show Steps p.tables e below (T7.setTop (mkF m 25 #[.val (.ref a1)] [])) _
    refine XS.iconst X7.here hx rfl (hb hby d1_25) ?_
    show Steps p.tables e below (T7.setTop (mkF m 26 #[.val (.ref a1)] [(.int (0 : Int32))])) _
    exact retN X7 hx (t := .boolean) Bd.returns (by simp) (hb hby d1_26) hr
  · show Q1 0 h0 n0 _ T7.heap _
    rw [e7]
    exact ⟨rfl, N0, rfl⟩
theorem rm1 (l : Launch) (Z : State) (a0 : Array Value) (hw : ∀ d ∈ tables_1, d.before a0 Z = true) (ws : List Jvm.Cond) (a1 u8 u9 u10 : Addr) (h0 : Heap) (n0 : Nat) (Z0 : n0 ≤ h0.size) (S_LIST : Sta Z h0 "com/example/interlace/interlace/types/BasicType" "LIST" "Lcom/example/interlace/interlace/types/BasicType;" (.ref u8)) (S_MAPPING : Sta Z h0 "com/example/interlace/interlace/types/BasicType" "MAPPING" "Lcom/example/interlace/interlace/types/BasicType;" (.ref u9)) (S_TABLE : Sta Z h0 "com/example/interlace/interlace/types/BasicType" "TABLE" "Lcom/example/interlace/interlace/types/BasicType;" (.ref u10)) :
    MetFree l (⟨"com/example/interlace/interlace/types/BasicType", "isStructured", "()Z"⟩ : MethodName) (head1 (Jvm.Cond.code (⟨"com/example/interlace/interlace/types/BasicType", "isStructured", "()Z"⟩ : MethodName) prog_353_method_5_code 1 (some .boolean) :: ws) ({ frames := 0, cells := 0, slots := 0, locals := 0 } : Room)) (fun a U => a = #[(.ref a1)] ∧ Z.Warmed39 U.vm ∧ U.heap = h0) (fun _ _ _ _ _ => True) (fun _ U o U' => ∃ v L, o = .returned v ∧ Q1 (own_is a1 u8 u9 u10) h0 n0 v U'.heap L ∧ FrameEnd U o U' L ({ frames := 0, cells := 0, slots := 0, locals := 0 } : Room).cells ({ frames := 0, cells := 0, slots := 0, locals := 0 } : Room).slots) := by
  unfold own_is
  by_cases h1 : a1 = u8
  · rw [if_pos h1]; exact rm1a l Z a0 hw ws a1 u8 u9 u10 h0 n0 Z0 S_LIST h1
  rw [if_neg h1]
  by_cases h2 : a1 = u9
  · rw [if_pos h2]; exact rm1b l Z a0 hw ws a1 u8 u9 u10 h0 n0 Z0 S_LIST S_MAPPING h1 h2
  rw [if_neg h2]
  by_cases h3 : a1 = u10
  · rw [if_pos h3]; exact rm1c l Z a0 hw ws a1 u8 u9 u10 h0 n0 Z0 S_LIST S_MAPPING S_TABLE h1 h2 h3
  · rw [if_neg h3]; exact rm1d l Z a0 hw ws a1 u8 u9 u10 h0 n0 Z0 S_LIST S_MAPPING S_TABLE h1 h2 h3
theorem pn_0 : plainName "com/example/interlace/interlace/types/BasicTypeIsStructuredPinLaw" = true := by first | (simp [plainName, overriddenIn]; done) | decide +kernel
theorem pd_0_0 : parseMethodDescriptor "()Z" = some ⟨[], some .boolean⟩ := by decide +kernel
theorem ef_0 (m : MethodId) (x0 : Int32) : entryFrame m #[(.int x0)] maxLocals = mkF m 0 #[.val (.int x0), .unset, .unset, .unset] [] := by first | (simp [entryFrame, mkF, argsToLocals, Value.category, maxLocals]; done) | rfl
def Q0 (h0 : Heap) (n0 : Nat) (v : Option Value) (h : Heap) (L : List Loc) : Prop := v = some (.int (1 : Int32)) ∧ Fr n0 L
set_option maxRecDepth 65536 in
set_option maxHeartbeats 40000000 in
theorem rm0 (l : Launch) (Z : State) (a0 : Array Value) (hw : ∀ d ∈ tables_1, d.before a0 Z = true) (ws : List Jvm.Cond) (p1 : Int32) (w : Nat → Addr) (h0 : Heap) (n0 : Nat) (Z0 : n0 ≤ h0.size) (S_NIL : Sta Z h0 "com/example/interlace/interlace/types/BasicType" "NIL" "Lcom/example/interlace/interlace/types/BasicType;" (.ref (w 0))) (S_BOOLEAN : Sta Z h0 "com/example/interlace/interlace/types/BasicType" "BOOLEAN" "Lcom/example/interlace/interlace/types/BasicType;" (.ref (w 1))) (S_INT : Sta Z h0 "com/example/interlace/interlace/types/BasicType" "INT" "Lcom/example/interlace/interlace/types/BasicType;" (.ref (w 2))) (S_FLOAT : Sta Z h0 "com/example/interlace/interlace/types/BasicType" "FLOAT" "Lcom/example/interlace/interlace/types/BasicType;" (.ref (w 3))) (S_DECIMAL : Sta Z h0 "com/example/interlace/interlace/types/BasicType" "DECIMAL" "Lcom/example/interlace/interlace/types/BasicType;" (.ref (w 4))) (S_STRING : Sta Z h0 "com/example/interlace/interlace/types/BasicType" "STRING" "Lcom/example/interlace/interlace/types/BasicType;" (.ref (w 5))) (S_XML : Sta Z h0 "com/example/interlace/interlace/types/BasicType" "XML" "Lcom/example/interlace/interlace/types/BasicType;" (.ref (w 6))) (S_REGEXP : Sta Z h0 "com/example/interlace/interlace/types/BasicType" "REGEXP" "Lcom/example/interlace/interlace/types/BasicType;" (.ref (w 7))) (S_LIST : Sta Z h0 "com/example/interlace/interlace/types/BasicType" "LIST" "Lcom/example/interlace/interlace/types/BasicType;" (.ref (w 8))) (S_MAPPING : Sta Z h0 "com/example/interlace/interlace/types/BasicType" "MAPPING" "Lcom/example/interlace/interlace/types/BasicType;" (.ref (w 9))) (S_TABLE : Sta Z h0 "com/example/interlace/interlace/types/BasicType" "TABLE" "Lcom/example/interlace/interlace/types/BasicType;" (.ref (w 10))) (S_FUNCTION : Sta Z h0 "com/example/interlace/interlace/types/BasicType" "FUNCTION" "Lcom/example/interlace/interlace/types/BasicType;" (.ref (w 11))) (S_TYPEDESC : Sta Z h0 "com/example/interlace/interlace/types/BasicType" "TYPEDESC" "Lcom/example/interlace/interlace/types/BasicType;" (.ref (w 12))) (S_HANDLE : Sta Z h0 "com/example/interlace/interlace/types/BasicType" "HANDLE" "Lcom/example/interlace/interlace/types/BasicType;" (.ref (w 13))) (S_OBJECT : Sta Z h0 "com/example/interlace/interlace/types/BasicType" "OBJECT" "Lcom/example/interlace/interlace/types/BasicType;" (.ref (w 14))) (S_FUTURE : Sta Z h0 "com/example/interlace/interlace/types/BasicType" "FUTURE" "Lcom/example/interlace/interlace/types/BasicType;" (.ref (w 15))) (S_STREAM : Sta Z h0 "com/example/interlace/interlace/types/BasicType" "STREAM" "Lcom/example/interlace/interlace/types/BasicType;" (.ref (w 16))) (S_ERROR : Sta Z h0 "com/example/interlace/interlace/types/BasicType" "ERROR" "Lcom/example/interlace/interlace/types/BasicType;" (.ref (w 17))) (hE : ∀ i, i < 18 → Exa Z h0 (w i) "com/example/interlace/interlace/types/BasicType") (hO : ∀ i, i < 18 → Fld Z h0 (w i) "java/lang/Enum" "ordinal" "I" (.int (Int32.ofNat i))) :
    MetFree l x (head1 (Jvm.Cond.code x code maxLocals ret :: ws) room_1) (fun a U => a = #[(.int p1)] ∧ Z.Warmed39 U.vm ∧ U.heap = h0) (fun _ _ _ _ _ => True) (fun _ U o U' => ∃ v L, o = .returned v ∧ Q0 h0 n0 v U'.heap L ∧ FrameEnd U o U' L room_1.cells room_1.slots) := by
  refine MetFree.of_bodySF (plainFor_of_name pn_0) hisR ?_
  intro p e s m args below meth c s₁ Bd hml0 hP hK
  obtain ⟨rfl, hZ, hh⟩ := hP
  have hx := Bd.exec
  have hby := Bd.bytes
  have hml : c.maxLocals = 4 := hml0
  have hown : s.vm.findClass "com/example/interlace/interlace/types/BasicTypeIsStructuredPinLaw" = some m.cls := findClass_of_methodNamed Bd.named
  have hnm := (name_of_methodNamed Bd.named Bd.method).1
  have X0 : Stand p l e room_1 s m #[(.int p1)] below meth c s₁ [] 0 0 := Stand.of_body Bd
  have e0 : s₁.heap = h0 := by rw [← hh, Bd.state]; rfl
  have N0 := Fr.nil n0
  have pre0 : ∀ t, Steps p.tables e below (s₁.setTop (mkF m 0 #[.val (.int p1), .unset, .unset, .unset] [])) t → Steps p.tables e below (s₁.setTop (entryFrame m #[(.int p1)] maxLocals)) t := fun t k => castTop (ef_0 m p1) k
  obtain ⟨T2, h2, k2, X2, e2, E2, A2, O2, st2⟩ := newR X0 hx hZ hown (hw _ (List.mem_of_getElem? (i := 0) rfl)) (hw _ (List.mem_of_getElem? (i := 1) rfl)) e0 (g := (mkF m 2 #[.val (.int p1), .unset, .unset, .unset] [(.int (18 : Int32))])) rfl (hb hby at_2) rfl (by decide) (cap := 18) (by decide) (by decide) (by decide) (by decide)
  obtain ⟨b2, g2⟩ : ∃ z, z = h0.size := ⟨_, rfl⟩
  rw [← g2] at A2 st2
  have V_b2 : Arv Z h2 b2 k2 (.object "com/example/interlace/interlace/types/BasicType") (18 : Int32) [.null, .null, .null, .null, .null, .null, .null, .null, .null, .null, .null, .null, .null, .null, .null, .null, .null, .null] .null := (Arv.new A2 (by decide)).pad (pad_rep [] .null 18)
  have g_b2 : n0 ≤ b2 := Nat.le_trans Z0 (Nat.le_of_eq g2.symm)
  have sz_b2 : h0.size ≤ b2 := (Nat.le_trans (Keep.refl h0 []).1 (Nat.le_of_eq g2.symm))
  have K2 : Keep h0 h2 [] := (Keep.refl h0 []).ext E2
  obtain ⟨T4, X4, e4, st4⟩ := getS2 X2 hx hZ hown (host := "") (Or.inl (hw _ (List.mem_of_getElem? (i := 2) rfl))) Via.refl e2 (own_sta_keep S_NIL K2) (g := (mkF m 7 #[.val (.int p1), .unset, .unset, .unset] [(.int (0 : Int32)), (.ref b2), (.ref b2)])) rfl (hb hby at_7)
  obtain ⟨cl_b2, Ar_b2, q_b2, S_b2, N_b2, H_b2, G_b2⟩ := V_b2
  have hin10 : ¬ ((0 : Int32) < 0 ∨ cl_b2.slots.size ≤ ((0 : Int32)).toNatClampNeg) := inb_of S_b2 ⟨by decide, by decide⟩
  have Sto10 : Sto Z h2 b2 (.ref (w 0)) := Sto.ofV Ar_b2 q_b2 O2 (Ins.self ((hE 0 (by decide)).keep K2))
  obtain ⟨T5, h5, X5, e5, W5, st5⟩ := stR X4 hx hZ e4 Ar_b2 (j := (0 : Int32)) hin10 rfl Sto10 (g := (mkF m 10 #[.val (.int p1), .unset, .unset, .unset] [(.ref (w 0)), (.int (0 : Int32)), (.ref b2), (.ref b2)])) rfl rfl (hb hby at_10)
  have V_b2_5 := Arv.set Ar_b2 q_b2 S_b2 N_b2 H_b2 G_b2 rfl W5 0 rfl (Nat.le_of_ble_eq_true rfl)
  have N5 := Fr.snoc X5 N0 g_b2
  have K5 : Keep h0 h5 [] := K2.wr W5 (Or.inr sz_b2)
  obtain ⟨T7, X7, e7, st7⟩ := getS2 X5 hx hZ hown (host := "") (Or.inl (hw _ (List.mem_of_getElem? (i := 6) rfl))) Via.refl e5 (own_sta_keep S_BOOLEAN K5) (g := (mkF m 13 #[.val (.int p1), .unset, .unset, .unset] [(.int (1 : Int32)), (.ref b2), (.ref b2)])) rfl (hb hby at_13)
  obtain ⟨cl_b2, Ar_b2, q_b2, S_b2, N_b2, H_b2, G_b2⟩ := V_b2_5
  have hin16 : ¬ ((1 : Int32) < 0 ∨ cl_b2.slots.size ≤ ((1 : Int32)).toNatClampNeg) := inb_of S_b2 ⟨by decide, by decide⟩
  have Sto16 : Sto Z h5 b2 (.ref (w 1)) := Sto.ofV Ar_b2 q_b2 O2 (Ins.self ((hE 1 (by decide)).keep K5))
  obtain ⟨T8, h8, X8, e8, W8, st8⟩ := stR X7 hx hZ e7 Ar_b2 (j := (1 : Int32)) hin16 rfl Sto16 (g := (mkF m 16 #[.val (.int p1), .unset, .unset, .unset] [(.ref (w 1)), (.int (1 : Int32)), (.ref b2), (.ref b2)])) rfl rfl (hb hby at_16)
  have V_b2_8 := Arv.set Ar_b2 q_b2 S_b2 N_b2 H_b2 G_b2 rfl W8 1 rfl (Nat.le_of_ble_eq_true rfl)
  have N8 := Fr.snoc X8 N5 g_b2
  have K8 : Keep h0 h8 [] := K5.wr W8 (Or.inr sz_b2)
  obtain ⟨T10, X10, e10, st10⟩ := getS2 X8 hx hZ hown (host := "") (Or.inl (hw _ (List.mem_of_getElem? (i := 8) rfl))) Via.refl e8 (own_sta_keep S_INT K8) (g := (mkF m 19 #[.val (.int p1), .unset, .unset, .unset] [(.int (2 : Int32)), (.ref b2), (.ref b2)])) rfl (hb hby at_19)
  obtain ⟨cl_b2, Ar_b2, q_b2, S_b2, N_b2, H_b2, G_b2⟩ := V_b2_8
  have hin22 : ¬ ((2 : Int32) < 0 ∨ cl_b2.slots.size ≤ ((2 : Int32)).toNatClampNeg) := inb_of S_b2 ⟨by decide, by decide⟩
  have Sto22 : Sto Z h8 b2 (.ref (w 2)) := Sto.ofV Ar_b2 q_b2 O2 (Ins.self ((hE 2 (by decide)).keep K8))
  obtain ⟨T11, h11, X11, e11, W11, st11⟩ := stR X10 hx hZ e10 Ar_b2 (j := (2 : Int32)) hin22 rfl Sto22 (g := (mkF m 22 #[.val (.int p1), .unset, .unset, .unset] [(.ref (w 2)), (.int (2 : Int32)), (.ref b2), (.ref b2)])) rfl rfl (hb hby at_22)
  have V_b2_11 := Arv.set Ar_b2 q_b2 S_b2 N_b2 H_b2 G_b2 rfl W11 2 rfl (Nat.le_of_ble_eq_true rfl)
  have N11 := Fr.snoc X11 N8 g_b2
  have K11 : Keep h0 h11 [] := K8.wr W11 (Or.inr sz_b2)
  obtain ⟨T13, X13, e13, st13⟩ := getS2 X11 hx hZ hown (host := "") (Or.inl (hw _ (List.mem_of_getElem? (i := 10) rfl))) Via.refl e11 (own_sta_keep S_FLOAT K11) (g := (mkF m 25 #[.val (.int p1), .unset, .unset, .unset] [(.int (3 : Int32)), (.ref b2), (.ref b2)])) rfl (hb hby at_25)
  obtain ⟨cl_b2, Ar_b2, q_b2, S_b2, N_b2, H_b2, G_b2⟩ := V_b2_11
  have hin28 : ¬ ((3 : Int32) < 0 ∨ cl_b2.slots.size ≤ ((3 : Int32)).toNatClampNeg) := inb_of S_b2 ⟨by decide, by decide⟩
  have Sto28 : Sto Z h11 b2 (.ref (w 3)) := Sto.ofV Ar_b2 q_b2 O2 (Ins.self ((hE 3 (by decide)).keep K11))
  obtain ⟨T14, h14, X14, e14, W14, st14⟩ := stR X13 hx hZ e13 Ar_b2 (j := (3 : Int32)) hin28 rfl Sto28 (g := (mkF m 28 #[.val (.int p1), .unset, .unset, .unset] [(.ref (w 3)), (.int (3 : Int32)), (.ref b2), (.ref b2)])) rfl rfl (hb hby at_28)
  have V_b2_14 := Arv.set Ar_b2 q_b2 S_b2 N_b2 H_b2 G_b2 rfl W14 3 rfl (Nat.le_of_ble_eq_true rfl)
  have N14 := Fr.snoc X14 N11 g_b2
  have K14 : Keep h0 h14 [] := K11.wr W14 (Or.inr sz_b2)
  obtain ⟨T16, X16, e16, st16⟩ := getS2 X14 hx hZ hown (host := "") (Or.inl (hw _ (List.mem_of_getElem? (i := 12) rfl))) Via.refl e14 (own_sta_keep S_DECIMAL K14) (g := (mkF m 31 #[.val (.int p1), .unset, .unset, .unset] [(.int (4 : Int32)), (.ref b2), (.ref b2)])) rfl (hb hby at_31)
  obtain ⟨cl_b2, Ar_b2, q_b2, S_b2, N_b2, H_b2, G_b2⟩ := V_b2_14
  have hin34 : ¬ ((4 : Int32) < 0 ∨ cl_b2.slots.size ≤ ((4 : Int32)).toNatClampNeg) := inb_of S_b2 ⟨by decide, by decide⟩
  have Sto34 : Sto Z h14 b2 (.ref (w 4)) := Sto.ofV Ar_b2 q_b2 O2 (Ins.self ((hE 4 (by decide)).keep K14))
  obtain ⟨T17, h17, X17, e17, W17, st17⟩ := stR X16 hx hZ e16 Ar_b2 (j := (4 : Int32)) hin34 rfl Sto34 (g := (mkF m 34 #[.val (.int p1), .unset, .unset, .unset] [(.ref (w 4)), (.int (4 : Int32)), (.ref b2), (.ref b2)])) rfl rfl (hb hby at_34)
  have V_b2_17 := Arv.set Ar_b2 q_b2 S_b2 N_b2 H_b2 G_b2 rfl W17 4 rfl (Nat.le_of_ble_eq_true rfl)
  have N17 := Fr.snoc X17 N14 g_b2
  have K17 : Keep h0 h17 [] := K14.wr W17 (Or.inr sz_b2)
  obtain ⟨T19, X19, e19, st19⟩ := getS2 X17 hx hZ hown (host := "") (Or.inl (hw _ (List.mem_of_getElem? (i := 14) rfl))) Via.refl e17 (own_sta_keep S_STRING K17) (g := (mkF m 37 #[.val (.int p1), .unset, .unset, .unset] [(.int (5 : Int32)), (.ref b2), (.ref b2)])) rfl (hb hby at_37)
  obtain ⟨cl_b2, Ar_b2, q_b2, S_b2, N_b2, H_b2, G_b2⟩ := V_b2_17
  have hin40 : ¬ ((5 : Int32) < 0 ∨ cl_b2.slots.size ≤ ((5 : Int32)).toNatClampNeg) := inb_of S_b2 ⟨by decide, by decide⟩
  have Sto40 : Sto Z h17 b2 (.ref (w 5)) := Sto.ofV Ar_b2 q_b2 O2 (Ins.self ((hE 5 (by decide)).keep K17))
  obtain ⟨T20, h20, X20, e20, W20, st20⟩ := stR X19 hx hZ e19 Ar_b2 (j := (5 : Int32)) hin40 rfl Sto40 (g := (mkF m 40 #[.val (.int p1), .unset, .unset, .unset] [(.ref (w 5)), (.int (5 : Int32)), (.ref b2), (.ref b2)])) rfl rfl (hb hby at_40)
  have V_b2_20 := Arv.set Ar_b2 q_b2 S_b2 N_b2 H_b2 G_b2 rfl W20 5 rfl (Nat.le_of_ble_eq_true rfl)
  have N20 := Fr.snoc X20 N17 g_b2
  have K20 : Keep h0 h20 [] := K17.wr W20 (Or.inr sz_b2)
  obtain ⟨T22, X22, e22, st22⟩ := getS2 X20 hx hZ hown (host := "") (Or.inl (hw _ (List.mem_of_getElem? (i := 16) rfl))) Via.refl e20 (own_sta_keep S_XML K20) (g := (mkF m 44 #[.val (.int p1), .unset, .unset, .unset] [(.int (6 : Int32)), (.ref b2), (.ref b2)])) rfl (hb hby at_44)
  obtain ⟨cl_b2, Ar_b2, q_b2, S_b2, N_b2, H_b2, G_b2⟩ := V_b2_20
  have hin47 : ¬ ((6 : Int32) < 0 ∨ cl_b2.slots.size ≤ ((6 : Int32)).toNatClampNeg) := inb_of S_b2 ⟨by decide, by decide⟩
  have Sto47 : Sto Z h20 b2 (.ref (w 6)) := Sto.ofV Ar_b2 q_b2 O2 (Ins.self ((hE 6 (by decide)).keep K20))
  obtain ⟨T23, h23, X23, e23, W23, st23⟩ := stR X22 hx hZ e22 Ar_b2 (j := (6 : Int32)) hin47 rfl Sto47 (g := (mkF m 47 #[.val (.int p1), .unset, .unset, .unset] [(.ref (w 6)), (.int (6 : Int32)), (.ref b2), (.ref b2)])) rfl rfl (hb hby at_47)
  have V_b2_23 := Arv.set Ar_b2 q_b2 S_b2 N_b2 H_b2 G_b2 rfl W23 6 rfl (Nat.le_of_ble_eq_true rfl)
  have N23 := Fr.snoc X23 N20 g_b2
  have K23 : Keep h0 h23 [] := K20.wr W23 (Or.inr sz_b2)
  obtain ⟨T25, X25, e25, st25⟩ := getS2 X23 hx hZ hown (host := "") (Or.inl (hw _ (List.mem_of_getElem? (i := 18) rfl))) Via.refl e23 (own_sta_keep S_REGEXP K23) (g := (mkF m 51 #[.val (.int p1), .unset, .unset, .unset] [(.int (7 : Int32)), (.ref b2), (.ref b2)])) rfl (hb hby at_51)
  obtain ⟨cl_b2, Ar_b2, q_b2, S_b2, N_b2, H_b2, G_b2⟩ := V_b2_23
  have hin54 : ¬ ((7 : Int32) < 0 ∨ cl_b2.slots.size ≤ ((7 : Int32)).toNatClampNeg) := inb_of S_b2 ⟨by decide, by decide⟩
  have Sto54 : Sto Z h23 b2 (.ref (w 7)) := Sto.ofV Ar_b2 q_b2 O2 (Ins.self ((hE 7 (by decide)).keep K23))
  obtain ⟨T26, h26, X26, e26, W26, st26⟩ := stR X25 hx hZ e25 Ar_b2 (j := (7 : Int32)) hin54 rfl Sto54 (g := (mkF m 54 #[.val (.int p1), .unset, .unset, .unset] [(.ref (w 7)), (.int (7 : Int32)), (.ref b2), (.ref b2)])) rfl rfl (hb hby at_54)
  have V_b2_26 := Arv.set Ar_b2 q_b2 S_b2 N_b2 H_b2 G_b2 rfl W26 7 rfl (Nat.le_of_ble_eq_true rfl)
  have N26 := Fr.snoc X26 N23 g_b2
  have K26 : Keep h0 h26 [] := K23.wr W26 (Or.inr sz_b2)
  obtain ⟨T28, X28, e28, st28⟩ := getS2 X26 hx hZ hown (host := "") (Or.inl (hw _ (List.mem_of_getElem? (i := 20) rfl))) Via.refl e26 (own_sta_keep S_LIST K26) (g := (mkF m 58 #[.val (.int p1), .unset, .unset, .unset] [(.int (8 : Int32)), (.ref b2), (.ref b2)])) rfl (hb hby at_58)
  obtain ⟨cl_b2, Ar_b2, q_b2, S_b2, N_b2, H_b2, G_b2⟩ := V_b2_26
  have hin61 : ¬ ((8 : Int32) < 0 ∨ cl_b2.slots.size ≤ ((8 : Int32)).toNatClampNeg) := inb_of S_b2 ⟨by decide, by decide⟩
  have Sto61 : Sto Z h26 b2 (.ref (w 8)) := Sto.ofV Ar_b2 q_b2 O2 (Ins.self ((hE 8 (by decide)).keep K26))
  obtain ⟨T29, h29, X29, e29, W29, st29⟩ := stR X28 hx hZ e28 Ar_b2 (j := (8 : Int32)) hin61 rfl Sto61 (g := (mkF m 61 #[.val (.int p1), .unset, .unset, .unset] [(.ref (w 8)), (.int (8 : Int32)), (.ref b2), (.ref b2)])) rfl rfl (hb hby at_61)
  have V_b2_29 := Arv.set Ar_b2 q_b2 S_b2 N_b2 H_b2 G_b2 rfl W29 8 rfl (Nat.le_of_ble_eq_true rfl)
  have N29 := Fr.snoc X29 N26 g_b2
  have K29 : Keep h0 h29 [] := K26.wr W29 (Or.inr sz_b2)
  obtain ⟨T31, X31, e31, st31⟩ := getS2 X29 hx hZ hown (host := "") (Or.inl (hw _ (List.mem_of_getElem? (i := 22) rfl))) Via.refl e29 (own_sta_keep S_MAPPING K29) (g := (mkF m 65 #[.val (.int p1), .unset, .unset, .unset] [(.int (9 : Int32)), (.ref b2), (.ref b2)])) rfl (hb hby at_65)
  obtain ⟨cl_b2, Ar_b2, q_b2, S_b2, N_b2, H_b2, G_b2⟩ := V_b2_29
  have hin68 : ¬ ((9 : Int32) < 0 ∨ cl_b2.slots.size ≤ ((9 : Int32)).toNatClampNeg) := inb_of S_b2 ⟨by decide, by decide⟩
  have Sto68 : Sto Z h29 b2 (.ref (w 9)) := Sto.ofV Ar_b2 q_b2 O2 (Ins.self ((hE 9 (by decide)).keep K29))
  obtain ⟨T32, h32, X32, e32, W32, st32⟩ := stR X31 hx hZ e31 Ar_b2 (j := (9 : Int32)) hin68 rfl Sto68 (g := (mkF m 68 #[.val (.int p1), .unset, .unset, .unset] [(.ref (w 9)), (.int (9 : Int32)), (.ref b2), (.ref b2)])) rfl rfl (hb hby at_68)
  have V_b2_32 := Arv.set Ar_b2 q_b2 S_b2 N_b2 H_b2 G_b2 rfl W32 9 rfl (Nat.le_of_ble_eq_true rfl)
  have N32 := Fr.snoc X32 N29 g_b2
  have K32 : Keep h0 h32 [] := K29.wr W32 (Or.inr sz_b2)
  obtain ⟨T34, X34, e34, st34⟩ := getS2 X32 hx hZ hown (host := "") (Or.inl (hw _ (List.mem_of_getElem? (i := 24) rfl))) Via.refl e32 (own_sta_keep S_TABLE K32) (g := (mkF m 72 #[.val (.int p1), .unset, .unset, .unset] [(.int (10 : Int32)), (.ref b2), (.ref b2)])) rfl (hb hby at_72)
  obtain ⟨cl_b2, Ar_b2, q_b2, S_b2, N_b2, H_b2, G_b2⟩ := V_b2_32
  have hin75 : ¬ ((10 : Int32) < 0 ∨ cl_b2.slots.size ≤ ((10 : Int32)).toNatClampNeg) := inb_of S_b2 ⟨by decide, by decide⟩
  have Sto75 : Sto Z h32 b2 (.ref (w 10)) := Sto.ofV Ar_b2 q_b2 O2 (Ins.self ((hE 10 (by decide)).keep K32))
  obtain ⟨T35, h35, X35, e35, W35, st35⟩ := stR X34 hx hZ e34 Ar_b2 (j := (10 : Int32)) hin75 rfl Sto75 (g := (mkF m 75 #[.val (.int p1), .unset, .unset, .unset] [(.ref (w 10)), (.int (10 : Int32)), (.ref b2), (.ref b2)])) rfl rfl (hb hby at_75)
  have V_b2_35 := Arv.set Ar_b2 q_b2 S_b2 N_b2 H_b2 G_b2 rfl W35 10 rfl (Nat.le_of_ble_eq_true rfl)
  have N35 := Fr.snoc X35 N32 g_b2
  have K35 : Keep h0 h35 [] := K32.wr W35 (Or.inr sz_b2)
  obtain ⟨T37, X37, e37, st37⟩ := getS2 X35 hx hZ hown (host := "") (Or.inl (hw _ (List.mem_of_getElem? (i := 26) rfl))) Via.refl e35 (own_sta_keep S_FUNCTION K35) (g := (mkF m 79 #[.val (.int p1), .unset, .unset, .unset] [(.int (11 : Int32)), (.ref b2), (.ref b2)])) rfl (hb hby at_79)
  obtain ⟨cl_b2, Ar_b2, q_b2, S_b2, N_b2, H_b2, G_b2⟩ := V_b2_35
  have hin82 : ¬ ((11 : Int32) < 0 ∨ cl_b2.slots.size ≤ ((11 : Int32)).toNatClampNeg) := inb_of S_b2 ⟨by decide, by decide⟩
  have Sto82 : Sto Z h35 b2 (.ref (w 11)) := Sto.ofV Ar_b2 q_b2 O2 (Ins.self ((hE 11 (by decide)).keep K35))
  obtain ⟨T38, h38, X38, e38, W38, st38⟩ := stR X37 hx hZ e37 Ar_b2 (j := (11 : Int32)) hin82 rfl Sto82 (g := (mkF m 82 #[.val (.int p1), .unset, .unset, .unset] [(.ref (w 11)), (.int (11 : Int32)), (.ref b2), (.ref b2)])) rfl rfl (hb hby at_82)
  have V_b2_38 := Arv.set Ar_b2 q_b2 S_b2 N_b2 H_b2 G_b2 rfl W38 11 rfl (Nat.le_of_ble_eq_true rfl)
  have N38 := Fr.snoc X38 N35 g_b2
  have K38 : Keep h0 h38 [] := K35.wr W38 (Or.inr sz_b2)
  obtain ⟨T40, X40, e40, st40⟩ := getS2 X38 hx hZ hown (host := "") (Or.inl (hw _ (List.mem_of_getElem? (i := 28) rfl))) Via.refl e38 (own_sta_keep S_TYPEDESC K38) (g := (mkF m 86 #[.val (.int p1), .unset, .unset, .unset] [(.int (12 : Int32)), (.ref b2), (.ref b2)])) rfl (hb hby at_86)
  obtain ⟨cl_b2, Ar_b2, q_b2, S_b2, N_b2, H_b2, G_b2⟩ := V_b2_38
  have hin89 : ¬ ((12 : Int32) < 0 ∨ cl_b2.slots.size ≤ ((12 : Int32)).toNatClampNeg) := inb_of S_b2 ⟨by decide, by decide⟩
  have Sto89 : Sto Z h38 b2 (.ref (w 12)) := Sto.ofV Ar_b2 q_b2 O2 (Ins.self ((hE 12 (by decide)).keep K38))
  obtain ⟨T41, h41, X41, e41, W41, st41⟩ := stR X40 hx hZ e40 Ar_b2 (j := (12 : Int32)) hin89 rfl Sto89 (g := (mkF m 89 #[.val (.int p1), .unset, .unset, .unset] [(.ref (w 12)), (.int (12 : Int32)), (.ref b2), (.ref b2)])) rfl rfl (hb hby at_89)
  have V_b2_41 := Arv.set Ar_b2 q_b2 S_b2 N_b2 H_b2 G_b2 rfl W41 12 rfl (Nat.le_of_ble_eq_true rfl)
  have N41 := Fr.snoc X41 N38 g_b2
  have K41 : Keep h0 h41 [] := K38.wr W41 (Or.inr sz_b2)
  obtain ⟨T43, X43, e43, st43⟩ := getS2 X41 hx hZ hown (host := "") (Or.inl (hw _ (List.mem_of_getElem? (i := 30) rfl))) Via.refl e41 (own_sta_keep S_HANDLE K41) (g := (mkF m 93 #[.val (.int p1), .unset, .unset, .unset] [(.int (13 : Int32)), (.ref b2), (.ref b2)])) rfl (hb hby at_93)
  obtain ⟨cl_b2, Ar_b2, q_b2, S_b2, N_b2, H_b2, G_b2⟩ := V_b2_41
  have hin96 : ¬ ((13 : Int32) < 0 ∨ cl_b2.slots.size ≤ ((13 : Int32)).toNatClampNeg) := inb_of S_b2 ⟨by decide, by decide⟩
  have Sto96 : Sto Z h41 b2 (.ref (w 13)) := Sto.ofV Ar_b2 q_b2 O2 (Ins.self ((hE 13 (by decide)).keep K41))
  obtain ⟨T44, h44, X44, e44, W44, st44⟩ := stR X43 hx hZ e43 Ar_b2 (j := (13 : Int32)) hin96 rfl Sto96 (g := (mkF m 96 #[.val (.int p1), .unset, .unset, .unset] [(.ref (w 13)), (.int (13 : Int32)), (.ref b2), (.ref b2)])) rfl rfl (hb hby at_96)
  have V_b2_44 := Arv.set Ar_b2 q_b2 S_b2 N_b2 H_b2 G_b2 rfl W44 13 rfl (Nat.le_of_ble_eq_true rfl)
  have N44 := Fr.snoc X44 N41 g_b2
  have K44 : Keep h0 h44 [] := K41.wr W44 (Or.inr sz_b2)
  obtain ⟨T46, X46, e46, st46⟩ := getS2 X44 hx hZ hown (host := "") (Or.inl (hw _ (List.mem_of_getElem? (i := 32) rfl))) Via.refl e44 (own_sta_keep S_OBJECT K44) (g := (mkF m 100 #[.val (.int p1), .unset, .unset, .unset] [(.int (14 : Int32)), (.ref b2), (.ref b2)])) rfl (hb hby at_100)
  obtain ⟨cl_b2, Ar_b2, q_b2, S_b2, N_b2, H_b2, G_b2⟩ := V_b2_44
  have hin103 : ¬ ((14 : Int32) < 0 ∨ cl_b2.slots.size ≤ ((14 : Int32)).toNatClampNeg) := inb_of S_b2 ⟨by decide, by decide⟩
  have Sto103 : Sto Z h44 b2 (.ref (w 14)) := Sto.ofV Ar_b2 q_b2 O2 (Ins.self ((hE 14 (by decide)).keep K44))
  obtain ⟨T47, h47, X47, e47, W47, st47⟩ := stR X46 hx hZ e46 Ar_b2 (j := (14 : Int32)) hin103 rfl Sto103 (g := (mkF m 103 #[.val (.int p1), .unset, .unset, .unset] [(.ref (w 14)), (.int (14 : Int32)), (.ref b2), (.ref b2)])) rfl rfl (hb hby at_103)
  have V_b2_47 := Arv.set Ar_b2 q_b2 S_b2 N_b2 H_b2 G_b2 rfl W47 14 rfl (Nat.le_of_ble_eq_true rfl)
  have N47 := Fr.snoc X47 N44 g_b2
  have K47 : Keep h0 h47 [] := K44.wr W47 (Or.inr sz_b2)
  obtain ⟨T49, X49, e49, st49⟩ := getS2 X47 hx hZ hown (host := "") (Or.inl (hw _ (List.mem_of_getElem? (i := 34) rfl))) Via.refl e47 (own_sta_keep S_FUTURE K47) (g := (mkF m 107 #[.val (.int p1), .unset, .unset, .unset] [(.int (15 : Int32)), (.ref b2), (.ref b2)])) rfl (hb hby at_107)
  obtain ⟨cl_b2, Ar_b2, q_b2, S_b2, N_b2, H_b2, G_b2⟩ := V_b2_47
  have hin110 : ¬ ((15 : Int32) < 0 ∨ cl_b2.slots.size ≤ ((15 : Int32)).toNatClampNeg) := inb_of S_b2 ⟨by decide, by decide⟩
  have Sto110 : Sto Z h47 b2 (.ref (w 15)) := Sto.ofV Ar_b2 q_b2 O2 (Ins.self ((hE 15 (by decide)).keep K47))
  obtain ⟨T50, h50, X50, e50, W50, st50⟩ := stR X49 hx hZ e49 Ar_b2 (j := (15 : Int32)) hin110 rfl Sto110 (g := (mkF m 110 #[.val (.int p1), .unset, .unset, .unset] [(.ref (w 15)), (.int (15 : Int32)), (.ref b2), (.ref b2)])) rfl rfl (hb hby at_110)
  have V_b2_50 := Arv.set Ar_b2 q_b2 S_b2 N_b2 H_b2 G_b2 rfl W50 15 rfl (Nat.le_of_ble_eq_true rfl)
  have N50 := Fr.snoc X50 N47 g_b2
  have K50 : Keep h0 h50 [] := K47.wr W50 (Or.inr sz_b2)
  obtain ⟨T52, X52, e52, st52⟩ := getS2 X50 hx hZ hown (host := "") (Or.inl (hw _ (List.mem_of_getElem? (i := 36) rfl))) Via.refl e50 (own_sta_keep S_STREAM K50) (g := (mkF m 114 #[.val (.int p1), .unset, .unset, .unset] [(.int (16 : Int32)), (.ref b2), (.ref b2)])) rfl (hb hby at_114)
  obtain ⟨cl_b2, Ar_b2, q_b2, S_b2, N_b2, H_b2, G_b2⟩ := V_b2_50
  have hin117 : ¬ ((16 : Int32) < 0 ∨ cl_b2.slots.size ≤ ((16 : Int32)).toNatClampNeg) := inb_of S_b2 ⟨by decide, by decide⟩
  have Sto117 : Sto Z h50 b2 (.ref (w 16)) := Sto.ofV Ar_b2 q_b2 O2 (Ins.self ((hE 16 (by decide)).keep K50))
  obtain ⟨T53, h53, X53, e53, W53, st53⟩ := stR X52 hx hZ e52 Ar_b2 (j := (16 : Int32)) hin117 rfl Sto117 (g := (mkF m 117 #[.val (.int p1), .unset, .unset, .unset] [(.ref (w 16)), (.int (16 : Int32)), (.ref b2), (.ref b2)])) rfl rfl (hb hby at_117)
  have V_b2_53 := Arv.set Ar_b2 q_b2 S_b2 N_b2 H_b2 G_b2 rfl W53 16 rfl (Nat.le_of_ble_eq_true rfl)
  have N53 := Fr.snoc X53 N50 g_b2
  have K53 : Keep h0 h53 [] := K50.wr W53 (Or.inr sz_b2)
  obtain ⟨T55, X55, e55, st55⟩ := getS2 X53 hx hZ hown (host := "") (Or.inl (hw _ (List.mem_of_getElem? (i := 38) rfl))) Via.refl e53 (own_sta_keep S_ERROR K53) (g := (mkF m 121 #[.val (.int p1), .unset, .unset, .unset] [(.int (17 : Int32)), (.ref b2), (.ref b2)])) rfl (hb hby at_121)
  obtain ⟨cl_b2, Ar_b2, q_b2, S_b2, N_b2, H_b2, G_b2⟩ := V_b2_53
  have hin124 : ¬ ((17 : Int32) < 0 ∨ cl_b2.slots.size ≤ ((17 : Int32)).toNatClampNeg) := inb_of S_b2 ⟨by decide, by decide⟩
  have Sto124 : Sto Z h53 b2 (.ref (w 17)) := Sto.ofV Ar_b2 q_b2 O2 (Ins.self ((hE 17 (by decide)).keep K53))
  obtain ⟨T56, h56, X56, e56, W56, st56⟩ := stR X55 hx hZ e55 Ar_b2 (j := (17 : Int32)) hin124 rfl Sto124 (g := (mkF m 124 #[.val (.int p1), .unset, .unset, .unset] [(.ref (w 17)), (.int (17 : Int32)), (.ref b2), (.ref b2)])) rfl rfl (hb hby at_124)
  have V_b2_56 := Arv.set Ar_b2 q_b2 S_b2 N_b2 H_b2 G_b2 rfl W56 17 rfl (Nat.le_of_ble_eq_true rfl)
  have N56 := Fr.snoc X56 N53 g_b2
  have K56 : Keep h0 h56 [] := K53.wr W56 (Or.inr sz_b2)
  have V_end : Arv Z h56 b2 k2 (.object "com/example/interlace/interlace/types/BasicType") (18 : Int32) ((List.range 18).map fun i => .ref (w i)) .null := V_b2_56
  obtain ⟨cl_b2, Ar_b2, q_b2, S_b2, N_b2, H_b2, G_b2⟩ := V_end
  obtain ⟨j, hjd⟩ : ∃ z, z = (p1 &&& (2147483647 : Int32)) % (18 : Int32) := ⟨_, rfl⟩
  have hj : 0 ≤ j.toInt ∧ j.toInt < 18 := by rw [hjd]; exact own_idx p1
  have hJ : j.toNatClampNeg < 18 := by rw [own_clamp]; omega
  have hin160 : ¬ (j < 0 ∨ cl_b2.slots.size ≤ j.toNatClampNeg) := inb_of S_b2 (by
    have q1 : (0 : Int32).toInt = 0 := rfl
    have q2 : (18 : Int32).toInt = 18 := rfl
    rw [Int32.lt_iff_toInt_lt, Int32.lt_iff_toInt_lt]; omega)
  have hat160 := H_b2.at hin160 (own_getR w j.toNatClampNeg hJ)
  have hinj : ∀ a b, a < 18 → b < 18 → w a = w b → a = b := fun a b ha hb q => own_inj (hO a ha) (hO b hb) ha hb q
  have Z56 : n0 ≤ h56.size := Nat.le_trans Z0 K56.1
  have hval : own_is (w j.toNatClampNeg) (w 8) (w 9) (w 10) = own_exp j := own_val w hinj j hj.1 hj.2
  obtain ⟨cq58, kq58, q58a, q58b, q58c⟩ := isOf hZ e56 ((hE j.toNatClampNeg hJ).keep K56)
  obtain ⟨_, _, ⟨T58, L58, k58, n58⟩, -, X58, ⟨Lc58, hQ58, l58, y58, z58⟩, st58⟩ := X56.virtualBack hx (y := (⟨"com/example/interlace/interlace/types/BasicType", "isStructured", "()Z"⟩ : MethodName)) (z := (⟨"com/example/interlace/interlace/types/BasicType", "isStructured", "()Z"⟩ : MethodName)) hown (mvT hZ (hw _ (List.mem_of_getElem? (i := 41) rfl))) (mvT hZ (hw _ (List.mem_of_getElem? (i := 42) rfl))) (notFace_of_selects (args := #[]) (mvT hZ (hw _ (List.mem_of_getElem? (i := 44) rfl)))) (mvT hZ (hw _ (List.mem_of_getElem? (i := 44) rfl))) (mvT hZ (hw _ (List.mem_of_getElem? (i := 43) rfl))) (by decide) (backOf (W := 0) (rm1 l Z a0 hw [] (w j.toNatClampNeg) (w 8) (w 9) (w 10) h56 n0 Z56 (own_sta_keep S_LIST K56) (own_sta_keep S_MAPPING K56) (own_sta_keep S_TABLE K56)) hZ (hw _ (List.mem_of_getElem? (i := 45) rfl)) (hw _ (List.mem_of_getElem? (i := 3) rfl)) (by decide) (by decide)) q58a q58c (g := (mkF m 161 #[.val (.int p1), .val (.ref b2), .val (.int j), .val (.int (own_exp j))] [(.ref (w j.toNatClampNeg))])) rfl (by rw [hml]; rfl) (Steps.refl _) (argsL := []) (rest := []) (lenOf pd_0_0 rfl) rfl (by show 2 * 0 + _ ≤ _; exact Nat.le_of_eq rfl) (hb hby at_161) (fun _ _ => ⟨rfl, e56, (by decide : 1 + 0 ≤ _), (by decide : 18 + 0 ≤ _)⟩)
  dsimp only [Pt.U, Pt.locs, Pt.cells, Pt.slots] at X58 l58 y58 z58 st58 hQ58
  subst l58 y58 z58
  obtain ⟨rfl, N58q, eq58⟩ := hQ58
  rw [hval] at st58
  have N58 := Fr.app N56 N58q
  have seg : ∀ target, Steps p.tables e below (T56.setTop (mkF m 157 #[.val (.int p1), .val (.ref b2), .val (.int j), .unset] [(.int (own_exp j))])) target → Steps p.tables e below (T56.setTop (mkF m 134 #[.val (.int p1), .val (.ref b2), .val (.int j), .unset] [])) target := by
    intro target k
    have one : own_exp j = 1 → Steps p.tables e below (T56.setTop (mkF m 152 #[.val (.int p1), .val (.ref b2), .val (.int j), .unset] [])) target := by
      intro q
      refine XS.iconst X56.here hx rfl (hb hby at_152) ?_
      show Steps p.tables e below (T56.setTop (mkF m 153 #[.val (.int p1), .val (.ref b2), .val (.int j), .unset] [(.int (1 : Int32))])) _
      refine XS.goto X56.here hx rfl (pc0 := 153) (pc' := 157) rfl (hb hby at_153) (by decide) (by decide) ?_
      rw [q] at k
      exact k
    refine XS.iloadN X56.here hx rfl (hb hby at_134) rfl ?_
    show Steps p.tables e below (T56.setTop (mkF m 135 #[.val (.int p1), .val (.ref b2), .val (.int j), .unset] [(.int j)])) _
    refine XS.bipush X56.here hx rfl (hb hby at_135) ?_
    show Steps p.tables e below (T56.setTop (mkF m 137 #[.val (.int p1), .val (.ref b2), .val (.int j), .unset] [(.int (8 : Int32)), (.int j)])) _
    by_cases c8 : j = 8
    · refine XS.icmpYes X56.here hx rfl (pc0 := 137) (pc' := 152) rfl (hb hby at_137) rfl (teq c8).1 (by decide) (by decide) ?_
      exact one (by simp [own_exp, c8])
    refine XS.icmpNo X56.here hx rfl (hb hby at_137) rfl (feq c8).1 ?_
    show Steps p.tables e below (T56.setTop (mkF m 140 #[.val (.int p1), .val (.ref b2), .val (.int j), .unset] [])) _
    refine XS.iloadN X56.here hx rfl (hb hby at_140) rfl ?_
    show Steps p.tables e below (T56.setTop (mkF m 141 #[.val (.int p1), .val (.ref b2), .val (.int j), .unset] [(.int j)])) _
    refine XS.bipush X56.here hx rfl (hb hby at_141) ?_
    show Steps p.tables e below (T56.setTop (mkF m 143 #[.val (.int p1), .val (.ref b2), .val (.int j), .unset] [(.int (9 : Int32)), (.int j)])) _
    by_cases c9 : j = 9
    · refine XS.icmpYes X56.here hx rfl (pc0 := 143) (pc' := 152) rfl (hb hby at_143) rfl (teq c9).1 (by decide) (by decide) ?_
      exact one (by simp [own_exp, c9])
    refine XS.icmpNo X56.here hx rfl (hb hby at_143) rfl (feq c9).1 ?_
    show Steps p.tables e below (T56.setTop (mkF m 146 #[.val (.int p1), .val (.ref b2), .val (.int j), .unset] [])) _
    refine XS.iloadN X56.here hx rfl (hb hby at_146) rfl ?_
    show Steps p.tables e below (T56.setTop (mkF m 147 #[.val (.int p1), .val (.ref b2), .val (.int j), .unset] [(.int j)])) _
    refine XS.bipush X56.here hx rfl (hb hby at_147) ?_
    show Steps p.tables e below (T56.setTop (mkF m 149 #[.val (.int p1), .val (.ref b2), .val (.int j), .unset] [(.int (10 : Int32)), (.int j)])) _
    by_cases c10 : j = 10
    · refine XS.icmpNo X56.here hx rfl (hb hby at_149) rfl (teq c10).2 ?_
      exact one (by simp [own_exp, c10])
    refine XS.icmpYes X56.here hx rfl (pc0 := 149) (pc' := 156) rfl (hb hby at_149) rfl (feq c10).2 (by decide) (by decide) ?_
    show Steps p.tables e below (T56.setTop (mkF m 156 #[.val (.int p1), .val (.ref b2), .val (.int j), .unset] [])) _
    refine XS.iconst X56.here hx rfl (hb hby at_156) ?_
    rw [show own_exp j = 0 by simp [own_exp, c8, c9, c10]] at k
    exact k
  obtain ⟨fs, hr, hrun, hended, hW, hsame⟩ := X58.leave (v := some (.int (1 : Int32))) (fun h => by rw [Bd.returns] at h; cases h)
  refine ⟨_, _, pre0 _ ?_, hrun, hended, _, _, rfl, ?_, ⟨_, rfl⟩, hW, hsame.mono (by decide) (by decide)⟩
  · show Steps p.tables e below (s₁.setTop (mkF m 0 #[.val (.int p1), .unset, .unset, .unset] [])) _
    refine XS.bipush X0.here hx rfl (hb hby at_0) ?_
    show Steps p.tables e below (s₁.setTop (mkF m 2 #[.val (.int p1), .unset, .unset, .unset] [(.int (18 : Int32))])) _
    refine st2 _ ?_
    show Steps p.tables e below (T2.setTop (mkF m 5 #[.val (.int p1), .unset, .unset, .unset] [(.ref b2)])) _
    refine XS.dup X2.here hx rfl (hb hby at_5) rfl rfl ?_
    show Steps p.tables e below (T2.setTop (mkF m 6 #[.val (.int p1), .unset, .unset, .unset] [(.ref b2), (.ref b2)])) _
    refine XS.iconst X2.here hx rfl (hb hby at_6) ?_
    show Steps p.tables e below (T2.setTop (mkF m 7 #[.val (.int p1), .unset, .unset, .unset] [(.int (0 : Int32)), (.ref b2), (.ref b2)])) _
    refine st4 _ ?_
    show Steps p.tables e below (T4.setTop (mkF m 10 #[.val (.int p1), .unset, .unset, .unset] [(.ref (w 0)), (.int (0 : Int32)), (.ref b2), (.ref b2)])) _
    refine st5 _ ?_
    show Steps p.tables e below (T5.setTop (mkF m 11 #[.val (.int p1), .unset, .unset, .unset] [(.ref b2)])) _
    refine XS.dup X5.here hx rfl (hb hby at_11) rfl rfl ?_
    show Steps p.tables e below (T5.setTop (mkF m 12 #[.val (.int p1), .unset, .unset, .unset] [(.ref b2), (.ref b2)])) _
    refine XS.iconst X5.here hx rfl (hb hby at_12) ?_
    show Steps p.tables e below (T5.setTop (mkF m 13 #[.val (.int p1), .unset, .unset, .unset] [(.int (1 : Int32)), (.ref b2), (.ref b2)])) _
    refine st7 _ ?_
    show Steps p.tables e below (T7.setTop (mkF m 16 #[.val (.int p1), .unset, .unset, .unset] [(.ref (w 1)), (.int (1 : Int32)), (.ref b2), (.ref b2)])) _
    refine st8 _ ?_
    show Steps p.tables e below (T8.setTop (mkF m 17 #[.val (.int p1), .unset, .unset, .unset] [(.ref b2)])) _
    refine XS.dup X8.here hx rfl (hb hby at_17) rfl rfl ?_
    show Steps p.tables e below (T8.setTop (mkF m 18 #[.val (.int p1), .unset, .unset, .unset] [(.ref b2), (.ref b2)])) _
    refine XS.iconst X8.here hx rfl (hb hby at_18) ?_
    show Steps p.tables e below (T8.setTop (mkF m 19 #[.val (.int p1), .unset, .unset, .unset] [(.int (2 : Int32)), (.ref b2), (.ref b2)])) _
    refine st10 _ ?_
    show Steps p.tables e below (T10.setTop (mkF m 22 #[.val (.int p1), .unset, .unset, .unset] [(.ref (w 2)), (.int (2 : Int32)), (.ref b2), (.ref b2)])) _
    refine st11 _ ?_
    show Steps p.tables e below (T11.setTop (mkF m 23 #[.val (.int p1), .unset, .unset, .unset] [(.ref b2)])) _
    refine XS.dup X11.here hx rfl (hb hby at_23) rfl rfl ?_
    show Steps p.tables e below (T11.setTop (mkF m 24 #[.val (.int p1), .unset, .unset, .unset] [(.ref b2), (.ref b2)])) _
    refine XS.iconst X11.here hx rfl (hb hby at_24) ?_
    show Steps p.tables e below (T11.setTop (mkF m 25 #[.val (.int p1), .unset, .unset, .unset] [(.int (3 : Int32)), (.ref b2), (.ref b2)])) _
    refine st13 _ ?_
    show Steps p.tables e below (T13.setTop (mkF m 28 #[.val (.int p1), .unset, .unset, .unset] [(.ref (w 3)), (.int (3 : Int32)), (.ref b2), (.ref b2)])) _
    refine st14 _ ?_
    show Steps p.tables e below (T14.setTop (mkF m 29 #[.val (.int p1), .unset, .unset, .unset] [(.ref b2)])) _
    refine XS.dup X14.here hx rfl (hb hby at_29) rfl rfl ?_
    show Steps p.tables e below (T14.setTop (mkF m 30 #[.val (.int p1), .unset, .unset, .unset] [(.ref b2), (.ref b2)])) _
    refine XS.iconst X14.here hx rfl (hb hby at_30) ?_
    show Steps p.tables e below (T14.setTop (mkF m 31 #[.val (.int p1), .unset, .unset, .unset] [(.int (4 : Int32)), (.ref b2), (.ref b2)])) _
    refine st16 _ ?_
    show Steps p.tables e below (T16.setTop (mkF m 34 #[.val (.int p1), .unset, .unset, .unset] [(.ref (w 4)), (.int (4 : Int32)), (.ref b2), (.ref b2)])) _
    refine st17 _ ?_
    show Steps p.tables e below (T17.setTop (mkF m 35 #[.val (.int p1), .unset, .unset, .unset] [(.ref b2)])) _
    refine XS.dup X17.here hx rfl (hb hby at_35) rfl rfl ?_
    show Steps p.tables e below (T17.setTop (mkF m 36 #[.val (.int p1), .unset, .unset, .unset] [(.ref b2), (.ref b2)])) _
    refine XS.iconst X17.here hx rfl (hb hby at_36) ?_
    show Steps p.tables e below (T17.setTop (mkF m 37 #[.val (.int p1), .unset, .unset, .unset] [(.int (5 : Int32)), (.ref b2), (.ref b2)])) _
    refine st19 _ ?_
    show Steps p.tables e below (T19.setTop (mkF m 40 #[.val (.int p1), .unset, .unset, .unset] [(.ref (w 5)), (.int (5 : Int32)), (.ref b2), (.ref b2)])) _
    refine st20 _ ?_
    show Steps p.tables e below (T20.setTop (mkF m 41 #[.val (.int p1), .unset, .unset, .unset] [(.ref b2)])) _
    refine XS.dup X20.here hx rfl (hb hby at_41) rfl rfl ?_
    show Steps p.tables e below (T20.setTop (mkF m 42 #[.val (.int p1), .unset, .unset, .unset] [(.ref b2), (.ref b2)])) _
    refine XS.bipush X20.here hx rfl (hb hby at_42) ?_
    show Steps p.tables e below (T20.setTop (mkF m 44 #[.val (.int p1), .unset, .unset, .unset] [(.int (6 : Int32)), (.ref b2), (.ref b2)])) _
    refine st22 _ ?_
    show Steps p.tables e below (T22.setTop (mkF m 47 #[.val (.int p1), .unset, .unset, .unset] [(.ref (w 6)), (.int (6 : Int32)), (.ref b2), (.ref b2)])) _
    refine st23 _ ?_
    show Steps p.tables e below (T23.setTop (mkF m 48 #[.val (.int p1), .unset, .unset, .unset] [(.ref b2)])) _
    refine XS.dup X23.here hx rfl (hb hby at_48) rfl rfl ?_
    show Steps p.tables e below (T23.setTop (mkF m 49 #[.val (.int p1), .unset, .unset, .unset] [(.ref b2), (.ref b2)])) _
    refine XS.bipush X23.here hx rfl (hb hby at_49) ?_
    show Steps p.tables e below (T23.setTop (mkF m 51 #[.val (.int p1), .unset, .unset, .unset] [(.int (7 : Int32)), (.ref b2), (.ref b2)])) _
    refine st25 _ ?_
    show Steps p.tables e below (T25.setTop (mkF m 54 #[.val (.int p1), .unset, .unset, .unset] [(.ref (w 7)), (.int (7 : Int32)), (.ref b2), (.ref b2)])) _
    refine st26 _ ?_
    show Steps p.tables e below (T26.setTop (mkF m 55 #[.val (.int p1), .unset, .unset, .unset] [(.ref b2)])) _
    refine XS.dup X26.here hx rfl (hb hby at_55) rfl rfl ?_
    show Steps p.tables e below (T26.setTop (mkF m 56 #[.val (.int p1), .unset, .unset, .unset] [(.ref b2), (.ref b2)])) _
    refine XS.bipush X26.here hx rfl (hb hby at_56) ?_
    show Steps p.tables e below (T26.setTop (mkF m 58 #[.val (.int p1), .unset, .unset, .unset] [(.int (8 : Int32)), (.ref b2), (.ref b2)])) _
    refine st28 _ ?_
    show Steps p.tables e below (T28.setTop (mkF m 61 #[.val (.int p1), .unset, .unset, .unset] [(.ref (w 8)), (.int (8 : Int32)), (.ref b2), (.ref b2)])) _
    refine st29 _ ?_
    show Steps p.tables e below (T29.setTop (mkF m 62 #[.val (.int p1), .unset, .unset, .unset] [(.ref b2)])) _
    refine XS.dup X29.here hx rfl (hb hby at_62) rfl rfl ?_
    show Steps p.tables e below (T29.setTop (mkF m 63 #[.val (.int p1), .unset, .unset, .unset] [(.ref b2), (.ref b2)])) _
    refine XS.bipush X29.here hx rfl (hb hby at_63) ?_
    show Steps p.tables e below (T29.setTop (mkF m 65 #[.val (.int p1), .unset, .unset, .unset] [(.int (9 : Int32)), (.ref b2), (.ref b2)])) _
    refine st31 _ ?_
    show Steps p.tables e below (T31.setTop (mkF m 68 #[.val (.int p1), .unset, .unset, .unset] [(.ref (w 9)), (.int (9 : Int32)), (.ref b2), (.ref b2)])) _
    refine st32 _ ?_
    show Steps p.tables e below (T32.setTop (mkF m 69 #[.val (.int p1), .unset, .unset, .unset] [(.ref b2)])) _
    refine XS.dup X32.here hx rfl (hb hby at_69) rfl rfl ?_
    show Steps p.tables e below (T32.setTop (mkF m 70 #[.val (.int p1), .unset, .unset, .unset] [(.ref b2), (.ref b2)])) _
    refine XS.bipush X32.here hx rfl (hb hby at_70) ?_
    show Steps p.tables e below (T32.setTop (mkF m 72 #[.val (.int p1), .unset, .unset, .unset] [(.int (10 : Int32)), (.ref b2), (.ref b2)])) _
    refine st34 _ ?_
    show Steps p.tables e below (T34.setTop (mkF m 75 #[.val (.int p1), .unset, .unset, .unset] [(.ref (w 10)), (.int (10 : Int32)), (.ref b2), (.ref b2)])) _
    refine st35 _ ?_
    show Steps p.tables e below (T35.setTop (mkF m 76 #[.val (.int p1), .unset, .unset, .unset] [(.ref b2)])) _
    refine XS.dup X35.here hx rfl (hb hby at_76) rfl rfl ?_
    show Steps p.tables e below (T35.setTop (mkF m 77 #[.val (.int p1), .unset, .unset, .unset] [(.ref b2), (.ref b2)])) _
    refine XS.bipush X35.here hx rfl (hb hby at_77) ?_
    show Steps p.tables e below (T35.setTop (mkF m 79 #[.val (.int p1), .unset, .unset, .unset] [(.int (11 : Int32)), (.ref b2), (.ref b2)])) _
    refine st37 _ ?_
    show Steps p.tables e below (T37.setTop (mkF m 82 #[.val (.int p1), .unset, .unset, .unset] [(.ref (w 11)), (.int (11 : Int32)), (.ref b2), (.ref b2)])) _
    refine st38 _ ?_
    show Steps p.tables e below (T38.setTop (mkF m 83 #[.val (.int p1), .unset, .unset, .unset] [(.ref b2)])) _
    refine XS.dup X38.here hx rfl (hb hby at_83) rfl rfl ?_
    show Steps p.tables e below (T38.setTop (mkF m 84 #[.val (.int p1), .unset, .unset, .unset] [(.ref b2), (.ref b2)])) _
    refine XS.bipush X38.here hx rfl (hb hby at_84) ?_
    show Steps p.tables e below (T38.setTop (mkF m 86 #[.val (.int p1), .unset, .unset, .unset] [(.int (12 : Int32)), (.ref b2), (.ref b2)])) _
    refine st40 _ ?_
    show Steps p.tables e below (T40.setTop (mkF m 89 #[.val (.int p1), .unset, .unset, .unset] [(.ref (w 12)), (.int (12 : Int32)), (.ref b2), (.ref b2)])) _
    refine st41 _ ?_
    show Steps p.tables e below (T41.setTop (mkF m 90 #[.val (.int p1), .unset, .unset, .unset] [(.ref b2)])) _
    refine XS.dup X41.here hx rfl (hb hby at_90) rfl rfl ?_
    show Steps p.tables e below (T41.setTop (mkF m 91 #[.val (.int p1), .unset, .unset, .unset] [(.ref b2), (.ref b2)])) _
    refine XS.bipush X41.here hx rfl (hb hby at_91) ?_
    show Steps p.tables e below (T41.setTop (mkF m 93 #[.val (.int p1), .unset, .unset, .unset] [(.int (13 : Int32)), (.ref b2), (.ref b2)])) _
    refine st43 _ ?_
    show Steps p.tables e below (T43.setTop (mkF m 96 #[.val (.int p1), .unset, .unset, .unset] [(.ref (w 13)), (.int (13 : Int32)), (.ref b2), (.ref b2)])) _
    refine st44 _ ?_
    show Steps p.tables e below (T44.setTop (mkF m 97 #[.val (.int p1), .unset, .unset, .unset] [(.ref b2)])) _
    refine XS.dup X44.here hx rfl (hb hby at_97) rfl rfl ?_
    show Steps p.tables e below (T44.setTop (mkF m 98 #[.val (.int p1), .unset, .unset, .unset] [(.ref b2), (.ref b2)])) _
    refine XS.bipush X44.here hx rfl (hb hby at_98) ?_
    show Steps p.tables e below (T44.setTop (mkF m 100 #[.val (.int p1), .unset, .unset, .unset] [(.int (14 : Int32)), (.ref b2), (.ref b2)])) _
    refine st46 _ ?_
    show Steps p.tables e below (T46.setTop (mkF m 103 #[.val (.int p1), .unset, .unset, .unset] [(.ref (w 14)), (.int (14 : Int32)), (.ref b2), (.ref b2)])) _
    refine st47 _ ?_
    show Steps p.tables e below (T47.setTop (mkF m 104 #[.val (.int p1), .unset, .unset, .unset] [(.ref b2)])) _
    refine XS.dup X47.here hx rfl (hb hby at_104) rfl rfl ?_
    show Steps p.tables e below (T47.setTop (mkF m 105 #[.val (.int p1), .unset, .unset, .unset] [(.ref b2), (.ref b2)])) _
    refine XS.bipush X47.here hx rfl (hb hby at_105) ?_
    show Steps p.tables e below (T47.setTop (mkF m 107 #[.val (.int p1), .unset, .unset, .unset] [(.int (15 : Int32)), (.ref b2), (.ref b2)])) _
    refine st49 _ ?_
    show Steps p.tables e below (T49.setTop (mkF m 110 #[.val (.int p1), .unset, .unset, .unset] [(.ref (w 15)), (.int (15 : Int32)), (.ref b2), (.ref b2)])) _
    refine st50 _ ?_
    show Steps p.tables e below (T50.setTop (mkF m 111 #[.val (.int p1), .unset, .unset, .unset] [(.ref b2)])) _
    refine XS.dup X50.here hx rfl (hb hby at_111) rfl rfl ?_
    show Steps p.tables e below (T50.setTop (mkF m 112 #[.val (.int p1), .unset, .unset, .unset] [(.ref b2), (.ref b2)])) _
    refine XS.bipush X50.here hx rfl (hb hby at_112) ?_
    show Steps p.tables e below (T50.setTop (mkF m 114 #[.val (.int p1), .unset, .unset, .unset] [(.int (16 : Int32)), (.ref b2), (.ref b2)])) _
    refine st52 _ ?_
    show Steps p.tables e below (T52.setTop (mkF m 117 #[.val (.int p1), .unset, .unset, .unset] [(.ref (w 16)), (.int (16 : Int32)), (.ref b2), (.ref b2)])) _
    refine st53 _ ?_
    show Steps p.tables e below (T53.setTop (mkF m 118 #[.val (.int p1), .unset, .unset, .unset] [(.ref b2)])) _
    refine XS.dup X53.here hx rfl (hb hby at_118) rfl rfl ?_
    show Steps p.tables e below (T53.setTop (mkF m 119 #[.val (.int p1), .unset, .unset, .unset] [(.ref b2), (.ref b2)])) _
    refine XS.bipush X53.here hx rfl (hb hby at_119) ?_
    show Steps p.tables e below (T53.setTop (mkF m 121 #[.val (.int p1), .unset, .unset, .unset] [(.int (17 : Int32)), (.ref b2), (.ref b2)])) _
    refine st55 _ ?_
    show Steps p.tables e below (T55.setTop (mkF m 124 #[.val (.int p1), .unset, .unset, .unset] [(.ref (w 17)), (.int (17 : Int32)), (.ref b2), (.ref b2)])) _
    refine st56 _ ?_
    show Steps p.tables e below (T56.setTop (mkF m 125 #[.val (.int p1), .unset, .unset, .unset] [(.ref b2)])) _
    refine XS.astoreN X56.here hx rfl (hb hby at_125) rfl rfl (l' := #[.val (.int p1), .val (.ref b2), .unset, .unset]) rfl ?_
    show Steps p.tables e below (T56.setTop (mkF m 126 #[.val (.int p1), .val (.ref b2), .unset, .unset] [])) _
    refine XS.iloadN X56.here hx rfl (hb hby at_126) rfl ?_
    show Steps p.tables e below (T56.setTop (mkF m 127 #[.val (.int p1), .val (.ref b2), .unset, .unset] [(.int p1)])) _
    refine X56.ldcInt hx hown (mvT hZ (hw _ (List.mem_of_getElem? (i := 40) rfl))) (g := (mkF m 127 #[.val (.int p1), .val (.ref b2), .unset, .unset] [(.int p1)])) rfl (hb hby at_127) _ ?_
    show Steps p.tables e below (T56.setTop (mkF m 129 #[.val (.int p1), .val (.ref b2), .unset, .unset] [(.int (2147483647 : Int32)), (.int p1)])) _
    refine XS.iand X56.here hx rfl (hb hby at_129) rfl ?_
    show Steps p.tables e below (T56.setTop (mkF m 130 #[.val (.int p1), .val (.ref b2), .unset, .unset] [(.int (p1 &&& (2147483647 : Int32)))])) _
    refine XS.bipush X56.here hx rfl (hb hby at_130) ?_
    show Steps p.tables e below (T56.setTop (mkF m 132 #[.val (.int p1), .val (.ref b2), .unset, .unset] [(.int (18 : Int32)), (.int (p1 &&& (2147483647 : Int32)))])) _
    refine iremM X56 hx rfl (hb hby at_132) rfl (by decide) ?_
    rw [← hjd]
    show Steps p.tables e below (T56.setTop (mkF m 133 #[.val (.int p1), .val (.ref b2), .unset, .unset] [(.int j)])) _
    refine XS.istoreN X56.here hx rfl (hb hby at_133) rfl (l' := #[.val (.int p1), .val (.ref b2), .val (.int j), .unset]) rfl ?_
    show Steps p.tables e below (T56.setTop (mkF m 134 #[.val (.int p1), .val (.ref b2), .val (.int j), .unset] [])) _
    refine seg _ ?_
    refine XS.istoreN X56.here hx rfl (hb hby at_157) rfl (l' := #[.val (.int p1), .val (.ref b2), .val (.int j), .val (.int (own_exp j))]) rfl ?_
    show Steps p.tables e below (T56.setTop (mkF m 158 #[.val (.int p1), .val (.ref b2), .val (.int j), .val (.int (own_exp j))] [])) _
    refine XS.aloadN X56.here hx rfl (hb hby at_158) rfl rfl ?_
    show Steps p.tables e below (T56.setTop (mkF m 159 #[.val (.int p1), .val (.ref b2), .val (.int j), .val (.int (own_exp j))] [(.ref b2)])) _
    refine XS.iloadN X56.here hx rfl (hb hby at_159) rfl ?_
    show Steps p.tables e below (T56.setTop (mkF m 160 #[.val (.int p1), .val (.ref b2), .val (.int j), .val (.int (own_exp j))] [(.int j), (.ref b2)])) _
    refine X56.aaload hx (j := j) (v := (.ref (w j.toNatClampNeg))) (by rw [e56]; exact Ar_b2.1) (State.isArrayOf_alike hZ.alike Ar_b2.2.1) rfl Ar_b2.2.2 hin160 hat160 (g := (mkF m 160 #[.val (.int p1), .val (.ref b2), .val (.int j), .val (.int (own_exp j))] [(.int j), (.ref b2)])) rfl rfl (hb hby at_160) _ ?_
    show Steps p.tables e below (T56.setTop (mkF m 161 #[.val (.int p1), .val (.ref b2), .val (.int j), .val (.int (own_exp j))] [(.ref (w j.toNatClampNeg))])) _
    refine st58.trans ?_
    show Steps p.tables e below (T58.setTop (mkF m 164 #[.val (.int p1), .val (.ref b2), .val (.int j), .val (.int (own_exp j))] [(.int (own_exp j))])) _
    refine XS.iloadN X58.here hx rfl (hb hby at_164) rfl ?_
    show Steps p.tables e below (T58.setTop (mkF m 165 #[.val (.int p1), .val (.ref b2), .val (.int j), .val (.int (own_exp j))] [(.int (own_exp j)), (.int (own_exp j))])) _
    refine XS.icmpNo X58.here hx rfl (hb hby at_165) rfl (teq (rfl : own_exp j = own_exp j)).2 ?_
    show Steps p.tables e below (T58.setTop (mkF m 168 #[.val (.int p1), .val (.ref b2), .val (.int j), .val (.int (own_exp j))] [])) _
    refine XS.iconst X58.here hx rfl (hb hby at_168) ?_
    show Steps p.tables e below (T58.setTop (mkF m 169 #[.val (.int p1), .val (.ref b2), .val (.int j), .val (.int (own_exp j))] [(.int (1 : Int32))])) _
    refine XS.goto X58.here hx rfl (pc0 := 169) (pc' := 173) rfl (hb hby at_169) (by decide) (by decide) ?_
    show Steps p.tables e below (T58.setTop (mkF m 173 #[.val (.int p1), .val (.ref b2), .val (.int j), .val (.int (own_exp j))] [(.int (1 : Int32))])) _
    exact retN X58 hx (t := .boolean) Bd.returns (by simp) (hb hby at_173) hr
  · show Q0 h0 n0 _ T58.heap _
    exact ⟨rfl, N58⟩
set_option maxRecDepth 65536 in
set_option maxHeartbeats 40000000 in
theorem comes_1 {Post : Tables → Env → Array Value → State → Outcome → State → Prop} (hpost : ∀ tb e args s v u, (limb_1_1.after args s (.returned v) u = true ∧ limb_1_2.after args s (.returned v) u = true ∧ True) → FrameEnd s (.returned v) u (Jvm.fieldLocs frame_1_writes args s ++ Jvm.arrayLocs frame_1_arrays args s ++ Jvm.staticLocs frame_1_statics s) 16 128 → Post tb e args s (.returned v) u) :
    ArmFor flags0 classFile x code maxLocals ret World_1 tables_1 room_1 Calls_1 rest_1 Pre_1 Post := by
  intro l hfl _ _ p e ha hc hk s m args below hf hA hF happ hP
  obtain ⟨hcalls, hrest, hpre⟩ := hP
  obtain ⟨-, -, -, hnamed, -, -, -, hat⟩ := (Spec.applies_iff hf).mp happ
  obtain ⟨hg, hn⟩ := and_e (Cond.before_iff.mp (show (Jvm.Cond.and given_1 narrow_1).before args s = true from hpre))
  obtain ⟨g59, g60⟩ := and_e hg
  obtain ⟨w0, rfl⟩ : ∃ w0 : Value, args = #[w0] := by
    have hs : args.size = 1 := by simpa [Cond.value, given_1] using g59
    obtain ⟨L⟩ := args
    match L, hs with
    | [w0], _ => exact ⟨w0, rfl⟩
  have hw := fun d (hd : d ∈ tables_1) => atoms_spec (ws := Jvm.Cond.code x code maxLocals ret :: tables_1) hat d (List.mem_cons_of_mem _ hd)
  have hfit : Fit s := fun {y c} hc i hi => by
    obtain ⟨ha, rfl⟩ := Array.getElem?_eq_some_iff.mp hc
    have q := List.all_eq_true.mp ((Array.all_eq_true_iff_forall_mem.mp hF) _ (Array.getElem_mem ha)) i (List.mem_range.mpr hi)
    simpa [Array.getElem?_eq_getElem hi] using q
  obtain ⟨i0, ei0⟩ := is_v g60
  obtain rfl : w0 = (.int i0) := Option.some.inj ei0
  obtain ⟨x_NIL, r_0⟩ := and_e hn
  obtain ⟨x_BOOLEAN, r_1⟩ := and_e r_0
  obtain ⟨x_INT, r_2⟩ := and_e r_1
  obtain ⟨x_FLOAT, r_3⟩ := and_e r_2
  obtain ⟨x_DECIMAL, r_4⟩ := and_e r_3
  obtain ⟨x_STRING, r_5⟩ := and_e r_4
  obtain ⟨x_XML, r_6⟩ := and_e r_5
  obtain ⟨x_REGEXP, r_7⟩ := and_e r_6
  obtain ⟨x_LIST, r_8⟩ := and_e r_7
  obtain ⟨x_MAPPING, r_9⟩ := and_e r_8
  obtain ⟨x_TABLE, r_10⟩ := and_e r_9
  obtain ⟨x_FUNCTION, r_11⟩ := and_e r_10
  obtain ⟨x_TYPEDESC, r_12⟩ := and_e r_11
  obtain ⟨x_HANDLE, r_13⟩ := and_e r_12
  obtain ⟨x_OBJECT, r_14⟩ := and_e r_13
  obtain ⟨x_FUTURE, r_15⟩ := and_e r_14
  obtain ⟨x_STREAM, r_16⟩ := and_e r_15
  obtain ⟨x_ERROR, r_17⟩ := and_e r_16
  obtain ⟨o_NIL, r_18⟩ := and_e r_17
  obtain ⟨o_LIST, r_19⟩ := and_e r_18
  obtain ⟨o_MAPPING, r_20⟩ := and_e r_19
  obtain ⟨o_TABLE, r_21⟩ := and_e r_20
  obtain ⟨o_FLOAT, r_22⟩ := and_e r_21
  obtain ⟨o_INT, r_23⟩ := and_e r_22
  obtain ⟨o_BOOLEAN, r_24⟩ := and_e r_23
  obtain ⟨o_REGEXP, r_25⟩ := and_e r_24
  obtain ⟨o_FUNCTION, r_26⟩ := and_e r_25
  obtain ⟨o_DECIMAL, r_27⟩ := and_e r_26
  obtain ⟨o_TYPEDESC, r_28⟩ := and_e r_27
  obtain ⟨o_STREAM, r_29⟩ := and_e r_28
  obtain ⟨o_FUTURE, r_30⟩ := and_e r_29
  obtain ⟨o_HANDLE, r_31⟩ := and_e r_30
  obtain ⟨o_XML, r_32⟩ := and_e r_31
  obtain ⟨o_ERROR, r_33⟩ := and_e r_32
  obtain ⟨o_OBJECT, o_STRING⟩ := and_e r_33
  obtain ⟨w0, S_NIL, E_NIL, O_NIL⟩ := own_const (k := 0) x_NIL o_NIL (hw _ (List.mem_of_getElem? (i := 3) rfl)) (hw _ (List.mem_of_getElem? (i := 4) rfl))
  obtain ⟨w1, S_BOOLEAN, E_BOOLEAN, O_BOOLEAN⟩ := own_const (k := 1) x_BOOLEAN o_BOOLEAN (hw _ (List.mem_of_getElem? (i := 3) rfl)) (hw _ (List.mem_of_getElem? (i := 7) rfl))
  obtain ⟨w2, S_INT, E_INT, O_INT⟩ := own_const (k := 2) x_INT o_INT (hw _ (List.mem_of_getElem? (i := 3) rfl)) (hw _ (List.mem_of_getElem? (i := 9) rfl))
  obtain ⟨w3, S_FLOAT, E_FLOAT, O_FLOAT⟩ := own_const (k := 3) x_FLOAT o_FLOAT (hw _ (List.mem_of_getElem? (i := 3) rfl)) (hw _ (List.mem_of_getElem? (i := 11) rfl))
  obtain ⟨w4, S_DECIMAL, E_DECIMAL, O_DECIMAL⟩ := own_const (k := 4) x_DECIMAL o_DECIMAL (hw _ (List.mem_of_getElem? (i := 3) rfl)) (hw _ (List.mem_of_getElem? (i := 13) rfl))
  obtain ⟨w5, S_STRING, E_STRING, O_STRING⟩ := own_const (k := 5) x_STRING o_STRING (hw _ (List.mem_of_getElem? (i := 3) rfl)) (hw _ (List.mem_of_getElem? (i := 15) rfl))
  obtain ⟨w6, S_XML, E_XML, O_XML⟩ := own_const (k := 6) x_XML o_XML (hw _ (List.mem_of_getElem? (i := 3) rfl)) (hw _ (List.mem_of_getElem? (i := 17) rfl))
  obtain ⟨w7, S_REGEXP, E_REGEXP, O_REGEXP⟩ := own_const (k := 7) x_REGEXP o_REGEXP (hw _ (List.mem_of_getElem? (i := 3) rfl)) (hw _ (List.mem_of_getElem? (i := 19) rfl))
  obtain ⟨w8, S_LIST, E_LIST, O_LIST⟩ := own_const (k := 8) x_LIST o_LIST (hw _ (List.mem_of_getElem? (i := 3) rfl)) (hw _ (List.mem_of_getElem? (i := 21) rfl))
  obtain ⟨w9, S_MAPPING, E_MAPPING, O_MAPPING⟩ := own_const (k := 9) x_MAPPING o_MAPPING (hw _ (List.mem_of_getElem? (i := 3) rfl)) (hw _ (List.mem_of_getElem? (i := 23) rfl))
  obtain ⟨w10, S_TABLE, E_TABLE, O_TABLE⟩ := own_const (k := 10) x_TABLE o_TABLE (hw _ (List.mem_of_getElem? (i := 3) rfl)) (hw _ (List.mem_of_getElem? (i := 25) rfl))
  obtain ⟨w11, S_FUNCTION, E_FUNCTION, O_FUNCTION⟩ := own_const (k := 11) x_FUNCTION o_FUNCTION (hw _ (List.mem_of_getElem? (i := 3) rfl)) (hw _ (List.mem_of_getElem? (i := 27) rfl))
  obtain ⟨w12, S_TYPEDESC, E_TYPEDESC, O_TYPEDESC⟩ := own_const (k := 12) x_TYPEDESC o_TYPEDESC (hw _ (List.mem_of_getElem? (i := 3) rfl)) (hw _ (List.mem_of_getElem? (i := 29) rfl))
  obtain ⟨w13, S_HANDLE, E_HANDLE, O_HANDLE⟩ := own_const (k := 13) x_HANDLE o_HANDLE (hw _ (List.mem_of_getElem? (i := 3) rfl)) (hw _ (List.mem_of_getElem? (i := 31) rfl))
  obtain ⟨w14, S_OBJECT, E_OBJECT, O_OBJECT⟩ := own_const (k := 14) x_OBJECT o_OBJECT (hw _ (List.mem_of_getElem? (i := 3) rfl)) (hw _ (List.mem_of_getElem? (i := 33) rfl))
  obtain ⟨w15, S_FUTURE, E_FUTURE, O_FUTURE⟩ := own_const (k := 15) x_FUTURE o_FUTURE (hw _ (List.mem_of_getElem? (i := 3) rfl)) (hw _ (List.mem_of_getElem? (i := 35) rfl))
  obtain ⟨w16, S_STREAM, E_STREAM, O_STREAM⟩ := own_const (k := 16) x_STREAM o_STREAM (hw _ (List.mem_of_getElem? (i := 3) rfl)) (hw _ (List.mem_of_getElem? (i := 37) rfl))
  obtain ⟨w17, S_ERROR, E_ERROR, O_ERROR⟩ := own_const (k := 17) x_ERROR o_ERROR (hw _ (List.mem_of_getElem? (i := 3) rfl)) (hw _ (List.mem_of_getElem? (i := 39) rfl))
  have hE : ∀ i, i < 18 → Exa s s.heap ((fun i => ([w0, w1, w2, w3, w4, w5, w6, w7, w8, w9, w10, w11, w12, w13, w14, w15, w16, w17] : List Addr).getD i 0) i) "com/example/interlace/interlace/types/BasicType" := fun i hi => by
    rcases i with _ | _ | _ | _ | _ | _ | _ | _ | _ | _ | _ | _ | _ | _ | _ | _ | _ | _ | i
    · exact E_NIL
    · exact E_BOOLEAN
    · exact E_INT
    · exact E_FLOAT
    · exact E_DECIMAL
    · exact E_STRING
    · exact E_XML
    · exact E_REGEXP
    · exact E_LIST
    · exact E_MAPPING
    · exact E_TABLE
    · exact E_FUNCTION
    · exact E_TYPEDESC
    · exact E_HANDLE
    · exact E_OBJECT
    · exact E_FUTURE
    · exact E_STREAM
    · exact E_ERROR
    · exact absurd hi (by omega)
  have hO : ∀ i, i < 18 → Fld s s.heap ((fun i => ([w0, w1, w2, w3, w4, w5, w6, w7, w8, w9, w10, w11, w12, w13, w14, w15, w16, w17] : List Addr).getD i 0) i) "java/lang/Enum" "ordinal" "I" (.int (Int32.ofNat i)) := fun i hi => by
    rcases i with _ | _ | _ | _ | _ | _ | _ | _ | _ | _ | _ | _ | _ | _ | _ | _ | _ | _ | i
    · exact O_NIL
    · exact O_BOOLEAN
    · exact O_INT
    · exact O_FLOAT
    · exact O_DECIMAL
    · exact O_STRING
    · exact O_XML
    · exact O_REGEXP
    · exact O_LIST
    · exact O_MAPPING
    · exact O_TABLE
    · exact O_FUNCTION
    · exact O_TYPEDESC
    · exact O_HANDLE
    · exact O_OBJECT
    · exact O_FUTURE
    · exact O_STREAM
    · exact O_ERROR
    · exact absurd hi (by omega)
  obtain ⟨n, o, h1, h2, h3, _, L, rfl, ⟨rfl, N⟩, hq⟩ := rm0 l s _ hw tables_1 i0 (fun i => ([w0, w1, w2, w3, w4, w5, w6, w7, w8, w9, w10, w11, w12, w13, w14, w15, w16, w17] : List Addr).getD i 0) s.heap s.heap.size (Nat.le_refl _) S_NIL S_BOOLEAN S_INT S_FLOAT S_DECIMAL S_STRING S_XML S_REGEXP S_LIST S_MAPPING S_TABLE S_FUNCTION S_TYPEDESC S_HANDLE S_OBJECT S_FUTURE S_STREAM S_ERROR hE hO p e ha hc hk s m _ below hf ((Spec.applies_iff_loose hf).mp happ).1 ⟨rfl, State.Warmed39.refl s, rfl⟩ trivial
  refine ⟨n, _, h1, h2, h3, hpost _ _ _ _ _ _ ⟨Cond.after_iff.mpr rfl, Cond.after_iff.mpr (eq_i res_at (Term.int_eval (1)) rfl), trivial⟩ ⟨hq.1, hq.2.1, (hq.2.2.sift fun y hy => Or.inr (N y hy)).mono (by decide) (by decide)⟩⟩
theorem main_1_1 : Claimed_1_1 := comes_1 fun _ _ _ _ _ _ h hF => ⟨h.1, hF⟩
theorem main_1_2 : Claimed_1_2 := comes_1 fun _ _ _ _ _ _ h hF => ⟨h.2.1, hF⟩
end Jvm.Pilot.@@N@@
namespace Jvm.Pilot.@@N@@
open Jvm Jvm.ClassFile Sem Op Lib Jvm.Free Jvm.Stand Jvm.Pilot.@@N@@.Jvm.D
/-! MADE BY PROGRAM (witnessworld.py) out of the Statement's table words and the real class files: 13 classes; the members and pool entries that the words name. The judged class is class 1, her method 1. -/
namespace start1
open Jvm.ClassFile
def u (s : String) : CpInfo := .utf8 (stringToUtf16 s)
/-- a pool by its gaps: so many unusable entries, then the entry; so many at the end -/
def gap : Nat → List CpInfo → List CpInfo
  | 0, r => r
  | n + 1, r => .unusable :: gap n r
def poolList (es : List (Nat × CpInfo)) (last : Nat) : List CpInfo := es.foldr (fun e r => gap e.1 (e.2 :: r)) (gap last [])
def pool (es : List (Nat × CpInfo)) (last : Nat) : Array CpInfo := ⟨poolList es last⟩
def fileOf (pool : Array CpInfo) (this : Nat) (attrs : Array Attribute := #[]) (ms : Array MethodInfo := #[]) (fl : Nat := 33) (sup : Nat := 0) (ifs : Array Nat := #[]) (fds : Array FieldInfo := #[]) : ClassFile where
  minorVersion := 0
  majorVersion := 65
  constantPool := pool
  accessFlags := fl
  thisClass := this
  superClass := sup
  interfaces := ifs
  fields := fds
  methods := ms
  attributes := attrs
def plain (name : String) (sup : Option ClassId) : Class where
  name := name
  kind := .ordinary
  loader := none
  accessFlags := 33
  super := sup
  interfaces := #[]
  cf := none
  fields := #[]
  methods := #[]
  instanceTypes := #[]
  staticTypes := #[]
  resolved := #[]
  callSites := []
  init := .initialized
  statics := none
  mirror := none

def pool0 : Array CpInfo := pool [(5, u "<init>"), (0, u "()V"), (1, .class_ 10), (1, u "java/lang/Object")] 113

def k0m0 : Method := { name := "<init>", desc := "()V", sig := { parameters := [], returnType := none }, accessFlags := 1, code := none }
/-- java/lang/Object -/
def k0 : Class := { plain "java/lang/Object" none with
  accessFlags := 33
  interfaces := #[]
  cf := some (fileOf pool0 8 #[] #[{ accessFlags := 1, nameIndex := 5, descriptorIndex := 6, attributes := #[] }] 33 0 #[] #[])
  fields := #[]
  methods := #[k0m0]
  instanceTypes := #[]
  staticTypes := #[]
  resolved := Array.replicate 124 none
  statics := none }

def pool1 : Array CpInfo := pool [(2, .class_ 4), (1, u "java/lang/Object"), (0, u "<init>"), (0, u "()V"), (0, .class_ 8), (0, u "com/example/interlace/interlace/types/BasicType"), (0, .fieldref 7 10), (0, .nameAndType 11 12), (0, u "NIL"), (0, u "Lcom/example/interlace/interlace/types/BasicType;"), (0, .fieldref 7 14), (0, .nameAndType 15 12), (0, u "BOOLEAN"), (0, .fieldref 7 17), (0, .nameAndType 18 12), (0, u "INT"), (0, .fieldref 7 20), (0, .nameAndType 21 12), (0, u "FLOAT"), (0, .fieldref 7 23), (0, .nameAndType 24 12), (0, u "DECIMAL"), (0, .fieldref 7 26), (0, .nameAndType 27 12), (0, u "STRING"), (0, .fieldref 7 29), (0, .nameAndType 30 12), (0, u "XML"), (0, .fieldref 7 32), (0, .nameAndType 33 12), (0, u "REGEXP"), (0, .fieldref 7 35), (0, .nameAndType 36 12), (0, u "LIST"), (0, .fieldref 7 38), (0, .nameAndType 39 12), (0, u "MAPPING"), (0, .fieldref 7 41), (0, .nameAndType 42 12), (0, u "TABLE"), (0, .fieldref 7 44), (0, .nameAndType 45 12), (0, u "FUNCTION"), (0, .fieldref 7 47), (0, .nameAndType 48 12), (0, u "TYPEDESC"), (0, .fieldref 7 50), (0, .nameAndType 51 12), (0, u "HANDLE"), (0, .fieldref 7 53), (0, .nameAndType 54 12), (0, u "OBJECT"), (0, .fieldref 7 56), (0, .nameAndType 57 12), (0, u "FUTURE"), (0, .fieldref 7 59), (0, .nameAndType 60 12), (0, u "STREAM"), (0, .fieldref 7 62), (0, .nameAndType 63 12), (0, u "ERROR"), (0, .integer 2147483647), (0, .methodref 7 66), (0, .nameAndType 67 68), (0, u "isStructured"), (0, u "()Z"), (0, .class_ 70), (0, u "com/example/interlace/interlace/types/BasicTypeIsStructuredPinLaw"), (2, u "law"), (0, u "(I)Z")] 5

def k1m0 : Method := { name := "<init>", desc := "()V", sig := { parameters := [], returnType := none }, accessFlags := 2, code := none }
def k1c1 : Code := { maxStack := 4, maxLocals := 4, code := code, exceptionTable := #[], attributes := #[] }
def k1m1 : Method := { name := "law", desc := "(I)Z", sig := { parameters := [.int], returnType := some .boolean }, accessFlags := 9, code := some k1c1 }
/-- com/example/interlace/interlace/types/BasicTypeIsStructuredPinLaw -/
def k1 : Class := { plain "com/example/interlace/interlace/types/BasicTypeIsStructuredPinLaw" (some 0) with
  accessFlags := 49
  interfaces := #[]
  cf := some (fileOf pool1 69 #[] #[{ accessFlags := 2, nameIndex := 5, descriptorIndex := 6, attributes := #[] }, { accessFlags := 9, nameIndex := 73, descriptorIndex := 74, attributes := #[] }] 49 2 #[] #[])
  fields := #[]
  methods := #[k1m0, k1m1]
  instanceTypes := #[]
  staticTypes := #[]
  resolved := Array.replicate 80 none
  statics := none }

def pool2 : Array CpInfo := pool [(1, .class_ 2), (0, u "java/lang/constant/Constable"), (0, .class_ 4), (0, u "java/lang/Object")] 6

/-- java/lang/constant/Constable -/
def k2 : Class := { plain "java/lang/constant/Constable" (some 0) with
  accessFlags := 1537
  interfaces := #[]
  cf := some (fileOf pool2 1 #[] #[] 1537 3 #[] #[])
  fields := #[]
  methods := #[]
  instanceTypes := #[]
  staticTypes := #[]
  resolved := Array.replicate 11 none
  statics := none }

def pool3 : Array CpInfo := pool [(1, .class_ 2), (0, u "java/lang/Comparable"), (0, .class_ 4), (0, u "java/lang/Object")] 7

/-- java/lang/Comparable -/
def k3 : Class := { plain "java/lang/Comparable" (some 0) with
  accessFlags := 1537
  interfaces := #[]
  cf := some (fileOf pool3 1 #[] #[] 1537 3 #[] #[])
  fields := #[]
  methods := #[]
  instanceTypes := #[]
  staticTypes := #[]
  resolved := Array.replicate 12 none
  statics := none }

def pool4 : Array CpInfo := pool [(1, .class_ 2), (0, u "java/io/Serializable"), (0, .class_ 4), (0, u "java/lang/Object")] 2

/-- java/io/Serializable -/
def k4 : Class := { plain "java/io/Serializable" (some 0) with
  accessFlags := 1537
  interfaces := #[]
  cf := some (fileOf pool4 1 #[] #[] 1537 3 #[] #[])
  fields := #[]
  methods := #[]
  instanceTypes := #[]
  staticTypes := #[]
  resolved := Array.replicate 7 none
  statics := none }

def pool5 : Array CpInfo := pool [(2, .class_ 4), (1, u "java/lang/Enum"), (0, u "name"), (0, u "Ljava/lang/String;"), (2, u "ordinal"), (0, u "I"), (1, .class_ 14), (1, u "java/lang/Object"), (4, u "hash"), (86, .class_ 108), (1, u "java/lang/Enum$EnumDesc"), (2, .class_ 112), (0, u "java/lang/constant/Constable"), (0, .class_ 114), (0, u "java/lang/Comparable"), (0, .class_ 116), (0, u "java/io/Serializable")] 87

/-- java/lang/Enum -/
def k5 : Class := { plain "java/lang/Enum" (some 0) with
  accessFlags := 1057
  interfaces := #[2, 3, 4]
  cf := some (fileOf pool5 2 #[.nestMembers #[106]] #[] 1057 12 #[111, 113, 115] #[{ accessFlags := 18, nameIndex := 5, descriptorIndex := 6, attributes := #[] }, { accessFlags := 18, nameIndex := 9, descriptorIndex := 10, attributes := #[] }, { accessFlags := 2, nameIndex := 19, descriptorIndex := 10, attributes := #[] }])
  fields := #[{ name := "name", type := (.object "java/lang/String"), accessFlags := 18, slot := 0, constantValue := 0 }, { name := "ordinal", type := .int, accessFlags := 18, slot := 1, constantValue := 0 }, { name := "hash", type := .int, accessFlags := 2, slot := 2, constantValue := 0 }]
  methods := #[]
  instanceTypes := #[(.object "java/lang/String"), .int, .int]
  staticTypes := #[]
  resolved := Array.replicate 204 none
  statics := none }

def pool6 : Array CpInfo := pool [(1, .class_ 2), (0, u "com/example/interlace/interlace/types/BasicType"), (2, u "NIL"), (0, u "Lcom/example/interlace/interlace/types/BasicType;"), (2, u "BOOLEAN"), (2, u "INT"), (2, u "FLOAT"), (2, u "DECIMAL"), (2, u "STRING"), (2, u "XML"), (2, u "REGEXP"), (0, .fieldref 1 29), (0, .nameAndType 30 6), (0, u "LIST"), (0, .fieldref 1 32), (0, .nameAndType 33 6), (0, u "MAPPING"), (0, .fieldref 1 35), (0, .nameAndType 36 6), (0, u "TABLE"), (2, u "FUNCTION"), (2, u "TYPEDESC"), (2, u "HANDLE"), (2, u "OBJECT"), (2, u "FUTURE"), (2, u "STREAM"), (2, u "ERROR"), (2, u "$VALUES"), (0, u "[Lcom/example/interlace/interlace/types/BasicType;"), (6, .class_ 70), (1, u "java/lang/Enum"), (8, u "name"), (0, u "Ljava/lang/String;"), (118, u "isStructured"), (0, u "()Z")] 25

def k6c0 : Code := { maxStack := 2, maxLocals := 1, code := prog_353_method_5_code, exceptionTable := #[], attributes := #[] }
def k6m0 : Method := { name := "isStructured", desc := "()Z", sig := { parameters := [], returnType := some .boolean }, accessFlags := 1, code := some k6c0 }
/-- com/example/interlace/interlace/types/BasicType -/
def k6 : Class := { plain "com/example/interlace/interlace/types/BasicType" (some 5) with
  accessFlags := 16433
  interfaces := #[]
  cf := some (fileOf pool6 1 #[] #[{ accessFlags := 1, nameIndex := 199, descriptorIndex := 200, attributes := #[] }] 16433 68 #[] #[{ accessFlags := 16409, nameIndex := 5, descriptorIndex := 6, attributes := #[] }, { accessFlags := 16409, nameIndex := 9, descriptorIndex := 6, attributes := #[] }, { accessFlags := 16409, nameIndex := 12, descriptorIndex := 6, attributes := #[] }, { accessFlags := 16409, nameIndex := 15, descriptorIndex := 6, attributes := #[] }, { accessFlags := 16409, nameIndex := 18, descriptorIndex := 6, attributes := #[] }, { accessFlags := 16409, nameIndex := 21, descriptorIndex := 6, attributes := #[] }, { accessFlags := 16409, nameIndex := 24, descriptorIndex := 6, attributes := #[] }, { accessFlags := 16409, nameIndex := 27, descriptorIndex := 6, attributes := #[] }, { accessFlags := 16409, nameIndex := 30, descriptorIndex := 6, attributes := #[] }, { accessFlags := 16409, nameIndex := 33, descriptorIndex := 6, attributes := #[] }, { accessFlags := 16409, nameIndex := 36, descriptorIndex := 6, attributes := #[] }, { accessFlags := 16409, nameIndex := 39, descriptorIndex := 6, attributes := #[] }, { accessFlags := 16409, nameIndex := 42, descriptorIndex := 6, attributes := #[] }, { accessFlags := 16409, nameIndex := 45, descriptorIndex := 6, attributes := #[] }, { accessFlags := 16409, nameIndex := 48, descriptorIndex := 6, attributes := #[] }, { accessFlags := 16409, nameIndex := 51, descriptorIndex := 6, attributes := #[] }, { accessFlags := 16409, nameIndex := 54, descriptorIndex := 6, attributes := #[] }, { accessFlags := 16409, nameIndex := 57, descriptorIndex := 6, attributes := #[] }, { accessFlags := 18, nameIndex := 79, descriptorIndex := 80, attributes := #[] }, { accessFlags := 4122, nameIndex := 60, descriptorIndex := 61, attributes := #[] }])
  fields := #[{ name := "NIL", type := (.object "com/example/interlace/interlace/types/BasicType"), accessFlags := 16409, slot := 0, constantValue := 0 }, { name := "BOOLEAN", type := (.object "com/example/interlace/interlace/types/BasicType"), accessFlags := 16409, slot := 1, constantValue := 0 }, { name := "INT", type := (.object "com/example/interlace/interlace/types/BasicType"), accessFlags := 16409, slot := 2, constantValue := 0 }, { name := "FLOAT", type := (.object "com/example/interlace/interlace/types/BasicType"), accessFlags := 16409, slot := 3, constantValue := 0 }, { name := "DECIMAL", type := (.object "com/example/interlace/interlace/types/BasicType"), accessFlags := 16409, slot := 4, constantValue := 0 }, { name := "STRING", type := (.object "com/example/interlace/interlace/types/BasicType"), accessFlags := 16409, slot := 5, constantValue := 0 }, { name := "XML", type := (.object "com/example/interlace/interlace/types/BasicType"), accessFlags := 16409, slot := 6, constantValue := 0 }, { name := "REGEXP", type := (.object "com/example/interlace/interlace/types/BasicType"), accessFlags := 16409, slot := 7, constantValue := 0 }, { name := "LIST", type := (.object "com/example/interlace/interlace/types/BasicType"), accessFlags := 16409, slot := 8, constantValue := 0 }, { name := "MAPPING", type := (.object "com/example/interlace/interlace/types/BasicType"), accessFlags := 16409, slot := 9, constantValue := 0 }, { name := "TABLE", type := (.object "com/example/interlace/interlace/types/BasicType"), accessFlags := 16409, slot := 10, constantValue := 0 }, { name := "FUNCTION", type := (.object "com/example/interlace/interlace/types/BasicType"), accessFlags := 16409, slot := 11, constantValue := 0 }, { name := "TYPEDESC", type := (.object "com/example/interlace/interlace/types/BasicType"), accessFlags := 16409, slot := 12, constantValue := 0 }, { name := "HANDLE", type := (.object "com/example/interlace/interlace/types/BasicType"), accessFlags := 16409, slot := 13, constantValue := 0 }, { name := "OBJECT", type := (.object "com/example/interlace/interlace/types/BasicType"), accessFlags := 16409, slot := 14, constantValue := 0 }, { name := "FUTURE", type := (.object "com/example/interlace/interlace/types/BasicType"), accessFlags := 16409, slot := 15, constantValue := 0 }, { name := "STREAM", type := (.object "com/example/interlace/interlace/types/BasicType"), accessFlags := 16409, slot := 16, constantValue := 0 }, { name := "ERROR", type := (.object "com/example/interlace/interlace/types/BasicType"), accessFlags := 16409, slot := 17, constantValue := 0 }, { name := "name", type := (.object "java/lang/String"), accessFlags := 18, slot := 3, constantValue := 0 }, { name := "$VALUES", type := (.array (.object "com/example/interlace/interlace/types/BasicType")), accessFlags := 4122, slot := 18, constantValue := 0 }]
  methods := #[k6m0]
  instanceTypes := #[(.object "java/lang/String"), .int, .int, (.object "java/lang/String")]
  staticTypes := #[(.object "com/example/interlace/interlace/types/BasicType"), (.object "com/example/interlace/interlace/types/BasicType"), (.object "com/example/interlace/interlace/types/BasicType"), (.object "com/example/interlace/interlace/types/BasicType"), (.object "com/example/interlace/interlace/types/BasicType"), (.object "com/example/interlace/interlace/types/BasicType"), (.object "com/example/interlace/interlace/types/BasicType"), (.object "com/example/interlace/interlace/types/BasicType"), (.object "com/example/interlace/interlace/types/BasicType"), (.object "com/example/interlace/interlace/types/BasicType"), (.object "com/example/interlace/interlace/types/BasicType"), (.object "com/example/interlace/interlace/types/BasicType"), (.object "com/example/interlace/interlace/types/BasicType"), (.object "com/example/interlace/interlace/types/BasicType"), (.object "com/example/interlace/interlace/types/BasicType"), (.object "com/example/interlace/interlace/types/BasicType"), (.object "com/example/interlace/interlace/types/BasicType"), (.object "com/example/interlace/interlace/types/BasicType"), (.array (.object "com/example/interlace/interlace/types/BasicType"))]
  resolved := Array.replicate 226 none
  statics := some 0 }

def pool7 : Array CpInfo := pool [(1, u "java/lang/Cloneable"), (0, .class_ 1), (0, u "java/lang/Object"), (0, .class_ 3)] 3

/-- java/lang/Cloneable -/
def k7 : Class := { plain "java/lang/Cloneable" (some 0) with
  accessFlags := 1537
  interfaces := #[]
  cf := some (fileOf pool7 2 #[] #[] 1537 4 #[] #[])
  fields := #[]
  methods := #[]
  instanceTypes := #[]
  staticTypes := #[]
  resolved := Array.replicate 8 none
  statics := none }

/-- the primitive byte -/
def k8 : Class := { plain "byte" none with kind := .primitive 'B', accessFlags := 0x411 }
/-- [B -/
def k9 : Class := { plain "[B" (some 0) with kind := .array 8 .byte, interfaces := #[7, 4], accessFlags := 1041 }

/-- the primitive int -/
def k10 : Class := { plain "int" none with kind := .primitive 'I', accessFlags := 0x411 }
/-- [I -/
def k11 : Class := { plain "[I" (some 0) with kind := .array 10 .int, interfaces := #[7, 4], accessFlags := 1041 }

/-- [Lcom/example/interlace/interlace/types/BasicType; -/
def k12 : Class := { plain "[Lcom/example/interlace/interlace/types/BasicType;" (some 0) with kind := .array 6 (.object "com/example/interlace/interlace/types/BasicType"), interfaces := #[7, 4], accessFlags := 1041 }

def heap : Heap := #[{ cls := 6, slots := #[.ref 1, .ref 2, .ref 3, .ref 4, .ref 5, .ref 6, .ref 7, .ref 8, .ref 9, .ref 10, .ref 11, .ref 12, .ref 13, .ref 14, .ref 15, .ref 16, .ref 17, .ref 18, .null], vm := .statics 6 },
  { cls := 6, slots := #[.null, .int 0, .int 0, .null], vm := .none },
  { cls := 6, slots := #[.null, .int 1, .int 0, .null], vm := .none },
  { cls := 6, slots := #[.null, .int 2, .int 0, .null], vm := .none },
  { cls := 6, slots := #[.null, .int 3, .int 0, .null], vm := .none },
  { cls := 6, slots := #[.null, .int 4, .int 0, .null], vm := .none },
  { cls := 6, slots := #[.null, .int 5, .int 0, .null], vm := .none },
  { cls := 6, slots := #[.null, .int 6, .int 0, .null], vm := .none },
  { cls := 6, slots := #[.null, .int 7, .int 0, .null], vm := .none },
  { cls := 6, slots := #[.null, .int 8, .int 0, .null], vm := .none },
  { cls := 6, slots := #[.null, .int 9, .int 0, .null], vm := .none },
  { cls := 6, slots := #[.null, .int 10, .int 0, .null], vm := .none },
  { cls := 6, slots := #[.null, .int 11, .int 0, .null], vm := .none },
  { cls := 6, slots := #[.null, .int 12, .int 0, .null], vm := .none },
  { cls := 6, slots := #[.null, .int 13, .int 0, .null], vm := .none },
  { cls := 6, slots := #[.null, .int 14, .int 0, .null], vm := .none },
  { cls := 6, slots := #[.null, .int 15, .int 0, .null], vm := .none },
  { cls := 6, slots := #[.null, .int 16, .int 0, .null], vm := .none },
  { cls := 6, slots := #[.null, .int 17, .int 0, .null], vm := .none }]
def classes : Array Class := #[k0, k1, k2, k3, k4, k5, k6, k7, k8, k9, k10, k11, k12]
def interned : List (Array UInt16 × Addr) := []
def slotsUsed : Nat := 91
def theMethod : MethodId := ⟨1, 1⟩
def args0 : Array Value := #[.int 5]
def aboutOver (below : List Frame) : State where
  vm := { classes := classes, interned := interned.toArray }
  heap := heap
  slotsUsed := slotsUsed
  threads := #[{ frames := .invoking theMethod args0 :: below }]
def below0 : List Frame := [.native { method := ⟨0, 0⟩, args := #[] }]
def about1 : State := aboutOver below0
def p0 : Program := .bare "" "" ""
def e0 : Env := launch0.env 0 0 0
theorem w_frames : about1.frames = Frame.invoking theMethod args0 :: below0 := rfl
set_option maxRecDepth 65536 in
theorem w_args : argsFit about1.vm theMethod args0 = true := by decide +kernel
set_option maxRecDepth 65536 in
theorem w_heap : heapFits about1 = true := by decide +kernel
set_option maxRecDepth 65536 in
theorem w_runnable : about1.curStatus? = some .runnable := by decide +kernel
set_option maxRecDepth 65536 in
theorem w_alone : about1.alone = true := by decide +kernel
set_option maxRecDepth 65536 in
theorem w_named : about1.methodNamed? x = some theMethod := by decide +kernel
set_option maxRecDepth 65536 in
theorem w_hears : about1.hears theMethod below0 = true := by decide +kernel
set_option maxRecDepth 65536 in
theorem w_ripe : about1.ripe theMethod args0 below0 = true := by decide +kernel
theorem w_running : about1.status = .running := rfl
set_option maxRecDepth 65536 in
theorem w_room : about1.hasRoom e0.platform room_1 = true :=
  launch0.hasRoom_least _ room_1 (by decide +kernel) (by decide +kernel) (by decide +kernel) (by decide +kernel) (by decide +kernel) (by decide +kernel)
theorem allAtoms_all (ts : List Jvm.Cond) (a : Array Jvm.Value) (st : Jvm.State) : (allAtoms ts).before a st = ts.all (fun c => c.before a st) := by
  induction ts with
  | nil => rfl
  | cons c t ih =>
    show (Jvm.Cond.and c (allAtoms t)).before a st = _
    rw [Jvm.Cond.before_and, ih, List.all_cons]
def words1 : List Jvm.Cond := Jvm.Cond.code x code maxLocals ret :: tables_1
/-- a 'code' word, met by the world's own term for the bytes: nothing is compared byte by byte -/
theorem code_word {y : MethodName} {bytes : ByteArray} {mx : Nat} {rt : Option FieldType} {a : Array Value} {s : State} {m : MethodId} {meth : Method} {c : Code} (h1 : s.methodNamed? y = some m) (h2 : s.vm.method? m = some meth) (h3 : meth.code = some c) (h4 : c.code = bytes)
    (h5 : (c.maxLocals == mx && c.exceptionTable.isEmpty && decide (c.maxStack ≤ mostOperands) && decide (meth.sig.returnType = rt) && !meth.locks && decide (parseMethodDescriptor y.desc = some meth.sig)) = true) : (Jvm.Cond.code y bytes mx rt).before a s = true := by
  simp only [Bool.and_eq_true, beq_iff_eq, Bool.not_eq_true', decide_eq_true_eq] at h5
  obtain ⟨⟨⟨⟨⟨g1, g2⟩, g3⟩, g4⟩, g5⟩, g6⟩ := h5
  simp [Cond.before, Cond.holds, Cond.value, h1, h2, h3, h4, g1, g2, g3, g4, g5, g6]
def isCode : Jvm.Cond → Bool
  | .code _ _ _ _ => true
  | _ => false
theorem all_split {L : List Jvm.Cond} {P : Jvm.Cond → Bool} (h1 : L.all (fun c => isCode c || P c) = true) (h2 : ∀ c ∈ L.filter isCode, P c = true) : L.all P = true := by
  refine List.all_eq_true.mpr fun c hc => ?_
  have h := List.all_eq_true.mp h1 c hc
  rcases Bool.eq_false_or_eq_true (isCode c) with hi | hi
  · exact h2 c (List.mem_filter.mpr ⟨hc, hi⟩)
  · simpa [hi] using h
set_option maxRecDepth 65536 in
theorem w_c0 : (Jvm.Cond.code x code maxLocals ret).before args0 about1 = true := code_word (m := ⟨1, 1⟩) (meth := k1m1) (c := k1c1) (by decide +kernel) rfl rfl rfl (by decide +kernel)
set_option maxRecDepth 65536 in
theorem w_c1 : (Jvm.Cond.code ({ cls := "com/example/interlace/interlace/types/BasicType", name := "isStructured", desc := "()Z" } : Jvm.MethodName) prog_353_method_5_code (1 : Nat) (Option.some Jvm.ClassFile.FieldType.boolean)).before args0 about1 = true := code_word (m := ⟨6, 0⟩) (meth := k6m0) (c := k6c0) (by decide +kernel) rfl rfl rfl (by decide +kernel)
def codes1 : List Jvm.Cond := [Jvm.Cond.code x code maxLocals ret, Jvm.Cond.code ({ cls := "com/example/interlace/interlace/types/BasicType", name := "isStructured", desc := "()Z" } : Jvm.MethodName) prog_353_method_5_code (1 : Nat) (Option.some Jvm.ClassFile.FieldType.boolean)]
set_option maxRecDepth 65536 in
theorem codes_eq : words1.filter isCode = codes1 := rfl
theorem w_codes : ∀ c ∈ words1.filter isCode, c.before args0 about1 = true := by
  rw [codes_eq]
  intro c hc
  simp only [codes1, List.mem_cons, List.not_mem_nil, or_false] at hc
  rcases hc with rfl | rfl
  · exact w_c0
  · exact w_c1
set_option maxRecDepth 65536 in
theorem w_t1 : (words1.take 24).all (fun c => isCode c || c.before args0 about1) = true := by decide +kernel
set_option maxRecDepth 65536 in
theorem w_t2 : ((words1.drop 24).take 24).all (fun c => isCode c || c.before args0 about1) = true := by decide +kernel
set_option maxRecDepth 65536 in
theorem w_t3 : ((words1.drop 24).drop 24).all (fun c => isCode c || c.before args0 about1) = true := by decide +kernel
theorem w_tables : (allAtoms (Jvm.Cond.code x code maxLocals ret :: tables_1)).before args0 about1 = true := by
  rw [allAtoms_all]
  show words1.all (fun c => c.before args0 about1) = true
  refine all_split ?_ w_codes
  rw [← List.take_append_drop 24 words1, List.all_append, w_t1, ← List.take_append_drop 24 (words1.drop 24), List.all_append, w_t2, w_t3]
  rfl
set_option maxRecDepth 65536 in
theorem w_case : (Jvm.Cond.and given_1 narrow_1).before args0 about1 = true := by decide +kernel
theorem w_applies : (headSpec (Jvm.Cond.code x code maxLocals ret :: tables_1) room_1).applies x e0.platform about1 = true :=
  (Spec.applies_iff w_frames).mpr ⟨w_running, w_runnable, w_alone, w_named, w_hears, w_ripe, w_room, w_tables⟩
theorem atStart : AtStart classFile x code maxLocals ret World_1 tables_1 room_1 Calls_1 rest_1 Pre_1 launch0 p0 e0 about1 theMethod args0 below0 :=
  ⟨lists_1, trivial, launch0.admits_env _ _ _, launch0.least_env, fairChoices_fair.cas, fairChoices_fair.clock, w_frames, w_args, w_heap, w_applies, trivial, trivial, w_case⟩
end start1
theorem witness_1 : WitnessClaimed_1 := ⟨start1.p0, start1.e0, start1.about1, start1.theMethod, start1.args0, start1.below0, start1.atStart⟩
end Jvm.Pilot.@@N@@
