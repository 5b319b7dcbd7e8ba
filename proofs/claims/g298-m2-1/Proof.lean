import JvmDerived
import JvmDerived.Pilot.@@N@@Statement
import JvmDerived.Pilot.@@N@@Code
set_option linter.unusedVariables false
set_option linter.unusedSimpArgs false
namespace Jvm.RoadKit
open Sem ClassFile Op Lib Jvm.Stand Jvm.Free Jvm.LawKit
section New
variable {p : Program} {l : Launch} {e : Env} {R : Room} {s : State} {m : MethodId} {args : Array Value} {below : List Frame} {meth : Method} {c : Code} {T : State} {locs : List Loc} {cells slots : Nat}
theorem retI (X : Stand p l e R s m args below meth c T locs cells slots) (hx : p.tables.exec = Jvm.exec) {pc : Nat} {Ls : Array Slot} {z : Int32} {rest : List Value} (hret : meth.sig.returnType = some .int) (hd : decode c.code pc = .ok (.ireturn, 1)) {fs : List Frame}
    (hl : ∀ (f : JFrame) (acts : List Action), f.method = m → f.locked = none → f.entered = [] → (doReturn e (T.setTop f) acts (some (.int z))).1 = T.setFrames fs) : Steps p.tables e below (T.setTop (mkF m pc Ls (.int z :: rest))) (T.setFrames fs) := by
  have hm' : T.vm.method? m = some meth := X.method'
  have hn : narrow .int (.int z) = .int z := rfl
  show Steps p.tables e below (T.setTop { method := m, pc := pc, locals := Ls, stack := _ :: rest, locked := none }) _
  jvm_step X.here [X.here.top, hx, hd, hm', hret, hn]
  first | (intro acts; rw [hl _ acts rfl rfl rfl]) | rw [hl _ _ rfl rfl rfl]
  exact Steps.refl _
end New
end Jvm.RoadKit
namespace Jvm.Pilot.@@N@@
open Jvm Jvm.ClassFile Sem Op Lib Jvm.Free Jvm.Stand Jvm.LawKit Jvm.RoadKit Bundle Jvm.Pilot.@@N@@.Jvm.D
theorem own_fldI {Z : State} {args : Array Value} {t : Term} {a : Addr} {C n d : String} {k : Int32} (ev : t.eval args Z none [] Z = some (.ref a)) (h : (Jvm.Cond.eq (.field t C n d) (.int k)).value args Z none Z [] = some true) : Fld Z Z.heap a C n d (.int k) := by
  obtain ⟨x, y, h1, h2, h3, -⟩ := cmp_v (Or.inl h)
  have e2 : y = .int k := (Option.some.inj (h2.symm.trans (Term.int_eval k)))
  subst e2
  have e1 : x = .int k := by
    cases x with
    | int z => simpa [Cond.value, h1, h2] using h
    | _ => simp [Cond.value, h1, h2] at h
  subst e1
  rw [fld_at ev] at h1
  exact Fld.start h1
theorem own_fldR {Z : State} {args : Array Value} {t t2 : Term} {a b : Addr} {C n d : String} (ev : t.eval args Z none [] Z = some (.ref a)) (ev2 : t2.eval args Z none [] Z = some (.ref b)) (h : (Jvm.Cond.eq (.field t C n d) t2).value args Z none Z [] = some true) : Fld Z Z.heap a C n d (.ref b) := by
  obtain ⟨x, y, h1, h2, h3, -⟩ := cmp_v (Or.inl h)
  have e2 : y = .ref b := (Option.some.inj (h2.symm.trans ev2))
  subst e2
  have e1 : x = .ref b := by
    cases x with
    | ref z => simpa [Cond.value, h1, h2] using h
    | _ => simp [Cond.value, h1, h2] at h
  subst e1
  rw [fld_at ev] at h1
  exact Fld.start h1
theorem own_fldX {Z : State} {args : Array Value} {t : Term} {a b : Addr} {C n d : String} (ev : t.eval args Z none [] Z = some (.ref a)) (h : (Term.field t C n d).eval args Z none [] Z = some (.ref b)) : Fld Z Z.heap a C n d (.ref b) := by
  rw [fld_at ev] at h
  exact Fld.start h
theorem d1_0 : decode prog_54_method_5_code 0 = .ok (.aload_n 0, 1) := by decide +kernel
theorem d1_1 : decode prog_54_method_5_code 1 = .ok (.getstatic 3, 3) := by decide +kernel
theorem d1_4 : decode prog_54_method_5_code 4 = .ok (.if_acmp .ne 10, 3) := by decide +kernel
theorem d1_7 : decode prog_54_method_5_code 7 = .ok (.getstatic 7, 3) := by decide +kernel
theorem d1_10 : decode prog_54_method_5_code 10 = .ok (.astore_n 1, 1) := by decide +kernel
theorem d1_11 : decode prog_54_method_5_code 11 = .ok (.goto 7, 3) := by decide +kernel
theorem d1_18 : decode prog_54_method_5_code 18 = .ok (.aload_n 1, 1) := by decide +kernel
theorem d1_19 : decode prog_54_method_5_code 19 = .ok (.areturn, 1) := by decide +kernel
theorem pn_1 : plainName "com/example/bilateral_policy/bilateralpolicy/evaluation/Effect" = true := by first | (simp [plainName, overriddenIn]; done) | decide +kernel
theorem ef_1a (m : MethodId) (x0 : Addr) : entryFrame m #[(.ref x0)] 2 = mkF m 0 #[.val (.ref x0), .unset] [] := by first | (simp [entryFrame, mkF, argsToLocals, Value.category]; done) | rfl
def Q1a (Z : State) (a1 : Addr) (wD : Addr) (h0 : Heap) (n0 : Nat) (v : Option Value) (h : Heap) (L : List Loc) : Prop := v = some (.ref wD) ∧ Fr n0 L ∧ h = h0
set_option maxRecDepth 65536 in
set_option maxHeartbeats 40000000 in
theorem rm1a (l : Launch) (Z : State) (a0 : Array Value) (hw : ∀ d ∈ tables_1, d.before a0 Z = true) (ws : List Jvm.Cond) (a1 : Addr) (wD : Addr) (h0 : Heap) (n0 : Nat) (Z0 : n0 ≤ h0.size) (S1 : Sta Z h0 "com/example/bilateral_policy/bilateralpolicy/evaluation/Effect" "PERMIT" "Lcom/example/bilateral_policy/bilateralpolicy/evaluation/Effect;" (.ref a1)) (S2 : Sta Z h0 "com/example/bilateral_policy/bilateralpolicy/evaluation/Effect" "DENY" "Lcom/example/bilateral_policy/bilateralpolicy/evaluation/Effect;" (.ref wD)) :
    MetFree l (⟨"com/example/bilateral_policy/bilateralpolicy/evaluation/Effect", "opposite", "()Lcom/example/bilateral_policy/bilateralpolicy/evaluation/Effect;"⟩ : MethodName) (head1 (Jvm.Cond.code (⟨"com/example/bilateral_policy/bilateralpolicy/evaluation/Effect", "opposite", "()Lcom/example/bilateral_policy/bilateralpolicy/evaluation/Effect;"⟩ : MethodName) prog_54_method_5_code 2 (some (.object "com/example/bilateral_policy/bilateralpolicy/evaluation/Effect")) :: ws) ({ frames := 0, cells := 0, slots := 0, locals := 0 } : Room)) (fun a U => a = #[(.ref a1)] ∧ Z.Warmed39 U.vm ∧ U.heap = h0) (fun _ _ _ _ _ => True) (fun _ U o U' => ∃ v L, o = .returned v ∧ Q1a Z a1 wD h0 n0 v U'.heap L ∧ FrameEnd U o U' L ({ frames := 0, cells := 0, slots := 0, locals := 0 } : Room).cells ({ frames := 0, cells := 0, slots := 0, locals := 0 } : Room).slots) := by
  refine MetFree.of_bodySF (plainFor_of_name pn_1) hisR ?_
  intro p e s m args below meth c s₁ Bd hml0 hP hK
  obtain ⟨rfl, hZ, hh⟩ := hP
  have hx := Bd.exec
  have hby := Bd.bytes
  have hml : c.maxLocals = 2 := hml0
  have hown : s.vm.findClass "com/example/bilateral_policy/bilateralpolicy/evaluation/Effect" = some m.cls := findClass_of_methodNamed Bd.named
  have hnm := (name_of_methodNamed Bd.named Bd.method).1
  have X0 : Stand p l e ({ frames := 0, cells := 0, slots := 0, locals := 0 } : Room) s m #[(.ref a1)] below meth c s₁ [] 0 0 := Stand.of_body Bd
  have e0 : s₁.heap = h0 := by rw [← hh, Bd.state]; rfl
  have N0 := Fr.nil n0
  have pre0 : ∀ t, Steps p.tables e below (s₁.setTop (mkF m 0 #[.val (.ref a1), .unset] [])) t → Steps p.tables e below (s₁.setTop (entryFrame m #[(.ref a1)] 2)) t := fun t k => castTop (ef_1a m a1) k
  obtain ⟨T1, X1, e1, st1⟩ := getS2 X0 hx hZ hown (host := "") (Or.inl (hw _ (List.mem_of_getElem? (i := 10) rfl))) Via.refl e0 S1 (g := (mkF m 1 #[.val (.ref a1), .unset] [(.ref a1)])) rfl (hb hby d1_1)
  obtain ⟨T2, X2, e2, st2⟩ := getS2 X1 hx hZ hown (host := "") (Or.inl (hw _ (List.mem_of_getElem? (i := 11) rfl))) Via.refl e1 S2 (g := (mkF m 7 #[.val (.ref a1), .unset] [])) rfl (hb hby d1_7)
  have pre3 : ∀ t, Steps p.tables e below (T2.setTop (mkF m 19 #[.val (.ref a1), .val (.ref wD)] [(.ref wD)])) t → Steps p.tables e below (s₁.setTop (entryFrame m #[(.ref a1)] 2)) t := by
    intro t kt
    refine pre0 _ ?_
    show Steps p.tables e below (s₁.setTop (mkF m 0 #[.val (.ref a1), .unset] [])) _
    refine XS.aloadN X0.here hx rfl (hb hby d1_0) rfl rfl ?_
    show Steps p.tables e below (s₁.setTop (mkF m 1 #[.val (.ref a1), .unset] [(.ref a1)])) _
    refine st1 _ ?_
    show Steps p.tables e below (T1.setTop (mkF m 4 #[.val (.ref a1), .unset] [(.ref a1), (.ref a1)])) _
    refine Jvm.RoadKit.acmp (g := (mkF m 4 #[.val (.ref a1), .unset] [(.ref a1), (.ref a1)])) X1 hx rfl rfl rfl (pc0 := 4) (pc' := 7) (same := true) rfl (hb hby d1_4) rfl (decide_eq_true rfl) (by decide) (by decide) ?_
    show Steps p.tables e below (T1.setTop (mkF m 7 #[.val (.ref a1), .unset] [])) _
    refine st2 _ ?_
    show Steps p.tables e below (T2.setTop (mkF m 10 #[.val (.ref a1), .unset] [(.ref wD)])) _
    refine XS.astoreN X2.here hx rfl (hb hby d1_10) rfl rfl (l' := #[.val (.ref a1), .val (.ref wD)]) rfl ?_
    show Steps p.tables e below (T2.setTop (mkF m 11 #[.val (.ref a1), .val (.ref wD)] [])) _
    refine XS.goto X2.here hx rfl (pc0 := 11) (pc' := 18) rfl (hb hby d1_11) (by decide) (by decide) ?_
    show Steps p.tables e below (T2.setTop (mkF m 18 #[.val (.ref a1), .val (.ref wD)] [])) _
    refine XS.aloadN X2.here hx rfl (hb hby d1_18) rfl rfl ?_
    exact kt
  obtain ⟨fs, hr, hrun, hended, hW, hsame⟩ := X2.leave (v := some (.ref wD)) (fun h => by rw [Bd.returns] at h; cases h)
  refine ⟨_, _, pre3 _ ?_, hrun, hended, _, _, rfl, ?_, ⟨_, rfl⟩, hW, hsame.mono (by decide) (by decide)⟩
  · show Steps p.tables e below (T2.setTop (mkF m 19 #[.val (.ref a1), .val (.ref wD)] [(.ref wD)])) _
    jvm_step X2.here [X2.here.top, hx, (hb hby d1_19), X2.method', Bd.returns, Value.isRef, FieldType.isReference]
    first | (intro acts; rw [hr _ acts rfl rfl rfl]) | rw [hr _ _ rfl rfl rfl]
    exact Steps.refl _
  · show Q1a Z a1 wD h0 n0 _ T2.heap _
    rw [e2]
    exact ⟨rfl, N0, rfl⟩
theorem d1_14 : decode prog_54_method_5_code 14 = .ok (.getstatic 3, 3) := by decide +kernel
theorem d1_17 : decode prog_54_method_5_code 17 = .ok (.astore_n 1, 1) := by decide +kernel
def Q1b (Z : State) (a1 : Addr) (wP : Addr) (h0 : Heap) (n0 : Nat) (v : Option Value) (h : Heap) (L : List Loc) : Prop := v = some (.ref wP) ∧ Fr n0 L ∧ h = h0
set_option maxRecDepth 65536 in
set_option maxHeartbeats 40000000 in
theorem rm1b (l : Launch) (Z : State) (a0 : Array Value) (hw : ∀ d ∈ tables_1, d.before a0 Z = true) (ws : List Jvm.Cond) (a1 : Addr) (wP : Addr) (h0 : Heap) (n0 : Nat) (Z0 : n0 ≤ h0.size) (S1 : Sta Z h0 "com/example/bilateral_policy/bilateralpolicy/evaluation/Effect" "PERMIT" "Lcom/example/bilateral_policy/bilateralpolicy/evaluation/Effect;" (.ref wP)) (hne : a1 ≠ wP) :
    MetFree l (⟨"com/example/bilateral_policy/bilateralpolicy/evaluation/Effect", "opposite", "()Lcom/example/bilateral_policy/bilateralpolicy/evaluation/Effect;"⟩ : MethodName) (head1 (Jvm.Cond.code (⟨"com/example/bilateral_policy/bilateralpolicy/evaluation/Effect", "opposite", "()Lcom/example/bilateral_policy/bilateralpolicy/evaluation/Effect;"⟩ : MethodName) prog_54_method_5_code 2 (some (.object "com/example/bilateral_policy/bilateralpolicy/evaluation/Effect")) :: ws) ({ frames := 0, cells := 0, slots := 0, locals := 0 } : Room)) (fun a U => a = #[(.ref a1)] ∧ Z.Warmed39 U.vm ∧ U.heap = h0) (fun _ _ _ _ _ => True) (fun _ U o U' => ∃ v L, o = .returned v ∧ Q1b Z a1 wP h0 n0 v U'.heap L ∧ FrameEnd U o U' L ({ frames := 0, cells := 0, slots := 0, locals := 0 } : Room).cells ({ frames := 0, cells := 0, slots := 0, locals := 0 } : Room).slots) := by
  refine MetFree.of_bodySF (plainFor_of_name pn_1) hisR ?_
  intro p e s m args below meth c s₁ Bd hml0 hP hK
  obtain ⟨rfl, hZ, hh⟩ := hP
  have hx := Bd.exec
  have hby := Bd.bytes
  have hml : c.maxLocals = 2 := hml0
  have hown : s.vm.findClass "com/example/bilateral_policy/bilateralpolicy/evaluation/Effect" = some m.cls := findClass_of_methodNamed Bd.named
  have hnm := (name_of_methodNamed Bd.named Bd.method).1
  have X0 : Stand p l e ({ frames := 0, cells := 0, slots := 0, locals := 0 } : Room) s m #[(.ref a1)] below meth c s₁ [] 0 0 := Stand.of_body Bd
  have e0 : s₁.heap = h0 := by rw [← hh, Bd.state]; rfl
  have N0 := Fr.nil n0
  have pre0 : ∀ t, Steps p.tables e below (s₁.setTop (mkF m 0 #[.val (.ref a1), .unset] [])) t → Steps p.tables e below (s₁.setTop (entryFrame m #[(.ref a1)] 2)) t := fun t k => castTop (ef_1a m a1) k
  obtain ⟨T4, X4, e4, st4⟩ := getS2 X0 hx hZ hown (host := "") (Or.inl (hw _ (List.mem_of_getElem? (i := 10) rfl))) Via.refl e0 S1 (g := (mkF m 1 #[.val (.ref a1), .unset] [(.ref a1)])) rfl (hb hby d1_1)
  obtain ⟨T5, X5, e5, st5⟩ := getS2 X4 hx hZ hown (host := "") (Or.inl (hw _ (List.mem_of_getElem? (i := 10) rfl))) Via.refl e4 S1 (g := (mkF m 14 #[.val (.ref a1), .unset] [])) rfl (hb hby d1_14)
  have pre6 : ∀ t, Steps p.tables e below (T5.setTop (mkF m 19 #[.val (.ref a1), .val (.ref wP)] [(.ref wP)])) t → Steps p.tables e below (s₁.setTop (entryFrame m #[(.ref a1)] 2)) t := by
    intro t kt
    refine pre0 _ ?_
    show Steps p.tables e below (s₁.setTop (mkF m 0 #[.val (.ref a1), .unset] [])) _
    refine XS.aloadN X0.here hx rfl (hb hby d1_0) rfl rfl ?_
    show Steps p.tables e below (s₁.setTop (mkF m 1 #[.val (.ref a1), .unset] [(.ref a1)])) _
    refine st4 _ ?_
    show Steps p.tables e below (T4.setTop (mkF m 4 #[.val (.ref a1), .unset] [(.ref wP), (.ref a1)])) _
    refine Jvm.RoadKit.acmp (g := (mkF m 4 #[.val (.ref a1), .unset] [(.ref wP), (.ref a1)])) X4 hx rfl rfl rfl (pc0 := 4) (pc' := 14) (same := false) rfl (hb hby d1_4) rfl (decide_eq_false fun q => hne (Value.ref.inj q)) (by decide) (by decide) ?_
    show Steps p.tables e below (T4.setTop (mkF m 14 #[.val (.ref a1), .unset] [])) _
    refine st5 _ ?_
    show Steps p.tables e below (T5.setTop (mkF m 17 #[.val (.ref a1), .unset] [(.ref wP)])) _
    refine XS.astoreN X5.here hx rfl (hb hby d1_17) rfl rfl (l' := #[.val (.ref a1), .val (.ref wP)]) rfl ?_
    show Steps p.tables e below (T5.setTop (mkF m 18 #[.val (.ref a1), .val (.ref wP)] [])) _
    refine XS.aloadN X5.here hx rfl (hb hby d1_18) rfl rfl ?_
    exact kt
  obtain ⟨fs, hr, hrun, hended, hW, hsame⟩ := X5.leave (v := some (.ref wP)) (fun h => by rw [Bd.returns] at h; cases h)
  refine ⟨_, _, pre6 _ ?_, hrun, hended, _, _, rfl, ?_, ⟨_, rfl⟩, hW, hsame.mono (by decide) (by decide)⟩
  · show Steps p.tables e below (T5.setTop (mkF m 19 #[.val (.ref a1), .val (.ref wP)] [(.ref wP)])) _
    jvm_step X5.here [X5.here.top, hx, (hb hby d1_19), X5.method', Bd.returns, Value.isRef, FieldType.isReference]
    first | (intro acts; rw [hr _ acts rfl rfl rfl]) | rw [hr _ _ rfl rfl rfl]
    exact Steps.refl _
  · show Q1b Z a1 wP h0 n0 _ T5.heap _
    rw [e5]
    exact ⟨rfl, N0, rfl⟩
theorem d2_0 : decode prog_54_method_4_code 0 = .ok (.aload_n 0, 1) := by decide +kernel
theorem d2_1 : decode prog_54_method_4_code 1 = .ok (.getfield 29, 3) := by decide +kernel
theorem d2_4 : decode prog_54_method_4_code 4 = .ok (.areturn, 1) := by decide +kernel
theorem pn_2 : plainName "com/example/bilateral_policy/bilateralpolicy/evaluation/Effect" = true := by first | (simp [plainName, overriddenIn]; done) | decide +kernel
theorem ef_2 (m : MethodId) (x0 : Addr) : entryFrame m #[(.ref x0)] 1 = mkF m 0 #[.val (.ref x0)] [] := by first | (simp [entryFrame, mkF, argsToLocals, Value.category]; done) | rfl
def Q2 (Z : State) (a1 : Addr) (wR : Addr) (h0 : Heap) (n0 : Nat) (v : Option Value) (h : Heap) (L : List Loc) : Prop := v = some (.ref wR) ∧ Fr n0 L ∧ h = h0
set_option maxRecDepth 65536 in
set_option maxHeartbeats 40000000 in
theorem rm2 (l : Launch) (Z : State) (a0 : Array Value) (hw : ∀ d ∈ tables_1, d.before a0 Z = true) (ws : List Jvm.Cond) (a1 : Addr) (wR : Addr) (h0 : Heap) (n0 : Nat) (Z0 : n0 ≤ h0.size) (F1 : Fld Z h0 a1 "com/example/bilateral_policy/bilateralpolicy/evaluation/Effect" "decision" "Lcom/example/bilateral_policy/bilateralpolicy/evaluation/Decision;" (.ref wR)) :
    MetFree l (⟨"com/example/bilateral_policy/bilateralpolicy/evaluation/Effect", "decision", "()Lcom/example/bilateral_policy/bilateralpolicy/evaluation/Decision;"⟩ : MethodName) (head1 (Jvm.Cond.code (⟨"com/example/bilateral_policy/bilateralpolicy/evaluation/Effect", "decision", "()Lcom/example/bilateral_policy/bilateralpolicy/evaluation/Decision;"⟩ : MethodName) prog_54_method_4_code 1 (some (.object "com/example/bilateral_policy/bilateralpolicy/evaluation/Decision")) :: ws) ({ frames := 0, cells := 0, slots := 0, locals := 0 } : Room)) (fun a U => a = #[(.ref a1)] ∧ Z.Warmed39 U.vm ∧ U.heap = h0) (fun _ _ _ _ _ => True) (fun _ U o U' => ∃ v L, o = .returned v ∧ Q2 Z a1 wR h0 n0 v U'.heap L ∧ FrameEnd U o U' L ({ frames := 0, cells := 0, slots := 0, locals := 0 } : Room).cells ({ frames := 0, cells := 0, slots := 0, locals := 0 } : Room).slots) := by
  refine MetFree.of_bodySF (plainFor_of_name pn_2) hisR ?_
  intro p e s m args below meth c s₁ Bd hml0 hP hK
  obtain ⟨rfl, hZ, hh⟩ := hP
  have hx := Bd.exec
  have hby := Bd.bytes
  have hml : c.maxLocals = 1 := hml0
  have hown : s.vm.findClass "com/example/bilateral_policy/bilateralpolicy/evaluation/Effect" = some m.cls := findClass_of_methodNamed Bd.named
  have hnm := (name_of_methodNamed Bd.named Bd.method).1
  have X0 : Stand p l e ({ frames := 0, cells := 0, slots := 0, locals := 0 } : Room) s m #[(.ref a1)] below meth c s₁ [] 0 0 := Stand.of_body Bd
  have e0 : s₁.heap = h0 := by rw [← hh, Bd.state]; rfl
  have N0 := Fr.nil n0
  have pre0 : ∀ t, Steps p.tables e below (s₁.setTop (mkF m 0 #[.val (.ref a1)] [])) t → Steps p.tables e below (s₁.setTop (entryFrame m #[(.ref a1)] 1)) t := fun t k => castTop (ef_2 m a1) k
  obtain ⟨T7, X7, e7, st7⟩ := getF X0 hx hZ hown (host := "") (Or.inl (hw _ (List.mem_of_getElem? (i := 17) rfl))) Via.refl e0 F1 (g := (mkF m 1 #[.val (.ref a1)] [(.ref a1)])) rfl rfl (hb hby d2_1)
  have pre8 : ∀ t, Steps p.tables e below (T7.setTop (mkF m 4 #[.val (.ref a1)] [(.ref wR)])) t → Steps p.tables e below (s₁.setTop (entryFrame m #[(.ref a1)] 1)) t := by
    intro t kt
    refine pre0 _ ?_
    show Steps p.tables e below (s₁.setTop (mkF m 0 #[.val (.ref a1)] [])) _
    refine XS.aloadN X0.here hx rfl (hb hby d2_0) rfl rfl ?_
    show Steps p.tables e below (s₁.setTop (mkF m 1 #[.val (.ref a1)] [(.ref a1)])) _
    refine st7 _ ?_
    exact kt
  obtain ⟨fs, hr, hrun, hended, hW, hsame⟩ := X7.leave (v := some (.ref wR)) (fun h => by rw [Bd.returns] at h; cases h)
  refine ⟨_, _, pre8 _ ?_, hrun, hended, _, _, rfl, ?_, ⟨_, rfl⟩, hW, hsame.mono (by decide) (by decide)⟩
  · show Steps p.tables e below (T7.setTop (mkF m 4 #[.val (.ref a1)] [(.ref wR)])) _
    jvm_step X7.here [X7.here.top, hx, (hb hby d2_4), X7.method', Bd.returns, Value.isRef, FieldType.isReference]
    first | (intro acts; rw [hr _ acts rfl rfl rfl]) | rw [hr _ _ rfl rfl rfl]
    exact Steps.refl _
  · show Q2 Z a1 wR h0 n0 _ T7.heap _
    rw [e7]
    exact ⟨rfl, N0, rfl⟩
theorem pd_0 : parseMethodDescriptor "()Lcom/example/bilateral_policy/bilateralpolicy/evaluation/Effect;" = some ⟨[], some (.object "com/example/bilateral_policy/bilateralpolicy/evaluation/Effect")⟩ := by decide +kernel
theorem pd_1 : parseMethodDescriptor "()Lcom/example/bilateral_policy/bilateralpolicy/evaluation/Decision;" = some ⟨[], some (.object "com/example/bilateral_policy/bilateralpolicy/evaluation/Decision")⟩ := by decide +kernel
theorem pn_0 : plainName "com/example/bilateral_policy/bilateralpolicy/evaluation/EffectOppositePinLaw" = true := by first | (simp [plainName, overriddenIn]; done) | decide +kernel
theorem ef_0 (m : MethodId) (x0 : Int32) : entryFrame m #[(.int x0)] maxLocals = mkF m 0 #[.val (.int x0), .unset, .unset, .unset, .unset] [] := by first | (simp [entryFrame, mkF, argsToLocals, Value.category, maxLocals]; done) | rfl
def Q0 (Z : State) (p1 : Int32) (wP : Addr) (wD : Addr) (dP : Addr) (dD : Addr) (h0 : Heap) (n0 : Nat) (v : Option Value) (h : Heap) (L : List Loc) : Prop := v = some (.int (1 : Int32)) ∧ Fr n0 L ∧ h = h0
set_option maxRecDepth 65536 in
set_option maxHeartbeats 40000000 in
theorem rm0 (l : Launch) (Z : State) (a0 : Array Value) (hw : ∀ d ∈ tables_1, d.before a0 Z = true) (ws : List Jvm.Cond) (p1 : Int32) (wP : Addr) (wD : Addr) (dP : Addr) (dD : Addr) (h0 : Heap) (n0 : Nat) (Z0 : n0 ≤ h0.size) (SP : Sta Z h0 "com/example/bilateral_policy/bilateralpolicy/evaluation/Effect" "PERMIT" "Lcom/example/bilateral_policy/bilateralpolicy/evaluation/Effect;" (.ref wP)) (SD : Sta Z h0 "com/example/bilateral_policy/bilateralpolicy/evaluation/Effect" "DENY" "Lcom/example/bilateral_policy/bilateralpolicy/evaluation/Effect;" (.ref wD)) (EP : Exa Z h0 wP "com/example/bilateral_policy/bilateralpolicy/evaluation/Effect") (ED : Exa Z h0 wD "com/example/bilateral_policy/bilateralpolicy/evaluation/Effect") (FP : Fld Z h0 wP "com/example/bilateral_policy/bilateralpolicy/evaluation/Effect" "decision" "Lcom/example/bilateral_policy/bilateralpolicy/evaluation/Decision;" (.ref dP)) (FD : Fld Z h0 wD "com/example/bilateral_policy/bilateralpolicy/evaluation/Effect" "decision" "Lcom/example/bilateral_policy/bilateralpolicy/evaluation/Decision;" (.ref dD)) (hne : wP ≠ wD) (hnd : dP ≠ dD) :
    MetFree l x (head1 (Jvm.Cond.code x code maxLocals ret :: ws) room_1) (fun a U => a = #[(.int p1)] ∧ Z.Warmed39 U.vm ∧ U.heap = h0) (fun _ _ _ _ _ => True) (fun _ U o U' => ∃ v L, o = .returned v ∧ Q0 Z p1 wP wD dP dD h0 n0 v U'.heap L ∧ FrameEnd U o U' L room_1.cells room_1.slots) := by
  refine MetFree.of_bodySF (plainFor_of_name pn_0) hisR ?_
  intro p e s m args below meth c s₁ Bd hml0 hP hK
  obtain ⟨rfl, hZ, hh⟩ := hP
  have hx := Bd.exec
  have hby := Bd.bytes
  have hml : c.maxLocals = 5 := hml0
  have hown : s.vm.findClass "com/example/bilateral_policy/bilateralpolicy/evaluation/EffectOppositePinLaw" = some m.cls := findClass_of_methodNamed Bd.named
  have hnm := (name_of_methodNamed Bd.named Bd.method).1
  have X0 : Stand p l e room_1 s m #[(.int p1)] below meth c s₁ [] 0 0 := Stand.of_body Bd
  have e0 : s₁.heap = h0 := by rw [← hh, Bd.state]; rfl
  have N0 := Fr.nil n0
  have pre0 : ∀ t, Steps p.tables e below (s₁.setTop (mkF m 0 #[.val (.int p1), .unset, .unset, .unset, .unset] [])) t → Steps p.tables e below (s₁.setTop (entryFrame m #[(.int p1)] maxLocals)) t := fun t k => castTop (ef_0 m p1) k
  have pre9 : ∀ t, Steps p.tables e below (s₁.setTop (mkF m 3 #[.val (.int p1), .unset, .unset, .unset, .unset] [(.int (p1 &&& (1 : Int32)))])) t → Steps p.tables e below (s₁.setTop (entryFrame m #[(.int p1)] maxLocals)) t := by
    intro t kt
    refine pre0 _ ?_
    show Steps p.tables e below (s₁.setTop (mkF m 0 #[.val (.int p1), .unset, .unset, .unset, .unset] [])) _
    refine XS.iloadN X0.here hx rfl (hb hby at_0) rfl ?_
    show Steps p.tables e below (s₁.setTop (mkF m 1 #[.val (.int p1), .unset, .unset, .unset, .unset] [(.int p1)])) _
    refine XS.iconst X0.here hx rfl (hb hby at_1) ?_
    show Steps p.tables e below (s₁.setTop (mkF m 2 #[.val (.int p1), .unset, .unset, .unset, .unset] [(.int (1 : Int32)), (.int p1)])) _
    refine XS.iand X0.here hx rfl (hb hby at_2) rfl ?_
    exact kt
  by_cases hc3_10 : (p1 &&& (1 : Int32)) = (0 : Int32)
  · obtain ⟨T11, X11, e11, st11⟩ := getS2 X0 hx hZ hown (host := "") (Or.inl (hw _ (List.mem_of_getElem? (i := 0) rfl))) Via.refl e0 SP (g := (mkF m 16 #[.val (.int p1), .val (.int (1 : Int32)), .unset, .unset, .unset] [])) rfl (hb hby at_16)
    obtain ⟨T12, X12, e12, st12⟩ := getS2 X11 hx hZ hown (host := "") (Or.inl (hw _ (List.mem_of_getElem? (i := 3) rfl))) Via.refl e11 SD (g := (mkF m 30 #[.val (.int p1), .val (.int (1 : Int32)), .val (.ref wP), .unset, .unset] [])) rfl (hb hby at_30)
    obtain ⟨cq13, kq13, q13a, q13b, q13c⟩ := isOf hZ e12 EP
    obtain ⟨_, _, ⟨T13, L13, k13, n13⟩, -, X13, ⟨Lc13, hQ13, l13, y13, z13⟩, st13⟩ := X12.virtualBack hx (y := (⟨"com/example/bilateral_policy/bilateralpolicy/evaluation/Effect", "opposite", "()Lcom/example/bilateral_policy/bilateralpolicy/evaluation/Effect;"⟩ : MethodName)) (z := (⟨"com/example/bilateral_policy/bilateralpolicy/evaluation/Effect", "opposite", "()Lcom/example/bilateral_policy/bilateralpolicy/evaluation/Effect;"⟩ : MethodName)) hown (mvT hZ (hw _ (List.mem_of_getElem? (i := 5) rfl))) (mvT hZ (hw _ (List.mem_of_getElem? (i := 6) rfl))) (notFace_of_selects (args := #[]) (mvT hZ (hw _ (List.mem_of_getElem? (i := 8) rfl)))) (mvT hZ (hw _ (List.mem_of_getElem? (i := 8) rfl))) (mvT hZ (hw _ (List.mem_of_getElem? (i := 7) rfl))) (by decide) (backOf (W := 0) (rm1a l Z a0 hw [] wP wD h0 n0 Z0 SP SD) hZ (hw _ (List.mem_of_getElem? (i := 9) rfl)) (hw _ (List.mem_of_getElem? (i := 1) rfl)) (by decide) (by decide)) q13a q13c (g := (mkF m 41 #[.val (.int p1), .val (.int (1 : Int32)), .val (.ref wP), .val (.ref wD), .unset] [(.ref wP)])) rfl (by rw [hml]; rfl) (Steps.refl _) (argsL := []) (rest := []) (lenOf pd_0 rfl) rfl (by show 2 * 0 + _ ≤ _; exact Nat.le_of_eq rfl) (hb hby at_41) (fun _ _ => ⟨rfl, e12, (by decide : 0 + 0 ≤ _), (by decide : 0 + 0 ≤ _)⟩)
    dsimp only [Pt.U, Pt.locs, Pt.cells, Pt.slots] at X13 l13 y13 z13 st13 hQ13
    subst l13 y13 z13
    obtain ⟨rfl, N13q, e13⟩ := hQ13
    have N13 := Fr.app N0 N13q
    obtain ⟨cq14, kq14, q14a, q14b, q14c⟩ := isOf hZ e13 ED
    obtain ⟨_, _, ⟨T14, L14, k14, n14⟩, -, X14, ⟨Lc14, hQ14, l14, y14, z14⟩, st14⟩ := X13.virtualBack hx (y := (⟨"com/example/bilateral_policy/bilateralpolicy/evaluation/Effect", "opposite", "()Lcom/example/bilateral_policy/bilateralpolicy/evaluation/Effect;"⟩ : MethodName)) (z := (⟨"com/example/bilateral_policy/bilateralpolicy/evaluation/Effect", "opposite", "()Lcom/example/bilateral_policy/bilateralpolicy/evaluation/Effect;"⟩ : MethodName)) hown (mvT hZ (hw _ (List.mem_of_getElem? (i := 5) rfl))) (mvT hZ (hw _ (List.mem_of_getElem? (i := 6) rfl))) (notFace_of_selects (args := #[]) (mvT hZ (hw _ (List.mem_of_getElem? (i := 8) rfl)))) (mvT hZ (hw _ (List.mem_of_getElem? (i := 8) rfl))) (mvT hZ (hw _ (List.mem_of_getElem? (i := 7) rfl))) (by decide) (backOf (W := 0) (rm1b l Z a0 hw [] wD wP h0 n0 Z0 SP (Ne.symm hne)) hZ (hw _ (List.mem_of_getElem? (i := 9) rfl)) (hw _ (List.mem_of_getElem? (i := 1) rfl)) (by decide) (by decide)) q14a q14c (g := (mkF m 64 #[.val (.int p1), .val (.int (1 : Int32)), .val (.ref wP), .val (.ref wD), .val (.ref wD)] [(.ref wD)])) rfl (by rw [hml]; rfl) (Steps.refl _) (argsL := []) (rest := []) (lenOf pd_0 rfl) rfl (by show 2 * 0 + _ ≤ _; exact Nat.le_of_eq rfl) (hb hby at_64) (fun _ _ => ⟨rfl, e13, (by decide : 0 + 0 ≤ _), (by decide : 0 + 0 ≤ _)⟩)
    dsimp only [Pt.U, Pt.locs, Pt.cells, Pt.slots] at X14 l14 y14 z14 st14 hQ14
    subst l14 y14 z14
    obtain ⟨rfl, N14q, e14⟩ := hQ14
    have N14 := Fr.app N13 N14q
    obtain ⟨cq15, kq15, q15a, q15b, q15c⟩ := isOf hZ e14 ED
    obtain ⟨_, _, ⟨T15, L15, k15, n15⟩, -, X15, ⟨Lc15, hQ15, l15, y15, z15⟩, st15⟩ := X14.virtualBack hx (y := (⟨"com/example/bilateral_policy/bilateralpolicy/evaluation/Effect", "decision", "()Lcom/example/bilateral_policy/bilateralpolicy/evaluation/Decision;"⟩ : MethodName)) (z := (⟨"com/example/bilateral_policy/bilateralpolicy/evaluation/Effect", "decision", "()Lcom/example/bilateral_policy/bilateralpolicy/evaluation/Decision;"⟩ : MethodName)) hown (mvT hZ (hw _ (List.mem_of_getElem? (i := 12) rfl))) (mvT hZ (hw _ (List.mem_of_getElem? (i := 13) rfl))) (notFace_of_selects (args := #[]) (mvT hZ (hw _ (List.mem_of_getElem? (i := 15) rfl)))) (mvT hZ (hw _ (List.mem_of_getElem? (i := 15) rfl))) (mvT hZ (hw _ (List.mem_of_getElem? (i := 14) rfl))) (by decide) (backOf (W := 0) (rm2 l Z a0 hw [] wD dD h0 n0 Z0 FD) hZ (hw _ (List.mem_of_getElem? (i := 16) rfl)) (hw _ (List.mem_of_getElem? (i := 1) rfl)) (by decide) (by decide)) q15a q15c (g := (mkF m 75 #[.val (.int p1), .val (.int (1 : Int32)), .val (.ref wP), .val (.ref wD), .val (.ref wD)] [(.ref wD)])) rfl (by rw [hml]; rfl) (Steps.refl _) (argsL := []) (rest := []) (lenOf pd_1 rfl) rfl (by show 2 * 0 + _ ≤ _; exact Nat.le_of_eq rfl) (hb hby at_75) (fun _ _ => ⟨rfl, e14, (by decide : 0 + 0 ≤ _), (by decide : 0 + 0 ≤ _)⟩)
    dsimp only [Pt.U, Pt.locs, Pt.cells, Pt.slots] at X15 l15 y15 z15 st15 hQ15
    subst l15 y15 z15
    obtain ⟨rfl, N15q, e15⟩ := hQ15
    have N15 := Fr.app N14 N15q
    obtain ⟨cq16, kq16, q16a, q16b, q16c⟩ := isOf hZ e15 EP
    obtain ⟨_, _, ⟨T16, L16, k16, n16⟩, -, X16, ⟨Lc16, hQ16, l16, y16, z16⟩, st16⟩ := X15.virtualBack hx (y := (⟨"com/example/bilateral_policy/bilateralpolicy/evaluation/Effect", "decision", "()Lcom/example/bilateral_policy/bilateralpolicy/evaluation/Decision;"⟩ : MethodName)) (z := (⟨"com/example/bilateral_policy/bilateralpolicy/evaluation/Effect", "decision", "()Lcom/example/bilateral_policy/bilateralpolicy/evaluation/Decision;"⟩ : MethodName)) hown (mvT hZ (hw _ (List.mem_of_getElem? (i := 12) rfl))) (mvT hZ (hw _ (List.mem_of_getElem? (i := 13) rfl))) (notFace_of_selects (args := #[]) (mvT hZ (hw _ (List.mem_of_getElem? (i := 15) rfl)))) (mvT hZ (hw _ (List.mem_of_getElem? (i := 15) rfl))) (mvT hZ (hw _ (List.mem_of_getElem? (i := 14) rfl))) (by decide) (backOf (W := 1) (rm2 l Z a0 hw [] wP dP h0 n0 Z0 FP) hZ (hw _ (List.mem_of_getElem? (i := 16) rfl)) (hw _ (List.mem_of_getElem? (i := 1) rfl)) (by decide) (by decide)) q16a q16c (g := (mkF m 79 #[.val (.int p1), .val (.int (1 : Int32)), .val (.ref wP), .val (.ref wD), .val (.ref wD)] [(.ref wP), (.ref dD)])) rfl (by rw [hml]; rfl) (Steps.refl _) (argsL := []) (rest := [(.ref dD)]) (lenOf pd_1 rfl) rfl (by show 2 * 0 + _ ≤ _; exact Nat.le_of_eq rfl) (hb hby at_79) (fun _ _ => ⟨rfl, e15, (by decide : 0 + 0 ≤ _), (by decide : 0 + 0 ≤ _)⟩)
    dsimp only [Pt.U, Pt.locs, Pt.cells, Pt.slots] at X16 l16 y16 z16 st16 hQ16
    subst l16 y16 z16
    obtain ⟨rfl, N16q, e16⟩ := hQ16
    have N16 := Fr.app N15 N16q
    have pre17 : ∀ t, Steps p.tables e below (T16.setTop (mkF m 90 #[.val (.int p1), .val (.int (1 : Int32)), .val (.ref wP), .val (.ref wD), .val (.ref wD)] [(.int (1 : Int32))])) t → Steps p.tables e below (s₁.setTop (entryFrame m #[(.int p1)] maxLocals)) t := by
      intro t kt
      refine pre9 _ ?_
      show Steps p.tables e below (s₁.setTop (mkF m 3 #[.val (.int p1), .unset, .unset, .unset, .unset] [(.int (p1 &&& (1 : Int32)))])) _
      refine XS.ifNo X0.here hx rfl (hb hby at_3) rfl ((if0 _ _).trans (teq hc3_10).2) ?_
      show Steps p.tables e below (s₁.setTop (mkF m 6 #[.val (.int p1), .unset, .unset, .unset, .unset] [])) _
      refine XS.iconst X0.here hx rfl (hb hby at_6) ?_
      show Steps p.tables e below (s₁.setTop (mkF m 7 #[.val (.int p1), .unset, .unset, .unset, .unset] [(.int (1 : Int32))])) _
      refine XS.goto X0.here hx rfl (pc0 := 7) (pc' := 11) rfl (hb hby at_7) (by decide) (by decide) ?_
      show Steps p.tables e below (s₁.setTop (mkF m 11 #[.val (.int p1), .unset, .unset, .unset, .unset] [(.int (1 : Int32))])) _
      refine XS.istoreN X0.here hx rfl (hb hby at_11) rfl (l' := #[.val (.int p1), .val (.int (1 : Int32)), .unset, .unset, .unset]) rfl ?_
      show Steps p.tables e below (s₁.setTop (mkF m 12 #[.val (.int p1), .val (.int (1 : Int32)), .unset, .unset, .unset] [])) _
      refine XS.iloadN X0.here hx rfl (hb hby at_12) rfl ?_
      show Steps p.tables e below (s₁.setTop (mkF m 13 #[.val (.int p1), .val (.int (1 : Int32)), .unset, .unset, .unset] [(.int (1 : Int32))])) _
      refine XS.ifNo X0.here hx rfl (hb hby at_13) rfl ((if0 _ _).trans (feq (by decide : ¬ ((1 : Int32) = (0 : Int32)))).1) ?_
      show Steps p.tables e below (s₁.setTop (mkF m 16 #[.val (.int p1), .val (.int (1 : Int32)), .unset, .unset, .unset] [])) _
      refine st11 _ ?_
      show Steps p.tables e below (T11.setTop (mkF m 19 #[.val (.int p1), .val (.int (1 : Int32)), .unset, .unset, .unset] [(.ref wP)])) _
      refine XS.goto X11.here hx rfl (pc0 := 19) (pc' := 25) rfl (hb hby at_19) (by decide) (by decide) ?_
      show Steps p.tables e below (T11.setTop (mkF m 25 #[.val (.int p1), .val (.int (1 : Int32)), .unset, .unset, .unset] [(.ref wP)])) _
      refine XS.astoreN X11.here hx rfl (hb hby at_25) rfl rfl (l' := #[.val (.int p1), .val (.int (1 : Int32)), .val (.ref wP), .unset, .unset]) rfl ?_
      show Steps p.tables e below (T11.setTop (mkF m 26 #[.val (.int p1), .val (.int (1 : Int32)), .val (.ref wP), .unset, .unset] [])) _
      refine XS.iloadN X11.here hx rfl (hb hby at_26) rfl ?_
      show Steps p.tables e below (T11.setTop (mkF m 27 #[.val (.int p1), .val (.int (1 : Int32)), .val (.ref wP), .unset, .unset] [(.int (1 : Int32))])) _
      refine XS.ifNo X11.here hx rfl (hb hby at_27) rfl ((if0 _ _).trans (feq (by decide : ¬ ((1 : Int32) = (0 : Int32)))).1) ?_
      show Steps p.tables e below (T11.setTop (mkF m 30 #[.val (.int p1), .val (.int (1 : Int32)), .val (.ref wP), .unset, .unset] [])) _
      refine st12 _ ?_
      show Steps p.tables e below (T12.setTop (mkF m 33 #[.val (.int p1), .val (.int (1 : Int32)), .val (.ref wP), .unset, .unset] [(.ref wD)])) _
      refine XS.goto X12.here hx rfl (pc0 := 33) (pc' := 39) rfl (hb hby at_33) (by decide) (by decide) ?_
      show Steps p.tables e below (T12.setTop (mkF m 39 #[.val (.int p1), .val (.int (1 : Int32)), .val (.ref wP), .unset, .unset] [(.ref wD)])) _
      refine XS.astoreN X12.here hx rfl (hb hby at_39) rfl rfl (l' := #[.val (.int p1), .val (.int (1 : Int32)), .val (.ref wP), .val (.ref wD), .unset]) rfl ?_
      show Steps p.tables e below (T12.setTop (mkF m 40 #[.val (.int p1), .val (.int (1 : Int32)), .val (.ref wP), .val (.ref wD), .unset] [])) _
      refine XS.aloadN X12.here hx rfl (hb hby at_40) rfl rfl ?_
      show Steps p.tables e below (T12.setTop (mkF m 41 #[.val (.int p1), .val (.int (1 : Int32)), .val (.ref wP), .val (.ref wD), .unset] [(.ref wP)])) _
      refine st13.trans ?_
      show Steps p.tables e below (T13.setTop (mkF m 44 #[.val (.int p1), .val (.int (1 : Int32)), .val (.ref wP), .val (.ref wD), .unset] [(.ref wD)])) _
      refine XS.astore X13.here hx rfl (hb hby at_44) rfl rfl (l' := #[.val (.int p1), .val (.int (1 : Int32)), .val (.ref wP), .val (.ref wD), .val (.ref wD)]) rfl ?_
      show Steps p.tables e below (T13.setTop (mkF m 46 #[.val (.int p1), .val (.int (1 : Int32)), .val (.ref wP), .val (.ref wD), .val (.ref wD)] [])) _
      refine XS.aload X13.here hx rfl (hb hby at_46) rfl rfl ?_
      show Steps p.tables e below (T13.setTop (mkF m 48 #[.val (.int p1), .val (.int (1 : Int32)), .val (.ref wP), .val (.ref wD), .val (.ref wD)] [(.ref wD)])) _
      refine XS.aloadN X13.here hx rfl (hb hby at_48) rfl rfl ?_
      show Steps p.tables e below (T13.setTop (mkF m 49 #[.val (.int p1), .val (.int (1 : Int32)), .val (.ref wP), .val (.ref wD), .val (.ref wD)] [(.ref wD), (.ref wD)])) _
      refine Jvm.RoadKit.acmp (g := (mkF m 49 #[.val (.int p1), .val (.int (1 : Int32)), .val (.ref wP), .val (.ref wD), .val (.ref wD)] [(.ref wD), (.ref wD)])) X13 hx rfl rfl rfl (pc0 := 49) (pc' := 54) (same := true) rfl (hb hby at_49) rfl (decide_eq_true rfl) (by decide) (by decide) ?_
      show Steps p.tables e below (T13.setTop (mkF m 54 #[.val (.int p1), .val (.int (1 : Int32)), .val (.ref wP), .val (.ref wD), .val (.ref wD)] [])) _
      refine XS.aload X13.here hx rfl (hb hby at_54) rfl rfl ?_
      show Steps p.tables e below (T13.setTop (mkF m 56 #[.val (.int p1), .val (.int (1 : Int32)), .val (.ref wP), .val (.ref wD), .val (.ref wD)] [(.ref wD)])) _
      refine XS.aloadN X13.here hx rfl (hb hby at_56) rfl rfl ?_
      show Steps p.tables e below (T13.setTop (mkF m 57 #[.val (.int p1), .val (.int (1 : Int32)), .val (.ref wP), .val (.ref wD), .val (.ref wD)] [(.ref wP), (.ref wD)])) _
      refine Jvm.RoadKit.acmp (g := (mkF m 57 #[.val (.int p1), .val (.int (1 : Int32)), .val (.ref wP), .val (.ref wD), .val (.ref wD)] [(.ref wP), (.ref wD)])) X13 hx rfl rfl rfl (pc0 := 57) (pc' := 62) (same := false) rfl (hb hby at_57) rfl (decide_eq_false fun q => (Ne.symm hne) (Value.ref.inj q)) (by decide) (by decide) ?_
      show Steps p.tables e below (T13.setTop (mkF m 62 #[.val (.int p1), .val (.int (1 : Int32)), .val (.ref wP), .val (.ref wD), .val (.ref wD)] [])) _
      refine XS.aload X13.here hx rfl (hb hby at_62) rfl rfl ?_
      show Steps p.tables e below (T13.setTop (mkF m 64 #[.val (.int p1), .val (.int (1 : Int32)), .val (.ref wP), .val (.ref wD), .val (.ref wD)] [(.ref wD)])) _
      refine st14.trans ?_
      show Steps p.tables e below (T14.setTop (mkF m 67 #[.val (.int p1), .val (.int (1 : Int32)), .val (.ref wP), .val (.ref wD), .val (.ref wD)] [(.ref wP)])) _
      refine XS.aloadN X14.here hx rfl (hb hby at_67) rfl rfl ?_
      show Steps p.tables e below (T14.setTop (mkF m 68 #[.val (.int p1), .val (.int (1 : Int32)), .val (.ref wP), .val (.ref wD), .val (.ref wD)] [(.ref wP), (.ref wP)])) _
      refine Jvm.RoadKit.acmp (g := (mkF m 68 #[.val (.int p1), .val (.int (1 : Int32)), .val (.ref wP), .val (.ref wD), .val (.ref wD)] [(.ref wP), (.ref wP)])) X14 hx rfl rfl rfl (pc0 := 68) (pc' := 73) (same := true) rfl (hb hby at_68) rfl (decide_eq_true rfl) (by decide) (by decide) ?_
      show Steps p.tables e below (T14.setTop (mkF m 73 #[.val (.int p1), .val (.int (1 : Int32)), .val (.ref wP), .val (.ref wD), .val (.ref wD)] [])) _
      refine XS.aload X14.here hx rfl (hb hby at_73) rfl rfl ?_
      show Steps p.tables e below (T14.setTop (mkF m 75 #[.val (.int p1), .val (.int (1 : Int32)), .val (.ref wP), .val (.ref wD), .val (.ref wD)] [(.ref wD)])) _
      refine st15.trans ?_
      show Steps p.tables e below (T15.setTop (mkF m 78 #[.val (.int p1), .val (.int (1 : Int32)), .val (.ref wP), .val (.ref wD), .val (.ref wD)] [(.ref dD)])) _
      refine XS.aloadN X15.here hx rfl (hb hby at_78) rfl rfl ?_
      show Steps p.tables e below (T15.setTop (mkF m 79 #[.val (.int p1), .val (.int (1 : Int32)), .val (.ref wP), .val (.ref wD), .val (.ref wD)] [(.ref wP), (.ref dD)])) _
      refine st16.trans ?_
      show Steps p.tables e below (T16.setTop (mkF m 82 #[.val (.int p1), .val (.int (1 : Int32)), .val (.ref wP), .val (.ref wD), .val (.ref wD)] [(.ref dP), (.ref dD)])) _
      refine Jvm.RoadKit.acmp (g := (mkF m 82 #[.val (.int p1), .val (.int (1 : Int32)), .val (.ref wP), .val (.ref wD), .val (.ref wD)] [(.ref dP), (.ref dD)])) X16 hx rfl rfl rfl (pc0 := 82) (pc' := 85) (same := false) rfl (hb hby at_82) rfl (decide_eq_false fun q => (Ne.symm hnd) (Value.ref.inj q)) (by decide) (by decide) ?_
      show Steps p.tables e below (T16.setTop (mkF m 85 #[.val (.int p1), .val (.int (1 : Int32)), .val (.ref wP), .val (.ref wD), .val (.ref wD)] [])) _
      refine XS.iconst X16.here hx rfl (hb hby at_85) ?_
      show Steps p.tables e below (T16.setTop (mkF m 86 #[.val (.int p1), .val (.int (1 : Int32)), .val (.ref wP), .val (.ref wD), .val (.ref wD)] [(.int (1 : Int32))])) _
      refine XS.goto X16.here hx rfl (pc0 := 86) (pc' := 90) rfl (hb hby at_86) (by decide) (by decide) ?_
      exact kt
    obtain ⟨fs, hr, hrun, hended, hW, hsame⟩ := X16.leave (v := some (.int (1 : Int32))) (fun h => by rw [Bd.returns] at h; cases h)
    refine ⟨_, _, pre17 _ ?_, hrun, hended, _, _, rfl, ?_, ⟨_, rfl⟩, hW, hsame.mono (by decide) (by decide)⟩
    · show Steps p.tables e below (T16.setTop (mkF m 90 #[.val (.int p1), .val (.int (1 : Int32)), .val (.ref wP), .val (.ref wD), .val (.ref wD)] [(.int (1 : Int32))])) _
      exact retN X16 hx (t := .boolean) Bd.returns (by simp) (hb hby at_90) hr
    · show Q0 Z p1 wP wD dP dD h0 n0 _ T16.heap _
      rw [e16]
      exact ⟨rfl, N16, rfl⟩
  · obtain ⟨T18, X18, e18, st18⟩ := getS2 X0 hx hZ hown (host := "") (Or.inl (hw _ (List.mem_of_getElem? (i := 3) rfl))) Via.refl e0 SD (g := (mkF m 22 #[.val (.int p1), .val (.int (0 : Int32)), .unset, .unset, .unset] [])) rfl (hb hby at_22)
    obtain ⟨T19, X19, e19, st19⟩ := getS2 X18 hx hZ hown (host := "") (Or.inl (hw _ (List.mem_of_getElem? (i := 0) rfl))) Via.refl e18 SP (g := (mkF m 36 #[.val (.int p1), .val (.int (0 : Int32)), .val (.ref wD), .unset, .unset] [])) rfl (hb hby at_36)
    obtain ⟨cq20, kq20, q20a, q20b, q20c⟩ := isOf hZ e19 ED
    obtain ⟨_, _, ⟨T20, L20, k20, n20⟩, -, X20, ⟨Lc20, hQ20, l20, y20, z20⟩, st20⟩ := X19.virtualBack hx (y := (⟨"com/example/bilateral_policy/bilateralpolicy/evaluation/Effect", "opposite", "()Lcom/example/bilateral_policy/bilateralpolicy/evaluation/Effect;"⟩ : MethodName)) (z := (⟨"com/example/bilateral_policy/bilateralpolicy/evaluation/Effect", "opposite", "()Lcom/example/bilateral_policy/bilateralpolicy/evaluation/Effect;"⟩ : MethodName)) hown (mvT hZ (hw _ (List.mem_of_getElem? (i := 5) rfl))) (mvT hZ (hw _ (List.mem_of_getElem? (i := 6) rfl))) (notFace_of_selects (args := #[]) (mvT hZ (hw _ (List.mem_of_getElem? (i := 8) rfl)))) (mvT hZ (hw _ (List.mem_of_getElem? (i := 8) rfl))) (mvT hZ (hw _ (List.mem_of_getElem? (i := 7) rfl))) (by decide) (backOf (W := 0) (rm1b l Z a0 hw [] wD wP h0 n0 Z0 SP (Ne.symm hne)) hZ (hw _ (List.mem_of_getElem? (i := 9) rfl)) (hw _ (List.mem_of_getElem? (i := 1) rfl)) (by decide) (by decide)) q20a q20c (g := (mkF m 41 #[.val (.int p1), .val (.int (0 : Int32)), .val (.ref wD), .val (.ref wP), .unset] [(.ref wD)])) rfl (by rw [hml]; rfl) (Steps.refl _) (argsL := []) (rest := []) (lenOf pd_0 rfl) rfl (by show 2 * 0 + _ ≤ _; exact Nat.le_of_eq rfl) (hb hby at_41) (fun _ _ => ⟨rfl, e19, (by decide : 0 + 0 ≤ _), (by decide : 0 + 0 ≤ _)⟩)
    dsimp only [Pt.U, Pt.locs, Pt.cells, Pt.slots] at X20 l20 y20 z20 st20 hQ20
    subst l20 y20 z20
    obtain ⟨rfl, N20q, e20⟩ := hQ20
    have N20 := Fr.app N0 N20q
    obtain ⟨cq21, kq21, q21a, q21b, q21c⟩ := isOf hZ e20 EP
    obtain ⟨_, _, ⟨T21, L21, k21, n21⟩, -, X21, ⟨Lc21, hQ21, l21, y21, z21⟩, st21⟩ := X20.virtualBack hx (y := (⟨"com/example/bilateral_policy/bilateralpolicy/evaluation/Effect", "opposite", "()Lcom/example/bilateral_policy/bilateralpolicy/evaluation/Effect;"⟩ : MethodName)) (z := (⟨"com/example/bilateral_policy/bilateralpolicy/evaluation/Effect", "opposite", "()Lcom/example/bilateral_policy/bilateralpolicy/evaluation/Effect;"⟩ : MethodName)) hown (mvT hZ (hw _ (List.mem_of_getElem? (i := 5) rfl))) (mvT hZ (hw _ (List.mem_of_getElem? (i := 6) rfl))) (notFace_of_selects (args := #[]) (mvT hZ (hw _ (List.mem_of_getElem? (i := 8) rfl)))) (mvT hZ (hw _ (List.mem_of_getElem? (i := 8) rfl))) (mvT hZ (hw _ (List.mem_of_getElem? (i := 7) rfl))) (by decide) (backOf (W := 0) (rm1a l Z a0 hw [] wP wD h0 n0 Z0 SP SD) hZ (hw _ (List.mem_of_getElem? (i := 9) rfl)) (hw _ (List.mem_of_getElem? (i := 1) rfl)) (by decide) (by decide)) q21a q21c (g := (mkF m 64 #[.val (.int p1), .val (.int (0 : Int32)), .val (.ref wD), .val (.ref wP), .val (.ref wP)] [(.ref wP)])) rfl (by rw [hml]; rfl) (Steps.refl _) (argsL := []) (rest := []) (lenOf pd_0 rfl) rfl (by show 2 * 0 + _ ≤ _; exact Nat.le_of_eq rfl) (hb hby at_64) (fun _ _ => ⟨rfl, e20, (by decide : 0 + 0 ≤ _), (by decide : 0 + 0 ≤ _)⟩)
    dsimp only [Pt.U, Pt.locs, Pt.cells, Pt.slots] at X21 l21 y21 z21 st21 hQ21
    subst l21 y21 z21
    obtain ⟨rfl, N21q, e21⟩ := hQ21
    have N21 := Fr.app N20 N21q
    obtain ⟨cq22, kq22, q22a, q22b, q22c⟩ := isOf hZ e21 EP
    obtain ⟨_, _, ⟨T22, L22, k22, n22⟩, -, X22, ⟨Lc22, hQ22, l22, y22, z22⟩, st22⟩ := X21.virtualBack hx (y := (⟨"com/example/bilateral_policy/bilateralpolicy/evaluation/Effect", "decision", "()Lcom/example/bilateral_policy/bilateralpolicy/evaluation/Decision;"⟩ : MethodName)) (z := (⟨"com/example/bilateral_policy/bilateralpolicy/evaluation/Effect", "decision", "()Lcom/example/bilateral_policy/bilateralpolicy/evaluation/Decision;"⟩ : MethodName)) hown (mvT hZ (hw _ (List.mem_of_getElem? (i := 12) rfl))) (mvT hZ (hw _ (List.mem_of_getElem? (i := 13) rfl))) (notFace_of_selects (args := #[]) (mvT hZ (hw _ (List.mem_of_getElem? (i := 15) rfl)))) (mvT hZ (hw _ (List.mem_of_getElem? (i := 15) rfl))) (mvT hZ (hw _ (List.mem_of_getElem? (i := 14) rfl))) (by decide) (backOf (W := 0) (rm2 l Z a0 hw [] wP dP h0 n0 Z0 FP) hZ (hw _ (List.mem_of_getElem? (i := 16) rfl)) (hw _ (List.mem_of_getElem? (i := 1) rfl)) (by decide) (by decide)) q22a q22c (g := (mkF m 75 #[.val (.int p1), .val (.int (0 : Int32)), .val (.ref wD), .val (.ref wP), .val (.ref wP)] [(.ref wP)])) rfl (by rw [hml]; rfl) (Steps.refl _) (argsL := []) (rest := []) (lenOf pd_1 rfl) rfl (by show 2 * 0 + _ ≤ _; exact Nat.le_of_eq rfl) (hb hby at_75) (fun _ _ => ⟨rfl, e21, (by decide : 0 + 0 ≤ _), (by decide : 0 + 0 ≤ _)⟩)
    dsimp only [Pt.U, Pt.locs, Pt.cells, Pt.slots] at X22 l22 y22 z22 st22 hQ22
    subst l22 y22 z22
    obtain ⟨rfl, N22q, e22⟩ := hQ22
    have N22 := Fr.app N21 N22q
    obtain ⟨cq23, kq23, q23a, q23b, q23c⟩ := isOf hZ e22 ED
    obtain ⟨_, _, ⟨T23, L23, k23, n23⟩, -, X23, ⟨Lc23, hQ23, l23, y23, z23⟩, st23⟩ := X22.virtualBack hx (y := (⟨"com/example/bilateral_policy/bilateralpolicy/evaluation/Effect", "decision", "()Lcom/example/bilateral_policy/bilateralpolicy/evaluation/Decision;"⟩ : MethodName)) (z := (⟨"com/example/bilateral_policy/bilateralpolicy/evaluation/Effect", "decision", "()Lcom/example/bilateral_policy/bilateralpolicy/evaluation/Decision;"⟩ : MethodName)) hown (mvT hZ (hw _ (List.mem_of_getElem? (i := 12) rfl))) (mvT hZ (hw _ (List.mem_of_getElem? (i := 13) rfl))) (notFace_of_selects (args := #[]) (mvT hZ (hw _ (List.mem_of_getElem? (i := 15) rfl)))) (mvT hZ (hw _ (List.mem_of_getElem? (i := 15) rfl))) (mvT hZ (hw _ (List.mem_of_getElem? (i := 14) rfl))) (by decide) (backOf (W := 1) (rm2 l Z a0 hw [] wD dD h0 n0 Z0 FD) hZ (hw _ (List.mem_of_getElem? (i := 16) rfl)) (hw _ (List.mem_of_getElem? (i := 1) rfl)) (by decide) (by decide)) q23a q23c (g := (mkF m 79 #[.val (.int p1), .val (.int (0 : Int32)), .val (.ref wD), .val (.ref wP), .val (.ref wP)] [(.ref wD), (.ref dP)])) rfl (by rw [hml]; rfl) (Steps.refl _) (argsL := []) (rest := [(.ref dP)]) (lenOf pd_1 rfl) rfl (by show 2 * 0 + _ ≤ _; exact Nat.le_of_eq rfl) (hb hby at_79) (fun _ _ => ⟨rfl, e22, (by decide : 0 + 0 ≤ _), (by decide : 0 + 0 ≤ _)⟩)
    dsimp only [Pt.U, Pt.locs, Pt.cells, Pt.slots] at X23 l23 y23 z23 st23 hQ23
    subst l23 y23 z23
    obtain ⟨rfl, N23q, e23⟩ := hQ23
    have N23 := Fr.app N22 N23q
    have pre24 : ∀ t, Steps p.tables e below (T23.setTop (mkF m 90 #[.val (.int p1), .val (.int (0 : Int32)), .val (.ref wD), .val (.ref wP), .val (.ref wP)] [(.int (1 : Int32))])) t → Steps p.tables e below (s₁.setTop (entryFrame m #[(.int p1)] maxLocals)) t := by
      intro t kt
      refine pre9 _ ?_
      show Steps p.tables e below (s₁.setTop (mkF m 3 #[.val (.int p1), .unset, .unset, .unset, .unset] [(.int (p1 &&& (1 : Int32)))])) _
      refine XS.ifYes X0.here hx rfl (pc0 := 3) (pc' := 10) rfl (hb hby at_3) rfl ((if0 _ _).trans (feq hc3_10).2) (by decide) (by decide) ?_
      show Steps p.tables e below (s₁.setTop (mkF m 10 #[.val (.int p1), .unset, .unset, .unset, .unset] [])) _
      refine XS.iconst X0.here hx rfl (hb hby at_10) ?_
      show Steps p.tables e below (s₁.setTop (mkF m 11 #[.val (.int p1), .unset, .unset, .unset, .unset] [(.int (0 : Int32))])) _
      refine XS.istoreN X0.here hx rfl (hb hby at_11) rfl (l' := #[.val (.int p1), .val (.int (0 : Int32)), .unset, .unset, .unset]) rfl ?_
      show Steps p.tables e below (s₁.setTop (mkF m 12 #[.val (.int p1), .val (.int (0 : Int32)), .unset, .unset, .unset] [])) _
      refine XS.iloadN X0.here hx rfl (hb hby at_12) rfl ?_
      show Steps p.tables e below (s₁.setTop (mkF m 13 #[.val (.int p1), .val (.int (0 : Int32)), .unset, .unset, .unset] [(.int (0 : Int32))])) _
      refine XS.ifYes X0.here hx rfl (pc0 := 13) (pc' := 22) rfl (hb hby at_13) rfl ((if0 _ _).trans (teq (by decide : (0 : Int32) = (0 : Int32))).1) (by decide) (by decide) ?_
      show Steps p.tables e below (s₁.setTop (mkF m 22 #[.val (.int p1), .val (.int (0 : Int32)), .unset, .unset, .unset] [])) _
      refine st18 _ ?_
      show Steps p.tables e below (T18.setTop (mkF m 25 #[.val (.int p1), .val (.int (0 : Int32)), .unset, .unset, .unset] [(.ref wD)])) _
      refine XS.astoreN X18.here hx rfl (hb hby at_25) rfl rfl (l' := #[.val (.int p1), .val (.int (0 : Int32)), .val (.ref wD), .unset, .unset]) rfl ?_
      show Steps p.tables e below (T18.setTop (mkF m 26 #[.val (.int p1), .val (.int (0 : Int32)), .val (.ref wD), .unset, .unset] [])) _
      refine XS.iloadN X18.here hx rfl (hb hby at_26) rfl ?_
      show Steps p.tables e below (T18.setTop (mkF m 27 #[.val (.int p1), .val (.int (0 : Int32)), .val (.ref wD), .unset, .unset] [(.int (0 : Int32))])) _
      refine XS.ifYes X18.here hx rfl (pc0 := 27) (pc' := 36) rfl (hb hby at_27) rfl ((if0 _ _).trans (teq (by decide : (0 : Int32) = (0 : Int32))).1) (by decide) (by decide) ?_
      show Steps p.tables e below (T18.setTop (mkF m 36 #[.val (.int p1), .val (.int (0 : Int32)), .val (.ref wD), .unset, .unset] [])) _
      refine st19 _ ?_
      show Steps p.tables e below (T19.setTop (mkF m 39 #[.val (.int p1), .val (.int (0 : Int32)), .val (.ref wD), .unset, .unset] [(.ref wP)])) _
      refine XS.astoreN X19.here hx rfl (hb hby at_39) rfl rfl (l' := #[.val (.int p1), .val (.int (0 : Int32)), .val (.ref wD), .val (.ref wP), .unset]) rfl ?_
      show Steps p.tables e below (T19.setTop (mkF m 40 #[.val (.int p1), .val (.int (0 : Int32)), .val (.ref wD), .val (.ref wP), .unset] [])) _
      refine XS.aloadN X19.here hx rfl (hb hby at_40) rfl rfl ?_
      show Steps p.tables e below (T19.setTop (mkF m 41 #[.val (.int p1), .val (.int (0 : Int32)), .val (.ref wD), .val (.ref wP), .unset] [(.ref wD)])) _
      refine st20.trans ?_
      show Steps p.tables e below (T20.setTop (mkF m 44 #[.val (.int p1), .val (.int (0 : Int32)), .val (.ref wD), .val (.ref wP), .unset] [(.ref wP)])) _
      refine XS.astore X20.here hx rfl (hb hby at_44) rfl rfl (l' := #[.val (.int p1), .val (.int (0 : Int32)), .val (.ref wD), .val (.ref wP), .val (.ref wP)]) rfl ?_
      show Steps p.tables e below (T20.setTop (mkF m 46 #[.val (.int p1), .val (.int (0 : Int32)), .val (.ref wD), .val (.ref wP), .val (.ref wP)] [])) _
      refine XS.aload X20.here hx rfl (hb hby at_46) rfl rfl ?_
      show Steps p.tables e below (T20.setTop (mkF m 48 #[.val (.int p1), .val (.int (0 : Int32)), .val (.ref wD), .val (.ref wP), .val (.ref wP)] [(.ref wP)])) _
      refine XS.aloadN X20.here hx rfl (hb hby at_48) rfl rfl ?_
      show Steps p.tables e below (T20.setTop (mkF m 49 #[.val (.int p1), .val (.int (0 : Int32)), .val (.ref wD), .val (.ref wP), .val (.ref wP)] [(.ref wP), (.ref wP)])) _
      refine Jvm.RoadKit.acmp (g := (mkF m 49 #[.val (.int p1), .val (.int (0 : Int32)), .val (.ref wD), .val (.ref wP), .val (.ref wP)] [(.ref wP), (.ref wP)])) X20 hx rfl rfl rfl (pc0 := 49) (pc' := 54) (same := true) rfl (hb hby at_49) rfl (decide_eq_true rfl) (by decide) (by decide) ?_
      show Steps p.tables e below (T20.setTop (mkF m 54 #[.val (.int p1), .val (.int (0 : Int32)), .val (.ref wD), .val (.ref wP), .val (.ref wP)] [])) _
      refine XS.aload X20.here hx rfl (hb hby at_54) rfl rfl ?_
      show Steps p.tables e below (T20.setTop (mkF m 56 #[.val (.int p1), .val (.int (0 : Int32)), .val (.ref wD), .val (.ref wP), .val (.ref wP)] [(.ref wP)])) _
      refine XS.aloadN X20.here hx rfl (hb hby at_56) rfl rfl ?_
      show Steps p.tables e below (T20.setTop (mkF m 57 #[.val (.int p1), .val (.int (0 : Int32)), .val (.ref wD), .val (.ref wP), .val (.ref wP)] [(.ref wD), (.ref wP)])) _
      refine Jvm.RoadKit.acmp (g := (mkF m 57 #[.val (.int p1), .val (.int (0 : Int32)), .val (.ref wD), .val (.ref wP), .val (.ref wP)] [(.ref wD), (.ref wP)])) X20 hx rfl rfl rfl (pc0 := 57) (pc' := 62) (same := false) rfl (hb hby at_57) rfl (decide_eq_false fun q => hne (Value.ref.inj q)) (by decide) (by decide) ?_
      show Steps p.tables e below (T20.setTop (mkF m 62 #[.val (.int p1), .val (.int (0 : Int32)), .val (.ref wD), .val (.ref wP), .val (.ref wP)] [])) _
      refine XS.aload X20.here hx rfl (hb hby at_62) rfl rfl ?_
      show Steps p.tables e below (T20.setTop (mkF m 64 #[.val (.int p1), .val (.int (0 : Int32)), .val (.ref wD), .val (.ref wP), .val (.ref wP)] [(.ref wP)])) _
      refine st21.trans ?_
      show Steps p.tables e below (T21.setTop (mkF m 67 #[.val (.int p1), .val (.int (0 : Int32)), .val (.ref wD), .val (.ref wP), .val (.ref wP)] [(.ref wD)])) _
      refine XS.aloadN X21.here hx rfl (hb hby at_67) rfl rfl ?_
      show Steps p.tables e below (T21.setTop (mkF m 68 #[.val (.int p1), .val (.int (0 : Int32)), .val (.ref wD), .val (.ref wP), .val (.ref wP)] [(.ref wD), (.ref wD)])) _
      refine Jvm.RoadKit.acmp (g := (mkF m 68 #[.val (.int p1), .val (.int (0 : Int32)), .val (.ref wD), .val (.ref wP), .val (.ref wP)] [(.ref wD), (.ref wD)])) X21 hx rfl rfl rfl (pc0 := 68) (pc' := 73) (same := true) rfl (hb hby at_68) rfl (decide_eq_true rfl) (by decide) (by decide) ?_
      show Steps p.tables e below (T21.setTop (mkF m 73 #[.val (.int p1), .val (.int (0 : Int32)), .val (.ref wD), .val (.ref wP), .val (.ref wP)] [])) _
      refine XS.aload X21.here hx rfl (hb hby at_73) rfl rfl ?_
      show Steps p.tables e below (T21.setTop (mkF m 75 #[.val (.int p1), .val (.int (0 : Int32)), .val (.ref wD), .val (.ref wP), .val (.ref wP)] [(.ref wP)])) _
      refine st22.trans ?_
      show Steps p.tables e below (T22.setTop (mkF m 78 #[.val (.int p1), .val (.int (0 : Int32)), .val (.ref wD), .val (.ref wP), .val (.ref wP)] [(.ref dP)])) _
      refine XS.aloadN X22.here hx rfl (hb hby at_78) rfl rfl ?_
      show Steps p.tables e below (T22.setTop (mkF m 79 #[.val (.int p1), .val (.int (0 : Int32)), .val (.ref wD), .val (.ref wP), .val (.ref wP)] [(.ref wD), (.ref dP)])) _
      refine st23.trans ?_
      show Steps p.tables e below (T23.setTop (mkF m 82 #[.val (.int p1), .val (.int (0 : Int32)), .val (.ref wD), .val (.ref wP), .val (.ref wP)] [(.ref dD), (.ref dP)])) _
      refine Jvm.RoadKit.acmp (g := (mkF m 82 #[.val (.int p1), .val (.int (0 : Int32)), .val (.ref wD), .val (.ref wP), .val (.ref wP)] [(.ref dD), (.ref dP)])) X23 hx rfl rfl rfl (pc0 := 82) (pc' := 85) (same := false) rfl (hb hby at_82) rfl (decide_eq_false fun q => hnd (Value.ref.inj q)) (by decide) (by decide) ?_
      show Steps p.tables e below (T23.setTop (mkF m 85 #[.val (.int p1), .val (.int (0 : Int32)), .val (.ref wD), .val (.ref wP), .val (.ref wP)] [])) _
      refine XS.iconst X23.here hx rfl (hb hby at_85) ?_
      show Steps p.tables e below (T23.setTop (mkF m 86 #[.val (.int p1), .val (.int (0 : Int32)), .val (.ref wD), .val (.ref wP), .val (.ref wP)] [(.int (1 : Int32))])) _
      refine XS.goto X23.here hx rfl (pc0 := 86) (pc' := 90) rfl (hb hby at_86) (by decide) (by decide) ?_
      exact kt
    obtain ⟨fs, hr, hrun, hended, hW, hsame⟩ := X23.leave (v := some (.int (1 : Int32))) (fun h => by rw [Bd.returns] at h; cases h)
    refine ⟨_, _, pre24 _ ?_, hrun, hended, _, _, rfl, ?_, ⟨_, rfl⟩, hW, hsame.mono (by decide) (by decide)⟩
    · show Steps p.tables e below (T23.setTop (mkF m 90 #[.val (.int p1), .val (.int (0 : Int32)), .val (.ref wD), .val (.ref wP), .val (.ref wP)] [(.int (1 : Int32))])) _
      exact retN X23 hx (t := .boolean) Bd.returns (by simp) (hb hby at_90) hr
    · show Q0 Z p1 wP wD dP dD h0 n0 _ T23.heap _
      rw [e23]
      exact ⟨rfl, N23, rfl⟩
set_option maxRecDepth 65536 in
set_option maxHeartbeats 40000000 in
theorem comes_1 {Post : Tables → Env → Array Value → State → Outcome → State → Prop} (hpost : ∀ tb e args s v u, (limb_1_1.after args s (.returned v) u = true ∧ limb_1_2.after args s (.returned v) u = true ∧ True) → FrameEnd s (.returned v) u (Jvm.fieldLocs frame_1_writes args s ++ Jvm.arrayLocs frame_1_arrays args s ++ Jvm.staticLocs frame_1_statics s) 0 0 → Post tb e args s (.returned v) u) :
    ArmFor flags0 classFile x code maxLocals ret World_1 tables_1 room_1 Calls_1 rest_1 Pre_1 Post := by
  intro l hfl _ _ p e ha hc hk s m args below hf hA hF happ hP
  obtain ⟨hcalls, hrest, hpre⟩ := hP
  obtain ⟨-, -, -, hnamed, -, -, -, hat⟩ := (Spec.applies_iff hf).mp happ
  obtain ⟨hg, hn⟩ := and_e (Cond.before_iff.mp (show (Jvm.Cond.and given_1 narrow_1).before args s = true from hpre))
  obtain ⟨gc, gr0⟩ := and_e hg
  obtain ⟨w0, rfl⟩ : ∃ w0 : Value, args = #[w0] := by
    have hs : args.size = 1 := by simpa [Cond.value, given_1] using gc
    obtain ⟨L⟩ := args
    match L, hs with
    | [w0], _ => exact ⟨w0, rfl⟩
  have hw := fun d (hd : d ∈ tables_1) => atoms_spec (ws := Jvm.Cond.code x code maxLocals ret :: tables_1) hat d (List.mem_cons_of_mem _ hd)
  have hfit : Fit s := fun {y c} hc i hi => by
    obtain ⟨ha, rfl⟩ := Array.getElem?_eq_some_iff.mp hc
    have q := List.all_eq_true.mp ((Array.all_eq_true_iff_forall_mem.mp hF) _ (Array.getElem_mem ha)) i (List.mem_range.mpr hi)
    simpa [Array.getElem?_eq_getElem hi] using q
  obtain ⟨i0, ei0⟩ := is_v gr0
  obtain rfl : w0 = (.int i0) := Option.some.inj ei0
  obtain ⟨nn0, nnr0⟩ := and_e hn
  obtain ⟨nn1, nnr1⟩ := and_e nnr0
  obtain ⟨nn2, nnr2⟩ := and_e nnr1
  obtain ⟨nn3, nnr3⟩ := and_e nnr2
  obtain ⟨nn4, nnr4⟩ := and_e nnr3
  obtain ⟨nn5, nnr5⟩ := and_e nnr4
  obtain ⟨nn6, nnr6⟩ := and_e nnr5
  obtain ⟨nn7, nnr7⟩ := and_e nnr6
  obtain ⟨nn8, nnr8⟩ := and_e nnr7
  have nn9 := nnr8
  obtain ⟨wP, evP⟩ := exa_v nn0
  obtain ⟨wD, evD⟩ := exa_v nn1
  obtain ⟨dD, evdD⟩ := exa_v nn4
  obtain ⟨dP, evdP⟩ := exa_v nn6
  have SP := Sta.start evP (Or.inr ⟨(hw _ (List.mem_of_getElem? (i := 1) rfl)), (hw _ (List.mem_of_getElem? (i := 2) rfl))⟩)
  have SD := Sta.start evD (Or.inr ⟨(hw _ (List.mem_of_getElem? (i := 1) rfl)), (hw _ (List.mem_of_getElem? (i := 4) rfl))⟩)
  have EP := Exa.start evP nn0
  have ED := Exa.start evD nn1
  have FP := own_fldR evP evdP nn7
  have FD := own_fldR evD evdD nn5
  have hne : wP ≠ wD := Fld.ne (own_fldI evP nn3) (own_fldI evD nn2) (by decide)
  have hnd : dP ≠ dD := Fld.ne (own_fldI evdP nn9) (own_fldI evdD nn8) (by decide)
  obtain ⟨n, o, h1, h2, h3, _, L, rfl, ⟨rfl, N, -⟩, hq⟩ := rm0 l s _ hw tables_1 i0 wP wD dP dD s.heap s.heap.size (Nat.le_refl _) SP SD EP ED FP FD hne hnd p e ha hc hk s m _ below hf ((Spec.applies_iff_loose hf).mp happ).1 ⟨rfl, State.Warmed39.refl s, rfl⟩ trivial
  refine ⟨n, _, h1, h2, h3, hpost _ _ _ _ _ _ ⟨Cond.after_iff.mpr rfl, Cond.after_iff.mpr (eq_i res_at (Term.int_eval (1)) rfl), trivial⟩ ⟨hq.1, hq.2.1, (hq.2.2.sift fun y hy => Or.inr (N y hy)).mono (by decide) (by decide)⟩⟩
theorem main_1_1 : Claimed_1_1 := comes_1 fun _ _ _ _ _ _ h hF => ⟨h.1, hF⟩
theorem main_1_2 : Claimed_1_2 := comes_1 fun _ _ _ _ _ _ h hF => ⟨h.2.1, hF⟩
end Jvm.Pilot.@@N@@
namespace Jvm.Pilot.@@N@@
open Jvm Jvm.ClassFile Sem Op Lib Jvm.Free Jvm.Stand Jvm.Pilot.@@N@@.Jvm.D
/-! MADE BY PROGRAM (witnessworld.py) out of the Statement's table words and the real class files: 11 classes; the members and pool entries that the words name. The judged class is class 1, her method 1. -/
namespace start1
open Jvm.ClassFile
def u (s : String) : CpInfo := .utf8 (stringToUtf16 s)
/-- a pool by its gaps: so many unusable entries, then the entry; so many at the end -/
def gap : Nat → List CpInfo → List CpInfo
  | 0, r => r
  | n + 1, r => .unusable :: gap n r
def poolList (es : List (Nat × CpInfo)) (last : Nat) : List CpInfo := es.foldr (fun e r => gap e.1 (e.2 :: r)) (gap last [])
def pool (es : List (Nat × CpInfo)) (last : Nat) : Array CpInfo := ⟨poolList es last⟩
def fileOf (pool : Array CpInfo) (this : Nat) (attrs : Array Attribute := #[]) (ms : Array MethodInfo := #[]) (fl : Nat := 33) (sup : Nat := 0) (ifs : Array Nat := #[]) (fds : Array FieldInfo := #[]) : ClassFile where
  minorVersion := 0
  majorVersion := 65
  constantPool := pool
  accessFlags := fl
  thisClass := this
  superClass := sup
  interfaces := ifs
  fields := fds
  methods := ms
  attributes := attrs
def plain (name : String) (sup : Option ClassId) : Class where
  name := name
  kind := .ordinary
  loader := none
  accessFlags := 33
  super := sup
  interfaces := #[]
  cf := none
  fields := #[]
  methods := #[]
  instanceTypes := #[]
  staticTypes := #[]
  resolved := #[]
  callSites := []
  init := .initialized
  statics := none
  mirror := none

def pool0 : Array CpInfo := pool [(5, u "<init>"), (0, u "()V"), (1, .class_ 10), (1, u "java/lang/Object")] 113

def k0m0 : Method := { name := "<init>", desc := "()V", sig := { parameters := [], returnType := none }, accessFlags := 1, code := none }
/-- java/lang/Object -/
def k0 : Class := { plain "java/lang/Object" none with
  accessFlags := 33
  interfaces := #[]
  cf := some (fileOf pool0 8 #[] #[{ accessFlags := 1, nameIndex := 5, descriptorIndex := 6, attributes := #[] }] 33 0 #[] #[])
  fields := #[]
  methods := #[k0m0]
  instanceTypes := #[]
  staticTypes := #[]
  resolved := Array.replicate 124 none
  statics := none }

def pool1 : Array CpInfo := pool [(2, .class_ 4), (1, u "java/lang/Object"), (0, u "<init>"), (0, u "()V"), (0, .fieldref 8 9), (0, .class_ 10), (0, .nameAndType 11 12), (0, u "com/example/bilateral_policy/bilateralpolicy/evaluation/Effect"), (0, u "PERMIT"), (0, u "Lcom/example/bilateral_policy/bilateralpolicy/evaluation/Effect;"), (0, .fieldref 8 14), (0, .nameAndType 15 12), (0, u "DENY"), (0, .methodref 8 17), (0, .nameAndType 18 19), (0, u "opposite"), (0, u "()Lcom/example/bilateral_policy/bilateralpolicy/evaluation/Effect;"), (0, .methodref 8 21), (0, .nameAndType 22 23), (0, u "decision"), (0, u "()Lcom/example/bilateral_policy/bilateralpolicy/evaluation/Decision;"), (0, .class_ 25), (0, u "com/example/bilateral_policy/bilateralpolicy/evaluation/EffectOppositePinLaw"), (2, u "law"), (0, u "(I)Z")] 3

def k1m0 : Method := { name := "<init>", desc := "()V", sig := { parameters := [], returnType := none }, accessFlags := 1, code := none }
def k1c1 : Code := { maxStack := 2, maxLocals := 5, code := code, exceptionTable := #[], attributes := #[] }
def k1m1 : Method := { name := "law", desc := "(I)Z", sig := { parameters := [.int], returnType := some .boolean }, accessFlags := 9, code := some k1c1 }
/-- com/example/bilateral_policy/bilateralpolicy/evaluation/EffectOppositePinLaw -/
def k1 : Class := { plain "com/example/bilateral_policy/bilateralpolicy/evaluation/EffectOppositePinLaw" (some 0) with
  accessFlags := 49
  interfaces := #[]
  cf := some (fileOf pool1 24 #[] #[{ accessFlags := 1, nameIndex := 5, descriptorIndex := 6, attributes := #[] }, { accessFlags := 9, nameIndex := 28, descriptorIndex := 29, attributes := #[] }] 49 2 #[] #[])
  fields := #[]
  methods := #[k1m0, k1m1]
  instanceTypes := #[]
  staticTypes := #[]
  resolved := Array.replicate 33 none
  statics := none }

def pool2 : Array CpInfo := pool [(1, .class_ 2), (0, u "java/lang/constant/Constable"), (0, .class_ 4), (0, u "java/lang/Object")] 6

/-- java/lang/constant/Constable -/
def k2 : Class := { plain "java/lang/constant/Constable" (some 0) with
  accessFlags := 1537
  interfaces := #[]
  cf := some (fileOf pool2 1 #[] #[] 1537 3 #[] #[])
  fields := #[]
  methods := #[]
  instanceTypes := #[]
  staticTypes := #[]
  resolved := Array.replicate 11 none
  statics := none }

def pool3 : Array CpInfo := pool [(1, .class_ 2), (0, u "java/lang/Comparable"), (0, .class_ 4), (0, u "java/lang/Object")] 7

/-- java/lang/Comparable -/
def k3 : Class := { plain "java/lang/Comparable" (some 0) with
  accessFlags := 1537
  interfaces := #[]
  cf := some (fileOf pool3 1 #[] #[] 1537 3 #[] #[])
  fields := #[]
  methods := #[]
  instanceTypes := #[]
  staticTypes := #[]
  resolved := Array.replicate 12 none
  statics := none }

def pool4 : Array CpInfo := pool [(1, .class_ 2), (0, u "java/io/Serializable"), (0, .class_ 4), (0, u "java/lang/Object")] 2

/-- java/io/Serializable -/
def k4 : Class := { plain "java/io/Serializable" (some 0) with
  accessFlags := 1537
  interfaces := #[]
  cf := some (fileOf pool4 1 #[] #[] 1537 3 #[] #[])
  fields := #[]
  methods := #[]
  instanceTypes := #[]
  staticTypes := #[]
  resolved := Array.replicate 7 none
  statics := none }

def pool5 : Array CpInfo := pool [(2, .class_ 4), (1, u "java/lang/Enum"), (0, u "name"), (0, u "Ljava/lang/String;"), (2, u "ordinal"), (0, u "I"), (1, .class_ 14), (1, u "java/lang/Object"), (4, u "hash"), (86, .class_ 108), (1, u "java/lang/Enum$EnumDesc"), (2, .class_ 112), (0, u "java/lang/constant/Constable"), (0, .class_ 114), (0, u "java/lang/Comparable"), (0, .class_ 116), (0, u "java/io/Serializable")] 87

/-- java/lang/Enum -/
def k5 : Class := { plain "java/lang/Enum" (some 0) with
  accessFlags := 1057
  interfaces := #[2, 3, 4]
  cf := some (fileOf pool5 2 #[.nestMembers #[106]] #[] 1057 12 #[111, 113, 115] #[{ accessFlags := 18, nameIndex := 5, descriptorIndex := 6, attributes := #[] }, { accessFlags := 18, nameIndex := 9, descriptorIndex := 10, attributes := #[] }, { accessFlags := 2, nameIndex := 19, descriptorIndex := 10, attributes := #[] }])
  fields := #[{ name := "name", type := (.object "java/lang/String"), accessFlags := 18, slot := 0, constantValue := 0 }, { name := "ordinal", type := .int, accessFlags := 18, slot := 1, constantValue := 0 }, { name := "hash", type := .int, accessFlags := 2, slot := 2, constantValue := 0 }]
  methods := #[]
  instanceTypes := #[(.object "java/lang/String"), .int, .int]
  staticTypes := #[]
  resolved := Array.replicate 204 none
  statics := none }

def pool6 : Array CpInfo := pool [(1, .class_ 2), (0, u "com/example/bilateral_policy/bilateralpolicy/evaluation/Effect"), (0, .fieldref 1 4), (0, .nameAndType 5 6), (0, u "PERMIT"), (0, u "Lcom/example/bilateral_policy/bilateralpolicy/evaluation/Effect;"), (0, .fieldref 1 8), (0, .nameAndType 9 6), (0, u "DENY"), (2, u "$VALUES"), (0, u "[Lcom/example/bilateral_policy/bilateralpolicy/evaluation/Effect;"), (6, .class_ 22), (1, u "java/lang/Enum"), (6, .fieldref 1 30), (0, .nameAndType 31 32), (0, u "decision"), (0, u "Lcom/example/bilateral_policy/bilateralpolicy/evaluation/Decision;"), (22, u "()Lcom/example/bilateral_policy/bilateralpolicy/evaluation/Decision;"), (0, u "opposite"), (0, u "()Lcom/example/bilateral_policy/bilateralpolicy/evaluation/Effect;")] 6

def k6c0 : Code := { maxStack := 1, maxLocals := 1, code := prog_54_method_4_code, exceptionTable := #[], attributes := #[] }
def k6m0 : Method := { name := "decision", desc := "()Lcom/example/bilateral_policy/bilateralpolicy/evaluation/Decision;", sig := { parameters := [], returnType := some (.object "com/example/bilateral_policy/bilateralpolicy/evaluation/Decision") }, accessFlags := 1, code := some k6c0 }
def k6c1 : Code := { maxStack := 2, maxLocals := 2, code := prog_54_method_5_code, exceptionTable := #[], attributes := #[] }
def k6m1 : Method := { name := "opposite", desc := "()Lcom/example/bilateral_policy/bilateralpolicy/evaluation/Effect;", sig := { parameters := [], returnType := some (.object "com/example/bilateral_policy/bilateralpolicy/evaluation/Effect") }, accessFlags := 1, code := some k6c1 }
/-- com/example/bilateral_policy/bilateralpolicy/evaluation/Effect -/
def k6 : Class := { plain "com/example/bilateral_policy/bilateralpolicy/evaluation/Effect" (some 5) with
  accessFlags := 16433
  interfaces := #[]
  cf := some (fileOf pool6 1 #[] #[{ accessFlags := 1, nameIndex := 31, descriptorIndex := 55, attributes := #[] }, { accessFlags := 1, nameIndex := 56, descriptorIndex := 57, attributes := #[] }] 16433 20 #[] #[{ accessFlags := 16409, nameIndex := 5, descriptorIndex := 6, attributes := #[] }, { accessFlags := 16409, nameIndex := 9, descriptorIndex := 6, attributes := #[] }, { accessFlags := 18, nameIndex := 31, descriptorIndex := 32, attributes := #[] }, { accessFlags := 4122, nameIndex := 12, descriptorIndex := 13, attributes := #[] }])
  fields := #[{ name := "PERMIT", type := (.object "com/example/bilateral_policy/bilateralpolicy/evaluation/Effect"), accessFlags := 16409, slot := 0, constantValue := 0 }, { name := "DENY", type := (.object "com/example/bilateral_policy/bilateralpolicy/evaluation/Effect"), accessFlags := 16409, slot := 1, constantValue := 0 }, { name := "decision", type := (.object "com/example/bilateral_policy/bilateralpolicy/evaluation/Decision"), accessFlags := 18, slot := 3, constantValue := 0 }, { name := "$VALUES", type := (.array (.object "com/example/bilateral_policy/bilateralpolicy/evaluation/Effect")), accessFlags := 4122, slot := 2, constantValue := 0 }]
  methods := #[k6m0, k6m1]
  instanceTypes := #[(.object "java/lang/String"), .int, .int, (.object "com/example/bilateral_policy/bilateralpolicy/evaluation/Decision")]
  staticTypes := #[(.object "com/example/bilateral_policy/bilateralpolicy/evaluation/Effect"), (.object "com/example/bilateral_policy/bilateralpolicy/evaluation/Effect"), (.array (.object "com/example/bilateral_policy/bilateralpolicy/evaluation/Effect"))]
  resolved := Array.replicate 64 none
  statics := some 0 }

def pool7 : Array CpInfo := pool [(1, .class_ 2), (0, u "com/example/bilateral_policy/bilateralpolicy/evaluation/Decision"), (2, u "PERMIT"), (0, u "Lcom/example/bilateral_policy/bilateralpolicy/evaluation/Decision;"), (2, u "DENY"), (2, u "NOT_APPLICABLE"), (2, u "INDETERMINATE"), (2, u "$VALUES"), (0, u "[Lcom/example/bilateral_policy/bilateralpolicy/evaluation/Decision;"), (6, .class_ 28), (1, u "java/lang/Enum"), (8, u "xacmlName"), (0, u "Ljava/lang/String;")] 32

/-- com/example/bilateral_policy/bilateralpolicy/evaluation/Decision -/
def k7 : Class := { plain "com/example/bilateral_policy/bilateralpolicy/evaluation/Decision" (some 5) with
  accessFlags := 16433
  interfaces := #[]
  cf := some (fileOf pool7 1 #[] #[] 16433 26 #[] #[{ accessFlags := 16409, nameIndex := 5, descriptorIndex := 6, attributes := #[] }, { accessFlags := 16409, nameIndex := 9, descriptorIndex := 6, attributes := #[] }, { accessFlags := 16409, nameIndex := 12, descriptorIndex := 6, attributes := #[] }, { accessFlags := 16409, nameIndex := 15, descriptorIndex := 6, attributes := #[] }, { accessFlags := 18, nameIndex := 37, descriptorIndex := 38, attributes := #[] }, { accessFlags := 4122, nameIndex := 18, descriptorIndex := 19, attributes := #[] }])
  fields := #[{ name := "PERMIT", type := (.object "com/example/bilateral_policy/bilateralpolicy/evaluation/Decision"), accessFlags := 16409, slot := 0, constantValue := 0 }, { name := "DENY", type := (.object "com/example/bilateral_policy/bilateralpolicy/evaluation/Decision"), accessFlags := 16409, slot := 1, constantValue := 0 }, { name := "NOT_APPLICABLE", type := (.object "com/example/bilateral_policy/bilateralpolicy/evaluation/Decision"), accessFlags := 16409, slot := 2, constantValue := 0 }, { name := "INDETERMINATE", type := (.object "com/example/bilateral_policy/bilateralpolicy/evaluation/Decision"), accessFlags := 16409, slot := 3, constantValue := 0 }, { name := "xacmlName", type := (.object "java/lang/String"), accessFlags := 18, slot := 3, constantValue := 0 }, { name := "$VALUES", type := (.array (.object "com/example/bilateral_policy/bilateralpolicy/evaluation/Decision")), accessFlags := 4122, slot := 4, constantValue := 0 }]
  methods := #[]
  instanceTypes := #[(.object "java/lang/String"), .int, .int, (.object "java/lang/String")]
  staticTypes := #[(.object "com/example/bilateral_policy/bilateralpolicy/evaluation/Decision"), (.object "com/example/bilateral_policy/bilateralpolicy/evaluation/Decision"), (.object "com/example/bilateral_policy/bilateralpolicy/evaluation/Decision"), (.object "com/example/bilateral_policy/bilateralpolicy/evaluation/Decision"), (.array (.object "com/example/bilateral_policy/bilateralpolicy/evaluation/Decision"))]
  resolved := Array.replicate 71 none
  statics := some 1 }

def pool8 : Array CpInfo := pool [(1, u "java/lang/Cloneable"), (0, .class_ 1), (0, u "java/lang/Object"), (0, .class_ 3)] 3

/-- java/lang/Cloneable -/
def k8 : Class := { plain "java/lang/Cloneable" (some 0) with
  accessFlags := 1537
  interfaces := #[]
  cf := some (fileOf pool8 2 #[] #[] 1537 4 #[] #[])
  fields := #[]
  methods := #[]
  instanceTypes := #[]
  staticTypes := #[]
  resolved := Array.replicate 8 none
  statics := none }

/-- the primitive byte -/
def k9 : Class := { plain "byte" none with kind := .primitive 'B', accessFlags := 0x411 }
/-- [B -/
def k10 : Class := { plain "[B" (some 0) with kind := .array 9 .byte, interfaces := #[8, 4], accessFlags := 1041 }

def heap : Heap := #[{ cls := 6, slots := #[.ref 4, .ref 5, .null], vm := .statics 6 },
  { cls := 7, slots := #[.ref 2, .ref 3, .null, .null, .null], vm := .statics 7 },
  { cls := 7, slots := #[.null, .int 0, .int 0, .null], vm := .none },
  { cls := 7, slots := #[.null, .int 1, .int 0, .null], vm := .none },
  { cls := 6, slots := #[.null, .int 0, .int 0, .ref 2], vm := .none },
  { cls := 6, slots := #[.null, .int 1, .int 0, .ref 3], vm := .none }]
def classes : Array Class := #[k0, k1, k2, k3, k4, k5, k6, k7, k8, k9, k10]
def interned : List (Array UInt16 × Addr) := []
def slotsUsed : Nat := 24
def theMethod : MethodId := ⟨1, 1⟩
def args0 : Array Value := #[.int 7]
def aboutOver (below : List Frame) : State where
  vm := { classes := classes, interned := interned.toArray }
  heap := heap
  slotsUsed := slotsUsed
  threads := #[{ frames := .invoking theMethod args0 :: below }]
def below0 : List Frame := [.native { method := ⟨0, 0⟩, args := #[] }]
def about1 : State := aboutOver below0
def p0 : Program := .bare "" "" ""
def e0 : Env := launch0.env 0 0 0
theorem w_frames : about1.frames = Frame.invoking theMethod args0 :: below0 := rfl
set_option maxRecDepth 65536 in
theorem w_args : argsFit about1.vm theMethod args0 = true := by decide +kernel
set_option maxRecDepth 65536 in
theorem w_heap : heapFits about1 = true := by decide +kernel
set_option maxRecDepth 65536 in
theorem w_runnable : about1.curStatus? = some .runnable := by decide +kernel
set_option maxRecDepth 65536 in
theorem w_alone : about1.alone = true := by decide +kernel
set_option maxRecDepth 65536 in
theorem w_named : about1.methodNamed? x = some theMethod := by decide +kernel
set_option maxRecDepth 65536 in
theorem w_hears : about1.hears theMethod below0 = true := by decide +kernel
set_option maxRecDepth 65536 in
theorem w_ripe : about1.ripe theMethod args0 below0 = true := by decide +kernel
theorem w_running : about1.status = .running := rfl
set_option maxRecDepth 65536 in
theorem w_room : about1.hasRoom e0.platform room_1 = true :=
  launch0.hasRoom_least _ room_1 (by decide +kernel) (by decide +kernel) (by decide +kernel) (by decide +kernel) (by decide +kernel) (by decide +kernel)
theorem allAtoms_all (ts : List Jvm.Cond) (a : Array Jvm.Value) (st : Jvm.State) : (allAtoms ts).before a st = ts.all (fun c => c.before a st) := by
  induction ts with
  | nil => rfl
  | cons c t ih =>
    show (Jvm.Cond.and c (allAtoms t)).before a st = _
    rw [Jvm.Cond.before_and, ih, List.all_cons]
def words1 : List Jvm.Cond := Jvm.Cond.code x code maxLocals ret :: tables_1
/-- a 'code' word, met by the world's own term for the bytes: nothing is compared byte by byte -/
theorem code_word {y : MethodName} {bytes : ByteArray} {mx : Nat} {rt : Option FieldType} {a : Array Value} {s : State} {m : MethodId} {meth : Method} {c : Code} (h1 : s.methodNamed? y = some m) (h2 : s.vm.method? m = some meth) (h3 : meth.code = some c) (h4 : c.code = bytes)
    (h5 : (c.maxLocals == mx && c.exceptionTable.isEmpty && decide (c.maxStack ≤ mostOperands) && decide (meth.sig.returnType = rt) && !meth.locks && decide (parseMethodDescriptor y.desc = some meth.sig)) = true) : (Jvm.Cond.code y bytes mx rt).before a s = true := by
  simp only [Bool.and_eq_true, beq_iff_eq, Bool.not_eq_true', decide_eq_true_eq] at h5
  obtain ⟨⟨⟨⟨⟨g1, g2⟩, g3⟩, g4⟩, g5⟩, g6⟩ := h5
  simp [Cond.before, Cond.holds, Cond.value, h1, h2, h3, h4, g1, g2, g3, g4, g5, g6]
def isCode : Jvm.Cond → Bool
  | .code _ _ _ _ => true
  | _ => false
theorem all_split {L : List Jvm.Cond} {P : Jvm.Cond → Bool} (h1 : L.all (fun c => isCode c || P c) = true) (h2 : ∀ c ∈ L.filter isCode, P c = true) : L.all P = true := by
  refine List.all_eq_true.mpr fun c hc => ?_
  have h := List.all_eq_true.mp h1 c hc
  rcases Bool.eq_false_or_eq_true (isCode c) with hi | hi
  · exact h2 c (List.mem_filter.mpr ⟨hc, hi⟩)
  · simpa [hi] using h
set_option maxRecDepth 65536 in
theorem w_c0 : (Jvm.Cond.code x code maxLocals ret).before args0 about1 = true := code_word (m := ⟨1, 1⟩) (meth := k1m1) (c := k1c1) (by decide +kernel) rfl rfl rfl (by decide +kernel)
set_option maxRecDepth 65536 in
theorem w_c1 : (Jvm.Cond.code ({ cls := "com/example/bilateral_policy/bilateralpolicy/evaluation/Effect", name := "opposite", desc := "()Lcom/example/bilateral_policy/bilateralpolicy/evaluation/Effect;" } : Jvm.MethodName) prog_54_method_5_code (2 : Nat) (Option.some (Jvm.ClassFile.FieldType.object "com/example/bilateral_policy/bilateralpolicy/evaluation/Effect"))).before args0 about1 = true := code_word (m := ⟨6, 1⟩) (meth := k6m1) (c := k6c1) (by decide +kernel) rfl rfl rfl (by decide +kernel)
set_option maxRecDepth 65536 in
theorem w_c2 : (Jvm.Cond.code ({ cls := "com/example/bilateral_policy/bilateralpolicy/evaluation/Effect", name := "decision", desc := "()Lcom/example/bilateral_policy/bilateralpolicy/evaluation/Decision;" } : Jvm.MethodName) prog_54_method_4_code (1 : Nat) (Option.some (Jvm.ClassFile.FieldType.object "com/example/bilateral_policy/bilateralpolicy/evaluation/Decision"))).before args0 about1 = true := code_word (m := ⟨6, 0⟩) (meth := k6m0) (c := k6c0) (by decide +kernel) rfl rfl rfl (by decide +kernel)
def codes1 : List Jvm.Cond := [Jvm.Cond.code x code maxLocals ret, Jvm.Cond.code ({ cls := "com/example/bilateral_policy/bilateralpolicy/evaluation/Effect", name := "opposite", desc := "()Lcom/example/bilateral_policy/bilateralpolicy/evaluation/Effect;" } : Jvm.MethodName) prog_54_method_5_code (2 : Nat) (Option.some (Jvm.ClassFile.FieldType.object "com/example/bilateral_policy/bilateralpolicy/evaluation/Effect")), Jvm.Cond.code ({ cls := "com/example/bilateral_policy/bilateralpolicy/evaluation/Effect", name := "decision", desc := "()Lcom/example/bilateral_policy/bilateralpolicy/evaluation/Decision;" } : Jvm.MethodName) prog_54_method_4_code (1 : Nat) (Option.some (Jvm.ClassFile.FieldType.object "com/example/bilateral_policy/bilateralpolicy/evaluation/Decision"))]
set_option maxRecDepth 65536 in
theorem codes_eq : words1.filter isCode = codes1 := rfl
theorem w_codes : ∀ c ∈ words1.filter isCode, c.before args0 about1 = true := by
  rw [codes_eq]
  intro c hc
  simp only [codes1, List.mem_cons, List.not_mem_nil, or_false] at hc
  rcases hc with rfl | rfl | rfl
  · exact w_c0
  · exact w_c1
  · exact w_c2
set_option maxRecDepth 65536 in
theorem w_t1 : words1.all (fun c => isCode c || c.before args0 about1) = true := by decide +kernel
theorem w_tables : (allAtoms (Jvm.Cond.code x code maxLocals ret :: tables_1)).before args0 about1 = true := by
  rw [allAtoms_all]
  show words1.all (fun c => c.before args0 about1) = true
  refine all_split ?_ w_codes
  rw [w_t1]
set_option maxRecDepth 65536 in
theorem w_case : (Jvm.Cond.and given_1 narrow_1).before args0 about1 = true := by decide +kernel
theorem w_applies : (headSpec (Jvm.Cond.code x code maxLocals ret :: tables_1) room_1).applies x e0.platform about1 = true :=
  (Spec.applies_iff w_frames).mpr ⟨w_running, w_runnable, w_alone, w_named, w_hears, w_ripe, w_room, w_tables⟩
theorem atStart : AtStart classFile x code maxLocals ret World_1 tables_1 room_1 Calls_1 rest_1 Pre_1 launch0 p0 e0 about1 theMethod args0 below0 :=
  ⟨lists_1, trivial, launch0.admits_env _ _ _, launch0.least_env, fairChoices_fair.cas, fairChoices_fair.clock, w_frames, w_args, w_heap, w_applies, trivial, trivial, w_case⟩
end start1
theorem witness_1 : WitnessClaimed_1 := ⟨start1.p0, start1.e0, start1.about1, start1.theMethod, start1.args0, start1.below0, start1.atStart⟩
end Jvm.Pilot.@@N@@
