import JvmDerived
import JvmDerived.Pilot.@@N@@Statement
import JvmDerived.Pilot.@@N@@Code
set_option linter.unusedVariables false
set_option linter.unusedSimpArgs false
namespace Jvm.RoadKit
open Sem ClassFile Op Lib Jvm.Stand Jvm.Free Jvm.LawKit
section New
variable {p : Program} {l : Launch} {e : Env} {R : Room} {s : State} {m : MethodId} {args : Array Value} {below : List Frame} {meth : Method} {c : Code} {T : State} {locs : List Loc} {cells slots : Nat}
theorem retI (X : Stand p l e R s m args below meth c T locs cells slots) (hx : p.tables.exec = Jvm.exec) {pc : Nat} {Ls : Array Slot} {z : Int32} {rest : List Value} (hret : meth.sig.returnType = some .int) (hd : decode c.code pc = .ok (.ireturn, 1)) {fs : List Frame}
    (hl : ∀ (f : JFrame) (acts : List Action), f.method = m → f.locked = none → f.entered = [] → (doReturn e (T.setTop f) acts (some (.int z))).1 = T.setFrames fs) : Steps p.tables e below (T.setTop (mkF m pc Ls (.int z :: rest))) (T.setFrames fs) := by
  have hm' : T.vm.method? m = some meth := X.method'
  have hn : narrow .int (.int z) = .int z := rfl
  show Steps p.tables e below (T.setTop { method := m, pc := pc, locals := Ls, stack := _ :: rest, locked := none }) _
  jvm_step X.here [X.here.top, hx, hd, hm', hret, hn]
  first | (intro acts; rw [hl _ acts rfl rfl rfl]) | rw [hl _ _ rfl rfl rfl]
  exact Steps.refl _
end New
end Jvm.RoadKit
namespace Jvm.Pilot.@@N@@
open Jvm Jvm.ClassFile Sem Op Lib Jvm.Free Jvm.Stand Jvm.LawKit Jvm.RoadKit Bundle Jvm.Pilot.@@N@@.Jvm.D
theorem own_fldI {Z : State} {args : Array Value} {t : Term} {a : Addr} {C n d : String} {k : Int32} (ev : t.eval args Z none [] Z = some (.ref a)) (h : (Jvm.Cond.eq (.field t C n d) (.int k)).value args Z none Z [] = some true) : Fld Z Z.heap a C n d (.int k) := by
  obtain ⟨x, y, h1, h2, h3, -⟩ := cmp_v (Or.inl h)
  have e2 : y = .int k := (Option.some.inj (h2.symm.trans (Term.int_eval k)))
  subst e2
  have e1 : x = .int k := by
    cases x with
    | int z => simpa [Cond.value, h1, h2] using h
    | _ => simp [Cond.value, h1, h2] at h
  subst e1
  rw [fld_at ev] at h1
  exact Fld.start h1
theorem own_fldR {Z : State} {args : Array Value} {t t2 : Term} {a b : Addr} {C n d : String} (ev : t.eval args Z none [] Z = some (.ref a)) (ev2 : t2.eval args Z none [] Z = some (.ref b)) (h : (Jvm.Cond.eq (.field t C n d) t2).value args Z none Z [] = some true) : Fld Z Z.heap a C n d (.ref b) := by
  obtain ⟨x, y, h1, h2, h3, -⟩ := cmp_v (Or.inl h)
  have e2 : y = .ref b := (Option.some.inj (h2.symm.trans ev2))
  subst e2
  have e1 : x = .ref b := by
    cases x with
    | ref z => simpa [Cond.value, h1, h2] using h
    | _ => simp [Cond.value, h1, h2] at h
  subst e1
  rw [fld_at ev] at h1
  exact Fld.start h1
theorem own_fldX {Z : State} {args : Array Value} {t : Term} {a b : Addr} {C n d : String} (ev : t.eval args Z none [] Z = some (.ref a)) (h : (Term.field t C n d).eval args Z none [] Z = some (.ref b)) : Fld Z Z.heap a C n d (.ref b) := by
  rw [fld_at ev] at h
  exact Fld.start h
theorem d1_0 : decode prog_35_method_9_code 0 = .ok (.aload_n 0, 1) := by decide +kernel
theorem d1_1 : decode prog_35_method_9_code 1 = .ok (.getstatic 3, 3) := by decide +kernel
theorem d1_4 : decode prog_35_method_9_code 4 = .ok (.if_acmp .ne 9, 3) := by decide +kernel
theorem d1_7 : decode prog_35_method_9_code 7 = .ok (.getstatic 7, 3) := by decide +kernel
theorem d1_10 : decode prog_35_method_9_code 10 = .ok (.goto 6, 3) := by decide +kernel
theorem d1_16 : decode prog_35_method_9_code 16 = .ok (.areturn, 1) := by decide +kernel
theorem pn_1 : plainName "com/example/idem/idem/Effect" = true := by first | (simp [plainName, overriddenIn]; done) | decide +kernel
theorem ef_1a (m : MethodId) (x0 : Addr) : entryFrame m #[(.ref x0)] 1 = mkF m 0 #[.val (.ref x0)] [] := by first | (simp [entryFrame, mkF, argsToLocals, Value.category]; done) | rfl
def Q1a (Z : State) (a1 : Addr) (wD : Addr) (h0 : Heap) (n0 : Nat) (v : Option Value) (h : Heap) (L : List Loc) : Prop := v = some (.ref wD) ∧ Fr n0 L ∧ h = h0
set_option maxRecDepth 65536 in
set_option maxHeartbeats 40000000 in
theorem rm1a (l : Launch) (Z : State) (a0 : Array Value) (hw : ∀ d ∈ tables_1, d.before a0 Z = true) (ws : List Jvm.Cond) (a1 : Addr) (wD : Addr) (h0 : Heap) (n0 : Nat) (Z0 : n0 ≤ h0.size) (S1 : Sta Z h0 "com/example/idem/idem/Effect" "PERMIT" "Lcom/example/idem/idem/Effect;" (.ref a1)) (S2 : Sta Z h0 "com/example/idem/idem/Effect" "DENY" "Lcom/example/idem/idem/Effect;" (.ref wD)) :
    MetFree l (⟨"com/example/idem/idem/Effect", "opposite", "()Lcom/example/idem/idem/Effect;"⟩ : MethodName) (head1 (Jvm.Cond.code (⟨"com/example/idem/idem/Effect", "opposite", "()Lcom/example/idem/idem/Effect;"⟩ : MethodName) prog_35_method_9_code 1 (some (.object "com/example/idem/idem/Effect")) :: ws) ({ frames := 0, cells := 0, slots := 0, locals := 0 } : Room)) (fun a U => a = #[(.ref a1)] ∧ Z.Warmed39 U.vm ∧ U.heap = h0) (fun _ _ _ _ _ => True) (fun _ U o U' => ∃ v L, o = .returned v ∧ Q1a Z a1 wD h0 n0 v U'.heap L ∧ FrameEnd U o U' L ({ frames := 0, cells := 0, slots := 0, locals := 0 } : Room).cells ({ frames := 0, cells := 0, slots := 0, locals := 0 } : Room).slots) := by
  refine MetFree.of_bodySF (plainFor_of_name pn_1) hisR ?_
  intro p e s m args below meth c s₁ Bd hml0 hP hK
  obtain ⟨rfl, hZ, hh⟩ := hP
  have hx := Bd.exec
  have hby := Bd.bytes
  have hml : c.maxLocals = 1 := hml0
  have hown : s.vm.findClass "com/example/idem/idem/Effect" = some m.cls := findClass_of_methodNamed Bd.named
  have hnm := (name_of_methodNamed Bd.named Bd.method).1
  have X0 : Stand p l e ({ frames := 0, cells := 0, slots := 0, locals := 0 } : Room) s m #[(.ref a1)] below meth c s₁ [] 0 0 := Stand.of_body Bd
  have e0 : s₁.heap = h0 := by rw [← hh, Bd.state]; rfl
  have N0 := Fr.nil n0
  have pre0 : ∀ t, Steps p.tables e below (s₁.setTop (mkF m 0 #[.val (.ref a1)] [])) t → Steps p.tables e below (s₁.setTop (entryFrame m #[(.ref a1)] 1)) t := fun t k => castTop (ef_1a m a1) k
  obtain ⟨T1, X1, e1, st1⟩ := getS2 X0 hx hZ hown (host := "") (Or.inl (hw _ (List.mem_of_getElem? (i := 10) rfl))) Via.refl e0 S1 (g := (mkF m 1 #[.val (.ref a1)] [(.ref a1)])) rfl (hb hby d1_1)
  obtain ⟨T2, X2, e2, st2⟩ := getS2 X1 hx hZ hown (host := "") (Or.inl (hw _ (List.mem_of_getElem? (i := 11) rfl))) Via.refl e1 S2 (g := (mkF m 7 #[.val (.ref a1)] [])) rfl (hb hby d1_7)
  have pre3 : ∀ t, Steps p.tables e below (T2.setTop (mkF m 16 #[.val (.ref a1)] [(.ref wD)])) t → Steps p.tables e below (s₁.setTop (entryFrame m #[(.ref a1)] 1)) t := by
    intro t kt
    refine pre0 _ ?_
    show Steps p.tables e below (s₁.setTop (mkF m 0 #[.val (.ref a1)] [])) _
    refine XS.aloadN X0.here hx rfl (hb hby d1_0) rfl rfl ?_
    show Steps p.tables e below (s₁.setTop (mkF m 1 #[.val (.ref a1)] [(.ref a1)])) _
    refine st1 _ ?_
    show Steps p.tables e below (T1.setTop (mkF m 4 #[.val (.ref a1)] [(.ref a1), (.ref a1)])) _
    refine Jvm.RoadKit.acmp (g := (mkF m 4 #[.val (.ref a1)] [(.ref a1), (.ref a1)])) X1 hx rfl rfl rfl (pc0 := 4) (pc' := 7) (same := true) rfl (hb hby d1_4) rfl (decide_eq_true rfl) (by decide) (by decide) ?_
    show Steps p.tables e below (T1.setTop (mkF m 7 #[.val (.ref a1)] [])) _
    refine st2 _ ?_
    show Steps p.tables e below (T2.setTop (mkF m 10 #[.val (.ref a1)] [(.ref wD)])) _
    refine XS.goto X2.here hx rfl (pc0 := 10) (pc' := 16) rfl (hb hby d1_10) (by decide) (by decide) ?_
    exact kt
  obtain ⟨fs, hr, hrun, hended, hW, hsame⟩ := X2.leave (v := some (.ref wD)) (fun h => by rw [Bd.returns] at h; cases h)
  refine ⟨_, _, pre3 _ ?_, hrun, hended, _, _, rfl, ?_, ⟨_, rfl⟩, hW, hsame.mono (by decide) (by decide)⟩
  · show Steps p.tables e below (T2.setTop (mkF m 16 #[.val (.ref a1)] [(.ref wD)])) _
    jvm_step X2.here [X2.here.top, hx, (hb hby d1_16), X2.method', Bd.returns, Value.isRef, FieldType.isReference]
    first | (intro acts; rw [hr _ acts rfl rfl rfl]) | rw [hr _ _ rfl rfl rfl]
    exact Steps.refl _
  · show Q1a Z a1 wD h0 n0 _ T2.heap _
    rw [e2]
    exact ⟨rfl, N0, rfl⟩
theorem d1_13 : decode prog_35_method_9_code 13 = .ok (.getstatic 3, 3) := by decide +kernel
def Q1b (Z : State) (a1 : Addr) (wP : Addr) (h0 : Heap) (n0 : Nat) (v : Option Value) (h : Heap) (L : List Loc) : Prop := v = some (.ref wP) ∧ Fr n0 L ∧ h = h0
set_option maxRecDepth 65536 in
set_option maxHeartbeats 40000000 in
theorem rm1b (l : Launch) (Z : State) (a0 : Array Value) (hw : ∀ d ∈ tables_1, d.before a0 Z = true) (ws : List Jvm.Cond) (a1 : Addr) (wP : Addr) (h0 : Heap) (n0 : Nat) (Z0 : n0 ≤ h0.size) (S1 : Sta Z h0 "com/example/idem/idem/Effect" "PERMIT" "Lcom/example/idem/idem/Effect;" (.ref wP)) (hne : a1 ≠ wP) :
    MetFree l (⟨"com/example/idem/idem/Effect", "opposite", "()Lcom/example/idem/idem/Effect;"⟩ : MethodName) (head1 (Jvm.Cond.code (⟨"com/example/idem/idem/Effect", "opposite", "()Lcom/example/idem/idem/Effect;"⟩ : MethodName) prog_35_method_9_code 1 (some (.object "com/example/idem/idem/Effect")) :: ws) ({ frames := 0, cells := 0, slots := 0, locals := 0 } : Room)) (fun a U => a = #[(.ref a1)] ∧ Z.Warmed39 U.vm ∧ U.heap = h0) (fun _ _ _ _ _ => True) (fun _ U o U' => ∃ v L, o = .returned v ∧ Q1b Z a1 wP h0 n0 v U'.heap L ∧ FrameEnd U o U' L ({ frames := 0, cells := 0, slots := 0, locals := 0 } : Room).cells ({ frames := 0, cells := 0, slots := 0, locals := 0 } : Room).slots) := by
  refine MetFree.of_bodySF (plainFor_of_name pn_1) hisR ?_
  intro p e s m args below meth c s₁ Bd hml0 hP hK
  obtain ⟨rfl, hZ, hh⟩ := hP
  have hx := Bd.exec
  have hby := Bd.bytes
  have hml : c.maxLocals = 1 := hml0
  have hown : s.vm.findClass "com/example/idem/idem/Effect" = some m.cls := findClass_of_methodNamed Bd.named
  have hnm := (name_of_methodNamed Bd.named Bd.method).1
  have X0 : Stand p l e ({ frames := 0, cells := 0, slots := 0, locals := 0 } : Room) s m #[(.ref a1)] below meth c s₁ [] 0 0 := Stand.of_body Bd
  have e0 : s₁.heap = h0 := by rw [← hh, Bd.state]; rfl
  have N0 := Fr.nil n0
  have pre0 : ∀ t, Steps p.tables e below (s₁.setTop (mkF m 0 #[.val (.ref a1)] [])) t → Steps p.tables e below (s₁.setTop (entryFrame m #[(.ref a1)] 1)) t := fun t k => castTop (ef_1a m a1) k
  obtain ⟨T4, X4, e4, st4⟩ := getS2 X0 hx hZ hown (host := "") (Or.inl (hw _ (List.mem_of_getElem? (i := 10) rfl))) Via.refl e0 S1 (g := (mkF m 1 #[.val (.ref a1)] [(.ref a1)])) rfl (hb hby d1_1)
  obtain ⟨T5, X5, e5, st5⟩ := getS2 X4 hx hZ hown (host := "") (Or.inl (hw _ (List.mem_of_getElem? (i := 10) rfl))) Via.refl e4 S1 (g := (mkF m 13 #[.val (.ref a1)] [])) rfl (hb hby d1_13)
  have pre6 : ∀ t, Steps p.tables e below (T5.setTop (mkF m 16 #[.val (.ref a1)] [(.ref wP)])) t → Steps p.tables e below (s₁.setTop (entryFrame m #[(.ref a1)] 1)) t := by
    intro t kt
    refine pre0 _ ?_
    show Steps p.tables e below (s₁.setTop (mkF m 0 #[.val (.ref a1)] [])) _
    refine XS.aloadN X0.here hx rfl (hb hby d1_0) rfl rfl ?_
    show Steps p.tables e below (s₁.setTop (mkF m 1 #[.val (.ref a1)] [(.ref a1)])) _
    refine st4 _ ?_
    show Steps p.tables e below (T4.setTop (mkF m 4 #[.val (.ref a1)] [(.ref wP), (.ref a1)])) _
    refine Jvm.RoadKit.acmp (g := (mkF m 4 #[.val (.ref a1)] [(.ref wP), (.ref a1)])) X4 hx rfl rfl rfl (pc0 := 4) (pc' := 13) (same := false) rfl (hb hby d1_4) rfl (decide_eq_false fun q => hne (Value.ref.inj q)) (by decide) (by decide) ?_
    show Steps p.tables e below (T4.setTop (mkF m 13 #[.val (.ref a1)] [])) _
    refine st5 _ ?_
    exact kt
  obtain ⟨fs, hr, hrun, hended, hW, hsame⟩ := X5.leave (v := some (.ref wP)) (fun h => by rw [Bd.returns] at h; cases h)
  refine ⟨_, _, pre6 _ ?_, hrun, hended, _, _, rfl, ?_, ⟨_, rfl⟩, hW, hsame.mono (by decide) (by decide)⟩
  · show Steps p.tables e below (T5.setTop (mkF m 16 #[.val (.ref a1)] [(.ref wP)])) _
    jvm_step X5.here [X5.here.top, hx, (hb hby d1_16), X5.method', Bd.returns, Value.isRef, FieldType.isReference]
    first | (intro acts; rw [hr _ acts rfl rfl rfl]) | rw [hr _ _ rfl rfl rfl]
    exact Steps.refl _
  · show Q1b Z a1 wP h0 n0 _ T5.heap _
    rw [e5]
    exact ⟨rfl, N0, rfl⟩
theorem d2_0 : decode prog_35_method_6_code 0 = .ok (.aload_n 0, 1) := by decide +kernel
theorem d2_1 : decode prog_35_method_6_code 1 = .ok (.getfield 33, 3) := by decide +kernel
theorem d2_4 : decode prog_35_method_6_code 4 = .ok (.areturn, 1) := by decide +kernel
theorem pn_2 : plainName "com/example/idem/idem/Effect" = true := by first | (simp [plainName, overriddenIn]; done) | decide +kernel
theorem ef_2 (m : MethodId) (x0 : Addr) : entryFrame m #[(.ref x0)] 1 = mkF m 0 #[.val (.ref x0)] [] := by first | (simp [entryFrame, mkF, argsToLocals, Value.category]; done) | rfl
def Q2 (Z : State) (a1 : Addr) (wR : Addr) (h0 : Heap) (n0 : Nat) (v : Option Value) (h : Heap) (L : List Loc) : Prop := v = some (.ref wR) ∧ Fr n0 L ∧ h = h0
set_option maxRecDepth 65536 in
set_option maxHeartbeats 40000000 in
theorem rm2 (l : Launch) (Z : State) (a0 : Array Value) (hw : ∀ d ∈ tables_1, d.before a0 Z = true) (ws : List Jvm.Cond) (a1 : Addr) (wR : Addr) (h0 : Heap) (n0 : Nat) (Z0 : n0 ≤ h0.size) (F1 : Fld Z h0 a1 "com/example/idem/idem/Effect" "result" "Lcom/example/idem/idem/Result;" (.ref wR)) :
    MetFree l (⟨"com/example/idem/idem/Effect", "result", "()Lcom/example/idem/idem/Result;"⟩ : MethodName) (head1 (Jvm.Cond.code (⟨"com/example/idem/idem/Effect", "result", "()Lcom/example/idem/idem/Result;"⟩ : MethodName) prog_35_method_6_code 1 (some (.object "com/example/idem/idem/Result")) :: ws) ({ frames := 0, cells := 0, slots := 0, locals := 0 } : Room)) (fun a U => a = #[(.ref a1)] ∧ Z.Warmed39 U.vm ∧ U.heap = h0) (fun _ _ _ _ _ => True) (fun _ U o U' => ∃ v L, o = .returned v ∧ Q2 Z a1 wR h0 n0 v U'.heap L ∧ FrameEnd U o U' L ({ frames := 0, cells := 0, slots := 0, locals := 0 } : Room).cells ({ frames := 0, cells := 0, slots := 0, locals := 0 } : Room).slots) := by
  refine MetFree.of_bodySF (plainFor_of_name pn_2) hisR ?_
  intro p e s m args below meth c s₁ Bd hml0 hP hK
  obtain ⟨rfl, hZ, hh⟩ := hP
  have hx := Bd.exec
  have hby := Bd.bytes
  have hml : c.maxLocals = 1 := hml0
  have hown : s.vm.findClass "com/example/idem/idem/Effect" = some m.cls := findClass_of_methodNamed Bd.named
  have hnm := (name_of_methodNamed Bd.named Bd.method).1
  have X0 : Stand p l e ({ frames := 0, cells := 0, slots := 0, locals := 0 } : Room) s m #[(.ref a1)] below meth c s₁ [] 0 0 := Stand.of_body Bd
  have e0 : s₁.heap = h0 := by rw [← hh, Bd.state]; rfl
  have N0 := Fr.nil n0
  have pre0 : ∀ t, Steps p.tables e below (s₁.setTop (mkF m 0 #[.val (.ref a1)] [])) t → Steps p.tables e below (s₁.setTop (entryFrame m #[(.ref a1)] 1)) t := fun t k => castTop (ef_2 m a1) k
  obtain ⟨T7, X7, e7, st7⟩ := getF X0 hx hZ hown (host := "") (Or.inl (hw _ (List.mem_of_getElem? (i := 17) rfl))) Via.refl e0 F1 (g := (mkF m 1 #[.val (.ref a1)] [(.ref a1)])) rfl rfl (hb hby d2_1)
  have pre8 : ∀ t, Steps p.tables e below (T7.setTop (mkF m 4 #[.val (.ref a1)] [(.ref wR)])) t → Steps p.tables e below (s₁.setTop (entryFrame m #[(.ref a1)] 1)) t := by
    intro t kt
    refine pre0 _ ?_
    show Steps p.tables e below (s₁.setTop (mkF m 0 #[.val (.ref a1)] [])) _
    refine XS.aloadN X0.here hx rfl (hb hby d2_0) rfl rfl ?_
    show Steps p.tables e below (s₁.setTop (mkF m 1 #[.val (.ref a1)] [(.ref a1)])) _
    refine st7 _ ?_
    exact kt
  obtain ⟨fs, hr, hrun, hended, hW, hsame⟩ := X7.leave (v := some (.ref wR)) (fun h => by rw [Bd.returns] at h; cases h)
  refine ⟨_, _, pre8 _ ?_, hrun, hended, _, _, rfl, ?_, ⟨_, rfl⟩, hW, hsame.mono (by decide) (by decide)⟩
  · show Steps p.tables e below (T7.setTop (mkF m 4 #[.val (.ref a1)] [(.ref wR)])) _
    jvm_step X7.here [X7.here.top, hx, (hb hby d2_4), X7.method', Bd.returns, Value.isRef, FieldType.isReference]
    first | (intro acts; rw [hr _ acts rfl rfl rfl]) | rw [hr _ _ rfl rfl rfl]
    exact Steps.refl _
  · show Q2 Z a1 wR h0 n0 _ T7.heap _
    rw [e7]
    exact ⟨rfl, N0, rfl⟩
theorem d3_0 : decode prog_82_method_7_code 0 = .ok (.aload_n 0, 1) := by decide +kernel
theorem d3_1 : decode prog_82_method_7_code 1 = .ok (.getfield 63, 3) := by decide +kernel
theorem d3_4 : decode prog_82_method_7_code 4 = .ok (.areturn, 1) := by decide +kernel
theorem pn_3 : plainName "com/example/idem/idem/Result" = true := by first | (simp [plainName, overriddenIn]; done) | decide +kernel
theorem ef_3 (m : MethodId) (x0 : Addr) : entryFrame m #[(.ref x0)] 1 = mkF m 0 #[.val (.ref x0)] [] := by first | (simp [entryFrame, mkF, argsToLocals, Value.category]; done) | rfl
def Q3 (Z : State) (a1 : Addr) (wR : Addr) (h0 : Heap) (n0 : Nat) (v : Option Value) (h : Heap) (L : List Loc) : Prop := v = some (.ref wR) ∧ Fr n0 L ∧ h = h0
set_option maxRecDepth 65536 in
set_option maxHeartbeats 40000000 in
theorem rm3 (l : Launch) (Z : State) (a0 : Array Value) (hw : ∀ d ∈ tables_1, d.before a0 Z = true) (ws : List Jvm.Cond) (a1 : Addr) (wR : Addr) (h0 : Heap) (n0 : Nat) (Z0 : n0 ≤ h0.size) (F1 : Fld Z h0 a1 "com/example/idem/idem/Result" "decision" "Lcom/example/idem/idem/Decision;" (.ref wR)) :
    MetFree l (⟨"com/example/idem/idem/Result", "decision", "()Lcom/example/idem/idem/Decision;"⟩ : MethodName) (head1 (Jvm.Cond.code (⟨"com/example/idem/idem/Result", "decision", "()Lcom/example/idem/idem/Decision;"⟩ : MethodName) prog_82_method_7_code 1 (some (.object "com/example/idem/idem/Decision")) :: ws) ({ frames := 0, cells := 0, slots := 0, locals := 0 } : Room)) (fun a U => a = #[(.ref a1)] ∧ Z.Warmed39 U.vm ∧ U.heap = h0) (fun _ _ _ _ _ => True) (fun _ U o U' => ∃ v L, o = .returned v ∧ Q3 Z a1 wR h0 n0 v U'.heap L ∧ FrameEnd U o U' L ({ frames := 0, cells := 0, slots := 0, locals := 0 } : Room).cells ({ frames := 0, cells := 0, slots := 0, locals := 0 } : Room).slots) := by
  refine MetFree.of_bodySF (plainFor_of_name pn_3) hisR ?_
  intro p e s m args below meth c s₁ Bd hml0 hP hK
  obtain ⟨rfl, hZ, hh⟩ := hP
  have hx := Bd.exec
  have hby := Bd.bytes
  have hml : c.maxLocals = 1 := hml0
  have hown : s.vm.findClass "com/example/idem/idem/Result" = some m.cls := findClass_of_methodNamed Bd.named
  have hnm := (name_of_methodNamed Bd.named Bd.method).1
  have X0 : Stand p l e ({ frames := 0, cells := 0, slots := 0, locals := 0 } : Room) s m #[(.ref a1)] below meth c s₁ [] 0 0 := Stand.of_body Bd
  have e0 : s₁.heap = h0 := by rw [← hh, Bd.state]; rfl
  have N0 := Fr.nil n0
  have pre0 : ∀ t, Steps p.tables e below (s₁.setTop (mkF m 0 #[.val (.ref a1)] [])) t → Steps p.tables e below (s₁.setTop (entryFrame m #[(.ref a1)] 1)) t := fun t k => castTop (ef_3 m a1) k
  obtain ⟨T9, X9, e9, st9⟩ := getF X0 hx hZ hown (host := "") (Or.inl (hw _ (List.mem_of_getElem? (i := 25) rfl))) Via.refl e0 F1 (g := (mkF m 1 #[.val (.ref a1)] [(.ref a1)])) rfl rfl (hb hby d3_1)
  have pre10 : ∀ t, Steps p.tables e below (T9.setTop (mkF m 4 #[.val (.ref a1)] [(.ref wR)])) t → Steps p.tables e below (s₁.setTop (entryFrame m #[(.ref a1)] 1)) t := by
    intro t kt
    refine pre0 _ ?_
    show Steps p.tables e below (s₁.setTop (mkF m 0 #[.val (.ref a1)] [])) _
    refine XS.aloadN X0.here hx rfl (hb hby d3_0) rfl rfl ?_
    show Steps p.tables e below (s₁.setTop (mkF m 1 #[.val (.ref a1)] [(.ref a1)])) _
    refine st9 _ ?_
    exact kt
  obtain ⟨fs, hr, hrun, hended, hW, hsame⟩ := X9.leave (v := some (.ref wR)) (fun h => by rw [Bd.returns] at h; cases h)
  refine ⟨_, _, pre10 _ ?_, hrun, hended, _, _, rfl, ?_, ⟨_, rfl⟩, hW, hsame.mono (by decide) (by decide)⟩
  · show Steps p.tables e below (T9.setTop (mkF m 4 #[.val (.ref a1)] [(.ref wR)])) _
    jvm_step X9.here [X9.here.top, hx, (hb hby d3_4), X9.method', Bd.returns, Value.isRef, FieldType.isReference]
    first | (intro acts; rw [hr _ acts rfl rfl rfl]) | rw [hr _ _ rfl rfl rfl]
    exact Steps.refl _
  · show Q3 Z a1 wR h0 n0 _ T9.heap _
    rw [e9]
    exact ⟨rfl, N0, rfl⟩
theorem pd_0 : parseMethodDescriptor "()Lcom/example/idem/idem/Effect;" = some ⟨[], some (.object "com/example/idem/idem/Effect")⟩ := by decide +kernel
theorem pd_1 : parseMethodDescriptor "()Lcom/example/idem/idem/Result;" = some ⟨[], some (.object "com/example/idem/idem/Result")⟩ := by decide +kernel
theorem pd_2 : parseMethodDescriptor "()Lcom/example/idem/idem/Decision;" = some ⟨[], some (.object "com/example/idem/idem/Decision")⟩ := by decide +kernel
theorem pn_0 : plainName "com/example/idem/idem/EffectOppositePinLaw" = true := by first | (simp [plainName, overriddenIn]; done) | decide +kernel
theorem ef_0 (m : MethodId) (x0 : Int32) : entryFrame m #[(.int x0)] maxLocals = mkF m 0 #[.val (.int x0), .unset, .unset, .unset, .unset, .unset, .unset, .unset] [] := by first | (simp [entryFrame, mkF, argsToLocals, Value.category, maxLocals]; done) | rfl
def Q0 (Z : State) (p1 : Int32) (wP : Addr) (wD : Addr) (rP : Addr) (rD : Addr) (dP : Addr) (dD : Addr) (h0 : Heap) (n0 : Nat) (v : Option Value) (h : Heap) (L : List Loc) : Prop := v = some (.int (1 : Int32)) ∧ Fr n0 L ∧ h = h0
set_option maxRecDepth 65536 in
set_option maxHeartbeats 40000000 in
theorem rm0 (l : Launch) (Z : State) (a0 : Array Value) (hw : ∀ d ∈ tables_1, d.before a0 Z = true) (ws : List Jvm.Cond) (p1 : Int32) (wP : Addr) (wD : Addr) (rP : Addr) (rD : Addr) (dP : Addr) (dD : Addr) (h0 : Heap) (n0 : Nat) (Z0 : n0 ≤ h0.size) (SP : Sta Z h0 "com/example/idem/idem/Effect" "PERMIT" "Lcom/example/idem/idem/Effect;" (.ref wP)) (SD : Sta Z h0 "com/example/idem/idem/Effect" "DENY" "Lcom/example/idem/idem/Effect;" (.ref wD)) (TP : Sta Z h0 "com/example/idem/idem/Decision" "PERMIT" "Lcom/example/idem/idem/Decision;" (.ref dP)) (TD : Sta Z h0 "com/example/idem/idem/Decision" "DENY" "Lcom/example/idem/idem/Decision;" (.ref dD)) (EP : Exa Z h0 wP "com/example/idem/idem/Effect") (ED : Exa Z h0 wD "com/example/idem/idem/Effect") (GP : Exa Z h0 rP "com/example/idem/idem/Result") (GD : Exa Z h0 rD "com/example/idem/idem/Result") (RP : Fld Z h0 wP "com/example/idem/idem/Effect" "result" "Lcom/example/idem/idem/Result;" (.ref rP)) (RD : Fld Z h0 wD "com/example/idem/idem/Effect" "result" "Lcom/example/idem/idem/Result;" (.ref rD)) (FP : Fld Z h0 rP "com/example/idem/idem/Result" "decision" "Lcom/example/idem/idem/Decision;" (.ref dP)) (FD : Fld Z h0 rD "com/example/idem/idem/Result" "decision" "Lcom/example/idem/idem/Decision;" (.ref dD)) (hne : wP ≠ wD) (hnd : dP ≠ dD) :
    MetFree l x (head1 (Jvm.Cond.code x code maxLocals ret :: ws) room_1) (fun a U => a = #[(.int p1)] ∧ Z.Warmed39 U.vm ∧ U.heap = h0) (fun _ _ _ _ _ => True) (fun _ U o U' => ∃ v L, o = .returned v ∧ Q0 Z p1 wP wD rP rD dP dD h0 n0 v U'.heap L ∧ FrameEnd U o U' L room_1.cells room_1.slots) := by
  refine MetFree.of_bodySF (plainFor_of_name pn_0) hisR ?_
  intro p e s m args below meth c s₁ Bd hml0 hP hK
  obtain ⟨rfl, hZ, hh⟩ := hP
  have hx := Bd.exec
  have hby := Bd.bytes
  have hml : c.maxLocals = 8 := hml0
  have hown : s.vm.findClass "com/example/idem/idem/EffectOppositePinLaw" = some m.cls := findClass_of_methodNamed Bd.named
  have hnm := (name_of_methodNamed Bd.named Bd.method).1
  have X0 : Stand p l e room_1 s m #[(.int p1)] below meth c s₁ [] 0 0 := Stand.of_body Bd
  have e0 : s₁.heap = h0 := by rw [← hh, Bd.state]; rfl
  have N0 := Fr.nil n0
  have pre0 : ∀ t, Steps p.tables e below (s₁.setTop (mkF m 0 #[.val (.int p1), .unset, .unset, .unset, .unset, .unset, .unset, .unset] [])) t → Steps p.tables e below (s₁.setTop (entryFrame m #[(.int p1)] maxLocals)) t := fun t k => castTop (ef_0 m p1) k
  have pre11 : ∀ t, Steps p.tables e below (s₁.setTop (mkF m 3 #[.val (.int p1), .unset, .unset, .unset, .unset, .unset, .unset, .unset] [(.int (p1 &&& (1 : Int32)))])) t → Steps p.tables e below (s₁.setTop (entryFrame m #[(.int p1)] maxLocals)) t := by
    intro t kt
    refine pre0 _ ?_
    show Steps p.tables e below (s₁.setTop (mkF m 0 #[.val (.int p1), .unset, .unset, .unset, .unset, .unset, .unset, .unset] [])) _
    refine XS.iloadN X0.here hx rfl (hb hby at_0) rfl ?_
    show Steps p.tables e below (s₁.setTop (mkF m 1 #[.val (.int p1), .unset, .unset, .unset, .unset, .unset, .unset, .unset] [(.int p1)])) _
    refine XS.iconst X0.here hx rfl (hb hby at_1) ?_
    show Steps p.tables e below (s₁.setTop (mkF m 2 #[.val (.int p1), .unset, .unset, .unset, .unset, .unset, .unset, .unset] [(.int (1 : Int32)), (.int p1)])) _
    refine XS.iand X0.here hx rfl (hb hby at_2) rfl ?_
    exact kt
  by_cases hc3_12 : (p1 &&& (1 : Int32)) = (0 : Int32)
  · obtain ⟨T13, X13, e13, st13⟩ := getS2 X0 hx hZ hown (host := "") (Or.inl (hw _ (List.mem_of_getElem? (i := 0) rfl))) Via.refl e0 SP (g := (mkF m 16 #[.val (.int p1), .val (.int (1 : Int32)), .unset, .unset, .unset, .unset, .unset, .unset] [])) rfl (hb hby at_16)
    obtain ⟨T14, X14, e14, st14⟩ := getS2 X13 hx hZ hown (host := "") (Or.inl (hw _ (List.mem_of_getElem? (i := 3) rfl))) Via.refl e13 SD (g := (mkF m 30 #[.val (.int p1), .val (.int (1 : Int32)), .val (.ref wP), .unset, .unset, .unset, .unset, .unset] [])) rfl (hb hby at_30)
    obtain ⟨cq15, kq15, q15a, q15b, q15c⟩ := isOf hZ e14 EP
    obtain ⟨_, _, ⟨T15, L15, k15, n15⟩, -, X15, ⟨Lc15, hQ15, l15, y15, z15⟩, st15⟩ := X14.virtualBack hx (y := (⟨"com/example/idem/idem/Effect", "opposite", "()Lcom/example/idem/idem/Effect;"⟩ : MethodName)) (z := (⟨"com/example/idem/idem/Effect", "opposite", "()Lcom/example/idem/idem/Effect;"⟩ : MethodName)) hown (mvT hZ (hw _ (List.mem_of_getElem? (i := 5) rfl))) (mvT hZ (hw _ (List.mem_of_getElem? (i := 6) rfl))) (notFace_of_selects (args := #[]) (mvT hZ (hw _ (List.mem_of_getElem? (i := 8) rfl)))) (mvT hZ (hw _ (List.mem_of_getElem? (i := 8) rfl))) (mvT hZ (hw _ (List.mem_of_getElem? (i := 7) rfl))) (by decide) (backOf (W := 0) (rm1a l Z a0 hw [] wP wD h0 n0 Z0 SP SD) hZ (hw _ (List.mem_of_getElem? (i := 9) rfl)) (hw _ (List.mem_of_getElem? (i := 1) rfl)) (by decide) (by decide)) q15a q15c (g := (mkF m 41 #[.val (.int p1), .val (.int (1 : Int32)), .val (.ref wP), .val (.ref wD), .unset, .unset, .unset, .unset] [(.ref wP)])) rfl (by rw [hml]; rfl) (Steps.refl _) (argsL := []) (rest := []) (lenOf pd_0 rfl) rfl (by show 2 * 0 + _ ≤ _; exact Nat.le_of_eq rfl) (hb hby at_41) (fun _ _ => ⟨rfl, e14, (by decide : 0 + 0 ≤ _), (by decide : 0 + 0 ≤ _)⟩)
    dsimp only [Pt.U, Pt.locs, Pt.cells, Pt.slots] at X15 l15 y15 z15 st15 hQ15
    subst l15 y15 z15
    obtain ⟨rfl, N15q, e15⟩ := hQ15
    have N15 := Fr.app N0 N15q
    obtain ⟨cq16, kq16, q16a, q16b, q16c⟩ := isOf hZ e15 ED
    obtain ⟨_, _, ⟨T16, L16, k16, n16⟩, -, X16, ⟨Lc16, hQ16, l16, y16, z16⟩, st16⟩ := X15.virtualBack hx (y := (⟨"com/example/idem/idem/Effect", "opposite", "()Lcom/example/idem/idem/Effect;"⟩ : MethodName)) (z := (⟨"com/example/idem/idem/Effect", "opposite", "()Lcom/example/idem/idem/Effect;"⟩ : MethodName)) hown (mvT hZ (hw _ (List.mem_of_getElem? (i := 5) rfl))) (mvT hZ (hw _ (List.mem_of_getElem? (i := 6) rfl))) (notFace_of_selects (args := #[]) (mvT hZ (hw _ (List.mem_of_getElem? (i := 8) rfl)))) (mvT hZ (hw _ (List.mem_of_getElem? (i := 8) rfl))) (mvT hZ (hw _ (List.mem_of_getElem? (i := 7) rfl))) (by decide) (backOf (W := 0) (rm1b l Z a0 hw [] wD wP h0 n0 Z0 SP (Ne.symm hne)) hZ (hw _ (List.mem_of_getElem? (i := 9) rfl)) (hw _ (List.mem_of_getElem? (i := 1) rfl)) (by decide) (by decide)) q16a q16c (g := (mkF m 71 #[.val (.int p1), .val (.int (1 : Int32)), .val (.ref wP), .val (.ref wD), .val (.ref wD), .unset, .unset, .unset] [(.ref wD)])) rfl (by rw [hml]; rfl) (Steps.refl _) (argsL := []) (rest := []) (lenOf pd_0 rfl) rfl (by show 2 * 0 + _ ≤ _; exact Nat.le_of_eq rfl) (hb hby at_71) (fun _ _ => ⟨rfl, e15, (by decide : 0 + 0 ≤ _), (by decide : 0 + 0 ≤ _)⟩)
    dsimp only [Pt.U, Pt.locs, Pt.cells, Pt.slots] at X16 l16 y16 z16 st16 hQ16
    subst l16 y16 z16
    obtain ⟨rfl, N16q, e16⟩ := hQ16
    have N16 := Fr.app N15 N16q
    obtain ⟨cq17, kq17, q17a, q17b, q17c⟩ := isOf hZ e16 EP
    obtain ⟨_, _, ⟨T17, L17, k17, n17⟩, -, X17, ⟨Lc17, hQ17, l17, y17, z17⟩, st17⟩ := X16.virtualBack hx (y := (⟨"com/example/idem/idem/Effect", "result", "()Lcom/example/idem/idem/Result;"⟩ : MethodName)) (z := (⟨"com/example/idem/idem/Effect", "result", "()Lcom/example/idem/idem/Result;"⟩ : MethodName)) hown (mvT hZ (hw _ (List.mem_of_getElem? (i := 12) rfl))) (mvT hZ (hw _ (List.mem_of_getElem? (i := 13) rfl))) (notFace_of_selects (args := #[]) (mvT hZ (hw _ (List.mem_of_getElem? (i := 15) rfl)))) (mvT hZ (hw _ (List.mem_of_getElem? (i := 15) rfl))) (mvT hZ (hw _ (List.mem_of_getElem? (i := 14) rfl))) (by decide) (backOf (W := 0) (rm2 l Z a0 hw [] wP rP h0 n0 Z0 RP) hZ (hw _ (List.mem_of_getElem? (i := 16) rfl)) (hw _ (List.mem_of_getElem? (i := 1) rfl)) (by decide) (by decide)) q17a q17c (g := (mkF m 85 #[.val (.int p1), .val (.int (1 : Int32)), .val (.ref wP), .val (.ref wD), .val (.ref wD), .val (.ref wP), .unset, .unset] [(.ref wP)])) rfl (by rw [hml]; rfl) (Steps.refl _) (argsL := []) (rest := []) (lenOf pd_1 rfl) rfl (by show 2 * 0 + _ ≤ _; exact Nat.le_of_eq rfl) (hb hby at_85) (fun _ _ => ⟨rfl, e16, (by decide : 0 + 0 ≤ _), (by decide : 0 + 0 ≤ _)⟩)
    dsimp only [Pt.U, Pt.locs, Pt.cells, Pt.slots] at X17 l17 y17 z17 st17 hQ17
    subst l17 y17 z17
    obtain ⟨rfl, N17q, e17⟩ := hQ17
    have N17 := Fr.app N16 N17q
    obtain ⟨cq18, kq18, q18a, q18b, q18c⟩ := isOf hZ e17 GP
    obtain ⟨_, _, ⟨T18, L18, k18, n18⟩, -, X18, ⟨Lc18, hQ18, l18, y18, z18⟩, st18⟩ := X17.virtualBack hx (y := (⟨"com/example/idem/idem/Result", "decision", "()Lcom/example/idem/idem/Decision;"⟩ : MethodName)) (z := (⟨"com/example/idem/idem/Result", "decision", "()Lcom/example/idem/idem/Decision;"⟩ : MethodName)) hown (mvT hZ (hw _ (List.mem_of_getElem? (i := 19) rfl))) (mvT hZ (hw _ (List.mem_of_getElem? (i := 20) rfl))) (notFace_of_selects (args := #[]) (mvT hZ (hw _ (List.mem_of_getElem? (i := 22) rfl)))) (mvT hZ (hw _ (List.mem_of_getElem? (i := 22) rfl))) (mvT hZ (hw _ (List.mem_of_getElem? (i := 21) rfl))) (by decide) (backOf (W := 0) (rm3 l Z a0 hw [] rP dP h0 n0 Z0 FP) hZ (hw _ (List.mem_of_getElem? (i := 24) rfl)) (hw _ (List.mem_of_getElem? (i := 23) rfl)) (by decide) (by decide)) q18a q18c (g := (mkF m 88 #[.val (.int p1), .val (.int (1 : Int32)), .val (.ref wP), .val (.ref wD), .val (.ref wD), .val (.ref wP), .unset, .unset] [(.ref rP)])) rfl (by rw [hml]; rfl) (Steps.refl _) (argsL := []) (rest := []) (lenOf pd_2 rfl) rfl (by show 2 * 0 + _ ≤ _; exact Nat.le_of_eq rfl) (hb hby at_88) (fun _ _ => ⟨rfl, e17, (by decide : 0 + 0 ≤ _), (by decide : 0 + 0 ≤ _)⟩)
    dsimp only [Pt.U, Pt.locs, Pt.cells, Pt.slots] at X18 l18 y18 z18 st18 hQ18
    subst l18 y18 z18
    obtain ⟨rfl, N18q, e18⟩ := hQ18
    have N18 := Fr.app N17 N18q
    obtain ⟨cq19, kq19, q19a, q19b, q19c⟩ := isOf hZ e18 ED
    obtain ⟨_, _, ⟨T19, L19, k19, n19⟩, -, X19, ⟨Lc19, hQ19, l19, y19, z19⟩, st19⟩ := X18.virtualBack hx (y := (⟨"com/example/idem/idem/Effect", "result", "()Lcom/example/idem/idem/Result;"⟩ : MethodName)) (z := (⟨"com/example/idem/idem/Effect", "result", "()Lcom/example/idem/idem/Result;"⟩ : MethodName)) hown (mvT hZ (hw _ (List.mem_of_getElem? (i := 12) rfl))) (mvT hZ (hw _ (List.mem_of_getElem? (i := 13) rfl))) (notFace_of_selects (args := #[]) (mvT hZ (hw _ (List.mem_of_getElem? (i := 15) rfl)))) (mvT hZ (hw _ (List.mem_of_getElem? (i := 15) rfl))) (mvT hZ (hw _ (List.mem_of_getElem? (i := 14) rfl))) (by decide) (backOf (W := 0) (rm2 l Z a0 hw [] wD rD h0 n0 Z0 RD) hZ (hw _ (List.mem_of_getElem? (i := 16) rfl)) (hw _ (List.mem_of_getElem? (i := 1) rfl)) (by decide) (by decide)) q19a q19c (g := (mkF m 95 #[.val (.int p1), .val (.int (1 : Int32)), .val (.ref wP), .val (.ref wD), .val (.ref wD), .val (.ref wP), .val (.ref dP), .unset] [(.ref wD)])) rfl (by rw [hml]; rfl) (Steps.refl _) (argsL := []) (rest := []) (lenOf pd_1 rfl) rfl (by show 2 * 0 + _ ≤ _; exact Nat.le_of_eq rfl) (hb hby at_95) (fun _ _ => ⟨rfl, e18, (by decide : 0 + 0 ≤ _), (by decide : 0 + 0 ≤ _)⟩)
    dsimp only [Pt.U, Pt.locs, Pt.cells, Pt.slots] at X19 l19 y19 z19 st19 hQ19
    subst l19 y19 z19
    obtain ⟨rfl, N19q, e19⟩ := hQ19
    have N19 := Fr.app N18 N19q
    obtain ⟨cq20, kq20, q20a, q20b, q20c⟩ := isOf hZ e19 GD
    obtain ⟨_, _, ⟨T20, L20, k20, n20⟩, -, X20, ⟨Lc20, hQ20, l20, y20, z20⟩, st20⟩ := X19.virtualBack hx (y := (⟨"com/example/idem/idem/Result", "decision", "()Lcom/example/idem/idem/Decision;"⟩ : MethodName)) (z := (⟨"com/example/idem/idem/Result", "decision", "()Lcom/example/idem/idem/Decision;"⟩ : MethodName)) hown (mvT hZ (hw _ (List.mem_of_getElem? (i := 19) rfl))) (mvT hZ (hw _ (List.mem_of_getElem? (i := 20) rfl))) (notFace_of_selects (args := #[]) (mvT hZ (hw _ (List.mem_of_getElem? (i := 22) rfl)))) (mvT hZ (hw _ (List.mem_of_getElem? (i := 22) rfl))) (mvT hZ (hw _ (List.mem_of_getElem? (i := 21) rfl))) (by decide) (backOf (W := 0) (rm3 l Z a0 hw [] rD dD h0 n0 Z0 FD) hZ (hw _ (List.mem_of_getElem? (i := 24) rfl)) (hw _ (List.mem_of_getElem? (i := 23) rfl)) (by decide) (by decide)) q20a q20c (g := (mkF m 98 #[.val (.int p1), .val (.int (1 : Int32)), .val (.ref wP), .val (.ref wD), .val (.ref wD), .val (.ref wP), .val (.ref dP), .unset] [(.ref rD)])) rfl (by rw [hml]; rfl) (Steps.refl _) (argsL := []) (rest := []) (lenOf pd_2 rfl) rfl (by show 2 * 0 + _ ≤ _; exact Nat.le_of_eq rfl) (hb hby at_98) (fun _ _ => ⟨rfl, e19, (by decide : 0 + 0 ≤ _), (by decide : 0 + 0 ≤ _)⟩)
    dsimp only [Pt.U, Pt.locs, Pt.cells, Pt.slots] at X20 l20 y20 z20 st20 hQ20
    subst l20 y20 z20
    obtain ⟨rfl, N20q, e20⟩ := hQ20
    have N20 := Fr.app N19 N20q
    obtain ⟨T21, X21, e21, st21⟩ := getS2 X20 hx hZ hown (host := "") (Or.inl (hw _ (List.mem_of_getElem? (i := 30) rfl))) Via.refl e20 TP (g := (mkF m 105 #[.val (.int p1), .val (.int (1 : Int32)), .val (.ref wP), .val (.ref wD), .val (.ref wD), .val (.ref wP), .val (.ref dP), .val (.ref dD)] [(.ref dP)])) rfl (hb hby at_105)
    obtain ⟨T22, X22, e22, st22⟩ := getS2 X21 hx hZ hown (host := "") (Or.inl (hw _ (List.mem_of_getElem? (i := 31) rfl))) Via.refl e21 TD (g := (mkF m 113 #[.val (.int p1), .val (.int (1 : Int32)), .val (.ref wP), .val (.ref wD), .val (.ref wD), .val (.ref wP), .val (.ref dP), .val (.ref dD)] [(.ref dD)])) rfl (hb hby at_113)
    have pre23 : ∀ t, Steps p.tables e below (T22.setTop (mkF m 140 #[.val (.int p1), .val (.int (1 : Int32)), .val (.ref wP), .val (.ref wD), .val (.ref wD), .val (.ref wP), .val (.ref dP), .val (.ref dD)] [(.int (1 : Int32))])) t → Steps p.tables e below (s₁.setTop (entryFrame m #[(.int p1)] maxLocals)) t := by
      intro t kt
      refine pre11 _ ?_
      show Steps p.tables e below (s₁.setTop (mkF m 3 #[.val (.int p1), .unset, .unset, .unset, .unset, .unset, .unset, .unset] [(.int (p1 &&& (1 : Int32)))])) _
      refine XS.ifNo X0.here hx rfl (hb hby at_3) rfl ((if0 _ _).trans (teq hc3_12).2) ?_
      show Steps p.tables e below (s₁.setTop (mkF m 6 #[.val (.int p1), .unset, .unset, .unset, .unset, .unset, .unset, .unset] [])) _
      refine XS.iconst X0.here hx rfl (hb hby at_6) ?_
      show Steps p.tables e below (s₁.setTop (mkF m 7 #[.val (.int p1), .unset, .unset, .unset, .unset, .unset, .unset, .unset] [(.int (1 : Int32))])) _
      refine XS.goto X0.here hx rfl (pc0 := 7) (pc' := 11) rfl (hb hby at_7) (by decide) (by decide) ?_
      show Steps p.tables e below (s₁.setTop (mkF m 11 #[.val (.int p1), .unset, .unset, .unset, .unset, .unset, .unset, .unset] [(.int (1 : Int32))])) _
      refine XS.istoreN X0.here hx rfl (hb hby at_11) rfl (l' := #[.val (.int p1), .val (.int (1 : Int32)), .unset, .unset, .unset, .unset, .unset, .unset]) rfl ?_
      show Steps p.tables e below (s₁.setTop (mkF m 12 #[.val (.int p1), .val (.int (1 : Int32)), .unset, .unset, .unset, .unset, .unset, .unset] [])) _
      refine XS.iloadN X0.here hx rfl (hb hby at_12) rfl ?_
      show Steps p.tables e below (s₁.setTop (mkF m 13 #[.val (.int p1), .val (.int (1 : Int32)), .unset, .unset, .unset, .unset, .unset, .unset] [(.int (1 : Int32))])) _
      refine XS.ifNo X0.here hx rfl (hb hby at_13) rfl ((if0 _ _).trans (feq (by decide : ¬ ((1 : Int32) = (0 : Int32)))).1) ?_
      show Steps p.tables e below (s₁.setTop (mkF m 16 #[.val (.int p1), .val (.int (1 : Int32)), .unset, .unset, .unset, .unset, .unset, .unset] [])) _
      refine st13 _ ?_
      show Steps p.tables e below (T13.setTop (mkF m 19 #[.val (.int p1), .val (.int (1 : Int32)), .unset, .unset, .unset, .unset, .unset, .unset] [(.ref wP)])) _
      refine XS.goto X13.here hx rfl (pc0 := 19) (pc' := 25) rfl (hb hby at_19) (by decide) (by decide) ?_
      show Steps p.tables e below (T13.setTop (mkF m 25 #[.val (.int p1), .val (.int (1 : Int32)), .unset, .unset, .unset, .unset, .unset, .unset] [(.ref wP)])) _
      refine XS.astoreN X13.here hx rfl (hb hby at_25) rfl rfl (l' := #[.val (.int p1), .val (.int (1 : Int32)), .val (.ref wP), .unset, .unset, .unset, .unset, .unset]) rfl ?_
      show Steps p.tables e below (T13.setTop (mkF m 26 #[.val (.int p1), .val (.int (1 : Int32)), .val (.ref wP), .unset, .unset, .unset, .unset, .unset] [])) _
      refine XS.iloadN X13.here hx rfl (hb hby at_26) rfl ?_
      show Steps p.tables e below (T13.setTop (mkF m 27 #[.val (.int p1), .val (.int (1 : Int32)), .val (.ref wP), .unset, .unset, .unset, .unset, .unset] [(.int (1 : Int32))])) _
      refine XS.ifNo X13.here hx rfl (hb hby at_27) rfl ((if0 _ _).trans (feq (by decide : ¬ ((1 : Int32) = (0 : Int32)))).1) ?_
      show Steps p.tables e below (T13.setTop (mkF m 30 #[.val (.int p1), .val (.int (1 : Int32)), .val (.ref wP), .unset, .unset, .unset, .unset, .unset] [])) _
      refine st14 _ ?_
      show Steps p.tables e below (T14.setTop (mkF m 33 #[.val (.int p1), .val (.int (1 : Int32)), .val (.ref wP), .unset, .unset, .unset, .unset, .unset] [(.ref wD)])) _
      refine XS.goto X14.here hx rfl (pc0 := 33) (pc' := 39) rfl (hb hby at_33) (by decide) (by decide) ?_
      show Steps p.tables e below (T14.setTop (mkF m 39 #[.val (.int p1), .val (.int (1 : Int32)), .val (.ref wP), .unset, .unset, .unset, .unset, .unset] [(.ref wD)])) _
      refine XS.astoreN X14.here hx rfl (hb hby at_39) rfl rfl (l' := #[.val (.int p1), .val (.int (1 : Int32)), .val (.ref wP), .val (.ref wD), .unset, .unset, .unset, .unset]) rfl ?_
      show Steps p.tables e below (T14.setTop (mkF m 40 #[.val (.int p1), .val (.int (1 : Int32)), .val (.ref wP), .val (.ref wD), .unset, .unset, .unset, .unset] [])) _
      refine XS.aloadN X14.here hx rfl (hb hby at_40) rfl rfl ?_
      show Steps p.tables e below (T14.setTop (mkF m 41 #[.val (.int p1), .val (.int (1 : Int32)), .val (.ref wP), .val (.ref wD), .unset, .unset, .unset, .unset] [(.ref wP)])) _
      refine st15.trans ?_
      show Steps p.tables e below (T15.setTop (mkF m 44 #[.val (.int p1), .val (.int (1 : Int32)), .val (.ref wP), .val (.ref wD), .unset, .unset, .unset, .unset] [(.ref wD)])) _
      refine XS.astore X15.here hx rfl (hb hby at_44) rfl rfl (l' := #[.val (.int p1), .val (.int (1 : Int32)), .val (.ref wP), .val (.ref wD), .val (.ref wD), .unset, .unset, .unset]) rfl ?_
      show Steps p.tables e below (T15.setTop (mkF m 46 #[.val (.int p1), .val (.int (1 : Int32)), .val (.ref wP), .val (.ref wD), .val (.ref wD), .unset, .unset, .unset] [])) _
      refine XS.aload X15.here hx rfl (hb hby at_46) rfl rfl ?_
      show Steps p.tables e below (T15.setTop (mkF m 48 #[.val (.int p1), .val (.int (1 : Int32)), .val (.ref wP), .val (.ref wD), .val (.ref wD), .unset, .unset, .unset] [(.ref wD)])) _
      refine XS.ifnonnullYes X15.here hx rfl (pc0 := 48) (pc' := 53) rfl (hb hby at_48) rfl (by decide) (by decide) ?_
      show Steps p.tables e below (T15.setTop (mkF m 53 #[.val (.int p1), .val (.int (1 : Int32)), .val (.ref wP), .val (.ref wD), .val (.ref wD), .unset, .unset, .unset] [])) _
      refine XS.aload X15.here hx rfl (hb hby at_53) rfl rfl ?_
      show Steps p.tables e below (T15.setTop (mkF m 55 #[.val (.int p1), .val (.int (1 : Int32)), .val (.ref wP), .val (.ref wD), .val (.ref wD), .unset, .unset, .unset] [(.ref wD)])) _
      refine XS.aloadN X15.here hx rfl (hb hby at_55) rfl rfl ?_
      show Steps p.tables e below (T15.setTop (mkF m 56 #[.val (.int p1), .val (.int (1 : Int32)), .val (.ref wP), .val (.ref wD), .val (.ref wD), .unset, .unset, .unset] [(.ref wD), (.ref wD)])) _
      refine Jvm.RoadKit.acmp (g := (mkF m 56 #[.val (.int p1), .val (.int (1 : Int32)), .val (.ref wP), .val (.ref wD), .val (.ref wD), .unset, .unset, .unset] [(.ref wD), (.ref wD)])) X15 hx rfl rfl rfl (pc0 := 56) (pc' := 61) (same := true) rfl (hb hby at_56) rfl (decide_eq_true rfl) (by decide) (by decide) ?_
      show Steps p.tables e below (T15.setTop (mkF m 61 #[.val (.int p1), .val (.int (1 : Int32)), .val (.ref wP), .val (.ref wD), .val (.ref wD), .unset, .unset, .unset] [])) _
      refine XS.aload X15.here hx rfl (hb hby at_61) rfl rfl ?_
      show Steps p.tables e below (T15.setTop (mkF m 63 #[.val (.int p1), .val (.int (1 : Int32)), .val (.ref wP), .val (.ref wD), .val (.ref wD), .unset, .unset, .unset] [(.ref wD)])) _
      refine XS.aloadN X15.here hx rfl (hb hby at_63) rfl rfl ?_
      show Steps p.tables e below (T15.setTop (mkF m 64 #[.val (.int p1), .val (.int (1 : Int32)), .val (.ref wP), .val (.ref wD), .val (.ref wD), .unset, .unset, .unset] [(.ref wP), (.ref wD)])) _
      refine Jvm.RoadKit.acmp (g := (mkF m 64 #[.val (.int p1), .val (.int (1 : Int32)), .val (.ref wP), .val (.ref wD), .val (.ref wD), .unset, .unset, .unset] [(.ref wP), (.ref wD)])) X15 hx rfl rfl rfl (pc0 := 64) (pc' := 69) (same := false) rfl (hb hby at_64) rfl (decide_eq_false fun q => (Ne.symm hne) (Value.ref.inj q)) (by decide) (by decide) ?_
      show Steps p.tables e below (T15.setTop (mkF m 69 #[.val (.int p1), .val (.int (1 : Int32)), .val (.ref wP), .val (.ref wD), .val (.ref wD), .unset, .unset, .unset] [])) _
      refine XS.aload X15.here hx rfl (hb hby at_69) rfl rfl ?_
      show Steps p.tables e below (T15.setTop (mkF m 71 #[.val (.int p1), .val (.int (1 : Int32)), .val (.ref wP), .val (.ref wD), .val (.ref wD), .unset, .unset, .unset] [(.ref wD)])) _
      refine st16.trans ?_
      show Steps p.tables e below (T16.setTop (mkF m 74 #[.val (.int p1), .val (.int (1 : Int32)), .val (.ref wP), .val (.ref wD), .val (.ref wD), .unset, .unset, .unset] [(.ref wP)])) _
      refine XS.astore X16.here hx rfl (hb hby at_74) rfl rfl (l' := #[.val (.int p1), .val (.int (1 : Int32)), .val (.ref wP), .val (.ref wD), .val (.ref wD), .val (.ref wP), .unset, .unset]) rfl ?_
      show Steps p.tables e below (T16.setTop (mkF m 76 #[.val (.int p1), .val (.int (1 : Int32)), .val (.ref wP), .val (.ref wD), .val (.ref wD), .val (.ref wP), .unset, .unset] [])) _
      refine XS.aload X16.here hx rfl (hb hby at_76) rfl rfl ?_
      show Steps p.tables e below (T16.setTop (mkF m 78 #[.val (.int p1), .val (.int (1 : Int32)), .val (.ref wP), .val (.ref wD), .val (.ref wD), .val (.ref wP), .unset, .unset] [(.ref wP)])) _
      refine XS.aloadN X16.here hx rfl (hb hby at_78) rfl rfl ?_
      show Steps p.tables e below (T16.setTop (mkF m 79 #[.val (.int p1), .val (.int (1 : Int32)), .val (.ref wP), .val (.ref wD), .val (.ref wD), .val (.ref wP), .unset, .unset] [(.ref wP), (.ref wP)])) _
      refine Jvm.RoadKit.acmp (g := (mkF m 79 #[.val (.int p1), .val (.int (1 : Int32)), .val (.ref wP), .val (.ref wD), .val (.ref wD), .val (.ref wP), .unset, .unset] [(.ref wP), (.ref wP)])) X16 hx rfl rfl rfl (pc0 := 79) (pc' := 84) (same := true) rfl (hb hby at_79) rfl (decide_eq_true rfl) (by decide) (by decide) ?_
      show Steps p.tables e below (T16.setTop (mkF m 84 #[.val (.int p1), .val (.int (1 : Int32)), .val (.ref wP), .val (.ref wD), .val (.ref wD), .val (.ref wP), .unset, .unset] [])) _
      refine XS.aloadN X16.here hx rfl (hb hby at_84) rfl rfl ?_
      show Steps p.tables e below (T16.setTop (mkF m 85 #[.val (.int p1), .val (.int (1 : Int32)), .val (.ref wP), .val (.ref wD), .val (.ref wD), .val (.ref wP), .unset, .unset] [(.ref wP)])) _
      refine st17.trans ?_
      show Steps p.tables e below (T17.setTop (mkF m 88 #[.val (.int p1), .val (.int (1 : Int32)), .val (.ref wP), .val (.ref wD), .val (.ref wD), .val (.ref wP), .unset, .unset] [(.ref rP)])) _
      refine st18.trans ?_
      show Steps p.tables e below (T18.setTop (mkF m 91 #[.val (.int p1), .val (.int (1 : Int32)), .val (.ref wP), .val (.ref wD), .val (.ref wD), .val (.ref wP), .unset, .unset] [(.ref dP)])) _
      refine XS.astore X18.here hx rfl (hb hby at_91) rfl rfl (l' := #[.val (.int p1), .val (.int (1 : Int32)), .val (.ref wP), .val (.ref wD), .val (.ref wD), .val (.ref wP), .val (.ref dP), .unset]) rfl ?_
      show Steps p.tables e below (T18.setTop (mkF m 93 #[.val (.int p1), .val (.int (1 : Int32)), .val (.ref wP), .val (.ref wD), .val (.ref wD), .val (.ref wP), .val (.ref dP), .unset] [])) _
      refine XS.aload X18.here hx rfl (hb hby at_93) rfl rfl ?_
      show Steps p.tables e below (T18.setTop (mkF m 95 #[.val (.int p1), .val (.int (1 : Int32)), .val (.ref wP), .val (.ref wD), .val (.ref wD), .val (.ref wP), .val (.ref dP), .unset] [(.ref wD)])) _
      refine st19.trans ?_
      show Steps p.tables e below (T19.setTop (mkF m 98 #[.val (.int p1), .val (.int (1 : Int32)), .val (.ref wP), .val (.ref wD), .val (.ref wD), .val (.ref wP), .val (.ref dP), .unset] [(.ref rD)])) _
      refine st20.trans ?_
      show Steps p.tables e below (T20.setTop (mkF m 101 #[.val (.int p1), .val (.int (1 : Int32)), .val (.ref wP), .val (.ref wD), .val (.ref wD), .val (.ref wP), .val (.ref dP), .unset] [(.ref dD)])) _
      refine XS.astore X20.here hx rfl (hb hby at_101) rfl rfl (l' := #[.val (.int p1), .val (.int (1 : Int32)), .val (.ref wP), .val (.ref wD), .val (.ref wD), .val (.ref wP), .val (.ref dP), .val (.ref dD)]) rfl ?_
      show Steps p.tables e below (T20.setTop (mkF m 103 #[.val (.int p1), .val (.int (1 : Int32)), .val (.ref wP), .val (.ref wD), .val (.ref wD), .val (.ref wP), .val (.ref dP), .val (.ref dD)] [])) _
      refine XS.aload X20.here hx rfl (hb hby at_103) rfl rfl ?_
      show Steps p.tables e below (T20.setTop (mkF m 105 #[.val (.int p1), .val (.int (1 : Int32)), .val (.ref wP), .val (.ref wD), .val (.ref wD), .val (.ref wP), .val (.ref dP), .val (.ref dD)] [(.ref dP)])) _
      refine st21 _ ?_
      show Steps p.tables e below (T21.setTop (mkF m 108 #[.val (.int p1), .val (.int (1 : Int32)), .val (.ref wP), .val (.ref wD), .val (.ref wD), .val (.ref wP), .val (.ref dP), .val (.ref dD)] [(.ref dP), (.ref dP)])) _
      refine Jvm.RoadKit.acmp (g := (mkF m 108 #[.val (.int p1), .val (.int (1 : Int32)), .val (.ref wP), .val (.ref wD), .val (.ref wD), .val (.ref wP), .val (.ref dP), .val (.ref dD)] [(.ref dP), (.ref dP)])) X21 hx rfl rfl rfl (pc0 := 108) (pc' := 111) (same := true) rfl (hb hby at_108) rfl (decide_eq_true rfl) (by decide) (by decide) ?_
      show Steps p.tables e below (T21.setTop (mkF m 111 #[.val (.int p1), .val (.int (1 : Int32)), .val (.ref wP), .val (.ref wD), .val (.ref wD), .val (.ref wP), .val (.ref dP), .val (.ref dD)] [])) _
      refine XS.aload X21.here hx rfl (hb hby at_111) rfl rfl ?_
      show Steps p.tables e below (T21.setTop (mkF m 113 #[.val (.int p1), .val (.int (1 : Int32)), .val (.ref wP), .val (.ref wD), .val (.ref wD), .val (.ref wP), .val (.ref dP), .val (.ref dD)] [(.ref dD)])) _
      refine st22 _ ?_
      show Steps p.tables e below (T22.setTop (mkF m 116 #[.val (.int p1), .val (.int (1 : Int32)), .val (.ref wP), .val (.ref wD), .val (.ref wD), .val (.ref wP), .val (.ref dP), .val (.ref dD)] [(.ref dD), (.ref dD)])) _
      refine Jvm.RoadKit.acmp (g := (mkF m 116 #[.val (.int p1), .val (.int (1 : Int32)), .val (.ref wP), .val (.ref wD), .val (.ref wD), .val (.ref wP), .val (.ref dP), .val (.ref dD)] [(.ref dD), (.ref dD)])) X22 hx rfl rfl rfl (pc0 := 116) (pc' := 135) (same := true) rfl (hb hby at_116) rfl (decide_eq_true rfl) (by decide) (by decide) ?_
      show Steps p.tables e below (T22.setTop (mkF m 135 #[.val (.int p1), .val (.int (1 : Int32)), .val (.ref wP), .val (.ref wD), .val (.ref wD), .val (.ref wP), .val (.ref dP), .val (.ref dD)] [])) _
      refine XS.iconst X22.here hx rfl (hb hby at_135) ?_
      show Steps p.tables e below (T22.setTop (mkF m 136 #[.val (.int p1), .val (.int (1 : Int32)), .val (.ref wP), .val (.ref wD), .val (.ref wD), .val (.ref wP), .val (.ref dP), .val (.ref dD)] [(.int (1 : Int32))])) _
      refine XS.goto X22.here hx rfl (pc0 := 136) (pc' := 140) rfl (hb hby at_136) (by decide) (by decide) ?_
      exact kt
    obtain ⟨fs, hr, hrun, hended, hW, hsame⟩ := X22.leave (v := some (.int (1 : Int32))) (fun h => by rw [Bd.returns] at h; cases h)
    refine ⟨_, _, pre23 _ ?_, hrun, hended, _, _, rfl, ?_, ⟨_, rfl⟩, hW, hsame.mono (by decide) (by decide)⟩
    · show Steps p.tables e below (T22.setTop (mkF m 140 #[.val (.int p1), .val (.int (1 : Int32)), .val (.ref wP), .val (.ref wD), .val (.ref wD), .val (.ref wP), .val (.ref dP), .val (.ref dD)] [(.int (1 : Int32))])) _
      exact retN X22 hx (t := .boolean) Bd.returns (by simp) (hb hby at_140) hr
    · show Q0 Z p1 wP wD rP rD dP dD h0 n0 _ T22.heap _
      rw [e22]
      exact ⟨rfl, N20, rfl⟩
  · obtain ⟨T24, X24, e24, st24⟩ := getS2 X0 hx hZ hown (host := "") (Or.inl (hw _ (List.mem_of_getElem? (i := 3) rfl))) Via.refl e0 SD (g := (mkF m 22 #[.val (.int p1), .val (.int (0 : Int32)), .unset, .unset, .unset, .unset, .unset, .unset] [])) rfl (hb hby at_22)
    obtain ⟨T25, X25, e25, st25⟩ := getS2 X24 hx hZ hown (host := "") (Or.inl (hw _ (List.mem_of_getElem? (i := 0) rfl))) Via.refl e24 SP (g := (mkF m 36 #[.val (.int p1), .val (.int (0 : Int32)), .val (.ref wD), .unset, .unset, .unset, .unset, .unset] [])) rfl (hb hby at_36)
    obtain ⟨cq26, kq26, q26a, q26b, q26c⟩ := isOf hZ e25 ED
    obtain ⟨_, _, ⟨T26, L26, k26, n26⟩, -, X26, ⟨Lc26, hQ26, l26, y26, z26⟩, st26⟩ := X25.virtualBack hx (y := (⟨"com/example/idem/idem/Effect", "opposite", "()Lcom/example/idem/idem/Effect;"⟩ : MethodName)) (z := (⟨"com/example/idem/idem/Effect", "opposite", "()Lcom/example/idem/idem/Effect;"⟩ : MethodName)) hown (mvT hZ (hw _ (List.mem_of_getElem? (i := 5) rfl))) (mvT hZ (hw _ (List.mem_of_getElem? (i := 6) rfl))) (notFace_of_selects (args := #[]) (mvT hZ (hw _ (List.mem_of_getElem? (i := 8) rfl)))) (mvT hZ (hw _ (List.mem_of_getElem? (i := 8) rfl))) (mvT hZ (hw _ (List.mem_of_getElem? (i := 7) rfl))) (by decide) (backOf (W := 0) (rm1b l Z a0 hw [] wD wP h0 n0 Z0 SP (Ne.symm hne)) hZ (hw _ (List.mem_of_getElem? (i := 9) rfl)) (hw _ (List.mem_of_getElem? (i := 1) rfl)) (by decide) (by decide)) q26a q26c (g := (mkF m 41 #[.val (.int p1), .val (.int (0 : Int32)), .val (.ref wD), .val (.ref wP), .unset, .unset, .unset, .unset] [(.ref wD)])) rfl (by rw [hml]; rfl) (Steps.refl _) (argsL := []) (rest := []) (lenOf pd_0 rfl) rfl (by show 2 * 0 + _ ≤ _; exact Nat.le_of_eq rfl) (hb hby at_41) (fun _ _ => ⟨rfl, e25, (by decide : 0 + 0 ≤ _), (by decide : 0 + 0 ≤ _)⟩)
    dsimp only [Pt.U, Pt.locs, Pt.cells, Pt.slots] at X26 l26 y26 z26 st26 hQ26
    subst l26 y26 z26
    obtain ⟨rfl, N26q, e26⟩ := hQ26
    have N26 := Fr.app N0 N26q
    obtain ⟨cq27, kq27, q27a, q27b, q27c⟩ := isOf hZ e26 EP
    obtain ⟨_, _, ⟨T27, L27, k27, n27⟩, -, X27, ⟨Lc27, hQ27, l27, y27, z27⟩, st27⟩ := X26.virtualBack hx (y := (⟨"com/example/idem/idem/Effect", "opposite", "()Lcom/example/idem/idem/Effect;"⟩ : MethodName)) (z := (⟨"com/example/idem/idem/Effect", "opposite", "()Lcom/example/idem/idem/Effect;"⟩ : MethodName)) hown (mvT hZ (hw _ (List.mem_of_getElem? (i := 5) rfl))) (mvT hZ (hw _ (List.mem_of_getElem? (i := 6) rfl))) (notFace_of_selects (args := #[]) (mvT hZ (hw _ (List.mem_of_getElem? (i := 8) rfl)))) (mvT hZ (hw _ (List.mem_of_getElem? (i := 8) rfl))) (mvT hZ (hw _ (List.mem_of_getElem? (i := 7) rfl))) (by decide) (backOf (W := 0) (rm1a l Z a0 hw [] wP wD h0 n0 Z0 SP SD) hZ (hw _ (List.mem_of_getElem? (i := 9) rfl)) (hw _ (List.mem_of_getElem? (i := 1) rfl)) (by decide) (by decide)) q27a q27c (g := (mkF m 71 #[.val (.int p1), .val (.int (0 : Int32)), .val (.ref wD), .val (.ref wP), .val (.ref wP), .unset, .unset, .unset] [(.ref wP)])) rfl (by rw [hml]; rfl) (Steps.refl _) (argsL := []) (rest := []) (lenOf pd_0 rfl) rfl (by show 2 * 0 + _ ≤ _; exact Nat.le_of_eq rfl) (hb hby at_71) (fun _ _ => ⟨rfl, e26, (by decide : 0 + 0 ≤ _), (by decide : 0 + 0 ≤ _)⟩)
    dsimp only [Pt.U, Pt.locs, Pt.cells, Pt.slots] at X27 l27 y27 z27 st27 hQ27
    subst l27 y27 z27
    obtain ⟨rfl, N27q, e27⟩ := hQ27
    have N27 := Fr.app N26 N27q
    obtain ⟨cq28, kq28, q28a, q28b, q28c⟩ := isOf hZ e27 ED
    obtain ⟨_, _, ⟨T28, L28, k28, n28⟩, -, X28, ⟨Lc28, hQ28, l28, y28, z28⟩, st28⟩ := X27.virtualBack hx (y := (⟨"com/example/idem/idem/Effect", "result", "()Lcom/example/idem/idem/Result;"⟩ : MethodName)) (z := (⟨"com/example/idem/idem/Effect", "result", "()Lcom/example/idem/idem/Result;"⟩ : MethodName)) hown (mvT hZ (hw _ (List.mem_of_getElem? (i := 12) rfl))) (mvT hZ (hw _ (List.mem_of_getElem? (i := 13) rfl))) (notFace_of_selects (args := #[]) (mvT hZ (hw _ (List.mem_of_getElem? (i := 15) rfl)))) (mvT hZ (hw _ (List.mem_of_getElem? (i := 15) rfl))) (mvT hZ (hw _ (List.mem_of_getElem? (i := 14) rfl))) (by decide) (backOf (W := 0) (rm2 l Z a0 hw [] wD rD h0 n0 Z0 RD) hZ (hw _ (List.mem_of_getElem? (i := 16) rfl)) (hw _ (List.mem_of_getElem? (i := 1) rfl)) (by decide) (by decide)) q28a q28c (g := (mkF m 85 #[.val (.int p1), .val (.int (0 : Int32)), .val (.ref wD), .val (.ref wP), .val (.ref wP), .val (.ref wD), .unset, .unset] [(.ref wD)])) rfl (by rw [hml]; rfl) (Steps.refl _) (argsL := []) (rest := []) (lenOf pd_1 rfl) rfl (by show 2 * 0 + _ ≤ _; exact Nat.le_of_eq rfl) (hb hby at_85) (fun _ _ => ⟨rfl, e27, (by decide : 0 + 0 ≤ _), (by decide : 0 + 0 ≤ _)⟩)
    dsimp only [Pt.U, Pt.locs, Pt.cells, Pt.slots] at X28 l28 y28 z28 st28 hQ28
    subst l28 y28 z28
    obtain ⟨rfl, N28q, e28⟩ := hQ28
    have N28 := Fr.app N27 N28q
    obtain ⟨cq29, kq29, q29a, q29b, q29c⟩ := isOf hZ e28 GD
    obtain ⟨_, _, ⟨T29, L29, k29, n29⟩, -, X29, ⟨Lc29, hQ29, l29, y29, z29⟩, st29⟩ := X28.virtualBack hx (y := (⟨"com/example/idem/idem/Result", "decision", "()Lcom/example/idem/idem/Decision;"⟩ : MethodName)) (z := (⟨"com/example/idem/idem/Result", "decision", "()Lcom/example/idem/idem/Decision;"⟩ : MethodName)) hown (mvT hZ (hw _ (List.mem_of_getElem? (i := 19) rfl))) (mvT hZ (hw _ (List.mem_of_getElem? (i := 20) rfl))) (notFace_of_selects (args := #[]) (mvT hZ (hw _ (List.mem_of_getElem? (i := 22) rfl)))) (mvT hZ (hw _ (List.mem_of_getElem? (i := 22) rfl))) (mvT hZ (hw _ (List.mem_of_getElem? (i := 21) rfl))) (by decide) (backOf (W := 0) (rm3 l Z a0 hw [] rD dD h0 n0 Z0 FD) hZ (hw _ (List.mem_of_getElem? (i := 24) rfl)) (hw _ (List.mem_of_getElem? (i := 23) rfl)) (by decide) (by decide)) q29a q29c (g := (mkF m 88 #[.val (.int p1), .val (.int (0 : Int32)), .val (.ref wD), .val (.ref wP), .val (.ref wP), .val (.ref wD), .unset, .unset] [(.ref rD)])) rfl (by rw [hml]; rfl) (Steps.refl _) (argsL := []) (rest := []) (lenOf pd_2 rfl) rfl (by show 2 * 0 + _ ≤ _; exact Nat.le_of_eq rfl) (hb hby at_88) (fun _ _ => ⟨rfl, e28, (by decide : 0 + 0 ≤ _), (by decide : 0 + 0 ≤ _)⟩)
    dsimp only [Pt.U, Pt.locs, Pt.cells, Pt.slots] at X29 l29 y29 z29 st29 hQ29
    subst l29 y29 z29
    obtain ⟨rfl, N29q, e29⟩ := hQ29
    have N29 := Fr.app N28 N29q
    obtain ⟨cq30, kq30, q30a, q30b, q30c⟩ := isOf hZ e29 EP
    obtain ⟨_, _, ⟨T30, L30, k30, n30⟩, -, X30, ⟨Lc30, hQ30, l30, y30, z30⟩, st30⟩ := X29.virtualBack hx (y := (⟨"com/example/idem/idem/Effect", "result", "()Lcom/example/idem/idem/Result;"⟩ : MethodName)) (z := (⟨"com/example/idem/idem/Effect", "result", "()Lcom/example/idem/idem/Result;"⟩ : MethodName)) hown (mvT hZ (hw _ (List.mem_of_getElem? (i := 12) rfl))) (mvT hZ (hw _ (List.mem_of_getElem? (i := 13) rfl))) (notFace_of_selects (args := #[]) (mvT hZ (hw _ (List.mem_of_getElem? (i := 15) rfl)))) (mvT hZ (hw _ (List.mem_of_getElem? (i := 15) rfl))) (mvT hZ (hw _ (List.mem_of_getElem? (i := 14) rfl))) (by decide) (backOf (W := 0) (rm2 l Z a0 hw [] wP rP h0 n0 Z0 RP) hZ (hw _ (List.mem_of_getElem? (i := 16) rfl)) (hw _ (List.mem_of_getElem? (i := 1) rfl)) (by decide) (by decide)) q30a q30c (g := (mkF m 95 #[.val (.int p1), .val (.int (0 : Int32)), .val (.ref wD), .val (.ref wP), .val (.ref wP), .val (.ref wD), .val (.ref dD), .unset] [(.ref wP)])) rfl (by rw [hml]; rfl) (Steps.refl _) (argsL := []) (rest := []) (lenOf pd_1 rfl) rfl (by show 2 * 0 + _ ≤ _; exact Nat.le_of_eq rfl) (hb hby at_95) (fun _ _ => ⟨rfl, e29, (by decide : 0 + 0 ≤ _), (by decide : 0 + 0 ≤ _)⟩)
    dsimp only [Pt.U, Pt.locs, Pt.cells, Pt.slots] at X30 l30 y30 z30 st30 hQ30
    subst l30 y30 z30
    obtain ⟨rfl, N30q, e30⟩ := hQ30
    have N30 := Fr.app N29 N30q
    obtain ⟨cq31, kq31, q31a, q31b, q31c⟩ := isOf hZ e30 GP
    obtain ⟨_, _, ⟨T31, L31, k31, n31⟩, -, X31, ⟨Lc31, hQ31, l31, y31, z31⟩, st31⟩ := X30.virtualBack hx (y := (⟨"com/example/idem/idem/Result", "decision", "()Lcom/example/idem/idem/Decision;"⟩ : MethodName)) (z := (⟨"com/example/idem/idem/Result", "decision", "()Lcom/example/idem/idem/Decision;"⟩ : MethodName)) hown (mvT hZ (hw _ (List.mem_of_getElem? (i := 19) rfl))) (mvT hZ (hw _ (List.mem_of_getElem? (i := 20) rfl))) (notFace_of_selects (args := #[]) (mvT hZ (hw _ (List.mem_of_getElem? (i := 22) rfl)))) (mvT hZ (hw _ (List.mem_of_getElem? (i := 22) rfl))) (mvT hZ (hw _ (List.mem_of_getElem? (i := 21) rfl))) (by decide) (backOf (W := 0) (rm3 l Z a0 hw [] rP dP h0 n0 Z0 FP) hZ (hw _ (List.mem_of_getElem? (i := 24) rfl)) (hw _ (List.mem_of_getElem? (i := 23) rfl)) (by decide) (by decide)) q31a q31c (g := (mkF m 98 #[.val (.int p1), .val (.int (0 : Int32)), .val (.ref wD), .val (.ref wP), .val (.ref wP), .val (.ref wD), .val (.ref dD), .unset] [(.ref rP)])) rfl (by rw [hml]; rfl) (Steps.refl _) (argsL := []) (rest := []) (lenOf pd_2 rfl) rfl (by show 2 * 0 + _ ≤ _; exact Nat.le_of_eq rfl) (hb hby at_98) (fun _ _ => ⟨rfl, e30, (by decide : 0 + 0 ≤ _), (by decide : 0 + 0 ≤ _)⟩)
    dsimp only [Pt.U, Pt.locs, Pt.cells, Pt.slots] at X31 l31 y31 z31 st31 hQ31
    subst l31 y31 z31
    obtain ⟨rfl, N31q, e31⟩ := hQ31
    have N31 := Fr.app N30 N31q
    obtain ⟨T32, X32, e32, st32⟩ := getS2 X31 hx hZ hown (host := "") (Or.inl (hw _ (List.mem_of_getElem? (i := 30) rfl))) Via.refl e31 TP (g := (mkF m 105 #[.val (.int p1), .val (.int (0 : Int32)), .val (.ref wD), .val (.ref wP), .val (.ref wP), .val (.ref wD), .val (.ref dD), .val (.ref dP)] [(.ref dD)])) rfl (hb hby at_105)
    obtain ⟨T33, X33, e33, st33⟩ := getS2 X32 hx hZ hown (host := "") (Or.inl (hw _ (List.mem_of_getElem? (i := 31) rfl))) Via.refl e32 TD (g := (mkF m 121 #[.val (.int p1), .val (.int (0 : Int32)), .val (.ref wD), .val (.ref wP), .val (.ref wP), .val (.ref wD), .val (.ref dD), .val (.ref dP)] [(.ref dD)])) rfl (hb hby at_121)
    obtain ⟨T34, X34, e34, st34⟩ := getS2 X33 hx hZ hown (host := "") (Or.inl (hw _ (List.mem_of_getElem? (i := 30) rfl))) Via.refl e33 TP (g := (mkF m 129 #[.val (.int p1), .val (.int (0 : Int32)), .val (.ref wD), .val (.ref wP), .val (.ref wP), .val (.ref wD), .val (.ref dD), .val (.ref dP)] [(.ref dP)])) rfl (hb hby at_129)
    have pre35 : ∀ t, Steps p.tables e below (T34.setTop (mkF m 140 #[.val (.int p1), .val (.int (0 : Int32)), .val (.ref wD), .val (.ref wP), .val (.ref wP), .val (.ref wD), .val (.ref dD), .val (.ref dP)] [(.int (1 : Int32))])) t → Steps p.tables e below (s₁.setTop (entryFrame m #[(.int p1)] maxLocals)) t := by
      intro t kt
      refine pre11 _ ?_
      show Steps p.tables e below (s₁.setTop (mkF m 3 #[.val (.int p1), .unset, .unset, .unset, .unset, .unset, .unset, .unset] [(.int (p1 &&& (1 : Int32)))])) _
      refine XS.ifYes X0.here hx rfl (pc0 := 3) (pc' := 10) rfl (hb hby at_3) rfl ((if0 _ _).trans (feq hc3_12).2) (by decide) (by decide) ?_
      show Steps p.tables e below (s₁.setTop (mkF m 10 #[.val (.int p1), .unset, .unset, .unset, .unset, .unset, .unset, .unset] [])) _
      refine XS.iconst X0.here hx rfl (hb hby at_10) ?_
      show Steps p.tables e below (s₁.setTop (mkF m 11 #[.val (.int p1), .unset, .unset, .unset, .unset, .unset, .unset, .unset] [(.int (0 : Int32))])) _
      refine XS.istoreN X0.here hx rfl (hb hby at_11) rfl (l' := #[.val (.int p1), .val (.int (0 : Int32)), .unset, .unset, .unset, .unset, .unset, .unset]) rfl ?_
      show Steps p.tables e below (s₁.setTop (mkF m 12 #[.val (.int p1), .val (.int (0 : Int32)), .unset, .unset, .unset, .unset, .unset, .unset] [])) _
      refine XS.iloadN X0.here hx rfl (hb hby at_12) rfl ?_
      show Steps p.tables e below (s₁.setTop (mkF m 13 #[.val (.int p1), .val (.int (0 : Int32)), .unset, .unset, .unset, .unset, .unset, .unset] [(.int (0 : Int32))])) _
      refine XS.ifYes X0.here hx rfl (pc0 := 13) (pc' := 22) rfl (hb hby at_13) rfl ((if0 _ _).trans (teq (by decide : (0 : Int32) = (0 : Int32))).1) (by decide) (by decide) ?_
      show Steps p.tables e below (s₁.setTop (mkF m 22 #[.val (.int p1), .val (.int (0 : Int32)), .unset, .unset, .unset, .unset, .unset, .unset] [])) _
      refine st24 _ ?_
      show Steps p.tables e below (T24.setTop (mkF m 25 #[.val (.int p1), .val (.int (0 : Int32)), .unset, .unset, .unset, .unset, .unset, .unset] [(.ref wD)])) _
      refine XS.astoreN X24.here hx rfl (hb hby at_25) rfl rfl (l' := #[.val (.int p1), .val (.int (0 : Int32)), .val (.ref wD), .unset, .unset, .unset, .unset, .unset]) rfl ?_
      show Steps p.tables e below (T24.setTop (mkF m 26 #[.val (.int p1), .val (.int (0 : Int32)), .val (.ref wD), .unset, .unset, .unset, .unset, .unset] [])) _
      refine XS.iloadN X24.here hx rfl (hb hby at_26) rfl ?_
      show Steps p.tables e below (T24.setTop (mkF m 27 #[.val (.int p1), .val (.int (0 : Int32)), .val (.ref wD), .unset, .unset, .unset, .unset, .unset] [(.int (0 : Int32))])) _
      refine XS.ifYes X24.here hx rfl (pc0 := 27) (pc' := 36) rfl (hb hby at_27) rfl ((if0 _ _).trans (teq (by decide : (0 : Int32) = (0 : Int32))).1) (by decide) (by decide) ?_
      show Steps p.tables e below (T24.setTop (mkF m 36 #[.val (.int p1), .val (.int (0 : Int32)), .val (.ref wD), .unset, .unset, .unset, .unset, .unset] [])) _
      refine st25 _ ?_
      show Steps p.tables e below (T25.setTop (mkF m 39 #[.val (.int p1), .val (.int (0 : Int32)), .val (.ref wD), .unset, .unset, .unset, .unset, .unset] [(.ref wP)])) _
      refine XS.astoreN X25.here hx rfl (hb hby at_39) rfl rfl (l' := #[.val (.int p1), .val (.int (0 : Int32)), .val (.ref wD), .val (.ref wP), .unset, .unset, .unset, .unset]) rfl ?_
      show Steps p.tables e below (T25.setTop (mkF m 40 #[.val (.int p1), .val (.int (0 : Int32)), .val (.ref wD), .val (.ref wP), .unset, .unset, .unset, .unset] [])) _
      refine XS.aloadN X25.here hx rfl (hb hby at_40) rfl rfl ?_
      show Steps p.tables e below (T25.setTop (mkF m 41 #[.val (.int p1), .val (.int (0 : Int32)), .val (.ref wD), .val (.ref wP), .unset, .unset, .unset, .unset] [(.ref wD)])) _
      refine st26.trans ?_
      show Steps p.tables e below (T26.setTop (mkF m 44 #[.val (.int p1), .val (.int (0 : Int32)), .val (.ref wD), .val (.ref wP), .unset, .unset, .unset, .unset] [(.ref wP)])) _
      refine XS.astore X26.here hx rfl (hb hby at_44) rfl rfl (l' := #[.val (.int p1), .val (.int (0 : Int32)), .val (.ref wD), .val (.ref wP), .val (.ref wP), .unset, .unset, .unset]) rfl ?_
      show Steps p.tables e below (T26.setTop (mkF m 46 #[.val (.int p1), .val (.int (0 : Int32)), .val (.ref wD), .val (.ref wP), .val (.ref wP), .unset, .unset, .unset] [])) _
      refine XS.aload X26.here hx rfl (hb hby at_46) rfl rfl ?_
      show Steps p.tables e below (T26.setTop (mkF m 48 #[.val (.int p1), .val (.int (0 : Int32)), .val (.ref wD), .val (.ref wP), .val (.ref wP), .unset, .unset, .unset] [(.ref wP)])) _
      refine XS.ifnonnullYes X26.here hx rfl (pc0 := 48) (pc' := 53) rfl (hb hby at_48) rfl (by decide) (by decide) ?_
      show Steps p.tables e below (T26.setTop (mkF m 53 #[.val (.int p1), .val (.int (0 : Int32)), .val (.ref wD), .val (.ref wP), .val (.ref wP), .unset, .unset, .unset] [])) _
      refine XS.aload X26.here hx rfl (hb hby at_53) rfl rfl ?_
      show Steps p.tables e below (T26.setTop (mkF m 55 #[.val (.int p1), .val (.int (0 : Int32)), .val (.ref wD), .val (.ref wP), .val (.ref wP), .unset, .unset, .unset] [(.ref wP)])) _
      refine XS.aloadN X26.here hx rfl (hb hby at_55) rfl rfl ?_
      show Steps p.tables e below (T26.setTop (mkF m 56 #[.val (.int p1), .val (.int (0 : Int32)), .val (.ref wD), .val (.ref wP), .val (.ref wP), .unset, .unset, .unset] [(.ref wP), (.ref wP)])) _
      refine Jvm.RoadKit.acmp (g := (mkF m 56 #[.val (.int p1), .val (.int (0 : Int32)), .val (.ref wD), .val (.ref wP), .val (.ref wP), .unset, .unset, .unset] [(.ref wP), (.ref wP)])) X26 hx rfl rfl rfl (pc0 := 56) (pc' := 61) (same := true) rfl (hb hby at_56) rfl (decide_eq_true rfl) (by decide) (by decide) ?_
      show Steps p.tables e below (T26.setTop (mkF m 61 #[.val (.int p1), .val (.int (0 : Int32)), .val (.ref wD), .val (.ref wP), .val (.ref wP), .unset, .unset, .unset] [])) _
      refine XS.aload X26.here hx rfl (hb hby at_61) rfl rfl ?_
      show Steps p.tables e below (T26.setTop (mkF m 63 #[.val (.int p1), .val (.int (0 : Int32)), .val (.ref wD), .val (.ref wP), .val (.ref wP), .unset, .unset, .unset] [(.ref wP)])) _
      refine XS.aloadN X26.here hx rfl (hb hby at_63) rfl rfl ?_
      show Steps p.tables e below (T26.setTop (mkF m 64 #[.val (.int p1), .val (.int (0 : Int32)), .val (.ref wD), .val (.ref wP), .val (.ref wP), .unset, .unset, .unset] [(.ref wD), (.ref wP)])) _
      refine Jvm.RoadKit.acmp (g := (mkF m 64 #[.val (.int p1), .val (.int (0 : Int32)), .val (.ref wD), .val (.ref wP), .val (.ref wP), .unset, .unset, .unset] [(.ref wD), (.ref wP)])) X26 hx rfl rfl rfl (pc0 := 64) (pc' := 69) (same := false) rfl (hb hby at_64) rfl (decide_eq_false fun q => hne (Value.ref.inj q)) (by decide) (by decide) ?_
      show Steps p.tables e below (T26.setTop (mkF m 69 #[.val (.int p1), .val (.int (0 : Int32)), .val (.ref wD), .val (.ref wP), .val (.ref wP), .unset, .unset, .unset] [])) _
      refine XS.aload X26.here hx rfl (hb hby at_69) rfl rfl ?_
      show Steps p.tables e below (T26.setTop (mkF m 71 #[.val (.int p1), .val (.int (0 : Int32)), .val (.ref wD), .val (.ref wP), .val (.ref wP), .unset, .unset, .unset] [(.ref wP)])) _
      refine st27.trans ?_
      show Steps p.tables e below (T27.setTop (mkF m 74 #[.val (.int p1), .val (.int (0 : Int32)), .val (.ref wD), .val (.ref wP), .val (.ref wP), .unset, .unset, .unset] [(.ref wD)])) _
      refine XS.astore X27.here hx rfl (hb hby at_74) rfl rfl (l' := #[.val (.int p1), .val (.int (0 : Int32)), .val (.ref wD), .val (.ref wP), .val (.ref wP), .val (.ref wD), .unset, .unset]) rfl ?_
      show Steps p.tables e below (T27.setTop (mkF m 76 #[.val (.int p1), .val (.int (0 : Int32)), .val (.ref wD), .val (.ref wP), .val (.ref wP), .val (.ref wD), .unset, .unset] [])) _
      refine XS.aload X27.here hx rfl (hb hby at_76) rfl rfl ?_
      show Steps p.tables e below (T27.setTop (mkF m 78 #[.val (.int p1), .val (.int (0 : Int32)), .val (.ref wD), .val (.ref wP), .val (.ref wP), .val (.ref wD), .unset, .unset] [(.ref wD)])) _
      refine XS.aloadN X27.here hx rfl (hb hby at_78) rfl rfl ?_
      show Steps p.tables e below (T27.setTop (mkF m 79 #[.val (.int p1), .val (.int (0 : Int32)), .val (.ref wD), .val (.ref wP), .val (.ref wP), .val (.ref wD), .unset, .unset] [(.ref wD), (.ref wD)])) _
      refine Jvm.RoadKit.acmp (g := (mkF m 79 #[.val (.int p1), .val (.int (0 : Int32)), .val (.ref wD), .val (.ref wP), .val (.ref wP), .val (.ref wD), .unset, .unset] [(.ref wD), (.ref wD)])) X27 hx rfl rfl rfl (pc0 := 79) (pc' := 84) (same := true) rfl (hb hby at_79) rfl (decide_eq_true rfl) (by decide) (by decide) ?_
      show Steps p.tables e below (T27.setTop (mkF m 84 #[.val (.int p1), .val (.int (0 : Int32)), .val (.ref wD), .val (.ref wP), .val (.ref wP), .val (.ref wD), .unset, .unset] [])) _
      refine XS.aloadN X27.here hx rfl (hb hby at_84) rfl rfl ?_
      show Steps p.tables e below (T27.setTop (mkF m 85 #[.val (.int p1), .val (.int (0 : Int32)), .val (.ref wD), .val (.ref wP), .val (.ref wP), .val (.ref wD), .unset, .unset] [(.ref wD)])) _
      refine st28.trans ?_
      show Steps p.tables e below (T28.setTop (mkF m 88 #[.val (.int p1), .val (.int (0 : Int32)), .val (.ref wD), .val (.ref wP), .val (.ref wP), .val (.ref wD), .unset, .unset] [(.ref rD)])) _
      refine st29.trans ?_
      show Steps p.tables e below (T29.setTop (mkF m 91 #[.val (.int p1), .val (.int (0 : Int32)), .val (.ref wD), .val (.ref wP), .val (.ref wP), .val (.ref wD), .unset, .unset] [(.ref dD)])) _
      refine XS.astore X29.here hx rfl (hb hby at_91) rfl rfl (l' := #[.val (.int p1), .val (.int (0 : Int32)), .val (.ref wD), .val (.ref wP), .val (.ref wP), .val (.ref wD), .val (.ref dD), .unset]) rfl ?_
      show Steps p.tables e below (T29.setTop (mkF m 93 #[.val (.int p1), .val (.int (0 : Int32)), .val (.ref wD), .val (.ref wP), .val (.ref wP), .val (.ref wD), .val (.ref dD), .unset] [])) _
      refine XS.aload X29.here hx rfl (hb hby at_93) rfl rfl ?_
      show Steps p.tables e below (T29.setTop (mkF m 95 #[.val (.int p1), .val (.int (0 : Int32)), .val (.ref wD), .val (.ref wP), .val (.ref wP), .val (.ref wD), .val (.ref dD), .unset] [(.ref wP)])) _
      refine st30.trans ?_
      show Steps p.tables e below (T30.setTop (mkF m 98 #[.val (.int p1), .val (.int (0 : Int32)), .val (.ref wD), .val (.ref wP), .val (.ref wP), .val (.ref wD), .val (.ref dD), .unset] [(.ref rP)])) _
      refine st31.trans ?_
      show Steps p.tables e below (T31.setTop (mkF m 101 #[.val (.int p1), .val (.int (0 : Int32)), .val (.ref wD), .val (.ref wP), .val (.ref wP), .val (.ref wD), .val (.ref dD), .unset] [(.ref dP)])) _
      refine XS.astore X31.here hx rfl (hb hby at_101) rfl rfl (l' := #[.val (.int p1), .val (.int (0 : Int32)), .val (.ref wD), .val (.ref wP), .val (.ref wP), .val (.ref wD), .val (.ref dD), .val (.ref dP)]) rfl ?_
      show Steps p.tables e below (T31.setTop (mkF m 103 #[.val (.int p1), .val (.int (0 : Int32)), .val (.ref wD), .val (.ref wP), .val (.ref wP), .val (.ref wD), .val (.ref dD), .val (.ref dP)] [])) _
      refine XS.aload X31.here hx rfl (hb hby at_103) rfl rfl ?_
      show Steps p.tables e below (T31.setTop (mkF m 105 #[.val (.int p1), .val (.int (0 : Int32)), .val (.ref wD), .val (.ref wP), .val (.ref wP), .val (.ref wD), .val (.ref dD), .val (.ref dP)] [(.ref dD)])) _
      refine st32 _ ?_
      show Steps p.tables e below (T32.setTop (mkF m 108 #[.val (.int p1), .val (.int (0 : Int32)), .val (.ref wD), .val (.ref wP), .val (.ref wP), .val (.ref wD), .val (.ref dD), .val (.ref dP)] [(.ref dP), (.ref dD)])) _
      refine Jvm.RoadKit.acmp (g := (mkF m 108 #[.val (.int p1), .val (.int (0 : Int32)), .val (.ref wD), .val (.ref wP), .val (.ref wP), .val (.ref wD), .val (.ref dD), .val (.ref dP)] [(.ref dP), (.ref dD)])) X32 hx rfl rfl rfl (pc0 := 108) (pc' := 119) (same := false) rfl (hb hby at_108) rfl (decide_eq_false fun q => (Ne.symm hnd) (Value.ref.inj q)) (by decide) (by decide) ?_
      show Steps p.tables e below (T32.setTop (mkF m 119 #[.val (.int p1), .val (.int (0 : Int32)), .val (.ref wD), .val (.ref wP), .val (.ref wP), .val (.ref wD), .val (.ref dD), .val (.ref dP)] [])) _
      refine XS.aload X32.here hx rfl (hb hby at_119) rfl rfl ?_
      show Steps p.tables e below (T32.setTop (mkF m 121 #[.val (.int p1), .val (.int (0 : Int32)), .val (.ref wD), .val (.ref wP), .val (.ref wP), .val (.ref wD), .val (.ref dD), .val (.ref dP)] [(.ref dD)])) _
      refine st33 _ ?_
      show Steps p.tables e below (T33.setTop (mkF m 124 #[.val (.int p1), .val (.int (0 : Int32)), .val (.ref wD), .val (.ref wP), .val (.ref wP), .val (.ref wD), .val (.ref dD), .val (.ref dP)] [(.ref dD), (.ref dD)])) _
      refine Jvm.RoadKit.acmp (g := (mkF m 124 #[.val (.int p1), .val (.int (0 : Int32)), .val (.ref wD), .val (.ref wP), .val (.ref wP), .val (.ref wD), .val (.ref dD), .val (.ref dP)] [(.ref dD), (.ref dD)])) X33 hx rfl rfl rfl (pc0 := 124) (pc' := 127) (same := true) rfl (hb hby at_124) rfl (decide_eq_true rfl) (by decide) (by decide) ?_
      show Steps p.tables e below (T33.setTop (mkF m 127 #[.val (.int p1), .val (.int (0 : Int32)), .val (.ref wD), .val (.ref wP), .val (.ref wP), .val (.ref wD), .val (.ref dD), .val (.ref dP)] [])) _
      refine XS.aload X33.here hx rfl (hb hby at_127) rfl rfl ?_
      show Steps p.tables e below (T33.setTop (mkF m 129 #[.val (.int p1), .val (.int (0 : Int32)), .val (.ref wD), .val (.ref wP), .val (.ref wP), .val (.ref wD), .val (.ref dD), .val (.ref dP)] [(.ref dP)])) _
      refine st34 _ ?_
      show Steps p.tables e below (T34.setTop (mkF m 132 #[.val (.int p1), .val (.int (0 : Int32)), .val (.ref wD), .val (.ref wP), .val (.ref wP), .val (.ref wD), .val (.ref dD), .val (.ref dP)] [(.ref dP), (.ref dP)])) _
      refine Jvm.RoadKit.acmp (g := (mkF m 132 #[.val (.int p1), .val (.int (0 : Int32)), .val (.ref wD), .val (.ref wP), .val (.ref wP), .val (.ref wD), .val (.ref dD), .val (.ref dP)] [(.ref dP), (.ref dP)])) X34 hx rfl rfl rfl (pc0 := 132) (pc' := 135) (same := true) rfl (hb hby at_132) rfl (decide_eq_true rfl) (by decide) (by decide) ?_
      show Steps p.tables e below (T34.setTop (mkF m 135 #[.val (.int p1), .val (.int (0 : Int32)), .val (.ref wD), .val (.ref wP), .val (.ref wP), .val (.ref wD), .val (.ref dD), .val (.ref dP)] [])) _
      refine XS.iconst X34.here hx rfl (hb hby at_135) ?_
      show Steps p.tables e below (T34.setTop (mkF m 136 #[.val (.int p1), .val (.int (0 : Int32)), .val (.ref wD), .val (.ref wP), .val (.ref wP), .val (.ref wD), .val (.ref dD), .val (.ref dP)] [(.int (1 : Int32))])) _
      refine XS.goto X34.here hx rfl (pc0 := 136) (pc' := 140) rfl (hb hby at_136) (by decide) (by decide) ?_
      exact kt
    obtain ⟨fs, hr, hrun, hended, hW, hsame⟩ := X34.leave (v := some (.int (1 : Int32))) (fun h => by rw [Bd.returns] at h; cases h)
    refine ⟨_, _, pre35 _ ?_, hrun, hended, _, _, rfl, ?_, ⟨_, rfl⟩, hW, hsame.mono (by decide) (by decide)⟩
    · show Steps p.tables e below (T34.setTop (mkF m 140 #[.val (.int p1), .val (.int (0 : Int32)), .val (.ref wD), .val (.ref wP), .val (.ref wP), .val (.ref wD), .val (.ref dD), .val (.ref dP)] [(.int (1 : Int32))])) _
      exact retN X34 hx (t := .boolean) Bd.returns (by simp) (hb hby at_140) hr
    · show Q0 Z p1 wP wD rP rD dP dD h0 n0 _ T34.heap _
      rw [e34]
      exact ⟨rfl, N31, rfl⟩
set_option maxRecDepth 65536 in
set_option maxHeartbeats 40000000 in
theorem comes_1 {Post : Tables → Env → Array Value → State → Outcome → State → Prop} (hpost : ∀ tb e args s v u, (limb_1_1.after args s (.returned v) u = true ∧ limb_1_2.after args s (.returned v) u = true ∧ True) → FrameEnd s (.returned v) u (Jvm.fieldLocs frame_1_writes args s ++ Jvm.arrayLocs frame_1_arrays args s ++ Jvm.staticLocs frame_1_statics s) 0 0 → Post tb e args s (.returned v) u) :
    ArmFor flags0 classFile x code maxLocals ret World_1 tables_1 room_1 Calls_1 rest_1 Pre_1 Post := by
  intro l hfl _ _ p e ha hc hk s m args below hf hA hF happ hP
  obtain ⟨hcalls, hrest, hpre⟩ := hP
  obtain ⟨-, -, -, hnamed, -, -, -, hat⟩ := (Spec.applies_iff hf).mp happ
  obtain ⟨hg, hn⟩ := and_e (Cond.before_iff.mp (show (Jvm.Cond.and given_1 narrow_1).before args s = true from hpre))
  obtain ⟨gc, gr0⟩ := and_e hg
  obtain ⟨w0, rfl⟩ : ∃ w0 : Value, args = #[w0] := by
    have hs : args.size = 1 := by simpa [Cond.value, given_1] using gc
    obtain ⟨L⟩ := args
    match L, hs with
    | [w0], _ => exact ⟨w0, rfl⟩
  have hw := fun d (hd : d ∈ tables_1) => atoms_spec (ws := Jvm.Cond.code x code maxLocals ret :: tables_1) hat d (List.mem_cons_of_mem _ hd)
  have hfit : Fit s := fun {y c} hc i hi => by
    obtain ⟨ha, rfl⟩ := Array.getElem?_eq_some_iff.mp hc
    have q := List.all_eq_true.mp ((Array.all_eq_true_iff_forall_mem.mp hF) _ (Array.getElem_mem ha)) i (List.mem_range.mpr hi)
    simpa [Array.getElem?_eq_getElem hi] using q
  obtain ⟨i0, ei0⟩ := is_v gr0
  obtain rfl : w0 = (.int i0) := Option.some.inj ei0
  obtain ⟨nn0, nnr0⟩ := and_e hn
  obtain ⟨nn1, nnr1⟩ := and_e nnr0
  obtain ⟨nn2, nnr2⟩ := and_e nnr1
  obtain ⟨nn3, nnr3⟩ := and_e nnr2
  obtain ⟨nn4, nnr4⟩ := and_e nnr3
  obtain ⟨nn5, nnr5⟩ := and_e nnr4
  obtain ⟨nn6, nnr6⟩ := and_e nnr5
  obtain ⟨nn7, nnr7⟩ := and_e nnr6
  obtain ⟨nn8, nnr8⟩ := and_e nnr7
  obtain ⟨nn9, nnr9⟩ := and_e nnr8
  obtain ⟨nn10, nnr10⟩ := and_e nnr9
  have nn11 := nnr10
  obtain ⟨wP, evP⟩ := exa_v nn0
  obtain ⟨wD, evD⟩ := exa_v nn1
  obtain ⟨rP, evrP⟩ := exa_v nn4
  obtain ⟨dP, evdP⟩ := exa_v nn5
  obtain ⟨rD, evrD⟩ := exa_v nn7
  obtain ⟨dD, evdD⟩ := exa_v nn8
  have SP := Sta.start evP (Or.inr ⟨(hw _ (List.mem_of_getElem? (i := 1) rfl)), (hw _ (List.mem_of_getElem? (i := 2) rfl))⟩)
  have SD := Sta.start evD (Or.inr ⟨(hw _ (List.mem_of_getElem? (i := 1) rfl)), (hw _ (List.mem_of_getElem? (i := 4) rfl))⟩)
  have TP := Sta.start evdP (Or.inr ⟨(hw _ (List.mem_of_getElem? (i := 27) rfl)), (hw _ (List.mem_of_getElem? (i := 28) rfl))⟩)
  have TD := Sta.start evdD (Or.inr ⟨(hw _ (List.mem_of_getElem? (i := 27) rfl)), (hw _ (List.mem_of_getElem? (i := 29) rfl))⟩)
  have EP := Exa.start evP nn0
  have ED := Exa.start evD nn1
  have GP := Exa.start evrP nn4
  have GD := Exa.start evrD nn7
  have RP := own_fldX evP evrP
  have RD := own_fldX evD evrD
  have FP := own_fldR evrP evdP nn6
  have FD := own_fldR evrD evdD nn9
  have hne : wP ≠ wD := Fld.ne (own_fldI evP nn3) (own_fldI evD nn2) (by decide)
  have hnd : dP ≠ dD := Fld.ne (own_fldI evdP nn11) (own_fldI evdD nn10) (by decide)
  obtain ⟨n, o, h1, h2, h3, _, L, rfl, ⟨rfl, N, -⟩, hq⟩ := rm0 l s _ hw tables_1 i0 wP wD rP rD dP dD s.heap s.heap.size (Nat.le_refl _) SP SD TP TD EP ED GP GD RP RD FP FD hne hnd p e ha hc hk s m _ below hf ((Spec.applies_iff_loose hf).mp happ).1 ⟨rfl, State.Warmed39.refl s, rfl⟩ trivial
  refine ⟨n, _, h1, h2, h3, hpost _ _ _ _ _ _ ⟨Cond.after_iff.mpr rfl, Cond.after_iff.mpr (eq_i res_at (Term.int_eval (1)) rfl), trivial⟩ ⟨hq.1, hq.2.1, (hq.2.2.sift fun y hy => Or.inr (N y hy)).mono (by decide) (by decide)⟩⟩
theorem main_1_1 : Claimed_1_1 := comes_1 fun _ _ _ _ _ _ h hF => ⟨h.1, hF⟩
theorem main_1_2 : Claimed_1_2 := comes_1 fun _ _ _ _ _ _ h hF => ⟨h.2.1, hF⟩
end Jvm.Pilot.@@N@@
namespace Jvm.Pilot.@@N@@
open Jvm Jvm.ClassFile Sem Op Lib Jvm.Free Jvm.Stand Jvm.Pilot.@@N@@.Jvm.D
/-! MADE BY PROGRAM (witnessworld.py) out of the Statement's table words and the real class files: 13 classes; the members and pool entries that the words name. The judged class is class 1, her method 1. -/
namespace start1
open Jvm.ClassFile
def u (s : String) : CpInfo := .utf8 (stringToUtf16 s)
/-- a pool by its gaps: so many unusable entries, then the entry; so many at the end -/
def gap : Nat → List CpInfo → List CpInfo
  | 0, r => r
  | n + 1, r => .unusable :: gap n r
def poolList (es : List (Nat × CpInfo)) (last : Nat) : List CpInfo := es.foldr (fun e r => gap e.1 (e.2 :: r)) (gap last [])
def pool (es : List (Nat × CpInfo)) (last : Nat) : Array CpInfo := ⟨poolList es last⟩
def fileOf (pool : Array CpInfo) (this : Nat) (attrs : Array Attribute := #[]) (ms : Array MethodInfo := #[]) (fl : Nat := 33) (sup : Nat := 0) (ifs : Array Nat := #[]) (fds : Array FieldInfo := #[]) : ClassFile where
  minorVersion := 0
  majorVersion := 65
  constantPool := pool
  accessFlags := fl
  thisClass := this
  superClass := sup
  interfaces := ifs
  fields := fds
  methods := ms
  attributes := attrs
def plain (name : String) (sup : Option ClassId) : Class where
  name := name
  kind := .ordinary
  loader := none
  accessFlags := 33
  super := sup
  interfaces := #[]
  cf := none
  fields := #[]
  methods := #[]
  instanceTypes := #[]
  staticTypes := #[]
  resolved := #[]
  callSites := []
  init := .initialized
  statics := none
  mirror := none

def pool0 : Array CpInfo := pool [(5, u "<init>"), (0, u "()V"), (1, .class_ 10), (1, u "java/lang/Object")] 113

def k0m0 : Method := { name := "<init>", desc := "()V", sig := { parameters := [], returnType := none }, accessFlags := 1, code := none }
/-- java/lang/Object -/
def k0 : Class := { plain "java/lang/Object" none with
  accessFlags := 33
  interfaces := #[]
  cf := some (fileOf pool0 8 #[] #[{ accessFlags := 1, nameIndex := 5, descriptorIndex := 6, attributes := #[] }] 33 0 #[] #[])
  fields := #[]
  methods := #[k0m0]
  instanceTypes := #[]
  staticTypes := #[]
  resolved := Array.replicate 124 none
  statics := none }

def pool1 : Array CpInfo := pool [(2, .class_ 4), (1, u "java/lang/Object"), (0, u "<init>"), (0, u "()V"), (0, .fieldref 8 9), (0, .class_ 10), (0, .nameAndType 11 12), (0, u "com/example/idem/idem/Effect"), (0, u "PERMIT"), (0, u "Lcom/example/idem/idem/Effect;"), (0, .fieldref 8 14), (0, .nameAndType 15 12), (0, u "DENY"), (0, .methodref 8 17), (0, .nameAndType 18 19), (0, u "opposite"), (0, u "()Lcom/example/idem/idem/Effect;"), (0, .methodref 8 21), (0, .nameAndType 22 23), (0, u "result"), (0, u "()Lcom/example/idem/idem/Result;"), (0, .methodref 25 26), (0, .class_ 27), (0, .nameAndType 28 29), (0, u "com/example/idem/idem/Result"), (0, u "decision"), (0, u "()Lcom/example/idem/idem/Decision;"), (0, .fieldref 31 32), (0, .class_ 33), (0, .nameAndType 11 34), (0, u "com/example/idem/idem/Decision"), (0, u "Lcom/example/idem/idem/Decision;"), (0, .fieldref 31 36), (0, .nameAndType 15 34), (0, .class_ 38), (0, u "com/example/idem/idem/EffectOppositePinLaw"), (2, u "law"), (0, u "(I)Z")] 3

def k1m0 : Method := { name := "<init>", desc := "()V", sig := { parameters := [], returnType := none }, accessFlags := 1, code := none }
def k1c1 : Code := { maxStack := 2, maxLocals := 8, code := code, exceptionTable := #[], attributes := #[] }
def k1m1 : Method := { name := "law", desc := "(I)Z", sig := { parameters := [.int], returnType := some .boolean }, accessFlags := 9, code := some k1c1 }
/-- com/example/idem/idem/EffectOppositePinLaw -/
def k1 : Class := { plain "com/example/idem/idem/EffectOppositePinLaw" (some 0) with
  accessFlags := 49
  interfaces := #[]
  cf := some (fileOf pool1 37 #[] #[{ accessFlags := 1, nameIndex := 5, descriptorIndex := 6, attributes := #[] }, { accessFlags := 9, nameIndex := 41, descriptorIndex := 42, attributes := #[] }] 49 2 #[] #[])
  fields := #[]
  methods := #[k1m0, k1m1]
  instanceTypes := #[]
  staticTypes := #[]
  resolved := Array.replicate 46 none
  statics := none }

def pool2 : Array CpInfo := pool [(1, .class_ 2), (0, u "java/lang/constant/Constable"), (0, .class_ 4), (0, u "java/lang/Object")] 6

/-- java/lang/constant/Constable -/
def k2 : Class := { plain "java/lang/constant/Constable" (some 0) with
  accessFlags := 1537
  interfaces := #[]
  cf := some (fileOf pool2 1 #[] #[] 1537 3 #[] #[])
  fields := #[]
  methods := #[]
  instanceTypes := #[]
  staticTypes := #[]
  resolved := Array.replicate 11 none
  statics := none }

def pool3 : Array CpInfo := pool [(1, .class_ 2), (0, u "java/lang/Comparable"), (0, .class_ 4), (0, u "java/lang/Object")] 7

/-- java/lang/Comparable -/
def k3 : Class := { plain "java/lang/Comparable" (some 0) with
  accessFlags := 1537
  interfaces := #[]
  cf := some (fileOf pool3 1 #[] #[] 1537 3 #[] #[])
  fields := #[]
  methods := #[]
  instanceTypes := #[]
  staticTypes := #[]
  resolved := Array.replicate 12 none
  statics := none }

def pool4 : Array CpInfo := pool [(1, .class_ 2), (0, u "java/io/Serializable"), (0, .class_ 4), (0, u "java/lang/Object")] 2

/-- java/io/Serializable -/
def k4 : Class := { plain "java/io/Serializable" (some 0) with
  accessFlags := 1537
  interfaces := #[]
  cf := some (fileOf pool4 1 #[] #[] 1537 3 #[] #[])
  fields := #[]
  methods := #[]
  instanceTypes := #[]
  staticTypes := #[]
  resolved := Array.replicate 7 none
  statics := none }

def pool5 : Array CpInfo := pool [(2, .class_ 4), (1, u "java/lang/Enum"), (0, u "name"), (0, u "Ljava/lang/String;"), (2, u "ordinal"), (0, u "I"), (1, .class_ 14), (1, u "java/lang/Object"), (4, u "hash"), (86, .class_ 108), (1, u "java/lang/Enum$EnumDesc"), (2, .class_ 112), (0, u "java/lang/constant/Constable"), (0, .class_ 114), (0, u "java/lang/Comparable"), (0, .class_ 116), (0, u "java/io/Serializable")] 87

/-- java/lang/Enum -/
def k5 : Class := { plain "java/lang/Enum" (some 0) with
  accessFlags := 1057
  interfaces := #[2, 3, 4]
  cf := some (fileOf pool5 2 #[.nestMembers #[106]] #[] 1057 12 #[111, 113, 115] #[{ accessFlags := 18, nameIndex := 5, descriptorIndex := 6, attributes := #[] }, { accessFlags := 18, nameIndex := 9, descriptorIndex := 10, attributes := #[] }, { accessFlags := 2, nameIndex := 19, descriptorIndex := 10, attributes := #[] }])
  fields := #[{ name := "name", type := (.object "java/lang/String"), accessFlags := 18, slot := 0, constantValue := 0 }, { name := "ordinal", type := .int, accessFlags := 18, slot := 1, constantValue := 0 }, { name := "hash", type := .int, accessFlags := 2, slot := 2, constantValue := 0 }]
  methods := #[]
  instanceTypes := #[(.object "java/lang/String"), .int, .int]
  staticTypes := #[]
  resolved := Array.replicate 204 none
  statics := none }

def pool6 : Array CpInfo := pool [(1, .class_ 2), (0, u "com/example/idem/idem/Effect"), (0, .fieldref 1 4), (0, .nameAndType 5 6), (0, u "PERMIT"), (0, u "Lcom/example/idem/idem/Effect;"), (0, .fieldref 1 8), (0, .nameAndType 9 6), (0, u "DENY"), (2, u "$VALUES"), (0, u "[Lcom/example/idem/idem/Effect;"), (6, .class_ 22), (1, u "java/lang/Enum"), (8, u "xmlValue"), (0, u "Ljava/lang/String;"), (0, .fieldref 1 34), (0, .nameAndType 35 36), (0, u "result"), (0, u "Lcom/example/idem/idem/Result;"), (2, u "indeterminate"), (0, u "Lcom/example/idem/idem/Decision;"), (76, u "()Lcom/example/idem/idem/Result;"), (1, u "opposite"), (0, u "()Lcom/example/idem/idem/Effect;")] 5

def k6c0 : Code := { maxStack := 1, maxLocals := 1, code := prog_35_method_6_code, exceptionTable := #[], attributes := #[] }
def k6m0 : Method := { name := "result", desc := "()Lcom/example/idem/idem/Result;", sig := { parameters := [], returnType := some (.object "com/example/idem/idem/Result") }, accessFlags := 1, code := some k6c0 }
def k6c1 : Code := { maxStack := 2, maxLocals := 1, code := prog_35_method_9_code, exceptionTable := #[], attributes := #[] }
def k6m1 : Method := { name := "opposite", desc := "()Lcom/example/idem/idem/Effect;", sig := { parameters := [], returnType := some (.object "com/example/idem/idem/Effect") }, accessFlags := 1, code := some k6c1 }
/-- com/example/idem/idem/Effect -/
def k6 : Class := { plain "com/example/idem/idem/Effect" (some 5) with
  accessFlags := 16433
  interfaces := #[]
  cf := some (fileOf pool6 1 #[] #[{ accessFlags := 1, nameIndex := 35, descriptorIndex := 117, attributes := #[] }, { accessFlags := 1, nameIndex := 119, descriptorIndex := 120, attributes := #[] }] 16433 20 #[] #[{ accessFlags := 16409, nameIndex := 5, descriptorIndex := 6, attributes := #[] }, { accessFlags := 16409, nameIndex := 9, descriptorIndex := 6, attributes := #[] }, { accessFlags := 18, nameIndex := 31, descriptorIndex := 32, attributes := #[] }, { accessFlags := 18, nameIndex := 35, descriptorIndex := 36, attributes := #[] }, { accessFlags := 18, nameIndex := 39, descriptorIndex := 40, attributes := #[] }, { accessFlags := 4122, nameIndex := 12, descriptorIndex := 13, attributes := #[] }])
  fields := #[{ name := "PERMIT", type := (.object "com/example/idem/idem/Effect"), accessFlags := 16409, slot := 0, constantValue := 0 }, { name := "DENY", type := (.object "com/example/idem/idem/Effect"), accessFlags := 16409, slot := 1, constantValue := 0 }, { name := "xmlValue", type := (.object "java/lang/String"), accessFlags := 18, slot := 3, constantValue := 0 }, { name := "result", type := (.object "com/example/idem/idem/Result"), accessFlags := 18, slot := 4, constantValue := 0 }, { name := "indeterminate", type := (.object "com/example/idem/idem/Decision"), accessFlags := 18, slot := 5, constantValue := 0 }, { name := "$VALUES", type := (.array (.object "com/example/idem/idem/Effect")), accessFlags := 4122, slot := 2, constantValue := 0 }]
  methods := #[k6m0, k6m1]
  instanceTypes := #[(.object "java/lang/String"), .int, .int, (.object "java/lang/String"), (.object "com/example/idem/idem/Result"), (.object "com/example/idem/idem/Decision")]
  staticTypes := #[(.object "com/example/idem/idem/Effect"), (.object "com/example/idem/idem/Effect"), (.array (.object "com/example/idem/idem/Effect"))]
  resolved := Array.replicate 126 none
  statics := some 0 }

def pool7 : Array CpInfo := pool [(2, .class_ 4), (1, u "java/lang/Object"), (0, u "<init>"), (0, u "()V"), (0, .class_ 8), (0, u "java/lang/Record")] 13

def k7m0 : Method := { name := "<init>", desc := "()V", sig := { parameters := [], returnType := none }, accessFlags := 4, code := none }
/-- java/lang/Record -/
def k7 : Class := { plain "java/lang/Record" (some 0) with
  accessFlags := 1057
  interfaces := #[]
  cf := some (fileOf pool7 7 #[] #[{ accessFlags := 4, nameIndex := 5, descriptorIndex := 6, attributes := #[] }] 1057 2 #[] #[])
  fields := #[]
  methods := #[k7m0]
  instanceTypes := #[]
  staticTypes := #[]
  resolved := Array.replicate 22 none
  statics := none }

def pool8 : Array CpInfo := pool [(2, .class_ 4), (1, u "java/lang/Record"), (3, u "decision"), (7, u "status"), (11, u "Lcom/example/idem/idem/StatusCode;"), (23, u "PERMIT"), (0, u "Lcom/example/idem/idem/Decision;"), (2, u "DENY"), (6, .fieldref 64 65), (0, .class_ 66), (0, .nameAndType 8 53), (0, u "com/example/idem/idem/Result"), (4, u "obligations"), (0, u "Ljava/util/List;"), (2, u "advice"), (33, u "Lcom/example/idem/idem/Result;"), (4, u "NOT_APPLICABLE"), (15, u "()Lcom/example/idem/idem/Decision;")] 36

def k8c0 : Code := { maxStack := 1, maxLocals := 1, code := prog_82_method_7_code, exceptionTable := #[], attributes := #[] }
def k8m0 : Method := { name := "decision", desc := "()Lcom/example/idem/idem/Decision;", sig := { parameters := [], returnType := some (.object "com/example/idem/idem/Decision") }, accessFlags := 1, code := some k8c0 }
/-- com/example/idem/idem/Result -/
def k8 : Class := { plain "com/example/idem/idem/Result" (some 7) with
  accessFlags := 49
  interfaces := #[]
  cf := some (fileOf pool8 64 #[] #[{ accessFlags := 1, nameIndex := 8, descriptorIndex := 130, attributes := #[] }] 49 2 #[] #[{ accessFlags := 18, nameIndex := 8, descriptorIndex := 53, attributes := #[] }, { accessFlags := 18, nameIndex := 16, descriptorIndex := 28, attributes := #[] }, { accessFlags := 18, nameIndex := 71, descriptorIndex := 72, attributes := #[] }, { accessFlags := 18, nameIndex := 75, descriptorIndex := 72, attributes := #[] }, { accessFlags := 25, nameIndex := 52, descriptorIndex := 109, attributes := #[] }, { accessFlags := 25, nameIndex := 56, descriptorIndex := 109, attributes := #[] }, { accessFlags := 25, nameIndex := 114, descriptorIndex := 109, attributes := #[] }])
  fields := #[{ name := "decision", type := (.object "com/example/idem/idem/Decision"), accessFlags := 18, slot := 0, constantValue := 0 }, { name := "status", type := (.object "com/example/idem/idem/StatusCode"), accessFlags := 18, slot := 1, constantValue := 0 }, { name := "obligations", type := (.object "java/util/List"), accessFlags := 18, slot := 2, constantValue := 0 }, { name := "advice", type := (.object "java/util/List"), accessFlags := 18, slot := 3, constantValue := 0 }, { name := "PERMIT", type := (.object "com/example/idem/idem/Result"), accessFlags := 25, slot := 0, constantValue := 0 }, { name := "DENY", type := (.object "com/example/idem/idem/Result"), accessFlags := 25, slot := 1, constantValue := 0 }, { name := "NOT_APPLICABLE", type := (.object "com/example/idem/idem/Result"), accessFlags := 25, slot := 2, constantValue := 0 }]
  methods := #[k8m0]
  instanceTypes := #[(.object "com/example/idem/idem/Decision"), (.object "com/example/idem/idem/StatusCode"), (.object "java/util/List"), (.object "java/util/List")]
  staticTypes := #[(.object "com/example/idem/idem/Result"), (.object "com/example/idem/idem/Result"), (.object "com/example/idem/idem/Result")]
  resolved := Array.replicate 167 none
  statics := none }

def pool9 : Array CpInfo := pool [(1, .class_ 2), (0, u "com/example/idem/idem/Decision"), (2, u "PERMIT"), (0, u "Lcom/example/idem/idem/Decision;"), (2, u "DENY"), (2, u "NOT_APPLICABLE"), (2, u "INDETERMINATE_D"), (2, u "INDETERMINATE_P"), (2, u "INDETERMINATE_DP"), (2, u "$VALUES"), (0, u "[Lcom/example/idem/idem/Decision;"), (6, .class_ 34), (1, u "java/lang/Enum"), (13, u "responseValue"), (0, u "Ljava/lang/String;")] 33

/-- com/example/idem/idem/Decision -/
def k9 : Class := { plain "com/example/idem/idem/Decision" (some 5) with
  accessFlags := 16433
  interfaces := #[]
  cf := some (fileOf pool9 1 #[] #[] 16433 32 #[] #[{ accessFlags := 16409, nameIndex := 5, descriptorIndex := 6, attributes := #[] }, { accessFlags := 16409, nameIndex := 9, descriptorIndex := 6, attributes := #[] }, { accessFlags := 16409, nameIndex := 12, descriptorIndex := 6, attributes := #[] }, { accessFlags := 16409, nameIndex := 15, descriptorIndex := 6, attributes := #[] }, { accessFlags := 16409, nameIndex := 18, descriptorIndex := 6, attributes := #[] }, { accessFlags := 16409, nameIndex := 21, descriptorIndex := 6, attributes := #[] }, { accessFlags := 18, nameIndex := 48, descriptorIndex := 49, attributes := #[] }, { accessFlags := 4122, nameIndex := 24, descriptorIndex := 25, attributes := #[] }])
  fields := #[{ name := "PERMIT", type := (.object "com/example/idem/idem/Decision"), accessFlags := 16409, slot := 0, constantValue := 0 }, { name := "DENY", type := (.object "com/example/idem/idem/Decision"), accessFlags := 16409, slot := 1, constantValue := 0 }, { name := "NOT_APPLICABLE", type := (.object "com/example/idem/idem/Decision"), accessFlags := 16409, slot := 2, constantValue := 0 }, { name := "INDETERMINATE_D", type := (.object "com/example/idem/idem/Decision"), accessFlags := 16409, slot := 3, constantValue := 0 }, { name := "INDETERMINATE_P", type := (.object "com/example/idem/idem/Decision"), accessFlags := 16409, slot := 4, constantValue := 0 }, { name := "INDETERMINATE_DP", type := (.object "com/example/idem/idem/Decision"), accessFlags := 16409, slot := 5, constantValue := 0 }, { name := "responseValue", type := (.object "java/lang/String"), accessFlags := 18, slot := 3, constantValue := 0 }, { name := "$VALUES", type := (.array (.object "com/example/idem/idem/Decision")), accessFlags := 4122, slot := 6, constantValue := 0 }]
  methods := #[]
  instanceTypes := #[(.object "java/lang/String"), .int, .int, (.object "java/lang/String")]
  staticTypes := #[(.object "com/example/idem/idem/Decision"), (.object "com/example/idem/idem/Decision"), (.object "com/example/idem/idem/Decision"), (.object "com/example/idem/idem/Decision"), (.object "com/example/idem/idem/Decision"), (.object "com/example/idem/idem/Decision"), (.array (.object "com/example/idem/idem/Decision"))]
  resolved := Array.replicate 83 none
  statics := some 1 }

def pool10 : Array CpInfo := pool [(1, u "java/lang/Cloneable"), (0, .class_ 1), (0, u "java/lang/Object"), (0, .class_ 3)] 3

/-- java/lang/Cloneable -/
def k10 : Class := { plain "java/lang/Cloneable" (some 0) with
  accessFlags := 1537
  interfaces := #[]
  cf := some (fileOf pool10 2 #[] #[] 1537 4 #[] #[])
  fields := #[]
  methods := #[]
  instanceTypes := #[]
  staticTypes := #[]
  resolved := Array.replicate 8 none
  statics := none }

/-- the primitive byte -/
def k11 : Class := { plain "byte" none with kind := .primitive 'B', accessFlags := 0x411 }
/-- [B -/
def k12 : Class := { plain "[B" (some 0) with kind := .array 11 .byte, interfaces := #[10, 4], accessFlags := 1041 }

def heap : Heap := #[{ cls := 6, slots := #[.ref 6, .ref 7, .null], vm := .statics 6 },
  { cls := 9, slots := #[.ref 2, .ref 3, .null, .null, .null, .null, .null], vm := .statics 9 },
  { cls := 9, slots := #[.null, .int 0, .int 0, .null], vm := .none },
  { cls := 9, slots := #[.null, .int 1, .int 0, .null], vm := .none },
  { cls := 8, slots := #[.ref 2, .null, .null, .null], vm := .none },
  { cls := 8, slots := #[.ref 3, .null, .null, .null], vm := .none },
  { cls := 6, slots := #[.null, .int 0, .int 0, .null, .ref 4, .null], vm := .none },
  { cls := 6, slots := #[.null, .int 1, .int 0, .null, .ref 5, .null], vm := .none }]
def classes : Array Class := #[k0, k1, k2, k3, k4, k5, k6, k7, k8, k9, k10, k11, k12]
def interned : List (Array UInt16 × Addr) := []
def slotsUsed : Nat := 38
def theMethod : MethodId := ⟨1, 1⟩
def args0 : Array Value := #[.int 7]
def aboutOver (below : List Frame) : State where
  vm := { classes := classes, interned := interned.toArray }
  heap := heap
  slotsUsed := slotsUsed
  threads := #[{ frames := .invoking theMethod args0 :: below }]
def below0 : List Frame := [.native { method := ⟨0, 0⟩, args := #[] }]
def about1 : State := aboutOver below0
def p0 : Program := .bare "" "" ""
def e0 : Env := launch0.env 0 0 0
theorem w_frames : about1.frames = Frame.invoking theMethod args0 :: below0 := rfl
set_option maxRecDepth 65536 in
theorem w_args : argsFit about1.vm theMethod args0 = true := by decide +kernel
set_option maxRecDepth 65536 in
theorem w_heap : heapFits about1 = true := by decide +kernel
set_option maxRecDepth 65536 in
theorem w_runnable : about1.curStatus? = some .runnable := by decide +kernel
set_option maxRecDepth 65536 in
theorem w_alone : about1.alone = true := by decide +kernel
set_option maxRecDepth 65536 in
theorem w_named : about1.methodNamed? x = some theMethod := by decide +kernel
set_option maxRecDepth 65536 in
theorem w_hears : about1.hears theMethod below0 = true := by decide +kernel
set_option maxRecDepth 65536 in
theorem w_ripe : about1.ripe theMethod args0 below0 = true := by decide +kernel
theorem w_running : about1.status = .running := rfl
set_option maxRecDepth 65536 in
theorem w_room : about1.hasRoom e0.platform room_1 = true :=
  launch0.hasRoom_least _ room_1 (by decide +kernel) (by decide +kernel) (by decide +kernel) (by decide +kernel) (by decide +kernel) (by decide +kernel)
theorem allAtoms_all (ts : List Jvm.Cond) (a : Array Jvm.Value) (st : Jvm.State) : (allAtoms ts).before a st = ts.all (fun c => c.before a st) := by
  induction ts with
  | nil => rfl
  | cons c t ih =>
    show (Jvm.Cond.and c (allAtoms t)).before a st = _
    rw [Jvm.Cond.before_and, ih, List.all_cons]
def words1 : List Jvm.Cond := Jvm.Cond.code x code maxLocals ret :: tables_1
/-- a 'code' word, met by the world's own term for the bytes: nothing is compared byte by byte -/
theorem code_word {y : MethodName} {bytes : ByteArray} {mx : Nat} {rt : Option FieldType} {a : Array Value} {s : State} {m : MethodId} {meth : Method} {c : Code} (h1 : s.methodNamed? y = some m) (h2 : s.vm.method? m = some meth) (h3 : meth.code = some c) (h4 : c.code = bytes)
    (h5 : (c.maxLocals == mx && c.exceptionTable.isEmpty && decide (c.maxStack ≤ mostOperands) && decide (meth.sig.returnType = rt) && !meth.locks && decide (parseMethodDescriptor y.desc = some meth.sig)) = true) : (Jvm.Cond.code y bytes mx rt).before a s = true := by
  simp only [Bool.and_eq_true, beq_iff_eq, Bool.not_eq_true', decide_eq_true_eq] at h5
  obtain ⟨⟨⟨⟨⟨g1, g2⟩, g3⟩, g4⟩, g5⟩, g6⟩ := h5
  simp [Cond.before, Cond.holds, Cond.value, h1, h2, h3, h4, g1, g2, g3, g4, g5, g6]
def isCode : Jvm.Cond → Bool
  | .code _ _ _ _ => true
  | _ => false
theorem all_split {L : List Jvm.Cond} {P : Jvm.Cond → Bool} (h1 : L.all (fun c => isCode c || P c) = true) (h2 : ∀ c ∈ L.filter isCode, P c = true) : L.all P = true := by
  refine List.all_eq_true.mpr fun c hc => ?_
  have h := List.all_eq_true.mp h1 c hc
  rcases Bool.eq_false_or_eq_true (isCode c) with hi | hi
  · exact h2 c (List.mem_filter.mpr ⟨hc, hi⟩)
  · simpa [hi] using h
set_option maxRecDepth 65536 in
theorem w_c0 : (Jvm.Cond.code x code maxLocals ret).before args0 about1 = true := code_word (m := ⟨1, 1⟩) (meth := k1m1) (c := k1c1) (by decide +kernel) rfl rfl rfl (by decide +kernel)
set_option maxRecDepth 65536 in
theorem w_c1 : (Jvm.Cond.code ({ cls := "com/example/idem/idem/Effect", name := "opposite", desc := "()Lcom/example/idem/idem/Effect;" } : Jvm.MethodName) prog_35_method_9_code (1 : Nat) (Option.some (Jvm.ClassFile.FieldType.object "com/example/idem/idem/Effect"))).before args0 about1 = true := code_word (m := ⟨6, 1⟩) (meth := k6m1) (c := k6c1) (by decide +kernel) rfl rfl rfl (by decide +kernel)
set_option maxRecDepth 65536 in
theorem w_c2 : (Jvm.Cond.code ({ cls := "com/example/idem/idem/Effect", name := "result", desc := "()Lcom/example/idem/idem/Result;" } : Jvm.MethodName) prog_35_method_6_code (1 : Nat) (Option.some (Jvm.ClassFile.FieldType.object "com/example/idem/idem/Result"))).before args0 about1 = true := code_word (m := ⟨6, 0⟩) (meth := k6m0) (c := k6c0) (by decide +kernel) rfl rfl rfl (by decide +kernel)
set_option maxRecDepth 65536 in
theorem w_c3 : (Jvm.Cond.code ({ cls := "com/example/idem/idem/Result", name := "decision", desc := "()Lcom/example/idem/idem/Decision;" } : Jvm.MethodName) prog_82_method_7_code (1 : Nat) (Option.some (Jvm.ClassFile.FieldType.object "com/example/idem/idem/Decision"))).before args0 about1 = true := code_word (m := ⟨8, 0⟩) (meth := k8m0) (c := k8c0) (by decide +kernel) rfl rfl rfl (by decide +kernel)
def codes1 : List Jvm.Cond := [Jvm.Cond.code x code maxLocals ret, Jvm.Cond.code ({ cls := "com/example/idem/idem/Effect", name := "opposite", desc := "()Lcom/example/idem/idem/Effect;" } : Jvm.MethodName) prog_35_method_9_code (1 : Nat) (Option.some (Jvm.ClassFile.FieldType.object "com/example/idem/idem/Effect")), Jvm.Cond.code ({ cls := "com/example/idem/idem/Effect", name := "result", desc := "()Lcom/example/idem/idem/Result;" } : Jvm.MethodName) prog_35_method_6_code (1 : Nat) (Option.some (Jvm.ClassFile.FieldType.object "com/example/idem/idem/Result")), Jvm.Cond.code ({ cls := "com/example/idem/idem/Result", name := "decision", desc := "()Lcom/example/idem/idem/Decision;" } : Jvm.MethodName) prog_82_method_7_code (1 : Nat) (Option.some (Jvm.ClassFile.FieldType.object "com/example/idem/idem/Decision"))]
set_option maxRecDepth 65536 in
theorem codes_eq : words1.filter isCode = codes1 := rfl
theorem w_codes : ∀ c ∈ words1.filter isCode, c.before args0 about1 = true := by
  rw [codes_eq]
  intro c hc
  simp only [codes1, List.mem_cons, List.not_mem_nil, or_false] at hc
  rcases hc with rfl | rfl | rfl | rfl
  · exact w_c0
  · exact w_c1
  · exact w_c2
  · exact w_c3
set_option maxRecDepth 65536 in
theorem w_t1 : (words1.take 24).all (fun c => isCode c || c.before args0 about1) = true := by decide +kernel
set_option maxRecDepth 65536 in
theorem w_t2 : (words1.drop 24).all (fun c => isCode c || c.before args0 about1) = true := by decide +kernel
theorem w_tables : (allAtoms (Jvm.Cond.code x code maxLocals ret :: tables_1)).before args0 about1 = true := by
  rw [allAtoms_all]
  show words1.all (fun c => c.before args0 about1) = true
  refine all_split ?_ w_codes
  rw [← List.take_append_drop 24 words1, List.all_append, w_t1, w_t2]
  rfl
set_option maxRecDepth 65536 in
theorem w_case : (Jvm.Cond.and given_1 narrow_1).before args0 about1 = true := by decide +kernel
theorem w_applies : (headSpec (Jvm.Cond.code x code maxLocals ret :: tables_1) room_1).applies x e0.platform about1 = true :=
  (Spec.applies_iff w_frames).mpr ⟨w_running, w_runnable, w_alone, w_named, w_hears, w_ripe, w_room, w_tables⟩
theorem atStart : AtStart classFile x code maxLocals ret World_1 tables_1 room_1 Calls_1 rest_1 Pre_1 launch0 p0 e0 about1 theMethod args0 below0 :=
  ⟨lists_1, trivial, launch0.admits_env _ _ _, launch0.least_env, fairChoices_fair.cas, fairChoices_fair.clock, w_frames, w_args, w_heap, w_applies, trivial, trivial, w_case⟩
end start1
theorem witness_1 : WitnessClaimed_1 := ⟨start1.p0, start1.e0, start1.about1, start1.theMethod, start1.args0, start1.below0, start1.atStart⟩
end Jvm.Pilot.@@N@@
